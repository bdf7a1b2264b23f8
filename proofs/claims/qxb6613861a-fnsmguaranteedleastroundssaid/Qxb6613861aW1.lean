/-
  THE WALKS: zzComplete, zzHas, zzLinked, slices.Index, slices.Contains.
-/
import Derived.Test.Qxb6613861aMem
namespace Go.Proofs.Qxb6613861a
open Go.RowKit Go.Deep

/-- 'every pair is linked', as zzComplete reckons it for a slice that is not nil. -/
def fullB (n : Nat) (L : Nat → Nat) : Bool := ((lsum L n : Int) == 0) || ((lsum L n : Int) == (n : Int) * ((n : Int) - 1))

theorem prod_le {n : Nat} (h : n ≤ 256) : 0 ≤ (n : Int) * ((n : Int) - 1) ∧ (n : Int) * ((n : Int) - 1) ≤ 65536 := by
  rcases Nat.eq_zero_or_pos n with e | e
  · subst e; simp
  · have h1 : (0 : Int) ≤ (n : Int) - 1 := by omega
    refine ⟨Int.mul_nonneg (by omega) h1, ?_⟩
    have := Int.mul_le_mul (a := (n : Int)) (b := (n : Int) - 1) (c := 256) (d := 256) (by omega) (by omega) h1 (by omega)
    omega

theorem eql_nil22 (w : World) (a : Option Addr) (n c : Nat) : (binOp .eql 22 (.slice a n c) (.slice none 0 0)).run Try.prog w = .ok (.bool a.isNone) w :=
  Lib.run_eql_slice_nil w 22 23 a n c 0 0 Try.underlying22
theorem eql_map30 (w : World) (m : Option Nat) : (binOp .eql 30 (.map m) (.map none)).run Try.prog w = .ok (.bool m.isNone) w := by
  simp only [binOp]
  simp [run_equal_map_nil w 30 3 23 m Try.underlying30]
theorem neq_nil23 (w : World) (a : Option Addr) (n c : Nat) : (binOp .neq 23 (.slice a n c) (.slice none 0 0)).run Try.prog w = .ok (.bool (!a.isNone)) w :=
  run_neq_slice_nil w 23 3 a n c Try.underlying23
attribute [local go_sem] eql_nil22

set_option maxHeartbeats 400000 in
theorem complete_nil (n : Int) (w : World) : Calls Try.prog 9 #[.int .i64 n, .slice none 0 0] w fun e w' => e = .returned (.bool true) ∧ w' = w := by
  go_enter Try.func9, Try.ntmps9
  go_wp2_with fail
  go_ret
  exact ⟨rfl, rfl⟩

set_option maxHeartbeats 400000 in
theorem complete_any (a : Addr) (len cap : Nat) (A : Nat → Option Addr) (L C : Nat → Nat) (Z : Nat → List Int) (w : World) (hL : Lines w (some a) len A L C Z) (hn : len ≤ 256) (hl : ∀ r, r < len → L r ≤ 256) :
    Calls Try.prog 9 #[.int .i64 len, .slice (some a) len cap] w fun e w' => e = .returned (.bool (fullB len L)) ∧ w' = w := by
  have hp := prod_le hn
  obtain ⟨hp0, hp1⟩ := hp
  have hs := lsum_le hl (Nat.le_refl _)
  cases h0 : ((lsum L len : Int) == 0) with
  | true =>
    have HF : Hid (fullB len L = true) := (show fullB len L = true by simp [fullB, h0])
    go_enter Try.func9, Try.ntmps9
    go_wp2_with (go_at_call 17; refine (linkSum_any _ _ _ A L C Z _ hL hn hl).mono ?_; rintro e w' ⟨rfl, rfl⟩)
    go_ret
    exact ⟨ret_bool HF.out.symm, rfl⟩
  | false =>
    have HF : Hid (fullB len L = ((lsum L len : Int) == (len : Int) * ((len : Int) - 1))) := (show fullB len L = _ by simp only [fullB, h0, Bool.false_or])
    go_enter Try.func9, Try.ntmps9
    go_wp2_with (go_at_call 17; refine (linkSum_any _ _ _ A L C Z _ hL hn hl).mono ?_; rintro e w' ⟨rfl, rfl⟩)
    go_ret
    exact ⟨ret_bool HF.out.symm, rfl⟩

/-! ### zzHas: by halving -/
/-- Strictly increasing. -/
def Srt (zs : List Int) : Prop := ∀ i j, i < j → j < zs.length → za zs i < za zs j

def hasB (zs : List Int) (x : Int) : Bool := decide (x ∈ zs)

theorem za_mem {zs : List Int} {i : Nat} (h : i < zs.length) : za zs i ∈ zs := by
  unfold za
  rw [List.getD_eq_getElem?_getD, List.getElem?_eq_getElem h]
  exact List.getElem_mem h

theorem mem_za {zs : List Int} {x : Int} (h : x ∈ zs) : ∃ i, i < zs.length ∧ za zs i = x := by
  obtain ⟨i, hi, e⟩ := List.getElem_of_mem h
  refine ⟨i, hi, ?_⟩
  unfold za
  rw [List.getD_eq_getElem?_getD, List.getElem?_eq_getElem hi]
  exact e

theorem has_at {zs : List Int} {x : Int} {k : Nat} (hl : ∀ i, i < k → za zs i < x) (hr : ∀ i, k ≤ i → i < zs.length → x ≤ za zs i) (hs : Srt zs) (hk : k < zs.length) : hasB zs x = (za zs k == x) := by
  unfold hasB
  rw [Bool.eq_iff_iff]
  simp only [decide_eq_true_eq, beq_iff_eq]
  constructor
  · intro hm
    obtain ⟨i, hi, e⟩ := mem_za hm
    have h1 : ¬ i < k := fun h => by have := hl i h; omega
    by_cases h2 : i = k
    · rw [← h2]; exact e
    · have := hs k i (by omega) hi
      have := hr k (Nat.le_refl _) hk
      omega
  · intro e
    rw [← e]
    exact za_mem hk

theorem has_out {zs : List Int} {x : Int} {k : Nat} (hl : ∀ i, i < k → za zs i < x) (hk : zs.length ≤ k) : hasB zs x = false := by
  unfold hasB
  rw [decide_eq_false_iff_not]
  intro hm
  obtain ⟨i, hi, e⟩ := mem_za hm
  have := hl i (by omega)
  omega

/-- What the halving knows of lo and hi. -/
structure Half (zs : List Int) (x : Int) (lo hi : Nat) : Prop where
  le : lo ≤ hi ∧ hi ≤ zs.length
  left : ∀ i, i < lo → za zs i < x
  right : ∀ i, hi ≤ i → i < zs.length → x ≤ za zs i

theorem half_up {zs : List Int} {x : Int} {lo hi : Nat} (hs : Srt zs) (h : Half zs x lo hi) (hlt : lo < hi) (hm : za zs (lo + (hi - lo) / 2) < x) : Half zs x (lo + (hi - lo) / 2 + 1) hi := by
  have hle := h.le
  refine ⟨by omega, fun i hi' => ?_, h.right⟩
  by_cases e : i = lo + (hi - lo) / 2
  · rw [e]; exact hm
  · have := hs i (lo + (hi - lo) / 2) (by omega) (by omega)
    omega

theorem half_down {zs : List Int} {x : Int} {lo hi : Nat} (hs : Srt zs) (h : Half zs x lo hi) (hlt : lo < hi) (hm : ¬ za zs (lo + (hi - lo) / 2) < x) : Half zs x lo (lo + (hi - lo) / 2) := by
  have hle := h.le
  refine ⟨by omega, h.left, fun i h1 h2 => ?_⟩
  by_cases e : i = lo + (hi - lo) / 2
  · rw [e]; omega
  · have := hs (lo + (hi - lo) / 2) i (by omega) h2
    omega

set_option maxHeartbeats 400000 in
theorem has_any (ao : Option Addr) (len cap : Nat) (zs : List Int) (x : Int) (w : World) (hI : Ints w ao len zs) (hs : Srt zs) :
    Calls Try.prog 16 #[.slice ao len cap, .int .i64 x] w fun e w' => e = .returned (.bool (hasB zs x)) ∧ w' = w := by
  have htop := hI.top
  have HZ : Hid (zs.length = len) := hI.size
  go_enter Try.func16, Try.ntmps16
  go_wp2
  go_loop [5, 6] (fun l h => ∃ lo hi : Nat, l = .int .i64 lo ∧ h = .int .i64 hi ∧ lo ≤ hi ∧ hi ≤ len ∧ Half zs x lo hi) (fun l h => (intOf h).toNat - (intOf l).toNat)
  case atStart => exact ⟨0, len, rfl, rfl, Nat.zero_le _, Nat.le_refl _, ⟨by rw [HZ.out]; omega, fun i hi => absurd hi (Nat.not_lt_zero _), fun i h1 h2 => by rw [HZ.out] at h2; omega⟩⟩
  case round =>
    obtain ⟨lo, hi, rfl, rfl, hlh, hhl, hH⟩ := hrel
    by_cases hlt : lo < hi
    · obtain ⟨b, o, rfl, hc⟩ := hI.at' (lo + (hi - lo) / 2) (by omega)
      clear hI
      go_wp2
      · have hm : za zs (lo + (hi - lo) / 2) < x := by assumption
        have hn := half_up hs hH hlt hm
        go_round
        case rel => exact ⟨lo + (hi - lo) / 2 + 1, hi, by go_num, rfl, by omega, hhl, hn⟩
        case measure => simp [intOf]; omega
      · have hm : ¬ za zs (lo + (hi - lo) / 2) < x := by omega
        have hn := half_down hs hH hlt hm
        go_round
        case rel => exact ⟨lo, lo + (hi - lo) / 2, rfl, by go_num, by omega, by omega, hn⟩
        case measure => simp [intOf]; omega
    · have e : lo = hi := by omega
      subst e
      by_cases hll : lo < len
      · obtain ⟨b, o, rfl, hc⟩ := hI.at' lo hll
        have HF : Hid (hasB zs x = (za zs lo == x)) := has_at hH.left hH.right hs (by rw [HZ.out]; exact hll)
        clear hI
        go_wp2
        go_ret
        exact ⟨ret_bool HF.out.symm, rfl⟩
      · have HF : Hid (hasB zs x = false) := has_out hH.left (by rw [HZ.out]; omega)
        clear hI
        go_wp2
        go_ret
        exact ⟨ret_bool HF.out.symm, rfl⟩

/-! ### zzLinked -/
/-- Are a and b linked? -/
def lnkB (full : Bool) (Z : Nat → List Int) (a b : Nat) : Bool := !(a == b) && (full || hasB (Z a) b)

set_option maxHeartbeats 400000 in
theorem linked_full (ao : Option Addr) (len cap : Nat) (Z : Nat → List Int) (a b : Nat) (w : World) :
    Calls Try.prog 19 #[.bool true, .slice ao len cap, .int .i64 a, .int .i64 b] w fun e w' => e = .returned (.bool (lnkB true Z a b)) ∧ w' = w := by
  cases hab : ((a : Int) == (b : Int)) with
  | true =>
    have HF : Hid (lnkB true Z a b = false) := (show lnkB true Z a b = false by
      have : a = b := by have := beq_iff_eq.1 hab; omega
      simp [lnkB, this])
    go_enter Try.func19, Try.ntmps19
    go_wp2_with fail
    go_ret
    exact ⟨ret_bool HF.out.symm, rfl⟩
  | false =>
    have HF : Hid (lnkB true Z a b = true) := (show lnkB true Z a b = true by
      have : a ≠ b := by have := beq_eq_false_iff_ne.1 hab; omega
      simp [lnkB, this])
    go_enter Try.func19, Try.ntmps19
    go_wp2_with fail
    go_ret
    exact ⟨ret_bool HF.out.symm, rfl⟩

set_option maxHeartbeats 400000 in
theorem linked_part (ao : Option Addr) (len cap : Nat) (A : Nat → Option Addr) (L C : Nat → Nat) (Z : Nat → List Int) (a b : Nat) (w : World) (hL : Lines w ao len A L C Z) (ha : a < len) (hs : Srt (Z a)) :
    Calls Try.prog 19 #[.bool false, .slice ao len cap, .int .i64 a, .int .i64 b] w fun e w' => e = .returned (.bool (lnkB false Z a b)) ∧ w' = w := by
  cases hab : ((a : Int) == (b : Int)) with
  | true =>
    have HF : Hid (lnkB false Z a b = false) := (show lnkB false Z a b = false by
      have : a = b := by have := beq_iff_eq.1 hab; omega
      simp [lnkB, this])
    go_enter Try.func19, Try.ntmps19
    go_wp2_with fail
    go_ret
    exact ⟨ret_bool HF.out.symm, rfl⟩
  | false =>
    have HF : Hid (lnkB false Z a b = hasB (Z a) b) := (show lnkB false Z a b = _ by
      have : a ≠ b := by have := beq_eq_false_iff_ne.1 hab; omega
      simp [lnkB, this])
    obtain ⟨ba, oa, rfl, hc⟩ := hL.at' a ha
    have hI := hL.row a ha
    clear hL
    go_enter Try.func19, Try.ntmps19
    go_wp2_with (go_at_call 16; refine (has_any _ _ _ (Z a) _ _ hI hs).mono ?_; rintro e w' ⟨rfl, rfl⟩)
    go_ret
    exact ⟨ret_bool HF.out.symm, rfl⟩

/-! ### slices.Index, slices.Contains -/
set_option maxHeartbeats 400000 in
theorem index_any (ao : Option Addr) (len cap : Nat) (zs : List Int) (x : Int) (w : World) (hI : Ints w ao len zs) :
    Calls Try.prog 22 #[.slice ao len cap, .int .i64 x] w fun e w' => (∃ r : Int, e = .returned (.int .i64 r) ∧ hasB zs x = decide (0 ≤ r)) ∧ w' = w := by
  have htop := hI.top
  have HZ : Hid (zs.length = len) := hI.size
  go_enter Try.func22, Try.ntmps22
  go_wp2
  go_loop [5, 8] (fun _ i => ∃ k : Nat, i = .int .i64 k ∧ k ≤ len ∧ ∀ j, j < k → ¬ x = za zs j) (fun _ i => len - (intOf i).toNat)
  case atStart => exact ⟨0, rfl, Nat.zero_le _, fun j hj => absurd hj (Nat.not_lt_zero _)⟩
  case round =>
    obtain ⟨k, rfl, hk, hno⟩ := hrel
    have HN : Hid (∀ j, j < k → ¬ x = za zs j) := hno
    clear hno
    by_cases hlt : k < len
    · obtain ⟨b, o, rfl, hc⟩ := hI.at' k hlt
      clear hI
      cases he : (x == za zs k) with
      | true =>
        have HF : Hid (hasB zs x = true) := (show hasB zs x = true by
          rw [beq_iff_eq.1 he]
          simp only [hasB, decide_eq_true_eq]
          exact za_mem (by rw [HZ.out]; exact hlt))
        go_wp2
        go_ret
        exact ⟨⟨k, rfl, by rw [HF.out]; simp⟩, rfl⟩
      | false =>
        have HX : Hid (¬ x = za zs k) := beq_eq_false_iff_ne.1 he
        go_wp2
        go_round
        case rel => exact ⟨k + 1, by go_num, by omega, fun j hj => by
          by_cases e : j = k
          · rw [e]; exact HX.out
          · exact HN.out j (by omega)⟩
        case measure => simp [intOf]; omega
    · clear hI
      have HF : Hid (hasB zs x = false) := (show hasB zs x = false by
        unfold hasB
        rw [decide_eq_false_iff_not]
        intro hm
        obtain ⟨i, hi, e⟩ := mem_za hm
        exact HN.out i (by rw [HZ.out] at hi; omega) e.symm)
      go_wp2
      go_ret
      exact ⟨⟨-1, rfl, by rw [HF.out]; simp⟩, rfl⟩

set_option maxHeartbeats 400000 in
theorem contains_any (ao : Option Addr) (len cap : Nat) (zs : List Int) (x : Int) (w : World) (hI : Ints w ao len zs) :
    Calls Try.prog 21 #[.slice ao len cap, .int .i64 x] w fun e w' => e = .returned (.bool (hasB zs x)) ∧ w' = w := by
  go_enter Try.func21, Try.ntmps21
  go_wp2_with fail
  refine (index_any _ _ _ zs _ _ hI).mono ?_
  rintro e w' ⟨⟨r, rfl, hr⟩, rfl⟩
  have HR : Hid (hasB zs x = decide (0 ≤ r)) := hr
  clear hr hI
  go_wp2_with fail
  go_ret
  exact ⟨ret_bool HR.out.symm, rfl⟩

end Go.Proofs.Qxb6613861a
