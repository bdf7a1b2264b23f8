/-
  THE WALKS: zzEqualConcat, zzEqualStrings: where they are to say yes; the sizes.
-/
import Derived.Test.Qxb6614064aZZ
import Derived.BigRegion
namespace Go.Proofs.Qxb6614064a
open Go.RowKit Go.Shelf

theorem sa_left {xs ys : List ByteArray} {k : Nat} (h : k < xs.length) : sa (xs ++ ys) k = sa xs k := by
  unfold sa
  rw [List.getD_eq_getElem?_getD, List.getD_eq_getElem?_getD, List.getElem?_append_left h]
theorem sa_right {xs ys : List ByteArray} {k : Nat} : sa (xs ++ ys) (xs.length + k) = sa ys k := by
  unfold sa
  rw [List.getD_eq_getElem?_getD, List.getD_eq_getElem?_getD, List.getElem?_append_right (by omega), show xs.length + k - xs.length = k from by omega]

set_option maxHeartbeats 1000000 in
theorem concat_any (ag ax ay : Option Addr) (lg lx ly cg cx cy : Nat) (xs ys : List ByteArray) (w : World) (hg : Strs w ag lg (xs ++ ys)) (hx : Strs w ax lx xs) (hy : Strs w ay ly ys) (hl : lg ≤ 4194304) :
    Calls Try.prog 9 #[.slice ag lg cg, .slice ax lx cx, .slice ay ly cy] w fun e w' => e = .returned (.bool true) ∧ ∃ n, w' = w.drewN n := by
  have e0 : lg = lx + ly := by rw [← hg.size, ← hx.size, ← hy.size, List.length_append]
  have hX : Hid (xs.length = lx) := hx.size
  have hne : ((lg : Int) != (lx : Int) + (ly : Int)) = false := by rw [bne_eq_false_iff_eq]; omega
  have E0 : Hid (lg = lx + ly) := e0
  have hlx : lx ≤ 4194304 := by omega
  have hly : ly ≤ 4194304 := by omega
  have hsum : (lx : Int) + (ly : Int) = (lg : Int) := by omega
  clear e0 hsum
  go_enter Try.func9, Try.ntmps9
  go_wp2
  go_loopw [7] (fun i wr => ∃ k n : Nat, k ≤ lx ∧ i = .int .i64 k ∧ wr = w.drewN n) (fun i _ => lx - (intOf i).toNat)
  case atStart => exact ⟨0, 0, Nat.zero_le _, rfl, rfl⟩
  case round =>
    obtain ⟨k, n, hk, rfl, rfl⟩ := hrel
    by_cases hlt : k < lx
    · obtain ⟨b1, o1, rfl, h1⟩ := hg.at' k (by rw [E0.out]; omega)
      obtain ⟨b2, o2, rfl, h2⟩ := hx.at' k hlt
      rw [sa_left (by rw [hX.out]; exact hlt)] at h1
      generalize sa xs k = t at h1 h2
      have i1 : (k : Int) < (lg : Int) := by have := E0.out; omega
      have i2 : (k : Int) < (lx : Int) := by omega
      clear hg hx hy
      go_wp2_with fail
      go_quiet (fail)
      go_wp2_with fail
      go_roundw
      case rel => exact ⟨k + 1, _, by omega, by go_num, rfl⟩
      case measure => simp [intOf]; omega
    · go_wp2_with fail
      go_loopw [8] (fun i wr => ∃ k n : Nat, k ≤ ly ∧ i = .int .i64 k ∧ wr = w.drewN n) (fun i _ => ly - (intOf i).toNat)
      case atStart => exact ⟨0, n, Nat.zero_le _, rfl, rfl⟩
      case round =>
        obtain ⟨j, n, hj, rfl, rfl⟩ := hrel
        by_cases hltj : j < ly
        · obtain ⟨b1, o1, rfl, h1⟩ := hg.at' (lx + j) (by rw [E0.out]; omega)
          obtain ⟨b2, o2, rfl, h2⟩ := hy.at' j hltj
          rw [← hX.out, sa_right, hX.out] at h1
          generalize sa ys j = t at h1 h2
          obtain ⟨q, HQ, hq⟩ : ∃ q : Nat, Hid (q = lx + j) ∧ (lx : Int) + (j : Int) = (q : Int) := ⟨lx + j, (rfl : lx + j = lx + j), by simp⟩
          rw [← HQ.out] at h1
          have i1 : (q : Int) < (lg : Int) := by have := E0.out; have := HQ.out; omega
          have i2 : (j : Int) < (ly : Int) := by omega
          clear hg hx hy
          go_wp2_with fail
          go_quiet (fail)
          go_wp2_with fail
          go_roundw
          case rel => exact ⟨j + 1, _, by omega, by go_num, rfl⟩
          case measure => simp [intOf]; omega
        · go_wp2_with fail
          go_ret
          exact ⟨rfl, _, rfl⟩

set_option maxHeartbeats 1000000 in
theorem equal_any (ag ax : Option Addr) (lg lx cg cx : Nat) (xs : List ByteArray) (w : World) (hg : Strs w ag lg xs) (hx : Strs w ax lx xs) (hl : lg ≤ 4194304) :
    Calls Try.prog 12 #[.slice ag lg cg, .slice ax lx cx] w fun e w' => e = .returned (.bool true) ∧ ∃ n, w' = w.drewN n := by
  have e0 : lx = lg := by rw [← hg.size, ← hx.size]
  subst e0
  go_enter Try.func12, Try.ntmps12
  go_wp2
  go_loopw [5] (fun i wr => ∃ k n : Nat, k ≤ lx ∧ i = .int .i64 k ∧ wr = w.drewN n) (fun i _ => lx - (intOf i).toNat)
  case atStart => exact ⟨0, 0, Nat.zero_le _, rfl, rfl⟩
  case round =>
    obtain ⟨k, n, hk, rfl, rfl⟩ := hrel
    by_cases hlt : k < lx
    · obtain ⟨b1, o1, rfl, h1⟩ := hg.at' k hlt
      obtain ⟨b2, o2, rfl, h2⟩ := hx.at' k hlt
      generalize sa xs k = t at h1 h2
      have i2 : (k : Int) < (lx : Int) := by omega
      clear hg hx
      go_wp2_with fail
      go_quiet (fail)
      go_wp2_with fail
      go_roundw
      case rel => exact ⟨k + 1, _, by omega, by go_num, rfl⟩
      case measure => simp [intOf]; omega
    · go_wp2_with fail
      go_ret
      exact ⟨rfl, _, rfl⟩

/-- The call ends in a bool, whichever. -/
def IsBool (e : Ending) : Prop := ∃ b, e = .returned (.bool b)

set_option maxHeartbeats 400000 in
theorem bytes5_any (a b : ByteArray) (w : World) : Calls Try.prog 5 #[.string a, .string b] w fun e w' => IsBool e ∧ w' = w := by
  go_enter Try.func5, Try.ntmps5
  go_wp2
  all_goals
    go_ret
    exact ⟨⟨_, rfl⟩, rfl⟩

set_option maxHeartbeats 400000 in
theorem bytes10_any (a b : ByteArray) (w : World) : Calls Try.prog 10 #[.string a, .string b] w fun e w' => IsBool e ∧ w' = w := by
  go_enter Try.func10, Try.ntmps10
  go_wp2
  all_goals
    go_ret
    exact ⟨⟨_, rfl⟩, rfl⟩

end Go.Proofs.Qxb6614064a
