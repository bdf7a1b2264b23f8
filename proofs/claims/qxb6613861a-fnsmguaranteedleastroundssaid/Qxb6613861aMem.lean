/-
  HOW THE ARGUMENTS LIE IN MEMORY: slices of numbers, slices of such slices; what stays when the world grows.
-/
import Derived.Test.Qxb6613861aRows
import Derived.Test.Qxb6613861aPlain2
import Derived.WalkKit
import Derived.WalkSpells
import Derived.WalkLawsBesides
import Derived.Deep.OwnRows
namespace Go.Proofs.Qxb6613861a
open Go.RowKit Go.Deep

/-- The i-th number. -/
def za (zs : List Int) (i : Nat) : Int := zs.getD i 0

/-- The slice at 'ao' of length 'len' holds the numbers zs. -/
structure Ints (w : World) (ao : Option Addr) (len : Nat) (zs : List Int) : Prop where
  size : zs.length = len
  top : len ≤ 9223372036854775807
  at' : ∀ i, i < len → ∃ b o, ao = some ⟨b, o, none⟩ ∧ w.cell? ⟨b, o + i, none⟩ = some (.int .i64 (za zs i))

theorem Ints.opened {w : World} {ao : Option Addr} {len : Nat} {zs : List Int} (h : Ints w ao len zs) (hp : 0 < len) :
    ∃ b o, ao = some ⟨b, o, none⟩ ∧ b < w.heap.size ∧ ∀ i, i < len → w.cell? ⟨b, o + i, none⟩ = some (.int .i64 (za zs i)) := by
  obtain ⟨b, o, e, hc⟩ := h.at' 0 hp
  refine ⟨b, o, e, World.block_lt_of_cell? _ _ hc, fun i hi => ?_⟩
  obtain ⟨b', o', e', hc'⟩ := h.at' i hi
  rw [e] at e'
  cases e'
  exact hc'

theorem Ints.below {w w' : World} {ao : Option Addr} {len : Nat} {zs : List Int} {B : Nat} (h : Ints w ao len zs) (hb : Below B w w') (hB : w.heap.size ≤ B) : Ints w' ao len zs := by
  refine ⟨h.size, h.top, fun i hi => ?_⟩
  obtain ⟨b, o, e, hc⟩ := h.at' i hi
  have hlt := World.block_lt_of_cell? _ _ hc
  exact ⟨b, o, e, by rw [hb.cell (show b < B from Nat.lt_of_lt_of_le hlt hB)]; exact hc⟩

/-- The slice at 'ao' of n slices: the r-th is '.slice (A r) (L r) (C r)' and holds the numbers 'Z r'. -/
structure Lines (w : World) (ao : Option Addr) (n : Nat) (A : Nat → Option Addr) (L C : Nat → Nat) (Z : Nat → List Int) : Prop where
  at' : ∀ r, r < n → ∃ b o, ao = some ⟨b, o, none⟩ ∧ w.cell? ⟨b, o + r, none⟩ = some (.slice (A r) (L r) (C r))
  row : ∀ r, r < n → Ints w (A r) (L r) (Z r)

theorem Lines.opened {w : World} {ao : Option Addr} {n : Nat} {A : Nat → Option Addr} {L C : Nat → Nat} {Z : Nat → List Int} (h : Lines w ao n A L C Z) (hp : 0 < n) :
    ∃ b o, ao = some ⟨b, o, none⟩ ∧ b < w.heap.size ∧ ∀ i, i < n → w.cell? ⟨b, o + i, none⟩ = some (.slice (A i) (L i) (C i)) := by
  obtain ⟨b, o, e, hc⟩ := h.at' 0 hp
  refine ⟨b, o, e, World.block_lt_of_cell? _ _ hc, fun i hi => ?_⟩
  obtain ⟨b', o', e', hc'⟩ := h.at' i hi
  rw [e] at e'
  cases e'
  exact hc'

theorem Lines.below {w w' : World} {ao : Option Addr} {n : Nat} {A : Nat → Option Addr} {L C : Nat → Nat} {Z : Nat → List Int} {B : Nat} (h : Lines w ao n A L C Z) (hb : Below B w w') (hB : w.heap.size ≤ B) :
    Lines w' ao n A L C Z := by
  refine ⟨fun i hi => ?_, fun r hr => (h.row r hr).below hb hB⟩
  obtain ⟨b, o, e, hc⟩ := h.at' i hi
  have hlt := World.block_lt_of_cell? _ _ hc
  exact ⟨b, o, e, by rw [hb.cell (show b < B from Nat.lt_of_lt_of_le hlt hB)]; exact hc⟩

theorem ret_int {k : IntKind} {a b : Int} (h : a = b) : Ending.returned (.int k a) = .returned (.int k b) := by rw [h]
theorem ret_bool {a b : Bool} (h : a = b) : Ending.returned (.bool a) = .returned (.bool b) := by rw [h]

/-- The call ends in a bool, whichever. -/
def IsBool (e : Ending) : Prop := ∃ b, e = .returned (.bool b)
/-- The call ends in an int, whichever. -/
def IsInt (e : Ending) : Prop := ∃ b, e = .returned (.int .i64 b)

/-! ### The lengths: zzBytes, zzNestedBytes, zzLinkSum -/
set_option maxHeartbeats 400000 in
theorem bytes5_any (n m r : Int) (ao bo : Option Addr) (len cap tl tc : Nat) (A : Nat → Option Addr) (L C : Nat → Nat) (Z : Nat → List Int) (w : World) (hL : Lines w ao len A L C Z) :
    Calls Try.prog 5 #[.int .i64 n, .int .i64 m, .int .i64 r, .slice ao len cap, .slice bo tl tc] w fun e w' => IsBool e ∧ w' = w := by
  go_enter Try.func5, Try.ntmps5
  go_wp2
  · go_ret
    exact ⟨⟨_, rfl⟩, rfl⟩
  · go_loop [11, 12] (fun s i => ∃ k : Nat, k ≤ len ∧ i = .int .i64 k ∧ ∃ t : Nat, t ≤ 1048576 ∧ s = .int .i64 t) (fun _ i => len - (intOf i).toNat)
    case atStart => exact ⟨0, Nat.zero_le _, rfl, len, by omega, rfl⟩
    case round =>
      obtain ⟨k, hk, rfl, t, ht, rfl⟩ := hrel
      by_cases hlt : k < len
      · obtain ⟨b, o, rfl, hc⟩ := hL.at' k hlt
        clear hL
        go_wp2
        · go_ret
          exact ⟨⟨_, rfl⟩, rfl⟩
        · go_ret
          exact ⟨⟨_, rfl⟩, rfl⟩
        · go_round
          case rel => exact ⟨k + 1, by omega, by go_num, t + L k, by omega, by go_num⟩
          case measure => simp [intOf]; omega
      · clear hL
        go_wp2
        all_goals (go_ret; exact ⟨⟨_, rfl⟩, rfl⟩)

set_option maxHeartbeats 400000 in
theorem bytes14_any (n m : Int) (ao bo : Option Addr) (len cap tl tc : Nat) (A : Nat → Option Addr) (L C : Nat → Nat) (Z : Nat → List Int) (w : World) (hL : Lines w ao len A L C Z) :
    Calls Try.prog 14 #[.int .i64 n, .int .i64 m, .slice ao len cap, .slice bo tl tc] w fun e w' => IsBool e ∧ w' = w := by
  go_enter Try.func14, Try.ntmps14
  go_wp2
  · go_ret
    exact ⟨⟨_, rfl⟩, rfl⟩
  · go_loop [9, 10] (fun s i => ∃ k : Nat, k ≤ len ∧ i = .int .i64 k ∧ ∃ t : Nat, t ≤ 1048576 ∧ s = .int .i64 t) (fun _ i => len - (intOf i).toNat)
    case atStart => exact ⟨0, Nat.zero_le _, rfl, len, by omega, rfl⟩
    case round =>
      obtain ⟨k, hk, rfl, t, ht, rfl⟩ := hrel
      by_cases hlt : k < len
      · obtain ⟨b, o, rfl, hc⟩ := hL.at' k hlt
        clear hL
        go_wp2
        · go_ret
          exact ⟨⟨_, rfl⟩, rfl⟩
        · go_ret
          exact ⟨⟨_, rfl⟩, rfl⟩
        · go_round
          case rel => exact ⟨k + 1, by omega, by go_num, t + L k, by omega, by go_num⟩
          case measure => simp [intOf]; omega
      · clear hL
        go_wp2
        all_goals (go_ret; exact ⟨⟨_, rfl⟩, rfl⟩)

set_option maxHeartbeats 400000 in
theorem nested_any (ao : Option Addr) (len cap : Nat) (A : Nat → Option Addr) (L C : Nat → Nat) (Z : Nat → List Int) (w : World) (hL : Lines w ao len A L C Z) :
    Calls Try.prog 6 #[.slice ao len cap] w fun e w' => IsInt e ∧ w' = w := by
  go_enter Try.func6, Try.ntmps6
  go_wp2
  · go_ret
    exact ⟨⟨_, rfl⟩, rfl⟩
  · go_loop [3, 4] (fun s i => ∃ k : Nat, k ≤ len ∧ i = .int .i64 k ∧ ∃ t : Nat, t ≤ 1048576 ∧ s = .int .i64 t) (fun _ i => len - (intOf i).toNat)
    case atStart => exact ⟨0, Nat.zero_le _, rfl, len * 8, by omega, by go_num⟩
    case round =>
      obtain ⟨k, hk, rfl, t, ht, rfl⟩ := hrel
      by_cases hlt : k < len
      · obtain ⟨b, o, rfl, hc⟩ := hL.at' k hlt
        clear hL
        go_wp2
        · go_ret
          exact ⟨⟨_, rfl⟩, rfl⟩
        · go_ret
          exact ⟨⟨_, rfl⟩, rfl⟩
        · go_round
          case rel => exact ⟨k + 1, by omega, by go_num, t + L k * 8, by omega, by go_num⟩
          case measure => simp [intOf]; omega
      · clear hL
        go_wp2
        all_goals (go_ret; exact ⟨⟨_, rfl⟩, rfl⟩)

/-- The sum of the first n lengths. -/
def lsum (L : Nat → Nat) : Nat → Nat
  | 0 => 0
  | k + 1 => lsum L k + L k

theorem lsum_le {L : Nat → Nat} {n : Nat} (h : ∀ r, r < n → L r ≤ 256) {k : Nat} (hk : k ≤ n) : lsum L k ≤ 256 * k := by
  induction k with
  | zero => simp [lsum]
  | succ k ih =>
    have := ih (by omega)
    have := h k (by omega)
    simp only [lsum]
    omega

set_option maxHeartbeats 400000 in
theorem linkSum_any (ao : Option Addr) (len cap : Nat) (A : Nat → Option Addr) (L C : Nat → Nat) (Z : Nat → List Int) (w : World) (hL : Lines w ao len A L C Z) (hn : len ≤ 256) (hl : ∀ r, r < len → L r ≤ 256) :
    Calls Try.prog 17 #[.slice ao len cap] w fun e w' => e = .returned (.int .i64 (lsum L len)) ∧ w' = w := by
  go_enter Try.func17, Try.ntmps17
  go_wp2
  go_loop [3, 4] (fun s i => ∃ k : Nat, k ≤ len ∧ i = .int .i64 k ∧ s = .int .i64 (lsum L k)) (fun _ i => len - (intOf i).toNat)
  case atStart => exact ⟨0, Nat.zero_le _, rfl, rfl⟩
  case round =>
    obtain ⟨k, hk, rfl, rfl⟩ := hrel
    have hb := lsum_le hl hk
    by_cases hlt : k < len
    · obtain ⟨b, o, rfl, hc⟩ := hL.at' k hlt
      have hlk := hl k hlt
      clear hL hl
      go_wp2
      go_round
      case rel => exact ⟨k + 1, by omega, by go_num, by simp only [lsum]; go_num⟩
      case measure => simp [intOf]; omega
    · clear hL hl
      go_wp2
      go_ret
      exact ⟨ret_int (by rw [show len = k from by omega]), rfl⟩

end Go.Proofs.Qxb6613861a
