/-
  THE WALK: zzDistinctGenerals.
-/
import Derived.Test.Qxb6613861aW2
namespace Go.Proofs.Qxb6613861a
open Go.RowKit Go.Deep

theorem Try.info4 : (Try.prog.info? 4).map (fun i => (i.zero, i.size, i.bytes)) = some (some (.bool false), 1, 1) := by kernel_rfl
theorem Try.info3 : (Try.prog.info? 3).map (fun i => (i.zero, i.size, i.bytes)) = some (some (.int .i64 0), 1, 8) := by kernel_rfl

/-- The first k are generals, none twice. -/
structure DPre (n : Nat) (ts : List Int) (k : Nat) : Prop where
  rng : ∀ j, j < k → 0 ≤ za ts j ∧ za ts j < n
  one : ∀ i j, i < j → j < k → za ts i ≠ za ts j

/-- mk marks the first k. -/
def Marks (ts : List Int) (k : Nat) (mk : Nat → Bool) : Prop := ∀ x : Nat, mk x = true ↔ ∃ j, j < k ∧ za ts j = (x : Int)

theorem marks_zero (ts : List Int) : Marks ts 0 (fun _ => false) := fun x => ⟨fun h => (by cases h), fun ⟨_, h, _⟩ => absurd h (Nat.not_lt_zero _)⟩

theorem marks_succ {ts : List Int} {k x : Nat} {mk : Nat → Bool} (h : Marks ts k mk) (hx : za ts k = (x : Int)) : Marks ts (k + 1) (fun y => if y = x then true else mk y) := by
  intro y
  by_cases e : y = x
  · subst e
    simp only [if_true, true_iff]
    exact ⟨k, Nat.lt_succ_self _, hx⟩
  · simp only [e, if_false]
    rw [h y]
    constructor
    · rintro ⟨j, hj, hz⟩
      exact ⟨j, by omega, hz⟩
    · rintro ⟨j, hj, hz⟩
      refine ⟨j, ?_, hz⟩
      by_cases ej : j = k
      · subst ej; omega
      · omega

theorem dpre_succ {n : Nat} {ts : List Int} {k x : Nat} {mk : Nat → Bool} (h : DPre n ts k) (hm : Marks ts k mk) (hx : za ts k = (x : Int)) (hn : x < n) (hf : mk x = false) : DPre n ts (k + 1) := by
  refine ⟨fun j hj => ?_, fun i j hij hj => ?_⟩
  · by_cases e : j = k
    · subst e; omega
    · exact h.rng j (by omega)
  · by_cases e : j = k
    · subst e
      intro he
      have := (hm x).2 ⟨i, hij, by omega⟩
      rw [hf] at this
      cases this
    · exact h.one i j hij (by omega)

set_option maxHeartbeats 1000000 in
theorem distinct_any (n : Nat) (ao : Option Addr) (tl tc : Nat) (ts : List Int) (w : World) (hI : Ints w ao tl ts) (hn : n ≤ 256) :
    Calls Try.prog 8 #[.int .i64 n, .slice ao tl tc] w fun e w' => Okb (DPre n ts tl) e ∧ Below w.heap.size w w' := by
  have htop := hI.top
  have hmk := run_make_row' (P := Try.prog) 38 4 (.bool false) 1 Try.underlying38 Try.info4 rfl .i64 .i64 n (by omega) (by omega)
  go_enter Try.func8, Try.ntmps8
  go_wp2_with fail
  clear hmk
  go_loopw [6] (fun i wr => ∃ (k : Nat) (mk : Nat → Bool), k ≤ tl ∧ i = .int .i64 k ∧ wr.rowIs w.heap.size 4 n (fun x => .bool (mk x)) ∧ Below w.heap.size w wr ∧ Marks ts k mk ∧ DPre n ts k) (fun i _ => tl - (intOf i).toNat)
  case atStart => exact ⟨0, fun _ => false, Nat.zero_le _, rfl, World.rowIs_made w _ n 4, (Below.refl _ _).alloc (Nat.le_refl _) _, marks_zero ts, ⟨fun _ h => absurd h (Nat.not_lt_zero _), fun _ _ _ h => absurd h (Nat.not_lt_zero _)⟩⟩
  case round =>
    obtain ⟨k, mk, hk, rfl, hrow, hbel, hmk, hpre⟩ := hrel
    by_cases hlt : k < tl
    · obtain ⟨b, o, rfl, hc⟩ := hI.at' k hlt
      have hb := World.block_lt_of_cell? _ _ hc
      have hcr : wr.cell? ⟨b, o + k, none⟩ = some (.int .i64 (za ts k)) := by rw [hbel.cell hb]; exact hc
      clear hc
      by_cases h0 : 0 ≤ za ts k
      · by_cases h1 : za ts k < n
        · obtain ⟨x, hxe⟩ : ∃ x : Nat, za ts k = (x : Int) := ⟨(za ts k).toNat, by omega⟩
          have HX : Hid (za ts k = (x : Int)) := hxe
          rw [hxe] at hcr h0 h1
          have hxn : x < n := by omega
          clear hxe hI
          have hcm := hrow.cell hxn
          have hfm := hrow.frozen x
          cases hmx : mk x with
          | true =>
            rw [hmx] at hcm
            go_wp2_with fail
            go_ret
            exact ⟨⟨false, rfl, fun h => by cases h⟩, hbel⟩
          | false =>
            rw [hmx] at hcm
            go_wp2_with fail
            go_roundw
            case rel =>
              refine ⟨k + 1, fun y => if y = x then true else mk y, by omega, by go_num, (hrow.set x _).congr (fun y _ => ?_), hbel.setCell (Nat.le_refl _) _, marks_succ hmk HX.out, dpre_succ hpre hmk HX.out hxn hmx⟩
              by_cases e : y = x <;> simp [e]
            case measure => simp [intOf]; omega
        · go_wp2_with fail
          go_ret
          exact ⟨⟨false, rfl, fun h => by cases h⟩, hbel⟩
      · go_wp2_with fail
        go_ret
        exact ⟨⟨false, rfl, fun h => by cases h⟩, hbel⟩
    · go_wp2_with fail
      go_ret
      exact ⟨⟨true, rfl, fun _ => by rw [show tl = k from by omega]; exact hpre⟩, hbel⟩

end Go.Proofs.Qxb6613861a
