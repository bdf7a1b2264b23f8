/-
  THE ARGUMENTS, OPENED: a slice of slices of ints, a slice of ints.
-/
import Derived.Test.Qxb6613861aAdj
import Derived.ProofKit
import Derived.OpenShut
import Derived.ShutString
import Derived.ChangeOld
import Derived.Deep.Matrix
namespace Go.Proofs.Qxb6613861a
open Go.ChangeShapes Go.WideShapes Go.ChangeAt Go.RowKit Go.Deep

theorem za_take {zs : List Int} {i n : Nat} (h : i < n) : za (zs.take n) i = zs.getD i 0 := by
  unfold za
  rw [List.getD_eq_getElem?_getD, List.getD_eq_getElem?_getD, List.getElem?_take_of_lt h]

theorem plain_of {w : World} {a : Addr} {v : Value} (h : w.cell? (a.add 0) = some v) : ∃ b o, a = ⟨b, o, none⟩ := by
  obtain ⟨b, o, spot⟩ := a
  have hs : spot = none := by simpa [Addr.add] using World.cell?_spot h
  exact ⟨b, o, by rw [hs]⟩

theorem ints_of {W : World} {ao : Option Addr} {len cap : Nat} {zs : List Int} (hl : len ≤ cap) (hm : cap ≤ maxLen) (hz : zs.length = cap) (hn : ao = none → cap = 0)
    (hc : ∀ a, ao = some a → ∀ c, c < cap → W.cell? (a.add c) = some (.int .i64 (zs.getD c 0))) : Ints W ao len (zs.take len) := by
  refine ⟨by rw [List.length_take]; omega, by unfold maxLen at hm; omega, fun i hi => ?_⟩
  cases hao : ao with
  | none => have := hn hao; omega
  | some a =>
    obtain ⟨b, o, rfl⟩ := plain_of (hc a hao 0 (by omega))
    refine ⟨b, o, rfl, ?_⟩
    have := hc _ hao i (by omega)
    rw [add_plain] at this
    rw [this, za_take hi]

theorem ints_arg {H : Type} {enc : TypeId × Value → H} {W : World} {base fuel : Nat} {sp : Nat → Bool} {held : Bool} {a0 : Option Addr} {len0 cap0 : Nat} {x : DataW H × List MemPlace} (hsp : ∀ b, sp b = true)
    (hf : DataW.trod enc Try.prog W base sp held fuel 23 (Value.cells (.slice a0 len0 cap0)).toList = some x) : ∃ ts, Ints W a0 len0 ts ∧ (a0 = none → len0 = 0 ∧ cap0 = 0) := by
  rcases open_ints Try.underlying23 Try.underlying3 (by kernel_rfl) hf with ⟨hcs, _⟩ | ⟨a, l, c, zs, hcs, _, hl, hm, hz, _, hcell, _⟩
  · simp [Value.cells] at hcs
    obtain ⟨rfl, rfl, rfl⟩ := hcs
    exact ⟨[], ⟨rfl, by omega, fun i hi => absurd hi (Nat.not_lt_zero _)⟩, fun _ => ⟨rfl, rfl⟩⟩
  · simp [Value.cells] at hcs
    obtain ⟨rfl, rfl, rfl⟩ := hcs
    rw [if_pos (hsp _)] at hz
    exact ⟨_, ints_of hl hm hz (fun h => by cases h) (fun a' ha c hc => by cases ha; exact hcell c (by omega)), fun h => by cases h⟩

theorem lines_arg {H : Type} {enc : TypeId × Value → H} {W : World} {base fuel : Nat} {held : Bool} {a0 : Option Addr} {len0 cap0 : Nat} {x : DataW H × List MemPlace}
    (hf : DataW.trod enc Try.prog W base (fun _ => true) held fuel 22 (Value.cells (.slice a0 len0 cap0)).toList = some x) : ∃ A L C Z, Lines W a0 len0 A L C Z ∧ (a0 = none → len0 = 0 ∧ cap0 = 0) := by
  rcases open_int_rows Try.underlying22 Try.underlying23 Try.underlying3 (by kernel_rfl) (by kernel_rfl) hf with ⟨hcs, _⟩ | ⟨a, len, cap, A, L, C, Z, hcs, _, hl, hm, _, hrows⟩
  · simp [Value.cells] at hcs
    obtain ⟨rfl, rfl, rfl⟩ := hcs
    exact ⟨fun _ => none, fun _ => 0, fun _ => 0, fun _ => [], ⟨fun r hr => absurd hr (Nat.not_lt_zero _), fun r hr => absurd hr (Nat.not_lt_zero _)⟩, fun _ => ⟨rfl, rfl⟩⟩
  · simp [Value.cells] at hcs
    obtain ⟨rfl, rfl, rfl⟩ := hcs
    refine ⟨A, L, C, fun r => (Z r).take (L r), ⟨fun r hr => ?_, fun r hr => ?_⟩, fun h => by cases h⟩
    · obtain ⟨b, o, rfl⟩ := plain_of (hrows 0 (by omega)).1
      refine ⟨b, o, rfl, ?_⟩
      have := (hrows r (by omega)).1
      rw [add_plain] at this
      exact this
    · obtain ⟨_, h1, h2, h3, _, h4, h5⟩ := hrows r (by omega)
      exact ints_of h1 h2 h3 h4 (fun a' ha c hc => (h5 a' ha).2 c hc)

end Go.Proofs.Qxb6613861a
