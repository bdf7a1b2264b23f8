/-
  THE WALK: smGuaranteed, ZZsmGuaranteed.
-/
import Derived.Test.Qxb6613861aCn
import Derived.Test.Qxb6613861aNb
import Derived.Deep.RegionHeld3
namespace Go.Proofs.Qxb6613861a
open Go.RowKit Go.Deep

/-- The call ends in a bool that is true just when P holds. -/
def Okiff (P : Prop) (e : Ending) : Prop := ∃ b : Bool, e = .returned (.bool b) ∧ (b = true ↔ P)

/-- connects, as smGuaranteed meets it. -/
def ConnAt (P : Prop) (w : World) (gv tv : Value) (d : Int) : Prop :=
  ∀ W, Below w.heap.size w W → Calls Try.prog 20 #[gv, tv, .int .i64 d] W fun e W' => Okiff P e ∧ Below W.heap.size W W'

set_option maxRecDepth 100000 in
set_option maxHeartbeats 1000000 in
theorem sm_any (P : Prop) (bg n : Nat) (m r : Int) (mv : Option Nat) (ao : Option Addr) (tl tc : Nat) (w : World) (hm0 : 0 ≤ m) (hm1 : m ≤ 9223372036854775807) (hr0 : -1 ≤ r) (hr1 : r ≤ 9223372036854775807)
    (hg : Grp w bg n m r mv) (hc : ConnAt P w (.pointer (some ⟨bg, 0, none⟩)) (.slice ao tl tc) (r - m)) :
    Calls Try.prog 18 #[.pointer (some ⟨bg, 0, none⟩), .slice ao tl tc] w fun e w' => Okiff ((tl : Int) ≤ m ∧ P) e ∧ Below w.heap.size w w' := by
  obtain ⟨g0, g1, g2, g4⟩ := hg
  have hlt : bg < w.heap.size := World.block_lt_of_cell? _ _ g0
  have HW : Hid (IntKind.i64.wrap (r - m) = r - m) := (show IntKind.i64.wrap (r - m) = r - m by rw [IntWalk.i64_left]; exact IntWalk.wrap64_in _ (by omega))
  clear hm1 hr1 hr0
  by_cases hle : (tl : Int) ≤ m
  · go_enter Try.func18, Try.ntmps18
    go_wp2_with fail
    go_region_held3 (fun w' => w'.cell? ⟨bg, 1, none⟩ = some (.int .i64 m) ∧ w'.cell? ⟨bg, 4, none⟩ = some (.int .i64 r)) (go_keep)
      ((go_at_call 20; rw [HW.out]; refine (hc _ ?_).mono ?_; (first | exact Below.refl _ _ | exact (Below.refl _ _).drew); rintro e w' ⟨⟨b, rfl, hb⟩, hbel⟩; have c1 : w'.cell? ⟨bg, 1, none⟩ = some (.int .i64 m) := by { rw [hbel.cell hlt]; exact g1 }; have c4 : w'.cell? ⟨bg, 4, none⟩ = some (.int .i64 r) := by { rw [hbel.cell hlt]; exact g4 }))
    go_wp2_with fail
    go_ret
    refine ⟨⟨b, rfl, ?_⟩, ((Below.refl _ _).drew).trans hbel⟩
    rw [hb]
    exact ⟨fun h => ⟨hle, h⟩, fun h => h.2⟩
  · have hd : decide ((tl : Int) ≤ m) = false := by simpa using hle
    go_enter Try.func18, Try.ntmps18
    go_wp2_with fail
    go_quiet (fail)
    go_wp2_with fail
    go_ret
    exact ⟨⟨false, rfl, ⟨fun h => (by cases h), fun h => absurd h.1 (by omega)⟩⟩, by repeat (first | exact Below.refl _ _ | apply Below.drew | apply below_drewN)⟩

set_option maxHeartbeats 400000 in
theorem zsm_any (P : Prop) (bg n : Nat) (m r : Int) (mv : Option Nat) (ao : Option Addr) (tl tc : Nat) (w : World) (hm0 : 0 ≤ m) (hm1 : m ≤ 9223372036854775807) (hr0 : -1 ≤ r) (hr1 : r ≤ 9223372036854775807)
    (hg : Grp w bg n m r mv) (hc : ConnAt P w (.pointer (some ⟨bg, 0, none⟩)) (.slice ao tl tc) (r - m)) :
    Calls Try.prog 12 #[.pointer (some ⟨bg, 0, none⟩), .slice ao tl tc] w fun e w' => Okiff ((tl : Int) ≤ m ∧ P) e ∧ Below w.heap.size w w' := by
  have h18 := sm_any P bg n m r mv ao tl tc w hm0 hm1 hr0 hr1 hg hc
  have H : Hid (Calls Try.prog 18 #[.pointer (some ⟨bg, 0, none⟩), .slice ao tl tc] w fun e w' => Okiff ((tl : Int) ≤ m ∧ P) e ∧ Below w.heap.size w w') := h18
  clear h18 hg hc
  go_enter Try.func12, Try.ntmps12
  go_wp2_with fail
  refine H.out.mono ?_
  rintro e w' ⟨⟨b, rfl, hb⟩, hbel⟩
  have HB : Hid (b = true ↔ ((tl : Int) ≤ m ∧ P)) := hb
  clear hb
  go_wp2_with fail
  go_ret
  exact ⟨⟨b, rfl, HB.out⟩, hbel⟩

end Go.Proofs.Qxb6613861a
