/-
  THE WALK: zzNeighbours (a map of copies), ZZnewGroup.
-/
import Derived.Test.Qxb6613861aCd
import Derived.Maps.Own
import Derived.Maps.OwnOps
import Derived.Maps.Views
import Derived.Laws.CopyOwn
namespace Go.Proofs.Qxb6613861a
open Go.RowKit Go.Deep Go.Maps

/-- An element of the map is kept as it is. -/
def hR (v : Value) : Option (DataW Value × List MemPlace) := some (.held v, [])

theorem law3 : Keyed Try.prog 3 := int_keyed Try.underlying3
theorem zero23 (w : World) : (zeroValue 23).run Try.prog w = .ok (.slice none 0 0) w := by kernel_rfl
theorem key3 (k : Nat) (h : k ≤ 65536) : keyOf Try.prog 3 (.int .i64 (k : Int)) = some (.int .i64 (k : Int)) := keyOf_int_mk Try.underlying3 (WalkArith.wf_i64 (by omega))

theorem ownsMap_block {w w' : World} {b n : Nat} {D : DataW Value} (h : w.ownsMap Try.prog 3 hR b n D) (e : w'.heap[b]? = w.heap[b]?) : w'.ownsMap Try.prog 3 hR b n D := by
  obtain ⟨es, clock, h1, h2, h3, h4⟩ := h
  exact ⟨es, clock, by rw [e]; exact h1, h2, h3, h4⟩

theorem ownsMap_isMap {w : World} {b n : Nat} {D : DataW Value} (h : w.ownsMap Try.prog 3 hR b n D) : IsMap D := by
  obtain ⟨es, clock, _, _, _, h4⟩ := h
  exact ⟨_, h4⟩

/-- A slice of numbers stays while the map is written. -/
theorem Ints.mapped {w w' : World} {ao : Option Addr} {len : Nat} {zs : List Int} {b n : Nat} {D : DataW Value} (h : Ints w ao len zs) (hm : w.ownsMap Try.prog 3 hR b n D) (hg : w.grownBy w' (some b)) : Ints w' ao len zs := by
  refine ⟨h.size, h.top, fun i hi => ?_⟩
  obtain ⟨c, o, e, hc⟩ := h.at' i hi
  have hlt := World.block_lt_of_cell? _ _ hc
  refine ⟨c, o, e, ?_⟩
  have hne : c ≠ b := by
    intro e
    subst e
    obtain ⟨es, clock, h1, _⟩ := hm
    simp [World.cell?, h1] at hc
  rw [World.cell?_of_block (a := ⟨c, o + i, none⟩) (hg.block c hlt (by simpa using hne))]
  exact hc

/-- What zzNeighbours has made after k generals. -/
structure NbSt (w wr : World) (k : Nat) (D : DataW Value) (NA : Nat → Option Addr) (NL : Nat → Nat) (Z : Nat → List Int) : Prop where
  own : wr.ownsMap Try.prog 3 hR w.heap.size k D
  bel : Below w.heap.size w wr
  at' : ∀ x : Nat, D.atKey (.int .i64 (x : Int)) (.held (.slice none 0 0)) = .held (.slice (NA x) (NL x) (NL x))
  new : ∀ x, k ≤ x → NA x = none ∧ NL x = 0
  row : ∀ x, x < k → Ints wr (NA x) (NL x) (Z x)

theorem nbSt_start (w : World) (Z : Nat → List Int) : NbSt w (w.alloc (.map #[] 0)) 0 (.map []) (fun _ => none) (fun _ => 0) Z :=
  ⟨World.ownsMap_made _ _ _ _, (Below.refl _ _).alloc (Nat.le_refl _) _, fun _ => rfl, fun _ _ => ⟨rfl, rfl⟩, fun _ h => absurd h (Nat.not_lt_zero _)⟩

theorem nbSt_skip {w wr : World} {k : Nat} {D : DataW Value} {NA : Nat → Option Addr} {NL : Nat → Nat} {Z : Nat → List Int} (h : NbSt w wr k D NA NL Z) (hz : (Z k).length = 0) : NbSt w wr (k + 1) D NA NL Z := by
  refine ⟨h.own.mono (Nat.le_succ _), h.bel, h.at', fun x hx => h.new x (by omega), fun x hx => ?_⟩
  by_cases e : x = k
  · subst e
    obtain ⟨h1, h2⟩ := h.new x (Nat.le_refl _)
    rw [h1, h2]
    exact ⟨hz, by omega, fun i hi => absurd hi (Nat.not_lt_zero _)⟩
  · exact h.row x (by omega)

theorem nbSt_add {w wr w2 w3 : World} {k lk : Nat} {D : DataW Value} {NA : Nat → Option Addr} {NL : Nat → Nat} {Z : Nat → List Int} (h : NbSt w wr k D NA NL Z) (hz : (Z k).length = lk) (hl : lk ≤ 256)
    (hrow : w2.heap[wr.heap.size]? = some (.cells ((Z k).map (Value.int .i64)).toArray 3)) (hb2 : Below wr.heap.size wr w2)
    (hown : w3.ownsMap Try.prog 3 hR w.heap.size (k + 1) (D.put (.int .i64 (k : Int)) (.held (.slice (some ⟨wr.heap.size, 0, none⟩) lk lk)))) (hg : w2.grownBy w3 (some w.heap.size)) :
    NbSt w w3 (k + 1) (D.put (.int .i64 (k : Int)) (.held (.slice (some ⟨wr.heap.size, 0, none⟩) lk lk))) (fun x => if x = k then some ⟨wr.heap.size, 0, none⟩ else NA x) (fun x => if x = k then lk else NL x) Z := by
  have hlt := h.own.lt
  have hs2 := hb2.size
  have hown2 : w2.ownsMap Try.prog 3 hR w.heap.size k D := ownsMap_block h.own (hb2.block _ hlt)
  have hlt2 : wr.heap.size < w2.heap.size := by
    have := Array.getElem?_eq_some_iff.1 hrow
    exact this.1
  refine ⟨hown, (h.bel.trans (hb2.mono (by omega))).grown hg (by omega) (fun j hj => by simp at hj; omega), fun x => ?_, fun x hx => ?_, fun x hx => ?_⟩
  · by_cases e : x = k
    · subst e
      rw [atKey_put_same (k := .int .i64 (x : Int)) (ownsMap_isMap h.own) (by simp [WideAt.IsKeyLit])]
      simp
    · rw [atKey_put_other (by simp; omega)]
      simp only [e, if_false]
      exact h.at' x
  · have e : x ≠ k := by omega
    simp only [e, if_false]
    exact h.new x (by omega)
  · by_cases e : x = k
    · subst e
      simp only [if_true]
      have hI : Ints w2 (some ⟨wr.heap.size, 0, none⟩) lk (Z x) := by
        refine ⟨hz, by omega, fun i hi => ⟨wr.heap.size, 0, rfl, ?_⟩⟩
        have hi' : i < (Z x).length := by omega
        simp [World.cell?, hrow, za, List.getD_eq_getElem?_getD, List.getElem?_eq_getElem hi']
      exact hI.mapped hown2 hg
    · simp only [e, if_false]
      exact ((h.row x (by omega)).below hb2 (Nat.le_refl _)).mapped hown2 hg

theorem splice_all {α : Type} (L cs : List α) (h : cs.length = L.length) : splice L 0 cs = cs := by
  simp [splice, h]

theorem made_heap (w : World) (n : Nat) : (w.alloc (.cells (madeCells #[.int .i64 0] n) 3)).heap[w.heap.size]? = some (.cells (madeCells #[.int .i64 0] n).toList.toArray 3) := by
  simpa using heap_alloc_new w (.cells (madeCells #[.int .i64 0] n) 3)

theorem nb_done {w wr W : World} {n : Nat} {D : DataW Value} {NA : Nat → Option Addr} {NL : Nat → Nat} {Z : Nat → List Int} (h : NbSt w wr n D NA NL Z) (hn : n ≤ 256) (hb : Below wr.heap.size wr W) :
    NbAt W n w.heap.size NA NL NL Z := by
  have hlt := h.own.lt
  refine ⟨fun x hx => (h.row x hx).below hb (Nat.le_refl _), fun x hx W' hW' => ?_⟩
  have hs := hb.size
  have hown : W'.ownsMap Try.prog 3 hR w.heap.size n D := ownsMap_block h.own ((hW'.block _ (by omega)).trans (hb.block _ hlt))
  obtain ⟨v, ps, hrun, hv⟩ := hown.lookup law3 Try.underlying30 (zero23 W') (zd := .held (.slice none 0 0)) (zp := []) rfl (key3 x (by omega))
  rw [h.at' x] at hv
  simp only [hR, Option.some.injEq, Prod.mk.injEq, DataW.held.injEq] at hv
  rw [hrun, hv.1]

set_option maxRecDepth 100000 in
set_option maxHeartbeats 2000000 in
theorem neighbours_part (a : Addr) (len cap : Nat) (A : Nat → Option Addr) (L C : Nat → Nat) (Z : Nat → List Int) (w : World) (hL : Lines w (some a) len A L C Z) (hn : len ≤ 256) (hl : ∀ r, r < len → L r ≤ 256) (hf : fullB len L = false) :
    Calls Try.prog 11 #[.int .i64 len, .slice (some a) len cap] w fun e w' => e = .returned (.map (some w.heap.size)) ∧ ∃ D NA NL, NbSt w w' len D NA NL Z := by
  have hmm := @run_makeMap Try.prog
  go_enter Try.func11, Try.ntmps11
  go_wp2_with (go_at_call 9; refine (complete_any _ _ _ A L C Z _ hL hn hl).mono ?_; rintro e w' ⟨rfl, hw⟩; have hw := hw.symm; subst hw)
  clear hmm
  go_loopw [6] (fun i wr => ∃ (k : Nat) (D : DataW Value) (NA : Nat → Option Addr) (NL : Nat → Nat), k ≤ len ∧ i = .int .i64 k ∧ NbSt w wr k D NA NL Z) (fun i _ => len - (intOf i).toNat)
  case atStart => exact ⟨0, _, _, _, Nat.zero_le _, rfl, nbSt_start w Z⟩
  case round =>
    obtain ⟨k, D, NA, NL, hk, rfl, hS⟩ := hrel
    by_cases hlt : k < len
    · obtain ⟨b, o, ha, ak, lk, ck, hc, hI, HLk, -⟩ := hL.get hlt
      obtain rfl : a = ⟨b, o, none⟩ := by simpa using ha
      have hlk : lk ≤ 256 := by rw [HLk.out]; exact hl k hlt
      have hcr : wr.cell? ⟨b, o + k, none⟩ = some (.slice ak lk ck) := by rw [hS.bel.cell (World.block_lt_of_cell? _ _ hc)]; exact hc
      have hIr := hI.below hS.bel (Nat.le_refl _)
      have HZ : Hid ((Z k).length = lk) := hI.size
      clear ha hc hI hL
      by_cases hpos : 0 < lk
      · obtain ⟨b', o', rfl, hb', hcs⟩ := hIr.opened hpos
        have hmk := run_make_row' (P := Try.prog) 23 3 (.int .i64 0) 8 Try.underlying23 Try.info3 rfl .i64 .i64 lk (by omega) (by omega)
        have hbl := World.block_lt_of_cell? _ _ hcr
        have hcr2 : ∀ ob, (wr.alloc ob).cell? ⟨b, o + k, none⟩ = some (.slice (some ⟨b', o', none⟩) lk ck) := fun ob => by
          rw [((Below.refl wr.heap.size wr).alloc (Nat.le_refl _) ob).cell hbl]; exact hcr
        have hlen : ((Z k).map (Value.int .i64)).length = lk := by rw [List.length_map]; exact HZ.out
        obtain ⟨cs, HCS⟩ : ∃ cs, Hid (cs = (Z k).map (Value.int .i64)) := ⟨_, (rfl : (Z k).map (Value.int .i64) = _)⟩
        have hsrc : ∀ (ob : Obj) (j : Nat) (v : Value), cs[j]? = some v → (wr.alloc ob).cell? (Addr.add ⟨b', o', none⟩ j) = some v := by
          intro ob j v hj
          rw [HCS.out, List.getElem?_map] at hj
          have hjl : j < lk := by
            rcases Nat.lt_or_ge j lk with h | h
            · exact h
            · rw [List.getElem?_eq_none (by rw [HZ.out]; exact h)] at hj; simp at hj
          rw [List.getElem?_eq_getElem (by rw [HZ.out]; exact hjl)] at hj
          simp only [Option.map_some, Option.some.injEq] at hj
          rw [← hj]
          have := hcs j hjl
          rw [za, List.getD_eq_getElem?_getD, List.getElem?_eq_getElem (by rw [HZ.out]; exact hjl), Option.getD_some] at this
          rw [WideShapes.add_plain, ((Below.refl wr.heap.size wr).alloc (Nat.le_refl _) ob).cell (by exact hb')]
          exact this
        have HSrc : Hid (∀ (ob : Obj) (j : Nat) (v : Value), cs[j]? = some v → (wr.alloc ob).cell? (Addr.add ⟨b', o', none⟩ j) = some v) := hsrc
        have HLen : Hid (cs.length = lk) := (show cs.length = lk by rw [HCS.out]; exact hlen)
        have HOne : Hid (∀ v ∈ cs, v.oneCell' = true) := (show ∀ v ∈ cs, v.oneCell' = true by rw [HCS.out]; exact ints_oneCell .i64 (Z k))
        clear hsrc hlen hcs hIr
        go_wp2_with (first
          | ((refine wpList_copy_splice rfl (.tmp 29) (.tmp 33) 23 23 rfl 3 Try.underlying23 (by kernel_rfl) _ _ _ _ _ _ rfl rfl wr.heap.size 0 (madeCells #[.int .i64 0] lk).toList 3 (made_heap wr lk) cs (by rw [HLen.out]; simp) (fun _ => ⟨rfl, _, rfl, HSrc.out _⟩) (by rw [HLen.out]; simp [size_madeCells]) HOne.out wr.heap.size wr ((Below.refl _ _).alloc (Nat.le_refl _) _) (Nat.le_refl _) ?_; intro w2 hrow2 hbel2))
          | (at_mapUpdate; go_must (refine wpList_mapUpdate_own _ rfl _ _ _ 30 rfl 3 23 law3 Try.underlying30 hR w.heap.size k D rfl (ownsMap_block hS.own (hbel2.block _ hS.own.lt)) (by unfold maxLen; omega) _ _ (.int .i64 (k : Int)) rfl rfl (key3 k (by omega)) _ [] rfl ?_; intro w3 hown3 hgrow3)))
        have hS' := nbSt_add hS HZ.out hlk (by rw [hrow2.out, splice_all _ _ (by rw [HLen.out]; simp [size_madeCells]), HCS.out]) hbel2 hown3 hgrow3
        go_roundw
        case rel => exact ⟨k + 1, _, _, _, by omega, by go_num, hS'⟩
        case measure => simp [intOf]; omega
      · have hS' := nbSt_skip hS (by rw [HZ.out]; omega)
        go_wp2_with fail
        go_roundw
        case rel => exact ⟨k + 1, D, NA, NL, by omega, by go_num, hS'⟩
        case measure => simp [intOf]; omega
    · go_wp2_with fail
      go_ret
      exact ⟨rfl, D, NA, NL, by rw [show len = k from by omega]; exact hS⟩

set_option maxHeartbeats 400000 in
theorem neighbours_nil (n : Int) (w : World) : Calls Try.prog 11 #[.int .i64 n, .slice none 0 0] w fun e w' => e = .returned (.map none) ∧ w' = w := by
  go_enter Try.func11, Try.ntmps11
  go_wp2_with (go_at_call 9; refine (complete_nil _ _).mono ?_; rintro e w' ⟨rfl, rfl⟩)
  go_ret
  exact ⟨rfl, rfl⟩

set_option maxHeartbeats 400000 in
theorem neighbours_full (a : Addr) (len cap : Nat) (A : Nat → Option Addr) (L C : Nat → Nat) (Z : Nat → List Int) (w : World) (hL : Lines w (some a) len A L C Z) (hn : len ≤ 256) (hl : ∀ r, r < len → L r ≤ 256) (hf : fullB len L = true) :
    Calls Try.prog 11 #[.int .i64 len, .slice (some a) len cap] w fun e w' => e = .returned (.map none) ∧ w' = w := by
  go_enter Try.func11, Try.ntmps11
  go_wp2_with (go_at_call 9; refine (complete_any _ _ _ A L C Z _ hL hn hl).mono ?_; rintro e w' ⟨rfl, rfl⟩)
  go_ret
  exact ⟨rfl, rfl⟩

/-- The group's cells. -/
structure Grp (w : World) (bg n : Nat) (m r : Int) (mv : Option Nat) : Prop where
  c0 : w.cell? ⟨bg, 0, none⟩ = some (.int .i64 n)
  c1 : w.cell? ⟨bg, 1, none⟩ = some (.int .i64 m)
  c2 : w.cell? ⟨bg, 2, none⟩ = some (.map mv)
  c4 : w.cell? ⟨bg, 4, none⟩ = some (.int .i64 r)

theorem Grp.below {w w' : World} {bg n : Nat} {m r : Int} {mv : Option Nat} {B : Nat} (h : Grp w bg n m r mv) (hb : Below B w w') (hB : w.heap.size ≤ B) : Grp w' bg n m r mv := by
  have hlt : bg < B := Nat.lt_of_lt_of_le (World.block_lt_of_cell? _ _ h.c0) hB
  exact ⟨by rw [hb.cell hlt]; exact h.c0, by rw [hb.cell hlt]; exact h.c1, by rw [hb.cell hlt]; exact h.c2, by rw [hb.cell hlt]; exact h.c4⟩

set_option maxHeartbeats 400000 in
theorem group_any (n : Nat) (m r : Int) (mv : Option Nat) (w : World) :
    Calls Try.prog 10 #[.int .i64 n, .int .i64 m, .int .i64 r, .map mv] w fun e w' => e = .returned (.pointer (some ⟨w.heap.size, 0, none⟩)) ∧ Below w.heap.size w w' ∧ Grp w' w.heap.size n m r mv := by
  go_enter Try.func10, Try.ntmps10
  go_wp2_with fail
  go_ret
  refine ⟨rfl, (Below.refl _ _).alloc (Nat.le_refl _) _, ?_⟩
  exact ⟨by simp, by simp, by simp, by simp⟩

end Go.Proofs.Qxb6613861a
