/-
  THE WALK: ZZeachExtension: the names and the values, as two slices of texts.
-/
import Derived.Test.Qxb6614064aEach
namespace Go.Proofs.Qxb6614064a
open Go.RowKit Go.Shelf

/-- The i-th text. -/
def sa (ss : List ByteArray) (i : Nat) : ByteArray := ss.getD i ⟨#[]⟩

/-- The slice at 'ao' of length 'len' holds the texts ss. -/
structure Strs (W : World) (ao : Option Addr) (len : Nat) (ss : List ByteArray) : Prop where
  size : ss.length = len
  at' : ∀ i, i < len → ∃ b o, ao = some ⟨b, o, none⟩ ∧ W.cell? ⟨b, o + i, none⟩ = some (.string (sa ss i))

theorem Strs.below {w w' : World} {ao : Option Addr} {len : Nat} {ss : List ByteArray} {B : Nat} (h : Strs w ao len ss) (hb : Below B w w') (hB : w.heap.size ≤ B) : Strs w' ao len ss := by
  refine ⟨h.size, fun i hi => ?_⟩
  obtain ⟨b, o, e, hc⟩ := h.at' i hi
  have hlt := World.block_lt_of_cell? _ _ hc
  exact ⟨b, o, e, by rw [hb.cell (show b < B from Nat.lt_of_lt_of_le hlt hB)]; exact hc⟩

theorem strs_of {W : World} {base : Nat} {v : Value} {ss : List ByteArray} (h : W.ownsRow base 9 1 v ss.length (ss.map Value.string)) : ∃ ao cap, v = .slice ao ss.length cap ∧ Strs W ao ss.length ss := by
  rcases h.2 with ⟨rfl, hn⟩ | ⟨g, cap, cur, rfl, hb, hgb, hle, hm, hs, ht⟩
  · exact ⟨none, 0, by rw [hn], rfl, fun i hi => by omega⟩
  · refine ⟨some ⟨g, 0, none⟩, cap, rfl, rfl, fun i hi => ⟨g, 0, rfl, ?_⟩⟩
    have := World.ownsRow.cellAt h i (by omega)
    rw [Nat.zero_add, this, List.getElem?_map, List.getElem?_eq_getElem hi]
    simp [sa, List.getD_eq_getElem?_getD, List.getElem?_eq_getElem hi]

/-- What ZZeachExtension hands back. -/
def ZZEnd (v : ByteArray) (e : Ending) (W : World) : Prop :=
  ∃ ao bo cap cap', e = .returned (.tuple #[.slice ao (Plain.firsts (wordsB v)).length cap, .slice bo (Plain.seconds (wordsB v)).length cap']) ∧
    Strs W ao (Plain.firsts (wordsB v)).length (Plain.firsts (wordsB v)) ∧ Strs W bo (Plain.seconds (wordsB v)).length (Plain.seconds (wordsB v))

theorem Kept.below {base Bn Bw n : Nat} {X W : World} (h : Kept base Bn Bw X W) (h0 : n ≤ base) (h1 : n ≤ Bn) (h2 : n ≤ Bw) : Below n X W :=
  ⟨h.os, h.tape, h.output, h.oth.size, fun k hk => h.blk k (by omega) (by omega) (by omega)⟩

theorem shape_of {W : World} {base : Nat} {v : Value} {n : Nat} {xs : List Value} (h : W.ownsRow base 9 1 v n xs) : ∃ ao cap, v = .slice ao n cap := by
  rcases h.2 with ⟨rfl, hn⟩ | ⟨g, cap, cur, rfl, _⟩
  · exact ⟨none, 0, by rw [hn]⟩
  · exact ⟨_, cap, rfl⟩

/-- The two boxes stored back into themselves. -/
theorem Acc.store {W : World} {base Bn Bw : Nat} {nv vv : Value} {ns vs : List ByteArray} (h : Acc W base Bn Bw nv vv ns vs) (hne : Bn ≠ Bw) : Acc (W.setCell ⟨Bn, 0, none⟩ nv) base Bn Bw nv vv ns vs := by
  have hte : (23 : Nat) ≠ 9 := by decide
  exact ⟨h.bn.set nv, boxed_set_other nv h.bw (Ne.symm hne), h.rn.kept (grownBy_setCell' W Bn nv) (.inr (h.bn.not_row hte h.rn).symm), h.rw'.kept (grownBy_setCell' W Bn nv) (.inr (h.bn.not_row hte h.rw').symm), h.ap⟩

theorem Acc.drewN {W : World} {base Bn Bw : Nat} {nv vv : Value} {ns vs : List ByteArray} (h : Acc W base Bn Bw nv vv ns vs) (n : Nat) : Acc (W.drewN n) base Bn Bw nv vv ns vs :=
  ⟨h.bn.kept (grownBy_drewN W n) (by simp), h.bw.kept (grownBy_drewN W n) (by simp), h.rn.kept (grownBy_drewN W n) (by cases nv.ownBlock <;> simp), h.rw'.kept (grownBy_drewN W n) (by cases vv.ownBlock <;> simp), h.ap⟩

set_option maxRecDepth 100000 in
set_option maxHeartbeats 2000000 in
theorem zz_any (v : ByteArray) (hv : v.size ≤ 4194304) (w : World) :
    Calls Try.prog 6 #[.string v] w fun e W' => ZZEnd v e W' ∧ Below w.heap.size w W' := by
  go_enter Try.func6, Try.ntmps6
  go_wp2_with fail
  have b1 := Boxed.new w 23 (.slice none 0 0)
  have b2 := Boxed.new (w.alloc (.cells #[.slice none 0 0] 23)) 23 (.slice none 0 0)
  rw [World.size_alloc] at b2
  refine (each_in (w.heap.size + 1 + 1) w.heap.size (w.heap.size + 1) v hv _ ?_ ((b1.alloc _).alloc _) (b2.alloc _) (by omega)).mono ?_
  · have hX : ((w.alloc (.cells #[.slice none 0 0] 23)).alloc (.cells #[.slice none 0 0] 23)).heap.size = w.heap.size + 1 + 1 := by simp
    have := fun o => heap_alloc_new ((w.alloc (.cells #[.slice none 0 0] 23)).alloc (.cells #[.slice none 0 0] 23)) o
    rw [hX] at this
    simp only [World.cell?, this]
    rfl
  rintro e W1 ⟨rfl, ⟨nv, vv, hA⟩, hK⟩
  have hbel : Below w.heap.size w W1 := ((((Below.refl w.heap.size w).alloc (Nat.le_refl _) _).alloc (by simp) _).alloc (by simp; omega) _).trans (hK.below (by simp; omega) (Nat.le_refl _) (by omega))
  obtain ⟨ao, cap, rfl⟩ := shape_of hA.rn
  obtain ⟨bo, cap', rfl⟩ := shape_of hA.rw'
  have c1 := hA.bn.cell
  have c2 := hA.bw.cell
  have f1 := hA.bn.frozen
  have f2 := hA.bw.frozen
  clear b1 b2 hK
  go_wp2_with fail
  go_region
  all_goals go_wp2_with fail
  have hA2 := (((hA.store (by omega)).swap.store (by omega)).swap).drewN 1
  have d1 : (((W1.setCell ⟨w.heap.size, 0, none⟩ (.slice ao (Plain.firsts (wordsB v)).length cap)).setCell ⟨w.heap.size + 1, 0, none⟩ (.slice bo (Plain.seconds (wordsB v)).length cap')).drew).cell? ⟨w.heap.size, 0, none⟩ = some (.slice ao (Plain.firsts (wordsB v)).length cap) := hA2.bn.cell
  have d2 : (((W1.setCell ⟨w.heap.size, 0, none⟩ (.slice ao (Plain.firsts (wordsB v)).length cap)).setCell ⟨w.heap.size + 1, 0, none⟩ (.slice bo (Plain.seconds (wordsB v)).length cap')).drew).cell? ⟨w.heap.size + 1, 0, none⟩ = some (.slice bo (Plain.seconds (wordsB v)).length cap') := hA2.bw.cell
  obtain ⟨_, _, e1, hS1⟩ := strs_of hA2.rn
  obtain ⟨_, _, e2, hS2⟩ := strs_of hA2.rw'
  cases e1
  cases e2
  refine bodyPost_ret (v := .tuple #[.slice ao (Plain.firsts (wordsB v)).length cap, .slice bo (Plain.seconds (wordsB v)).length cap']) ?_ rfl ?_
  · simp [results, Try.results6, go_sem, d1, d2]
  · exact ⟨⟨ao, bo, cap, cap', rfl, hS1, hS2⟩, ((hbel.setCell (Nat.le_refl _) _).setCell (by show w.heap.size ≤ w.heap.size + 1; omega) _).drew⟩

end Go.Proofs.Qxb6614064a
