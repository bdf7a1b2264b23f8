/-
  WHAT connects HAS MADE: the marks, the distances, the queue; and the plain side of the case in which every pair is linked.
-/
import Derived.Test.Qxb6613861aLd
namespace Go.Proofs.Qxb6613861a
open Go.RowKit Go.Deep

/-- Block b is the queue's row, of 'cap' cells; the first are q. -/
def QOwn (w : World) (b cap : Nat) (q : List Nat) : Prop :=
  w.ownsRow 0 3 1 (.slice (some ⟨b, 0, none⟩) q.length cap) q.length (q.map (fun (x : Nat) => Value.int .i64 (x : Int)))

theorem QOwn.cell {w : World} {b cap : Nat} {q : List Nat} (h : QOwn w b cap q) {j : Nat} (hj : j < q.length) : w.cell? ⟨b, j, none⟩ = some (.int .i64 (Plain.qa q j : Nat)) := by
  have := World.ownsRow.cellAt h j (by omega)
  rw [this, List.getElem?_map, List.getElem?_eq_getElem hj]
  simp [Plain.qa, List.getD_eq_getElem?_getD, List.getElem?_eq_getElem hj]

theorem QOwn.le {w : World} {b cap : Nat} {q : List Nat} (h : QOwn w b cap q) : q.length ≤ cap := by
  rcases h.2 with ⟨h, _⟩ | ⟨g, c, cur, hv, _, _, hle, _⟩
  · simp at h
  · simp at hv
    omega

theorem QOwn.empty {w : World} {b cap : Nat} {q : List Nat} (h : QOwn w b cap q) : QOwn w b cap [] := by
  rcases h.2 with ⟨h, _⟩ | ⟨g, c, cur, hv, h0, hb, hle, hm, hs, ht⟩
  · simp at h
  · simp at hv
    obtain ⟨rfl, rfl⟩ := hv
    exact ⟨by simp, Or.inr ⟨b, cap, cur, by simp, h0, hb, by simp, hm, hs, by simp⟩⟩

theorem QOwn.of_block {w w' : World} {b cap : Nat} {q : List Nat} (h : QOwn w b cap q) (e : w'.heap[b]? = w.heap[b]?) : QOwn w' b cap q := by
  refine ⟨h.1, ?_⟩
  rcases h.2 with ⟨h, _⟩ | ⟨g, c, cur, hv, h0, hb, hle, hm, hs, ht⟩
  · simp at h
  · refine Or.inr ⟨g, c, cur, hv, h0, ?_, hle, hm, hs, ht⟩
    have : b = g := by simp at hv; exact hv.1
    subst this
    rw [e]; exact hb

theorem QOwn.lt {w : World} {b cap : Nat} {q : List Nat} (h : QOwn w b cap q) : b < w.heap.size := (World.ownsRow.lt h b rfl).2

/-- What connects has made. -/
structure Cst (w wr : World) (n cap : Nat) (ts : List Int) (d : Nat → Int) (q : List Nat) : Prop where
  lo : wr.rowIs w.heap.size 4 n (fun x => .bool (loB ts x))
  ds : wr.rowIs (w.heap.size + 1) 3 n (fun x => .int .i64 (d x))
  qu : QOwn wr (w.heap.size + 2) cap q
  bel : Below w.heap.size w wr

theorem Cst.sz {w wr : World} {n cap : Nat} {ts : List Int} {d : Nat → Int} {q : List Nat} (h : Cst w wr n cap ts d q) : w.heap.size + 2 < wr.heap.size := h.qu.lt

theorem Cst.set {w wr : World} {n cap : Nat} {ts : List Int} {d : Nat → Int} {q : List Nat} (h : Cst w wr n cap ts d q) (x : Nat) (v : Int) :
    Cst w (wr.setCell ⟨w.heap.size + 1, x, none⟩ (.int .i64 v)) n cap ts (Plain.upd d x v) q :=
  ⟨h.lo.setOther (by show w.heap.size ≠ w.heap.size + 1; omega) _, row_upd h.ds,
   h.qu.of_block (Below.heap_setCell _ _ _ _ (by show w.heap.size + 2 ≠ w.heap.size + 1; omega)), h.bel.setCell (by show w.heap.size ≤ w.heap.size + 1; omega) _⟩

theorem Cst.drew {w wr : World} {n cap : Nat} {ts : List Int} {d : Nat → Int} {q : List Nat} (h : Cst w wr n cap ts d q) : Cst w wr.drew n cap ts d q :=
  ⟨h.lo.drew, h.ds.drew, h.qu.of_block rfl, h.bel.drew⟩

theorem Cst.drewN {w wr : World} {n cap : Nat} {ts : List Int} {d : Nat → Int} {q : List Nat} (h : Cst w wr n cap ts d q) (k : Nat) : Cst w (wr.drewN k) n cap ts d q := by
  induction k with
  | zero => exact h
  | succ k ih => exact ih.drew

theorem Cst.empty {w wr : World} {n cap : Nat} {ts : List Int} {d : Nat → Int} {q : List Nat} (h : Cst w wr n cap ts d q) : Cst w wr n cap ts d [] := ⟨h.lo, h.ds, h.qu.empty, h.bel⟩

theorem Cst.alloc {w wr : World} {n cap : Nat} {ts : List Int} {d : Nat → Int} {q : List Nat} (h : Cst w wr n cap ts d q) (o : Obj) : Cst w (wr.alloc o) n cap ts d q :=
  ⟨h.lo.alloc o, h.ds.alloc o, h.qu.of_block (Below.heap_alloc _ _ _ h.qu.lt), h.bel.alloc (by have := h.sz; omega) o⟩

theorem Cst.appended {w wr w' : World} {n cap : Nat} {ts : List Int} {d : Nat → Int} {q : List Nat} {y : Nat} (h : Cst w wr n cap ts d q) (hg : wr.grownBy w' (some (w.heap.size + 2)))
    (ho : w'.ownsRow 0 3 1 (.slice (some ⟨w.heap.size + 2, 0, none⟩) (q.length + 1) cap) (q.length + 1) (q.map (fun (x : Nat) => Value.int .i64 (x : Int)) ++ [.int .i64 (y : Int)])) :
    Cst w w' n cap ts d (q ++ [y]) := by
  have hs := h.sz
  refine ⟨h.lo.of_block (hg.block _ (by omega) (by simp)), h.ds.of_block (hg.block _ (by omega) (by simp)), ?_, h.bel.grown hg (by omega) (fun k hk => by simp at hk; omega)⟩
  unfold QOwn
  simpa using ho

/-- The three makes. -/
theorem cst_start {w wr : World} {n cap : Nat} {ts : List Int} (h : wr.rowIs w.heap.size 4 n (fun x => .bool (loB ts x))) (hb : Below w.heap.size w wr) (hsz : wr.heap.size = w.heap.size + 1) (hcap : cap ≤ maxLen) :
    Cst w ((wr.alloc (.cells (madeCells #[.int .i64 0] n) 3)).alloc (.cells (madeCells #[.int .i64 0] cap) 3)) n cap ts (fun _ => 0) [] := by
  have h1 := World.rowIs_made wr (.int .i64 0) n 3
  rw [hsz] at h1
  have h2 := World.ownsRow_made (base := 0) (e := 3) (size := 1) (wr.alloc (.cells (madeCells #[.int .i64 0] n) 3)) (madeCells #[.int .i64 0] cap) cap (Nat.zero_le _) hcap (by
    have := congrArg List.length (toList_madeCells_one (.int .i64 0) cap)
    simpa using this)
  have e : (wr.alloc (.cells (madeCells #[.int .i64 0] n) 3)).heap.size = w.heap.size + 2 := by simp [hsz]
  rw [e] at h2
  exact ⟨(h.alloc _).alloc _, h1.alloc _, h2, (hb.alloc (by omega) _).alloc (by rw [e]; omega) _⟩

/-- What connects says. -/
def ConnEnd (n : Nat) (full : Bool) (Z : Nat → List Int) (ts : List Int) (r : Int) (e : Ending) : Prop :=
  ∃ b : Bool, e = .returned (.bool b) ∧ (b = true ↔ ((Plain.loyals n (loB ts)).length ≤ 1 ∨ (0 ≤ r ∧ Plain.AllW n (Edge n full Z ts) (loB ts) r.toNat)))

/-- Where every pair is linked. -/
theorem conn_full {n : Nat} {Z : Nat → List Int} {ts : List Int} {r : Int} (h : 2 ≤ (Plain.loyals n (loB ts)).length) :
    (0 ≤ r ∧ Plain.AllW n (Edge n true Z ts) (loB ts) r.toNat) ↔ 1 ≤ r := by
  constructor
  · rintro ⟨h0, hall⟩
    refine Classical.byContradiction fun hlt => ?_
    have hr : r.toNat = 0 := by omega
    rw [hr] at hall
    have hsub : ∀ x ∈ Plain.loyals n (loB ts), ∀ y ∈ Plain.loyals n (loB ts), x = y := by
      intro x hx y hy
      have hx' := Plain.mem_loyals.1 hx
      have hy' := Plain.mem_loyals.1 hy
      exact hall x y hx'.1 hy'.1 hx'.2 hy'.2
    match hl : Plain.loyals n (loB ts), h with
    | x :: y :: l, _ =>
      have hnd := Plain.loyals_nodup n (loB ts)
      rw [hl] at hnd hsub
      have := hsub x (by simp) y (by simp)
      subst this
      simp at hnd
  · intro h1
    refine ⟨by omega, fun x y hx hy lx ly => ?_⟩
    by_cases e : x = y
    · subst e; exact Plain.W_refl _ _ _
    · exact Plain.W_mono (k := 1) (by omega) (Plain.W_one ⟨hx, hy, by simp [eB, lnkB, lx, ly, e]⟩)

/-- The map of neighbours, as connects meets it. -/
def NbAt (w : World) (n bm : Nat) (NA : Nat → Option Addr) (NL NC : Nat → Nat) (Z : Nat → List Int) : Prop :=
  (∀ x, x < n → Ints w (NA x) (NL x) (Z x)) ∧
  ∀ x, x < n → ∀ W, Below w.heap.size w W → (Instr.lookup 30 (.map (some bm)) (.int .i64 (x : Int)) false).run Try.prog W = .ok (.slice (NA x) (NL x) (NC x)) W

/-- The rows as lists of generals. -/
def rowN (Z : Nat → List Int) (x : Nat) : List Nat := (Z x).map Int.toNat

/-- The number of the loyal, as connects reckons it. -/
theorem count_eq {n tl : Nat} {ts : List Int} (hl : ts.length = tl) (hd : DPre n ts tl) : (n : Int) - (tl : Int) = ((Plain.loyals n (loB ts)).length : Nat) := by
  have key := Plain.loyals_count (n := n) (ts := ts.map Int.toNat) ?_ ?_ (loB ts) ?_
  · simp only [List.length_map] at key
    omega
  · rw [List.nodup_iff_pairwise_ne, List.pairwise_iff_getElem]
    intro i j hi hj hij e
    simp only [List.length_map] at hi hj
    have h1 := hd.rng i (by omega)
    have h2 := hd.rng j (by omega)
    have h3 := hd.one i j hij (by omega)
    simp only [List.getElem_map] at e
    simp only [za, List.getD_eq_getElem?_getD, List.getElem?_eq_getElem hi, List.getElem?_eq_getElem hj, Option.getD_some] at h1 h2 h3
    omega
  · intro t ht
    obtain ⟨z, hz, rfl⟩ := List.mem_map.1 ht
    obtain ⟨i, hi, e⟩ := mem_za hz
    have := hd.rng i (by omega)
    omega
  · intro x hx
    unfold loB hasB
    simp only [Bool.not_eq_true', decide_eq_false_iff_not, List.mem_map, not_exists, not_and]
    constructor
    · intro h z hz e
      obtain ⟨i, hi, e2⟩ := mem_za hz
      have := hd.rng i (by omega)
      exact h (by rw [← e, Int.toNat_of_nonneg (by omega)]; exact hz)
    · intro h hm
      exact h (x : Int) hm (by simp)

theorem make_queue (cnt : Nat) (h : cnt ≤ 65536) (w : World) : (Instr.makeSlice 23 (.int .i64 0) (.int .i64 (cnt : Int))).run Try.prog w =
    .ok (.slice (some ⟨w.heap.size, 0, none⟩) 0 cnt) (w.alloc (.cells (madeCells #[.int .i64 0] cnt) 3)) := by
  obtain ⟨i0, hi, hz0, hz1, hz2⟩ := info_parts Try.info3
  have := run_make (P := Try.prog) w 23 3 i0 (.int .i64 0) Try.underlying23 hi hz0 .i64 .i64 0 cnt (by omega) (by omega) (by rw [hz2]; omega) (by omega)
  rw [this, hz1]
  simp [Value.cells]

theorem rowN_get {Z : Nat → List Int} {x t y : Nat} (ht : t < (Z x).length) (hz : za (Z x) t = (y : Int)) : (rowN Z x)[t]? = some y := by
  unfold rowN
  rw [List.getElem?_map, List.getElem?_eq_getElem ht]
  simp only [za, List.getD_eq_getElem?_getD, List.getElem?_eq_getElem ht, Option.getD_some] at hz
  simp [hz]

theorem edge_of {n : Nat} {Z : Nat → List Int} {ts : List Int} {x y t : Nat} (hx : x < n) (lx : loB ts x = true) (hy : y < n) (ly : loB ts y = true) (hV : RowOk n x (Z x)) (ht : t < (Z x).length) (hz : za (Z x) t = (y : Int)) :
    Edge n false Z ts x y := by
  have hm : (y : Int) ∈ Z x := hz ▸ za_mem ht
  have hne := (hV.rng _ hm).2.2
  refine ⟨hx, hy, ?_⟩
  have : x ≠ y := by omega
  simp [eB, lnkB, lx, ly, this, hasB, hm]

theorem edge_row {n : Nat} {Z : Nat → List Int} {ts : List Int} {x y : Nat} (h : Edge n false Z ts x y) : y ∈ rowN Z x ∧ loB ts y = true := by
  have := h.2.2
  simp only [eB, lnkB, hasB, Bool.and_eq_true, Bool.false_or, decide_eq_true_eq] at this
  refine ⟨?_, this.1.2⟩
  unfold rowN
  exact List.mem_map.2 ⟨(y : Int), this.2.2, by simp⟩

/-- From one general every loyal one is reached in at most r steps. -/
def Good (n : Nat) (Z : Nat → List Int) (ts : List Int) (r : Int) (x : Nat) : Prop := 0 ≤ r ∧ ∀ y, y < n → loB ts y = true → Plain.W (Edge n false Z ts) r.toNat x y

theorem conn_yes {n : Nat} {Z : Nat → List Int} {ts : List Int} {r : Int} (hc : 2 ≤ (Plain.loyals n (loB ts)).length) (h : ∀ x, x < n → loB ts x = true → Good n Z ts r x) :
    ConnEnd n false Z ts r (.returned (.bool true)) := by
  refine ⟨true, rfl, ⟨fun _ => Or.inr ?_, fun _ => rfl⟩⟩
  have hpos : 0 < (Plain.loyals n (loB ts)).length := by omega
  obtain ⟨x, hx⟩ := List.exists_mem_of_length_pos hpos
  have hx' := Plain.mem_loyals.1 hx
  exact ⟨(h x hx'.1 hx'.2).1, fun a b ha hb la lb => (h a ha la).2 b hb lb⟩

theorem conn_no {n : Nat} {Z : Nat → List Int} {ts : List Int} {r : Int} (hc : 2 ≤ (Plain.loyals n (loB ts)).length) {x : Nat} (hx : x < n) (lx : loB ts x = true) (h : ¬ Good n Z ts r x) :
    ConnEnd n false Z ts r (.returned (.bool false)) := by
  refine ⟨false, rfl, ⟨fun h => (by cases h), ?_⟩⟩
  rintro (h1 | ⟨h0, hall⟩)
  · omega
  · exact absurd ⟨h0, fun y hy ly => hall x y hx hy lx ly⟩ h

end Go.Proofs.Qxb6613861a
