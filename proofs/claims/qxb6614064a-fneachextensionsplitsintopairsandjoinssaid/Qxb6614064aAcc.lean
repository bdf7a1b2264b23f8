/-
  TWO SLICES OF TEXTS IN TWO BOXES, each appended to: ZZeachExtension's closure.
-/
import Derived.Test.Qxb6614064aIt
import Derived.Maps.AppendAt
namespace Go.Proofs.Qxb6614064a
open Go.RowKit Go.Shelf

theorem Try.info9 : (Try.prog.info? 9).map (fun i => (i.zero, i.size, i.bytes)) = some (some (.string ⟨#[]⟩), 1, 16) := by kernel_rfl

/-- The box Bn leads to the texts ns, the box Bw to the texts vs; the two rows lie apart. -/
structure Acc (W : World) (base Bn Bw : Nat) (nv vv : Value) (ns vs : List ByteArray) : Prop where
  bn : Boxed W Bn 23 nv
  bw : Boxed W Bw 23 vv
  rn : W.ownsRow base 9 1 nv ns.length (ns.map Value.string)
  rw' : W.ownsRow base 9 1 vv vs.length (vs.map Value.string)
  ap : nv.ownBlock = none ∨ nv.ownBlock ≠ vv.ownBlock

theorem Acc.swap {W : World} {base Bn Bw : Nat} {nv vv : Value} {ns vs : List ByteArray} (h : Acc W base Bn Bw nv vv ns vs) : Acc W base Bw Bn vv nv vs ns := by
  refine ⟨h.bw, h.bn, h.rw', h.rn, ?_⟩
  rcases h.ap with e | e
  · cases hv : vv.ownBlock with
    | none => exact Or.inl rfl
    | some g => exact Or.inr (by rw [e]; simp)
  · exact Or.inr (Ne.symm e)

/-- What lies below 'base', the two boxes apart, is as it was; and whatever is no cells. -/
structure Kept (base Bn Bw : Nat) (W W' : World) : Prop where
  os : W'.os = W.os
  tape : W'.tape = W.tape
  output : W'.output = W.output
  blk : ∀ j, j < base → j ≠ Bn → j ≠ Bw → W'.heap[j]? = W.heap[j]?
  oth : KeepsOthers W W'

theorem Kept.refl (base Bn Bw : Nat) (W : World) : Kept base Bn Bw W W := ⟨rfl, rfl, rfl, fun _ _ _ _ => rfl, KeepsOthers.refl W⟩
theorem Kept.trans {base Bn Bw : Nat} {A B C : World} (h : Kept base Bn Bw A B) (k : Kept base Bn Bw B C) : Kept base Bn Bw A C :=
  ⟨k.os.trans h.os, k.tape.trans h.tape, k.output.trans h.output, fun j hj h1 h2 => (k.blk j hj h1 h2).trans (h.blk j hj h1 h2), h.oth.trans k.oth⟩
theorem Kept.swap {base Bn Bw : Nat} {A B : World} (h : Kept base Bn Bw A B) : Kept base Bw Bn A B := ⟨h.os, h.tape, h.output, fun j hj h1 h2 => h.blk j hj h2 h1, h.oth⟩
theorem Kept.boxed {base Bn Bw : Nat} {A B : World} (h : Kept base Bn Bw A B) {j : Nat} {t : TypeId} {v : Value} (hb : Boxed A j t v) (hj : j < base) (h1 : j ≠ Bn) (h2 : j ≠ Bw) : Boxed B j t v := (h.blk j hj h1 h2).trans hb

theorem row_block {W : World} {base : Nat} {v : Value} {k : Nat} {xs : List Value} (h : W.ownsRow base 9 1 v k xs) {j : Nat} (e : v.ownBlock = some j) : base ≤ j ∧ j < W.heap.size ∧ ∃ cur, W.heap[j]? = some (.cells cur 9 (0, 0)) := by
  rcases h.2 with ⟨rfl, _⟩ | ⟨g, cap, cur, rfl, hb, hgb, _⟩
  · simp [Value.ownBlock] at e
  · have : g = j := by simpa [Value.ownBlock] using e
    subst this
    exact ⟨hb, (Array.getElem?_eq_some_iff.1 hgb).1, cur, hgb⟩

/-- 'names = append(names, name)'. -/
theorem acc_push {W w1 : World} {base Bn Bw : Nat} {nv vv nv' : Value} {ns vs : List ByteArray} {a : ByteArray} {tmp : Obj} (h : Acc W base Bn Bw nv vv ns vs) (hne : Bn ≠ Bw) (hbase : base ≤ W.heap.size)
    (hown : w1.ownsRow base 9 1 nv' (ns.length + 1) (ns.map Value.string ++ [.string a])) (hg : (W.alloc tmp).grownBy w1 nv.ownBlock) (hat : nv'.ownBlock = nv.ownBlock ∨ nv'.ownBlock = some (W.heap.size + 1)) :
    Boxed w1 Bn 23 nv ∧ Acc (w1.setCell ⟨Bn, 0, none⟩ nv') base Bn Bw nv' vv (ns ++ [a]) vs ∧ Kept base Bn Bw W (w1.setCell ⟨Bn, 0, none⟩ nv') := by
  have hte : (23 : Nat) ≠ 9 := by decide
  have b1 : Boxed w1 Bn 23 nv := (h.bn.alloc tmp).kept hg (h.bn.not_row hte h.rn)
  have b2 : Boxed w1 Bw 23 vv := (h.bw.alloc tmp).kept hg (h.bw.not_row hte h.rn)
  have hvn : vv.ownBlock = none ∨ vv.ownBlock ≠ nv.ownBlock := h.swap.ap
  have r2 : w1.ownsRow base 9 1 vv vs.length (vs.map Value.string) := (h.rw'.alloc tmp).kept hg hvn
  refine ⟨b1, ⟨b1.set nv', b2.kept (grownBy_setCell' w1 Bn nv') (by simp; omega), ?_, r2.kept (grownBy_setCell' w1 Bn nv') (.inr (b1.not_row hte r2).symm), ?_⟩, ?_⟩
  · have := hown.kept (grownBy_setCell' w1 Bn nv') (.inr (b1.not_row hte hown).symm)
    simpa using this
  · rcases hat with e | e
    · rw [e]; exact h.ap
    · right
      rw [e]
      intro e2
      have := (row_block h.rw' e2.symm).2.1
      omega
  · refine ⟨hg.os, hg.tape, hg.output, fun j hj h1 h2 => ?_, ?_⟩
    · rw [Below.heap_setCell _ _ _ _ (by show j ≠ Bn; exact h1), hg.block j (by simp; omega) ?_, Below.heap_alloc _ _ _ (by omega)]
      intro e
      have := (row_block h.rn e.symm).1
      omega
    · refine ((KeepsOthers.alloc W tmp).trans (KeepsOthers.of_grownBy hg fun j o ej hj => ?_)).trans (KeepsOthers.setCell _ _ _)
      obtain ⟨_, _, cur, hc⟩ := row_block (h.rn.alloc tmp) ej
      rw [hc] at hj
      cases hj
      rfl

theorem cell_new' {W : World} {v : Value} {t N : Nat} (hN : N = W.heap.size) : ∀ (j : Nat) (u : Value), [v][j]? = some u → (W.alloc (.cells #[v] t)).cell? (Addr.add ⟨N, 0, none⟩ j) = some u := by
  subst hN
  exact cell_one_new W v t

/-- The closure appends the name and the value. -/
def AccAt (W : World) (base Bn Bw : Nat) (ns vs : List ByteArray) : Prop := ∃ nv vv, Acc W base Bn Bw nv vv ns vs

set_option maxRecDepth 100000 in
set_option maxHeartbeats 2000000 in
theorem closure_any (base Bn Bw : Nat) (ns vs : List ByteArray) (a b : ByteArray) (W : World) (h : AccAt W base Bn Bw ns vs) (hne : Bn ≠ Bw) (hbase : base ≤ W.heap.size) (hn : ns.length ≤ 4194304) (hv : vs.length ≤ 4194304) :
    Calls Try.prog 15 #[.string a, .string b, .pointer (some ⟨Bn, 0, none⟩), .pointer (some ⟨Bw, 0, none⟩)] W fun e W' => e = .returned (.tuple #[]) ∧ AccAt W' base Bn Bw (ns ++ [a]) (vs ++ [b]) ∧ Kept base Bn Bw W W' := by
  obtain ⟨nv, vv, hA⟩ := h
  obtain ⟨i0, hi, hz0, hz1, hz2⟩ := info_parts Try.info9
  have hcn := hA.bn.cell
  go_enter Try.func15, Try.ntmps15
  go_wp2_with (first
    | (at_builtin; refine wpList_append_own_at _ rfl (.tmp 6) (.tmp 8) 23 rfl base 9 i0 (.string ⟨#[]⟩) 1 16 Try.underlying23 hi hz0 hz1 hz2 rfl (by decide) nv _ _ rfl (hA.rn.alloc _) ⟨W.heap.size, 0, none⟩ 1 1 [.string a] rfl rfl (cell_one_new _ _ _) (by simp [Value.oneCell']) (by unfold maxLen; omega) (by omega) (by simp; omega) ?_; intro nv' w1 hown1 hgrow1 _ hat1; obtain ⟨g1, cap1, rfl⟩ := ownsRow_succ hown1; obtain ⟨b1, A1, K1⟩ := acc_push hA hne hbase hown1 hgrow1 (hat1.elim Or.inl (fun e => Or.inr (by rw [e]; simp))); have hc1 := b1.cell; have hf1 := b1.frozen; have hc2 := A1.bw.cell; have hs1 := K1.oth.size)
    | (at_builtin; go_must (refine wpList_append_own_at _ rfl (.tmp 10) (.tmp 12) 23 rfl base 9 i0 (.string ⟨#[]⟩) 1 16 Try.underlying23 hi hz0 hz1 hz2 rfl (by decide) vv _ _ rfl (A1.rw'.alloc _) ⟨w1.heap.size, 0, none⟩ 1 1 [.string b] rfl rfl (by exact cell_new' (by simp)) (by simp [Value.oneCell']) (by unfold maxLen; omega) (by omega) (by simp at hs1 ⊢; omega) ?_; intro vv' w2 hown2 hgrow2 _ hat2; obtain ⟨g2, cap2, rfl⟩ := ownsRow_succ hown2; obtain ⟨b2, A2, K2⟩ := acc_push A1.swap (Ne.symm hne) (by simp at hs1 ⊢; omega) hown2 hgrow2 (hat2.elim Or.inl (fun e => Or.inr (by rw [e]; simp))); have hc3 := b2.cell; have hf3 := b2.frozen)))
  go_end0
  exact ⟨rfl, ⟨_, _, A2.swap⟩, K1.trans K2.swap⟩

end Go.Proofs.Qxb6614064a
