/-
  THE WALK: zzPairsRebuild, where it is to say yes.
-/
import Derived.Test.Qxb6614064aLaw4
import Derived.Lib.AppendStr
import Derived.Laws.BytesArg
namespace Go.Proofs.Qxb6614064a
open Go.RowKit Go.Shelf

theorem Try.info5 : (Try.prog.info? 5).map (fun i => (i.zero, i.size, i.bytes)) = some (some (.int .u8 0), 1, 1) := by kernel_rfl

/-- A text's bytes as cells. -/
def cellsOf (t : List UInt8) : List Value := t.map fun b => Value.int .u8 (b.toNat : Int)

theorem cellsOf_append (s t : List UInt8) : cellsOf (s ++ t) = cellsOf s ++ cellsOf t := by simp [cellsOf]
theorem cellsOf_bs (t : List UInt8) : Lib.strCells (bs t) = cellsOf t := rfl
theorem cellsOf_length (t : List UInt8) : (cellsOf t).length = t.length := by simp [cellsOf]

/-- The slice v is the call's own and holds the bytes t. -/
def Buf (W : World) (B : Nat) (v : Value) (t : List UInt8) : Prop := W.ownsRow B 5 1 v t.length (cellsOf t) ∧ v ≠ .slice none 0 0

theorem buf_row {W : World} {B : Nat} {v : Value} {n : Nat} {xs : List Value} (h : W.ownsRow B 5 1 v n xs) (j : Nat) (e : v.ownBlock = some j) : B ≤ j := by
  rcases h.2 with ⟨rfl, _⟩ | ⟨g, cap, cur, rfl, hb, _⟩
  · simp [Value.ownBlock] at e
  · have : g = j := by simpa [Value.ownBlock] using e
    subst this
    exact hb

theorem buf_below {W w1 : World} {B : Nat} {w : World} {v : Value} {n : Nat} {xs : List Value} {tmp : Obj} (hb : Below B w W) (hB : B ≤ w.heap.size) (h : W.ownsRow B 5 1 v n xs) (hg : (W.alloc tmp).grownBy w1 v.ownBlock) : Below B w w1 := by
  have := hb.size
  exact (hb.alloc (by omega) tmp).grown hg (by simp; omega) (fun j e => buf_row h j e)
theorem buf_below' {W w1 : World} {B : Nat} {w : World} {v : Value} {n : Nat} {xs : List Value} (hb : Below B w W) (hB : B ≤ w.heap.size) (h : W.ownsRow B 5 1 v n xs) (hg : W.grownBy w1 v.ownBlock) : Below B w w1 := by
  have := hb.size
  exact hb.grown hg (by omega) (fun j e => buf_row h j e)

theorem buf_space {w1 : World} {B : Nat} {v v' : Value} {t : List UInt8} (hv : v ≠ .slice none 0 0) (ho : w1.ownsRow B 5 1 v' (t.length + 1) (cellsOf t ++ [.int .u8 32])) (hn : v' = .slice none 0 0 ↔ v = .slice none 0 0 ∧ 1 = 0) : Buf w1 B v' (t ++ [32]) := by
  refine ⟨?_, fun e => hv (hn.1 e).1⟩
  rw [cellsOf_append, List.length_append]
  exact ho
theorem buf_text {w1 : World} {B : Nat} {v v' : Value} {t s : List UInt8} (hv : v ≠ .slice none 0 0) (ho : w1.ownsRow B 5 1 v' (t.length + (bs s).size) (cellsOf t ++ Lib.strCells (bs s))) (hn : v' = .slice none 0 0 ↔ v = .slice none 0 0 ∧ (bs s).size = 0) : Buf w1 B v' (t ++ s) := by
  refine ⟨?_, fun e => hv (hn.1 e).1⟩
  rw [cellsOf_append, List.length_append]
  rw [bs_size, cellsOf_bs] at ho
  exact ho

/-- string(buf). -/
theorem buf_string {W : World} {B : Nat} {v : Value} {t : List UInt8} (h : Buf W B v t) : ∃ g cap, v = .slice (some ⟨g, 0, none⟩) t.length cap ∧
    ∀ kk, (convert 38 9 (.slice (some ⟨g, 0, none⟩) t.length cap)).run Try.prog (W.drewN kk) = .ok (.string (bs t)) (W.drewN kk) := by
  rcases h.1.2 with ⟨e, _⟩ | ⟨g, cap, cur, e, hb, hgb, hle, hm, hs, ht⟩
  · exact absurd e h.2
  · refine ⟨g, cap, e, fun kk => ?_⟩
    have h1 := h.1
    rw [e] at h1
    have hx : (t.map fun b => (b.toNat : Int)).length = t.length := by simp
    have := run_convert_bytes_arg (P := Try.prog) (W.drewN kk) 38 5 Try.underlying38 Try.underlying5 g 0 t.length cap (t.map fun b => (b.toNat : Int)) hx (fun i hi => by
      have hc := World.ownsRow.cellAt h1 i (by omega)
      rw [World.cell?_drewN, Nat.zero_add, hc, cellsOf, List.getElem?_map, List.getElem?_eq_getElem hi]
      simp [List.getElem?_eq_getElem hi]) 9 Try.underlying9
    rw [this]
    congr 2
    unfold strOfNums bs
    congr 1
    have hid : ((fun n : Int => UInt8.ofNat n.toNat) ∘ fun b : UInt8 => (b.toNat : Int)) = id := by
      funext b
      simp
    rw [List.map_map, hid, List.map_id]

theorem sa_bs {N : List (List UInt8)} {k : Nat} : sa (N.map bs) k = bs (N.getD k []) := by
  unfold sa
  rw [List.getD_eq_getElem?_getD, List.getD_eq_getElem?_getD, List.getElem?_map]
  cases N[k]? <;> rfl

theorem buf_make (w : World) (c : Nat) (hc : c ≤ maxLen) : Buf (w.alloc (.cells (madeCells #[.int .u8 0] c) 5)) w.heap.size (.slice (some ⟨w.heap.size, 0, none⟩) 0 c) [] := by
  refine ⟨?_, by simp⟩
  exact World.ownsRow_made (base := w.heap.size) (e := 5) (size := 1) w (madeCells #[.int .u8 0] c) c (Nat.le_refl _) hc (by simp [size_madeCells])

theorem make_buf (c : Nat) (h : c ≤ 4194304) (w : World) : (Instr.makeSlice 38 (.int .i64 0) (.int .i64 (c : Int))).run Try.prog w =
    .ok (.slice (some ⟨w.heap.size, 0, none⟩) 0 c) (w.alloc (.cells (madeCells #[.int .u8 0] c) 5)) := by
  obtain ⟨i0, hi, hz0, hz1, hz2⟩ := info_parts Try.info5
  have := run_make (P := Try.prog) w 38 5 i0 (.int .u8 0) Try.underlying38 hi hz0 .i64 .i64 0 c (by omega) (by omega) (by rw [hz2]; omega) (by omega)
  rw [this, hz1]
  simp [Value.cells]

/-- The names and the values as they lie. -/
structure NV (w : World) (an av : Option Addr) (la : Nat) (N V : List (List UInt8)) : Prop where
  ns : Strs w an la (N.map bs)
  vs : Strs w av la (V.map bs)
  nn : ∀ p ∈ N, Plain.NoSp p
  nv : ∀ p ∈ V, Plain.NoSp p
  sz : ∀ p ∈ N ++ V, p.length ≤ 4194304

theorem getD_mem {N : List (List UInt8)} {k : Nat} (h : k < N.length) : N.getD k [] ∈ N := by
  rw [List.getD_eq_getElem?_getD, List.getElem?_eq_getElem h]
  exact List.getElem_mem h

end Go.Proofs.Qxb6614064a
