/-
  THE LINKS, AS THE LAWS MEET THEM: one word for a nil slice, for links that make every pair, and for links that do not.
-/
import Derived.Test.Qxb6613861aSm
import Derived.Test.Qxb6613861aLy
namespace Go.Proofs.Qxb6613861a
open Go.RowKit Go.Deep

/-- connects can be called with this map in the group's field, in every later world. -/
def ConnReady (n : Nat) (full : Bool) (Z : Nat → List Int) (mv : Option Nat) (W : World) : Prop :=
  ∀ (bg : Nat) (ao : Option Addr) (tl tc : Nat) (ts : List Int) (r : Int) (V : World), Below W.heap.size W V → Ints V ao tl ts → DPre n ts tl → r ≤ 9223372036854775807 →
    V.cell? ⟨bg, 0, none⟩ = some (.int .i64 n) → V.cell? ⟨bg, 2, none⟩ = some (.map mv) →
    Calls Try.prog 20 #[.pointer (some ⟨bg, 0, none⟩), .slice ao tl tc, .int .i64 r] V fun e w' => ConnEnd n full Z ts r e ∧ Below V.heap.size V w'

/-- What zzNeighbours leaves. -/
def NbEnd (n : Nat) (full : Bool) (Z : Nat → List Int) (W : World) (e : Ending) (W' : World) : Prop :=
  ∃ mv, e = .returned (.map mv) ∧ Below W.heap.size W W' ∧ ConnReady n full Z mv W'

/-- The links are in order, and every call that takes them does what it should. -/
def AdjOk (n : Nat) (adjv : Value) (w : World) : Prop :=
  ∃ (full : Bool) (Z : Nat → List Int),
    (∀ W, Below w.heap.size w W → Calls Try.prog 9 #[.int .i64 n, adjv] W fun e W' => e = .returned (.bool full) ∧ W' = W) ∧
    (∀ W, Below w.heap.size w W → Calls Try.prog 11 #[.int .i64 n, adjv] W fun e W' => NbEnd n full Z W e W') ∧
    (∀ W, Below w.heap.size w W → LinkedAt n full adjv Z W)

theorem ready_full (n : Nat) (Z : Nat → List Int) (W : World) (hn : n ≤ 256) : ConnReady n true Z none W :=
  fun bg ao tl tc ts r V _ hI hd _ g0 g2 => connects_full n Z bg ao tl tc ts r V hI hn hd g0 g2

theorem adjOk_nil (n : Nat) (w : World) (hn : n ≤ 256) : AdjOk n (.slice none 0 0) w := by
  refine ⟨true, fun _ => [], fun W _ => complete_nil _ _, fun W _ => (neighbours_nil _ _).mono ?_, fun W _ a b V _ _ _ => linked_full _ _ _ _ _ _ _⟩
  rintro e W' ⟨rfl, rfl⟩
  exact ⟨none, rfl, Below.refl _ _, ready_full n _ _ hn⟩

theorem row_len {n k : Nat} {zs : List Int} (h : RowOk n k zs) : zs.length ≤ n := by
  have := Plain.nodup_length (q := zs.map Int.toNat) (l := List.range n) ?_ ?_
  · simpa using this
  · rw [List.nodup_iff_pairwise_ne, List.pairwise_iff_getElem]
    intro i j hi hj hij e
    simp only [List.length_map] at hi hj
    have h3 := h.srt i j hij hj
    have h1 := h.rng _ (za_mem hi)
    have h2 := h.rng _ (za_mem hj)
    simp only [List.getElem_map] at e
    simp only [za, List.getD_eq_getElem?_getD, List.getElem?_eq_getElem hi, List.getElem?_eq_getElem hj, Option.getD_some] at h1 h2 h3
    omega
  · intro t ht
    obtain ⟨z, hz, rfl⟩ := List.mem_map.1 ht
    have := h.rng z hz
    rw [List.mem_range]
    omega

theorem adjOk_some (a : Addr) (len cap : Nat) (A : Nat → Option Addr) (L C : Nat → Nat) (Z : Nat → List Int) (w : World) (hL : Lines w (some a) len A L C Z) (hn : len ≤ 256) (hV : ∀ k, k < len → RowOk len k (Z k)) :
    AdjOk len (.slice (some a) len cap) w := by
  have hl : ∀ r, r < len → L r ≤ 256 := fun r hr => by
    have := row_len (hV r hr)
    rw [(hL.row r hr).size] at this
    omega
  refine ⟨fullB len L, Z, fun W hW => complete_any a len cap A L C Z W (hL.below hW (Nat.le_refl _)) hn hl, fun W hW => ?_, fun W hW a' b' V ha hb hV' => ?_⟩
  · have hLW := hL.below hW (Nat.le_refl _)
    cases hf : fullB len L with
    | true =>
      refine (neighbours_full a len cap A L C Z W hLW hn hl hf).mono ?_
      rintro e W' ⟨rfl, rfl⟩
      exact ⟨none, rfl, Below.refl _ _, ready_full len Z _ hn⟩
    | false =>
      refine (neighbours_part a len cap A L C Z W hLW hn hl hf).mono ?_
      rintro e W' ⟨rfl, D, NA, NL, hS⟩
      refine ⟨some W.heap.size, rfl, hS.bel, fun bg ao tl tc ts r V hVb hI hd hr g0 g2 => ?_⟩
      exact connects_part len Z bg W.heap.size NA NL NL ao tl tc ts r V hI hn hd hr g0 g2 (nb_done hS hn hVb) hV
  · have hLV := (hL.below hW (Nat.le_refl _)).below hV' (Nat.le_refl _)
    cases hf : fullB len L with
    | true => exact linked_full _ _ _ _ _ _ _
    | false => exact linked_part _ len cap A L C Z a' b' V hLV ha (hV a' ha).srt

/-- zzLinksValid, whatever the links. -/
theorem valid_adj_nil (n : Nat) (w : World) (hn : n ≤ 256) : Calls Try.prog 7 #[.int .i64 n, .slice none 0 0] w fun e w' => Okb (AdjOk n (.slice none 0 0) w) e ∧ w' = w := by
  refine (valid_nil _ _).mono ?_
  rintro e W' ⟨rfl, rfl⟩
  exact ⟨⟨true, rfl, fun _ => adjOk_nil n _ hn⟩, rfl⟩

theorem valid_adj_some (n : Nat) (a : Addr) (len cap : Nat) (A : Nat → Option Addr) (L C : Nat → Nat) (Z : Nat → List Int) (w : World) (hL : Lines w (some a) len A L C Z) (hn : n ≤ 256) :
    Calls Try.prog 7 #[.int .i64 n, .slice (some a) len cap] w fun e w' => Okb (AdjOk n (.slice (some a) len cap) w) e ∧ w' = w := by
  refine (valid_any n a len cap A L C Z w hL (by omega)).mono ?_
  rintro e W' ⟨⟨b, rfl, hb⟩, rfl⟩
  refine ⟨⟨b, rfl, fun h => ?_⟩, rfl⟩
  obtain ⟨h1, h2⟩ := hb h
  have e : len = n := by omega
  subst e
  exact adjOk_some a len cap A L C Z _ hL hn h2

end Go.Proofs.Qxb6613861a
