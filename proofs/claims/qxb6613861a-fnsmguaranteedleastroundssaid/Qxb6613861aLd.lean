/-
  WHO IS LOYAL, WHO IS LINKED: the words for zzLoyal and for connects; what zzLoyal has made.
-/
import Derived.Test.Qxb6613861aW3
namespace Go.Proofs.Qxb6613861a
open Go.RowKit Go.Deep

/-- Who is no traitor. -/
def loB (ts : List Int) (x : Nat) : Bool := !(hasB ts (x : Int))

/-- Who is none of the first k traitors. -/
def LoTo (n : Nat) (ts : List Int) (k : Nat) (f : Nat → Bool) : Prop := ∀ x, x < n → (f x = true ↔ ∀ j, j < k → za ts j ≠ (x : Int))

theorem loTo_succ {n : Nat} {ts : List Int} {k x : Nat} {f : Nat → Bool} (h : LoTo n ts k f) (hx : za ts k = (x : Int)) : LoTo n ts (k + 1) (fun y => if y = x then false else f y) := by
  intro y hy
  by_cases e : y = x
  · subst e
    simp only [if_true]
    constructor
    · intro h; cases h
    · intro h; exact absurd hx (h k (Nat.lt_succ_self _))
  · simp only [e, if_false]
    rw [h y hy]
    constructor
    · intro h j hj
      by_cases ej : j = k
      · subst ej; omega
      · exact h j (by omega)
    · intro h j hj
      exact h j (by omega)

theorem loTo_end {n : Nat} {ts : List Int} {f : Nat → Bool} (h : LoTo n ts ts.length f) {x : Nat} (hx : x < n) : f x = loB ts x := by
  rw [Bool.eq_iff_iff, h x hx]
  unfold loB hasB
  simp only [Bool.not_eq_true', decide_eq_false_iff_not]
  constructor
  · intro h hm
    obtain ⟨i, hi, e⟩ := mem_za hm
    exact h i hi e
  · intro h j hj e
    exact h (e ▸ za_mem hj)

/-- An edge between two loyal generals. -/
def eB (full : Bool) (Z : Nat → List Int) (ts : List Int) (x y : Nat) : Bool := loB ts x && loB ts y && lnkB full Z x y
/-- .. of n. -/
def Edge (n : Nat) (full : Bool) (Z : Nat → List Int) (ts : List Int) (x y : Nat) : Prop := x < n ∧ y < n ∧ eB full Z ts x y = true
/-- The table's first content. -/
def ini (full : Bool) (Z : Nat → List Int) (ts : List Int) (x y : Nat) : Int := if x = y then 0 else if eB full Z ts x y = true then 1 else 1048576
/-- The table is filled ahead of (a, b). -/
def Fill (n : Nat) (full : Bool) (Z : Nat → List Int) (ts : List Int) (a b : Nat) (T : Nat → Int) : Prop :=
  ∀ x y, x < n → y < n → (x < a ∨ (x = a ∧ y < b)) → T (x * n + y) = ini full Z ts x y

theorem fill_zero (n : Nat) (full : Bool) (Z : Nat → List Int) (ts : List Int) (T : Nat → Int) : Fill n full Z ts 0 0 T := by
  intro x y _ _ h
  rcases h with h | ⟨_, h⟩ <;> exact absurd h (Nat.not_lt_zero _)

theorem fill_next {n : Nat} {full : Bool} {Z : Nat → List Int} {ts : List Int} {a : Nat} {T : Nat → Int} (h : Fill n full Z ts a n T) : Fill n full Z ts (a + 1) 0 T :=
  fun x y hx hy hd => h x y hx hy (by omega)

theorem fill_step {n : Nat} {full : Bool} {Z : Nat → List Int} {ts : List Int} {a b ix : Nat} {T : Nat → Int} {d : Int} (h : Fill n full Z ts a b T) (hb : b < n) (hix : ix = a * n + b) (hd : d = ini full Z ts a b) :
    Fill n full Z ts a (b + 1) (Plain.upd T ix d) := by
  subst hix
  intro x y hx hy hdone
  by_cases e : x * n + y = a * n + b
  · obtain ⟨rfl, rfl⟩ := Plain.cell_inj hy hb e
    rw [Plain.upd_same]; exact hd
  · rw [Plain.upd_other _ _ e]
    refine h x y hx hy ?_
    by_cases e1 : x = a
    · subst e1
      by_cases e2 : y = b
      · subst e2; exact absurd rfl e
      · omega
    · omega

theorem fill_fw {n : Nat} {full : Bool} {Z : Nat → List Int} {ts : List Int} {T : Nat → Int} (h : Fill n full Z ts n 0 T) : Plain.FW n (Edge n full Z ts) (loB ts) 0 0 0 T := by
  refine Plain.fw_start (fun x hx => ?_) (fun x y hx hy hne he => ?_) (fun x y hx hy hne he => ?_) (fun x he => ?_)
  · rw [h x x hx hx (Or.inl hx)]; simp [ini]
  · rw [h x y hx hy (Or.inl hx)]; simp [ini, hne, he.2.2]
  · rw [h x y hx hy (Or.inl hx)]
    have : ¬ eB full Z ts x y = true := fun hh => he ⟨hx, hy, hh⟩
    simp [ini, hne, this]
  · have := he.2.2
    simp [eB, lnkB] at this

theorem row_upd {w : World} {b N ix : Nat} {T : Nat → Int} {d : Int} (h : w.rowIs b 3 N (fun i => .int .i64 (T i))) : (w.setCell ⟨b, ix, none⟩ (.int .i64 d)).rowIs b 3 N (fun i => .int .i64 (Plain.upd T ix d i)) :=
  (h.set ix _).congr (fun y _ => by by_cases e : y = ix <;> simp [e, Plain.upd])

/-- What zzLoyal has made: the marks and the table. -/
structure St (w wr : World) (n N : Nat) (ts : List Int) (T : Nat → Int) : Prop where
  lo : wr.rowIs w.heap.size 4 n (fun x => .bool (loB ts x))
  tab : wr.rowIs (w.heap.size + 1) 3 N (fun i => .int .i64 (T i))
  bel : Below w.heap.size w wr

theorem St.set {w wr : World} {n N : Nat} {ts : List Int} {T : Nat → Int} (h : St w wr n N ts T) (ix : Nat) (d : Int) : St w (wr.setCell ⟨w.heap.size + 1, ix, none⟩ (.int .i64 d)) n N ts (Plain.upd T ix d) :=
  ⟨h.lo.setOther (by show w.heap.size ≠ w.heap.size + 1; omega) _, row_upd h.tab, h.bel.setCell (by show w.heap.size ≤ w.heap.size + 1; omega) _⟩

theorem St.drew {w wr : World} {n N : Nat} {ts : List Int} {T : Nat → Int} (h : St w wr n N ts T) : St w wr.drew n N ts T := ⟨h.lo.drew, h.tab.drew, h.bel.drew⟩

theorem St.drewN {w wr : World} {n N : Nat} {ts : List Int} {T : Nat → Int} (h : St w wr n N ts T) (k : Nat) : St w (wr.drewN k) n N ts T := by
  induction k with
  | zero => exact h
  | succ k ih => exact ih.drew

theorem st_start {w wr : World} {n N : Nat} {ts : List Int} (h : wr.rowIs w.heap.size 4 n (fun x => .bool (loB ts x))) (hb : Below w.heap.size w wr) (hsz : wr.heap.size = w.heap.size + 1) :
    St w (wr.alloc (.cells (madeCells #[.int .i64 0] N) 3)) n N ts (fun _ => 0) := by
  refine ⟨h.alloc _, ?_, hb.alloc (by omega) _⟩
  have := World.rowIs_made wr (.int .i64 0) N 3
  rw [hsz] at this
  exact this

/-- zzLinked, as zzLoyal meets it. -/
def LinkedAt (n : Nat) (full : Bool) (adjv : Value) (Z : Nat → List Int) (w : World) : Prop :=
  ∀ (a b : Nat) (W : World), a < n → b < n → Below w.heap.size w W → Calls Try.prog 19 #[.bool full, adjv, .int .i64 a, .int .i64 b] W fun e W' => e = .returned (.bool (lnkB full Z a b)) ∧ W' = W

/-- What zzLoyal says: how many are loyal; whether they are connected, and how far apart. -/
def LoyalEnd (n : Nat) (full : Bool) (Z : Nat → List Int) (ts : List Int) (e : Ending) : Prop :=
  ∃ (con : Bool) (dia : Int), e = .returned (.tuple #[.int .i64 (Plain.loyals n (loB ts)).length, .bool con, .int .i64 dia]) ∧ 0 ≤ dia ∧ dia ≤ n ∧
    ∀ r : Nat, (con = true ∧ dia ≤ r) ↔ Plain.AllW n (Edge n full Z ts) (loB ts) r

/-- What the last loops know. -/
def LastR (n : Nat) (ts : List Int) (T : Nat → Int) (b : Nat) (cn di i : Value) : Prop :=
  ∃ (a : Nat) (con : Bool) (dia : Int), a ≤ n ∧ i = .int .i64 a ∧ cn = .bool con ∧ di = .int .i64 dia ∧ Plain.Last n (loB ts) T a b con dia
def LastC (n : Nat) (ts : List Int) (T : Nat → Int) (a : Nat) (cn di i : Value) : Prop :=
  ∃ (b : Nat) (con : Bool) (dia : Int), b ≤ n ∧ i = .int .i64 b ∧ cn = .bool con ∧ di = .int .i64 dia ∧ Plain.Last n (loB ts) T a b con dia

theorem Edge.inside {n : Nat} {full : Bool} {Z : Nat → List Int} {ts : List Int} (a b : Nat) (h : Edge n full Z ts a b) : a < n ∧ b < n ∧ loB ts a = true := by
  refine ⟨h.1, h.2.1, ?_⟩
  have := h.2.2
  simp only [eB, Bool.and_eq_true] at this
  exact this.1.1

/-- The place of (a, b) in the table, in the walk's spelling. -/
theorem place (n N a b : Nat) (hN : N = n * n) (hn : n ≤ 256) (ha : a < n) (hb : b < n) :
    ∃ ix : Nat, Hid (ix = a * n + b) ∧ (a : Int) * (n : Int) + (b : Int) = (ix : Int) ∧ ix < N ∧ 0 ≤ (a : Int) * (n : Int) ∧ (a : Int) * (n : Int) ≤ 65536 := by
  have h1 := Plain.cell_lt ha hb
  have h2 : n * n ≤ 65536 := by
    have := Nat.mul_le_mul hn hn
    omega
  refine ⟨a * n + b, (rfl : a * n + b = a * n + b), by simp, by omega, Int.mul_nonneg (by omega) (by omega), ?_⟩
  have : ((a * n : Nat) : Int) ≤ 65536 := by omega
  simpa using this

end Go.Proofs.Qxb6613861a
