/-
  THE PLAIN MATHEMATICS, second part: what holds at each point of Floyd and Warshall's loops, of the last loops over the table, and of the breadth-first search. No Go in sight.
-/
import Derived.Test.Qxb6613861aPlain
namespace Go.Proofs.Qxb6613861a.Plain

/-- Who is loyal, as a proposition. -/
def Ly (lo : Nat → Bool) (x : Nat) : Prop := lo x = true

/-- What the table T (row x, column y at x * n + y) holds when all nodes below c have been tried as middle nodes, and node c for the pairs before (a, b). -/
structure FW (n : Nat) (E : Nat → Nat → Prop) (lo : Nat → Bool) (c a b : Nat) (T : Nat → Int) : Prop where
  rng : ∀ i, i < n * n → 0 ≤ T i ∧ T i ≤ 1048576
  snd : ∀ x y, x < n → y < n → T (x * n + y) < 1048576 → W E (T (x * n + y)).toNat x y
  up : ∀ x y, x < n → y < n → lo x = true → lo y = true → ∀ k : Nat, Q E (Ly lo) c x y k → T (x * n + y) ≤ k
  upd : ∀ x y, x < n → y < n → lo x = true → lo y = true → (x < a ∨ (x = a ∧ y < b)) → ∀ k : Nat, Q E (Ly lo) (c + 1) x y k → T (x * n + y) ≤ k

theorem cell_lt {n x y : Nat} (hx : x < n) (hy : y < n) : x * n + y < n * n := by
  have : (x + 1) * n ≤ n * n := Nat.mul_le_mul_right n hx
  rw [Nat.succ_mul] at this
  omega

theorem cell_inj {n x y a b : Nat} (hy : y < n) (hb : b < n) (h : x * n + y = a * n + b) : x = a ∧ y = b := by
  have hn : 0 < n := by omega
  have h1 : (x * n + y) / n = x := by rw [Nat.mul_comm, Nat.mul_add_div hn, Nat.div_eq_of_lt hy, Nat.add_zero]
  have h2 : (a * n + b) / n = a := by rw [Nat.mul_comm, Nat.mul_add_div hn, Nat.div_eq_of_lt hb, Nat.add_zero]
  rw [h] at h1
  have hxa : x = a := h1.symm.trans h2
  subst hxa
  exact ⟨rfl, by omega⟩

theorem fw_start {n : Nat} {E : Nat → Nat → Prop} {lo : Nat → Bool} {T : Nat → Int}
    (h0 : ∀ x, x < n → T (x * n + x) = 0) (h1 : ∀ x y, x < n → y < n → x ≠ y → E x y → T (x * n + y) = 1)
    (h2 : ∀ x y, x < n → y < n → x ≠ y → ¬ E x y → T (x * n + y) = 1048576) (hE : ∀ x, ¬ E x x) : FW n E lo 0 0 0 T := by
  have val : ∀ x y, x < n → y < n → T (x * n + y) = 0 ∧ x = y ∨ T (x * n + y) = 1 ∧ E x y ∨ T (x * n + y) = 1048576 := by
    intro x y hx hy
    by_cases e : x = y
    · subst e; exact Or.inl ⟨h0 x hx, rfl⟩
    · by_cases he : E x y
      · exact Or.inr (Or.inl ⟨h1 x y hx hy e he, he⟩)
      · exact Or.inr (Or.inr (h2 x y hx hy e he))
  refine ⟨?_, ?_, ?_, ?_⟩
  · intro i hi
    have hn : 0 < n := by
      rcases Nat.eq_zero_or_pos n with h | h
      · subst h; simp at hi
      · exact h
    have hx : i / n < n := Nat.div_lt_of_lt_mul hi
    have hy : i % n < n := Nat.mod_lt _ hn
    have e : i / n * n + i % n = i := by rw [Nat.mul_comm]; exact Nat.div_add_mod i n
    have := val (i / n) (i % n) hx hy
    rw [e] at this
    rcases this with ⟨h, _⟩ | ⟨h, _⟩ | h <;> omega
  · intro x y hx hy hlt
    rcases val x y hx hy with ⟨h, e⟩ | ⟨h, e⟩ | h
    · subst e; exact W_refl _ _ _
    · rw [h]; exact W_one e
    · omega
  · intro x y hx hy _ _ k hq
    rcases hq with e | ⟨he, hk⟩
    · subst e; rw [h0 x hx]; omega
    · by_cases e : x = y
      · subst e; exact absurd he (hE x)
      · rw [h1 x y hx hy e he]; omega
  · intro x y _ _ _ _ hd
    rcases hd with h | ⟨_, h⟩ <;> exact absurd h (Nat.not_lt_zero _)

theorem fw_skip_c {n : Nat} {E : Nat → Nat → Prop} {lo : Nat → Bool} {c : Nat} {T : Nat → Int} (h : FW n E lo c 0 0 T) (hc : lo c = false) : FW n E lo (c + 1) 0 0 T := by
  refine ⟨h.rng, h.snd, ?_, ?_⟩
  · intro x y hx hy lx ly k hq
    rcases hq with hq | ⟨hl, _⟩
    · exact h.up x y hx hy lx ly k hq
    · exact absurd hl (by simp [Ly, hc])
  · intro x y _ _ _ _ hd
    rcases hd with h | ⟨_, h⟩ <;> exact absurd h (Nat.not_lt_zero _)

theorem fw_next_c {n : Nat} {E : Nat → Nat → Prop} {lo : Nat → Bool} {c : Nat} {T : Nat → Int} (h : FW n E lo c n 0 T) : FW n E lo (c + 1) 0 0 T := by
  refine ⟨h.rng, h.snd, ?_, ?_⟩
  · intro x y hx hy lx ly k hq
    exact h.upd x y hx hy lx ly (Or.inl hx) k hq
  · intro x y _ _ _ _ hd
    rcases hd with h | ⟨_, h⟩ <;> exact absurd h (Nat.not_lt_zero _)

theorem fw_skip_a {n : Nat} {E : Nat → Nat → Prop} {lo : Nat → Bool} {c a : Nat} {T : Nat → Int} (h : FW n E lo c a 0 T) (ha : lo a = false) : FW n E lo c (a + 1) 0 T := by
  refine ⟨h.rng, h.snd, h.up, ?_⟩
  intro x y hx hy lx ly hd k hq
  rcases hd with hd | ⟨_, hd⟩
  · by_cases e : x = a
    · subst e; rw [ha] at lx; cases lx
    · exact h.upd x y hx hy lx ly (Or.inl (by omega)) k hq
  · exact absurd hd (Nat.not_lt_zero _)

theorem fw_next_a {n : Nat} {E : Nat → Nat → Prop} {lo : Nat → Bool} {c a : Nat} {T : Nat → Int} (h : FW n E lo c a n T) : FW n E lo c (a + 1) 0 T := by
  refine ⟨h.rng, h.snd, h.up, ?_⟩
  intro x y hx hy lx ly hd k hq
  rcases hd with hd | ⟨_, hd⟩
  · by_cases e : x = a
    · exact h.upd x y hx hy lx ly (Or.inr ⟨e, hy⟩) k hq
    · exact h.upd x y hx hy lx ly (Or.inl (by omega)) k hq
  · exact absurd hd (Nat.not_lt_zero _)

theorem fw_skip_b {n : Nat} {E : Nat → Nat → Prop} {lo : Nat → Bool} {c a b : Nat} {T : Nat → Int} (h : FW n E lo c a b T) (hc : c < n) (lc : lo c = true)
    (hn : lo b = false ∨ T (a * n + b) ≤ T (a * n + c) + T (c * n + b)) : FW n E lo c a (b + 1) T := by
  refine ⟨h.rng, h.snd, h.up, ?_⟩
  intro x y hx hy lx ly hd k hq
  by_cases hd' : x < a ∨ (x = a ∧ y < b)
  · exact h.upd x y hx hy lx ly hd' k hq
  · have hxa : x = a := by omega
    have hyb : y = b := by omega
    subst hxa hyb
    rcases hn with hn | hn
    · rw [hn] at ly; cases ly
    · rcases hq with hq | ⟨_, k1, k2, h1, h2, hk⟩
      · exact h.up x y hx hy lx ly k hq
      · have g1 := h.up x c hx hc lx lc k1 h1
        have g2 := h.up c y hc hy lc ly k2 h2
        omega

/-- The table with one cell written. -/
def upd (T : Nat → Int) (i : Nat) (v : Int) : Nat → Int := fun j => if j = i then v else T j

theorem upd_same (T : Nat → Int) (i : Nat) (v : Int) : upd T i v i = v := by simp [upd]
theorem upd_other (T : Nat → Int) {i j : Nat} (v : Int) (h : j ≠ i) : upd T i v j = T j := by simp [upd, h]

theorem fw_step_b {n : Nat} {E : Nat → Nat → Prop} {lo : Nat → Bool} {c a b : Nat} {T : Nat → Int} (h : FW n E lo c a b T) (hc : c < n) (ha : a < n) (hb : b < n) (lc : lo c = true)
    (hlt : T (a * n + c) + T (c * n + b) < T (a * n + b)) : FW n E lo c a (b + 1) (upd T (a * n + b) (T (a * n + c) + T (c * n + b))) := by
  have rac := h.rng _ (cell_lt ha hc)
  have rcb := h.rng _ (cell_lt hc hb)
  have rab := h.rng _ (cell_lt ha hb)
  have le : ∀ j, upd T (a * n + b) (T (a * n + c) + T (c * n + b)) j ≤ T j := by
    intro j
    by_cases e : j = a * n + b
    · subst e; rw [upd_same]; omega
    · rw [upd_other _ _ e]; exact Int.le_refl _
  refine ⟨?_, ?_, ?_, ?_⟩
  · intro i hi
    by_cases e : i = a * n + b
    · subst e; rw [upd_same]; omega
    · rw [upd_other _ _ e]; exact h.rng i hi
  · intro x y hx hy
    by_cases e : x * n + y = a * n + b
    · obtain ⟨rfl, rfl⟩ := cell_inj hy hb e
      rw [upd_same]
      intro _
      have w1 := h.snd x c hx hc (by omega)
      have w2 := h.snd c y hc hy (by omega)
      have := W_trans w1 w2
      rw [show (T (x * n + c)).toNat + (T (c * n + y)).toNat = (T (x * n + c) + T (c * n + y)).toNat from by omega] at this
      exact this
    · rw [upd_other _ _ e]; exact h.snd x y hx hy
  · intro x y hx hy lx ly k hq
    exact Int.le_trans (le _) (h.up x y hx hy lx ly k hq)
  · intro x y hx hy lx ly hd k hq
    by_cases hd' : x < a ∨ (x = a ∧ y < b)
    · exact Int.le_trans (le _) (h.upd x y hx hy lx ly hd' k hq)
    · have hxa : x = a := by omega
      have hyb : y = b := by omega
      subst hxa hyb
      rcases hq with hq | ⟨_, k1, k2, h1, h2, hk⟩
      · exact Int.le_trans (le _) (h.up x y hx hy lx ly k hq)
      · have g1 := h.up x c hx hc lx lc k1 h1
        have g2 := h.up c y hc hy lc ly k2 h2
        rw [upd_same]
        omega

/-- All nodes are tried: the table holds the distances. -/
theorem fw_end {n : Nat} {E : Nat → Nat → Prop} {lo : Nat → Bool} {T : Nat → Int} (h : FW n E lo n 0 0 T) (hn : n < 1048576)
    (hE : ∀ a b, E a b → a < n ∧ b < n ∧ lo a = true) {x y : Nat} (hx : x < n) (hy : y < n) (lx : lo x = true) (ly : lo y = true) :
    (T (x * n + y) < 1048576 → T (x * n + y) ≤ n) ∧ ∀ r : Nat, (T (x * n + y) < 1048576 ∧ T (x * n + y) ≤ r) ↔ W E r x y := by
  have key : ∀ k : Nat, W E k x y → T (x * n + y) ≤ k := fun k hk =>
    h.up x y hx hy lx ly k (W_Q (fun a b he => ⟨(hE a b he).1, (hE a b he).2.2⟩) hk)
  have bound : ∀ k : Nat, W E k x y → T (x * n + y) ≤ n := fun k hk =>
    key n (W_bound (fun a b he => ⟨(hE a b he).1, (hE a b he).2.1⟩) hk)
  refine ⟨fun hlt => bound _ (h.snd x y hx hy hlt), fun r => ⟨?_, ?_⟩⟩
  · rintro ⟨hlt, hr⟩
    have := (h.rng _ (cell_lt hx hy)).1
    exact W_mono (by omega) (h.snd x y hx hy hlt)
  · intro hw
    have b1 := bound r hw
    exact ⟨by omega, key r hw⟩

/-! ### The last loops: 'connected' and 'diam' -/
structure Last (n : Nat) (lo : Nat → Bool) (T : Nat → Int) (a b : Nat) (con : Bool) (dia : Int) : Prop where
  con : con = true ↔ ∀ x y, x < n → y < n → lo x = true → lo y = true → (x < a ∨ (x = a ∧ y < b)) → T (x * n + y) < 1048576
  rng : 0 ≤ dia ∧ dia < 1048576
  ub : ∀ x y, x < n → y < n → lo x = true → lo y = true → (x < a ∨ (x = a ∧ y < b)) → T (x * n + y) < 1048576 → T (x * n + y) ≤ dia
  at' : dia = 0 ∨ ∃ x y, x < n ∧ y < n ∧ lo x = true ∧ lo y = true ∧ T (x * n + y) = dia

theorem last_start (n : Nat) (lo : Nat → Bool) (T : Nat → Int) : Last n lo T 0 0 true 0 := by
  refine ⟨⟨fun _ x y _ _ _ _ hd => ?_, fun _ => rfl⟩, by omega, fun x y _ _ _ _ hd => ?_, Or.inl rfl⟩ <;>
  rcases hd with h | ⟨_, h⟩ <;> exact absurd h (Nat.not_lt_zero _)

theorem last_next_a {n : Nat} {lo : Nat → Bool} {T : Nat → Int} {a : Nat} {con : Bool} {dia : Int} (h : Last n lo T a n con dia) : Last n lo T (a + 1) 0 con dia := by
  have tr : ∀ x y, y < n → (x < a + 1 ∨ (x = a + 1 ∧ y < 0)) → (x < a ∨ (x = a ∧ y < n)) := by intro x y _ _; omega
  refine ⟨⟨fun hc x y hx hy lx ly hd => h.con.1 hc x y hx hy lx ly (tr x y hy hd), fun hh => h.con.2 fun x y hx hy lx ly hd => hh x y hx hy lx ly (by omega)⟩, h.rng,
    fun x y hx hy lx ly hd => h.ub x y hx hy lx ly (tr x y hy hd), h.at'⟩

theorem last_skip {n : Nat} {lo : Nat → Bool} {T : Nat → Int} {a b : Nat} {con : Bool} {dia : Int} (h : Last n lo T a b con dia) (hn : lo a = false ∨ lo b = false) : Last n lo T a (b + 1) con dia := by
  have tr : ∀ x y, lo x = true → lo y = true → (x < a ∨ (x = a ∧ y < b + 1)) → (x < a ∨ (x = a ∧ y < b)) := by
    intro x y lx ly hd
    by_cases e : x = a ∧ y = b
    · obtain ⟨rfl, rfl⟩ := e
      rcases hn with hn | hn
      · rw [hn] at lx; cases lx
      · rw [hn] at ly; cases ly
    · omega
  refine ⟨⟨fun hc x y hx hy lx ly hd => h.con.1 hc x y hx hy lx ly (tr x y lx ly hd), fun hh => h.con.2 fun x y hx hy lx ly hd => hh x y hx hy lx ly (by omega)⟩, h.rng,
    fun x y hx hy lx ly hd => h.ub x y hx hy lx ly (tr x y lx ly hd), h.at'⟩

theorem last_far {n : Nat} {lo : Nat → Bool} {T : Nat → Int} {a b : Nat} {con : Bool} {dia : Int} (h : Last n lo T a b con dia) (ha : a < n) (hb : b < n) (la : lo a = true) (lb : lo b = true)
    (hf : 1048576 ≤ T (a * n + b)) : Last n lo T a (b + 1) false dia := by
  refine ⟨⟨fun hc => (by cases hc), fun hh => ?_⟩, h.rng, fun x y hx hy lx ly hd hlt => ?_, h.at'⟩
  · have := hh a b ha hb la lb (Or.inr ⟨rfl, Nat.lt_succ_self _⟩)
    omega
  · by_cases e : x = a ∧ y = b
    · obtain ⟨rfl, rfl⟩ := e; omega
    · exact h.ub x y hx hy lx ly (by omega) hlt

theorem last_near {n : Nat} {lo : Nat → Bool} {T : Nat → Int} {a b : Nat} {con : Bool} {dia dia' : Int} (h : Last n lo T a b con dia) (ha : a < n) (hb : b < n) (la : lo a = true) (lb : lo b = true)
    (hf : T (a * n + b) < 1048576) (hd : (dia < T (a * n + b) ∧ dia' = T (a * n + b)) ∨ (T (a * n + b) ≤ dia ∧ dia' = dia)) : Last n lo T a (b + 1) con dia' := by
  have hr := h.rng
  refine ⟨⟨fun hc x y hx hy lx ly hd => ?_, fun hh => h.con.2 fun x y hx hy lx ly hd => hh x y hx hy lx ly (by omega)⟩, by omega, fun x y hx hy lx ly hdd hlt => ?_, ?_⟩
  · by_cases e : x = a ∧ y = b
    · obtain ⟨rfl, rfl⟩ := e; exact hf
    · exact h.con.1 hc x y hx hy lx ly (by omega)
  · by_cases e : x = a ∧ y = b
    · obtain ⟨rfl, rfl⟩ := e; omega
    · have := h.ub x y hx hy lx ly (by omega) hlt
      omega
  · rcases hd with ⟨_, hd⟩ | ⟨_, hd⟩
    · exact Or.inr ⟨a, b, ha, hb, la, lb, hd.symm⟩
    · rw [hd]; exact h.at'

/-- Every loyal node reaches every other in at most r steps. -/
def AllW (n : Nat) (E : Nat → Nat → Prop) (lo : Nat → Bool) (r : Nat) : Prop := ∀ x y, x < n → y < n → lo x = true → lo y = true → W E r x y

theorem last_end {n : Nat} {E : Nat → Nat → Prop} {lo : Nat → Bool} {T : Nat → Int} {con : Bool} {dia : Int} (h : FW n E lo n 0 0 T) (hl : Last n lo T n 0 con dia) (hn : n < 1048576)
    (hE : ∀ a b, E a b → a < n ∧ b < n ∧ lo a = true) :
    0 ≤ dia ∧ dia ≤ n ∧ ∀ r : Nat, (con = true ∧ dia ≤ r) ↔ AllW n E lo r := by
  refine ⟨hl.rng.1, ?_, fun r => ⟨?_, ?_⟩⟩
  · rcases hl.at' with h0 | ⟨x, y, hx, hy, lx, ly, e⟩
    · omega
    · have := (fw_end h hn hE hx hy lx ly).1
      have := hl.rng.2
      omega
  · rintro ⟨hc, hd⟩ x y hx hy lx ly
    have hlt := hl.con.1 hc x y hx hy lx ly (Or.inl hx)
    have hub := hl.ub x y hx hy lx ly (Or.inl hx) hlt
    exact ((fw_end h hn hE hx hy lx ly).2 r).1 ⟨hlt, by omega⟩
  · intro ha
    have g : ∀ x y, x < n → y < n → lo x = true → lo y = true → T (x * n + y) < 1048576 ∧ T (x * n + y) ≤ r := fun x y hx hy lx ly =>
      ((fw_end h hn hE hx hy lx ly).2 r).2 (ha x y hx hy lx ly)
    refine ⟨hl.con.2 fun x y hx hy lx ly _ => (g x y hx hy lx ly).1, ?_⟩
    rcases hl.at' with h0 | ⟨x, y, hx, hy, lx, ly, e⟩
    · omega
    · have := (g x y hx hy lx ly).2
      omega

/-! ### The breadth-first search -/
/-- The j-th of the queue. -/
def qa (q : List Nat) (j : Nat) : Nat := q.getD j 0

theorem qa_mem {q : List Nat} {j : Nat} (h : j < q.length) : qa q j ∈ q := by
  unfold qa
  rw [List.getD_eq_getElem?_getD, List.getElem?_eq_getElem h]
  exact List.getElem_mem h

theorem qa_snoc_lt {q : List Nat} {y j : Nat} (h : j < q.length) : qa (q ++ [y]) j = qa q j := by
  unfold qa
  rw [List.getD_eq_getElem?_getD, List.getD_eq_getElem?_getD, List.getElem?_append_left h]

theorem qa_snoc_eq {q : List Nat} {y : Nat} : qa (q ++ [y]) q.length = y := by
  unfold qa
  simp

theorem mem_qa {q : List Nat} {x : Nat} (h : x ∈ q) : ∃ j, j < q.length ∧ qa q j = x := by
  obtain ⟨j, hj, e⟩ := List.getElem_of_mem h
  refine ⟨j, hj, ?_⟩
  unfold qa
  rw [List.getD_eq_getElem?_getD, List.getElem?_eq_getElem hj]
  exact e

/-- What the queue q and the distances d hold when the first i of the queue have been left behind, and of the i-th one's row the first t. -/
structure BFS (n : Nat) (E : Nat → Nat → Prop) (lo : Nat → Bool) (row : Nat → List Nat) (r : Int) (src : Nat) (q : List Nat) (d : Nat → Int) (i t : Nat) : Prop where
  nd : q.Nodup
  inr : ∀ x ∈ q, x < n ∧ lo x = true
  src0 : src ∈ q ∧ d src = 0
  pos : ∀ x ∈ q, 0 ≤ d x
  neg : ∀ x, x < n → x ∉ q → d x = -1
  snd : ∀ x ∈ q, W E (d x).toNat src x
  lim : ∀ x ∈ q, d x ≤ r ∨ x = src
  srt : ∀ j k, j ≤ k → k < q.length → d (qa q j) ≤ d (qa q k)
  exp : ∀ j, j < i → ∀ y, E (qa q j) y → y ∈ q ∧ d y ≤ d (qa q j) + 1
  near : i < q.length → ∀ x ∈ q, d x ≤ d (qa q i) + 1
  ile : i ≤ q.length
  cur : ∀ y ∈ (row (qa q i)).take t, lo y = true → y ∈ q ∧ d y ≤ d (qa q i) + 1

theorem bfs_start {n : Nat} {E : Nat → Nat → Prop} {lo : Nat → Bool} {row : Nat → List Nat} {r : Int} {src : Nat} {d : Nat → Int} (hs : src < n) (ls : lo src = true)
    (hd0 : d src = 0) (hd : ∀ x, x < n → x ≠ src → d x = -1) : BFS n E lo row r src [src] d 0 0 := by
  refine ⟨by simp, ?_, by simp [hd0], ?_, ?_, ?_, ?_, ?_, ?_, ?_, ?_, ?_⟩
  · intro x hx; rw [List.mem_singleton.1 hx]; exact ⟨hs, ls⟩
  · intro x hx; rw [List.mem_singleton.1 hx, hd0]; omega
  · intro x hx hq; exact hd x hx (fun e => hq (by rw [e]; simp))
  · intro x hx; rw [List.mem_singleton.1 hx, hd0]; exact W_refl _ _ _
  · intro x hx; exact Or.inr (List.mem_singleton.1 hx)
  · intro j k hjk hk
    have hk0 : k = 0 := by simpa using hk
    have hj0 : j = 0 := by omega
    subst hk0 hj0
    exact Int.le_refl _
  · intro j hj; exact absurd hj (Nat.not_lt_zero _)
  · intro _ x hx
    rw [List.mem_singleton.1 hx]
    show d src ≤ d src + 1
    omega
  · simp
  · intro y hy; simp at hy

/-- The next of the row is a traitor, or has been met. -/
theorem bfs_skip {n : Nat} {E : Nat → Nat → Prop} {lo : Nat → Bool} {row : Nat → List Nat} {r : Int} {src : Nat} {q : List Nat} {d : Nat → Int} {i t y : Nat} (h : BFS n E lo row r src q d i t)
    (hi : i < q.length) (ht : (row (qa q i))[t]? = some y) (hy : y < n) (hn : lo y = false ∨ 0 ≤ d y) : BFS n E lo row r src q d i (t + 1) := by
  refine ⟨h.nd, h.inr, h.src0, h.pos, h.neg, h.snd, h.lim, h.srt, h.exp, h.near, h.ile, ?_⟩
  intro x hx lx
  rw [List.take_add_one, ht] at hx
  rcases List.mem_append.1 hx with hx | hx
  · exact h.cur x hx lx
  · have e : x = y := by simpa using hx
    subst e
    rcases hn with hn | hn
    · rw [hn] at lx; cases lx
    · have hm : x ∈ q := by
        refine Classical.byContradiction fun hm => ?_
        have := h.neg x hy hm
        omega
      exact ⟨hm, h.near hi x hm⟩

/-- The distances with one written. -/
theorem bfs_add {n : Nat} {E : Nat → Nat → Prop} {lo : Nat → Bool} {row : Nat → List Nat} {r : Int} {src : Nat} {q : List Nat} {d : Nat → Int} {i t y : Nat} (h : BFS n E lo row r src q d i t)
    (hi : i < q.length) (ht : (row (qa q i))[t]? = some y) (hy : y < n) (ly : lo y = true) (hneg : d y < 0) (hr : d (qa q i) < r) (hE : E (qa q i) y) :
    BFS n E lo row r src (q ++ [y]) (upd d y (d (qa q i) + 1)) i (t + 1) := by
  have hyq : y ∉ q := fun hm => by have := h.pos y hm; omega
  have old : ∀ x ∈ q, upd d y (d (qa q i) + 1) x = d x := fun x hx => upd_other _ _ (fun e => hyq (e ▸ hx))
  have hqi := qa_mem hi
  have hqi' : qa (q ++ [y]) i = qa q i := qa_snoc_lt hi
  have dqi := old _ hqi
  have posi := h.pos _ hqi
  have dy : upd d y (d (qa q i) + 1) y = d (qa q i) + 1 := upd_same _ _ _
  have mem : ∀ x, x ∈ q ++ [y] ↔ x ∈ q ∨ x = y := fun x => by simp
  refine ⟨?_, ?_, ?_, ?_, ?_, ?_, ?_, ?_, ?_, ?_, ?_, ?_⟩
  · rw [List.nodup_append]
    refine ⟨h.nd, by simp, ?_⟩
    intro a ha b hb e
    have : b = y := by simpa using hb
    subst e; subst this
    exact hyq ha
  · intro x hx
    rcases (mem x).1 hx with hx | hx
    · exact h.inr x hx
    · rw [hx]; exact ⟨hy, ly⟩
  · exact ⟨(mem _).2 (Or.inl h.src0.1), by rw [old _ h.src0.1]; exact h.src0.2⟩
  · intro x hx
    rcases (mem x).1 hx with hx | hx
    · rw [old x hx]; exact h.pos x hx
    · rw [hx, dy]; omega
  · intro x hx hm
    have h1 : x ∉ q := fun e => hm ((mem x).2 (Or.inl e))
    have h2 : x ≠ y := fun e => hm ((mem x).2 (Or.inr e))
    rw [upd_other _ _ h2]
    exact h.neg x hx h1
  · intro x hx
    rcases (mem x).1 hx with hx | hx
    · rw [old x hx]; exact h.snd x hx
    · rw [hx, dy]
      have := W_trans (h.snd _ hqi) (W_one hE)
      rw [show (d (qa q i)).toNat + 1 = (d (qa q i) + 1).toNat from by omega] at this
      exact this
  · intro x hx
    rcases (mem x).1 hx with hx | hx
    · rw [old x hx]; exact h.lim x hx
    · rw [hx, dy]; exact Or.inl (by omega)
  · intro j k hjk hk
    have hk' : k < q.length + 1 := by simpa using hk
    by_cases ek : k = q.length
    · subst ek
      rw [qa_snoc_eq, dy]
      by_cases ej : j = q.length
      · subst ej; rw [qa_snoc_eq, dy]; exact Int.le_refl _
      · have hj : j < q.length := by omega
        rw [qa_snoc_lt hj, old _ (qa_mem hj)]
        exact h.near hi _ (qa_mem hj)
    · have hk2 : k < q.length := by omega
      have hj : j < q.length := by omega
      rw [qa_snoc_lt hj, qa_snoc_lt hk2, old _ (qa_mem hj), old _ (qa_mem hk2)]
      exact h.srt j k hjk hk2
  · intro j hj x hx
    have hjl : j < q.length := by omega
    rw [qa_snoc_lt hjl] at hx ⊢
    rw [old _ (qa_mem hjl)]
    have := h.exp j hj x hx
    exact ⟨(mem x).2 (Or.inl this.1), by rw [old x this.1]; exact this.2⟩
  · intro _ x hx
    rw [hqi', dqi]
    rcases (mem x).1 hx with hx | hx
    · rw [old x hx]; exact h.near hi x hx
    · rw [hx, dy]; exact Int.le_refl _
  · have := h.ile
    simp only [List.length_append, List.length_cons, List.length_nil]
    omega
  · intro x hx lx
    rw [hqi'] at hx ⊢
    rw [dqi]
    rw [List.take_add_one, ht] at hx
    rcases List.mem_append.1 hx with hx | hx
    · have := h.cur x hx lx
      exact ⟨(mem x).2 (Or.inl this.1), by rw [old x this.1]; exact this.2⟩
    · have e : x = y := by simpa using hx
      rw [e, dy]
      exact ⟨(mem y).2 (Or.inr rfl), Int.le_refl _⟩

/-- The whole row has been seen. -/
theorem bfs_next {n : Nat} {E : Nat → Nat → Prop} {lo : Nat → Bool} {row : Nat → List Nat} {r : Int} {src : Nat} {q : List Nat} {d : Nat → Int} {i t : Nat} (h : BFS n E lo row r src q d i t)
    (hi : i < q.length) (ht : (row (qa q i)).length ≤ t) (hE : ∀ y, E (qa q i) y → y ∈ row (qa q i) ∧ lo y = true) : BFS n E lo row r src q d (i + 1) 0 := by
  refine ⟨h.nd, h.inr, h.src0, h.pos, h.neg, h.snd, h.lim, h.srt, ?_, ?_, by omega, by intro y hy; simp at hy⟩
  · intro j hj y hy
    by_cases e : j = i
    · subst e
      have := hE y hy
      exact h.cur y (by rw [List.take_of_length_le ht]; exact this.1) this.2
    · exact h.exp j (by omega) y hy
  · intro hi1 x hx
    have h1 := h.near hi x hx
    have h2 := h.srt i (i + 1) (by omega) hi1
    omega

/-- Behind the loop: as many are in the queue as are loyal just when every loyal one is reached in at most r steps. -/
theorem bfs_end {n : Nat} {E : Nat → Nat → Prop} {lo : Nat → Bool} {row : Nat → List Nat} {r : Int} {src : Nat} {q : List Nat} {d : Nat → Int} {i t : Nat} (h : BFS n E lo row r src q d i t)
    (hx : q.length ≤ i ∨ r ≤ d (qa q i)) (hc : 2 ≤ (loyals n lo).length) :
    (loyals n lo).length ≤ q.length ↔ (0 ≤ r ∧ ∀ x, x < n → lo x = true → W E r.toNat src x) := by
  have sub : ∀ x ∈ q, x ∈ loyals n lo := fun x hx => mem_loyals.2 (h.inr x hx)
  have comp : ∀ k : Nat, (k : Int) ≤ r → ∀ x, W E k src x → x ∈ q ∧ d x ≤ k := by
    intro k
    induction k with
    | zero => intro _ x hw; cases hw; exact ⟨h.src0.1, by rw [h.src0.2]; omega⟩
    | succ k ih =>
      intro hk x hw
      rcases hw with hw | ⟨y, hw, he⟩
      · have := ih (by omega) x hw
        exact ⟨this.1, by omega⟩
      · obtain ⟨hyq, hdy⟩ := ih (by omega) y hw
        obtain ⟨j, hj, e⟩ := mem_qa hyq
        by_cases hji : j < i
        · have := h.exp j hji x (by rw [e]; exact he)
          rw [e] at this
          exact ⟨this.1, by omega⟩
        · exfalso
          rcases hx with hx | hx
          · omega
          · have := h.srt i j (by omega) hj
            rw [e] at this
            omega
  constructor
  · intro hlen
    have full := nodup_full h.nd sub hlen
    have h0 : 0 ≤ r := by
      refine Classical.byContradiction fun hneg => ?_
      have one : ∀ x ∈ q, x ∈ [src] := fun x hx => by
        rcases h.lim x hx with hl | hl
        · have := h.pos x hx; omega
        · rw [hl]; simp
      have := nodup_length h.nd one
      simp only [List.length_cons, List.length_nil] at this
      omega
    refine ⟨h0, fun x hx lx => ?_⟩
    have hm := full x (mem_loyals.2 ⟨hx, lx⟩)
    rcases h.lim x hm with hl | hl
    · have := h.pos x hm
      exact W_mono (by omega) (h.snd x hm)
    · rw [hl]; exact W_refl _ _ _
  · rintro ⟨h0, hall⟩
    refine nodup_length (loyals_nodup n lo) (fun x hx => ?_)
    have := mem_loyals.1 hx
    exact (comp r.toNat (by omega) x (hall x this.1 this.2)).1

/-- There is room for one more in the queue. -/
theorem bfs_room {n : Nat} {E : Nat → Nat → Prop} {lo : Nat → Bool} {row : Nat → List Nat} {r : Int} {src : Nat} {q : List Nat} {d : Nat → Int} {i t y : Nat} (h : BFS n E lo row r src q d i t)
    (hy : y < n) (ly : lo y = true) (hneg : d y < 0) : q.length + 1 ≤ (loyals n lo).length := by
  have hyq : y ∉ q := fun hm => by have := h.pos y hm; omega
  have := nodup_length (q := y :: q) (l := loyals n lo) (List.nodup_cons.2 ⟨hyq, h.nd⟩) (fun x hx => by
    rcases List.mem_cons.1 hx with e | e
    · rw [e]; exact mem_loyals.2 ⟨hy, ly⟩
    · exact mem_loyals.2 (h.inr x e))
  simpa using this

theorem bfs_len {n : Nat} {E : Nat → Nat → Prop} {lo : Nat → Bool} {row : Nat → List Nat} {r : Int} {src : Nat} {q : List Nat} {d : Nat → Int} {i t : Nat} (h : BFS n E lo row r src q d i t) :
    q.length ≤ (loyals n lo).length := nodup_length h.nd (fun x hx => mem_loyals.2 (h.inr x hx))

end Go.Proofs.Qxb6613861a.Plain
