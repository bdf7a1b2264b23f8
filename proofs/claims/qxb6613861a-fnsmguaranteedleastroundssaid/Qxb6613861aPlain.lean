/-
  THE PLAIN MATHEMATICS: walks in a graph, Floyd and Warshall's recursion, a breadth-first search. No Go in sight.
-/
namespace Go.Proofs.Qxb6613861a.Plain

/-- From a to b in at most k steps along E. -/
def W (E : Nat → Nat → Prop) : Nat → Nat → Nat → Prop
  | 0, a, b => a = b
  | k + 1, a, b => W E k a b ∨ ∃ c, W E k a c ∧ E c b

theorem W_refl (E : Nat → Nat → Prop) (k a : Nat) : W E k a a := by
  induction k with
  | zero => rfl
  | succ k ih => exact Or.inl ih

theorem W_mono {E : Nat → Nat → Prop} {k k' a b : Nat} (h : k ≤ k') (hw : W E k a b) : W E k' a b := by
  induction h with
  | refl => exact hw
  | step _ ih => exact Or.inl ih

theorem W_trans {E : Nat → Nat → Prop} {j a b : Nat} (h1 : W E j a b) : ∀ {k c : Nat}, W E k b c → W E (j + k) a c := by
  intro k
  induction k with
  | zero => intro c h; cases h; exact h1
  | succ k ih =>
    intro c h
    rcases h with h | ⟨x, h, he⟩
    · exact Or.inl (ih h)
    · exact Or.inr ⟨x, ih h, he⟩

theorem W_one {E : Nat → Nat → Prop} {a b : Nat} (h : E a b) : W E 1 a b := Or.inr ⟨a, rfl, h⟩

/-- Floyd and Warshall's own recursion: from a to b in at most k steps, through nodes below c alone. -/
def Q (E : Nat → Nat → Prop) (L : Nat → Prop) : Nat → Nat → Nat → Nat → Prop
  | 0, a, b, k => a = b ∨ (E a b ∧ 1 ≤ k)
  | c + 1, a, b, k => Q E L c a b k ∨ (L c ∧ ∃ k1 k2, Q E L c a c k1 ∧ Q E L c c b k2 ∧ k1 + k2 ≤ k)

theorem Q_mono {E : Nat → Nat → Prop} {L : Nat → Prop} {c a b k k' : Nat} (h : k ≤ k') (hq : Q E L c a b k) : Q E L c a b k' := by
  induction c generalizing a b k k' with
  | zero =>
    rcases hq with hq | ⟨hq, h1⟩
    · exact Or.inl hq
    · exact Or.inr ⟨hq, Nat.le_trans h1 h⟩
  | succ c ih =>
    rcases hq with hq | ⟨hl, k1, k2, h1, h2, hk⟩
    · exact Or.inl (ih h hq)
    · exact Or.inr ⟨hl, k1, k2, h1, h2, Nat.le_trans hk h⟩

theorem Q_up {E : Nat → Nat → Prop} {L : Nat → Prop} {c c' a b k : Nat} (h : c ≤ c') (hq : Q E L c a b k) : Q E L c' a b k := by
  induction h with
  | refl => exact hq
  | step _ ih => exact Or.inl ih

theorem Q_to {E : Nat → Nat → Prop} {L : Nat → Prop} {c a k : Nat} (hq : Q E L (c + 1) a c k) : Q E L c a c k := by
  rcases hq with hq | ⟨_, k1, k2, h1, _, hk⟩
  · exact hq
  · exact Q_mono (by omega) h1

theorem Q_from {E : Nat → Nat → Prop} {L : Nat → Prop} {c b k : Nat} (hq : Q E L (c + 1) c b k) : Q E L c c b k := by
  rcases hq with hq | ⟨_, k1, k2, _, h2, hk⟩
  · exact hq
  · exact Q_mono (by omega) h2

theorem Q_comp {E : Nat → Nat → Prop} {L : Nat → Prop} {c x : Nat} (hx : x < c) (hl : L x) :
    ∀ {a b k1 k2 : Nat}, Q E L c a x k1 → Q E L c x b k2 → Q E L c a b (k1 + k2) := by
  induction c with
  | zero => exact absurd hx (Nat.not_lt_zero _)
  | succ c ih =>
    intro a b k1 k2 h1 h2
    by_cases e : x = c
    · subst e
      exact Or.inr ⟨hl, k1, k2, Q_to h1, Q_from h2, Nat.le_refl _⟩
    · have hx' : x < c := by omega
      rcases h1 with h1 | ⟨hc, p, q, hp, hq, hpq⟩
      · rcases h2 with h2 | ⟨hc, r, s, hr, hs, hrs⟩
        · exact Or.inl (ih hx' h1 h2)
        · exact Or.inr ⟨hc, k1 + r, s, ih hx' h1 hr, hs, by omega⟩
      · rcases h2 with h2 | ⟨_, r, s, hr, hs, hrs⟩
        · exact Or.inr ⟨hc, p, q + k2, hp, ih hx' hq h2, by omega⟩
        · exact Or.inr ⟨hc, p, s, hp, hs, by omega⟩

theorem W_Q {n : Nat} {E : Nat → Nat → Prop} {L : Nat → Prop} (hE : ∀ a b, E a b → a < n ∧ L a) {k a b : Nat} (h : W E k a b) : Q E L n a b k := by
  induction k generalizing b with
  | zero => exact Q_up (Nat.zero_le _) (Or.inl h)
  | succ k ih =>
    rcases h with h | ⟨c, h, he⟩
    · exact Q_mono (Nat.le_succ _) (ih h)
    · exact Q_comp (hE c b he).1 (hE c b he).2 (ih h) (Q_up (Nat.zero_le _) (Or.inr ⟨he, Nat.le_refl _⟩))

/-! ### Lists without repetition -/
theorem nodup_length {q : List Nat} : ∀ {l : List Nat}, q.Nodup → (∀ x ∈ q, x ∈ l) → q.length ≤ l.length := by
  induction q with
  | nil => intro l _ _; exact Nat.zero_le _
  | cons x q ih =>
    intro l hn hs
    have hx : x ∈ l := hs x (by simp)
    have hn' := List.nodup_cons.1 hn
    have := ih (l := l.erase x) hn'.2 (fun y hy => by
      have hne : y ≠ x := fun e => hn'.1 (e ▸ hy)
      exact (List.mem_erase_of_ne hne).2 (hs y (by simp [hy])))
    rw [List.length_erase_of_mem hx] at this
    have hpos : 0 < l.length := List.length_pos_of_mem hx
    simp only [List.length_cons]
    omega

theorem nodup_full {q l : List Nat} (hn : q.Nodup) (hs : ∀ x ∈ q, x ∈ l) (hlen : l.length ≤ q.length) : ∀ x ∈ l, x ∈ q := by
  intro x hx
  by_cases h : x ∈ q
  · exact h
  · have := nodup_length (q := x :: q) (l := l) (List.nodup_cons.2 ⟨h, hn⟩) (fun y hy => by
      rcases List.mem_cons.1 hy with e | e
      · rw [e]; exact hx
      · exact hs y e)
    simp only [List.length_cons] at this
    omega

/-- The loyal ones among 0 .. n - 1. -/
def loyals (n : Nat) (lo : Nat → Bool) : List Nat := (List.range n).filter lo

theorem mem_loyals {n x : Nat} {lo : Nat → Bool} : x ∈ loyals n lo ↔ x < n ∧ lo x = true := by
  simp [loyals]

theorem loyals_nodup (n : Nat) (lo : Nat → Bool) : (loyals n lo).Nodup := by
  unfold loyals
  exact List.Pairwise.filter _ List.nodup_range

theorem loyals_succ (n : Nat) (lo : Nat → Bool) : (loyals (n + 1) lo).length = (loyals n lo).length + (if lo n = true then 1 else 0) := by
  unfold loyals
  rw [List.range_succ, List.filter_append, List.length_append]
  congr 1
  by_cases h : lo n = true <;> simp [h]

theorem loyals_le (n : Nat) (lo : Nat → Bool) : (loyals n lo).length ≤ n := by
  have := List.length_filter_le lo (List.range n)
  simpa [loyals] using this

/-- Who is no traitor: as many as there are generals, less the traitors. -/
theorem loyals_count {n : Nat} {ts : List Nat} (hn : ts.Nodup) (hr : ∀ t ∈ ts, t < n) (lo : Nat → Bool) (hlo : ∀ x, x < n → (lo x = true ↔ x ∉ ts)) :
    (loyals n lo).length + ts.length = n := by
  have h1 : (loyals n lo ++ ts).Nodup := by
    rw [List.nodup_append]
    refine ⟨loyals_nodup n lo, hn, ?_⟩
    intro a ha b hb e
    subst e
    have := mem_loyals.1 ha
    exact ((hlo a this.1).1 this.2) hb
  have h2 := nodup_length (l := List.range n) h1 (fun x hx => by
    rw [List.mem_range]
    rcases List.mem_append.1 hx with h | h
    · exact (mem_loyals.1 h).1
    · exact hr x h)
  have h3 := nodup_length (q := List.range n) (l := loyals n lo ++ ts) List.nodup_range (fun x hx => by
    have hx' := List.mem_range.1 hx
    rw [List.mem_append]
    by_cases h : x ∈ ts
    · exact Or.inr h
    · exact Or.inl (mem_loyals.2 ⟨hx', (hlo x hx').2 h⟩))
  simp only [List.length_append, List.length_range] at h2 h3
  omega

/-! ### A walk can be cut to n steps -/
open Classical in
/-- How many nodes below n are reached from a in at most k steps. -/
theorem W_bound {n : Nat} {E : Nat → Nat → Prop} (hE : ∀ a b, E a b → a < n ∧ b < n) {k a b : Nat} (h : W E k a b) : W E n a b := by
  -- the nodes below n that are reached in at most k steps
  let S : Nat → List Nat := fun k => (List.range n).filter (fun x => decide (W E k a x))
  have memS : ∀ k x, x ∈ S k ↔ x < n ∧ W E k a x := fun k x => by simp [S]
  have ndS : ∀ k, (S k).Nodup := fun k => List.Pairwise.filter _ List.nodup_range
  have leS : ∀ k, (S k).length ≤ n := fun k => by
    have := List.length_filter_le (fun x => decide (W E k a x)) (List.range n)
    simpa [S] using this
  -- once nothing is new, nothing ever is
  have stable : ∀ j, (∀ x, x < n → W E (j + 1) a x → W E j a x) → ∀ m x, x < n → W E (j + m) a x → W E j a x := by
    intro j hj m
    induction m with
    | zero => intro x _ hx; exact hx
    | succ m ih =>
      intro x hxn hx
      rcases hx with hx | ⟨c, hx, he⟩
      · exact ih x hxn hx
      · exact hj x hxn (Or.inr ⟨c, ih c (hE c x he).1 hx, he⟩)
  -- some j ≤ n is such
  have exj : ∃ j, j ≤ n ∧ ∀ x, x < n → W E (j + 1) a x → W E j a x := by
    refine Classical.byContradiction fun hno => ?_
    have grow : ∀ j, j ≤ n + 1 → j ≤ (S j).length := by
      intro j
      induction j with
      | zero => intro _; exact Nat.zero_le _
      | succ j ih =>
        intro hj
        have ihj := ih (by omega)
        have hnj : ¬ ∀ x, x < n → W E (j + 1) a x → W E j a x := fun hh => hno ⟨j, by omega, hh⟩
        obtain ⟨x, hx⟩ := Classical.not_forall.1 hnj
        obtain ⟨hxn, hx⟩ := Classical.not_imp.1 hx
        obtain ⟨hx1, hx0⟩ := Classical.not_imp.1 hx
        have := nodup_length (q := x :: S j) (l := S (j + 1)) (List.nodup_cons.2 ⟨fun hm => hx0 ((memS j x).1 hm).2, ndS j⟩) (fun y hy => by
          rcases List.mem_cons.1 hy with e | e
          · rw [e]; exact (memS (j + 1) x).2 ⟨hxn, hx1⟩
          · exact (memS (j + 1) y).2 ⟨((memS j y).1 e).1, Or.inl ((memS j y).1 e).2⟩)
        simp only [List.length_cons] at this
        omega
    have h1 := grow (n + 1) (Nat.le_refl _)
    have h2 := leS (n + 1)
    omega
  obtain ⟨j, hjn, hj⟩ := exj
  by_cases hkj : k ≤ j
  · exact W_mono (Nat.le_trans hkj hjn) h
  · obtain ⟨m, rfl⟩ : ∃ m, k = j + m := ⟨k - j, by omega⟩
    by_cases hbn : b < n
    · exact W_mono hjn (stable j hj m b hbn h)
    · -- a node from n on is met at the start alone
      have out : ∀ k, W E k a b → a = b := by
        intro k
        induction k with
        | zero => intro h; exact h
        | succ k ih =>
          intro h
          rcases h with h | ⟨c, _, he⟩
          · exact ih h
          · exact absurd (hE c b he).2 hbn
      have := out _ h
      subst this
      exact W_refl _ _ _

end Go.Proofs.Qxb6613861a.Plain
