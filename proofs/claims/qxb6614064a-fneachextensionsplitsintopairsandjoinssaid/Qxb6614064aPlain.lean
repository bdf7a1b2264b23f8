/-
  THE PLAIN MATHEMATICS: a text cut into words at single spaces; the words paired. No Go in sight.
-/
namespace Go.Proofs.Qxb6614064a.Plain

/-- No space in it. -/
def NoSp (l : List UInt8) : Prop := ∀ c ∈ l, c ≠ 32

/-- The words that single spaces separate; the empty text is one empty word. -/
def words : List UInt8 → List (List UInt8)
  | [] => [[]]
  | c :: r => if c = 32 then [] :: words r else
    match words r with
    | [] => [[c]]
    | w :: ws => (c :: w) :: ws

theorem words_ne (l : List UInt8) : words l ≠ [] := by
  cases l with
  | nil => simp [words]
  | cons c r =>
    unfold words
    split
    · simp
    · split <;> simp

theorem words_cut {p : List UInt8} (h : NoSp p) (r : List UInt8) : words (p ++ 32 :: r) = p :: words r := by
  induction p with
  | nil => simp [words]
  | cons c p ih =>
    have hc : c ≠ 32 := h c (by simp)
    have := ih (fun x hx => h x (by simp [hx]))
    simp only [List.cons_append]
    rw [words, if_neg hc, this]

theorem words_one {p : List UInt8} (h : NoSp p) : words p = [p] := by
  induction p with
  | nil => simp [words]
  | cons c p ih =>
    have hc : c ≠ 32 := h c (by simp)
    have := ih (fun x hx => h x (by simp [hx]))
    rw [words, if_neg hc, this]

/-- Every text is a word, or a word, a space and a text. -/
theorem cut_cases (l : List UInt8) : NoSp l ∨ ∃ p r, l = p ++ 32 :: r ∧ NoSp p := by
  induction l with
  | nil => left; intro c hc; simp at hc
  | cons c l ih =>
    by_cases hc : c = 32
    · right; exact ⟨[], l, by simp [hc], fun x hx => by simp at hx⟩
    · rcases ih with h | ⟨p, r, rfl, h⟩
      · left
        intro x hx
        rcases List.mem_cons.1 hx with e | e
        · rw [e]; exact hc
        · exact h x e
      · right
        refine ⟨c :: p, r, rfl, ?_⟩
        intro x hx
        rcases List.mem_cons.1 hx with e | e
        · rw [e]; exact hc
        · exact h x e

/-- An induction on the words. -/
theorem words_ind {M : List UInt8 → Prop} (h1 : ∀ p, NoSp p → M p) (h2 : ∀ p r, NoSp p → M r → M (p ++ 32 :: r)) (l : List UInt8) : M l := by
  have key : ∀ n, ∀ l : List UInt8, l.length ≤ n → M l := by
    intro n
    induction n with
    | zero =>
      intro l hl
      have : l = [] := by cases l with
        | nil => rfl
        | cons _ _ => simp at hl
      subst this
      exact h1 [] (fun x hx => by simp at hx)
    | succ n ih =>
      intro l hl
      rcases cut_cases l with h | ⟨p, r, rfl, h⟩
      · exact h1 l h
      · refine h2 p r h (ih r ?_)
        simp only [List.length_append, List.length_cons] at hl
        omega
  exact key l.length l (Nat.le_refl _)

theorem words_join (a b : List UInt8) : words (a ++ 32 :: b) = words a ++ words b := by
  refine words_ind (M := fun a => words (a ++ 32 :: b) = words a ++ words b) ?_ ?_ a
  · intro p h; rw [words_cut h, words_one h]; rfl
  · intro p r h ih
    rw [List.append_assoc, List.cons_append, words_cut h, words_cut h, ih]; rfl

theorem words_nosp (l : List UInt8) : ∀ w ∈ words l, NoSp w := by
  refine words_ind (M := fun l => ∀ w ∈ words l, NoSp w) ?_ ?_ l
  · intro p h w hw; rw [words_one h] at hw; rw [List.mem_singleton.1 hw]; exact h
  · intro p r h ih w hw
    rw [words_cut h] at hw
    rcases List.mem_cons.1 hw with e | e
    · rw [e]; exact h
    · exact ih w e

/-- How many spaces. -/
def spaces (l : List UInt8) : Nat := l.countP (fun c => c == 32)

theorem spaces_nosp {p : List UInt8} (h : NoSp p) : spaces p = 0 := by
  unfold spaces
  rw [List.countP_eq_zero]
  intro c hc
  simpa using h c hc

theorem spaces_append (a b : List UInt8) : spaces (a ++ b) = spaces a + spaces b := by simp [spaces]

theorem words_length (l : List UInt8) : (words l).length = spaces l + 1 := by
  refine words_ind (M := fun l => (words l).length = spaces l + 1) ?_ ?_ l
  · intro p h; rw [words_one h, spaces_nosp h]; rfl
  · intro p r h ih
    rw [words_cut h, spaces_append, spaces_nosp h, List.length_cons, ih]
    simp only [spaces, List.countP_cons]
    simp

/-- The words written with single spaces between them. -/
def joinW : List (List UInt8) → List UInt8
  | [] => []
  | [w] => w
  | w :: ws => w ++ 32 :: joinW ws

theorem joinW_cons (w : List UInt8) {ws : List (List UInt8)} (h : ws ≠ []) : joinW (w :: ws) = w ++ 32 :: joinW ws := by
  cases ws with
  | nil => exact absurd rfl h
  | cons v vs => rfl

theorem joinW_words (l : List UInt8) : joinW (words l) = l := by
  refine words_ind (M := fun l => joinW (words l) = l) ?_ ?_ l
  · intro p h; rw [words_one h]; rfl
  · intro p r h ih; rw [words_cut h, joinW_cons _ (words_ne r), ih]

theorem joinW_append {us vs : List (List UInt8)} (hu : us ≠ []) (hv : vs ≠ []) : joinW (us ++ vs) = joinW us ++ 32 :: joinW vs := by
  induction us with
  | nil => exact absurd rfl hu
  | cons u us ih =>
    by_cases h : us = []
    · subst h
      show joinW (u :: vs) = _
      rw [joinW_cons _ hv]; rfl
    · have hne : us ++ vs ≠ [] := by simp [h]
      rw [List.cons_append, joinW_cons _ hne, ih h, joinW_cons _ h, List.append_assoc, List.cons_append]

/-- The first of each pair; the second of each pair. -/
def firsts {α : Type} : List α → List α
  | a :: _ :: r => a :: firsts r
  | _ => []
def seconds {α : Type} : List α → List α
  | _ :: b :: r => b :: seconds r
  | _ => []

theorem pairs_ind {α : Type} {M : List α → Prop} (h0 : M []) (h1 : ∀ a, M [a]) (h2 : ∀ a b r, M r → M (a :: b :: r)) (l : List α) : M l := by
  have key : ∀ n, ∀ l : List α, l.length ≤ n → M l := by
    intro n
    induction n with
    | zero =>
      intro l hl
      cases l with
      | nil => exact h0
      | cons _ _ => simp at hl
    | succ n ih =>
      intro l hl
      match l, hl with
      | [], _ => exact h0
      | [a], _ => exact h1 a
      | a :: b :: r, hl => exact h2 a b r (ih r (by simp at hl; omega))
  exact key l.length l (Nat.le_refl _)

theorem firsts_length {α : Type} (l : List α) : (firsts l).length = l.length / 2 := by
  refine pairs_ind (M := fun l : List α => (firsts l).length = l.length / 2) (by simp [firsts]) (fun _ => by simp [firsts]) ?_ l
  intro a b r ih
  simp only [firsts, List.length_cons, ih]
  omega

theorem seconds_length {α : Type} (l : List α) : (seconds l).length = l.length / 2 := by
  refine pairs_ind (M := fun l : List α => (seconds l).length = l.length / 2) (by simp [seconds]) (fun _ => by simp [seconds]) ?_ l
  intro a b r ih
  simp only [seconds, List.length_cons, ih]
  omega

theorem firsts_append {α : Type} {l : List α} (m : List α) (h : l.length % 2 = 0) : firsts (l ++ m) = firsts l ++ firsts m := by
  revert h
  refine pairs_ind (M := fun l : List α => l.length % 2 = 0 → firsts (l ++ m) = firsts l ++ firsts m) (fun _ => rfl) (fun _ h => by simp at h) ?_ l
  intro a b r ih h
  have := ih (by simp at h; omega)
  simp only [List.cons_append, firsts, this]

theorem seconds_append {α : Type} {l : List α} (m : List α) (h : l.length % 2 = 0) : seconds (l ++ m) = seconds l ++ seconds m := by
  revert h
  refine pairs_ind (M := fun l : List α => l.length % 2 = 0 → seconds (l ++ m) = seconds l ++ seconds m) (fun _ => rfl) (fun _ h => by simp at h) ?_ l
  intro a b r ih h
  have := ih (by simp at h; omega)
  simp only [List.cons_append, seconds, this]

theorem firsts_even {α : Type} {l : List α} (x : α) (h : l.length % 2 = 0) : firsts (l ++ [x]) = firsts l := by rw [firsts_append _ h]; simp [firsts]
theorem seconds_even {α : Type} {l : List α} (x : α) (h : l.length % 2 = 0) : seconds (l ++ [x]) = seconds l := by rw [seconds_append _ h]; simp [seconds]
theorem firsts_odd {α : Type} {l : List α} (y x : α) (h : l.length % 2 = 0) : firsts (l ++ [y] ++ [x]) = firsts (l ++ [y]) ++ [y] := by
  rw [firsts_even y h, List.append_assoc, firsts_append _ h]; simp [firsts]
theorem seconds_odd {α : Type} {l : List α} (y x : α) (h : l.length % 2 = 0) : seconds (l ++ [y] ++ [x]) = seconds (l ++ [y]) ++ [x] := by
  rw [seconds_even y h, List.append_assoc, seconds_append _ h]; simp [seconds]

theorem firsts_mem {α : Type} {l : List α} {x : α} : x ∈ firsts l → x ∈ l := by
  refine pairs_ind (M := fun l : List α => x ∈ firsts l → x ∈ l) (fun h => h) (fun _ h => by simp [firsts] at h) ?_ l
  intro a b r ih h
  simp only [firsts, List.mem_cons] at h ⊢
  rcases h with h | h
  · exact Or.inl h
  · exact Or.inr (Or.inr (ih h))

theorem seconds_mem {α : Type} {l : List α} {x : α} : x ∈ seconds l → x ∈ l := by
  refine pairs_ind (M := fun l : List α => x ∈ seconds l → x ∈ l) (fun h => h) (fun _ h => by simp [seconds] at h) ?_ l
  intro a b r ih h
  simp only [seconds, List.mem_cons] at h ⊢
  rcases h with h | h
  · exact Or.inr (Or.inl h)
  · exact Or.inr (Or.inr (ih h))

theorem firsts_map {α β : Type} (f : α → β) (l : List α) : firsts (l.map f) = (firsts l).map f := by
  refine pairs_ind (M := fun l : List α => firsts (l.map f) = (firsts l).map f) rfl (fun _ => rfl) ?_ l
  intro a b r ih
  simp only [List.map_cons, firsts, ih]
theorem seconds_map {α β : Type} (f : α → β) (l : List α) : seconds (l.map f) = (seconds l).map f := by
  refine pairs_ind (M := fun l : List α => seconds (l.map f) = (seconds l).map f) rfl (fun _ => rfl) ?_ l
  intro a b r ih
  simp only [List.map_cons, seconds, ih]

/-- What zzPairsRebuild writes. -/
def rebuild : List (List UInt8) → List (List UInt8) → Nat → List UInt8
  | _, _, 0 => []
  | ns, vs, k + 1 => (rebuild ns vs k) ++ (if 0 < k then [32] else []) ++ ns.getD k [] ++ [32] ++ vs.getD k []

theorem rebuild_take (ws : List (List UInt8)) (k : Nat) (hk : 2 * k ≤ ws.length) : rebuild (firsts ws) (seconds ws) k = joinW (ws.take (2 * k)) := by
  have get : ∀ (ws : List (List UInt8)) (k : Nat), 2 * k + 1 < ws.length → (firsts ws).getD k [] = ws.getD (2 * k) [] ∧ (seconds ws).getD k [] = ws.getD (2 * k + 1) [] := by
    intro ws
    refine pairs_ind (M := fun ws : List (List UInt8) => ∀ k, 2 * k + 1 < ws.length → (firsts ws).getD k [] = ws.getD (2 * k) [] ∧ (seconds ws).getD k [] = ws.getD (2 * k + 1) []) ?_ ?_ ?_ ws
    · intro k h; simp at h
    · intro a k h; simp at h
    · intro a b r ih k h
      cases k with
      | zero => simp [firsts, seconds]
      | succ k =>
        have := ih k (by simp at h; omega)
        rw [show 2 * (k + 1) = 2 * k + 1 + 1 from by omega]
        simp only [firsts, seconds, List.getD_cons_succ]
        exact this
  induction k with
  | zero => simp [rebuild, joinW]
  | succ k ih =>
    have ih := ih (by omega)
    obtain ⟨g1, g2⟩ := get ws k (by omega)
    have h1 : 2 * k < ws.length := by omega
    have h2 : 2 * k + 1 < ws.length := by omega
    have e : ws.take (2 * (k + 1)) = ws.take (2 * k) ++ [ws.getD (2 * k) [], ws.getD (2 * k + 1) []] := by
      rw [show 2 * (k + 1) = 2 * k + 1 + 1 from by omega, List.take_succ_eq_append_getElem h2, List.take_succ_eq_append_getElem h1, List.append_assoc]
      simp [List.getD_eq_getElem?_getD, List.getElem?_eq_getElem h1, List.getElem?_eq_getElem h2]
    rw [rebuild, ih, g1, g2, e]
    cases k with
    | zero => simp [joinW]
    | succ k =>
      have hne : ws.take (2 * (k + 1)) ≠ [] := by
        intro h
        have := congrArg List.length h
        simp only [List.length_take, List.length_nil] at this
        omega
      rw [joinW_append hne (by simp)]
      simp [joinW]

/-- The last space: its place, and -1 where there is none. -/
def IsLast (l : List UInt8) (i : Int) : Prop := (i = -1 ∧ NoSp l) ∨ ∃ p y, l = p ++ 32 :: y ∧ NoSp y ∧ i = p.length

theorem split_last {l p y : List UInt8} (e : l = p ++ 32 :: y) (hy : NoSp y) : words l = words p ++ [y] := by
  rw [e, words_join, words_one hy]

/-- What the law 'splits and joins' asks of the first text's pairs. -/
theorem rebuild_cut {l : List UInt8} {i : Int} (hi : IsLast l i) :
    rebuild (firsts (words l)) (seconds (words l)) ((spaces l + 1) / 2) = l.take (if spaces l % 2 = 0 then (if i < 0 then 0 else i.toNat) else l.length) := by
  have hw := words_length l
  rw [rebuild_take _ _ (by omega)]
  by_cases h : spaces l % 2 = 0
  · rw [if_pos h]
    rcases hi with ⟨e, hn⟩ | ⟨p, y, e, hy, ei⟩
    · rw [if_pos (by omega)]
      rw [spaces_nosp hn]
      simp [joinW]
    · rw [if_neg (by omega)]
      have hs := split_last e hy
      have hlen : (words p).length = 2 * ((spaces l + 1) / 2) := by
        have := congrArg List.length hs
        simp only [List.length_append, List.length_cons, List.length_nil] at this
        omega
      rw [hs, ← hlen, List.take_left, joinW_words, ei, Int.toNat_natCast, e, List.take_left]
  · rw [if_neg h, List.take_of_length_le (by omega), joinW_words, List.take_of_length_le (Nat.le_refl _)]

end Go.Proofs.Qxb6614064a.Plain
