/-
  THE WALK: zzLinksValid.
-/
import Derived.Test.Qxb6613861aW1
namespace Go.Proofs.Qxb6613861a
open Go.RowKit Go.Deep
attribute [local go_sem] eql_nil22

/-- The call ends in a bool; if that is true, P holds. -/
def Okb (P : Prop) (e : Ending) : Prop := ∃ b, e = .returned (.bool b) ∧ (b = true → P)

/-- Of row k the first i are in range, not k, and increasing. -/
structure RowPre (n k : Nat) (zs : List Int) (i : Nat) : Prop where
  rng : ∀ j, j < i → 0 ≤ za zs j ∧ za zs j < n ∧ za zs j ≠ k
  inc : ∀ j, j + 1 < i → za zs j < za zs (j + 1)

theorem rowPre_zero (n k : Nat) (zs : List Int) : RowPre n k zs 0 := ⟨fun _ h => absurd h (Nat.not_lt_zero _), fun _ h => absurd h (Nat.not_lt_zero _)⟩

theorem rowPre_succ {n k : Nat} {zs : List Int} {i : Nat} (h : RowPre n k zs i) (h0 : 0 ≤ za zs i) (h1 : za zs i < n) (h2 : za zs i ≠ k) (h3 : 0 < i → za zs (i - 1) < za zs i) : RowPre n k zs (i + 1) := by
  refine ⟨fun j hj => ?_, fun j hj => ?_⟩
  · by_cases e : j = i
    · rw [e]; exact ⟨h0, h1, h2⟩
    · exact h.rng j (by omega)
  · by_cases e : j + 1 = i
    · have := h3 (by omega)
      rw [show i - 1 = j from by omega] at this
      rw [e]; exact this
    · exact h.inc j (by omega)

/-- A whole row is in order. -/
structure RowOk (n k : Nat) (zs : List Int) : Prop where
  srt : Srt zs
  rng : ∀ x ∈ zs, 0 ≤ x ∧ x < n ∧ x ≠ k

theorem rowOk_of {n k : Nat} {zs : List Int} (h : RowPre n k zs zs.length) : RowOk n k zs := by
  refine ⟨?_, fun x hx => ?_⟩
  · intro i j hij hj
    have key : ∀ d, i + d + 1 < zs.length → za zs i < za zs (i + d + 1) := by
      intro d
      induction d with
      | zero => intro hd; exact h.inc i hd
      | succ d ih =>
        intro hd
        have h1 := ih (by omega)
        have h2 := h.inc (i + d + 1) (by omega)
        rw [show i + (d + 1) + 1 = i + d + 1 + 1 from by omega]
        omega
    have := key (j - i - 1) (by omega)
    rw [show i + (j - i - 1) + 1 = j from by omega] at this
    exact this
  · obtain ⟨i, hi, e⟩ := mem_za hx
    have := h.rng i hi
    rw [e] at this
    exact this

theorem Lines.get {w : World} {ao : Option Addr} {n : Nat} {A : Nat → Option Addr} {L C : Nat → Nat} {Z : Nat → List Int} (h : Lines w ao n A L C Z) {r : Nat} (hr : r < n) :
    ∃ b o, ao = some ⟨b, o, none⟩ ∧ ∃ ak lk ck, w.cell? ⟨b, o + r, none⟩ = some (.slice ak lk ck) ∧ Ints w ak lk (Z r) ∧ Hid (lk = L r) ∧ Hid (ak = A r) ∧ Hid (ck = C r) := by
  obtain ⟨b, o, e, hc⟩ := h.at' r hr
  exact ⟨b, o, e, A r, L r, C r, hc, h.row r hr, (rfl : L r = L r), (rfl : A r = A r), (rfl : C r = C r)⟩

/-- All links are in order. -/
def Valid (n : Int) (len : Nat) (Z : Nat → List Int) : Prop := (len : Int) = n ∧ ∀ k, k < len → RowOk len k (Z k)

set_option maxHeartbeats 400000 in
theorem valid_nil (n : Int) (w : World) : Calls Try.prog 7 #[.int .i64 n, .slice none 0 0] w fun e w' => e = .returned (.bool true) ∧ w' = w := by
  go_enter Try.func7, Try.ntmps7
  go_wp2_with fail
  go_ret
  exact ⟨rfl, rfl⟩

set_option maxHeartbeats 1000000 in
theorem valid_any (n : Int) (a : Addr) (len cap : Nat) (A : Nat → Option Addr) (L C : Nat → Nat) (Z : Nat → List Int) (w : World) (hL : Lines w (some a) len A L C Z) (hn : n ≤ 256) :
    Calls Try.prog 7 #[.int .i64 n, .slice (some a) len cap] w fun e w' => Okb (Valid n len Z) e ∧ w' = w := by
  cases hln : ((len : Int) != n) with
  | true =>
    go_enter Try.func7, Try.ntmps7
    go_wp2_with fail
    go_ret
    exact ⟨⟨false, rfl, fun h => by cases h⟩, rfl⟩
  | false =>
    have e : n = (len : Int) := by simpa using (bne_eq_false_iff_eq.1 hln).symm
    subst e
    clear hln
    have hln : ((len : Int) != (len : Int)) = false := by simp
    go_enter Try.func7, Try.ntmps7
    go_wp2_with fail
    go_loop [5] (fun i => ∃ k : Nat, k ≤ len ∧ i = .int .i64 k ∧ ∀ r, r < k → RowOk len r (Z r)) (fun i => len - (intOf i).toNat)
    case atStart => exact ⟨0, Nat.zero_le _, rfl, fun _ h => absurd h (Nat.not_lt_zero _)⟩
    case round =>
      obtain ⟨k, hk, rfl, hok⟩ := hrel
      by_cases hlt : k < len
      · obtain ⟨b, o, ha, ak, lk, ck, hc, hI, -⟩ := hL.get hlt
        obtain rfl : a = ⟨b, o, none⟩ := by simpa using ha
        have HO : Hid (∀ r, r < k → RowOk len r (Z r)) := hok
        clear ha hok
        have HZ : Hid ((Z k).length = lk) := hI.size
        have htop := hI.top
        go_wp2_with fail
        go_loop [7] (fun i => ∃ t : Nat, t ≤ lk ∧ i = .int .i64 t ∧ RowPre len k (Z k) t) (fun i => lk - (intOf i).toNat)
        case atStart => exact ⟨0, Nat.zero_le _, rfl, rowPre_zero _ _ _⟩
        case round =>
          obtain ⟨t, ht, rfl, hp⟩ := hrel
          by_cases hlt2 : t < lk
          · obtain ⟨b', o', rfl, hc', hcs⟩ := hI.opened (by omega)
            have hct := hcs t hlt2
            have hcp : 0 < t → w.cell? ⟨b', o' + (t - 1), none⟩ = some (.int .i64 (za (Z k) (t - 1))) := fun _ => hcs (t - 1) (by omega)
            clear hL hI
            go_wp2_with fail
            all_goals first
              | (go_ret; exact ⟨⟨false, rfl, fun h => by cases h⟩, rfl⟩)
              | (have hb : (za (Z k) t == (k : Int)) = false := by first | assumption | exact And.right (by assumption)
                 have hs3 : 0 < t → za (Z k) (t - 1) < za (Z k) t := by first | (intro _; assumption) | (intro h; omega)
                 have hp' := rowPre_succ hp (by assumption) (by assumption) (beq_eq_false_iff_ne.1 hb) hs3
                 go_round
                 case rel => exact ⟨t + 1, by omega, by go_num, hp'⟩
                 case measure => simp [intOf]; omega)
          · have hok' : RowOk len k (Z k) := rowOk_of (by rw [HZ.out, show lk = t from by omega]; exact hp)
            clear hL hI
            go_wp2_with fail
            go_round
            case rel => exact ⟨k + 1, by omega, by go_num, fun r hr => by
              by_cases e : r = k
              · rw [e]; exact hok'
              · exact HO.out r (by omega)⟩
            case measure => simp [intOf]; omega
      · have hok' : ∀ r, r < len → RowOk len r (Z r) := fun r hr => hok r (by omega)
        clear hok
        go_wp2_with fail
        go_loop [9] (fun i => ∃ k : Nat, k ≤ len ∧ i = .int .i64 k) (fun i => len - (intOf i).toNat)
        case atStart => exact ⟨0, Nat.zero_le _, rfl⟩
        case round =>
          obtain ⟨k, hk, rfl⟩ := hrel
          by_cases hlt : k < len
          · obtain ⟨b, o, ha, ak, lk, ck, hc, hI, -⟩ := hL.get hlt
            obtain rfl : a = ⟨b, o, none⟩ := by simpa using ha
            clear ha
            have HZ : Hid ((Z k).length = lk) := hI.size
            have htop := hI.top
            go_wp2_with fail
            go_loop [10] (fun i => ∃ t : Nat, t ≤ lk ∧ i = .int .i64 t) (fun i => lk - (intOf i).toNat)
            case atStart => exact ⟨0, Nat.zero_le _, rfl⟩
            case round =>
              obtain ⟨t, ht, rfl⟩ := hrel
              by_cases hlt2 : t < lk
              · obtain ⟨b', o', rfl, hc', hcs⟩ := hI.opened (by omega)
                have hct := hcs t hlt2
                have hx := (hok' k hlt).rng (za (Z k) t) (za_mem (by rw [HZ.out]; exact hlt2))
                obtain ⟨x, hxe⟩ : ∃ x : Nat, za (Z k) t = (x : Int) := ⟨(za (Z k) t).toNat, by omega⟩
                rw [hxe] at hct hx
                obtain ⟨hx0, hx1, hx2⟩ := hx
                have hxl : x < len := by omega
                obtain ⟨b2, o2, ha2, ax, lx, cx, hcx, hIx, -⟩ := hL.get hxl
                obtain ⟨rfl, rfl⟩ : b = b2 ∧ o = o2 := by simpa using ha2
                have hsx := (hok' x hxl).srt
                clear ha2 hL hI hok' hcs hxe hx2
                go_wp2_with fail
                refine (has_any _ _ _ (Z x) _ _ hIx hsx).mono ?_
                rintro e w' ⟨rfl, rfl⟩
                go_wp2_with fail
                · go_ret
                  exact ⟨⟨false, rfl, fun h => by cases h⟩, rfl⟩
                · go_round
                  case rel => exact ⟨t + 1, by omega, by go_num⟩
                  case measure => simp [intOf]; omega
              · clear hL hI hok'
                go_wp2_with fail
                go_round
                case rel => exact ⟨k + 1, by omega, by go_num⟩
                case measure => simp [intOf]; omega
          · go_wp2_with fail
            go_ret
            exact ⟨⟨true, rfl, fun _ => ⟨rfl, hok'⟩⟩, rfl⟩

end Go.Proofs.Qxb6613861a
