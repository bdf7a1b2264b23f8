/-
  THE WALKS: zzCountSpaces, zzHasSpace, zzLastSpace, cutAt, the sizes.
-/
import Derived.Test.Qxb6614064aRows
import Derived.Test.Qxb6614064aPlain
import Derived.WalkKit
import Derived.WalkSpells
import Derived.WalkLawsBesides
import Derived.Deep.QuietTactic
import Derived.BigQuiet
import Derived.Lib.Strings
namespace Go.Proofs.Qxb6614064a
open Go.RowKit

theorem ret_int {k : IntKind} {a b : Int} (h : a = b) : Ending.returned (.int k a) = .returned (.int k b) := by rw [h]
theorem ret_bool {a b : Bool} (h : a = b) : Ending.returned (.bool a) = .returned (.bool b) := by rw [h]

/-- The text's bytes. -/
def tx (s : ByteArray) : List UInt8 := s.data.toList
/-- The text of these bytes. -/
def bs (l : List UInt8) : ByteArray := ⟨l.toArray⟩

theorem tx_bs (l : List UInt8) : tx (bs l) = l := rfl
theorem bs_tx (s : ByteArray) : bs (tx s) = s := rfl
theorem tx_length (s : ByteArray) : (tx s).length = s.size := by
  show s.data.toList.length = s.data.size
  exact Array.length_toList
theorem bs_size (l : List UInt8) : (bs l).size = l.length := by
  show l.toArray.size = l.length
  exact List.size_toArray

theorem take_snoc (s : ByteArray) (k : Nat) (h : k < s.size) : (tx s).take (k + 1) = (tx s).take k ++ [s[k]] := by
  rw [List.take_succ_eq_append_getElem (by rw [tx_length]; exact h)]; rfl
theorem tx_get (s : ByteArray) (k : Nat) (h : k < s.size) : (tx s)[k]? = some s[k] := by
  rw [List.getElem?_eq_getElem (by rw [tx_length]; exact h)]; rfl

theorem sp_iff (c : UInt8) : ((c.toNat : Int) == 32) = (c == 32) := by
  rw [Bool.eq_iff_iff]
  simp only [beq_iff_eq]
  constructor
  · intro h
    have : c.toNat = 32 := by omega
    exact UInt8.toNat.inj (by simpa using this)
  · intro h; rw [h]; rfl

theorem spaces_snoc (l : List UInt8) (c : UInt8) : Plain.spaces (l ++ [c]) = Plain.spaces l + if ((c.toNat : Int) == 32) = true then 1 else 0 := by
  rw [Plain.spaces_append, sp_iff]
  congr 1
  by_cases h : (c == 32) = true <;> simp [Plain.spaces, h]

theorem spaces_le (l : List UInt8) : Plain.spaces l ≤ l.length := List.countP_le_length

set_option maxHeartbeats 400000 in
theorem count_any (s : ByteArray) (w : World) (hs : s.size ≤ 4194304) :
    Calls Try.prog 8 #[.string s] w fun e w' => e = .returned (.int .i64 (Plain.spaces (tx s))) ∧ w' = w := by
  go_enter Try.func8, Try.ntmps8
  go_wp2
  go_loop [3, 4] (fun n i => ∃ k : Nat, k ≤ s.size ∧ i = .int .i64 k ∧ n = .int .i64 (Plain.spaces ((tx s).take k))) (fun _ i => s.size - (intOf i).toNat)
  case atStart => exact ⟨0, Nat.zero_le _, rfl, rfl⟩
  case round =>
    obtain ⟨k, hk, rfl, rfl⟩ := hrel
    have hle := spaces_le ((tx s).take k)
    have hl : ((tx s).take k).length ≤ k := List.length_take_le _ _
    by_cases hlt : k < s.size
    · have HS : Hid (Plain.spaces ((tx s).take (k + 1)) = Plain.spaces ((tx s).take k) + if ((s[k].toNat : Int) == 32) = true then 1 else 0) := (show Plain.spaces ((tx s).take (k + 1)) = _ by rw [take_snoc s k hlt]; exact spaces_snoc _ _)
      cases hc : ((s[k].toNat : Int) == 32) with
      | true =>
        have HC : Hid (((s[k].toNat : Int) == 32) = true) := hc
        go_wp2
        go_round
        case rel => exact ⟨k + 1, by omega, by go_num, by rw [HS.out, if_pos HC.out]; go_num⟩
        case measure => simp [intOf]; omega
      | false =>
        have HC : Hid (((s[k].toNat : Int) == 32) = false) := hc
        go_wp2
        go_round
        case rel => exact ⟨k + 1, by omega, by go_num, by rw [HS.out, HC.out]; simp⟩
        case measure => simp [intOf]; omega
    · go_wp2
      go_ret
      exact ⟨ret_int (by rw [List.take_of_length_le (by rw [tx_length]; omega)]), rfl⟩

/-- Is there a space? -/
def spB (s : ByteArray) : Bool := (tx s).any (fun c => c == 32)

theorem nosp_of {s : ByteArray} (h : spB s = false) : Plain.NoSp (tx s) := by
  intro c hc e
  have := List.any_eq_false.1 h c hc
  simp [e] at this

theorem sp_of_nosp {s : ByteArray} (h : Plain.NoSp (tx s)) : spB s = false := by
  unfold spB
  rw [List.any_eq_false]
  intro c hc
  simpa using h c hc

set_option maxHeartbeats 400000 in
theorem hasSpace_any (s : ByteArray) (w : World) (hs : s.size ≤ 4194304) :
    Calls Try.prog 11 #[.string s] w fun e w' => e = .returned (.bool (spB s)) ∧ w' = w := by
  go_enter Try.func11, Try.ntmps11
  go_wp2
  go_loop [3] (fun i => ∃ k : Nat, k ≤ s.size ∧ i = .int .i64 k ∧ Plain.NoSp ((tx s).take k)) (fun i => s.size - (intOf i).toNat)
  case atStart => exact ⟨0, Nat.zero_le _, rfl, fun c hc => by simp at hc⟩
  case round =>
    obtain ⟨k, hk, rfl, hno⟩ := hrel
    by_cases hlt : k < s.size
    · cases hc : ((s[k].toNat : Int) == 32) with
      | true =>
        have HF : Hid (spB s = true) := (show spB s = true by
          unfold spB
          rw [List.any_eq_true]
          exact ⟨s[k], List.mem_of_getElem? (tx_get s k hlt), by rw [← sp_iff]; exact hc⟩)
        go_wp2
        go_ret
        exact ⟨ret_bool HF.out.symm, rfl⟩
      | false =>
        have HN : Hid (Plain.NoSp ((tx s).take (k + 1))) := (show Plain.NoSp ((tx s).take (k + 1)) by
          rw [take_snoc s k hlt]
          intro c hcm
          rcases List.mem_append.1 hcm with h | h
          · exact hno c h
          · rw [List.mem_singleton.1 h]
            rw [sp_iff] at hc
            simpa using hc)
        go_wp2
        go_round
        case rel => exact ⟨k + 1, by omega, by go_num, HN.out⟩
        case measure => simp [intOf]; omega
    · have HF : Hid (spB s = false) := sp_of_nosp (by rw [List.take_of_length_le (by rw [tx_length]; omega)] at hno; exact hno)
      go_wp2
      go_ret
      exact ⟨ret_bool HF.out.symm, rfl⟩

/-- The last space's place. -/
theorem last_yes {s : ByteArray} {k : Nat} (hlt : k < s.size) (hc : ((s[k].toNat : Int) == 32) = true) (hno : Plain.NoSp ((tx s).drop (k + 1))) : Plain.IsLast (tx s) (k : Int) := by
  refine Or.inr ⟨(tx s).take k, (tx s).drop (k + 1), ?_, hno, ?_⟩
  · have h2 : s[k] = 32 := by rw [sp_iff] at hc; simpa using hc
    have h1 : (tx s).drop k = s[k] :: (tx s).drop (k + 1) := by rw [List.drop_eq_getElem_cons (by rw [tx_length]; exact hlt)]; rfl
    rw [h2] at h1
    rw [← h1, List.take_append_drop]
  · rw [List.length_take, tx_length]
    omega

set_option maxHeartbeats 400000 in
theorem lastSpace_any (s : ByteArray) (w : World) (hs : s.size ≤ 4194304) :
    Calls Try.prog 13 #[.string s] w fun e w' => (∃ i : Int, e = .returned (.int .i64 i) ∧ Plain.IsLast (tx s) i) ∧ w' = w := by
  go_enter Try.func13, Try.ntmps13
  go_wp2
  go_loop [3] (fun i => ∃ k : Nat, k ≤ s.size ∧ i = .int .i64 ((k : Int) - 1) ∧ Plain.NoSp ((tx s).drop k)) (fun i => (intOf i + 1).toNat)
  case atStart => exact ⟨s.size, Nat.le_refl _, rfl, fun c hc => by rw [List.drop_of_length_le (by rw [tx_length]; exact Nat.le_refl _)] at hc; simp at hc⟩
  case round =>
    obtain ⟨k, hk, rfl, hno⟩ := hrel
    cases k with
    | zero =>
      have hl : Plain.IsLast (tx s) (-1) := Or.inl ⟨rfl, by simpa using hno⟩
      have HL : Hid (Plain.IsLast (tx s) (-1)) := hl
      clear hl hno
      go_wp2
      go_ret
      exact ⟨⟨-1, rfl, HL.out⟩, rfl⟩
    | succ k =>
      have hlt : k < s.size := by omega
      have HN : Hid (Plain.NoSp ((tx s).drop (k + 1))) := hno
      clear hno
      rw [show (((k + 1 : Nat) : Int) - 1) = (k : Int) from by omega]
      cases hc : ((s[k].toNat : Int) == 32) with
      | true =>
        have HL : Hid (Plain.IsLast (tx s) (k : Int)) := last_yes hlt hc HN.out
        go_wp2
        go_ret
        exact ⟨⟨k, rfl, HL.out⟩, rfl⟩
      | false =>
        have HN2 : Hid (Plain.NoSp ((tx s).drop k)) := (show Plain.NoSp ((tx s).drop k) by
          have h1 : (tx s).drop k = s[k] :: (tx s).drop (k + 1) := by rw [List.drop_eq_getElem_cons (by rw [tx_length]; exact hlt)]; rfl
          rw [h1]
          intro c hcm
          rcases List.mem_cons.1 hcm with h | h
          · rw [h]; rw [sp_iff] at hc; simpa using hc
          · exact HN.out c h)
        go_wp2
        go_round
        case rel => exact ⟨k, by omega, by go_num, HN2.out⟩
        case measure => simp [intOf]

/-! ### cutAt -/
theorem ext_tx (s : ByteArray) (a b : Nat) : tx (s.extract a b) = ((tx s).drop a).take (b - a) := Lib.extract_data s a b
theorem ext_pre (s : ByteArray) (i : Nat) : s.extract 0 i = bs ((tx s).take i) := by
  rw [← bs_tx (s.extract 0 i), ext_tx]
  simp
theorem ext_end (s : ByteArray) (a : Nat) : s.extract a s.size = bs ((tx s).drop a) := by
  rw [← bs_tx (s.extract a s.size), ext_tx, List.take_of_length_le (by rw [List.length_drop, tx_length]; exact Nat.le_refl _)]

/-- What cutAt hands back: the text up to the first space, what lies behind it, whether there is one. -/
def CutEnd (s : ByteArray) (e : Ending) : Prop :=
  (Plain.NoSp (tx s) ∧ e = .returned (.tuple #[.string s, .string ⟨#[]⟩, .bool false])) ∨
  ∃ i : Nat, i < s.size ∧ Plain.NoSp ((tx s).take i) ∧ (tx s)[i]? = some 32 ∧ ∃ u, e = .returned (.tuple #[.string (bs ((tx s).take i)), .string u, .bool true])

set_option maxHeartbeats 1000000 in
theorem cutAt_any (s : ByteArray) (w : World) (hs : s.size ≤ 4194304) :
    Calls Try.prog 18 #[.string s, .int .u8 32] w fun e w' => CutEnd s e ∧ ∃ n, w' = w.drewN n := by
  go_enter Try.func18, Try.ntmps18
  go_wp2
  go_loop [7] (fun i => ∃ k : Nat, k ≤ s.size ∧ i = .int .i64 k ∧ Plain.NoSp ((tx s).take k)) (fun i => s.size - (intOf i).toNat)
  case atStart => exact ⟨0, Nat.zero_le _, rfl, fun c hc => by simp at hc⟩
  case round =>
    obtain ⟨k, hk, rfl, hno⟩ := hrel
    have HNo : Hid (Plain.NoSp ((tx s).take k)) := hno
    clear hno
    by_cases hlt : k < s.size
    · cases hc : ((s[k].toNat : Int) == 32) with
      | true =>
        have HG : Hid ((tx s)[k]? = some 32) := (show (tx s)[k]? = some 32 by
          rw [tx_get s k hlt]
          rw [sp_iff] at hc
          simpa using hc)
        go_wp2
        go_quiet (fail)
        go_wp2
        go_ret3
        exact ⟨Or.inr ⟨k, hlt, HNo.out, HG.out, s.extract (k + 1) s.size, by rw [← ext_pre]; rfl⟩, nq, rfl⟩
      | false =>
        have HN : Hid (Plain.NoSp ((tx s).take (k + 1))) := (show Plain.NoSp ((tx s).take (k + 1)) by
          rw [take_snoc s k hlt]
          intro c hcm
          rcases List.mem_append.1 hcm with h | h
          · exact HNo.out c h
          · rw [List.mem_singleton.1 h]
            rw [sp_iff] at hc
            simpa using hc)
        go_wp2
        go_round
        case rel => exact ⟨k + 1, by omega, by go_num, HN.out⟩
        case measure => simp [intOf]; omega
    · have HF : Hid (Plain.NoSp (tx s)) := (show Plain.NoSp (tx s) by have := HNo.out; rw [List.take_of_length_le (by rw [tx_length]; omega)] at this; exact this)
      go_wp2
      go_ret3
      exact ⟨Or.inl ⟨HF.out, rfl⟩, 0, rfl⟩

end Go.Proofs.Qxb6614064a
