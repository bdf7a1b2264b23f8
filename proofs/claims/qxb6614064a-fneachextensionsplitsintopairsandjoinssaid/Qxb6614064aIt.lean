/-
  THE ITERATOR: subfields and its closure: the words of the text, in order.
-/
import Derived.RangeFuncNested
import Derived.RangeFuncBound
import Derived.RangeFuncCalls
import Derived.RangeFuncLeaves
import Derived.RangeFuncBox
import Derived.Shelf.Abstract
import Derived.OwnWalkIn
import Derived.TacticsInMore
import Derived.LoopNIn
import Derived.LoopIn
import Derived.Test.Qxb6614064aW1
namespace Go.Proofs.Qxb6614064a
open Go.RowKit Go.Shelf

attribute [local go_sem] Oper.semAt_some

/-- The box stays. -/
def KeepBox (B : Nat) (W W' : World) : Prop := W'.heap[B]? = W.heap[B]?

theorem KeepBox.trans {B : Nat} {W1 W2 W3 : World} (h : KeepBox B W1 W2) (k : KeepBox B W2 W3) : KeepBox B W1 W3 := Eq.trans k h
theorem KeepBox.boxed {B : Nat} {W W' : World} {t : TypeId} {v : Value} (h : KeepBox B W W') (hb : Boxed W B t v) : Boxed W' B t v := Eq.trans h hb

/-- The words, as texts. -/
def wordsB (v : ByteArray) : List ByteArray := (Plain.words (tx v)).map bs

theorem grownBy_drewN (W : World) (n : Nat) : W.grownBy (W.drewN n) none := by
  induction n with
  | zero => exact ⟨rfl, rfl, rfl, Nat.le_refl _, fun _ _ _ => rfl⟩
  | succ n ih => exact ⟨ih.os, ih.tape, ih.output, ih.size, ih.block⟩

/-- What has come, and what is still to come. -/
structure Cut (v : ByteArray) (pre : List (Int × ByteArray)) (k : Nat) : Prop where
  le : k ≤ v.size
  all : pre.map (·.2) ++ (Plain.words ((tx v).drop k)).map bs = wordsB v

theorem cut_start (v : ByteArray) : Cut v [] 0 := ⟨Nat.zero_le _, by simp [wordsB]⟩

theorem cut_lt {v : ByteArray} {pre : List (Int × ByteArray)} {k : Nat} (h : Cut v pre k) : pre.length < (Plain.words (tx v)).length := by
  have := congrArg List.length h.all
  have hne := List.length_pos_iff.2 (Plain.words_ne ((tx v).drop k))
  simp only [wordsB, List.length_append, List.length_map] at this
  omega

theorem cut_at {l : List UInt8} {i : Nat} {c : UInt8} (hg : l[i]? = some c) : i < l.length ∧ l = l.take i ++ c :: l.drop (i + 1) := by
  have hi : i < l.length := by
    rcases Nat.lt_or_ge i l.length with h | h
    · exact h
    · rw [List.getElem?_eq_none h] at hg; cases hg
  refine ⟨hi, ?_⟩
  rw [List.getElem?_eq_getElem hi] at hg
  have e : l[i] = c := by simpa using hg
  rw [← e, ← List.drop_eq_getElem_cons hi, List.take_append_drop]

theorem cut_more {v : ByteArray} {pre : List (Int × ByteArray)} {k i : Nat} (h : Cut v pre k) (hno : Plain.NoSp (((tx v).drop k).take i)) (hg : ((tx v).drop k)[i]? = some 32) (a : Int) :
    Cut v (pre ++ [(a, bs (((tx v).drop k).take i))]) (k + (i + 1)) := by
  obtain ⟨hi, e⟩ := cut_at hg
  rw [List.drop_drop] at e
  have hw := Plain.words_cut hno ((tx v).drop (k + (i + 1)))
  rw [← e] at hw
  refine ⟨?_, ?_⟩
  · rw [List.length_drop, tx_length] at hi; omega
  · rw [← h.all, hw]
    simp

theorem cut_last {v : ByteArray} {pre : List (Int × ByteArray)} {k : Nat} (h : Cut v pre k) (hno : Plain.NoSp ((tx v).drop k)) (a : Int) :
    (pre ++ [(a, bs ((tx v).drop k))]).map (·.2) = wordsB v := by
  rw [← h.all, Plain.words_one hno]
  simp

set_option maxRecDepth 100000 in
set_option maxHeartbeats 2000000 in
theorem sub1_in (n : Nat) (l Bv : Nat) (v : ByteArray) (hv : v.size ≤ 4194304) (J Jx : List (Int × ByteArray) → World → Prop) (W : World) (hJ : AbidesFrom W.heap.size J)
    (hY : ∀ pre x W1, J pre W1 → pre.length < (Plain.words (tx v)).length → YieldAt Fence.wide (n - 1) Try.prog l #[.int .i64 x.1, .string x.2] W1 fun e W' =>
      (e = .returned (.bool true) ∧ J (pre ++ [x]) W' ∧ KeepBox Bv W1 W') ∨ (e = .returned (.bool false) ∧ Jx (pre ++ [x]) W'))
    (hB : Boxed W Bv 9 (.string v)) (h0 : J [] W) :
    CallsIn Fence.wide n Try.prog 17 #[.func (.yield l) #[] #[], .pointer (some ⟨Bv, 0, none⟩)] W fun e W' => (∃ u, e = .returned u) ∧
      ((∃ ys, ys.map (·.2) = wordsB v ∧ J ys W') ∨ (∃ pre, True ∧ Jx pre W')) := by
  refine callsIn_of_wp Try.func17 rfl trivial ?_ rfl
  simp only [Try.ntmps17, List.size_toArray, List.length_cons, List.length_nil, Nat.reduceAdd, Nat.reduceSub, Array.replicate_succ, Array.replicate_zero, List.push_toArray, List.append_toArray, List.nil_append, List.cons_append]
  gi_wp2
  gi_loopw [3] (fun a wr => ∃ (k : Nat) (pre : List (Int × ByteArray)), a = .int .i64 k ∧ Cut v pre k ∧ J pre wr ∧ Boxed wr Bv 9 (.string v)) (fun a _ => v.size + 1 - (intOf a).toNat)
  case atStart => exact ⟨0, [], rfl, cut_start v, h0, hB⟩
  case round =>
    obtain ⟨k, pre, rfl, hC, hJs, hb⟩ := hrel
    have hk := hC.le
    have hc := hb.cell
    have HT : Hid (tx (v.extract k v.size) = (tx v).drop k) := (show tx (v.extract k v.size) = (tx v).drop k by rw [ext_end]; rfl)
    have hts : (v.extract k v.size).size ≤ 4194304 := by rw [← tx_length, HT.out, List.length_drop, tx_length]; omega
    have HC : Hid (Cut v pre k) := hC
    have hlen := cut_lt hC
    clear hC
    gi_wp2_with fail
    refine ⟨trivial, fun h => (by simp [Fence.wide] at h), (callsIn_wide.2 (cutAt_any _ _ hts)).mono ?_⟩
    rintro e w1 ⟨hcut, nd, rfl⟩
    have hJd : J pre (wr.drewN nd) := hJ pre wr _ none hJs (grownBy_drewN wr nd) (fun r e => (by cases e))
    have hbd : Boxed (wr.drewN nd) Bv 9 (.string v) := hb.kept (grownBy_drewN wr nd) (by simp)
    rcases hcut with ⟨hno, rfl⟩ | ⟨i, hi, hno, hg, u, rfl⟩
    · have HL : Hid ((pre ++ [((k : Int), v.extract k v.size)]).map (·.2) = wordsB v) := (show (pre ++ [((k : Int), v.extract k v.size)]).map (·.2) = wordsB v by
        rw [ext_end]
        rw [HT.out] at hno
        exact cut_last HC.out hno _)
      clear hno HT
      obtain ⟨fn, tmps, assign, body, hy, hR⟩ := hY pre ((k : Int), v.extract k v.size) (wr.drewN nd) hJd hlen
      dsimp only at hy
      gi_wp2_with fail
      refine ⟨fun h => (by simp [Fence.wide] at h), hR.mono ?_⟩
      rintro e W3 (⟨rfl, hJ3, hk3⟩ | ⟨rfl, hJx3⟩)
      · gi_wp2_with fail
        refine bodyPost_ret (results_none rfl _ _ _) rfl ?_
        exact ⟨⟨_, rfl⟩, .inl ⟨_, HL.out, hJ3⟩⟩
      · gi_wp2_with fail
        refine bodyPost_ret (results_none rfl _ _ _) rfl ?_
        exact ⟨⟨_, rfl⟩, .inr ⟨_, trivial, hJx3⟩⟩
    · have hil : i < v.size - k := by
        rw [← tx_length, HT.out, List.length_drop, tx_length] at hi
        exact hi
      obtain ⟨p, HP⟩ : ∃ p, Hid (p = (tx (v.extract k v.size)).take i) := ⟨_, (rfl : (tx (v.extract k v.size)).take i = _)⟩
      rw [← HP.out]
      have hpl : (bs p).size = i := by rw [bs_size, HP.out, List.length_take, tx_length]; omega
      have HM : Hid (Cut v (pre ++ [((k : Int), bs p)]) (k + (i + 1))) := (show Cut v (pre ++ [((k : Int), bs p)]) (k + (i + 1)) by
        rw [HP.out]
        rw [HT.out] at hno hg ⊢
        exact cut_more HC.out hno hg _)
      clear hno hg HT HP
      obtain ⟨fn, tmps, assign, body, hy, hR⟩ := hY pre ((k : Int), bs p) (wr.drewN nd) hJd hlen
      dsimp only at hy
      gi_wp2_with fail
      refine ⟨fun h => (by simp [Fence.wide] at h), hR.mono ?_⟩
      rintro e W3 (⟨rfl, hJ3, hk3⟩ | ⟨rfl, hJx3⟩)
      · have hb3 := hk3.boxed hbd
        gi_wp2_with fail
        go_roundw
        case rel => exact ⟨k + (i + 1), pre ++ [((k : Int), bs p)], by go_num, HM.out, hJ3, hb3⟩
        case measure => simp [intOf]; omega
      · gi_wp2_with fail
        refine bodyPost_ret (results_none rfl _ _ _) rfl ?_
        exact ⟨⟨_, rfl⟩, .inr ⟨_, trivial, hJx3⟩⟩

set_option maxHeartbeats 1000000 in
/-- subfields: the value is boxed; the function value captures the box. -/
theorem sub_in (n : Nat) (v : ByteArray) (w : World) :
    CallsIn Fence.wide n Try.prog 16 #[.string v] w fun e w' => e = .returned (.func (.func 17) #[] #[.pointer (some ⟨w.heap.size, 0, none⟩)]) ∧ w' = w.alloc (.cells #[.string v] 9) := by
  refine callsIn_of_wp Try.func16 rfl trivial ?_ rfl
  simp only [Try.ntmps16, List.size_toArray, List.length_cons, List.length_nil, Nat.reduceAdd, Nat.reduceSub, Array.replicate_succ, Array.replicate_zero, List.push_toArray, List.append_toArray, List.nil_append, List.cons_append]
  gi_wp2
  go_ret
  exact ⟨rfl, rfl⟩

theorem sub_stops (n : Nat) (Bv : Nat) (v : ByteArray) (hv : v.size ≤ 4194304) (w : World) (hB : Boxed w Bv 9 (.string v)) :
    SeqStopsK Fence.wide n Try.prog 17 #[.pointer (some ⟨Bv, 0, none⟩)] (fun x : Int × ByteArray => #[Value.int .i64 x.1, Value.string x.2]) (KeepBox Bv) (fun xs => xs.map (·.2) = wordsB v) (fun _ => True) (Plain.words (tx v)).length w :=
  fun l J Jx W hW hJ _ hY h0 => sub1_in n l Bv v hv J Jx W hJ hY (Eq.trans (hW.block Bv hB.lt) hB) h0

end Go.Proofs.Qxb6614064a
