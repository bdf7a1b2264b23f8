/-
  THE WALK: the law FnEachExtensionSplitsIntoPairsAndJoins.
-/
import Derived.Test.Qxb6614064aRw
namespace Go.Proofs.Qxb6614064a
open Go.RowKit Go.Shelf

theorem words_le (l : List UInt8) : ∀ p ∈ Plain.words l, p.length ≤ l.length := by
  refine Plain.words_ind (M := fun l => ∀ p ∈ Plain.words l, p.length ≤ l.length) ?_ ?_ l
  · intro p h q hq
    rw [Plain.words_one h, List.mem_singleton] at hq
    rw [hq]; exact Nat.le_refl _
  · intro p r h ih q hq
    rw [Plain.words_cut h, List.mem_cons] at hq
    rw [List.length_append, List.length_cons]
    rcases hq with rfl | hq
    · omega
    · have := ih q hq; omega

theorem firsts_bs (a : ByteArray) : Plain.firsts (wordsB a) = (Plain.firsts (Plain.words (tx a))).map bs := by
  unfold wordsB
  rw [Plain.firsts_map]
theorem seconds_bs (a : ByteArray) : Plain.seconds (wordsB a) = (Plain.seconds (Plain.words (tx a))).map bs := by
  unfold wordsB
  rw [Plain.seconds_map]

/-- What ZZeachExtension hands out of a is what zzPairsRebuild wants. -/
theorem nv_of {W : World} {ao bo : Option Addr} {la : Nat} {a : ByteArray} (hs : a.size ≤ 4194304) (hA : Strs W ao la (Plain.firsts (wordsB a))) (hB : Strs W bo la (Plain.seconds (wordsB a))) :
    NV W ao bo la (Plain.firsts (Plain.words (tx a))) (Plain.seconds (Plain.words (tx a))) := by
  refine ⟨firsts_bs a ▸ hA, seconds_bs a ▸ hB, fun p hp => Plain.words_nosp _ _ (Plain.firsts_mem hp), fun p hp => Plain.words_nosp _ _ (Plain.seconds_mem hp), fun p hp => ?_⟩
  rw [← tx_length] at hs
  rcases List.mem_append.1 hp with hp | hp
  · exact Nat.le_trans (words_le _ _ (Plain.firsts_mem hp)) hs
  · exact Nat.le_trans (words_le _ _ (Plain.seconds_mem hp)) hs

theorem firsts_short {v : ByteArray} (h : v.size ≤ 4194304) : (Plain.firsts (wordsB v)).length ≤ 4194304 := by
  have h1 := spaces_le (tx v)
  rw [tx_length] at h1
  rw [Plain.firsts_length, wordsB_length]
  omega
theorem seconds_short {v : ByteArray} (h : v.size ≤ 4194304) : (Plain.seconds (wordsB v)).length ≤ 4194304 := by
  have h1 := spaces_le (tx v)
  rw [tx_length] at h1
  rw [Plain.seconds_length, wordsB_length]
  omega

set_option maxRecDepth 100000 in
set_option maxHeartbeats 4000000 in
theorem law3 (a b : ByteArray) (w : World) :
    Calls Try.prog 3 #[.string a, .string b] w fun e w' => e = .returned (.bool true) ∧ Below w.heap.size w w' := by
  go_enter Try.func3, Try.ntmps3
  go_wp2_with fail
  refine (bytes5_any _ _ _).mono ?_
  rintro e w' ⟨⟨t, rfl⟩, hw⟩
  have hw := hw.symm
  subst hw
  cases t with
  | false =>
    go_wp2_with fail
    go_ret
    exact ⟨rfl, Below.refl _ _⟩
  | true =>
    by_cases ha : (524288 : Int) < a.size
    · go_wp2_with fail
      go_ret
      exact ⟨rfl, Below.refl _ _⟩
    · by_cases hx : (524288 : Int) < b.size
      · go_wp2_with fail
        go_ret
        exact ⟨rfl, Below.refl _ _⟩
      · go_wp2_with fail
        refine (zz_any a (by omega) _).mono ?_
        rintro e W1 ⟨⟨ao, bo, ca, cb, rfl, hSa, hSb⟩, hb1⟩
        have hla := Plain.firsts_length (wordsB a)
        have hlb := Plain.seconds_length (wordsB a)
        have hwl := wordsB_length a
        have hspl := spaces_le (tx a)
        rw [tx_length] at hspl
        obtain ⟨sp, HSP⟩ : ∃ sp, Hid (sp = Plain.spaces (tx a)) := ⟨_, (rfl : Plain.spaces (tx a) = _)⟩
        rw [← HSP.out] at hwl hspl
        obtain ⟨wl, HWL⟩ : ∃ wl, Hid (wl = (wordsB a).length) := ⟨_, (rfl : (wordsB a).length = _)⟩
        rw [← HWL.out] at hwl hla hlb
        generalize (Plain.firsts (wordsB a)).length = la at *
        generalize (Plain.seconds (wordsB a)).length = lb at *
        have hsame : lb = la := by omega
        subst hsame
        have hlb2 : lb ≤ 524289 := by omega
        have HNV := nv_of (by omega) hSa hSb
        clear hla hlb
        go_wp2_with fail
        refine (rebuild_walk a ao bo lb ca cb _ _ _ (by omega) HNV rfl rfl).mono ?_
        rintro e W2 ⟨rfl, hb2⟩
        clear HNV
        by_cases hodd : sp % 2 = 0
        · have n2 : ((sp : Int) % 2 == 0) = true := by rw [beq_iff_eq]; omega
          go_wp2_with fail
          refine (count_any a _ (by omega)).mono ?_
          rintro e w3 ⟨rfl, hw3⟩
          have hw3 := hw3.symm
          subst hw3
          rw [← HSP.out]
          go_wp2_with fail
          go_ret
          exact ⟨rfl, hb1.trans (hb2.mono hb1.size)⟩
        · have n2 : ((sp : Int) % 2 == 0) = false := by rw [beq_eq_false_iff_ne]; omega
          have hSa := hSa.below hb2 (Nat.le_refl _)
          have hSb := hSb.below hb2 (Nat.le_refl _)
          have hb12 := hb1.trans (hb2.mono hb1.size)
          clear hb1 hb2
          go_wp2_with fail
          refine (count_any a _ (by omega)).mono ?_
          rintro e w3 ⟨rfl, hw3⟩
          have hw3 := hw3.symm
          subst hw3
          rw [← HSP.out]
          go_wp2_with fail
          refine (zz_any b (by omega) _).mono ?_
          rintro e W3 ⟨⟨ax, bx, cax, cbx, rfl, hSx, hSy⟩, hb3⟩
          have hSa := hSa.below hb3 (Nat.le_refl _)
          have hSb := hSb.below hb3 (Nat.le_refl _)
          have hb13 := hb12.trans (hb3.mono hb12.size)
          have hys : (a ++ ⟨#[32]⟩ ++ b).size ≤ 4194304 := by rw [size_join]; omega
          have HY : Hid (wordsB (a ++ ⟨#[32]⟩ ++ b) = wordsB a ++ wordsB b) := words_two a b
          clear hb12 hb3
          go_wp2_with fail
          refine (zz_any _ ?_ _).mono ?_
          · exact hys
          rintro e W4 ⟨⟨ag, bg, cag, cbg, rfl, hSg, hSh⟩, hb4⟩
          have hSa := hSa.below hb4 (Nat.le_refl _)
          have hSb := hSb.below hb4 (Nat.le_refl _)
          have hSx := hSx.below hb4 (Nat.le_refl _)
          have hSy := hSy.below hb4 (Nat.le_refl _)
          have hb14 := hb13.trans (hb4.mono hb13.size)
          clear hb13 hb4
          have hG : Hid (Plain.firsts (wordsB (a ++ ⟨#[32]⟩ ++ b)) = Plain.firsts (wordsB a) ++ Plain.firsts (wordsB b)) := (show _ = _ by rw [HY.out]; exact Plain.firsts_append _ (by rw [← HWL.out]; omega))
          have hH : Hid (Plain.seconds (wordsB (a ++ ⟨#[32]⟩ ++ b)) = Plain.seconds (wordsB a) ++ Plain.seconds (wordsB b)) := (show _ = _ by rw [HY.out]; exact Plain.seconds_append _ (by rw [← HWL.out]; omega))
          have hgl := firsts_short hys
          have hhl := seconds_short hys
          rw [hG.out] at hSg hgl ⊢
          rw [hH.out] at hSh hhl ⊢
          clear HY HWL HSP hG hH
          generalize (Plain.firsts (wordsB a) ++ Plain.firsts (wordsB b)).length = lg at *
          generalize (Plain.seconds (wordsB a) ++ Plain.seconds (wordsB b)).length = lh at *
          generalize (Plain.firsts (wordsB b)).length = lx at *
          generalize (Plain.seconds (wordsB b)).length = ly at *
          go_wp2_with fail
          refine (concat_any _ _ _ _ _ _ _ _ _ _ _ _ hSg hSa hSx hgl).mono ?_
          rintro e w4 ⟨rfl, n4, rfl⟩
          go_wp2_with fail
          refine (concat_any _ _ _ _ _ _ _ _ _ _ _ _ (hSh.below (below_drewN (Below.refl _ _) n4) (Nat.le_refl _)) (hSb.below (below_drewN (Below.refl _ _) n4) (Nat.le_refl _)) (hSy.below (below_drewN (Below.refl _ _) n4) (Nat.le_refl _)) hhl).mono ?_
          rintro e w5 ⟨rfl, n5, rfl⟩
          go_wp2_with fail
          go_ret
          exact ⟨rfl, below_drewN hb14 _⟩

end Go.Proofs.Qxb6614064a
