/-
  THE WALK: the law FnEachExtensionPairsOneMoreWord.
-/
import Derived.Test.Qxb6614064aW2
import Derived.Deep.RegionHeld3
namespace Go.Proofs.Qxb6614064a
open Go.RowKit Go.Shelf

/-! ### Two texts and a space between them -/
theorem tx_join (a x : ByteArray) : tx (a ++ ⟨#[32]⟩ ++ x) = tx a ++ 32 :: tx x := by
  show (a ++ ⟨#[32]⟩ ++ x).data.toList = a.data.toList ++ 32 :: x.data.toList
  simp
theorem size_join (a x : ByteArray) : (a ++ ⟨#[32]⟩ ++ x).size = a.size + 1 + x.size := by
  rw [← tx_length, tx_join, List.length_append, List.length_cons, tx_length, tx_length]
  omega
theorem words_two (a x : ByteArray) : wordsB (a ++ ⟨#[32]⟩ ++ x) = wordsB a ++ wordsB x := by
  unfold wordsB
  rw [tx_join, Plain.words_join, List.map_append]
theorem words_nosp {x : ByteArray} (h : Plain.NoSp (tx x)) : wordsB x = [x] := by
  unfold wordsB
  rw [Plain.words_one h]
  rfl
theorem wordsB_length (a : ByteArray) : (wordsB a).length = Plain.spaces (tx a) + 1 := by
  unfold wordsB
  rw [List.length_map, Plain.words_length]

/-- The last word begins behind the last space. -/
theorem last_ex (a : ByteArray) : ∃ k : Nat, k ≤ a.size ∧ lastB (wordsB a) = a.extract k a.size ∧ ∀ i, Plain.IsLast (tx a) i → i = (k : Int) - 1 := by
  have key : ∀ i, Plain.IsLast (tx a) i → ∃ y, lastB (wordsB a) = bs y ∧ i + 1 + y.length = (tx a).length ∧ 0 ≤ i + 1 ∧ y = (tx a).drop (i + 1).toNat := by
    intro i hi
    rcases hi with ⟨rfl, hn⟩ | ⟨p, y, e, hy, rfl⟩
    · exact ⟨tx a, by unfold wordsB; rw [Plain.words_one hn]; simp [lastB], by omega, by omega, by simp⟩
    · refine ⟨y, ?_, ?_, by omega, ?_⟩
      · unfold wordsB
        rw [Plain.split_last e hy, List.map_append, List.map_cons, List.map_nil, lastB_snoc]
      · rw [e, List.length_append, List.length_cons]; omega
      · rw [e, show ((p.length : Int) + 1).toNat = p.length + 1 from by omega, List.drop_append]
        simp
  have ex : ∃ i, Plain.IsLast (tx a) i := by
    refine Plain.words_ind (M := fun l => ∃ i, Plain.IsLast l i) ?_ ?_ (tx a)
    · intro p h; exact ⟨-1, Or.inl ⟨rfl, h⟩⟩
    · rintro p r h ⟨i, hi⟩
      rcases hi with ⟨_, hn⟩ | ⟨q, y, e, hy, _⟩
      · exact ⟨p.length, Or.inr ⟨p, r, rfl, hn, rfl⟩⟩
      · exact ⟨(p ++ 32 :: q).length, Or.inr ⟨p ++ 32 :: q, y, by rw [e]; simp, hy, rfl⟩⟩
  obtain ⟨i, hi⟩ := ex
  obtain ⟨y, h1, h2, h3, h4⟩ := key i hi
  rw [tx_length] at h2
  refine ⟨(i + 1).toNat, by omega, by rw [h1, h4, ext_end], fun j hj => ?_⟩
  obtain ⟨y', g1, g2, g3, _⟩ := key j hj
  rw [tx_length] at g2
  have : y = y' := by
    have := h1.symm.trans g1
    have := congrArg tx this
    simpa [tx_bs] using this
  subst this
  omega

theorem lastSpace_at (s : ByteArray) (k : Nat) (w : World) (hs : s.size ≤ 4194304) (hk : ∀ i, Plain.IsLast (tx s) i → i = (k : Int) - 1) :
    Calls Try.prog 13 #[.string s] w fun e w' => e = .returned (.int .i64 ((k : Int) - 1)) ∧ w' = w := by
  refine (lastSpace_any s w hs).mono ?_
  rintro e w' ⟨⟨i, rfl, hi⟩, rfl⟩
  exact ⟨ret_int (hk i hi), rfl⟩

set_option maxRecDepth 100000 in
set_option maxHeartbeats 4000000 in
theorem law4 (a x : ByteArray) (w : World) :
    Calls Try.prog 4 #[.string a, .string x] w fun e w' => e = .returned (.bool true) ∧ Below w.heap.size w w' := by
  go_enter Try.func4, Try.ntmps4
  go_wp2_with fail
  refine (bytes10_any _ _ _).mono ?_
  rintro e w' ⟨⟨b, rfl⟩, hw⟩
  have hw := hw.symm
  subst hw
  cases b with
  | false =>
    go_wp2_with fail
    go_ret
    exact ⟨rfl, Below.refl _ _⟩
  | true =>
    by_cases ha : (524288 : Int) < a.size
    · go_wp2_with fail
      go_ret
      exact ⟨rfl, Below.refl _ _⟩
    · by_cases hx : (524288 : Int) < x.size
      · go_wp2_with fail
        go_ret
        exact ⟨rfl, Below.refl _ _⟩
      · go_wp2_with fail
        refine (hasSpace_any x _ (by omega)).mono ?_
        rintro e w1 ⟨rfl, hw1⟩
        have hw1 := hw1.symm
        subst hw1
        cases hsp : spB x with
        | true =>
          go_wp2_with fail
          go_ret
          exact ⟨rfl, Below.refl _ _⟩
        | false =>
          have HN : Hid (Plain.NoSp (tx x)) := nosp_of hsp
          go_wp2_with fail
          refine (zz_any a (by omega) _).mono ?_
          rintro e W1 ⟨⟨ao, bo, ca, cb, rfl, hSa, hSb⟩, hb1⟩
          have HY : Hid (wordsB (a ++ ⟨#[32]⟩ ++ x) = wordsB a ++ [x]) := (show wordsB (a ++ ⟨#[32]⟩ ++ x) = wordsB a ++ [x] by rw [words_two, words_nosp HN.out])
          have hys : (a ++ ⟨#[32]⟩ ++ x).size ≤ 4194304 := by rw [size_join]; omega
          go_wp2_with fail
          refine (zz_any _ ?_ _).mono ?_
          · exact hys
          rintro e W2 ⟨⟨ax, bx, cax, cbx, rfl, hSx, hSy⟩, hb2⟩
          have hla := Plain.firsts_length (wordsB a)
          have hlb := Plain.seconds_length (wordsB a)
          have hwl := wordsB_length a
          have hspl := spaces_le (tx a)
          rw [tx_length] at hspl
          have hSa2 := hSa.below hb2 (Nat.le_refl _)
          have hSb2 := hSb.below hb2 (Nat.le_refl _)
          have hbw2 := hb1.trans (hb2.mono hb1.size)
          clear hSa hSb hb1 hb2
          generalize hA : Plain.firsts (wordsB a) = A at *
          generalize hB : Plain.seconds (wordsB a) = B at *
          generalize hX : Plain.firsts (wordsB (a ++ ⟨#[32]⟩ ++ x)) = X at *
          generalize hZ : Plain.seconds (wordsB (a ++ ⟨#[32]⟩ ++ x)) = Z at *
          generalize hAl : A.length = la at *
          generalize hBl : B.length = lb at *
          generalize hXl : X.length = lx at *
          generalize hZl : Z.length = lz at *
          obtain ⟨sp, HSP⟩ : ∃ sp, Hid (sp = Plain.spaces (tx a)) := ⟨_, (rfl : Plain.spaces (tx a) = _)⟩
          rw [← HSP.out] at hwl hspl
          have hsame : lb = la := by omega
          subst hsame
          have hlsp : (lb : Int) = ((sp : Int) + 1) / 2 := by omega
          have n1 : ((lb : Int) != ((sp : Int) + 1) / 2) = false := by rw [bne_eq_false_iff_eq]; exact hlsp
          have hlb2 : lb ≤ 524289 := by omega
          by_cases hodd : sp % 2 = 1
          · -- the words are even in number: nothing turns
            have eX : X = A := by rw [← hX, HY.out, Plain.firsts_even x (by omega)]; exact hA
            have eZ : Z = B := by rw [← hZ, HY.out, Plain.seconds_even x (by omega)]; exact hB
            subst eX eZ
            have e1 : lx = lb := by omega
            have e2 : lz = lb := by omega
            subst e1
            subst e2
            have n2 : ((sp : Int) % 2 == 1) = true := by rw [beq_iff_eq]; omega
            clear hA hB hX hZ hAl hBl hXl hZl hla hlb hwl hlsp hodd
            go_wp2_with fail
            refine (count_any a _ (by omega)).mono ?_
            rintro e w3 ⟨rfl, hw3⟩
            have hw3 := hw3.symm
            subst hw3
            rw [← HSP.out]
            go_wp2_with fail
            refine (equal_any _ _ _ _ _ _ _ _ hSx hSa2 (by omega)).mono ?_
            rintro e w4 ⟨rfl, n4, rfl⟩
            go_wp2_with fail
            refine (equal_any _ _ _ _ _ _ _ _ (hSy.below (below_drewN (Below.refl _ _) n4) (Nat.le_refl _)) (hSb2.below (below_drewN (Below.refl _ _) n4) (Nat.le_refl _)) (by omega)).mono ?_
            rintro e w5 ⟨rfl, n5, rfl⟩
            go_wp2_with fail
            go_ret
            exact ⟨rfl, below_drewN hbw2 _⟩
          · -- the words are odd in number: the last one is paired with x
            obtain ⟨f1, f2⟩ := push_odd (l := wordsB a) x (by omega)
            have eX : X = A ++ [lastB (wordsB a)] := by rw [← hX, HY.out, f1, hA]
            have eZ : Z = B ++ [x] := by rw [← hZ, HY.out, f2, hB]
            obtain ⟨k, hk, hlast, hki⟩ := last_ex a
            rw [hlast] at eX
            subst eX eZ
            have e1 : lx = lb + 1 := by simp at hXl; omega
            have e2 : lz = lb + 1 := by simp at hZl; omega
            have HA : Hid (A.length = lb) := hAl
            have HB : Hid (B.length = lb) := hBl
            have n2 : ((sp : Int) % 2 == 1) = false := by rw [beq_eq_false_iff_ne]; omega
            have n3 : ((lx : Int) != (lb : Int) + 1) = false := by rw [bne_eq_false_iff_eq]; omega
            have n4 : ((lz : Int) != (lx : Int)) = false := by rw [bne_eq_false_iff_eq]; omega
            have i3 : (lb : Int) < (lx : Int) := by omega
            have i4 : (lb : Int) < (lz : Int) := by omega
            have i5 : lb < lx := by omega
            have i6 : lb < lz := by omega
            have HKI : Hid (∀ i, Plain.IsLast (tx a) i → i = (k : Int) - 1) := hki
            clear hA hB hX hZ hAl hBl hXl hZl hla hlb hwl hlsp hodd f1 f2 hlast hki e1 e2 HY
            go_wp2_with fail
            refine (count_any a _ (by omega)).mono ?_
            rintro e w3 ⟨rfl, hw3⟩
            have hw3 := hw3.symm
            subst hw3
            rw [← HSP.out]
            go_wp2_with fail
            go_loopw [10] (fun i wr => ∃ j : Nat, j ≤ lb ∧ i = .int .i64 j ∧ Below W2.heap.size W2 wr) (fun i _ => lb - (intOf i).toNat)
            case atStart => exact ⟨0, Nat.zero_le _, rfl, Below.refl _ _⟩
            case round =>
              obtain ⟨j, hj, rfl, hbr⟩ := hrel
              have hSx := hSx.below hbr (Nat.le_refl _)
              have hSa2 := hSa2.below hbr (Nat.le_refl _)
              have hSy := hSy.below hbr (Nat.le_refl _)
              have hSb2 := hSb2.below hbr (Nat.le_refl _)
              by_cases hlt : j < lb
              · obtain ⟨b1, o1, rfl, c1⟩ := hSx.at' j (by omega)
                obtain ⟨b2, o2, rfl, c2⟩ := hSa2.at' j hlt
                obtain ⟨b3, o3, rfl, c3⟩ := hSy.at' j (by omega)
                obtain ⟨b4, o4, rfl, c4⟩ := hSb2.at' j hlt
                rw [sa_left (by rw [HA.out]; exact hlt)] at c1
                rw [sa_left (by rw [HB.out]; exact hlt)] at c3
                generalize sa A j = t at c1 c2
                generalize sa B j = u at c3 c4
                have j1 : (j : Int) < (lx : Int) := by omega
                have j2 : (j : Int) < (lb : Int) := by omega
                have j3 : (j : Int) < (lz : Int) := by omega
                clear hSx hSa2 hSy hSb2
                go_wp2_with fail
                go_quiet (fail)
                go_wp2_with fail
                go_roundw
                case rel => exact ⟨j + 1, by omega, by go_num, below_drewN hbr _⟩
                case measure => simp [intOf]; omega
              · obtain ⟨b1, o1, rfl, c1⟩ := hSx.at' lb i5
                obtain ⟨b3, o3, rfl, c3⟩ := hSy.at' lb i6
                have q1 := sa_right (xs := A) (ys := [a.extract k a.size]) (k := 0)
                have q3 := sa_right (xs := B) (ys := [x]) (k := 0)
                rw [HA.out, Nat.add_zero] at q1
                rw [HB.out, Nat.add_zero] at q3
                rw [q1] at c1
                rw [q3] at c3
                have c1' : wr.cell? ⟨b1, o1 + lb, none⟩ = some (.string (a.extract k a.size)) := c1
                have c3' : wr.cell? ⟨b3, o3 + lb, none⟩ = some (.string x) := c3
                clear hSx hSa2 hSy hSb2 c1 c3 q1 q3
                go_wp2_with fail
                go_quiet ((go_at_call 13; exact Calls.quiet_of_same (lastSpace_at a k _ (by omega) HKI.out)))
                go_wp2_with fail
                go_ret
                exact ⟨rfl, below_drewN (hbw2.trans (hbr.mono hbw2.size)) _⟩

end Go.Proofs.Qxb6614064a
