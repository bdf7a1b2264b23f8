/-
  THE WALK: the law FnSmGuaranteedLeastRounds.
-/
import Derived.Test.Qxb6613861aAdj
namespace Go.Proofs.Qxb6613861a.Least
open Go.RowKit Go.Deep
attribute [local go_sem] neq_nil23

/-- What connects says of the distance d. -/
def ConnP (n : Nat) (full : Bool) (Z : Nat → List Int) (ts : List Int) (d : Int) : Prop := (Plain.loyals n (loB ts)).length ≤ 1 ∨ (0 ≤ d ∧ Plain.AllW n (Edge n full Z ts) (loB ts) d.toNat)

theorem want_iff {n : Nat} {full : Bool} {Z : Nat → List Int} {ts : List Int} {d dia : Int} {con : Bool} (h0 : 0 ≤ dia) (h : ∀ r : Nat, (con = true ∧ dia ≤ r) ↔ Plain.AllW n (Edge n full Z ts) (loB ts) r) :
    ((Plain.loyals n (loB ts)).length ≤ 1 ∨ (con = true ∧ dia ≤ d)) ↔ ConnP n full Z ts d := by
  unfold ConnP
  constructor
  · rintro (h1 | ⟨h1, h2⟩)
    · exact Or.inl h1
    · exact Or.inr ⟨by omega, (h d.toNat).1 ⟨h1, by omega⟩⟩
  · rintro (h1 | ⟨h1, h2⟩)
    · exact Or.inl h1
    · have := (h d.toNat).2 h2
      exact Or.inr ⟨this.1, by omega⟩

/-- Where the copy reads. -/
theorem copy_src {V : World} {ba : Addr} {tl : Nat} {ts : List Int} (h : Ints V (some ba) tl ts) (ob : Obj) (j : Nat) (v : Value) (hj : (ts.map (Value.int .i64))[j]? = some v) : (V.alloc ob).cell? (ba.add j) = some v := by
  rw [List.getElem?_map] at hj
  have hjl : j < tl := by
    rcases Nat.lt_or_ge j tl with h' | h'
    · exact h'
    · rw [List.getElem?_eq_none (by rw [h.size]; exact h')] at hj; simp at hj
  obtain ⟨b, o, e, hc⟩ := h.at' j hjl
  have e : ba = ⟨b, o, none⟩ := by simpa using e
  subst e
  have hlt := World.block_lt_of_cell? _ _ hc
  rw [List.getElem?_eq_getElem (by rw [h.size]; exact hjl)] at hj
  simp only [Option.map_some, Option.some.injEq] at hj
  rw [za, List.getD_eq_getElem?_getD, List.getElem?_eq_getElem (by rw [h.size]; exact hjl), Option.getD_some] at hc
  rw [WideShapes.add_plain, ((Below.refl V.heap.size V).alloc (Nat.le_refl _) ob).cell hlt, ← hj]
  exact hc

/-- A copy of the traitors. -/
theorem copied {V w2 : World} {tl : Nat} {ts : List Int} (hl : ts.length = tl) (ht : tl ≤ 9223372036854775807) (hrow : w2.heap[V.heap.size]? = some (.cells (ts.map (Value.int .i64)).toArray 3)) : Ints w2 (some ⟨V.heap.size, 0, none⟩) tl ts := by
  refine ⟨hl, ht, fun i hi => ⟨V.heap.size, 0, rfl, ?_⟩⟩
  have hi' : i < ts.length := by omega
  simp [World.cell?, hrow, za, List.getD_eq_getElem?_getD, List.getElem?_eq_getElem hi']

theorem maxInt_any (w : World) : Calls Try.prog 15 #[] w fun e w' => e = .returned (.int .i64 9223372036854775807) ∧ w' = w := by
  go_enter Try.func15, Try.ntmps15
  go_wp2
  go_ret
  exact ⟨rfl, rfl⟩

set_option maxRecDepth 100000 in
set_option maxHeartbeats 2000000 in
theorem law4_out (n m : Int) (adjv : Value) (bo : Option Addr) (tl tc : Nat) (w : World)
    (h14 : Calls Try.prog 14 #[.int .i64 n, .int .i64 m, adjv, .slice bo tl tc] w fun e w' => IsBool e ∧ w' = w)
    (h6 : Calls Try.prog 6 #[adjv] w fun e w' => IsInt e ∧ w' = w)
    (hbad : n < 0 ∨ (0 ≤ n ∧ 256 < n) ∨ (0 ≤ n ∧ n ≤ 256 ∧ m < 0) ∨ (0 ≤ n ∧ n ≤ 256 ∧ 0 ≤ m ∧ 9223372036854775295 < m)) :
    Calls Try.prog 4 #[.int .i64 n, .int .i64 m, adjv, .slice bo tl tc] w fun e w' => e = .returned (.bool true) ∧ Below w.heap.size w w' := by
  have H14 : Hid (Calls Try.prog 14 #[.int .i64 n, .int .i64 m, adjv, .slice bo tl tc] w fun e w' => IsBool e ∧ w' = w) := h14
  have H6 : Hid (Calls Try.prog 6 #[adjv] w fun e w' => IsInt e ∧ w' = w) := h6
  clear h14 h6
  go_enter Try.func4, Try.ntmps4
  go_wp2_with fail
  refine H14.out.mono ?_
  rintro e w' ⟨⟨b, rfl⟩, hw⟩
  have hw := hw.symm
  subst hw
  cases b with
  | false =>
    go_wp2_with fail
    go_ret
    exact ⟨rfl, Below.refl _ _⟩
  | true =>
    rcases hbad with hb | ⟨h0, hb⟩ | ⟨h0, h1, hb⟩ | ⟨h0, h1, h2, hb⟩
    all_goals
      go_wp2_with (first
        | (go_at_call 6; refine H6.out.mono ?_; rintro e w1 ⟨⟨b6, rfl⟩, hw1⟩; have hw1 := hw1.symm; subst hw1)
        | (go_at_call 15; refine (maxInt_any _).mono ?_; rintro e w1 ⟨rfl, hw1⟩; have hw1 := hw1.symm; subst hw1))
      all_goals
        go_ret
        exact ⟨rfl, Below.refl _ _⟩

set_option maxRecDepth 100000 in
set_option maxHeartbeats 4000000 in
theorem law4_in (nn : Nat) (m : Int) (adjv : Value) (bo : Option Addr) (tl tc : Nat) (ts : List Int) (w : World) (hI : Ints w bo tl ts) (hnil : bo = none → tl = 0 ∧ tc = 0) (hn : nn ≤ 256)
    (hm0 : 0 ≤ m) (hm1 : m ≤ 9223372036854775295)
    (h14 : Calls Try.prog 14 #[.int .i64 nn, .int .i64 m, adjv, .slice bo tl tc] w fun e w' => IsBool e ∧ w' = w)
    (h6 : Calls Try.prog 6 #[adjv] w fun e w' => IsInt e ∧ w' = w)
    (h7 : Calls Try.prog 7 #[.int .i64 nn, adjv] w fun e w' => Okb (AdjOk nn adjv w) e ∧ w' = w) :
    Calls Try.prog 4 #[.int .i64 nn, .int .i64 m, adjv, .slice bo tl tc] w fun e w' => e = .returned (.bool true) ∧ Below w.heap.size w w' := by
  have H14 : Hid (Calls Try.prog 14 #[.int .i64 nn, .int .i64 m, adjv, .slice bo tl tc] w fun e w' => IsBool e ∧ w' = w) := h14
  have H6 : Hid (Calls Try.prog 6 #[adjv] w fun e w' => IsInt e ∧ w' = w) := h6
  have H7 : Hid (Calls Try.prog 7 #[.int .i64 nn, adjv] w fun e w' => Okb (AdjOk nn adjv w) e ∧ w' = w) := h7
  clear h14 h6 h7
  go_enter Try.func4, Try.ntmps4
  go_wp2_with fail
  refine H14.out.mono ?_
  rintro e w' ⟨⟨b, rfl⟩, hw⟩
  have hw := hw.symm
  subst hw
  cases b with
  | false =>
    go_wp2_with fail
    go_ret
    exact ⟨rfl, Below.refl _ _⟩
  | true =>
    by_cases htl : (131072 : Int) < tl
    · go_wp2_with fail
      go_ret
      exact ⟨rfl, Below.refl _ _⟩
    · go_wp2_with fail
      refine H6.out.mono ?_
      rintro e w1 ⟨⟨b6, rfl⟩, hw1⟩
      have hw1 := hw1.symm
      subst hw1
      go_wp2_with fail
      · go_ret
        exact ⟨rfl, Below.refl _ _⟩
      · refine (maxInt_any _).mono ?_
        rintro e w1 ⟨rfl, hw1⟩
        have hw1 := hw1.symm
        subst hw1
        go_wp2_with fail
        refine H7.out.mono ?_
        rintro e w1 ⟨⟨b7, rfl, h7⟩, hw1⟩
        have hw1 := hw1.symm
        subst hw1
        cases b7 with
        | false =>
          clear h7
          go_wp2_with fail
          go_ret
          exact ⟨rfl, Below.refl _ _⟩
        | true =>
          obtain ⟨full, Z, hc9, hc11, hlk⟩ := h7 rfl
          have HC9 : Hid (∀ W, Below w.heap.size w W → Calls Try.prog 9 #[.int .i64 nn, adjv] W fun e W' => e = .returned (.bool full) ∧ W' = W) := hc9
          have HC11 : Hid (∀ W, Below w.heap.size w W → Calls Try.prog 11 #[.int .i64 nn, adjv] W fun e W' => NbEnd nn full Z W e W') := hc11
          have HLK : Hid (∀ W, Below w.heap.size w W → LinkedAt nn full adjv Z W) := hlk
          clear h7 hc9 hc11 hlk
          go_wp2_with fail
          refine (distinct_any nn bo tl tc ts w hI hn).mono ?_
          rintro e w8 ⟨⟨b8, rfl, h8⟩, hb8⟩
          cases b8 with
          | false =>
            clear h8
            go_wp2_with fail
            go_ret
            exact ⟨rfl, hb8⟩
          | true =>
            have hD := h8 rfl
            clear h8
            have hI8 := hI.below hb8 (Nat.le_refl _)
            clear hI H14 H6 H7
            by_cases htm : (tl : Int) ≤ m
            · cases bo with
              | none =>
                obtain ⟨rfl, rfl⟩ := hnil rfl
                have hbV := hb8
                have hIV := hI8
                clear hnil
                go_wp2_with fail
                refine (HC9.out _ hbV).mono ?_
                rintro e w9 ⟨rfl, hw9⟩
                have hw9 := hw9.symm
                subst hw9
                go_wp2_with fail
                refine (loyal_any nn full adjv Z none 0 0 ts _ hIV hn hD (HLK.out _ hbV)).mono ?_
                rintro e w13 ⟨⟨con, dia, rfl, hd0, hd1, hall⟩, hb13⟩
                have hbw13 := hbV.trans (hb13.mono hbV.size)
                have hI13 := hIV.below hb13 (Nat.le_refl _)
                have HW : Hid (∀ d : Int, ((Plain.loyals nn (loB ts)).length ≤ 1 ∨ (con = true ∧ dia ≤ d)) ↔ ConnP nn full Z ts d) := fun d => want_iff hd0 hall
                have hd2 : dia ≤ 256 := by omega
                clear hall hIV hbV hb13
                generalize (Plain.loyals nn (loB ts)).length = cnt at *
                by_cases t2 : (cnt : Int) < 2
                · go_wp2_with fail
                  go_ret
                  exact ⟨rfl, hbw13⟩
                · cases con with
                  | false =>
                    go_wp2_with fail
                    go_ret
                    exact ⟨rfl, hbw13⟩
                  | true =>
                    go_wp2_with fail
                    refine (HC11.out _ hbw13).mono ?_
                    rintro e w11 ⟨mv, rfl, hb11, hready⟩
                    have hbw11 := hbw13.trans (hb11.mono hbw13.size)
                    go_wp2_with fail
                    refine (group_any nn m (m + dia) mv w11).mono ?_
                    rintro e w10 ⟨rfl, hb10, hG⟩
                    have hbw10 := hbw11.trans (hb10.mono hbw11.size)
                    have hI10 := (hI13.below hb11 (Nat.le_refl _)).below hb10 (Nat.le_refl _)
                    have hconn : ConnAt (ConnP nn full Z ts dia) w10 (.pointer (some ⟨w11.heap.size, 0, none⟩)) (.slice none 0 0) (m + dia - m) := fun W hW => by
                      rw [show m + dia - m = dia from by omega]
                      exact hready w11.heap.size none 0 0 ts dia W (hb10.trans (hW.mono hb10.size)) (hI10.below hW (Nat.le_refl _)) hD (by omega) (hG.below hW (Nat.le_refl _)).c0 (hG.below hW (Nat.le_refl _)).c2
                    go_wp2_with fail
                    refine (zsm_any (ConnP nn full Z ts dia) w11.heap.size nn m (m + dia) mv none 0 0 w10 hm0 (by omega) (by omega) (by omega) hG hconn).mono ?_
                    rintro e w12 ⟨⟨got, rfl, hgot⟩, hb12⟩
                    have hg : got = true := hgot.2 ⟨htm, (HW.out dia).1 (Or.inr ⟨by trivial, Int.le_refl _⟩)⟩
                    subst hg
                    have hbw12 := hbw10.trans (hb12.mono hbw10.size)
                    have hI12 := hI10.below hb12 (Nat.le_refl _)
                    clear hgot hconn hready hG hI10 hI13 hb10 hb11 hb12 hbw10 hbw11 hbw13
                    go_wp2_with fail
                    refine (HC11.out _ hbw12).mono ?_
                    rintro e x11 ⟨mv, rfl, hb11, hready⟩
                    have hbw11 := hbw12.trans (hb11.mono hbw12.size)
                    go_wp2_with fail
                    refine (group_any nn m (m + dia - 1) mv x11).mono ?_
                    rintro e x10 ⟨rfl, hb10, hG⟩
                    have hbw10 := hbw11.trans (hb10.mono hbw11.size)
                    have hI10 := (hI12.below hb11 (Nat.le_refl _)).below hb10 (Nat.le_refl _)
                    have hconn : ConnAt (ConnP nn full Z ts (dia - 1)) x10 (.pointer (some ⟨x11.heap.size, 0, none⟩)) (.slice none 0 0) (m + dia - 1 - m) := fun W hW => by
                      rw [show m + dia - 1 - m = dia - 1 from by omega]
                      exact hready x11.heap.size none 0 0 ts (dia - 1) W (hb10.trans (hW.mono hb10.size)) (hI10.below hW (Nat.le_refl _)) hD (by omega) (hG.below hW (Nat.le_refl _)).c0 (hG.below hW (Nat.le_refl _)).c2
                    go_wp2_with fail
                    refine (zsm_any (ConnP nn full Z ts (dia - 1)) x11.heap.size nn m (m + dia - 1) mv none 0 0 x10 hm0 (by omega) (by omega) (by omega) hG hconn).mono ?_
                    rintro e x12 ⟨⟨got, rfl, hgot⟩, hb12⟩
                    have hg : got = false := by
                      cases got with
                      | false => rfl
                      | true =>
                        rcases (HW.out (dia - 1)).2 (hgot.1 rfl).2 with h | ⟨_, h⟩
                        · omega
                        · omega
                    subst hg
                    have hbw14 := hbw10.trans (hb12.mono hbw10.size)
                    clear hgot hconn hready hG
                    go_wp2_with fail
                    go_ret
                    exact ⟨rfl, hbw14⟩
              | some ba =>
                clear hnil
                have HT : Hid (ts.length = tl) := hI8.size
                have hmk := run_make_row' (P := Try.prog) 23 3 (.int .i64 0) 8 Try.underlying23 Try.info3 rfl .i64 .i64 tl (by omega) (by omega)
                have htop := hI8.top
                obtain ⟨cs, HCS⟩ : ∃ cs, Hid (cs = ts.map (Value.int .i64)) := ⟨_, (rfl : ts.map (Value.int .i64) = _)⟩
                have HSrc : Hid (∀ (ob : Obj) (j : Nat) (v : Value), cs[j]? = some v → (w8.alloc ob).cell? (ba.add j) = some v) := (show ∀ (ob : Obj) (j : Nat) (v : Value), cs[j]? = some v → (w8.alloc ob).cell? (ba.add j) = some v by
                  rw [HCS.out]; exact copy_src hI8)
                have HLen : Hid (cs.length = tl) := (show cs.length = tl by rw [HCS.out, List.length_map]; exact HT.out)
                have HOne : Hid (∀ v ∈ cs, v.oneCell' = true) := (show ∀ v ∈ cs, v.oneCell' = true by rw [HCS.out]; exact ints_oneCell .i64 ts)
                clear hI8
                go_wp2_with (refine wpList_copy_splice rfl (.tmp 70) (.tmp 71) 23 23 rfl 3 Try.underlying23 (by kernel_rfl) _ _ _ _ _ _ rfl rfl w8.heap.size 0 (madeCells #[.int .i64 0] tl).toList 3 (made_heap w8 tl) cs (by rw [HLen.out]; simp) (fun _ => ⟨rfl, _, rfl, HSrc.out _⟩) (by rw [HLen.out]; simp [size_madeCells]) HOne.out w8.heap.size w8 ((Below.refl _ _).alloc (Nat.le_refl _) _) (Nat.le_refl _) ?_; intro w2 hrow2 hbel2)
                have hbV := hb8.trans (hbel2.mono hb8.size)
                have hIV : Ints w2 (some ⟨w8.heap.size, 0, none⟩) tl ts := copied HT.out htop (by rw [hrow2.out, splice_all _ _ (by rw [HLen.out]; simp [size_madeCells]), HCS.out])
                clear hmk HSrc HLen HOne hrow2 hbel2 HCS hb8
                go_wp2_with fail
                refine (HC9.out _ hbV).mono ?_
                rintro e w9 ⟨rfl, hw9⟩
                have hw9 := hw9.symm
                subst hw9
                go_wp2_with fail
                refine (loyal_any nn full adjv Z (some ⟨w8.heap.size, 0, none⟩) tl tl ts _ hIV hn hD (HLK.out _ hbV)).mono ?_
                rintro e w13 ⟨⟨con, dia, rfl, hd0, hd1, hall⟩, hb13⟩
                have hbw13 := hbV.trans (hb13.mono hbV.size)
                have hI13 := hIV.below hb13 (Nat.le_refl _)
                have HW : Hid (∀ d : Int, ((Plain.loyals nn (loB ts)).length ≤ 1 ∨ (con = true ∧ dia ≤ d)) ↔ ConnP nn full Z ts d) := fun d => want_iff hd0 hall
                have hd2 : dia ≤ 256 := by omega
                clear hall hIV hbV hb13
                generalize (Plain.loyals nn (loB ts)).length = cnt at *
                by_cases t2 : (cnt : Int) < 2
                · go_wp2_with fail
                  go_ret
                  exact ⟨rfl, hbw13⟩
                · cases con with
                  | false =>
                    go_wp2_with fail
                    go_ret
                    exact ⟨rfl, hbw13⟩
                  | true =>
                    go_wp2_with fail
                    refine (HC11.out _ hbw13).mono ?_
                    rintro e w11 ⟨mv, rfl, hb11, hready⟩
                    have hbw11 := hbw13.trans (hb11.mono hbw13.size)
                    go_wp2_with fail
                    refine (group_any nn m (m + dia) mv w11).mono ?_
                    rintro e w10 ⟨rfl, hb10, hG⟩
                    have hbw10 := hbw11.trans (hb10.mono hbw11.size)
                    have hI10 := (hI13.below hb11 (Nat.le_refl _)).below hb10 (Nat.le_refl _)
                    have hconn : ConnAt (ConnP nn full Z ts dia) w10 (.pointer (some ⟨w11.heap.size, 0, none⟩)) (.slice (some ⟨w8.heap.size, 0, none⟩) tl tl) (m + dia - m) := fun W hW => by
                      rw [show m + dia - m = dia from by omega]
                      exact hready w11.heap.size (some ⟨w8.heap.size, 0, none⟩) tl tl ts dia W (hb10.trans (hW.mono hb10.size)) (hI10.below hW (Nat.le_refl _)) hD (by omega) (hG.below hW (Nat.le_refl _)).c0 (hG.below hW (Nat.le_refl _)).c2
                    go_wp2_with fail
                    refine (zsm_any (ConnP nn full Z ts dia) w11.heap.size nn m (m + dia) mv (some ⟨w8.heap.size, 0, none⟩) tl tl w10 hm0 (by omega) (by omega) (by omega) hG hconn).mono ?_
                    rintro e w12 ⟨⟨got, rfl, hgot⟩, hb12⟩
                    have hg : got = true := hgot.2 ⟨htm, (HW.out dia).1 (Or.inr ⟨by trivial, Int.le_refl _⟩)⟩
                    subst hg
                    have hbw12 := hbw10.trans (hb12.mono hbw10.size)
                    have hI12 := hI10.below hb12 (Nat.le_refl _)
                    clear hgot hconn hready hG hI10 hI13 hb10 hb11 hb12 hbw10 hbw11 hbw13
                    go_wp2_with fail
                    refine (HC11.out _ hbw12).mono ?_
                    rintro e x11 ⟨mv, rfl, hb11, hready⟩
                    have hbw11 := hbw12.trans (hb11.mono hbw12.size)
                    go_wp2_with fail
                    refine (group_any nn m (m + dia - 1) mv x11).mono ?_
                    rintro e x10 ⟨rfl, hb10, hG⟩
                    have hbw10 := hbw11.trans (hb10.mono hbw11.size)
                    have hI10 := (hI12.below hb11 (Nat.le_refl _)).below hb10 (Nat.le_refl _)
                    have hconn : ConnAt (ConnP nn full Z ts (dia - 1)) x10 (.pointer (some ⟨x11.heap.size, 0, none⟩)) (.slice (some ⟨w8.heap.size, 0, none⟩) tl tl) (m + dia - 1 - m) := fun W hW => by
                      rw [show m + dia - 1 - m = dia - 1 from by omega]
                      exact hready x11.heap.size (some ⟨w8.heap.size, 0, none⟩) tl tl ts (dia - 1) W (hb10.trans (hW.mono hb10.size)) (hI10.below hW (Nat.le_refl _)) hD (by omega) (hG.below hW (Nat.le_refl _)).c0 (hG.below hW (Nat.le_refl _)).c2
                    go_wp2_with fail
                    refine (zsm_any (ConnP nn full Z ts (dia - 1)) x11.heap.size nn m (m + dia - 1) mv (some ⟨w8.heap.size, 0, none⟩) tl tl x10 hm0 (by omega) (by omega) (by omega) hG hconn).mono ?_
                    rintro e x12 ⟨⟨got, rfl, hgot⟩, hb12⟩
                    have hg : got = false := by
                      cases got with
                      | false => rfl
                      | true =>
                        rcases (HW.out (dia - 1)).2 (hgot.1 rfl).2 with h | ⟨_, h⟩
                        · omega
                        · omega
                    subst hg
                    have hbw14 := hbw10.trans (hb12.mono hbw10.size)
                    clear hgot hconn hready hG
                    go_wp2_with fail
                    go_ret
                    exact ⟨rfl, hbw14⟩
            · go_wp2_with fail
              go_ret
              exact ⟨rfl, hb8⟩

end Go.Proofs.Qxb6613861a.Least
