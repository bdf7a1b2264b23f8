/-
  THE WALK: zzPairsRebuild, where it is to say yes.
-/
import Derived.Test.Qxb6614064aRb
namespace Go.Proofs.Qxb6614064a
open Go.RowKit Go.Shelf

theorem rebuild_len (N V : List (List UInt8)) {la : Nat} (hs : ∀ p ∈ N ++ V, p.length ≤ 4194304) (hN : N.length = la) (hV : V.length = la) (k : Nat) (hk : k ≤ la) : (Plain.rebuild N V k).length ≤ k * 8388610 := by
  induction k with
  | zero => simp [Plain.rebuild]
  | succ k ih =>
    have h1 := hs _ (List.mem_append.2 (Or.inl (getD_mem (N := N) (k := k) (by omega))))
    have h2 := hs _ (List.mem_append.2 (Or.inr (getD_mem (N := V) (k := k) (by omega))))
    have h3 := ih (by omega)
    simp only [Plain.rebuild, List.length_append, List.length_cons, List.length_nil]
    split <;> simp only [List.length_cons, List.length_nil] <;> omega

theorem last_is (a : ByteArray) : ∃ i, Plain.IsLast (tx a) i := by
  refine Plain.words_ind (M := fun l => ∃ i, Plain.IsLast l i) ?_ ?_ (tx a)
  · intro p h; exact ⟨-1, Or.inl ⟨rfl, h⟩⟩
  · rintro p r h ⟨i, hi⟩
    rcases hi with ⟨_, hn⟩ | ⟨q, y, e, hy, _⟩
    · exact ⟨p.length, Or.inr ⟨p, r, rfl, hn, rfl⟩⟩
    · exact ⟨(p ++ 32 :: q).length, Or.inr ⟨p ++ 32 :: q, y, by rw [e]; simp, hy, rfl⟩⟩

set_option maxRecDepth 100000 in
set_option maxHeartbeats 8000000 in
theorem rebuild_walk (a : ByteArray) (an av : Option Addr) (la cn cv : Nat) (N V : List (List UInt8)) (w : World) (hs : a.size ≤ 4194304) (hNV : NV w an av la N V) (hN : N = Plain.firsts (Plain.words (tx a))) (hV : V = Plain.seconds (Plain.words (tx a))) :
    Calls Try.prog 7 #[.string a, .slice an la cn, .slice av la cv] w fun e w' => e = .returned (.bool true) ∧ Below w.heap.size w w' := by
  have HNl : Hid (N.length = la) := (show N.length = la by rw [← hNV.ns.size, List.length_map])
  have HVl : Hid (V.length = la) := (show V.length = la by rw [← hNV.vs.size, List.length_map])
  have hspl := spaces_le (tx a)
  rw [tx_length] at hspl
  obtain ⟨sp, HSP⟩ : ∃ sp, Hid (sp = Plain.spaces (tx a)) := ⟨_, (rfl : Plain.spaces (tx a) = _)⟩
  rw [← HSP.out] at hspl
  have hlsp : (la : Int) = ((sp : Int) + 1) / 2 := by
    have h1 := HNl.out
    rw [hN, Plain.firsts_length, Plain.words_length, ← HSP.out] at h1
    omega
  have n1 : ((la : Int) != ((sp : Int) + 1) / 2) = false := by rw [bne_eq_false_iff_eq]; exact hlsp
  have hla : la ≤ 2097153 := by omega
  have HCut : Hid (∀ i, Plain.IsLast (tx a) i → Plain.rebuild N V la = (tx a).take (if sp % 2 = 0 then (if i < 0 then 0 else i.toNat) else (tx a).length)) := (show ∀ i, Plain.IsLast (tx a) i → Plain.rebuild N V la = (tx a).take (if sp % 2 = 0 then (if i < 0 then 0 else i.toNat) else (tx a).length) by
    intro i hi
    have h1 := HNl.out
    rw [hN, Plain.firsts_length, Plain.words_length] at h1
    have := Plain.rebuild_cut hi
    rw [← hN, ← hV, h1, ← HSP.out] at this
    exact this)
  obtain ⟨kl, hkl, -, hki⟩ := last_ex a
  have HKI : Hid (∀ i, Plain.IsLast (tx a) i → i = (kl : Int) - 1) := hki
  obtain ⟨i0, hi, hz0, hz1, hz2⟩ := info_parts Try.info5
  clear hN hV hlsp hki
  go_enter Try.func7, Try.ntmps7
  go_wp2_with fail
  refine (count_any a _ hs).mono ?_
  rintro e w1 ⟨rfl, hw1⟩
  have hw1 := hw1.symm
  subst hw1
  rw [← HSP.out]
  go_wp2_with fail
  go_loop [8] (fun i => ∃ k : Nat, k ≤ la ∧ i = .int .i64 k) (fun i => la - (intOf i).toNat)
  case atStart => exact ⟨0, Nat.zero_le _, rfl⟩
  case round =>
    obtain ⟨k, hk, rfl⟩ := hrel
    by_cases hlt : k < la
    · obtain ⟨b1, o1, rfl, c1⟩ := hNV.ns.at' k hlt
      obtain ⟨b2, o2, rfl, c2⟩ := hNV.vs.at' k hlt
      rw [sa_bs] at c1 c2
      have hp1 : (bs (N.getD k [])).size ≤ 4194304 := by rw [bs_size]; exact hNV.sz _ (List.mem_append.2 (Or.inl (getD_mem (by rw [HNl.out]; exact hlt))))
      have hp2 : (bs (V.getD k [])).size ≤ 4194304 := by rw [bs_size]; exact hNV.sz _ (List.mem_append.2 (Or.inr (getD_mem (by rw [HVl.out]; exact hlt))))
      have f1 : spB (bs (N.getD k [])) = false := sp_of_nosp (hNV.nn _ (getD_mem (by rw [HNl.out]; exact hlt)))
      have f2 : spB (bs (V.getD k [])) = false := sp_of_nosp (hNV.nv _ (getD_mem (by rw [HVl.out]; exact hlt)))
      generalize bs (N.getD k []) = p at *
      generalize bs (V.getD k []) = q at *
      clear hNV HCut HKI
      go_wp2_with fail
      refine (hasSpace_any p _ hp1).mono ?_
      rintro e w2 ⟨rfl, hw2⟩
      have hw2 := hw2.symm
      subst hw2
      rw [f1]
      go_wp2_with fail
      refine (hasSpace_any q _ hp2).mono ?_
      rintro e w2 ⟨rfl, hw2⟩
      have hw2 := hw2.symm
      subst hw2
      rw [f2]
      go_wp2_with fail
      go_round
      case rel => exact ⟨k + 1, by omega, by go_num⟩
      case measure => simp [intOf]; omega
    · by_cases hodd : sp % 2 = 1
      · have n2 : ((sp : Int) % 2 == 0) = false := by rw [beq_eq_false_iff_ne]; omega
        have HR : Hid (Plain.rebuild N V la = (tx a).take a.size) := (show Plain.rebuild N V la = (tx a).take a.size by
          have ⟨i, hi⟩ := last_is a
          rw [HCut.out i hi, if_neg (by omega), tx_length])
        have hBm := buf_make w a.size (by unfold maxLen; omega)
        have hmk := make_buf a.size (by omega)
        go_wp2_with fail
        clear hmk
        go_loopw [10, 11] (fun v i wr => ∃ k : Nat, k ≤ la ∧ i = .int .i64 k ∧ Buf wr w.heap.size v (Plain.rebuild N V k) ∧ Below w.heap.size w wr) (fun _ i _ => la - (intOf i).toNat)
        case atStart => exact ⟨0, Nat.zero_le _, rfl, hBm, (Below.refl _ _).alloc (Nat.le_refl _) _⟩
        case round =>
          clear hBm
          obtain ⟨k, hk, rfl, hbuf, hbel⟩ := hrel
          by_cases hlt : k < la
          · obtain ⟨b1, o1, rfl, c1⟩ := hNV.ns.at' k hlt
            obtain ⟨b2, o2, rfl, c2⟩ := hNV.vs.at' k hlt
            have l1 := World.block_lt_of_cell? _ _ c1
            have l2 := World.block_lt_of_cell? _ _ c2
            rw [sa_bs] at c1 c2
            have hp1 : (N.getD k []).length ≤ 4194304 := hNV.sz _ (List.mem_append.2 (Or.inl (getD_mem (by rw [HNl.out]; exact hlt))))
            have hp2 : (V.getD k []).length ≤ 4194304 := hNV.sz _ (List.mem_append.2 (Or.inr (getD_mem (by rw [HVl.out]; exact hlt))))
            have hrl := rebuild_len N V hNV.sz HNl.out HVl.out k (by omega)
            have HS : Hid (Plain.rebuild N V (k + 1) = (Plain.rebuild N V k) ++ (if 0 < k then [32] else []) ++ N.getD k [] ++ [32] ++ V.getD k []) := (rfl : Plain.rebuild N V (k + 1) = _)
            obtain ⟨p, HP⟩ : ∃ p, Hid (p = N.getD k []) := ⟨_, (rfl : N.getD k [] = _)⟩
            obtain ⟨q, HQ⟩ : ∃ q, Hid (q = V.getD k []) := ⟨_, (rfl : V.getD k [] = _)⟩
            obtain ⟨t, HT⟩ : ∃ t, Hid (t = Plain.rebuild N V k) := ⟨_, (rfl : Plain.rebuild N V k = _)⟩
            rw [← HP.out] at c1 hp1 HS
            rw [← HQ.out] at c2 hp2 HS
            rw [← HT.out] at hbuf hrl HS
            have d1 : wr.cell? ⟨b1, o1 + k, none⟩ = some (.string (bs p)) := by rw [hbel.cell l1]; exact c1
            have hsp : (bs p).size ≤ 4194304 := by rw [bs_size]; exact hp1
            have hsq : (bs q).size ≤ 4194304 := by rw [bs_size]; exact hp2
            have hws := hbel.size
            have i1 : (k : Int) < (la : Int) := by omega
            by_cases hk0 : 0 < k
            · go_wp2_with (first
                | (at_builtin; refine wpList_append_own _ rfl (.tmp 64) (.tmp 65) 38 rfl w.heap.size 5 i0 (.int .u8 0) 1 1 Try.underlying38 hi hz0 hz1 hz2 rfl (by decide) _ _ _ rfl (hbuf.1.alloc _) ⟨wr.heap.size, 0, none⟩ 1 1 [.int .u8 32] rfl rfl (cell_one_new _ _ _) (by simp [Value.oneCell']) (by unfold maxLen; omega) (by omega) (by first | omega | (simp; omega)) ?_; intro v1 w1 ho1 hg1 hn1; have hb1 := buf_below hbel (Nat.le_refl _) hbuf.1 hg1; have B1 := buf_space hbuf.2 ho1 hn1; have e1 : w1.cell? ⟨b1, o1 + k, none⟩ = some (.string (bs p)) := by { rw [hb1.cell l1]; exact c1 }; have s1 := hb1.size)
                | (at_builtin; refine Lib.wpList_append_own_string _ rfl (.tmp 67) (.tmp 71) 38 9 rfl w.heap.size 5 i0 Try.underlying38 Try.underlying9 hi hz0 hz1 hz2 _ _ _ rfl B1.1 (bs p) rfl (by unfold maxLen; first | omega | (simp; omega)) (by first | omega | (simp; omega)) (by omega) ?_; intro v2 w2 ho2 hg2 hn2; have hb2 := buf_below' hb1 (Nat.le_refl _) B1.1 hg2; have B2 := buf_text B1.2 ho2 hn2; have s2 := hb2.size)
                | (at_builtin; refine wpList_append_own _ rfl (.tmp 73) (.tmp 74) 38 rfl w.heap.size 5 i0 (.int .u8 0) 1 1 Try.underlying38 hi hz0 hz1 hz2 rfl (by decide) _ _ _ rfl (B2.1.alloc _) ⟨w2.heap.size, 0, none⟩ 1 1 [.int .u8 32] rfl rfl (cell_one_new _ _ _) (by simp [Value.oneCell']) (by unfold maxLen; first | omega | (simp; omega)) (by first | omega | (simp; omega)) (by first | omega | (simp; omega)) ?_; intro v3 w3 ho3 hg3 hn3; have hb3 := buf_below hb2 (Nat.le_refl _) B2.1 hg3; have B3 := buf_space B2.2 ho3 hn3; have e3 : w3.cell? ⟨b2, o2 + k, none⟩ = some (.string (bs q)) := by { rw [hb3.cell l2]; exact c2 }; have s3 := hb3.size)
                | (at_builtin; refine Lib.wpList_append_own_string _ rfl (.tmp 76) (.tmp 80) 38 9 rfl w.heap.size 5 i0 Try.underlying38 Try.underlying9 hi hz0 hz1 hz2 _ _ _ rfl B3.1 (bs q) rfl (by unfold maxLen; first | omega | (simp; omega)) (by first | omega | (simp; omega)) (by omega) ?_; intro v4 w4 ho4 hg4 hn4; have hb4 := buf_below' hb3 (Nat.le_refl _) B3.1 hg4; have B4 := buf_text B3.2 ho4 hn4))
              go_roundw
              case rel => exact ⟨k + 1, by omega, by go_num, by rw [HS.out, if_pos hk0]; exact B4, hb4⟩
              case measure => simp [intOf]; omega
            · go_wp2_with (first
                | (at_builtin; refine Lib.wpList_append_own_string _ rfl (.tmp 67) (.tmp 71) 38 9 rfl w.heap.size 5 i0 Try.underlying38 Try.underlying9 hi hz0 hz1 hz2 _ _ _ rfl hbuf.1 (bs p) rfl (by unfold maxLen; first | omega | (simp; omega)) (by first | omega | (simp; omega)) (by omega) ?_; intro v2 w2 ho2 hg2 hn2; have hb2 := buf_below' hbel (Nat.le_refl _) hbuf.1 hg2; have B2 := buf_text hbuf.2 ho2 hn2; have s2 := hb2.size)
                | (at_builtin; refine wpList_append_own _ rfl (.tmp 73) (.tmp 74) 38 rfl w.heap.size 5 i0 (.int .u8 0) 1 1 Try.underlying38 hi hz0 hz1 hz2 rfl (by decide) _ _ _ rfl (B2.1.alloc _) ⟨w2.heap.size, 0, none⟩ 1 1 [.int .u8 32] rfl rfl (cell_one_new _ _ _) (by simp [Value.oneCell']) (by unfold maxLen; first | omega | (simp; omega)) (by first | omega | (simp; omega)) (by first | omega | (simp; omega)) ?_; intro v3 w3 ho3 hg3 hn3; have hb3 := buf_below hb2 (Nat.le_refl _) B2.1 hg3; have B3 := buf_space B2.2 ho3 hn3; have e3 : w3.cell? ⟨b2, o2 + k, none⟩ = some (.string (bs q)) := by { rw [hb3.cell l2]; exact c2 }; have s3 := hb3.size)
                | (at_builtin; refine Lib.wpList_append_own_string _ rfl (.tmp 76) (.tmp 80) 38 9 rfl w.heap.size 5 i0 Try.underlying38 Try.underlying9 hi hz0 hz1 hz2 _ _ _ rfl B3.1 (bs q) rfl (by unfold maxLen; first | omega | (simp; omega)) (by first | omega | (simp; omega)) (by omega) ?_; intro v4 w4 ho4 hg4 hn4; have hb4 := buf_below' hb3 (Nat.le_refl _) B3.1 hg4; have B4 := buf_text B3.2 ho4 hn4))
              go_roundw
              case rel => exact ⟨k + 1, by omega, by go_num, by rw [HS.out, if_neg hk0]; simpa using B4, hb4⟩
              case measure => simp [intOf]; omega
          · have ek : k = la := by omega
            subst ek
            rw [HR.out] at hbuf
            obtain ⟨g, cap, rfl, hconv⟩ := buf_string hbuf
            rw [← ext_pre] at hconv
            generalize ((tx a).take a.size).length = nn at *
            go_wp2_with fail
            go_quiet (fail)
            go_wp2_with fail
            go_ret
            exact ⟨rfl, below_drewN hbel _⟩
      · have n2 : ((sp : Int) % 2 == 0) = true := by rw [beq_iff_eq]; omega
        go_wp2_with fail
        refine (lastSpace_at a kl _ hs HKI.out).mono ?_
        rintro e w2 ⟨rfl, hw2⟩
        have hw2 := hw2.symm
        subst hw2
        have HR : Hid (Plain.rebuild N V la = (tx a).take (kl - 1)) := (show Plain.rebuild N V la = (tx a).take (kl - 1) by
          have ⟨i, hi⟩ := last_is a
          have h1 := HKI.out i hi
          rw [HCut.out i hi, if_pos (by omega), h1]
          congr 1
          split <;> omega)
        clear HCut HKI
        rcases kl with _ | c
        · have HR : Hid (Plain.rebuild N V la = (tx a).take 0) := HR.out
          have n3 : ((((0 : Nat) : Int)) - 1 < 0) := by omega
          have hBm := buf_make w 0 (by unfold maxLen; omega)
          have hmk : ∀ w : World, (Instr.makeSlice 38 (.int .i64 0) (.int .i64 0)).run Try.prog w = .ok (.slice (some ⟨w.heap.size, 0, none⟩) 0 0) (w.alloc (.cells (madeCells #[.int .u8 0] 0) 5)) := make_buf 0 (by omega)
          go_wp2_with fail
          clear hmk
          go_loopw [10, 11] (fun v i wr => ∃ k : Nat, k ≤ la ∧ i = .int .i64 k ∧ Buf wr w.heap.size v (Plain.rebuild N V k) ∧ Below w.heap.size w wr) (fun _ i _ => la - (intOf i).toNat)
          case atStart => exact ⟨0, Nat.zero_le _, rfl, hBm, (Below.refl _ _).alloc (Nat.le_refl _) _⟩
          case round =>
            clear hBm
            obtain ⟨k, hk, rfl, hbuf, hbel⟩ := hrel
            by_cases hlt : k < la
            · obtain ⟨b1, o1, rfl, c1⟩ := hNV.ns.at' k hlt
              obtain ⟨b2, o2, rfl, c2⟩ := hNV.vs.at' k hlt
              have l1 := World.block_lt_of_cell? _ _ c1
              have l2 := World.block_lt_of_cell? _ _ c2
              rw [sa_bs] at c1 c2
              have hp1 : (N.getD k []).length ≤ 4194304 := hNV.sz _ (List.mem_append.2 (Or.inl (getD_mem (by rw [HNl.out]; exact hlt))))
              have hp2 : (V.getD k []).length ≤ 4194304 := hNV.sz _ (List.mem_append.2 (Or.inr (getD_mem (by rw [HVl.out]; exact hlt))))
              have hrl := rebuild_len N V hNV.sz HNl.out HVl.out k (by omega)
              have HS : Hid (Plain.rebuild N V (k + 1) = (Plain.rebuild N V k) ++ (if 0 < k then [32] else []) ++ N.getD k [] ++ [32] ++ V.getD k []) := (rfl : Plain.rebuild N V (k + 1) = _)
              obtain ⟨p, HP⟩ : ∃ p, Hid (p = N.getD k []) := ⟨_, (rfl : N.getD k [] = _)⟩
              obtain ⟨q, HQ⟩ : ∃ q, Hid (q = V.getD k []) := ⟨_, (rfl : V.getD k [] = _)⟩
              obtain ⟨t, HT⟩ : ∃ t, Hid (t = Plain.rebuild N V k) := ⟨_, (rfl : Plain.rebuild N V k = _)⟩
              rw [← HP.out] at c1 hp1 HS
              rw [← HQ.out] at c2 hp2 HS
              rw [← HT.out] at hbuf hrl HS
              have d1 : wr.cell? ⟨b1, o1 + k, none⟩ = some (.string (bs p)) := by rw [hbel.cell l1]; exact c1
              have hsp : (bs p).size ≤ 4194304 := by rw [bs_size]; exact hp1
              have hsq : (bs q).size ≤ 4194304 := by rw [bs_size]; exact hp2
              have hws := hbel.size
              have i1 : (k : Int) < (la : Int) := by omega
              by_cases hk0 : 0 < k
              · go_wp2_with (first
                  | (at_builtin; refine wpList_append_own _ rfl (.tmp 64) (.tmp 65) 38 rfl w.heap.size 5 i0 (.int .u8 0) 1 1 Try.underlying38 hi hz0 hz1 hz2 rfl (by decide) _ _ _ rfl (hbuf.1.alloc _) ⟨wr.heap.size, 0, none⟩ 1 1 [.int .u8 32] rfl rfl (cell_one_new _ _ _) (by simp [Value.oneCell']) (by unfold maxLen; omega) (by omega) (by first | omega | (simp; omega)) ?_; intro v1 w1 ho1 hg1 hn1; have hb1 := buf_below hbel (Nat.le_refl _) hbuf.1 hg1; have B1 := buf_space hbuf.2 ho1 hn1; have e1 : w1.cell? ⟨b1, o1 + k, none⟩ = some (.string (bs p)) := by { rw [hb1.cell l1]; exact c1 }; have s1 := hb1.size)
                  | (at_builtin; refine Lib.wpList_append_own_string _ rfl (.tmp 67) (.tmp 71) 38 9 rfl w.heap.size 5 i0 Try.underlying38 Try.underlying9 hi hz0 hz1 hz2 _ _ _ rfl B1.1 (bs p) rfl (by unfold maxLen; first | omega | (simp; omega)) (by first | omega | (simp; omega)) (by omega) ?_; intro v2 w2 ho2 hg2 hn2; have hb2 := buf_below' hb1 (Nat.le_refl _) B1.1 hg2; have B2 := buf_text B1.2 ho2 hn2; have s2 := hb2.size)
                  | (at_builtin; refine wpList_append_own _ rfl (.tmp 73) (.tmp 74) 38 rfl w.heap.size 5 i0 (.int .u8 0) 1 1 Try.underlying38 hi hz0 hz1 hz2 rfl (by decide) _ _ _ rfl (B2.1.alloc _) ⟨w2.heap.size, 0, none⟩ 1 1 [.int .u8 32] rfl rfl (cell_one_new _ _ _) (by simp [Value.oneCell']) (by unfold maxLen; first | omega | (simp; omega)) (by first | omega | (simp; omega)) (by first | omega | (simp; omega)) ?_; intro v3 w3 ho3 hg3 hn3; have hb3 := buf_below hb2 (Nat.le_refl _) B2.1 hg3; have B3 := buf_space B2.2 ho3 hn3; have e3 : w3.cell? ⟨b2, o2 + k, none⟩ = some (.string (bs q)) := by { rw [hb3.cell l2]; exact c2 }; have s3 := hb3.size)
                  | (at_builtin; refine Lib.wpList_append_own_string _ rfl (.tmp 76) (.tmp 80) 38 9 rfl w.heap.size 5 i0 Try.underlying38 Try.underlying9 hi hz0 hz1 hz2 _ _ _ rfl B3.1 (bs q) rfl (by unfold maxLen; first | omega | (simp; omega)) (by first | omega | (simp; omega)) (by omega) ?_; intro v4 w4 ho4 hg4 hn4; have hb4 := buf_below' hb3 (Nat.le_refl _) B3.1 hg4; have B4 := buf_text B3.2 ho4 hn4))
                go_roundw
                case rel => exact ⟨k + 1, by omega, by go_num, by rw [HS.out, if_pos hk0]; exact B4, hb4⟩
                case measure => simp [intOf]; omega
              · go_wp2_with (first
                  | (at_builtin; refine Lib.wpList_append_own_string _ rfl (.tmp 67) (.tmp 71) 38 9 rfl w.heap.size 5 i0 Try.underlying38 Try.underlying9 hi hz0 hz1 hz2 _ _ _ rfl hbuf.1 (bs p) rfl (by unfold maxLen; first | omega | (simp; omega)) (by first | omega | (simp; omega)) (by omega) ?_; intro v2 w2 ho2 hg2 hn2; have hb2 := buf_below' hbel (Nat.le_refl _) hbuf.1 hg2; have B2 := buf_text hbuf.2 ho2 hn2; have s2 := hb2.size)
                  | (at_builtin; refine wpList_append_own _ rfl (.tmp 73) (.tmp 74) 38 rfl w.heap.size 5 i0 (.int .u8 0) 1 1 Try.underlying38 hi hz0 hz1 hz2 rfl (by decide) _ _ _ rfl (B2.1.alloc _) ⟨w2.heap.size, 0, none⟩ 1 1 [.int .u8 32] rfl rfl (cell_one_new _ _ _) (by simp [Value.oneCell']) (by unfold maxLen; first | omega | (simp; omega)) (by first | omega | (simp; omega)) (by first | omega | (simp; omega)) ?_; intro v3 w3 ho3 hg3 hn3; have hb3 := buf_below hb2 (Nat.le_refl _) B2.1 hg3; have B3 := buf_space B2.2 ho3 hn3; have e3 : w3.cell? ⟨b2, o2 + k, none⟩ = some (.string (bs q)) := by { rw [hb3.cell l2]; exact c2 }; have s3 := hb3.size)
                  | (at_builtin; refine Lib.wpList_append_own_string _ rfl (.tmp 76) (.tmp 80) 38 9 rfl w.heap.size 5 i0 Try.underlying38 Try.underlying9 hi hz0 hz1 hz2 _ _ _ rfl B3.1 (bs q) rfl (by unfold maxLen; first | omega | (simp; omega)) (by first | omega | (simp; omega)) (by omega) ?_; intro v4 w4 ho4 hg4 hn4; have hb4 := buf_below' hb3 (Nat.le_refl _) B3.1 hg4; have B4 := buf_text B3.2 ho4 hn4))
                go_roundw
                case rel => exact ⟨k + 1, by omega, by go_num, by rw [HS.out, if_neg hk0]; simpa using B4, hb4⟩
                case measure => simp [intOf]; omega
            · have ek : k = la := by omega
              subst ek
              rw [HR.out] at hbuf
              obtain ⟨g, cap, rfl, hconv⟩ := buf_string hbuf
              rw [← ext_pre] at hconv
              generalize ((tx a).take 0).length = nn at *
              go_wp2_with fail
              go_quiet (fail)
              go_wp2_with fail
              go_ret
              exact ⟨rfl, below_drewN hbel _⟩
        · have HR : Hid (Plain.rebuild N V la = (tx a).take c) := (show Plain.rebuild N V la = (tx a).take c from HR.out)
          have n3 : (((c + 1 : Nat) : Int)) - 1 = (c : Int) := by omega
          rw [n3]
          clear n3
          have hBm := buf_make w c (by unfold maxLen; omega)
          have hmk := make_buf c (by omega)
          go_wp2_with fail
          clear hmk
          go_loopw [10, 11] (fun v i wr => ∃ k : Nat, k ≤ la ∧ i = .int .i64 k ∧ Buf wr w.heap.size v (Plain.rebuild N V k) ∧ Below w.heap.size w wr) (fun _ i _ => la - (intOf i).toNat)
          case atStart => exact ⟨0, Nat.zero_le _, rfl, hBm, (Below.refl _ _).alloc (Nat.le_refl _) _⟩
          case round =>
            clear hBm
            obtain ⟨k, hk, rfl, hbuf, hbel⟩ := hrel
            by_cases hlt : k < la
            · obtain ⟨b1, o1, rfl, c1⟩ := hNV.ns.at' k hlt
              obtain ⟨b2, o2, rfl, c2⟩ := hNV.vs.at' k hlt
              have l1 := World.block_lt_of_cell? _ _ c1
              have l2 := World.block_lt_of_cell? _ _ c2
              rw [sa_bs] at c1 c2
              have hp1 : (N.getD k []).length ≤ 4194304 := hNV.sz _ (List.mem_append.2 (Or.inl (getD_mem (by rw [HNl.out]; exact hlt))))
              have hp2 : (V.getD k []).length ≤ 4194304 := hNV.sz _ (List.mem_append.2 (Or.inr (getD_mem (by rw [HVl.out]; exact hlt))))
              have hrl := rebuild_len N V hNV.sz HNl.out HVl.out k (by omega)
              have HS : Hid (Plain.rebuild N V (k + 1) = (Plain.rebuild N V k) ++ (if 0 < k then [32] else []) ++ N.getD k [] ++ [32] ++ V.getD k []) := (rfl : Plain.rebuild N V (k + 1) = _)
              obtain ⟨p, HP⟩ : ∃ p, Hid (p = N.getD k []) := ⟨_, (rfl : N.getD k [] = _)⟩
              obtain ⟨q, HQ⟩ : ∃ q, Hid (q = V.getD k []) := ⟨_, (rfl : V.getD k [] = _)⟩
              obtain ⟨t, HT⟩ : ∃ t, Hid (t = Plain.rebuild N V k) := ⟨_, (rfl : Plain.rebuild N V k = _)⟩
              rw [← HP.out] at c1 hp1 HS
              rw [← HQ.out] at c2 hp2 HS
              rw [← HT.out] at hbuf hrl HS
              have d1 : wr.cell? ⟨b1, o1 + k, none⟩ = some (.string (bs p)) := by rw [hbel.cell l1]; exact c1
              have hsp : (bs p).size ≤ 4194304 := by rw [bs_size]; exact hp1
              have hsq : (bs q).size ≤ 4194304 := by rw [bs_size]; exact hp2
              have hws := hbel.size
              have i1 : (k : Int) < (la : Int) := by omega
              by_cases hk0 : 0 < k
              · go_wp2_with (first
                  | (at_builtin; refine wpList_append_own _ rfl (.tmp 64) (.tmp 65) 38 rfl w.heap.size 5 i0 (.int .u8 0) 1 1 Try.underlying38 hi hz0 hz1 hz2 rfl (by decide) _ _ _ rfl (hbuf.1.alloc _) ⟨wr.heap.size, 0, none⟩ 1 1 [.int .u8 32] rfl rfl (cell_one_new _ _ _) (by simp [Value.oneCell']) (by unfold maxLen; omega) (by omega) (by first | omega | (simp; omega)) ?_; intro v1 w1 ho1 hg1 hn1; have hb1 := buf_below hbel (Nat.le_refl _) hbuf.1 hg1; have B1 := buf_space hbuf.2 ho1 hn1; have e1 : w1.cell? ⟨b1, o1 + k, none⟩ = some (.string (bs p)) := by { rw [hb1.cell l1]; exact c1 }; have s1 := hb1.size)
                  | (at_builtin; refine Lib.wpList_append_own_string _ rfl (.tmp 67) (.tmp 71) 38 9 rfl w.heap.size 5 i0 Try.underlying38 Try.underlying9 hi hz0 hz1 hz2 _ _ _ rfl B1.1 (bs p) rfl (by unfold maxLen; first | omega | (simp; omega)) (by first | omega | (simp; omega)) (by omega) ?_; intro v2 w2 ho2 hg2 hn2; have hb2 := buf_below' hb1 (Nat.le_refl _) B1.1 hg2; have B2 := buf_text B1.2 ho2 hn2; have s2 := hb2.size)
                  | (at_builtin; refine wpList_append_own _ rfl (.tmp 73) (.tmp 74) 38 rfl w.heap.size 5 i0 (.int .u8 0) 1 1 Try.underlying38 hi hz0 hz1 hz2 rfl (by decide) _ _ _ rfl (B2.1.alloc _) ⟨w2.heap.size, 0, none⟩ 1 1 [.int .u8 32] rfl rfl (cell_one_new _ _ _) (by simp [Value.oneCell']) (by unfold maxLen; first | omega | (simp; omega)) (by first | omega | (simp; omega)) (by first | omega | (simp; omega)) ?_; intro v3 w3 ho3 hg3 hn3; have hb3 := buf_below hb2 (Nat.le_refl _) B2.1 hg3; have B3 := buf_space B2.2 ho3 hn3; have e3 : w3.cell? ⟨b2, o2 + k, none⟩ = some (.string (bs q)) := by { rw [hb3.cell l2]; exact c2 }; have s3 := hb3.size)
                  | (at_builtin; refine Lib.wpList_append_own_string _ rfl (.tmp 76) (.tmp 80) 38 9 rfl w.heap.size 5 i0 Try.underlying38 Try.underlying9 hi hz0 hz1 hz2 _ _ _ rfl B3.1 (bs q) rfl (by unfold maxLen; first | omega | (simp; omega)) (by first | omega | (simp; omega)) (by omega) ?_; intro v4 w4 ho4 hg4 hn4; have hb4 := buf_below' hb3 (Nat.le_refl _) B3.1 hg4; have B4 := buf_text B3.2 ho4 hn4))
                go_roundw
                case rel => exact ⟨k + 1, by omega, by go_num, by rw [HS.out, if_pos hk0]; exact B4, hb4⟩
                case measure => simp [intOf]; omega
              · go_wp2_with (first
                  | (at_builtin; refine Lib.wpList_append_own_string _ rfl (.tmp 67) (.tmp 71) 38 9 rfl w.heap.size 5 i0 Try.underlying38 Try.underlying9 hi hz0 hz1 hz2 _ _ _ rfl hbuf.1 (bs p) rfl (by unfold maxLen; first | omega | (simp; omega)) (by first | omega | (simp; omega)) (by omega) ?_; intro v2 w2 ho2 hg2 hn2; have hb2 := buf_below' hbel (Nat.le_refl _) hbuf.1 hg2; have B2 := buf_text hbuf.2 ho2 hn2; have s2 := hb2.size)
                  | (at_builtin; refine wpList_append_own _ rfl (.tmp 73) (.tmp 74) 38 rfl w.heap.size 5 i0 (.int .u8 0) 1 1 Try.underlying38 hi hz0 hz1 hz2 rfl (by decide) _ _ _ rfl (B2.1.alloc _) ⟨w2.heap.size, 0, none⟩ 1 1 [.int .u8 32] rfl rfl (cell_one_new _ _ _) (by simp [Value.oneCell']) (by unfold maxLen; first | omega | (simp; omega)) (by first | omega | (simp; omega)) (by first | omega | (simp; omega)) ?_; intro v3 w3 ho3 hg3 hn3; have hb3 := buf_below hb2 (Nat.le_refl _) B2.1 hg3; have B3 := buf_space B2.2 ho3 hn3; have e3 : w3.cell? ⟨b2, o2 + k, none⟩ = some (.string (bs q)) := by { rw [hb3.cell l2]; exact c2 }; have s3 := hb3.size)
                  | (at_builtin; refine Lib.wpList_append_own_string _ rfl (.tmp 76) (.tmp 80) 38 9 rfl w.heap.size 5 i0 Try.underlying38 Try.underlying9 hi hz0 hz1 hz2 _ _ _ rfl B3.1 (bs q) rfl (by unfold maxLen; first | omega | (simp; omega)) (by first | omega | (simp; omega)) (by omega) ?_; intro v4 w4 ho4 hg4 hn4; have hb4 := buf_below' hb3 (Nat.le_refl _) B3.1 hg4; have B4 := buf_text B3.2 ho4 hn4))
                go_roundw
                case rel => exact ⟨k + 1, by omega, by go_num, by rw [HS.out, if_neg hk0]; simpa using B4, hb4⟩
                case measure => simp [intOf]; omega
            · have ek : k = la := by omega
              subst ek
              rw [HR.out] at hbuf
              obtain ⟨g, cap, rfl, hconv⟩ := buf_string hbuf
              rw [← ext_pre] at hconv
              generalize ((tx a).take c).length = nn at *
              go_wp2_with fail
              go_quiet (fail)
              go_wp2_with fail
              go_ret
              exact ⟨rfl, below_drewN hbel _⟩

end Go.Proofs.Qxb6614064a
