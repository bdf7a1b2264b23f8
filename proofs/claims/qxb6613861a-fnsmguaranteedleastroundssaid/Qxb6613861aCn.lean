/-
  THE WALK: connects.
-/
import Derived.Test.Qxb6613861aCd
import Derived.Deep.QuietTactic
import Derived.BigQuiet
import Derived.BigRegion
namespace Go.Proofs.Qxb6613861a
open Go.RowKit Go.Deep
attribute [local go_sem] eql_map30

theorem cell_new' {W : World} {v : Value} {t N : Nat} (hN : N = W.heap.size) : ∀ (j : Nat) (u : Value), [v][j]? = some u → (W.alloc (.cells #[v] t)).cell? (Addr.add ⟨N, 0, none⟩ j) = some u := by
  subst hN
  exact cell_one_new W v t

theorem loB_eq (ts : List Int) (x : Nat) : (!(hasB ts (x : Int))) = loB ts x := rfl

set_option maxRecDepth 100000 in
set_option maxHeartbeats 4000000 in
theorem connects_full (n : Nat) (Z : Nat → List Int) (bg : Nat) (ao : Option Addr) (tl tc : Nat) (ts : List Int) (r : Int) (w : World) (hI : Ints w ao tl ts) (hn : n ≤ 256) (hd : DPre n ts tl)
    (g0 : w.cell? ⟨bg, 0, none⟩ = some (.int .i64 n)) (g2 : w.cell? ⟨bg, 2, none⟩ = some (.map none)) :
    Calls Try.prog 20 #[.pointer (some ⟨bg, 0, none⟩), .slice ao tl tc, .int .i64 r] w fun e w' => ConnEnd n true Z ts r e ∧ Below w.heap.size w w' := by
  have htop := hI.top
  have hgb := World.block_lt_of_cell? _ _ g0
  have hmk := run_make_row' (P := Try.prog) 38 4 (.bool false) 1 Try.underlying38 Try.info4 rfl .i64 .i64 n (by omega) (by omega)
  go_enter Try.func20, Try.ntmps20
  go_wp2_with fail
  clear hmk
  go_loopw [25] (fun i wr => ∃ (k : Nat) (f : Nat → Bool), k ≤ n ∧ i = .int .i64 k ∧ wr.rowIs w.heap.size 4 n (fun x => .bool (f x)) ∧ Below w.heap.size w wr ∧ (∀ x, x < k → f x = loB ts x) ∧ wr.heap.size = w.heap.size + 1) (fun i _ => n - (intOf i).toNat)
  case atStart => exact ⟨0, fun _ => false, Nat.zero_le _, rfl, World.rowIs_made w _ n 4, (Below.refl _ _).alloc (Nat.le_refl _) _, fun _ h => absurd h (Nat.not_lt_zero _), by simp⟩
  case round =>
    obtain ⟨k, f, hk, rfl, hrow, hbel, hf, hsz⟩ := hrel
    have HF : Hid (∀ x, x < k → f x = loB ts x) := hf
    clear hf
    by_cases hlt : k < n
    · have hcm := hrow.cell hlt
      have hfm := hrow.frozen k
      have hI' := hI.below hbel (Nat.le_refl _)
      clear hI
      go_wp2_with (go_at_call 21; refine (contains_any _ _ _ ts _ _ hI').mono ?_; rintro e w' ⟨rfl, rfl⟩)
      go_roundw
      case rel =>
        refine ⟨k + 1, fun y => if y = k then loB ts k else f y, by omega, by go_num, (hrow.set k _).congr (fun y _ => ?_), hbel.setCell (Nat.le_refl _) _, fun x hx => ?_, by simpa using hsz⟩
        · by_cases e : y = k <;> simp [e, loB]
        · by_cases e : x = k
          · simp [e]
          · simp only [e, if_false]; exact HF.out x (by omega)
      case measure => simp [intOf]; omega
    · have hcnt := count_eq hI.size hd
      have g0' : wr.cell? ⟨bg, 0, none⟩ = some (.int .i64 n) := by rw [hbel.cell hgb]; exact g0
      have g2' : wr.cell? ⟨bg, 2, none⟩ = some (.map none) := by rw [hbel.cell hgb]; exact g2
      clear hI hrow HF g0 g2
      generalize hcc : (Plain.loyals n (loB ts)).length = cnt at hcnt
      have HCC : Hid ((Plain.loyals n (loB ts)).length = cnt) := hcc
      clear hcc
      by_cases hc1 : cnt ≤ 1
      · go_wp2_with fail
        go_ret
        exact ⟨⟨true, rfl, ⟨fun _ => Or.inl (by rw [HCC.out]; exact hc1), fun _ => rfl⟩⟩, hbel⟩
      · go_wp2_with fail
        go_ret
        refine ⟨⟨(decide ((cnt : Int) ≤ 1) || decide (1 ≤ r)), rfl, ?_⟩, hbel⟩
        rw [conn_full (by rw [HCC.out]; omega), HCC.out, Bool.or_eq_true, decide_eq_true_eq, decide_eq_true_eq]
        omega

set_option maxRecDepth 100000 in
set_option maxHeartbeats 8000000 in
theorem connects_part (n : Nat) (Z : Nat → List Int) (bg bm : Nat) (NA : Nat → Option Addr) (NL NC : Nat → Nat) (ao : Option Addr) (tl tc : Nat) (ts : List Int) (r : Int) (w : World) (hI : Ints w ao tl ts) (hn : n ≤ 256) (hd : DPre n ts tl)
    (hr1 : r ≤ 9223372036854775807) (g0 : w.cell? ⟨bg, 0, none⟩ = some (.int .i64 n)) (g2 : w.cell? ⟨bg, 2, none⟩ = some (.map (some bm))) (hnb : NbAt w n bm NA NL NC Z) (hV : ∀ k, k < n → RowOk n k (Z k)) :
    Calls Try.prog 20 #[.pointer (some ⟨bg, 0, none⟩), .slice ao tl tc, .int .i64 r] w fun e w' => ConnEnd n false Z ts r e ∧ Below w.heap.size w w' := by
  have htop := hI.top
  have hgb := World.block_lt_of_cell? _ _ g0
  have hmk := run_make_row' (P := Try.prog) 38 4 (.bool false) 1 Try.underlying38 Try.info4 rfl .i64 .i64 n (by omega) (by omega)
  go_enter Try.func20, Try.ntmps20
  go_wp2_with fail
  clear hmk
  go_loopw [25] (fun i wr => ∃ (k : Nat) (f : Nat → Bool), k ≤ n ∧ i = .int .i64 k ∧ wr.rowIs w.heap.size 4 n (fun x => .bool (f x)) ∧ Below w.heap.size w wr ∧ (∀ x, x < k → f x = loB ts x) ∧ wr.heap.size = w.heap.size + 1) (fun i _ => n - (intOf i).toNat)
  case atStart => exact ⟨0, fun _ => false, Nat.zero_le _, rfl, World.rowIs_made w _ n 4, (Below.refl _ _).alloc (Nat.le_refl _) _, fun _ h => absurd h (Nat.not_lt_zero _), by simp⟩
  case round =>
    obtain ⟨k, f, hk, rfl, hrow, hbel, hf, hsz⟩ := hrel
    have HF : Hid (∀ x, x < k → f x = loB ts x) := hf
    clear hf
    by_cases hlt : k < n
    · have hcm := hrow.cell hlt
      have hfm := hrow.frozen k
      have hI' := hI.below hbel (Nat.le_refl _)
      clear hI
      go_wp2_with (go_at_call 21; refine (contains_any _ _ _ ts _ _ hI').mono ?_; rintro e w' ⟨rfl, rfl⟩)
      go_roundw
      case rel =>
        refine ⟨k + 1, fun y => if y = k then loB ts k else f y, by omega, by go_num, (hrow.set k _).congr (fun y _ => ?_), hbel.setCell (Nat.le_refl _) _, fun x hx => ?_, by simpa using hsz⟩
        · by_cases e : y = k <;> simp [e, loB]
        · by_cases e : x = k
          · simp [e]
          · simp only [e, if_false]; exact HF.out x (by omega)
      case measure => simp [intOf]; omega
    · have hcnt := count_eq hI.size hd
      have g0' : wr.cell? ⟨bg, 0, none⟩ = some (.int .i64 n) := by rw [hbel.cell hgb]; exact g0
      have g2' : wr.cell? ⟨bg, 2, none⟩ = some (.map (some bm)) := by rw [hbel.cell hgb]; exact g2
      have hrow' : wr.rowIs w.heap.size 4 n (fun x => .bool (loB ts x)) := hrow.congr (fun x hx => congrArg Value.bool (HF.out x (by omega)))
      clear hI hrow HF g0
      generalize hcc : (Plain.loyals n (loB ts)).length = cnt at hcnt
      have HCC : Hid ((Plain.loyals n (loB ts)).length = cnt) := hcc
      clear hcc
      by_cases hc1 : cnt ≤ 1
      · go_wp2_with fail
        go_ret
        exact ⟨⟨true, rfl, ⟨fun _ => Or.inl (by rw [HCC.out]; exact hc1), fun _ => rfl⟩⟩, hbel⟩
      · have hcn : cnt ≤ 256 := by omega
        have hmk := run_make_row' (P := Try.prog) 23 3 (.int .i64 0) 8 Try.underlying23 Try.info3 rfl .i64 .i64 n (by omega) (by omega)
        have hmkq := make_queue cnt (by omega)
        have hC0 := cst_start (cap := cnt) hrow' hbel hsz (by unfold maxLen; omega)
        go_wp2_with fail
        clear hmk hmkq g0' g2'
        go_loopw [11, 67] (fun qv i wr => ∃ (k : Nat) (d : Nat → Int) (q : List Nat), k ≤ n ∧ i = .int .i64 k ∧ qv = .slice (some ⟨w.heap.size + 2, 0, none⟩) q.length cnt ∧ Cst w wr n cnt ts d q ∧ ∀ x, x < k → loB ts x = true → Good n Z ts r x) (fun _ i _ => n - (intOf i).toNat)
        case atStart => exact ⟨0, fun _ => 0, [], Nat.zero_le _, rfl, rfl, hC0, fun _ h => absurd h (Nat.not_lt_zero _)⟩
        case round =>
          clear hC0 hrow' hbel hsz
          obtain ⟨src, d, q, hk, rfl, rfl, hC, hG⟩ := hrel
          have HG : Hid (∀ x, x < src → loB ts x = true → Good n Z ts r x) := hG
          clear hG
          by_cases hlt : src < n
          · have hcl := hC.lo.cell hlt
            cases hls : loB ts src with
            | false =>
              rw [hls] at hcl
              have HLS : Hid (loB ts src = false) := hls
              clear hls
              go_wp2_with fail
              go_roundw
              case rel => exact ⟨src + 1, d, q, by omega, by go_num, rfl, hC, fun x hx lx => by
                by_cases e : x = src
                · rw [e, HLS.out] at lx; cases lx
                · exact HG.out x (by omega) lx⟩
              case measure => simp [intOf]; omega
            | true =>
              rw [hls] at hcl
              have HLS : Hid (loB ts src = true) := hls
              clear hls
              go_wp2_with fail
              clear hcl
              generalize hql : q.length = ql at *
              have HQL : Hid (q.length = ql) := hql
              clear hql
              go_loopw [76] (fun i wr => ∃ (j : Nat) (d : Nat → Int), j ≤ n ∧ i = .int .i64 j ∧ Cst w wr n cnt ts d q ∧ ∀ x, x < j → d x = -1) (fun i _ => n - (intOf i).toNat)
              case atStart => exact ⟨0, d, Nat.zero_le _, rfl, hC, fun _ h => absurd h (Nat.not_lt_zero _)⟩
              case round =>
                clear hC
                obtain ⟨j, d, hj, rfl, hC, hm⟩ := hrel
                have HM : Hid (∀ x, x < j → d x = -1) := hm
                clear hm
                by_cases hltj : j < n
                · have hcj := hC.ds.cell hltj
                  have hfj := hC.ds.frozen j
                  go_wp2_with fail
                  go_roundw
                  case rel => exact ⟨j + 1, Plain.upd d j (-1), by omega, by go_num, hC.set j _, fun x hx => by
                    by_cases e : x = j
                    · rw [e, Plain.upd_same]
                    · rw [Plain.upd_other _ _ e]; exact HM.out x (by omega)⟩
                  case measure => simp [intOf]; omega
                · have hcs := hC.ds.cell hlt
                  have hfs := hC.ds.frozen src
                  have hC' := (hC.set src 0).alloc (.cells #[.int .i64 (src : Int)] 3)
                  obtain ⟨i0, hi, hz0, hz1, hz2⟩ := info_parts Try.info3
                  have hsz := (hC.set src 0).sz
                  go_wp2_with (at_builtin; go_must (refine wpList_append_fits _ rfl _ _ 23 rfl 0 3 i0 1 Try.underlying23 hi hz1 (w.heap.size + 2) 0 cnt [] rfl hC'.empty.qu ⟨wr.heap.size, 0, none⟩ 1 1 [.int .i64 (src : Int)] rfl rfl (by exact cell_new' (by simp)) (ints_oneCell .i64 [(src : Int)]) (by omega) ?_; intro w1 hown1 hgrow1))
                  have hC1 := Cst.appended (q := []) (y := src) hC'.empty hgrow1 hown1
                  have hB := Plain.bfs_start (E := Edge n false Z ts) (lo := loB ts) (row := rowN Z) (r := r) (src := src) (d := Plain.upd d src 0) hlt HLS.out (Plain.upd_same _ _ _) (fun x hx hne => by rw [Plain.upd_other _ _ hne]; exact HM.out x (by omega))
                  clear hC hC' hown1 hgrow1 HM hcs hfs hsz
                  go_loopw [11, 15] (fun qv i wr => ∃ (ii : Nat) (d : Nat → Int) (q : List Nat), i = .int .i64 ii ∧ qv = .slice (some ⟨w.heap.size + 2, 0, none⟩) q.length cnt ∧ Cst w wr n cnt ts d q ∧ Plain.BFS n (Edge n false Z ts) (loB ts) (rowN Z) r src q d ii 0) (fun _ i _ => cnt - (intOf i).toNat)
                  case atStart => exact ⟨0, Plain.upd d src 0, [src], rfl, rfl, hC1, hB⟩
                  case round =>
                    clear hC1 hB HQL
                    obtain ⟨ii, d, q, rfl, rfl, hC, hB⟩ := hrel
                    have hqc : q.length ≤ cnt := by have := Plain.bfs_len hB; rw [HCC.out] at this; exact this
                    by_cases hiq : ii < q.length
                    · have hcq := hC.qu.cell hiq
                      have hqn := hB.inr _ (Plain.qa_mem hiq)
                      obtain ⟨hqn1, hqn2⟩ := hqn
                      obtain ⟨x, HX⟩ : ∃ x, Hid (x = Plain.qa q ii) := ⟨_, (rfl : Plain.qa q ii = Plain.qa q ii)⟩
                      rw [← HX.out] at hcq hqn1 hqn2
                      have HLX : Hid (loB ts x = true) := hqn2
                      clear hqn2
                      have hcx := hC.ds.cell hqn1
                      by_cases hdr : d x < r
                      · obtain ⟨na, nl, nc, hlook, hIx⟩ : ∃ na nl nc, (∀ kk, (Instr.lookup 30 (.map (some bm)) (.int .i64 (x : Int)) false).run Try.prog (wr.drewN kk) = .ok (.slice na nl nc) (wr.drewN kk)) ∧ Ints w na nl (Z x) :=
                          ⟨NA x, NL x, NC x, fun kk => hnb.2 x hqn1 _ (below_drewN hC.bel kk), hnb.1 x hqn1⟩
                        have g2r : wr.cell? ⟨bg, 2, none⟩ = some (.map (some bm)) := by rw [hC.bel.cell hgb]; exact g2
                        have hntop := hIx.top
                        have HZL : Hid ((Z x).length = nl) := hIx.size
                        go_wp2_with fail
                        go_quiet (fail)
                        go_wp2_with fail
                        clear hlook g2r
                        go_loopw [11, 118] (fun qv i wr => ∃ (t : Nat) (d : Nat → Int) (q : List Nat), t ≤ nl ∧ i = .int .i64 t ∧ qv = .slice (some ⟨w.heap.size + 2, 0, none⟩) q.length cnt ∧ Cst w wr n cnt ts d q ∧ Plain.BFS n (Edge n false Z ts) (loB ts) (rowN Z) r src q d ii t ∧ ii < q.length ∧ Plain.qa q ii = x ∧ d x < r) (fun _ i _ => nl - (intOf i).toNat)
                        case atStart => exact ⟨0, d, q, Nat.zero_le _, rfl, rfl, hC.drewN _, hB, hiq, HX.out.symm, hdr⟩
                        case round =>
                          clear hC hB hcq hcx hdr hqc hiq HX
                          obtain ⟨t, d, q, ht, rfl, rfl, hC, hB, hiq, hqx, hdr⟩ := hrel
                          have HQX : Hid (Plain.qa q ii = x) := hqx
                          clear hqx
                          have hqc : q.length ≤ cnt := by have := Plain.bfs_len hB; rw [HCC.out] at this; exact this
                          by_cases htl : t < nl
                          · obtain ⟨b, o, rfl, hrc⟩ := hIx.at' t htl
                            have hrb := World.block_lt_of_cell? _ _ hrc
                            have hcr : wr.cell? ⟨b, o + t, none⟩ = some (.int .i64 (za (Z x) t)) := by rw [hC.bel.cell hrb]; exact hrc
                            have hzr := (hV x hqn1).rng (za (Z x) t) (za_mem (by rw [HZL.out]; exact htl))
                            obtain ⟨y, hye⟩ : ∃ y : Nat, za (Z x) t = (y : Int) := ⟨(za (Z x) t).toNat, by omega⟩
                            have HY : Hid (za (Z x) t = (y : Int)) := hye
                            rw [hye] at hcr hzr
                            have hyn : y < n := by omega
                            clear hye hrc hzr
                            have hget : (rowN Z (Plain.qa q ii))[t]? = some y := by rw [HQX.out]; exact rowN_get (by rw [HZL.out]; exact htl) HY.out
                            have HGet : Hid ((rowN Z (Plain.qa q ii))[t]? = some y) := hget
                            clear hget
                            have hcl := hC.lo.cell hyn
                            have hcd := hC.ds.cell hyn
                            cases hly : loB ts y with
                            | false =>
                              rw [hly] at hcl
                              have hB' := Plain.bfs_skip hB hiq HGet.out hyn (Or.inl hly)
                              clear hly
                              go_wp2_with fail
                              go_roundw
                              case rel => exact ⟨t + 1, d, q, by omega, by go_num, rfl, hC, hB', hiq, HQX.out, hdr⟩
                              case measure => simp [intOf]; omega
                            | true =>
                              rw [hly] at hcl
                              by_cases hdy : d y < 0
                              · have hroom := Plain.bfs_room hB hyn hly hdy
                                rw [HCC.out] at hroom
                                have hE : Edge n false Z ts (Plain.qa q ii) y := by rw [HQX.out]; exact edge_of hqn1 HLX.out hyn hly (hV x hqn1) (by rw [HZL.out]; exact htl) HY.out
                                have hB' := Plain.bfs_add hB hiq HGet.out hyn hly hdy (by rw [HQX.out]; exact hdr) hE
                                rw [HQX.out] at hB'
                                have hxy : x ≠ y := fun e => by have := hB.pos _ (Plain.qa_mem hiq); rw [HQX.out, e] at this; omega
                                have hqx' : Plain.qa (q ++ [y]) ii = x := by rw [Plain.qa_snoc_lt hiq]; exact HQX.out
                                have HQX' : Hid (Plain.qa (q ++ [y]) ii = x) := hqx'
                                have hcq := hC.qu.cell hiq
                                rw [HQX.out] at hcq
                                have hcx := hC.ds.cell hqn1
                                have hfd := hC.ds.frozen y
                                have hpx : 0 ≤ d x := by have := hB.pos _ (Plain.qa_mem hiq); rw [HQX.out] at this; exact this
                                have hC' := (hC.set y (d x + 1)).alloc (.cells #[.int .i64 (y : Int)] 3)
                                have hql : (q ++ [y]).length = q.length + 1 := by simp
                                have HQL : Hid ((q ++ [y]).length = q.length + 1) := hql
                                clear hly hE hqx' hql
                                go_wp2_with (at_builtin; go_must (refine wpList_append_fits _ rfl _ _ 23 rfl 0 3 i0 1 Try.underlying23 hi hz1 (w.heap.size + 2) q.length cnt _ rfl hC'.qu ⟨wr.heap.size, 0, none⟩ 1 1 [.int .i64 (y : Int)] rfl rfl (by exact cell_new' (by simp)) (ints_oneCell .i64 [(y : Int)]) (by omega) ?_; intro w1 hown1 hgrow1))
                                have hC1 := Cst.appended (y := y) hC' hgrow1 hown1
                                go_roundw
                                case rel => exact ⟨t + 1, Plain.upd d y (d x + 1), q ++ [y], by omega, by go_num, by rw [HQL.out], hC1, hB', by rw [HQL.out]; omega, HQX'.out, by rw [Plain.upd_other _ _ hxy]; exact hdr⟩
                                case measure => simp [intOf]; omega
                              · have hB' := Plain.bfs_skip hB hiq HGet.out hyn (Or.inr (by omega))
                                clear hly
                                go_wp2_with fail
                                go_roundw
                                case rel => exact ⟨t + 1, d, q, by omega, by go_num, rfl, hC, hB', hiq, HQX.out, hdr⟩
                                case measure => simp [intOf]; omega
                          · have hB' := Plain.bfs_next hB hiq (by rw [HQX.out]; unfold rowN; rw [List.length_map, HZL.out]; omega) (fun y hy => edge_row hy)
                            go_wp2_with fail
                            go_roundw
                            case rel => exact ⟨ii + 1, d, q, by go_num, rfl, hC, hB'⟩
                            case measure => simp [intOf]; omega
                      · have hend : cnt ≤ q.length ↔ Good n Z ts r src := by
                          have := Plain.bfs_end hB (Or.inr (by rw [← HX.out]; omega)) (by rw [HCC.out]; omega)
                          rw [HCC.out] at this
                          exact this
                        have HE : Hid (cnt ≤ q.length ↔ Good n Z ts r src) := hend
                        clear hend
                        go_wp2_with fail
                        · go_ret
                          exact ⟨conn_no (by rw [HCC.out]; omega) hlt HLS.out (fun hg => by have := HE.out.2 hg; omega), hC.bel⟩
                        · have hg := HE.out.1 (by omega)
                          go_roundw
                          case rel => exact ⟨src + 1, d, q, by omega, by go_num, rfl, hC, fun y hy ly => by
                            by_cases e : y = src
                            · rw [e]; exact hg
                            · exact HG.out y (by omega) ly⟩
                          case measure => simp [intOf]; omega
                    · have hend : cnt ≤ q.length ↔ Good n Z ts r src := by
                        have := Plain.bfs_end hB (Or.inl (by omega)) (by rw [HCC.out]; omega)
                        rw [HCC.out] at this
                        exact this
                      have HE : Hid (cnt ≤ q.length ↔ Good n Z ts r src) := hend
                      clear hend
                      go_wp2_with fail
                      · go_ret
                        exact ⟨conn_no (by rw [HCC.out]; omega) hlt HLS.out (fun hg => by have := HE.out.2 hg; omega), hC.bel⟩
                      · have hg := HE.out.1 (by omega)
                        go_roundw
                        case rel => exact ⟨src + 1, d, q, by omega, by go_num, rfl, hC, fun y hy ly => by
                          by_cases e : y = src
                          · rw [e]; exact hg
                          · exact HG.out y (by omega) ly⟩
                        case measure => simp [intOf]; omega
          · go_wp2_with fail
            go_ret
            exact ⟨conn_yes (by rw [HCC.out]; omega) (fun x hx lx => HG.out x (by omega) lx), hC.bel⟩

end Go.Proofs.Qxb6613861a
