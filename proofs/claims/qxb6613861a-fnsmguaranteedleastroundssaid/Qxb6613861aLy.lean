/-
  THE WALK: zzLoyal.
-/
import Derived.Test.Qxb6613861aLd
import Derived.Deep.QuietTactic
import Derived.BigQuiet
import Derived.BigRegion
namespace Go.Proofs.Qxb6613861a
open Go.RowKit Go.Deep

set_option maxRecDepth 100000 in
set_option maxHeartbeats 8000000 in
theorem loyal_any (n : Nat) (full : Bool) (adjv : Value) (Z : Nat → List Int) (ao : Option Addr) (tl tc : Nat) (ts : List Int) (w : World) (hI : Ints w ao tl ts) (hn : n ≤ 256) (hd : DPre n ts tl) (hlk : LinkedAt n full adjv Z w) :
    Calls Try.prog 13 #[.int .i64 n, .bool full, adjv, .slice ao tl tc] w fun e w' => LoyalEnd n full Z ts e ∧ Below w.heap.size w w' := by
  have htop := hI.top
  have hmk := run_make_row' (P := Try.prog) 38 4 (.bool false) 1 Try.underlying38 Try.info4 rfl .i64 .i64 n (by omega) (by omega)
  go_enter Try.func13, Try.ntmps13
  go_wp2_with fail
  clear hmk
  go_loopw [12] (fun i wr => ∃ (k : Nat) (f : Nat → Bool), k ≤ n ∧ i = .int .i64 k ∧ wr.rowIs w.heap.size 4 n (fun x => .bool (f x)) ∧ Below w.heap.size w wr ∧ (∀ x, x < k → f x = true) ∧ wr.heap.size = w.heap.size + 1) (fun i _ => n - (intOf i).toNat)
  case atStart => exact ⟨0, fun _ => false, Nat.zero_le _, rfl, World.rowIs_made w _ n 4, (Below.refl _ _).alloc (Nat.le_refl _) _, fun _ h => absurd h (Nat.not_lt_zero _), by simp⟩
  case round =>
    obtain ⟨k, f, hk, rfl, hrow, hbel, hf, hsz⟩ := hrel
    have HF : Hid (∀ x, x < k → f x = true) := hf
    clear hf
    by_cases hlt : k < n
    · have hcm := hrow.cell hlt
      have hfm := hrow.frozen k
      clear hI
      go_wp2_with fail
      go_roundw
      case rel =>
        refine ⟨k + 1, fun y => if y = k then true else f y, by omega, by go_num, (hrow.set k _).congr (fun y _ => ?_), hbel.setCell (Nat.le_refl _) _, fun x hx => ?_, by simpa using hsz⟩
        · by_cases e : y = k <;> simp [e]
        · by_cases e : x = k
          · simp [e]
          · simp only [e, if_false]; exact HF.out x (by omega)
      case measure => simp [intOf]; omega
    · go_wp2_with fail
      go_loopw [13] (fun i wr => ∃ (k : Nat) (f : Nat → Bool), k ≤ tl ∧ i = .int .i64 k ∧ wr.rowIs w.heap.size 4 n (fun x => .bool (f x)) ∧ Below w.heap.size w wr ∧ LoTo n ts k f ∧ wr.heap.size = w.heap.size + 1) (fun i _ => tl - (intOf i).toNat)
      case atStart => exact ⟨0, f, Nat.zero_le _, rfl, hrow, hbel, fun x hx => ⟨fun _ j hj => absurd hj (Nat.not_lt_zero _), fun _ => HF.out x (by omega)⟩, hsz⟩
      case round =>
        clear hrow hbel hsz HF
        obtain ⟨k, f, hk, rfl, hrow, hbel, hf, hsz⟩ := hrel
        by_cases hlt : k < tl
        · obtain ⟨b, o, rfl, hc⟩ := hI.at' k hlt
          have hb := World.block_lt_of_cell? _ _ hc
          have hcr : wr.cell? ⟨b, o + k, none⟩ = some (.int .i64 (za ts k)) := by rw [hbel.cell hb]; exact hc
          obtain ⟨h0, h1⟩ := hd.rng k hlt
          obtain ⟨x, hxe⟩ : ∃ x : Nat, za ts k = (x : Int) := ⟨(za ts k).toNat, by omega⟩
          have HX : Hid (za ts k = (x : Int)) := hxe
          rw [hxe] at hcr h0 h1
          have hxn : x < n := by omega
          clear hxe hI hc
          have hcm := hrow.cell hxn
          have hfm := hrow.frozen x
          go_wp2_with fail
          go_roundw
          case rel =>
            refine ⟨k + 1, fun y => if y = x then false else f y, by omega, by go_num, (hrow.set x _).congr (fun y _ => ?_), hbel.setCell (Nat.le_refl _) _, loTo_succ hf HX.out, by simpa using hsz⟩
            by_cases e : y = x <;> simp [e]
          case measure => simp [intOf]; omega
        · have HT : Hid (ts.length = tl) := hI.size
          have hrow' : wr.rowIs w.heap.size 4 n (fun x => .bool (loB ts x)) := hrow.congr (fun x hx => congrArg Value.bool (loTo_end (by rw [HT.out, show tl = k from by omega]; exact hf) hx))
          clear hrow hf hI
          go_wp2_with fail
          go_loop [14, 15] (fun c i => ∃ k : Nat, k ≤ n ∧ i = .int .i64 k ∧ c = .int .i64 (Plain.loyals k (loB ts)).length) (fun _ i => n - (intOf i).toNat)
          case atStart => exact ⟨0, Nat.zero_le _, rfl, rfl⟩
          case round =>
            obtain ⟨k, hk, rfl, rfl⟩ := hrel
            have hle := Plain.loyals_le k (loB ts)
            have HS : Hid ((Plain.loyals (k + 1) (loB ts)).length = (Plain.loyals k (loB ts)).length + (if loB ts k = true then 1 else 0)) := Plain.loyals_succ k (loB ts)
            generalize hcnt : (Plain.loyals k (loB ts)).length = cnt at *
            have HC : Hid ((Plain.loyals k (loB ts)).length = cnt) := hcnt
            clear hcnt
            by_cases hlt : k < n
            · have hcm := hrow'.cell hlt
              cases hlo : loB ts k with
              | true =>
                rw [hlo] at hcm
                have HL : Hid (loB ts k = true) := hlo
                clear hlo
                go_wp2_with fail
                go_round
                case rel => exact ⟨k + 1, by omega, by go_num, by rw [HS.out, if_pos HL.out]; go_num⟩
                case measure => simp [intOf]; omega
              | false =>
                rw [hlo] at hcm
                have HL : Hid (loB ts k = false) := hlo
                clear hlo
                go_wp2_with fail
                go_round
                case rel => exact ⟨k + 1, by omega, by go_num, by rw [HS.out, HL.out]; simp⟩
                case measure => simp [intOf]; omega
            · have HC2 : Hid ((Plain.loyals n (loB ts)).length = cnt) := (show (Plain.loyals n (loB ts)).length = cnt by rw [show n = k from by omega]; exact HC.out)
              clear HC HS
              have hp0 : 0 ≤ (n : Int) * (n : Int) := Int.mul_nonneg (by omega) (by omega)
              have hp1 : (n : Int) * (n : Int) ≤ 65536 := by
                have := Int.mul_le_mul (a := (n : Int)) (b := (n : Int)) (c := 256) (d := 256) (by omega) (by omega) (by omega) (by omega)
                omega
              obtain ⟨N, HN, hN⟩ : ∃ N : Nat, Hid (N = n * n) ∧ (n : Int) * (n : Int) = (N : Int) := ⟨n * n, (rfl : n * n = n * n), by simp⟩
              have hN1 : N ≤ 65536 := by omega
              have hmk := run_make_row' (P := Try.prog) 23 3 (.int .i64 0) 8 Try.underlying23 Try.info3 rfl .i64 .i64 N (by omega) (by omega)
              have hS0 := st_start (N := N) hrow' hbel hsz
              go_wp2_with fail
              clear hmk
              go_loopw [17] (fun i wr => ∃ (a : Nat) (T : Nat → Int), a ≤ n ∧ i = .int .i64 a ∧ St w wr n N ts T ∧ Fill n full Z ts a 0 T) (fun i _ => n - (intOf i).toNat)
              case atStart => exact ⟨0, fun _ => 0, Nat.zero_le _, rfl, hS0, fill_zero _ _ _ _ _⟩
              case round =>
                clear hS0 hrow' hbel hsz
                obtain ⟨a, T, ha, rfl, hS, hF⟩ := hrel
                by_cases hlt : a < n
                · go_wp2_with fail
                  go_loopw [18] (fun i wr => ∃ (b : Nat) (T : Nat → Int), b ≤ n ∧ i = .int .i64 b ∧ St w wr n N ts T ∧ Fill n full Z ts a b T) (fun i _ => n - (intOf i).toNat)
                  case atStart => exact ⟨0, T, Nat.zero_le _, rfl, hS, hF⟩
                  case round =>
                    clear hS hF
                    obtain ⟨b, T, hb, rfl, hS, hF⟩ := hrel
                    by_cases hltb : b < n
                    · have hlt2 := Plain.cell_lt hlt hltb
                      obtain ⟨ix, HX, hix⟩ : ∃ ix : Nat, Hid (ix = a * n + b) ∧ (a : Int) * (n : Int) + (b : Int) = (ix : Int) := ⟨a * n + b, (rfl : a * n + b = a * n + b), by simp⟩
                      have hixN : ix < N := by rw [HX.out, HN.out]; exact hlt2
                      have hm0 : 0 ≤ (a : Int) * (n : Int) := Int.mul_nonneg (by omega) (by omega)
                      have hm1 : (a : Int) * (n : Int) ≤ 65536 := by omega
                      have hcx := hS.tab.cell hixN
                      have hfx := hS.tab.frozen ix
                      have hca := hS.lo.cell hlt
                      have hcb := hS.lo.cell hltb
                      clear hlt2
                      cases hab : ((a : Int) == (b : Int)) with
                      | true =>
                        have HD : Hid ((0 : Int) = ini full Z ts a b) := (show (0 : Int) = ini full Z ts a b by
                          have : a = b := by have := beq_iff_eq.1 hab; omega
                          simp [ini, this])
                        go_wp2_with fail
                        go_roundw
                        case rel => exact ⟨b + 1, Plain.upd T ix _, by omega, by go_num, hS.set ix _, fill_step hF hltb HX.out HD.out⟩
                        case measure => simp [intOf]; omega
                      | false =>
                        have hne : a ≠ b := by have := beq_eq_false_iff_ne.1 hab; omega
                        cases hla : loB ts a with
                        | false =>
                          rw [hla] at hca
                          have HD : Hid ((1048576 : Int) = ini full Z ts a b) := (show (1048576 : Int) = ini full Z ts a b by simp [ini, eB, hne, hla])
                          clear hla hne
                          go_wp2_with fail
                          go_roundw
                          case rel => exact ⟨b + 1, Plain.upd T ix _, by omega, by go_num, hS.set ix _, fill_step hF hltb HX.out HD.out⟩
                          case measure => simp [intOf]; omega
                        | true =>
                          rw [hla] at hca
                          cases hlb : loB ts b with
                          | false =>
                            rw [hlb] at hcb
                            have HD : Hid ((1048576 : Int) = ini full Z ts a b) := (show (1048576 : Int) = ini full Z ts a b by simp [ini, eB, hne, hlb])
                            clear hla hlb hne
                            go_wp2_with fail
                            go_roundw
                            case rel => exact ⟨b + 1, Plain.upd T ix _, by omega, by go_num, hS.set ix _, fill_step hF hltb HX.out HD.out⟩
                            case measure => simp [intOf]; omega
                          | true =>
                            rw [hlb] at hcb
                            have hI1 : ∀ u, lnkB full Z a b = u → ini full Z ts a b = if u = true then 1 else 1048576 := fun u hu => by simp [ini, eB, hne, hla, hlb, hu]
                            clear hla hlb hne
                            have HI1 : Hid (∀ u, lnkB full Z a b = u → ini full Z ts a b = if u = true then 1 else 1048576) := hI1
                            clear hI1
                            go_wp2_with fail
                            refine (hlk a b _ hlt hltb hS.bel).mono ?_
                            rintro e w' ⟨rfl, rfl⟩
                            go_wp2_with fail
                            · have HU : lnkB full Z a b = true := by assumption
                              have HD := HI1.out _ HU
                              go_roundw
                              case rel => exact ⟨b + 1, Plain.upd T ix _, by omega, by go_num, hS.set ix _, fill_step hF hltb HX.out (by rw [HD]; rfl)⟩
                              case measure => simp [intOf]; omega
                            · have HU : lnkB full Z a b = false := by assumption
                              have HD := HI1.out _ HU
                              go_roundw
                              case rel => exact ⟨b + 1, Plain.upd T ix _, by omega, by go_num, hS.set ix _, fill_step hF hltb HX.out (by rw [HD]; rfl)⟩
                              case measure => simp [intOf]; omega
                    · go_wp2_with fail
                      go_roundw
                      case rel => exact ⟨a + 1, T, by omega, by go_num, hS, fill_next (by rw [show n = b from by omega] at hF ⊢; exact hF)⟩
                      case measure => simp [intOf]; omega
                · have hW : Plain.FW n (Edge n full Z ts) (loB ts) 0 0 0 T := fill_fw (by rw [show a = n from by omega] at hF; exact hF)
                  clear hF hlk
                  go_wp2_with fail
                  -- Floyd and Warshall
                  go_loopw [20] (fun i wr => ∃ (c : Nat) (T : Nat → Int), c ≤ n ∧ i = .int .i64 c ∧ St w wr n N ts T ∧ Plain.FW n (Edge n full Z ts) (loB ts) c 0 0 T) (fun i _ => n - (intOf i).toNat)
                  case atStart => exact ⟨0, T, Nat.zero_le _, rfl, hS, hW⟩
                  case round =>
                    clear hS hW
                    obtain ⟨c, T, hc, rfl, hS, hW⟩ := hrel
                    by_cases hltc : c < n
                    · have hcc := hS.lo.cell hltc
                      cases hlc : loB ts c with
                      | false =>
                        rw [hlc] at hcc
                        have hW' := Plain.fw_skip_c hW hlc
                        clear hlc
                        go_wp2_with fail
                        go_roundw
                        case rel => exact ⟨c + 1, T, by omega, by go_num, hS, hW'⟩
                        case measure => simp [intOf]; omega
                      | true =>
                        rw [hlc] at hcc
                        have HLC : Hid (loB ts c = true) := hlc
                        clear hlc
                        go_wp2_with fail
                        clear hcc
                        go_loopw [21] (fun i wr => ∃ (a : Nat) (T : Nat → Int), a ≤ n ∧ i = .int .i64 a ∧ St w wr n N ts T ∧ Plain.FW n (Edge n full Z ts) (loB ts) c a 0 T) (fun i _ => n - (intOf i).toNat)
                        case atStart => exact ⟨0, T, Nat.zero_le _, rfl, hS, hW⟩
                        case round =>
                          clear hS hW
                          obtain ⟨a, T, ha, rfl, hS, hW⟩ := hrel
                          by_cases hlta : a < n
                          · have hca := hS.lo.cell hlta
                            cases hla : loB ts a with
                            | false =>
                              rw [hla] at hca
                              have hW' := Plain.fw_skip_a hW hla
                              clear hla
                              go_wp2_with fail
                              go_roundw
                              case rel => exact ⟨a + 1, T, by omega, by go_num, hS, hW'⟩
                              case measure => simp [intOf]; omega
                            | true =>
                              rw [hla] at hca
                              have HLA : Hid (loB ts a = true) := hla
                              clear hla
                              go_wp2_with fail
                              clear hca
                              go_loopw [22] (fun i wr => ∃ (b : Nat) (T : Nat → Int), b ≤ n ∧ i = .int .i64 b ∧ St w wr n N ts T ∧ Plain.FW n (Edge n full Z ts) (loB ts) c a b T) (fun i _ => n - (intOf i).toNat)
                              case atStart => exact ⟨0, T, Nat.zero_le _, rfl, hS, hW⟩
                              case round =>
                                clear hS hW
                                obtain ⟨b, T, hb, rfl, hS, hW⟩ := hrel
                                by_cases hltb : b < n
                                · have hcb := hS.lo.cell hltb
                                  cases hlb : loB ts b with
                                  | false =>
                                    rw [hlb] at hcb
                                    have hW' := Plain.fw_skip_b hW hltc HLC.out (Or.inl hlb)
                                    clear hlb
                                    go_wp2_with fail
                                    go_quiet (fail)
                                    go_wp2_with fail
                                    go_roundw
                                    case rel => exact ⟨b + 1, T, by omega, by go_num, hS.drewN _, hW'⟩
                                    case measure => simp [intOf]; omega
                                  | true =>
                                    rw [hlb] at hcb
                                    have HLB : Hid (loB ts b = true) := hlb
                                    clear hlb
                                    obtain ⟨iab, XAB, rab, lab, mab0, mab1⟩ := place n N a b HN.out hn hlta hltb
                                    obtain ⟨iac, XAC, rac, lac, -, -⟩ := place n N a c HN.out hn hlta hltc
                                    obtain ⟨icb, XCB, rcb, lcb, mcb0, mcb1⟩ := place n N c b HN.out hn hltc hltb
                                    obtain ⟨gab0, gab1⟩ := hW.rng iab (by rw [← HN.out]; exact lab)
                                    obtain ⟨gac0, gac1⟩ := hW.rng iac (by rw [← HN.out]; exact lac)
                                    obtain ⟨gcb0, gcb1⟩ := hW.rng icb (by rw [← HN.out]; exact lcb)
                                    have cab := hS.tab.cell lab
                                    have cac := hS.tab.cell lac
                                    have ccb := hS.tab.cell lcb
                                    have fab := hS.tab.frozen iab
                                    by_cases hcmp : T iac + T icb < T iab
                                    · have hW' := Plain.fw_step_b hW hltc hlta hltb HLC.out (by rw [← XAB.out, ← XAC.out, ← XCB.out]; exact hcmp)
                                      rw [← XAB.out, ← XAC.out, ← XCB.out] at hW'
                                      go_wp2_with fail
                                      go_quiet (fail)
                                      go_wp2_with fail
                                      go_region
                                      all_goals go_wp2_with fail
                                      go_roundw
                                      case rel => exact ⟨b + 1, Plain.upd T iab (T iac + T icb), by omega, by go_num, (hS.drewN _).set iab _, hW'⟩
                                      case measure => simp [intOf]; omega
                                    · have hW' := Plain.fw_skip_b hW hltc HLC.out (b := b) (Or.inr (by rw [← XAB.out, ← XAC.out, ← XCB.out]; omega))
                                      go_wp2_with fail
                                      go_quiet (fail)
                                      go_wp2_with fail
                                      go_roundw
                                      case rel => exact ⟨b + 1, T, by omega, by go_num, hS.drewN _, hW'⟩
                                      case measure => simp [intOf]; omega
                                · go_wp2_with fail
                                  go_roundw
                                  case rel => exact ⟨a + 1, T, by omega, by go_num, hS, Plain.fw_next_a (by rw [show n = b from by omega] at hW ⊢; exact hW)⟩
                                  case measure => simp [intOf]; omega
                          · go_wp2_with fail
                            go_roundw
                            case rel => exact ⟨c + 1, T, by omega, by go_num, hS, Plain.fw_next_c (by rw [show n = a from by omega] at hW ⊢; exact hW)⟩
                            case measure => simp [intOf]; omega
                    · have hW' : Plain.FW n (Edge n full Z ts) (loB ts) n 0 0 T := by rw [show c = n from by omega] at hW; exact hW
                      clear hW
                      go_wp2_with fail
                      go_loop [23, 24, 25] (fun cn di i => LastR n ts T 0 cn di i) (fun _ _ i => n - (intOf i).toNat)
                      case atStart => exact ⟨0, true, 0, Nat.zero_le _, rfl, rfl, rfl, Plain.last_start _ _ _⟩
                      case round =>
                        obtain ⟨a, con, dia, ha, rfl, rfl, rfl, hLa⟩ := hrel
                        by_cases hlta : a < n
                        · have hca := hS.lo.cell hlta
                          go_wp2_with fail
                          go_loop [23, 24, 26] (fun cn di i => LastC n ts T a cn di i) (fun _ _ i => n - (intOf i).toNat)
                          case atStart => exact ⟨0, con, dia, Nat.zero_le _, rfl, rfl, rfl, hLa⟩
                          case round =>
                            clear hLa
                            obtain ⟨b, con, dia, hb, rfl, rfl, rfl, hLa⟩ := hrel
                            by_cases hltb : b < n
                            · have hcb := hS.lo.cell hltb
                              cases hla : loB ts a with
                              | false =>
                                rw [hla] at hca
                                have hL' := Plain.last_skip (b := b) hLa (Or.inl hla)
                                clear hla
                                go_wp2_with fail
                                go_round
                                case rel => exact ⟨b + 1, con, dia, by omega, by go_num, rfl, rfl, hL'⟩
                                case measure => simp [intOf]; omega
                              | true =>
                                rw [hla] at hca
                                have HLA : Hid (loB ts a = true) := hla
                                clear hla
                                cases hlb : loB ts b with
                                | false =>
                                  rw [hlb] at hcb
                                  have hL' := Plain.last_skip (b := b) hLa (Or.inr hlb)
                                  clear hlb
                                  go_wp2_with fail
                                  go_round
                                  case rel => exact ⟨b + 1, con, dia, by omega, by go_num, rfl, rfl, hL'⟩
                                  case measure => simp [intOf]; omega
                                | true =>
                                  rw [hlb] at hcb
                                  have HLB : Hid (loB ts b = true) := hlb
                                  clear hlb
                                  obtain ⟨iab, XAB, rab, lab, mab0, mab1⟩ := place n N a b HN.out hn hlta hltb
                                  have cab := hS.tab.cell lab
                                  by_cases hfar : 1048576 ≤ T iab
                                  · have hL' := Plain.last_far hLa hlta hltb HLA.out HLB.out (by rw [← XAB.out]; exact hfar)
                                    go_wp2_with fail
                                    go_round
                                    case rel => exact ⟨b + 1, false, dia, by omega, by go_num, rfl, rfl, hL'⟩
                                    case measure => simp [intOf]; omega
                                  · by_cases hgt : dia < T iab
                                    · have hL' := Plain.last_near (dia' := T iab) hLa hlta hltb HLA.out HLB.out (by rw [← XAB.out]; omega) (Or.inl (by rw [← XAB.out]; exact ⟨hgt, rfl⟩))
                                      go_wp2_with fail
                                      go_round
                                      case rel => exact ⟨b + 1, con, T iab, by omega, by go_num, rfl, rfl, hL'⟩
                                      case measure => simp [intOf]; omega
                                    · have hL' := Plain.last_near (dia' := dia) hLa hlta hltb HLA.out HLB.out (by rw [← XAB.out]; omega) (Or.inr (by rw [← XAB.out]; exact ⟨by omega, rfl⟩))
                                      go_wp2_with fail
                                      go_round
                                      case rel => exact ⟨b + 1, con, dia, by omega, by go_num, rfl, rfl, hL'⟩
                                      case measure => simp [intOf]; omega
                            · go_wp2_with fail
                              go_round
                              case rel => exact ⟨a + 1, con, dia, by omega, by go_num, rfl, rfl, Plain.last_next_a (by rw [show n = b from by omega] at hLa ⊢; exact hLa)⟩
                              case measure => simp [intOf]; omega
                        · have hfin := Plain.last_end hW' (show Plain.Last n (loB ts) T n 0 con dia by rw [show a = n from by omega] at hLa; exact hLa) (by omega) Edge.inside
                          go_wp2_with fail
                          go_ret3
                          exact ⟨⟨con, dia, by rw [HC2.out]; rfl, hfin.1, hfin.2.1, hfin.2.2⟩, hS.bel⟩

end Go.Proofs.Qxb6613861a
