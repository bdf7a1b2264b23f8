/-
  THE WALK: eachExtension: a range over a function whose body calls the closure.
-/
import Derived.Test.Qxb6614064aAcc
namespace Go.Proofs.Qxb6614064a
open Go.RowKit Go.Shelf

attribute [local go_sem] Oper.semAt_some

/-- The last text, or the empty one. -/
def lastB (l : List ByteArray) : ByteArray := l.getLast?.getD ⟨#[]⟩

theorem lastB_snoc (l : List ByteArray) (x : ByteArray) : lastB (l ++ [x]) = x := by simp [lastB]

theorem push_even {l : List ByteArray} (x : ByteArray) (h : l.length % 2 = 0) : Plain.firsts (l ++ [x]) = Plain.firsts l ∧ Plain.seconds (l ++ [x]) = Plain.seconds l := ⟨Plain.firsts_even x h, Plain.seconds_even x h⟩
theorem push_odd {l : List ByteArray} (x : ByteArray) (h : l.length % 2 = 1) : Plain.firsts (l ++ [x]) = Plain.firsts l ++ [lastB l] ∧ Plain.seconds (l ++ [x]) = Plain.seconds l ++ [x] := by
  obtain ⟨q, y, rfl⟩ : ∃ q y, l = q ++ [y] := by
    rcases List.eq_nil_or_concat l with e | ⟨q, y, e⟩
    · subst e; simp at h
    · exact ⟨q, y, by simpa using e⟩
  have hq : q.length % 2 = 0 := by simp at h; omega
  rw [lastB_snoc]
  exact ⟨Plain.firsts_odd y x hq, Plain.seconds_odd y x hq⟩

/-- What holds between two rounds, the texts l having come. -/
structure Inv (w W : World) (Bn Bw : Nat) (yv : Value) (v : ByteArray) (l : List ByteArray) : Prop where
  bY : Boxed W w.heap.size 37 yv
  bN : Boxed W (w.heap.size + 1) 9 (.string (lastB l))
  bK : Boxed W (w.heap.size + 1 + 1) 3 (.int .i64 (l.length : Int))
  bV : Boxed W (w.heap.size + 1 + 1 + 1) 9 (.string v)
  acc : AccAt W (w.heap.size + 4) Bn Bw (Plain.firsts l) (Plain.seconds l)
  kept : Kept w.heap.size Bn Bw w W
  size : w.heap.size + 4 ≤ W.heap.size

theorem AccAt.grown {W W' : World} {base Bn Bw : Nat} {ns vs : List ByteArray} {row : Option Nat} (h : AccAt W base Bn Bw ns vs) (hBn : Bn < base) (hBw : Bw < base) (hg : W.grownBy W' row)
    (hr : ∀ r, row = some r → base ≤ r ∧ ∃ o : Obj, W.heap[r]? = some o ∧ o.isCells = false) : AccAt W' base Bn Bw ns vs := by
  obtain ⟨nv, vv, h⟩ := h
  have hne : ∀ j, j < base → some j ≠ row := fun j hj e => by have := (hr j e.symm).1; omega
  have hrow : ∀ {u : Value} {k : Nat} {xs : List Value}, W.ownsRow base 9 1 u k xs → u.ownBlock = none ∨ u.ownBlock ≠ row := by
    intro u k xs hu
    cases e : u.ownBlock with
    | none => exact Or.inl rfl
    | some g =>
      right
      intro e2
      obtain ⟨_, o, ho, hc⟩ := hr g e2.symm
      obtain ⟨_, _, cur, hcur⟩ := row_block hu e
      rw [hcur] at ho
      cases ho
      cases hc
  exact ⟨nv, vv, h.bn.kept hg (hne Bn hBn), h.bw.kept hg (hne Bw hBw), h.rn.kept hg (hrow h.rn), h.rw'.kept hg (hrow h.rw'), h.ap⟩

theorem inv_own (w : World) (Bn Bw : Nat) (yv : Value) (v : ByteArray) (hBn : Bn < w.heap.size) (hBw : Bw < w.heap.size) :
    OwnFrom (w.heap.size + 4) (fun (pre : List (Int × ByteArray)) W => Inv w W Bn Bw yv v (pre.map (·.2))) := by
  intro pre W W' row h hg hr
  have hne : ∀ j, j < w.heap.size + 4 → some j ≠ row := fun j hj e => by have := (hr j e.symm).1; omega
  have hs := h.size
  refine ⟨h.bY.kept hg (hne _ (by omega)), h.bN.kept hg (hne _ (by omega)), h.bK.kept hg (hne _ (by omega)), h.bV.kept hg (hne _ (by omega)), h.acc.grown (by omega) (by omega) hg hr, ?_, Nat.le_trans hs hg.size⟩
  refine ⟨hg.os.trans h.kept.os, hg.tape.trans h.kept.tape, hg.output.trans h.kept.output, fun j hj h1 h2 => (hg.block j (by omega) (hne j (by omega))).trans (h.kept.blk j hj h1 h2), ?_⟩
  refine ⟨Nat.le_trans h.kept.oth.size hg.size, fun j o hj ho => ?_⟩
  have hjw : j < w.heap.size := (Array.getElem?_eq_some_iff.1 hj).1
  exact (hg.block j (by omega) (hne j (by omega))).trans (h.kept.oth.same j o hj ho)

theorem boxed_set_other {W : World} {j b : Nat} {t : TypeId} {u : Value} (x : Value) (h : Boxed W j t u) (hne : j ≠ b) : Boxed (W.setCell ⟨b, 0, none⟩ x) j t u :=
  h.kept (grownBy_setCell' W b x) (by simpa using hne)

theorem accAt_set {W : World} {base Bn Bw b : Nat} {ns vs : List ByteArray} (x : Value) (h : AccAt W base Bn Bw ns vs) (h1 : Bn ≠ b) (h2 : Bw ≠ b) (h3 : b < base) : AccAt (W.setCell ⟨b, 0, none⟩ x) base Bn Bw ns vs := by
  obtain ⟨nv, vv, h⟩ := h
  have hrow : ∀ {u : Value} {k : Nat} {xs : List Value}, W.ownsRow base 9 1 u k xs → u.ownBlock = none ∨ u.ownBlock ≠ some b := by
    intro u k xs hu
    cases e : u.ownBlock with
    | none => exact Or.inl rfl
    | some g =>
      right
      intro e2
      have := (row_block hu e).1
      have : g = b := by simpa using e2
      omega
  exact ⟨nv, vv, boxed_set_other x h.bn h1, boxed_set_other x h.bw h2, h.rn.kept (grownBy_setCell' W b x) (hrow h.rn), h.rw'.kept (grownBy_setCell' W b x) (hrow h.rw'), h.ap⟩

/-- The round's two stores: name = part, k++. -/
theorem inv_store {w W : World} {Bn Bw : Nat} {yv : Value} {v : ByteArray} {l : List ByteArray} {x : ByteArray} {ns vs : List ByteArray} (hBn : Bn < w.heap.size) (hBw : Bw < w.heap.size)
    (bY : Boxed W w.heap.size 37 yv) (bN : Boxed W (w.heap.size + 1) 9 (.string (lastB l))) (bK : Boxed W (w.heap.size + 1 + 1) 3 (.int .i64 (l.length : Int))) (bV : Boxed W (w.heap.size + 1 + 1 + 1) 9 (.string v))
    (acc : AccAt W (w.heap.size + 4) Bn Bw ns vs) (kept : Kept w.heap.size Bn Bw w W) (size : w.heap.size + 4 ≤ W.heap.size) (e1 : Plain.firsts (l ++ [x]) = ns) (e2 : Plain.seconds (l ++ [x]) = vs) :
    Inv w ((W.setCell ⟨w.heap.size + 1, 0, none⟩ (.string x)).setCell ⟨w.heap.size + 1 + 1, 0, none⟩ (.int .i64 ((l.length : Int) + 1))) Bn Bw yv v (l ++ [x]) ∧
    KeepsOthers W ((W.setCell ⟨w.heap.size + 1, 0, none⟩ (.string x)).setCell ⟨w.heap.size + 1 + 1, 0, none⟩ (.int .i64 ((l.length : Int) + 1))) ∧
    KeepBox (w.heap.size + 1 + 1 + 1) W ((W.setCell ⟨w.heap.size + 1, 0, none⟩ (.string x)).setCell ⟨w.heap.size + 1 + 1, 0, none⟩ (.int .i64 ((l.length : Int) + 1))) := by
  have ko : KeepsOthers W ((W.setCell ⟨w.heap.size + 1, 0, none⟩ (.string x)).setCell ⟨w.heap.size + 1 + 1, 0, none⟩ (.int .i64 ((l.length : Int) + 1))) := (KeepsOthers.setCell _ _ _).trans (KeepsOthers.setCell _ _ _)
  have hb : ∀ j, j ≠ w.heap.size + 1 → j ≠ w.heap.size + 1 + 1 → ((W.setCell ⟨w.heap.size + 1, 0, none⟩ (.string x)).setCell ⟨w.heap.size + 1 + 1, 0, none⟩ (.int .i64 ((l.length : Int) + 1))).heap[j]? = W.heap[j]? := fun j h1 h2 => by
    rw [Below.heap_setCell _ _ _ _ (by show j ≠ w.heap.size + 1 + 1; exact h2), Below.heap_setCell _ _ _ _ (by show j ≠ w.heap.size + 1; exact h1)]
  refine ⟨⟨boxed_set_other _ (boxed_set_other _ bY (by omega)) (by omega), boxed_set_other _ (by rw [lastB_snoc]; exact bN.set _) (by omega), ?_, boxed_set_other _ (boxed_set_other _ bV (by omega)) (by omega), ?_, ?_, by simpa using size⟩, ko, hb _ (by omega) (by omega)⟩
  · have := (boxed_set_other (.string x) bK (show w.heap.size + 1 + 1 ≠ w.heap.size + 1 by omega)).set (.int .i64 ((l.length : Int) + 1))
    simpa using this
  · rw [e1, e2]
    exact accAt_set _ (accAt_set _ acc (by omega) (by omega) (by omega)) (by omega) (by omega) (by omega)
  · exact kept.trans ⟨rfl, rfl, rfl, fun j hj _ _ => hb j (by omega) (by omega), ko⟩

/-- Where the loop begins. -/
theorem inv_start (w : World) (Bn Bw : Nat) (yv : Value) (v : ByteArray) (hn : Boxed w Bn 23 (.slice none 0 0)) (hw : Boxed w Bw 23 (.slice none 0 0)) :
    Inv w ((((w.alloc (.cells #[yv] 37)).alloc (.cells #[.string ⟨#[]⟩] 9)).alloc (.cells #[.int .i64 0] 3)).alloc (.cells #[.string v] 9)) Bn Bw yv v [] := by
  have b1 := Boxed.new w 37 yv
  have b2 := Boxed.new (w.alloc (.cells #[yv] 37)) 9 (.string ⟨#[]⟩)
  have b3 := Boxed.new ((w.alloc (.cells #[yv] 37)).alloc (.cells #[.string ⟨#[]⟩] 9)) 3 (.int .i64 0)
  have b4 := Boxed.new (((w.alloc (.cells #[yv] 37)).alloc (.cells #[.string ⟨#[]⟩] 9)).alloc (.cells #[.int .i64 0] 3)) 9 (.string v)
  simp only [World.size_alloc] at b2 b3 b4
  refine ⟨((b1.alloc _).alloc _).alloc _, (b2.alloc _).alloc _, b3.alloc _, b4, ⟨_, _, (((hn.alloc _).alloc _).alloc _).alloc _, (((hw.alloc _).alloc _).alloc _).alloc _, World.ownsRow_nil _ _ _ _, World.ownsRow_nil _ _ _ _, Or.inl rfl⟩, ?_, by simp⟩
  have hb := ((((Below.refl w.heap.size w).alloc (Nat.le_refl _) (.cells #[yv] 37)).alloc (by simp) (.cells #[.string ⟨#[]⟩] 9)).alloc (by simp; omega) (.cells #[.int .i64 0] 3)).alloc (by simp; omega) (.cells #[.string v] 9)
  exact ⟨hb.os, hb.tape, hb.output, fun j hj _ _ => hb.block j hj, (((KeepsOthers.alloc _ _).trans (KeepsOthers.alloc _ _)).trans (KeepsOthers.alloc _ _)).trans (KeepsOthers.alloc _ _)⟩

set_option maxRecDepth 100000 in
set_option maxHeartbeats 4000000 in
theorem each_in (bc Bn Bw : Nat) (v : ByteArray) (hv : v.size ≤ 4194304) (w : World) (hc : w.cell? ⟨bc, 11, none⟩ = some (.string v)) (hn : Boxed w Bn 23 (.slice none 0 0)) (hw : Boxed w Bw 23 (.slice none 0 0)) (hne : Bn ≠ Bw) :
    Calls Try.prog 14 #[.pointer (some ⟨bc, 0, none⟩), .func (.func 15) #[] #[.pointer (some ⟨Bn, 0, none⟩), .pointer (some ⟨Bw, 0, none⟩)]] w fun e W' => e = .returned (.tuple #[]) ∧
      AccAt W' (w.heap.size + 4) Bn Bw (Plain.firsts (wordsB v)) (Plain.seconds (wordsB v)) ∧ Kept w.heap.size Bn Bw w W' := by
  refine (callsIn_wide (n := 9)).1 ?_
  refine callsIn_of_wp_marks Try.func14 rfl trivial ?_ rfl
  simp only [Try.ntmps14, List.size_toArray, List.length_cons, List.length_nil, Nat.reduceAdd, Nat.reduceSub, Array.replicate_succ, Array.replicate_zero, List.push_toArray, List.append_toArray, List.nil_append, List.cons_append]
  have hbc := World.block_lt_of_cell? _ _ hc
  have hBn := hn.lt
  have hBw := hw.lt
  have hI0 := inv_start w Bn Bw (.func (.func 15) #[] #[.pointer (some ⟨Bn, 0, none⟩), .pointer (some ⟨Bw, 0, none⟩)]) v hn hw
  have hc3 : ∀ o1 o2 o3, (((w.alloc o1).alloc o2).alloc o3).cell? ⟨bc, 11, none⟩ = some (.string v) := fun o1 o2 o3 => by
    rw [((((Below.refl w.heap.size w).alloc (Nat.le_refl _) o1).alloc (by simp) o2).alloc (by simp; omega) o3).cell hbc]; exact hc
  have hwl : (Plain.words (tx v)).length ≤ 4194305 := by
    have h1 := Plain.words_length (tx v)
    have h2 := spaces_le (tx v)
    rw [tx_length] at h2
    omega
  gi_wp2_with (refine ⟨trivial, ?_⟩; gi_at_call 16; refine (sub_in _ _ _).mono ?_; rintro e w' ⟨rfl, rfl⟩)
  clear hc3 hc
  have hsz : ((((w.alloc (.cells #[.func (.func 15) #[] #[.pointer (some ⟨Bn, 0, none⟩), .pointer (some ⟨Bw, 0, none⟩)]] 37)).alloc (.cells #[.string ⟨#[]⟩] 9)).alloc (.cells #[.int .i64 0] 3)).alloc (.cells #[.string v] 9)).heap.size = w.heap.size + 4 := by simp
  obtain ⟨W0, hW0⟩ : ∃ W0, ((((w.alloc (.cells #[.func (.func 15) #[] #[.pointer (some ⟨Bn, 0, none⟩), .pointer (some ⟨Bw, 0, none⟩)]] 37)).alloc (.cells #[.string ⟨#[]⟩] 9)).alloc (.cells #[.int .i64 0] 3)).alloc (.cells #[.string v] 9)) = W0 := ⟨_, rfl⟩
  rw [hW0] at hI0 hsz ⊢
  clear hW0
  refine wpIn_rangeFunc_ownG rfl (by omega) (gf := 17) (lb := #[.pointer (some ⟨w.heap.size + 1 + 1 + 1, 0, none⟩)]) rfl trivial (enters_of Try.func17 (by kernel_rfl) rfl) (sub_stops _ (w.heap.size + 1 + 1 + 1) v hv W0 hI0.bV)
    KeepBox.trans (fun W l o o' hl _ _ _ => World.putObj_heap_other (by omega)) (Below.refl _ _) (fun _ => rfl)
    (fun (pre : List (Int × ByteArray)) W => Inv w W Bn Bw (.func (.func 15) #[] #[.pointer (some ⟨Bn, 0, none⟩), .pointer (some ⟨Bw, 0, none⟩)]) v (pre.map (·.2)))
    (fun _ _ _ => False)
    (by rw [hsz]; exact inv_own w Bn Bw _ v hBn hBw)
    (fun _ _ _ _ _ hs _ _ => hs)
    hI0
    (fun x => { tmps := #[.pointer (some ⟨bc, 0, none⟩), .func (.func 15) #[] #[.pointer (some ⟨Bn, 0, none⟩), .pointer (some ⟨Bw, 0, none⟩)], undef, .pointer (some ⟨w.heap.size, 0, none⟩), .pointer (some ⟨w.heap.size + 1, 0, none⟩), .pointer (some ⟨w.heap.size + 1 + 1, 0, none⟩), undef, .string x.2, .pointer (some ⟨bc, 0, none⟩), .pointer (some ⟨bc, 0, none⟩), .pointer (some ⟨bc, 11, none⟩), .string v, .func (.func 17) #[] #[.pointer (some ⟨w.heap.size + 1 + 1 + 1, 0, none⟩)], .int .i64 x.1, .string x.2, undef, undef, undef, undef, undef, undef, undef, undef, undef, undef], defers := [] }) ?assign ?body ?done ?stop
  case assign =>
    intro l x W K hK
    gi_wp2
    exact hK
  case body =>
    rintro l pre ⟨at0, x⟩ W hI hlt
    obtain ⟨lw, HLW⟩ : ∃ lw, Hid (lw = pre.map (·.2)) := ⟨_, (rfl : pre.map (·.2) = _)⟩
    have hlen : lw.length < 4194305 := by rw [HLW.out, List.length_map]; omega
    have hI' : Inv w W Bn Bw (.func (.func 15) #[] #[.pointer (some ⟨Bn, 0, none⟩), .pointer (some ⟨Bw, 0, none⟩)]) v lw := by rw [HLW.out]; exact hI
    have HM : Hid ((pre ++ [(at0, x)]).map (·.2) = lw ++ [x]) := (show (pre ++ [(at0, x)]).map (·.2) = lw ++ [x] by rw [HLW.out]; simp)
    clear hI
    have cK := hI'.bK.cell
    have fK := hI'.bK.frozen
    have cN := hI'.bN.cell
    have fN := hI'.bN.frozen
    have cY := hI'.bY.cell
    have hfl := Plain.firsts_length lw
    have hsl := Plain.seconds_length lw
    by_cases hodd : lw.length % 2 = 1
    · have he : ((lw.length : Int) % 2 == 1) = true := by rw [beq_iff_eq]; omega
      obtain ⟨e1, e2⟩ := push_odd x hodd
      have E1 : Hid (Plain.firsts (lw ++ [x]) = Plain.firsts lw ++ [lastB lw]) := e1
      have E2 : Hid (Plain.seconds (lw ++ [x]) = Plain.seconds lw ++ [x]) := e2
      clear e1 e2 hodd
      gi_wp2_with fail
      refine ⟨trivial, ?_⟩
      refine (CallsIn.inRound l (callsIn_wide.2 (closure_any (w.heap.size + 4) Bn Bw (Plain.firsts lw) (Plain.seconds lw) (lastB lw) x W hI'.acc hne hI'.size (by omega) (by omega)))).mono ?_
      rintro e W1 ⟨rfl, hA1, hK1⟩
      have bY1 := hK1.boxed hI'.bY (by omega) (by omega) (by omega)
      have bN1 := hK1.boxed hI'.bN (by omega) (by omega) (by omega)
      have bK1 := hK1.boxed hI'.bK (by omega) (by omega) (by omega)
      have bV1 := hK1.boxed hI'.bV (by omega) (by omega) (by omega)
      have k1 : Kept w.heap.size Bn Bw w W1 := hI'.kept.trans ⟨hK1.os, hK1.tape, hK1.output, fun j hj h1 h2 => hK1.blk j (by omega) h1 h2, hK1.oth⟩
      have s1 : w.heap.size + 4 ≤ W1.heap.size := Nat.le_trans hI'.size hK1.oth.size
      obtain ⟨r1, r2, r3⟩ := inv_store (x := x) hBn hBw bY1 bN1 bK1 bV1 hA1 k1 s1 E1.out E2.out
      have q2 := hK1.oth.trans r2
      have q3 : KeepBox (w.heap.size + 1 + 1 + 1) W W1 := hK1.blk _ (by omega) (by omega) (by omega)
      have cK1 := bK1.cell
      have fK1 := bK1.frozen
      have cN1 := bN1.cell
      have fN1 := bN1.frozen
      clear cK fK cN fN cY hA1
      gi_wp2_with fail
      exact ⟨q2.from _, q3.trans r3, by dsimp only; rw [HM.out]; exact r1⟩
    · have he : ((lw.length : Int) % 2 == 1) = false := by rw [beq_eq_false_iff_ne]; omega
      obtain ⟨e1, e2⟩ := push_even (l := lw) x (by omega)
      have hst := inv_store (x := x) hBn hBw hI'.bY hI'.bN hI'.bK hI'.bV hI'.acc hI'.kept hI'.size e1 e2
      obtain ⟨r1, r2, r3⟩ := hst
      clear hodd
      gi_wp2
      exact ⟨r2.from _, r3, by dsimp only; rw [HM.out]; exact r1⟩
  case done =>
    rintro D ys W hD hS hI hK
    gi_wp2
    have hI2 : Inv w (W.putObj D (.deferred none)) Bn Bw (.func (.func 15) #[] #[.pointer (some ⟨Bn, 0, none⟩), .pointer (some ⟨Bw, 0, none⟩)]) v (ys.map (·.2)) :=
      (inv_own w Bn Bw _ v hBn hBw).putObj (.deferred none) hI (by omega) hK rfl
    rw [hS] at hI2
    refine ⟨by simp, .inl ⟨_, _, rfl, run_takeDeferred hK, ?_⟩⟩
    exact ⟨_, results_none rfl _ _ _, rfl, hI2.acc, hI2.kept⟩
  case stop =>
    rintro D c pre W _ _ h _
    exact h.elim

end Go.Proofs.Qxb6614064a
