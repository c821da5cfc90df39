/- The law FnAllEscapedOrMeetAndEscapesOnly: its walk. -/
import Derived.Test.Qxb6616805aOnly
namespace Go.Proofs.Qxb6616805a
open Go.RowKit

theorem run_alloc28 (w : World) : (Instr.alloc 28 true (.tuple #[])).run Try.prog w = .ok (.pointer (some ⟨w.heap.size, 0, none⟩)) (w.alloc (.cells (tab fun _ => false) 28)) := by kernel_rfl

theorem wp_alloc28 {ops : Array Oper} {rest : List Oper} {o : Oper} {a : Act} {w : World} {Q : Exit → Act → World → Prop} (hgd : o.guard = none) (ho : o.op = .alloc 28)
    (h : wpList Try.prog ops Q rest (a.put o.dst (.pointer (some ⟨w.heap.size, 0, none⟩))) (w.alloc (.cells (tab fun _ => false) 28))) : wpList Try.prog ops Q (o :: rest) a w := by
  refine wpList_plain hgd fun K hK => ?_
  unfold Oper.wp
  simp [execOp, ho, run_alloc28, Result.andThen]
  exact hK _ _ h

theorem f16_any (s : ByteArray) (T1 T2 : Nat → Bool) (hs : s.size ≤ maxLen) (w : World) :
    Calls Try.prog 16 #[.string s, .agg (tab T1), .agg (tab T2)] w fun e w' => e = .returned (.bool (decide ((s.size : Int) ≤ 1048576))) ∧ w' = (w.alloc (.cells (tab T1) 28)).alloc (.cells (tab T2) 28) := by
  unfold maxLen at hs
  by_cases h : (s.size : Int) ≤ 1048576
  · go_enter Try.func16, Try.ntmps16
    go_wp2
    go_ret
    exact ⟨by simp [h], rfl⟩
  · go_enter Try.func16, Try.ntmps16
    go_wp2
    go_ret
    exact ⟨by simp [h], rfl⟩

theorem meet_long (s : ByteArray) (T1 T2 : Nat → Bool) (hm : s.size ≤ maxLen) (hs : ¬ s.size ≤ 1048576) (w : World) :
    Calls Try.prog 6 #[.string s, .agg (tab T1), .agg (tab T2)] w fun e w' => e = .returned (.bool true) ∧ Below w.heap.size w w' := by
  have hd : decide ((s.size : Int) ≤ 1048576) = false := by simp; omega
  go_enter Try.func6, Try.ntmps6
  go_wp2_with (first
    | (refine wp_load28 rfl _ rfl w.heap.size rfl T1 (heap_alloc2_old w _ _) ?_)
    | (refine wp_load28 rfl _ rfl (w.heap.size + 1) rfl T2 (heap_alloc2_new w _ _) ?_)
    | (go_at_call 16; refine (f16_any s T1 T2 hm _).mono ?_; rw [hd]; rintro e w' ⟨rfl, rfl⟩))
  go_ret
  exact ⟨rfl, ((((Below.refl _ _).alloc (Nat.le_refl _) _).alloc (by simp) _).alloc (by simp; omega) _).alloc (by simp; omega) _⟩

/-- the four tables -/
structure Four (w : World) (b4 b5 b7 b8 : Nat) (T1 T2 : Nat → Bool) (cur : Array Value) (w' : World) : Prop where
  r1 : w'.heap[b4]? = some (.cells (tab T1) 28 (0, 0))
  r2 : w'.heap[b5]? = some (.cells (tab T2) 28 (0, 0))
  r7 : w'.heap[b7]? = some (.cells cur 28 (0, 0))
  r8 : w'.heap[b8]? = some (.cells (tab fun _ => false) 28 (0, 0))
  bel : Below w.heap.size w w'
theorem Four.alloc {w w' : World} {b4 b5 b7 b8 : Nat} {T1 T2 : Nat → Bool} {cur : Array Value} (h : Four w b4 b5 b7 b8 T1 T2 cur w') (o : Obj) : Four w b4 b5 b7 b8 T1 T2 cur (w'.alloc o) := by
  have old : ∀ b x, w'.heap[b]? = some x → (w'.alloc o).heap[b]? = some x := fun b x hx => (heap_alloc_old w' o (Array.getElem?_eq_some_iff.1 hx).1).trans hx
  exact ⟨old _ _ h.r1, old _ _ h.r2, old _ _ h.r7, old _ _ h.r8, h.bel.alloc h.bel.size o⟩
theorem Four.set {w w' : World} {b4 b5 b7 b8 : Nat} {T1 T2 : Nat → Bool} {cur : Array Value} (h : Four w b4 b5 b7 b8 T1 T2 cur w') (h4 : b4 ≠ b7) (h5 : b5 ≠ b7) (h8 : b8 ≠ b7) (hb : w.heap.size ≤ b7) (k : Nat) (v : Value) : Four w b4 b5 b7 b8 T1 T2 (cur.setIfInBounds k v) (w'.setCell ⟨b7, k, none⟩ v) :=
  ⟨(heap_setCell_other w' ⟨b7, k, none⟩ b4 v h4).trans h.r1, (heap_setCell_other w' ⟨b7, k, none⟩ b5 v h5).trans h.r2, heap_setCell_same w' b7 k cur 28 v h.r7, (heap_setCell_other w' ⟨b7, k, none⟩ b8 v h8).trans h.r8, h.bel.setCell hb v⟩

theorem f14_four {w w' : World} {b4 b5 b7 b8 : Nat} {T1 T2 : Nat → Bool} {cur : Array Value} (h : Four w b4 b5 b7 b8 T1 T2 cur w') (s : ByteArray) (T : Nat → Bool) (R : Bool) (hR : esc T s.data.toList = R) (hs : s.size ≤ 1048576) :
    Calls Try.prog 14 #[.string s, .agg (tab T)] w' fun e w'' => e = .returned (.bool R) ∧ Four w b4 b5 b7 b8 T1 T2 cur w'' := by
  refine (f14_any s T hs w').mono ?_
  rintro e w'' ⟨rfl, rfl⟩
  exact ⟨by rw [hR], h.alloc _⟩

theorem four_start (w : World) (T1 T2 : Nat → Bool) : Four w w.heap.size (w.heap.size + 1) (w.heap.size + 1 + 1 + 1 + 1) (w.heap.size + 1 + 1 + 1 + 1 + 1) T1 T2 (tab fun _ => false)
      ((((((w.alloc (.cells (tab T1) 28)).alloc (.cells (tab T2) 28)).alloc (.cells (tab T1) 28)).alloc (.cells (tab T2) 28)).alloc (.cells (tab fun _ => false) 28)).alloc (.cells (tab fun _ => false) 28)) := by
  obtain ⟨w4, h4⟩ : ∃ w4, w4 = (((w.alloc (.cells (tab T1) 28)).alloc (.cells (tab T2) 28)).alloc (.cells (tab T1) 28)).alloc (.cells (tab T2) 28) := ⟨_, rfl⟩
  have s4 : w4.heap.size = w.heap.size + 1 + 1 + 1 + 1 := by rw [h4]; simp
  have r1 : w4.heap[w.heap.size]? = some (.cells (tab T1) 28 (0, 0)) := by
    rw [h4]
    exact (heap_alloc_old _ _ (by simp <;> omega)).trans ((heap_alloc_old _ _ (by simp <;> omega)).trans (heap_alloc2_old w _ _))
  have r2 : w4.heap[w.heap.size + 1]? = some (.cells (tab T2) 28 (0, 0)) := by
    rw [h4]
    exact (heap_alloc_old _ _ (by simp <;> omega)).trans ((heap_alloc_old _ _ (by simp)).trans (heap_alloc2_new w _ _))
  have bel : Below w.heap.size w w4 := by
    rw [h4]
    exact ((((Below.refl _ _).alloc (Nat.le_refl _) _).alloc (by simp) _).alloc (by simp <;> omega) _).alloc (by simp <;> omega) _
  rw [← h4]
  have r7 := heap_alloc2_old w4 (.cells (tab fun _ => false) 28) (.cells (tab fun _ => false) 28)
  have r8 := heap_alloc2_new w4 (.cells (tab fun _ => false) 28) (.cells (tab fun _ => false) 28)
  rw [s4] at r7 r8
  exact ⟨(heap_alloc_old _ _ (by simp <;> omega)).trans ((heap_alloc_old _ _ (by omega)).trans r1), (heap_alloc_old _ _ (by simp <;> omega)).trans ((heap_alloc_old _ _ (by omega)).trans r2), r7, r8, (bel.alloc (by omega) _).alloc (by simp <;> omega) _⟩

theorem meet_step {cur : Array Value} {k : Nat} {T1 T2 : Nat → Bool} (hsz : cur.size = 256) (hcur : ∀ c, c < k → cur[c]? = some (.bool (T1 c && T2 c))) (hk : k < 256) :
    (cur.setIfInBounds k (.bool (T1 k && T2 k))).size = 256 ∧ ∀ c, c < k + 1 → (cur.setIfInBounds k (.bool (T1 k && T2 k)))[c]? = some (.bool (T1 c && T2 c)) := by
  refine ⟨by simp [hsz], fun c hc => ?_⟩
  rw [Array.getElem?_setIfInBounds]
  by_cases e : k = c
  · subst e; rw [if_pos rfl, if_pos (by omega)]
  · rw [if_neg e]; exact hcur c (by omega)

theorem meet_done {cur : Array Value} {T1 T2 : Nat → Bool} (hsz : cur.size = 256) (hcur : ∀ c, c < 256 → cur[c]? = some (.bool (T1 c && T2 c))) : tab (fun c => T1 c && T2 c) = cur := by
  apply Array.ext_getElem?
  intro i
  by_cases hi : i < 256
  · rw [get_tab _ i hi, hcur i hi]
  · rw [Array.getElem?_eq_none (by rw [size_tab]; omega), Array.getElem?_eq_none (by omega)]

set_option maxRecDepth 100000 in
set_option maxHeartbeats 1000000 in
theorem meet_in (s : ByteArray) (T1 T2 : Nat → Bool) (hs : s.size ≤ 1048576) (w : World) :
    Calls Try.prog 6 #[.string s, .agg (tab T1), .agg (tab T2)] w fun e w' => e = .returned (.bool true) ∧ Below w.heap.size w w' := by
  have hm : s.size ≤ maxLen := by unfold maxLen; omega
  have hd : decide ((s.size : Int) ≤ 1048576) = true := by simp; omega
  have hd2 : decide ((1048576 : Int) < (s.size : Int)) = false := by simp; omega
  go_enter Try.func6, Try.ntmps6
  go_wp2_with (first
    | (refine wp_load28 rfl _ rfl w.heap.size rfl T1 (heap_alloc2_old w _ _) ?_)
    | (refine wp_load28 rfl _ rfl (w.heap.size + 1) rfl T2 (heap_alloc2_new w _ _) ?_)
    | (go_at_call 16; refine (f16_any s T1 T2 hm _).mono ?_; rw [hd]; rintro e w' ⟨rfl, rfl⟩)
    | (refine wp_alloc28 rfl rfl ?_))
  have H0 : Four w w.heap.size (w.heap.size + 1) (w.heap.size + 1 + 1 + 1 + 1) (w.heap.size + 1 + 1 + 1 + 1 + 1) T1 T2 (tab fun _ => false)
      ((((((w.alloc (.cells (tab T1) 28)).alloc (.cells (tab T2) 28)).alloc (.cells (tab T1) 28)).alloc (.cells (tab T2) 28)).alloc (.cells (tab fun _ => false) 28)).alloc (.cells (tab fun _ => false) 28)) := four_start w T1 T2
  have hne : w.heap.size ≠ w.heap.size + 1 + 1 + 1 + 1 ∧ w.heap.size + 1 ≠ w.heap.size + 1 + 1 + 1 + 1 ∧ w.heap.size + 1 + 1 + 1 + 1 + 1 ≠ w.heap.size + 1 + 1 + 1 + 1 ∧ w.heap.size ≤ w.heap.size + 1 + 1 + 1 + 1 := by omega
  generalize ((((((w.alloc (.cells (tab T1) 28)).alloc (.cells (tab T2) 28)).alloc (.cells (tab T1) 28)).alloc (.cells (tab T2) 28)).alloc (.cells (tab fun _ => false) 28)).alloc (.cells (tab fun _ => false) 28)) = W6 at H0 ⊢
  generalize w.heap.size + 1 + 1 + 1 + 1 + 1 = b8 at H0 hne ⊢
  generalize w.heap.size + 1 + 1 + 1 + 1 = b7 at H0 hne ⊢
  generalize w.heap.size + 1 = b5 at H0 hne ⊢
  obtain ⟨n4, n5, n8, hb7⟩ := hne
  have HF : Hid (Four w w.heap.size b5 b7 b8 T1 T2 (tab fun _ => false) W6) := H0
  clear H0 hd
  go_loopw [9] (fun v wr => ∃ (k : Nat) (cur : Array Value), k ≤ 256 ∧ v = .int .i64 k ∧ Four w w.heap.size b5 b7 b8 T1 T2 cur wr ∧ cur.size = 256 ∧ ∀ c, c < k → cur[c]? = some (.bool (T1 c && T2 c))) (fun v _ => 256 - (intOf v).toNat)
  case atStart => exact ⟨0, _, by omega, rfl, HF.out, size_tab _, fun c h => by omega⟩
  case round =>
    clear HF
    obtain ⟨k, cur, hk, rfl, hf, hsz, hcur⟩ := hrel
    by_cases hlt : k < 256
    · have c1 : wr.cell? ⟨w.heap.size, k, none⟩ = some (.bool (T1 k)) := by rw [cell_of_row _ _ _ _ _ _ hf.r1]; exact get_tab T1 k hlt
      have c2 : wr.cell? ⟨b5, k, none⟩ = some (.bool (T2 k)) := by rw [cell_of_row _ _ _ _ _ _ hf.r2]; exact get_tab T2 k hlt
      obtain ⟨v7, c7⟩ : ∃ v, wr.cell? ⟨b7, k, none⟩ = some v := ⟨_, by rw [cell_of_row _ _ _ _ _ _ hf.r7]; exact Array.getElem?_eq_getElem (by omega)⟩
      have f7 : wr.frozen? ⟨b7, k, none⟩ = false := frozen_of_row _ _ _ _ _ hf.r7
      have HN : Hid (Four w w.heap.size b5 b7 b8 T1 T2 (cur.setIfInBounds k (.bool (T1 k && T2 k))) (wr.setCell ⟨b7, k, none⟩ (.bool (T1 k && T2 k)))) := hf.set n4 n5 n8 hb7 k _
      have HC : Hid ((cur.setIfInBounds k (.bool (T1 k && T2 k))).size = 256 ∧ ∀ c, c < k + 1 → (cur.setIfInBounds k (.bool (T1 k && T2 k)))[c]? = some (.bool (T1 c && T2 c))) := meet_step hsz hcur hlt
      clear hf hcur hsz
      cases x1 : T1 k
      · rw [x1] at c1 HN HC
        go_wp2
        go_roundw
        case rel => exact ⟨k + 1, _, by omega, by go_num, HN.out, HC.out.1, HC.out.2⟩
        case measure => simp [intOf]; omega
      · rw [x1] at c1 HN HC
        simp only [Bool.true_and] at HN HC
        go_wp2
        go_roundw
        case rel => exact ⟨k + 1, _, by omega, by go_num, HN.out, HC.out.1, HC.out.2⟩
        case measure => simp [intOf]; omega
    · obtain rfl : 256 = k := by omega
      obtain rfl := meet_done hsz hcur
      obtain ⟨A, hA⟩ : ∃ A, esc T1 s.data.toList = A := ⟨_, rfl⟩
      obtain ⟨Bv, hB⟩ : ∃ B, esc T2 s.data.toList = B := ⟨_, rfl⟩
      obtain ⟨Z, hZ⟩ : ∃ Z, esc (fun _ => false) s.data.toList = Z := ⟨_, rfl⟩
      have hAB : esc (fun c => T1 c && T2 c) s.data.toList = (A && Bv) := by rw [esc_meet T1 T2 _ _ (Nat.le_refl _), hA, hB]
      have HZ : Hid (Z = true → A = true ∧ Bv = true) := fun h => by
        subst h
        exact ⟨by rw [← hA]; exact esc_none T1 _ _ (Nat.le_refl _) hZ, by rw [← hB]; exact esc_none T2 _ _ (Nat.le_refl _) hZ⟩
      have HF : Hid (Four w w.heap.size b5 b7 b8 T1 T2 (tab fun c => T1 c && T2 c) wr) := hf
      have HA : Hid (esc T1 s.data.toList = A) := hA
      have HB : Hid (esc T2 s.data.toList = Bv) := hB
      have HQ : Hid (esc (fun _ => false) s.data.toList = Z) := hZ
      have HAB : Hid (esc (fun c => T1 c && T2 c) s.data.toList = (A && Bv)) := hAB
      clear hA hB hZ hAB hf hcur hsz hk
      go_wp2_with (refine wp_load28 rfl _ rfl _ rfl T1 HF.out.r1 ?_)
      refine (f14_four HF.out s T1 A HA.out hs).mono ?_
      rintro e w1 ⟨rfl, hf1⟩
      have HF1 : Hid (Four w w.heap.size b5 b7 b8 T1 T2 (tab fun c => T1 c && T2 c) w1) := hf1
      clear HF hf1
      go_wp2_with (refine wp_load28 rfl _ rfl _ rfl T2 HF1.out.r2 ?_)
      refine (f14_four HF1.out s T2 Bv HB.out hs).mono ?_
      rintro e w2 ⟨rfl, hf2⟩
      have HF2 : Hid (Four w w.heap.size b5 b7 b8 T1 T2 (tab fun c => T1 c && T2 c) w2) := hf2
      clear HF1 hf2
      go_wp2_with (refine wp_load28 rfl _ rfl _ rfl (fun c => T1 c && T2 c) HF2.out.r7 ?_)
      refine (f14_four HF2.out s _ (A && Bv) HAB.out hs).mono ?_
      rintro e w3 ⟨rfl, hf3⟩
      have HF3 : Hid (Four w w.heap.size b5 b7 b8 T1 T2 (tab fun c => T1 c && T2 c) w3) := hf3
      clear HF2 hf3
      go_wp2_with (refine wp_load28 rfl _ rfl _ rfl (fun _ => false) HF3.out.r8 ?_)
      refine (f14_four HF3.out s _ Z HQ.out hs).mono ?_
      rintro e w4 ⟨rfl, hf4⟩
      have HF4 : Hid (Four w w.heap.size b5 b7 b8 T1 T2 (tab fun c => T1 c && T2 c) w4) := hf4
      clear HF3 hf4
      have hes := f17_any s hs
      rw [HQ.out] at hes
      have HES := hes w4
      clear hes
      have HE : Hid (Calls Try.prog 17 #[.string s] w4 fun e w' => e = .returned (.bool Z) ∧ w' = w4) := HES
      clear HES
      cases A
      · cases Z
        · cases Bv
          · go_wp2_with (go_at_call 17; refine HE.out.mono ?_; rintro e w5 ⟨rfl, hw5⟩; subst hw5)
            go_ret
            exact ⟨rfl, HF4.out.bel⟩
          · go_wp2_with (go_at_call 17; refine HE.out.mono ?_; rintro e w5 ⟨rfl, hw5⟩; subst hw5)
            go_ret
            exact ⟨rfl, HF4.out.bel⟩
        · have := (HZ.out rfl).1
          cases this
      · cases Z
        · cases Bv
          · go_wp2_with (go_at_call 17; refine HE.out.mono ?_; rintro e w5 ⟨rfl, hw5⟩; subst hw5)
            go_ret
            exact ⟨rfl, HF4.out.bel⟩
          · go_wp2_with (go_at_call 17; refine HE.out.mono ?_; rintro e w5 ⟨rfl, hw5⟩; subst hw5)
            go_ret
            exact ⟨rfl, HF4.out.bel⟩
        · have := (HZ.out rfl).2
          subst this
          go_wp2_with (go_at_call 17; refine HE.out.mono ?_; rintro e w5 ⟨rfl, hw5⟩; subst hw5)
          go_ret
          exact ⟨rfl, HF4.out.bel⟩

theorem meet_any (s : ByteArray) (T1 T2 : Nat → Bool) (hm : s.size ≤ maxLen) (w : World) :
    Calls Try.prog 6 #[.string s, .agg (tab T1), .agg (tab T2)] w fun e w' => e = .returned (.bool true) ∧ Below w.heap.size w w' := by
  by_cases hs : s.size ≤ 1048576
  · exact meet_in s T1 T2 hs w
  · exact meet_long s T1 T2 hm hs w
end Go.Proofs.Qxb6616805a
