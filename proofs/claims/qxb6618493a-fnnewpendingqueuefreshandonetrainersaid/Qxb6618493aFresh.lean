/- The law FnNewPendingQueueFreshAndOneTrainer: its walk. -/
import Derived.Test.Qxb6618493aStart
namespace Go.Proofs.Qxb6618493a
open Go.RowKit Go.Maps

set_option maxHeartbeats 1000000 in
theorem fresh_main (n : Nat) (id : ByteArray) (hn : n ≤ 65536) (hid : id.size ≤ 1048576) (w : World) :
    Calls Try.prog 3 #[.int .i64 n, .string id] w fun e w' => e = .returned (.bool true) ∧ Below w.heap.size w w' := by
  have hml : id.size ≤ maxLen := by unfold maxLen; omega
  have hd : decide ((id.size : Int) ≤ 1048576) = true := by simp; omega
  have h1 : decide ((1048576 : Int) < (id.size : Int)) = false := by simp; omega
  have h2 : decide ((n : Int) < 0) = false := by simp
  have h3 : decide ((65536 : Int) < (n : Int)) = false := by simp; omega
  go_enter Try.func3, Try.ntmps3
  go_wp2_with (first
    | (go_at_call 5; refine (f5_any _ _ hml _).mono ?_; rw [hd]; rintro e w' ⟨rfl, rfl⟩)
    | (go_at_call 6; refine (f6_any n hn _).mono ?_; rintro e w' ⟨rfl, c1, c2, rfl⟩))
  have HP := pq_start w' c1 c2 n
  have HB : Below w'.heap.size w' (((((w'.alloc (.cells c1 27)).alloc (.cells c2 27)).alloc (.cells (nils n) 31)).alloc (.map #[] 0)).alloc (.cells #[.slice (some ⟨w'.heap.size + 1 + 1, 0, none⟩) n n, .int .i64 0, .map (some (w'.heap.size + 1 + 1 + 1)), .slice none 0 0] 27)) :=
    (((((Below.refl _ _).alloc (Nat.le_refl _) _).alloc (by simp) _).alloc (by simp; omega) _).alloc (by simp; omega) _).alloc (by simp; omega) _
  generalize (((((w'.alloc (.cells c1 27)).alloc (.cells c2 27)).alloc (.cells (nils n) 31)).alloc (.map #[] 0)).alloc (.cells #[.slice (some ⟨w'.heap.size + 1 + 1, 0, none⟩) n n, .int .i64 0, .map (some (w'.heap.size + 1 + 1 + 1)), .slice none 0 0] 27)) = W5 at HP HB ⊢
  generalize w'.heap.size + 1 + 1 + 1 + 1 = pb at HP HB ⊢
  generalize w'.heap.size + 1 + 1 + 1 = bm at HP HB ⊢
  generalize w'.heap.size + 1 + 1 = lb at HP HB ⊢
  have c0 := HP.c0
  have nl := HP.nl
  have k1 := HP.c1
  have k2 := HP.c2
  have H : Hid (PQ W5 w'.heap.size pb lb bm n []) := HP
  clear HP
  have hme : ∀ (w : World) (r : Option Nat), (binOp .eql 24 (.map r) (.map none)).run Try.prog w = .ok (.bool r.isNone) w := fun w r => run_eql_map_nil w _ _ _ r Try.underlying24
  obtain ⟨D, hown, hD⟩ := H.out.mp
  have hlen := hown.len Try.underlying24 3
  rw [hD.size] at hlen
  simp only [List.length_nil, Int.ofNat_zero] at hlen
  clear hD hown
  obtain ⟨a3, c3, k3, -, -⟩ := H.out.c3
  go_wp2_with (first
    | (go_at_call 7; refine (f7_any pb _ _ _ _ rfl _ c0).mono ?_; rintro e w7 ⟨rfl, rfl⟩))
  go_loop [7] (fun i => ∃ k : Nat, k ≤ n ∧ i = .int .i64 k) (fun i => n - (intOf i).toNat)
  case atStart => exact ⟨0, Nat.zero_le _, rfl⟩
  case round =>
    obtain ⟨k, hk, rfl⟩ := hrel
    by_cases hlt : k < n
    · have hc := nl k hlt
      go_wp2
      go_round
      case rel => exact ⟨k + 1, by omega, by go_num⟩
      case measure => simp [intOf]; omega
    · obtain rfl : k = n := by omega
      clear nl
      go_wp2_with (first
        | (go_at_call 8; refine (f8_any pb _ _ k2).mono ?_; rintro e w8 ⟨rfl, rfl⟩)
        | (go_at_call 9; refine (f9_any pb _ _ k1).mono ?_; rintro e w8 ⟨rfl, rfl⟩)
        | (go_at_call 10; refine (f10_any pb _ _ _ _ k3).mono ?_; rintro e w8 ⟨rfl, rfl⟩))
      refine (f11_new H.out id hml (fun r hr => by simp at hr) (by simp)).mono ?_
      rintro e w9 ⟨rfl, hP, hB⟩
      have HB9 := HB.trans hB
      have hP' : PQ w9 w'.heap.size pb lb bm k [(id, w8.heap.size)] := hP
      clear hP hB HB H k1 k2 k3 c0 hlen
      generalize w8.heap.size = rb at hP' ⊢
      have c0 := hP'.c0
      have k1 := hP'.c1
      have k2 := hP'.c2
      obtain ⟨a4, c4, k3, hrow, -⟩ := hP'.c3
      obtain ⟨D, hown, hD⟩ := hP'.mp
      have hlen := hown.len Try.underlying24 3
      rw [hD.size] at hlen
      simp only [List.length_cons, List.length_nil, Nat.zero_add, Int.ofNat_one] at hlen
      obtain ⟨v, ps, hrun, hv⟩ := hown.lookup law9 Try.underlying24 (zero35 w9) (zd := .nil) (zp := []) rfl (key9 hml)
      rw [hD.here (id, rb) (by simp)] at hv
      rw [ptrElem_some hv] at hrun
      obtain ⟨r0, r1, r2, -⟩ := hP'.rc (id, rb) (by simp)
      clear hv hD hown
      have H9 : Hid (PQ w9 w'.heap.size pb lb bm k [(id, rb)]) := hP'
      clear hP'
      simp only [List.length_cons, List.length_nil, Nat.zero_add] at k3 hrow
      obtain ⟨g, e0, s0⟩ : ∃ g, a4 = some ⟨g, 0, none⟩ ∧ w9.cell? ⟨g, 0, none⟩ = some (.pointer (some ⟨rb, 0, none⟩)) := by
        rcases hrow.2 with ⟨_, h0⟩ | ⟨g, c', cur, hv, hbg, hg, hnc, hcm, hcs, htake⟩
        · cases h0
        · simp only [Value.slice.injEq] at hv
          refine ⟨g, hv.1, ?_⟩
          rw [cell_of_row w9 g 0 cur 35 (0, 0) hg]
          have e1 : (cur.toList.take (1 * 1))[0]? = some (ptrR (id, rb)) := by rw [htake]; rfl
          rw [List.getElem?_take, if_pos (by omega)] at e1
          simpa [ptrR] using e1
      subst e0
      clear hrow
      have hq := eql35
      have hnq := neq35
      go_wp2_with fail
      refine (f11_found H9.out (id, rb) (by simp) hml).mono ?_
      rintro e w10 ⟨rfl, rfl⟩
      go_wp2_with (first
        | (go_at_call 7; refine (f7_any pb _ _ _ _ rfl _ c0).mono ?_; rintro e w11 ⟨rfl, rfl⟩)
        | (go_at_call 8; refine (f8_any pb _ _ k2).mono ?_; rintro e w11 ⟨rfl, rfl⟩)
        | (go_at_call 9; refine (f9_any pb _ _ k1).mono ?_; rintro e w11 ⟨rfl, rfl⟩)
        | (go_at_call 10; refine (f10_any pb _ _ _ _ k3).mono ?_; rintro e w11 ⟨rfl, rfl⟩)
        | (go_at_call 12; refine (f12_any rb _ _ r0).mono ?_; rintro e w11 ⟨rfl, rfl⟩)
        | (go_at_call 13; refine (f13_any rb _ _ _ _ r1).mono ?_; rintro e w11 ⟨rfl, rfl⟩)
        | (go_at_call 14; refine (f14_any rb _ _ r2).mono ?_; rintro e w11 ⟨rfl, rfl⟩))
      go_ret
      exact ⟨rfl, HB9⟩

/-- the id is too long: the guard lets it go -/
theorem fresh_long (n : Int) (id : ByteArray) (hml : id.size ≤ maxLen) (hid : ¬ id.size ≤ 1048576) (w : World) :
    Calls Try.prog 3 #[.int .i64 n, .string id] w fun e w' => e = .returned (.bool true) ∧ Below w.heap.size w w' := by
  have hd : decide ((id.size : Int) ≤ 1048576) = false := by simp; omega
  go_enter Try.func3, Try.ntmps3
  go_wp2_with (go_at_call 5; refine (f5_any _ _ hml _).mono ?_; rw [hd]; rintro e w' ⟨rfl, rfl⟩)
  go_ret
  exact ⟨rfl, Below.refl _ _⟩

/-- n is out of range -/
theorem fresh_range (n : Int) (id : ByteArray) (hml : id.size ≤ maxLen) (hid : id.size ≤ 1048576) (hn : n < 0 ∨ 65536 < n) (w : World) :
    Calls Try.prog 3 #[.int .i64 n, .string id] w fun e w' => e = .returned (.bool true) ∧ Below w.heap.size w w' := by
  have hd : decide ((id.size : Int) ≤ 1048576) = true := by simp; omega
  have h1 : decide ((1048576 : Int) < (id.size : Int)) = false := by simp; omega
  rcases hn with hn | hn
  · go_enter Try.func3, Try.ntmps3
    go_wp2_with (go_at_call 5; refine (f5_any _ _ hml _).mono ?_; rw [hd]; rintro e w' ⟨rfl, rfl⟩)
    go_ret
    exact ⟨rfl, Below.refl _ _⟩
  · have hn0 : ¬ n < 0 := by omega
    go_enter Try.func3, Try.ntmps3
    go_wp2_with (go_at_call 5; refine (f5_any _ _ hml _).mono ?_; rw [hd]; rintro e w' ⟨rfl, rfl⟩)
    go_ret
    exact ⟨rfl, Below.refl _ _⟩

theorem fresh_any (n : Int) (id : ByteArray) (hml : id.size ≤ maxLen) (w : World) :
    Calls Try.prog 3 #[.int .i64 n, .string id] w fun e w' => e = .returned (.bool true) ∧ Below w.heap.size w w' := by
  by_cases hid : id.size ≤ 1048576
  · by_cases hn : n < 0 ∨ 65536 < n
    · exact fresh_range n id hml hid hn w
    · obtain ⟨k, rfl⟩ := Int.eq_ofNat_of_zero_le (show 0 ≤ n by omega)
      exact fresh_main k id (by omega) hid w
  · exact fresh_long n id hml hid w
end Go.Proofs.Qxb6618493a
