/- The law FnNewPendingQueueTrainersInIDOrder: its walk. -/
import Derived.Test.Qxb6618493aStrRow
import Derived.Deep.QuietTactic
import Derived.BigQuiet
import Derived.WalkSmall
namespace Go.Proofs.Qxb6618493a
open Go.RowKit Go.Maps

set_option maxRecDepth 100000 in
set_option maxHeartbeats 4000000 in
theorem order_any (n : Int) (a : Option Addr) (len cap : Nat) (S : Nat → ByteArray) (w : World) (h : Strs w a len S) :
    Calls Try.prog 4 #[.int .i64 n, .slice a len cap] w fun e w' => e = .returned (.bool true) ∧ Below w.heap.size w w' := by
  by_cases hlen : (1024 : Int) < (len : Int)
  · go_enter Try.func4, Try.ntmps4
    go_wp2_with (go_at_call 15; refine (f15_any _ _ _ _ S _ h).mono ?_; rintro e w' ⟨⟨b, rfl⟩, rfl⟩; cases b)
    all_goals go_ret
    all_goals exact ⟨rfl, Below.refl _ _⟩
  · have hl1 : decide ((1024 : Int) < (len : Int)) = false := by simp; omega
    go_enter Try.func4, Try.ntmps4
    go_wp2_with fail
    refine (f15_any _ _ _ _ S _ h).mono ?_
    rintro e w' ⟨⟨b, rfl⟩, rfl⟩
    cases b
    · go_wp2
      go_ret
      exact ⟨rfl, Below.refl _ _⟩
    go_wp2
    go_loop [5, 6] (fun t i => ∃ (k : Nat) (z : Int), k ≤ len ∧ i = .int .i64 k ∧ t = .int .i64 z) (fun _ i => len - (intOf i).toNat)
    case atStart => exact ⟨0, _, Nat.zero_le _, rfl, rfl⟩
    case round =>
      obtain ⟨k, z, hk, rfl, rfl⟩ := hrel
      by_cases hlt : k < len
      · obtain ⟨b, off, rfl, hc⟩ := h.cell k hlt
        go_wp2
        · go_ret
          exact ⟨rfl, Below.refl _ _⟩
        · go_round
          case rel => exact ⟨k + 1, _, by omega, by go_num, rfl⟩
          case measure => simp [intOf]; omega
      · by_cases hn0 : n < 0
        · go_wp2
          go_ret
          exact ⟨rfl, Below.refl _ _⟩
        by_cases hn1 : 65536 < n
        · go_wp2
          go_ret
          exact ⟨rfl, Below.refl _ _⟩
        obtain ⟨m, rfl⟩ := Int.eq_ofNat_of_zero_le (show 0 ≤ n by omega)
        have h2 : decide ((m : Int) < 0) = false := by simp
        have h3 : decide ((65536 : Int) < (m : Int)) = false := by simp; omega
        have hm : m ≤ 65536 := by omega
        clear hn0 hn1
        obtain rfl : len = k := by omega
        go_wp2_with (go_at_call 6; refine (f6_any m hm _).mono ?_; rintro e w' ⟨rfl, c1, c2, rfl⟩)
        have HP := pq_start w' c1 c2 m
        have HB : Below w'.heap.size w' (((((w'.alloc (.cells c1 27)).alloc (.cells c2 27)).alloc (.cells (nils m) 31)).alloc (.map #[] 0)).alloc (.cells #[.slice (some ⟨w'.heap.size + 1 + 1, 0, none⟩) m m, .int .i64 0, .map (some (w'.heap.size + 1 + 1 + 1)), .slice none 0 0] 27)) :=
          (((((Below.refl _ _).alloc (Nat.le_refl _) _).alloc (by simp) _).alloc (by simp; omega) _).alloc (by simp; omega) _).alloc (by simp; omega) _
        generalize (((((w'.alloc (.cells c1 27)).alloc (.cells c2 27)).alloc (.cells (nils m) 31)).alloc (.map #[] 0)).alloc (.cells #[.slice (some ⟨w'.heap.size + 1 + 1, 0, none⟩) m m, .int .i64 0, .map (some (w'.heap.size + 1 + 1 + 1)), .slice none 0 0] 27)) = W5 at HP HB ⊢
        generalize w'.heap.size + 1 + 1 + 1 + 1 = pb at HP HB ⊢
        generalize w'.heap.size + 1 + 1 + 1 = bm at HP HB ⊢
        generalize w'.heap.size + 1 + 1 = lb at HP HB ⊢
        have hme : ∀ (w : World) (r : Option Nat), (binOp .eql 24 (.map r) (.map none)).run Try.prog w = .ok (.bool r.isNone) w := fun w r => run_eql_map_nil w _ _ _ r Try.underlying24
        have k2 := HP.c2
        have H : Hid (PQ W5 w'.heap.size pb lb bm m []) := HP
        have HS : Hid (Strs w' a len S) := h
        have HL : Hid (decide ((1024 : Int) < (len : Int)) = false) := hl1
        clear HP h hl1 h2 h3 hlt hk
        refine (f8_any pb _ _ k2).mono ?_
        rintro e w8 ⟨rfl, rfl⟩
        clear k2
        go_wp2
        go_loopw [8, 9] (fun i _ wr => ∃ (k : Nat) (recs : List Rec), k ≤ len ∧ i = .int .i64 k ∧ PQ wr w'.heap.size pb lb bm m recs ∧ recs.map Prod.fst = wantAt S k ∧ Below w'.heap.size w' wr) (fun i _ _ => len - (intOf i).toNat)
        case atStart => exact ⟨0, [], Nat.zero_le _, rfl, H.out, rfl, HB⟩
        case round =>
          clear H HB
          obtain ⟨k, recs, hk, rfl, hP, hrec, hbel⟩ := hrel
          have HP : Hid (PQ wr w'.heap.size pb lb bm m recs) := hP
          have HR : Hid (recs.map Prod.fst = wantAt S k) := hrec
          clear hP hrec
          by_cases hlt : k < len
          · obtain ⟨b, off, rfl, hc0⟩ := HS.out.cell k hlt
            have hc := (hbel.cell (p := ⟨b, off + k, none⟩) (block_lt_of_cell hc0)).trans hc0
            have hsz := HS.out.size k hlt
            have hki : (k : Int) < (len : Int) := by omega
            go_wp2_with fail
            refine (f11_next S k HP.out HR.out hsz (by omega)).mono ?_
            rintro e w9 ⟨rb, recs', rfl, hP', hR', hcell, hB'⟩
            have hbel' := hbel.trans hB'
            have hc9 := (hbel'.cell (p := ⟨b, off + k, none⟩) (block_lt_of_cell hc0)).trans hc0
            clear HP HR hbel hc hB' hc0
            have HP' : Hid (PQ w9 w'.heap.size pb lb bm m recs') := hP'
            have HR' : Hid (recs'.map Prod.fst = wantAt S (k + 1)) := hR'
            clear hP' hR'
            go_wp2_with fail
            go_quiet ((go_at_call 12; exact Calls.quiet_of_same (f12_any rb _ _ (by simpa using hcell))))
            go_wp2
            go_roundw
            case rel => exact ⟨k + 1, recs', by omega, by go_num, pq_below HP'.out (below_drewN (Below.refl _ _) _), HR'.out, below_drewN hbel' _⟩
            case measure => simp [intOf]; omega
          · obtain rfl : len = k := by omega
            clear hk
            obtain ⟨W6, rfl⟩ : ∃ x, x = wr := ⟨wr, rfl⟩
            go_wp2
            go_loopw [10, 11] (fun v i wr => ∃ (k : Nat) (ao : Option Addr) (nw c : Nat), k ≤ len ∧ i = .int .i64 k ∧ v = .slice ao nw c ∧ StrRow wr W6.heap.size ao nw c (wantAt S k) ∧ Below W6.heap.size W6 wr) (fun _ i _ => len - (intOf i).toNat)
            case atStart => exact ⟨0, none, 0, 0, Nat.zero_le _, rfl, rfl, StrRow.nil _ _, Below.refl _ _⟩
            case round =>
              obtain ⟨k, ao, nw, c, hk, rfl, rfl, hrow, hbw⟩ := hrel
              by_cases hlt : k < len
              · obtain ⟨b, off, rfl, hc0⟩ := HS.out.cell k hlt
                have hb6 : b < W6.heap.size := Nat.lt_of_lt_of_le (block_lt_of_cell hc0) hbel.size
                have hc : wr.cell? ⟨b, off + k, none⟩ = some (.string (S k)) := (hbw.cell (p := ⟨b, off + k, none⟩) hb6).trans ((hbel.cell (p := ⟨b, off + k, none⟩) (block_lt_of_cell hc0)).trans hc0)
                have hnw := hrow.2
                have hwl := length_wantAt S k
                have HSo : Hid (SortedW (wantAt S k)) := sorted_wantAt S toList_inj k
                have HST : Hid (wantAt S (k + 1) = insW (wantAt S k) (S k)) := rfl
                obtain ⟨s, hs⟩ : ∃ s, s = S k := ⟨_, rfl⟩
                obtain ⟨l, hl⟩ : ∃ l, l = wantAt S k := ⟨_, rfl⟩
                rw [← hs] at hc HST
                rw [← hl] at hrow hnw hwl HSo HST
                have hl1024 : nw ≤ 1024 := by omega
                have Hnw : Hid (nw = l.length) := hnw
                clear hs hl hnw hc0
                go_wp2
                go_loop [13] (fun jv => ∃ j : Nat, j ≤ posW s l ∧ jv = .int .i64 j) (fun jv => nw - (intOf jv).toNat)
                case atStart => exact ⟨0, Nat.zero_le _, rfl⟩
                case round =>
                  obtain ⟨j, hj, rfl⟩ := hrel
                  have hpl := posW_le s l
                  by_cases hjp : j < posW s l
                  · have hjl : j < l.length := by omega
                    have hjn : j < nw := by have := Hnw.out; omega
                    obtain ⟨g, rfl⟩ := hrow.at (by omega)
                    have hcj := hrow.cell j hjl
                    have hless := posW_lt s l j hjl hjp
                    generalize l[j] = x at hcj hless
                    go_wp2
                    go_round
                    case rel => exact ⟨j + 1, by omega, by go_num⟩
                    case measure => simp [intOf]; omega
                  · obtain rfl : posW s l = j := by omega
                    clear hj hjp
                    have hpl' : posW s l ≤ nw := by have := Hnw.out; omega
                    cases hq : hasW l s
                    · have hkk : k + 1 ≤ len := by omega
                      have HI : Hid (wantAt S (k + 1) = insAt l s) := by
                        show _ = _
                        rw [HST.out]; unfold insW; rw [if_neg (by rw [hq]; decide)]
                      clear HST
                      have hwl6 : W6.heap.size ≤ (wr.alloc (.cells #[.string ⟨#[]⟩] 9)).heap.size := by have := hbw.size; simp; omega
                      by_cases hp : posW s l < l.length
                      case' pos =>
                        have hpn : posW s l < nw := by have := Hnw.out; omega
                        obtain ⟨g, rfl⟩ := hrow.at (by omega)
                        have hcj := hrow.cell (posW s l) hp
                        have hst := posW_stop s l hp
                        have heq : ((l[posW s l]).toList == s.toList) = false := by
                          cases h0 : ((l[posW s l]).toList == s.toList)
                          · rfl
                          · have := (hasW_iff HSo.out).2 ⟨hp, h0⟩
                            rw [hq] at this; cases this
                        generalize l[posW s l] = x at hcj hst heq
                        clear hq HSo
                        go_wp2_with (at_builtin; refine wp_app_str rfl _ _ rfl rfl (hrow.alloc _) wr.heap.size ⟨#[]⟩ rfl (by simp [go_sem]) (by omega) hwl6 ?_; intro g1 cc1 w1 hrow1 hgrow1)
                        have hb1 : Below W6.heap.size W6 w1 := (hbw.alloc hbw.size _).grown hgrow1 hwl6 (fun q hq => (hrow.1.lt q hq).1)
                        clear hgrow1 hcj hst heq hrow hbw
                      case' neg =>
                        have hpn : ¬ posW s l < nw := by have := Hnw.out; omega
                        clear hq HSo
                        go_wp2_with (at_builtin; refine wp_app_str rfl _ _ rfl rfl (hrow.alloc _) wr.heap.size ⟨#[]⟩ rfl (by simp [go_sem]) (by omega) hwl6 ?_; intro g1 cc1 w1 hrow1 hgrow1)
                        have hb1 : Below W6.heap.size W6 w1 := (hbw.alloc hbw.size _).grown hgrow1 hwl6 (fun q hq => (hrow.1.lt q hq).1)
                        clear hgrow1 hrow hbw
                      all_goals
                        clear hwl6 hc hpn hp
                        go_loopw [14] (fun kv wx => ∃ q : Nat, posW s l ≤ q ∧ q ≤ nw ∧ kv = .int .i64 q ∧ StrRow wx W6.heap.size (some ⟨g1, 0, none⟩) (nw + 1) cc1 (shiftAt l ⟨#[]⟩ q) ∧ Below W6.heap.size W6 wx) (fun kv _ => (intOf kv).toNat)
                        case atStart => exact ⟨nw, hpl', Nat.le_refl _, rfl, by rw [Hnw.out, shift_start]; have := Hnw.out; rw [this] at hrow1; exact hrow1, hb1⟩
                        case round =>
                          obtain ⟨q, hq1, hq2, rfl, hrw, hbx⟩ := hrel
                          rename World => wx
                          clear hb1 hrow1
                          by_cases hlq : posW s l < q
                          · obtain ⟨q', rfl⟩ : ∃ q', q = q' + 1 := ⟨q - 1, by omega⟩
                            have hq'l : q' < l.length := by have := Hnw.out; omega
                            obtain ⟨x, y, hx0, hx1, R⟩ := shift_round hrw hq'l
                            have hf1 := hrw.frozen (q' + 1)
                            have hbs := hbx.setCell (p := ⟨g1, q' + 1, none⟩) hrw.base (.string x)
                            clear hrw hbx
                            go_wp2
                            go_roundw
                            case rel => exact ⟨q', by omega, by omega, by go_num, R, hbs⟩
                            case measure => simp [intOf]
                          · obtain rfl : posW s l = q := by omega
                            obtain ⟨y, hx1, R⟩ := shift_last hrw
                            have hf1 := hrw.frozen (posW s l)
                            have hbs := hbx.setCell (p := ⟨g1, posW s l, none⟩) hrw.base (.string s)
                            clear hrw hbx hq1 hq2 hlq
                            go_wp2
                            go_roundw
                            case rel => exact ⟨k + 1, _, nw + 1, cc1, by omega, by go_num, rfl, by rw [HI.out]; exact R, hbs⟩
                            case measure => simp [intOf]; omega
                    · obtain ⟨hp, heq⟩ := (hasW_iff HSo.out).1 hq
                      have hpn : posW s l < nw := by have := Hnw.out; omega
                      obtain ⟨g, rfl⟩ := hrow.at (by omega)
                      have hcj := hrow.cell (posW s l) hp
                      have hst := posW_stop s l hp
                      generalize l[posW s l] = x at hcj hst heq
                      have HI : Hid (wantAt S (k + 1) = l) := by
                        show _ = _
                        rw [HST.out]; unfold insW; rw [if_pos hq]
                      clear HST hq
                      go_wp2
                      go_roundw
                      case rel => exact ⟨k + 1, _, nw, c, by omega, by go_num, rfl, by rw [HI.out]; exact hrow, hbw⟩
                      case measure => simp [intOf]; omega
              · obtain rfl : len = k := by omega
                obtain ⟨W7, rfl⟩ : ∃ x, x = wr := ⟨wr, rfl⟩
                have HPQ := pq_below HP.out hbw
                have hB7 : Below w'.heap.size w' W7 := hbel.trans (hbw.mono hbel.size)
                have hz : ∀ x ∈ wantAt S len, x.size ≤ maxLen := size_wantAt S maxLen len HS.out.size
                have hwl := length_wantAt S len
                have HRR := HR.out
                have hrn : recs.length = nw := by
                  have e1 := congrArg List.length HRR
                  rw [hrow.2]; simpa using e1
                generalize wantAt S len = l at hrow hz hwl HRR
                have hnl := hrow.2
                have hn1024 : nw ≤ 1024 := by omega
                have c0 := HPQ.c0
                have nl := HPQ.nl
                have k1 := HPQ.c1
                have k2 := HPQ.c2
                obtain ⟨a3, c3, k3, hrow3, -⟩ := HPQ.c3
                rw [hrn] at k3 hrow3
                obtain ⟨D, hown, hD⟩ := HPQ.mp
                have hln := hown.len Try.underlying24 3
                rw [hD.size, hrn] at hln
                clear hD hown hbw HP hbel HR hk hlt
                have HPQ' : Hid (PQ W7 w'.heap.size pb lb bm m recs) := HPQ
                have HRR' : Hid (recs.map Prod.fst = l) := HRR
                have hnl' : Hid (nw = l.length) := hnl
                clear HPQ HRR hnl hrn
                go_wp2_with (first
                  | (go_at_call 10; refine (f10_any pb _ _ _ _ k3).mono ?_; rintro e w10 ⟨rfl, rfl⟩)
                  | (go_at_call 8; refine (f8_any pb _ _ k2).mono ?_; rintro e w10 ⟨rfl, rfl⟩))
                have HLa : Hid (Last w' w10 W6.heap.size pb lb bm m nw recs l ao a3 c c3) := ⟨HPQ'.out, hrow, hrow3, k3, hB7⟩
                clear hrow hrow3 k3 hB7 HPQ' c0 nl k1 k2 hln hlt
                go_loopw [17, 18] (fun i _ wr => ∃ (k : Nat), k ≤ nw ∧ i = .int .i64 k ∧ Last w' wr W6.heap.size pb lb bm m nw recs l ao a3 c c3) (fun i _ _ => nw - (intOf i).toNat)
                case atStart => exact ⟨0, Nat.zero_le _, rfl, HLa.out⟩
                case round =>
                  obtain ⟨k, hk, rfl, hla⟩ := hrel
                  clear HLa
                  have HLa : Hid (Last w' wr W6.heap.size pb lb bm m nw recs l ao a3 c c3) := hla
                  by_cases hlt : k < nw
                  · have hkl : k < l.length := by have := hnl'.out; omega
                    obtain ⟨gw, rfl⟩ := hla.row.at (by omega)
                    have hw := hla.row.cell k hkl
                    obtain ⟨gs, rb, rfl, hs0, hmem, hr0, hlk⟩ := pq_at hla.pq HRR'.out hz hla.row3 hnl'.out k hkl
                    have hxs : (l[k]).size ≤ maxLen := hz _ (List.getElem_mem _)
                    generalize l[k] = x at hw hmem hr0 hlk hxs
                    have hnq := neq35
                    have hki : (k : Int) < (nw : Int) := by omega
                    clear hz hla
                    go_wp2_with fail
                    go_quiet ((first
                      | (go_at_call 12; exact Calls.quiet_of_same (f12_any rb _ _ (by simpa using hr0)))
                      | (go_at_call 11; exact Calls.quiet_of_same (f11_found (HLa.out.drewN _).pq (x, rb) hmem hxs))))
                    go_wp2
                    go_roundw
                    case rel => exact ⟨k + 1, by omega, by go_num, HLa.out.drewN _⟩
                    case measure => simp [intOf]; omega
                  · obtain rfl : nw = k := by omega
                    clear hz hk
                    have c0 := hla.pq.c0
                    have nl := hla.pq.nl
                    have k1 := hla.pq.c1
                    have k3 := hla.k3
                    clear hla
                    go_wp2_with (go_at_call 7; refine (f7_any pb _ _ _ _ rfl _ c0).mono ?_; rintro e w10 ⟨rfl, rfl⟩)
                    go_loop [20] (fun i => ∃ k : Nat, k ≤ m ∧ i = .int .i64 k) (fun i => m - (intOf i).toNat)
                    case atStart => exact ⟨0, Nat.zero_le _, rfl⟩
                    case round =>
                      obtain ⟨k, hk, rfl⟩ := hrel
                      by_cases hlm : k < m
                      · have hc := nl k hlm
                        go_wp2
                        go_round
                        case rel => exact ⟨k + 1, by omega, by go_num⟩
                        case measure => simp [intOf]; omega
                      · obtain rfl : m = k := by omega
                        clear nl hk
                        go_wp2_with (first
                          | (go_at_call 9; refine (f9_any pb _ _ k1).mono ?_; rintro e w11 ⟨rfl, rfl⟩)
                          | (go_at_call 10; refine (f10_any pb _ _ _ _ k3).mono ?_; rintro e w11 ⟨rfl, rfl⟩))
                        go_ret
                        exact ⟨rfl, HLa.out.bel⟩
end Go.Proofs.Qxb6618493a
