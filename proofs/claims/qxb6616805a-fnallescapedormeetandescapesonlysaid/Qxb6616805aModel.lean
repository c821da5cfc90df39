/- ZZAllEscapedOr, the model, the guards. -/
import Derived.Test.Qxb6616805aEsc
import Derived.Test.Qxb6616805aReach
import Derived.Deep.OwnRows
namespace Go.Proofs.Qxb6616805a
open Go.RowKit

theorem cell_tab (w : World) (T : Nat → Bool) (c : Nat) (h : c < 256) : (w.alloc (.cells (tab T) 28)).cell? ⟨w.heap.size, c, none⟩ = some (.bool (T c)) := by
  rw [cell_of_row _ _ _ _ _ _ (heap_alloc_new w (.cells (tab T) 28))]; exact get_tab T c h

theorem f14_any (s : ByteArray) (T : Nat → Bool) (hs : s.size ≤ 1048576) (w : World) :
    Calls Try.prog 14 #[.string s, .agg (tab T)] w fun e w' => e = .returned (.bool (esc T s.data.toList)) ∧ w' = w.alloc (.cells (tab T) 28) := by
  go_enter Try.func14, Try.ntmps14
  go_wp2_with (go_at_call 22; refine (f22_any s _ T _ hs (cell_tab w T)).mono ?_; rintro e w' ⟨rfl, rfl⟩)
  go_ret
  exact ⟨rfl, rfl⟩

theorem f13_any (s : ByteArray) (T : Nat → Bool) (hs : s.size ≤ maxLen) (w : World) :
    Calls Try.prog 13 #[.string s, .agg (tab T)] w fun e w' => e = .returned (.bool (decide ((s.size : Int) ≤ 1048576))) ∧ w' = w.alloc (.cells (tab T) 28) := by
  unfold maxLen at hs
  by_cases h : (s.size : Int) ≤ 1048576
  · go_enter Try.func13, Try.ntmps13
    go_wp2
    go_ret
    exact ⟨by simp [h], rfl⟩
  · go_enter Try.func13, Try.ntmps13
    go_wp2
    go_ret
    exact ⟨by simp [h], rfl⟩

theorem Try.info4 : (Try.prog.info? 4).map (fun i => (i.zero, i.size, i.bytes)) = some (some (.bool false), 1, 1) := by kernel_rfl

theorem reach_start (l : List UInt8) (T : Nat → Bool) : Reach l T (esc T l) 0 ((madeCells #[Value.bool false] (l.length + 1)).setIfInBounds 0 (.bool true)) (some 0) := by
  have hm : ∀ t, t ≤ l.length → (madeCells #[Value.bool false] (l.length + 1))[t]? = some (.bool false) := fun t ht => by
    have h : (madeCells #[Value.bool false] (l.length + 1)).toList[t]? = some (Value.bool false) := by
      rw [toList_madeCells_one, List.getElem?_replicate, if_pos (by omega)]
    simpa using h
  refine ⟨by simp [size_madeCells], fun t _ ht => ?_, fun q hq => ?_, fun h => by cases h⟩
  · rw [Array.getElem?_setIfInBounds]
    by_cases e : 0 = t
    · subst e; simp [size_madeCells]
    · rw [if_neg e, hm t ht]; simp [e]
  · obtain rfl : 0 = q := by simpa using hq
    exact ⟨Nat.le_refl _, Nat.zero_le _, by rw [List.drop_zero]⟩

set_option maxHeartbeats 1000000 in
theorem f15_any (s : ByteArray) (T : Nat → Bool) (hs : s.size ≤ 1048576) (w : World) :
    Calls Try.prog 15 #[.string s, .agg (tab T)] w fun e w' => e = .returned (.bool (esc T s.data.toList)) ∧ ∃ cur, w' = (w.alloc (.cells (tab T) 28)).alloc (.cells cur 4) := by
  obtain ⟨R, hR⟩ : ∃ R, R = esc T s.data.toList := ⟨_, rfl⟩
  have hl : s.data.toList.length = s.size := by simp
  have hst := reach_start s.data.toList T
  rw [← hR, hl] at hst
  rw [← hR]
  have HL : Hid (s.data.toList.length = s.size) := hl
  have HST : Hid (Reach s.data.toList T R 0 ((madeCells #[Value.bool false] (s.size + 1)).setIfInBounds 0 (.bool true)) (some 0)) := hst
  have hmk := run_make_row' (P := Try.prog) 33 4 (.bool false) 1 Try.underlying33 Try.info4 rfl .i64 .i64 (s.size + 1) (by omega) (by omega)
  have ec : ((s.size + 1 : Nat) : Int) = (s.size : Int) + 1 := by omega
  rw [ec] at hmk
  have hm0 : ∃ v, (madeCells #[Value.bool false] (s.size + 1))[0]? = some v := ⟨_, Array.getElem?_eq_getElem (by rw [size_madeCells]; omega)⟩
  obtain ⟨v0, hm0⟩ := hm0
  clear hl hst hR ec
  go_enter Try.func15, Try.ntmps15
  go_wp2
  go_loopw [6] (fun v wr => ∃ (i : Nat) (cur : Array Value) (p : Option Nat), i ≤ s.size ∧ v = .int .i64 i ∧ wr = (w.alloc (.cells (tab T) 28)).alloc (.cells cur 4) ∧ Reach s.data.toList T R i cur p) (fun v _ => s.size - (intOf v).toNat)
  case atStart => exact ⟨0, _, some 0, Nat.zero_le _, rfl, rfl, HST.out⟩
  case round =>
    clear HST hm0 hmk
    obtain ⟨i, cur, p, hi, rfl, rfl, hre⟩ := hrel
    by_cases hlt : i < s.size
    · have hcur := hre.here i (Nat.le_refl _) (by have := HL.out; omega)
      have hlen : i < s.data.toList.length := by have := HL.out; omega
      by_cases hp : p = some i
      · subst hp
        have hcur' : cur[i]? = some (.bool true) := by rw [hcur]; simp
        clear hcur
        by_cases h37 : s[i].toNat = 37
        · by_cases h2 : i + 2 < s.size
          · have hb := at_esc T s.data.toList i (by have := HL.out; omega) h37
            rw [(hre.pos i rfl).2.2] at hb
            have hb' : R = (hexB (s[i + 1].toNat : Int) && (hexB (s[i + 2].toNat : Int) && esc T (s.data.toList.drop (i + 3)))) := hb
            clear hb
            cases x1 : hexB (s[i + 1].toNat : Int)
            · have HN : Hid (Reach s.data.toList T R (i + 1) cur none) := hre.stop (by rw [hb', x1]; rfl)
              clear hb' hre
              go_wp2_with (go_at_call 24; refine (f24_any _ _).mono ?_; rintro e w' ⟨rfl, rfl⟩)
              go_roundw
              case rel => exact ⟨i + 1, cur, none, by omega, by go_num, rfl, HN.out⟩
              case measure => simp [intOf]; omega
            cases x2 : hexB (s[i + 2].toNat : Int)
            · have HN : Hid (Reach s.data.toList T R (i + 1) cur none) := hre.stop (by rw [hb', x2]; simp)
              clear hb' hre
              go_wp2_with (go_at_call 24; refine (f24_any _ _).mono ?_; rintro e w' ⟨rfl, rfl⟩)
              go_roundw
              case rel => exact ⟨i + 1, cur, none, by omega, by go_num, rfl, HN.out⟩
              case measure => simp [intOf]; omega
            · have HN : Hid (Reach s.data.toList T R (i + 1) (cur.setIfInBounds (i + 3) (.bool true)) (some (i + 3))) :=
                hre.move (i + 3) (by omega) (by have := HL.out; omega) (by rw [hb', x1, x2]; rfl)
              have hc3 := hre.here (i + 3) (by omega) (by have := HL.out; omega)
              clear hb' hre
              go_wp2_with (go_at_call 24; refine (f24_any _ _).mono ?_; rintro e w' ⟨rfl, rfl⟩)
              go_roundw
              case rel => exact ⟨i + 1, _, some (i + 3), by omega, by go_num, rfl, HN.out⟩
              case measure => simp [intOf]; omega
          · have HN : Hid (Reach s.data.toList T R (i + 1) cur none) := hre.stop (by rw [← (hre.pos i rfl).2.2]; exact at_short T s.data.toList i hlen (by have := HL.out; omega) h37)
            clear hre
            go_wp2
            go_roundw
            case rel => exact ⟨i + 1, cur, none, by omega, by go_num, rfl, HN.out⟩
            case measure => simp [intOf]; omega
        · have hb := at_byte T s.data.toList i hlen h37
          rw [(hre.pos i rfl).2.2] at hb
          have hb' : R = (T s[i].toNat && esc T (s.data.toList.drop (i + 1))) := hb
          have hb8 := byte_lt s[i]
          have htab := get_tab T s[i].toNat hb8
          clear hb
          cases x1 : T s[i].toNat
          · have HN : Hid (Reach s.data.toList T R (i + 1) cur none) := hre.stop (by rw [hb', x1]; rfl)
            rw [x1] at htab
            clear hb' hre
            go_wp2
            go_roundw
            case rel => exact ⟨i + 1, cur, none, by omega, by go_num, rfl, HN.out⟩
            case measure => simp [intOf]; omega
          · have HN : Hid (Reach s.data.toList T R (i + 1) (cur.setIfInBounds (i + 1) (.bool true)) (some (i + 1))) :=
              hre.move (i + 1) (by omega) (by have := HL.out; omega) (by rw [hb', x1]; rfl)
            have hc3 := hre.here (i + 1) (by omega) (by have := HL.out; omega)
            rw [x1] at htab
            clear hb' hre
            go_wp2
            go_roundw
            case rel => exact ⟨i + 1, _, some (i + 1), by omega, by go_num, rfl, HN.out⟩
            case measure => simp [intOf]; omega
      · have hcur' : cur[i]? = some (.bool false) := by rw [hcur]; simp [hp]
        have HN : Hid (Reach s.data.toList T R (i + 1) cur p) := hre.skip hp
        clear hcur hre
        go_wp2
        go_roundw
        case rel => exact ⟨i + 1, cur, p, by omega, by go_num, rfl, HN.out⟩
        case measure => simp [intOf]; omega
    · obtain rfl : s.size = i := by omega
      have hla := hre
      rw [← HL.out] at hla
      have hlast := hla.last
      rw [HL.out] at hlast
      clear hre hla
      go_wp2
      go_ret
      exact ⟨rfl, cur, rfl⟩
end Go.Proofs.Qxb6616805a
