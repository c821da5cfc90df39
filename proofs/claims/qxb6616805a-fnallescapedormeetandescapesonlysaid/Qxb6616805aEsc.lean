/- allEscapedOr and its kin, seat b6616805a. -/
import Derived.Test.Qxb6616805aRows
import Derived.Test.Qxb6616805aPlain
import Derived.WalkKit
import Derived.WalkSpells
import Derived.WalkLawsBesides
import Derived.RowKit3
import Derived.Below
import Derived.Laws.Rows
import Derived.LoopTactic
namespace Go.Proofs.Qxb6616805a
open Go.RowKit

/-- a table of bools, as the array's value holds it -/
def tab (T : Nat → Bool) : Array Value := (Array.range 256).map fun c => .bool (T c)
theorem size_tab (T : Nat → Bool) : (tab T).size = 256 := by simp [tab]
theorem get_tab (T : Nat → Bool) (c : Nat) (h : c < 256) : (tab T)[c]? = some (.bool (T c)) := by simp [tab, h]

theorem ret_bool {a b : Bool} (h : a = b) : Ending.returned (.bool a) = .returned (.bool b) := by rw [h]

theorem f24_any (c : Int) (w : World) : Calls Try.prog 24 #[.int .u8 c] w fun e w' => e = .returned (.bool (hexB c)) ∧ w' = w := by
  go_enter Try.func24, Try.ntmps24
  go_wp2
  all_goals (go_ret; refine ⟨ret_bool ?_, rfl⟩; rw [Bool.eq_iff_iff]; simp [hexB]; omega)
theorem f27_any (c : Int) (w : World) : Calls Try.prog 27 #[.int .u8 c] w fun e w' => e = .returned (.bool (hexB c)) ∧ w' = w := by
  go_enter Try.func27, Try.ntmps27
  go_wp2
  all_goals (go_ret; refine ⟨ret_bool ?_, rfl⟩; rw [Bool.eq_iff_iff]; simp [hexB]; omega)

theorem f23_any (c : Int) (b : Nat) (T : Nat → Bool) (w : World) (h0 : 0 ≤ c) (h1 : c ≤ 255) (hc : w.cell? ⟨b, c.toNat, none⟩ = some (.bool (T c.toNat))) :
    Calls Try.prog 23 #[.int .u8 c, .pointer (some ⟨b, 0, none⟩)] w fun e w' => e = .returned (.bool (T c.toNat)) ∧ w' = w := by
  go_enter Try.func23, Try.ntmps23
  go_wp2
  go_ret
  exact ⟨rfl, rfl⟩

theorem f23_nat (n : Nat) (b : Nat) (T : Nat → Bool) (w : World) (h1 : n < 256) (hc : w.cell? ⟨b, n, none⟩ = some (.bool (T n))) :
    Calls Try.prog 23 #[.int .u8 n, .pointer (some ⟨b, 0, none⟩)] w fun e w' => e = .returned (.bool (T n)) ∧ w' = w :=
  f23_any n b T w (by omega) (by omega) hc

theorem byte_lt (c : UInt8) : c.toNat < 256 := c.toNat_lt

theorem bytes_get (s : ByteArray) (i : Nat) (h : i < s.size) : s.data.toList[i]'(by simpa using h) = s[i] := rfl

set_option maxHeartbeats 1000000 in
theorem f22_any (s : ByteArray) (b : Nat) (T : Nat → Bool) (w : World) (hs : s.size ≤ 1048576) (hT : ∀ c, c < 256 → w.cell? ⟨b, c, none⟩ = some (.bool (T c))) :
    Calls Try.prog 22 #[.string s, .func (.func 23) #[] #[.pointer (some ⟨b, 0, none⟩)]] w fun e w' => e = .returned (.bool (esc T s.data.toList)) ∧ w' = w := by
  obtain ⟨R, hR⟩ : ∃ R, R = esc T s.data.toList := ⟨_, rfl⟩
  rw [← hR]
  have hl : s.data.toList.length = s.size := by simp
  go_enter Try.func22, Try.ntmps22
  go_wp2
  go_loop [5] (fun v => ∃ i : Nat, i ≤ s.size ∧ v = .int .i64 i ∧ esc T (s.data.toList.drop i) = R) (fun v => s.size - (intOf v).toNat)
  case atStart => exact ⟨0, Nat.zero_le _, rfl, by rw [List.drop_zero, hR]⟩
  case round =>
    obtain ⟨i, hi, rfl, he⟩ := hrel
    clear hR
    by_cases hlt : i < s.size
    · by_cases h37 : s[i].toNat = 37
      · by_cases h2 : i + 2 < s.size
        · have hb := at_esc T s.data.toList i (by omega) h37
          rw [he] at hb
          have hb' : R = (hexB (s[i + 1].toNat : Int) && (hexB (s[i + 2].toNat : Int) && esc T (s.data.toList.drop (i + 3)))) := hb
          clear hb he
          cases x1 : hexB (s[i + 1].toNat : Int)
          · have hr : R = false := by rw [hb', x1]; rfl
            subst hr
            clear hb'
            go_wp2_with (go_at_call 27; refine (f27_any _ _).mono ?_; rintro e w' ⟨rfl, rfl⟩)
            go_ret
            exact ⟨rfl, rfl⟩
          cases x2 : hexB (s[i + 2].toNat : Int)
          · have hr : R = false := by rw [hb', x2]; simp
            subst hr
            clear hb'
            go_wp2_with (go_at_call 27; refine (f27_any _ _).mono ?_; rintro e w' ⟨rfl, rfl⟩)
            go_ret
            exact ⟨rfl, rfl⟩
          · have HE : Hid (esc T (s.data.toList.drop (i + 3)) = R) := by
              show _ = _
              rw [hb', x1, x2]; rfl
            clear hb'
            go_wp2_with (go_at_call 27; refine (f27_any _ _).mono ?_; rintro e w' ⟨rfl, rfl⟩)
            go_round
            case rel => exact ⟨i + 3, by omega, by go_num, HE.out⟩
            case measure => simp [intOf]; omega
        · have hr : R = false := by rw [← he]; exact at_short T s.data.toList i (by omega) (by omega) h37
          subst hr
          clear he
          go_wp2
          go_ret
          exact ⟨rfl, rfl⟩
      · have hb := at_byte T s.data.toList i (by omega) h37
        rw [he] at hb
        have hb' : R = (T s[i].toNat && esc T (s.data.toList.drop (i + 1))) := hb
        have hcell := hT s[i].toNat (byte_lt _)
        have hb8 := byte_lt s[i]
        clear hb he hT
        cases x1 : T s[i].toNat
        · have hr : R = false := by rw [hb', x1]; rfl
          subst hr
          clear hb'
          go_wp2_with (go_at_call 23; refine (f23_nat _ _ T _ hb8 hcell).mono ?_; rw [x1]; rintro e w' ⟨rfl, rfl⟩)
          go_ret
          exact ⟨rfl, rfl⟩
        · have HE : Hid (esc T (s.data.toList.drop (i + 1)) = R) := by
            show _ = _
            rw [hb', x1]; rfl
          clear hb'
          go_wp2_with (go_at_call 23; refine (f23_nat _ _ T _ hb8 hcell).mono ?_; rw [x1]; rintro e w' ⟨rfl, rfl⟩)
          go_round
          case rel => exact ⟨i + 1, by omega, by go_num, HE.out⟩
          case measure => simp [intOf]; omega
    · obtain rfl : s.size = i := by omega
      have ht : R = true := by rw [← he, ← hl]; exact at_end T _
      subst ht
      clear he
      go_wp2
      go_ret
      exact ⟨rfl, rfl⟩
end Go.Proofs.Qxb6616805a
