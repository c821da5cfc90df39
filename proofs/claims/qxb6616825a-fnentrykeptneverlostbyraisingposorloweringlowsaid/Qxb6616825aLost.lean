/- The law FnEntryKeptNeverLostByRaisingPosOrLoweringLow: its walk, one text a way of the two exchanges. -/
import Derived.Test.Qxb6616825aKept
namespace Go.Proofs.Qxb6616825a
open Go.RowKit

theorem kept_no {p x : Int} (h : p ≤ 0 ∨ p < x) : keptB p x = false := by simp [keptB]; omega
theorem kept_yes {p x : Int} (h : 0 < p) (h' : x ≤ p) : keptB p x = true := by simp [keptB]; omega

set_option maxHeartbeats 1000000 in
theorem lost_nn (a0 a1 a2 a3 a4 a5 : Int) (hs : ¬ a1 < a0) (ht : ¬ a3 < a2) (w : World) :
    Calls Try.prog 6 #[.int .i64 a0, .int .i64 a1, .int .i64 a2, .int .i64 a3, .int .i64 a4, .int .u64 a5] w fun e w' => e = .returned (.bool true) ∧ Grown w w' := by
  by_cases hp : a0 ≤ 0
  · have k1 : ∀ x, keptB a0 x = false := fun x => kept_no (.inl hp)
    have hp' : ¬ 0 < a0 := by omega
    go_enter Try.func6, Try.ntmps6
    go_wp2_with (first
      | (go_at_call 15; refine (f15_any _ _ _ _).mono ?_; rintro e w' ⟨rfl, rfl⟩)
      | (go_at_call 16; refine (f16_any _ _ _ _ _).mono ?_; rw [k1]; rintro e w' ⟨rfl, rfl⟩))
    go_ret
    refine ⟨rfl, ?_⟩
    repeat apply Grown.alloc
    exact Grown.refl _
  have hp' : 0 < a0 := by omega
  have k5 : keptB a0 a0 = true := kept_yes hp' (by omega)
  have k6 : keptB a1 a0 = true := kept_yes (by omega) (by omega)
  by_cases he : a0 < a1
  · have k7 : keptB a0 a1 = false := kept_no (.inr he)
    by_cases h2 : a3 ≤ a0
    · have k1 : keptB a0 a3 = true := kept_yes hp' h2
      have k2 : keptB a0 a2 = true := kept_yes hp' (by omega)
      have k3 : keptB a1 a3 = true := kept_yes (by omega) (by omega)
      have k4 : keptB a1 a2 = true := kept_yes (by omega) (by omega)
      go_enter Try.func6, Try.ntmps6
      go_wp2_with (first
        | (go_at_call 15; refine (f15_any _ _ _ _).mono ?_; rintro e w' ⟨rfl, rfl⟩)
        | (go_at_call 16; refine (f16_any _ _ _ _ _).mono ?_; (first | rw [k1] | rw [k2] | rw [k3] | rw [k4] | rw [k5] | rw [k6] | rw [k7]); rintro e w' ⟨rfl, rfl⟩))
      go_ret
      refine ⟨rfl, ?_⟩
      repeat apply Grown.alloc
      exact Grown.refl _
    by_cases h1 : a2 ≤ a0
    · have k1 : keptB a0 a3 = false := kept_no (by omega)
      have k2 : keptB a0 a2 = true := kept_yes hp' h1
      have k4 : keptB a1 a2 = true := kept_yes (by omega) (by omega)
      go_enter Try.func6, Try.ntmps6
      go_wp2_with (first
        | (go_at_call 15; refine (f15_any _ _ _ _).mono ?_; rintro e w' ⟨rfl, rfl⟩)
        | (go_at_call 16; refine (f16_any _ _ _ _ _).mono ?_; (first | rw [k1] | rw [k2] | rw [k4] | rw [k5] | rw [k6] | rw [k7]); rintro e w' ⟨rfl, rfl⟩))
      go_ret
      refine ⟨rfl, ?_⟩
      repeat apply Grown.alloc
      exact Grown.refl _
    · have k1 : keptB a0 a3 = false := kept_no (by omega)
      have k2 : keptB a0 a2 = false := kept_no (by omega)
      go_enter Try.func6, Try.ntmps6
      go_wp2_with (first
        | (go_at_call 15; refine (f15_any _ _ _ _).mono ?_; rintro e w' ⟨rfl, rfl⟩)
        | (go_at_call 16; refine (f16_any _ _ _ _ _).mono ?_; (first | rw [k1] | rw [k2] | rw [k5] | rw [k6] | rw [k7]); rintro e w' ⟨rfl, rfl⟩))
      go_ret
      refine ⟨rfl, ?_⟩
      repeat apply Grown.alloc
      exact Grown.refl _
  · by_cases h2 : a3 ≤ a0
    · have k1 : keptB a0 a3 = true := kept_yes hp' h2
      have k2 : keptB a0 a2 = true := kept_yes hp' (by omega)
      have k3 : keptB a1 a3 = true := kept_yes (by omega) (by omega)
      have k4 : keptB a1 a2 = true := kept_yes (by omega) (by omega)
      go_enter Try.func6, Try.ntmps6
      go_wp2_with (first
        | (go_at_call 15; refine (f15_any _ _ _ _).mono ?_; rintro e w' ⟨rfl, rfl⟩)
        | (go_at_call 16; refine (f16_any _ _ _ _ _).mono ?_; (first | rw [k1] | rw [k2] | rw [k3] | rw [k4] | rw [k5] | rw [k6]); rintro e w' ⟨rfl, rfl⟩))
      go_ret
      refine ⟨rfl, ?_⟩
      repeat apply Grown.alloc
      exact Grown.refl _
    by_cases h1 : a2 ≤ a0
    · have k1 : keptB a0 a3 = false := kept_no (by omega)
      have k2 : keptB a0 a2 = true := kept_yes hp' h1
      have k4 : keptB a1 a2 = true := kept_yes (by omega) (by omega)
      go_enter Try.func6, Try.ntmps6
      go_wp2_with (first
        | (go_at_call 15; refine (f15_any _ _ _ _).mono ?_; rintro e w' ⟨rfl, rfl⟩)
        | (go_at_call 16; refine (f16_any _ _ _ _ _).mono ?_; (first | rw [k1] | rw [k2] | rw [k4] | rw [k5] | rw [k6]); rintro e w' ⟨rfl, rfl⟩))
      go_ret
      refine ⟨rfl, ?_⟩
      repeat apply Grown.alloc
      exact Grown.refl _
    · have k1 : keptB a0 a3 = false := kept_no (by omega)
      have k2 : keptB a0 a2 = false := kept_no (by omega)
      go_enter Try.func6, Try.ntmps6
      go_wp2_with (first
        | (go_at_call 15; refine (f15_any _ _ _ _).mono ?_; rintro e w' ⟨rfl, rfl⟩)
        | (go_at_call 16; refine (f16_any _ _ _ _ _).mono ?_; (first | rw [k1] | rw [k2] | rw [k5] | rw [k6]); rintro e w' ⟨rfl, rfl⟩))
      go_ret
      refine ⟨rfl, ?_⟩
      repeat apply Grown.alloc
      exact Grown.refl _

set_option maxHeartbeats 1000000 in
theorem lost_ny (a0 a1 a2 a3 a4 a5 : Int) (hs : ¬ a1 < a0) (ht : a3 < a2) (w : World) :
    Calls Try.prog 6 #[.int .i64 a0, .int .i64 a1, .int .i64 a2, .int .i64 a3, .int .i64 a4, .int .u64 a5] w fun e w' => e = .returned (.bool true) ∧ Grown w w' := by
  by_cases hp : a0 ≤ 0
  · have k1 : ∀ x, keptB a0 x = false := fun x => kept_no (.inl hp)
    have hp' : ¬ 0 < a0 := by omega
    go_enter Try.func6, Try.ntmps6
    go_wp2_with (first
      | (go_at_call 15; refine (f15_any _ _ _ _).mono ?_; rintro e w' ⟨rfl, rfl⟩)
      | (go_at_call 16; refine (f16_any _ _ _ _ _).mono ?_; rw [k1]; rintro e w' ⟨rfl, rfl⟩))
    go_ret
    refine ⟨rfl, ?_⟩
    repeat apply Grown.alloc
    exact Grown.refl _
  have hp' : 0 < a0 := by omega
  have k5 : keptB a0 a0 = true := kept_yes hp' (by omega)
  have k6 : keptB a1 a0 = true := kept_yes (by omega) (by omega)
  by_cases he : a0 < a1
  · have k7 : keptB a0 a1 = false := kept_no (.inr he)
    by_cases h2 : a2 ≤ a0
    · have k1 : keptB a0 a2 = true := kept_yes hp' h2
      have k2 : keptB a0 a3 = true := kept_yes hp' (by omega)
      have k3 : keptB a1 a2 = true := kept_yes (by omega) (by omega)
      have k4 : keptB a1 a3 = true := kept_yes (by omega) (by omega)
      go_enter Try.func6, Try.ntmps6
      go_wp2_with (first
        | (go_at_call 15; refine (f15_any _ _ _ _).mono ?_; rintro e w' ⟨rfl, rfl⟩)
        | (go_at_call 16; refine (f16_any _ _ _ _ _).mono ?_; (first | rw [k1] | rw [k2] | rw [k3] | rw [k4] | rw [k5] | rw [k6] | rw [k7]); rintro e w' ⟨rfl, rfl⟩))
      go_ret
      refine ⟨rfl, ?_⟩
      repeat apply Grown.alloc
      exact Grown.refl _
    by_cases h1 : a3 ≤ a0
    · have k1 : keptB a0 a2 = false := kept_no (by omega)
      have k2 : keptB a0 a3 = true := kept_yes hp' h1
      have k4 : keptB a1 a3 = true := kept_yes (by omega) (by omega)
      go_enter Try.func6, Try.ntmps6
      go_wp2_with (first
        | (go_at_call 15; refine (f15_any _ _ _ _).mono ?_; rintro e w' ⟨rfl, rfl⟩)
        | (go_at_call 16; refine (f16_any _ _ _ _ _).mono ?_; (first | rw [k1] | rw [k2] | rw [k4] | rw [k5] | rw [k6] | rw [k7]); rintro e w' ⟨rfl, rfl⟩))
      go_ret
      refine ⟨rfl, ?_⟩
      repeat apply Grown.alloc
      exact Grown.refl _
    · have k1 : keptB a0 a2 = false := kept_no (by omega)
      have k2 : keptB a0 a3 = false := kept_no (by omega)
      go_enter Try.func6, Try.ntmps6
      go_wp2_with (first
        | (go_at_call 15; refine (f15_any _ _ _ _).mono ?_; rintro e w' ⟨rfl, rfl⟩)
        | (go_at_call 16; refine (f16_any _ _ _ _ _).mono ?_; (first | rw [k1] | rw [k2] | rw [k5] | rw [k6] | rw [k7]); rintro e w' ⟨rfl, rfl⟩))
      go_ret
      refine ⟨rfl, ?_⟩
      repeat apply Grown.alloc
      exact Grown.refl _
  · by_cases h2 : a2 ≤ a0
    · have k1 : keptB a0 a2 = true := kept_yes hp' h2
      have k2 : keptB a0 a3 = true := kept_yes hp' (by omega)
      have k3 : keptB a1 a2 = true := kept_yes (by omega) (by omega)
      have k4 : keptB a1 a3 = true := kept_yes (by omega) (by omega)
      go_enter Try.func6, Try.ntmps6
      go_wp2_with (first
        | (go_at_call 15; refine (f15_any _ _ _ _).mono ?_; rintro e w' ⟨rfl, rfl⟩)
        | (go_at_call 16; refine (f16_any _ _ _ _ _).mono ?_; (first | rw [k1] | rw [k2] | rw [k3] | rw [k4] | rw [k5] | rw [k6]); rintro e w' ⟨rfl, rfl⟩))
      go_ret
      refine ⟨rfl, ?_⟩
      repeat apply Grown.alloc
      exact Grown.refl _
    by_cases h1 : a3 ≤ a0
    · have k1 : keptB a0 a2 = false := kept_no (by omega)
      have k2 : keptB a0 a3 = true := kept_yes hp' h1
      have k4 : keptB a1 a3 = true := kept_yes (by omega) (by omega)
      go_enter Try.func6, Try.ntmps6
      go_wp2_with (first
        | (go_at_call 15; refine (f15_any _ _ _ _).mono ?_; rintro e w' ⟨rfl, rfl⟩)
        | (go_at_call 16; refine (f16_any _ _ _ _ _).mono ?_; (first | rw [k1] | rw [k2] | rw [k4] | rw [k5] | rw [k6]); rintro e w' ⟨rfl, rfl⟩))
      go_ret
      refine ⟨rfl, ?_⟩
      repeat apply Grown.alloc
      exact Grown.refl _
    · have k1 : keptB a0 a2 = false := kept_no (by omega)
      have k2 : keptB a0 a3 = false := kept_no (by omega)
      go_enter Try.func6, Try.ntmps6
      go_wp2_with (first
        | (go_at_call 15; refine (f15_any _ _ _ _).mono ?_; rintro e w' ⟨rfl, rfl⟩)
        | (go_at_call 16; refine (f16_any _ _ _ _ _).mono ?_; (first | rw [k1] | rw [k2] | rw [k5] | rw [k6]); rintro e w' ⟨rfl, rfl⟩))
      go_ret
      refine ⟨rfl, ?_⟩
      repeat apply Grown.alloc
      exact Grown.refl _

set_option maxHeartbeats 1000000 in
theorem lost_yn (a0 a1 a2 a3 a4 a5 : Int) (hs : a1 < a0) (ht : ¬ a3 < a2) (w : World) :
    Calls Try.prog 6 #[.int .i64 a0, .int .i64 a1, .int .i64 a2, .int .i64 a3, .int .i64 a4, .int .u64 a5] w fun e w' => e = .returned (.bool true) ∧ Grown w w' := by
  by_cases hp : a1 ≤ 0
  · have k1 : ∀ x, keptB a1 x = false := fun x => kept_no (.inl hp)
    have hp' : ¬ 0 < a1 := by omega
    go_enter Try.func6, Try.ntmps6
    go_wp2_with (first
      | (go_at_call 15; refine (f15_any _ _ _ _).mono ?_; rintro e w' ⟨rfl, rfl⟩)
      | (go_at_call 16; refine (f16_any _ _ _ _ _).mono ?_; rw [k1]; rintro e w' ⟨rfl, rfl⟩))
    go_ret
    refine ⟨rfl, ?_⟩
    repeat apply Grown.alloc
    exact Grown.refl _
  have hp' : 0 < a1 := by omega
  have k5 : keptB a1 a1 = true := kept_yes hp' (by omega)
  have k6 : keptB a0 a1 = true := kept_yes (by omega) (by omega)
  by_cases he : a1 < a0
  · have k7 : keptB a1 a0 = false := kept_no (.inr he)
    by_cases h2 : a3 ≤ a1
    · have k1 : keptB a1 a3 = true := kept_yes hp' h2
      have k2 : keptB a1 a2 = true := kept_yes hp' (by omega)
      have k3 : keptB a0 a3 = true := kept_yes (by omega) (by omega)
      have k4 : keptB a0 a2 = true := kept_yes (by omega) (by omega)
      go_enter Try.func6, Try.ntmps6
      go_wp2_with (first
        | (go_at_call 15; refine (f15_any _ _ _ _).mono ?_; rintro e w' ⟨rfl, rfl⟩)
        | (go_at_call 16; refine (f16_any _ _ _ _ _).mono ?_; (first | rw [k1] | rw [k2] | rw [k3] | rw [k4] | rw [k5] | rw [k6] | rw [k7]); rintro e w' ⟨rfl, rfl⟩))
      go_ret
      refine ⟨rfl, ?_⟩
      repeat apply Grown.alloc
      exact Grown.refl _
    by_cases h1 : a2 ≤ a1
    · have k1 : keptB a1 a3 = false := kept_no (by omega)
      have k2 : keptB a1 a2 = true := kept_yes hp' h1
      have k4 : keptB a0 a2 = true := kept_yes (by omega) (by omega)
      go_enter Try.func6, Try.ntmps6
      go_wp2_with (first
        | (go_at_call 15; refine (f15_any _ _ _ _).mono ?_; rintro e w' ⟨rfl, rfl⟩)
        | (go_at_call 16; refine (f16_any _ _ _ _ _).mono ?_; (first | rw [k1] | rw [k2] | rw [k4] | rw [k5] | rw [k6] | rw [k7]); rintro e w' ⟨rfl, rfl⟩))
      go_ret
      refine ⟨rfl, ?_⟩
      repeat apply Grown.alloc
      exact Grown.refl _
    · have k1 : keptB a1 a3 = false := kept_no (by omega)
      have k2 : keptB a1 a2 = false := kept_no (by omega)
      go_enter Try.func6, Try.ntmps6
      go_wp2_with (first
        | (go_at_call 15; refine (f15_any _ _ _ _).mono ?_; rintro e w' ⟨rfl, rfl⟩)
        | (go_at_call 16; refine (f16_any _ _ _ _ _).mono ?_; (first | rw [k1] | rw [k2] | rw [k5] | rw [k6] | rw [k7]); rintro e w' ⟨rfl, rfl⟩))
      go_ret
      refine ⟨rfl, ?_⟩
      repeat apply Grown.alloc
      exact Grown.refl _
  · exact absurd hs he

set_option maxHeartbeats 1000000 in
theorem lost_yy (a0 a1 a2 a3 a4 a5 : Int) (hs : a1 < a0) (ht : a3 < a2) (w : World) :
    Calls Try.prog 6 #[.int .i64 a0, .int .i64 a1, .int .i64 a2, .int .i64 a3, .int .i64 a4, .int .u64 a5] w fun e w' => e = .returned (.bool true) ∧ Grown w w' := by
  by_cases hp : a1 ≤ 0
  · have k1 : ∀ x, keptB a1 x = false := fun x => kept_no (.inl hp)
    have hp' : ¬ 0 < a1 := by omega
    go_enter Try.func6, Try.ntmps6
    go_wp2_with (first
      | (go_at_call 15; refine (f15_any _ _ _ _).mono ?_; rintro e w' ⟨rfl, rfl⟩)
      | (go_at_call 16; refine (f16_any _ _ _ _ _).mono ?_; rw [k1]; rintro e w' ⟨rfl, rfl⟩))
    go_ret
    refine ⟨rfl, ?_⟩
    repeat apply Grown.alloc
    exact Grown.refl _
  have hp' : 0 < a1 := by omega
  have k5 : keptB a1 a1 = true := kept_yes hp' (by omega)
  have k6 : keptB a0 a1 = true := kept_yes (by omega) (by omega)
  by_cases he : a1 < a0
  · have k7 : keptB a1 a0 = false := kept_no (.inr he)
    by_cases h2 : a2 ≤ a1
    · have k1 : keptB a1 a2 = true := kept_yes hp' h2
      have k2 : keptB a1 a3 = true := kept_yes hp' (by omega)
      have k3 : keptB a0 a2 = true := kept_yes (by omega) (by omega)
      have k4 : keptB a0 a3 = true := kept_yes (by omega) (by omega)
      go_enter Try.func6, Try.ntmps6
      go_wp2_with (first
        | (go_at_call 15; refine (f15_any _ _ _ _).mono ?_; rintro e w' ⟨rfl, rfl⟩)
        | (go_at_call 16; refine (f16_any _ _ _ _ _).mono ?_; (first | rw [k1] | rw [k2] | rw [k3] | rw [k4] | rw [k5] | rw [k6] | rw [k7]); rintro e w' ⟨rfl, rfl⟩))
      go_ret
      refine ⟨rfl, ?_⟩
      repeat apply Grown.alloc
      exact Grown.refl _
    by_cases h1 : a3 ≤ a1
    · have k1 : keptB a1 a2 = false := kept_no (by omega)
      have k2 : keptB a1 a3 = true := kept_yes hp' h1
      have k4 : keptB a0 a3 = true := kept_yes (by omega) (by omega)
      go_enter Try.func6, Try.ntmps6
      go_wp2_with (first
        | (go_at_call 15; refine (f15_any _ _ _ _).mono ?_; rintro e w' ⟨rfl, rfl⟩)
        | (go_at_call 16; refine (f16_any _ _ _ _ _).mono ?_; (first | rw [k1] | rw [k2] | rw [k4] | rw [k5] | rw [k6] | rw [k7]); rintro e w' ⟨rfl, rfl⟩))
      go_ret
      refine ⟨rfl, ?_⟩
      repeat apply Grown.alloc
      exact Grown.refl _
    · have k1 : keptB a1 a2 = false := kept_no (by omega)
      have k2 : keptB a1 a3 = false := kept_no (by omega)
      go_enter Try.func6, Try.ntmps6
      go_wp2_with (first
        | (go_at_call 15; refine (f15_any _ _ _ _).mono ?_; rintro e w' ⟨rfl, rfl⟩)
        | (go_at_call 16; refine (f16_any _ _ _ _ _).mono ?_; (first | rw [k1] | rw [k2] | rw [k5] | rw [k6] | rw [k7]); rintro e w' ⟨rfl, rfl⟩))
      go_ret
      refine ⟨rfl, ?_⟩
      repeat apply Grown.alloc
      exact Grown.refl _
  · exact absurd hs he

theorem lost_any (a0 a1 a2 a3 a4 a5 : Int) (w : World) :
    Calls Try.prog 6 #[.int .i64 a0, .int .i64 a1, .int .i64 a2, .int .i64 a3, .int .i64 a4, .int .u64 a5] w fun e w' => e = .returned (.bool true) ∧ Grown w w' := by
  by_cases hs : a1 < a0
  · by_cases ht : a3 < a2
    · exact lost_yy a0 a1 a2 a3 a4 a5 hs ht w
    · exact lost_yn a0 a1 a2 a3 a4 a5 hs ht w
  · by_cases ht : a3 < a2
    · exact lost_ny a0 a1 a2 a3 a4 a5 hs ht w
    · exact lost_nn a0 a1 a2 a3 a4 a5 hs ht w
end Go.Proofs.Qxb6616825a
