/- entry.kept and the two laws over it, seat b6616825a. -/
import Derived.Test.Qxb6616825aRows
import Derived.WalkKit
import Derived.WalkSpells
import Derived.WalkLawsBesides
import Derived.RowKit3
import Derived.Below
namespace Go.Proofs.Qxb6616825a
open Go.RowKit

/-- is the entry at pos kept at low? -/
def keptB (pos low : Int) : Bool := decide (0 < pos) && decide (low ≤ pos)

theorem f15_any (p a t : Int) (w : World) :
    Calls Try.prog 15 #[.int .i64 p, .int .i64 a, .int .u64 t] w fun e w' => e = .returned (.agg #[.int .i64 p, .int .i64 a, .int .u64 t]) ∧ w' = w.alloc (.cells #[.int .i64 p, .int .i64 a, .int .u64 t] 34) := by
  go_enter Try.func15, Try.ntmps15
  go_wp2
  exact bodyPost_ret (v := .agg #[.int .i64 p, .int .i64 a, .int .u64 t]) (by simp [results, Try.results15, go_sem]) rfl ⟨rfl, rfl⟩

theorem ret_bool {a b : Bool} (h : a = b) : Ending.returned (.bool a) = .returned (.bool b) := by rw [h]

theorem f18_any (p a t low : Int) (w : World) :
    Calls Try.prog 18 #[.agg #[.int .i64 p, .int .i64 a, .int .u64 t], .int .i64 low] w fun e w' => e = .returned (.bool (keptB p low)) ∧ w' = w.alloc (.cells #[.int .i64 p, .int .i64 a, .int .u64 t] 34) := by
  by_cases h : 0 < p
  · go_enter Try.func18, Try.ntmps18
    go_wp2
    go_ret
    exact ⟨ret_bool (by simp [keptB, h]), rfl⟩
  · go_enter Try.func18, Try.ntmps18
    go_wp2
    go_ret
    exact ⟨ret_bool (by simp [keptB]; omega), rfl⟩

theorem f16_any (p a t low : Int) (w : World) :
    Calls Try.prog 16 #[.agg #[.int .i64 p, .int .i64 a, .int .u64 t], .int .i64 low] w fun e w' => e = .returned (.bool (keptB p low)) ∧ w' = (w.alloc (.cells #[.int .i64 p, .int .i64 a, .int .u64 t] 34)).alloc (.cells #[.int .i64 p, .int .i64 a, .int .u64 t] 34) := by
  go_enter Try.func16, Try.ntmps16
  go_wp2_with (go_at_call 18; refine (f18_any p a t low _).mono ?_; rintro e w' ⟨rfl, rfl⟩)
  go_ret
  exact ⟨rfl, rfl⟩

/-- an entry with no place is kept nowhere -/
theorem upto_none (p a t a' t' low : Int) (hp : p ≤ 0) (w : World) :
    Calls Try.prog 5 #[.int .i64 p, .int .i64 a, .int .u64 t, .int .i64 a', .int .u64 t', .int .i64 low] w fun e w' => e = .returned (.bool true) ∧ Grown w w' := by
  have hk : ∀ x, keptB p x = false := fun x => by simp [keptB]; omega
  go_enter Try.func5, Try.ntmps5
  go_wp2_with (first
    | (go_at_call 15; refine (f15_any _ _ _ _).mono ?_; rintro e w' ⟨rfl, rfl⟩)
    | (go_at_call 16; refine (f16_any _ _ _ _ _).mono ?_; rw [hk]; rintro e w' ⟨rfl, rfl⟩))
  go_ret
  refine ⟨rfl, ?_⟩
  repeat apply Grown.alloc
  exact Grown.refl _

theorem upto_some (p a t a' t' low : Int) (hp : 0 < p) (h1 : p ≤ 9223372036854775807) (h2 : low ≤ 9223372036854775807) (w : World) :
    Calls Try.prog 5 #[.int .i64 p, .int .i64 a, .int .u64 t, .int .i64 a', .int .u64 t', .int .i64 low] w fun e w' => e = .returned (.bool true) ∧ Grown w w' := by
  have k1 : keptB p p = true := by simp [keptB]; omega
  have k2 : keptB p (p + 1) = false := by simp [keptB]; omega
  by_cases hlo : low ≤ p
  · have k3 : keptB p low = true := by simp [keptB]; omega
    by_cases hmx : p < 9223372036854775807
    · go_enter Try.func5, Try.ntmps5
      go_wp2_with (first
        | (go_at_call 15; refine (f15_any _ _ _ _).mono ?_; rintro e w' ⟨rfl, rfl⟩)
        | (go_at_call 16; refine (f16_any _ _ _ _ _).mono ?_; (first | rw [k1] | rw [k2] | rw [k3]); rintro e w' ⟨rfl, rfl⟩))
      go_ret
      refine ⟨rfl, ?_⟩
      repeat apply Grown.alloc
      exact Grown.refl _
    · go_enter Try.func5, Try.ntmps5
      go_wp2_with (first
        | (go_at_call 15; refine (f15_any _ _ _ _).mono ?_; rintro e w' ⟨rfl, rfl⟩)
        | (go_at_call 16; refine (f16_any _ _ _ _ _).mono ?_; (first | rw [k1] | rw [k2] | rw [k3]); rintro e w' ⟨rfl, rfl⟩))
      go_ret
      refine ⟨rfl, ?_⟩
      repeat apply Grown.alloc
      exact Grown.refl _
  · have k3 : keptB p low = false := by simp [keptB]; omega
    have hmx : p < 9223372036854775807 := by omega
    go_enter Try.func5, Try.ntmps5
    go_wp2_with (first
      | (go_at_call 15; refine (f15_any _ _ _ _).mono ?_; rintro e w' ⟨rfl, rfl⟩)
      | (go_at_call 16; refine (f16_any _ _ _ _ _).mono ?_; (first | rw [k1] | rw [k2] | rw [k3]); rintro e w' ⟨rfl, rfl⟩))
    go_ret
    refine ⟨rfl, ?_⟩
    repeat apply Grown.alloc
    exact Grown.refl _

theorem upto_any (p a t a' t' low : Int) (h1 : p ≤ 9223372036854775807) (h2 : low ≤ 9223372036854775807) (w : World) :
    Calls Try.prog 5 #[.int .i64 p, .int .i64 a, .int .u64 t, .int .i64 a', .int .u64 t', .int .i64 low] w fun e w' => e = .returned (.bool true) ∧ Grown w w' := by
  by_cases hp : p ≤ 0
  · exact upto_none p a t a' t' low hp w
  · exact upto_some p a t a' t' low (by omega) h1 h2 w
end Go.Proofs.Qxb6616825a
