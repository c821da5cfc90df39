/- The law FnWeighOpSplitsAtAnyCut: its walk. -/
import Derived.Test.Qxb6616427aWeigh
import Derived.Deep.RegionWith
import Derived.Deep.Cut
namespace Go.Proofs.Qxb6616427a
open Go.RowKit

/-- the guard lets the input go -/
theorem splits_out (k : Int) (a b : ByteArray) (i j : Int) (ha : a.size ≤ maxLen) (hb : b.size ≤ maxLen) (w : World)
    (h : (1048576 : Int) < a.size ∨ (1048576 : Int) - a.size < b.size ∨ i < 0 ∨ (a.size : Int) < i ∨ j < 0 ∨ (b.size : Int) < j) :
    Calls Try.prog 5 #[.int .u8 k, .string a, .string b, .int .i64 i, .int .i64 j] w fun e w' => e = .returned (.bool true) ∧ Grown w w' := by
  have ha' := ha
  have hb' := hb
  unfold maxLen at ha' hb'
  by_cases h1 : (1048576 : Int) < a.size
  · go_enter Try.func5, Try.ntmps5
    go_wp2_with (go_at_call 30; refine (f30_any _ _ _ _ _ ha hb _).mono ?_; rintro e w' ⟨⟨b, rfl⟩, rfl⟩; cases b)
    all_goals (go_ret; exact ⟨rfl, Grown.refl _⟩)
  by_cases h2 : (1048576 : Int) - a.size < b.size
  · go_enter Try.func5, Try.ntmps5
    go_wp2_with (go_at_call 30; refine (f30_any _ _ _ _ _ ha hb _).mono ?_; rintro e w' ⟨⟨b, rfl⟩, rfl⟩; cases b)
    all_goals (go_ret; exact ⟨rfl, Grown.refl _⟩)
  by_cases h3 : i < 0
  · go_enter Try.func5, Try.ntmps5
    go_wp2_with (go_at_call 30; refine (f30_any _ _ _ _ _ ha hb _).mono ?_; rintro e w' ⟨⟨b, rfl⟩, rfl⟩; cases b)
    all_goals (go_ret; exact ⟨rfl, Grown.refl _⟩)
  by_cases h4 : (a.size : Int) < i
  · go_enter Try.func5, Try.ntmps5
    go_wp2_with (go_at_call 30; refine (f30_any _ _ _ _ _ ha hb _).mono ?_; rintro e w' ⟨⟨b, rfl⟩, rfl⟩; cases b)
    all_goals (go_ret; exact ⟨rfl, Grown.refl _⟩)
  by_cases h5 : j < 0
  · go_enter Try.func5, Try.ntmps5
    go_wp2_with (go_at_call 30; refine (f30_any _ _ _ _ _ ha hb _).mono ?_; rintro e w' ⟨⟨b, rfl⟩, rfl⟩; cases b)
    all_goals (go_ret; exact ⟨rfl, Grown.refl _⟩)
  have h6 : (b.size : Int) < j := by omega
  clear h
  go_enter Try.func5, Try.ntmps5
  go_wp2_with (go_at_call 30; refine (f30_any _ _ _ _ _ ha hb _).mono ?_; rintro e w' ⟨⟨b, rfl⟩, rfl⟩; cases b)
  all_goals (go_ret; exact ⟨rfl, Grown.refl _⟩)

theorem f31_sz (k : Int) (a b : ByteArray) (n m : Int) (ha : (a.size : Int) = n) (hb : (b.size : Int) = m) (hn : n ≤ 1048576) (hm : m ≤ 1048576) (w : World) :
    Calls Try.prog 31 #[.agg #[.int .u8 k, .string a, .string b]] w fun e w' => e = .returned (.int .i64 (n + m + 16)) ∧ w' = (w.alloc (opObj k a b)).alloc (opObj k a b) := by
  subst ha
  subst hb
  exact f31_any k a b (by omega) (by omega) w

set_option maxHeartbeats 1600000 in
theorem splits_in (k : Int) (a b : ByteArray) (i j : Nat) (ha : a.size ≤ 1048576) (hab : (b.size : Int) ≤ 1048576 - a.size) (hi : i ≤ a.size) (hj : j ≤ b.size) (w : World) :
    Calls Try.prog 5 #[.int .u8 k, .string a, .string b, .int .i64 i, .int .i64 j] w fun e w' => e = .returned (.bool true) ∧ Grown w w' := by
  have hma : a.size ≤ maxLen := by unfold maxLen; omega
  have hmb : b.size ≤ maxLen := by unfold maxLen; omega
  have e1 : (((a.size : Int) + (b.size : Int) + 16 + 16) == ((i : Int) + (j : Int) + 16 + ((a.size : Int) - (i : Int) + ((b.size : Int) - (j : Int)) + 16))) = true := by rw [beq_iff_eq]; omega
  have e2 : (((a.size : Int) + (b.size : Int) + 16 - 16) == ((a.size : Int) + (b.size : Int))) = true := by rw [beq_iff_eq]; omega
  go_enter Try.func5, Try.ntmps5
  go_wp2_with (first
    | (go_at_call 30; refine (f30_any _ _ _ _ _ hma hmb _).mono ?_; rintro e w' ⟨⟨b, rfl⟩, rfl⟩; cases b)
    | (go_at_call 31; refine (f31_any _ _ _ (by first | omega | decide) (by first | omega | decide) _).mono ?_; rintro e w' ⟨rfl, rfl⟩))
  · go_ret
    exact ⟨rfl, Grown.refl _⟩
  go_region_with (go_at_call 31; refine (f31_sz _ _ _ i j (by simp; omega) (by simp; omega) (by omega) (by omega) _).mono ?_; rintro e w' ⟨rfl, rfl⟩)
  go_wp2
  go_region_with (go_at_call 31; refine (f31_sz _ _ _ (a.size - i) (b.size - j) (by simp; omega) (by simp; omega) (by omega) (by omega) _).mono ?_; rintro e w' ⟨rfl, rfl⟩)
  go_wp2
  go_ret
  refine ⟨rfl, ?_⟩
  unfold opObj
  repeat (first | exact Grown.refl _ | apply Grown.drew | apply Grown.alloc)

theorem splits_any (k : Int) (a b : ByteArray) (i j : Int) (ha : a.size ≤ maxLen) (hb : b.size ≤ maxLen) (w : World) :
    Calls Try.prog 5 #[.int .u8 k, .string a, .string b, .int .i64 i, .int .i64 j] w fun e w' => e = .returned (.bool true) ∧ Grown w w' := by
  by_cases h : (1048576 : Int) < a.size ∨ (1048576 : Int) - a.size < b.size ∨ i < 0 ∨ (a.size : Int) < i ∨ j < 0 ∨ (b.size : Int) < j
  · exact splits_out k a b i j ha hb w h
  · obtain ⟨n, rfl⟩ := Int.eq_ofNat_of_zero_le (show 0 ≤ i by omega)
    obtain ⟨m, rfl⟩ := Int.eq_ofNat_of_zero_le (show 0 ≤ j by omega)
    exact splits_in k a b n m (by omega) (by omega) (by omega) (by omega) w
end Go.Proofs.Qxb6616427a
