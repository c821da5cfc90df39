/- weighOp and the two zzBytes of seat b6616427a. -/
import Derived.Test.Qxb6616427aRows
import Derived.WalkKit
import Derived.WalkSpells
import Derived.WalkLawsBesides
import Derived.RowKit3
import Derived.Below
namespace Go.Proofs.Qxb6616427a
open Go.RowKit

/-- the write, as the call lays it into memory -/
def opObj (k : Int) (a b : ByteArray) : Obj := .cells #[.int .u8 k, .string a, .string b] 61

theorem f35_any (k : Int) (a b : ByteArray) (ha : a.size ≤ 1048576) (hb : b.size ≤ 1048576) (w : World) :
    Calls Try.prog 35 #[.agg #[.int .u8 k, .string a, .string b]] w fun e w' => e = .returned (.int .i64 (a.size + b.size + 16)) ∧ w' = w.alloc (opObj k a b) := by
  go_enter Try.func35, Try.ntmps35
  go_wp2
  go_ret
  exact ⟨rfl, rfl⟩

theorem f31_any (k : Int) (a b : ByteArray) (ha : a.size ≤ 1048576) (hb : b.size ≤ 1048576) (w : World) :
    Calls Try.prog 31 #[.agg #[.int .u8 k, .string a, .string b]] w fun e w' => e = .returned (.int .i64 (a.size + b.size + 16)) ∧ w' = (w.alloc (opObj k a b)).alloc (opObj k a b) := by
  go_enter Try.func31, Try.ntmps31
  go_wp2_with (go_at_call 35; refine (f35_any k a b ha hb _).mono ?_; rintro e w' ⟨rfl, rfl⟩)
  go_ret
  exact ⟨rfl, rfl⟩

/-- (a name, so that the walk does not part on the Bool) -/
def SomeBool (e : Ending) : Prop := ∃ b, e = .returned (.bool b)

theorem f30_any (k : Int) (a b : ByteArray) (i j : Int) (ha : a.size ≤ maxLen) (hb : b.size ≤ maxLen) (w : World) :
    Calls Try.prog 30 #[.int .u8 k, .string a, .string b, .int .i64 i, .int .i64 j] w fun e w' => SomeBool e ∧ w' = w := by
  unfold maxLen at ha hb
  go_enter Try.func30, Try.ntmps30
  go_wp2
  all_goals (go_ret; exact ⟨⟨_, rfl⟩, rfl⟩)

theorem f32_any (k k' : Int) (a b : ByteArray) (ha : a.size ≤ maxLen) (hb : b.size ≤ maxLen) (w : World) :
    Calls Try.prog 32 #[.int .u8 k, .int .u8 k', .string a, .string b] w fun e w' => SomeBool e ∧ w' = w := by
  unfold maxLen at ha hb
  go_enter Try.func32, Try.ntmps32
  go_wp2
  all_goals (go_ret; exact ⟨⟨_, rfl⟩, rfl⟩)

/-- the second law, for every input -/
theorem ignores_any (k k' : Int) (a b : ByteArray) (ha : a.size ≤ maxLen) (hb : b.size ≤ maxLen) (w : World) :
    Calls Try.prog 6 #[.int .u8 k, .int .u8 k', .string a, .string b] w fun e w' => e = .returned (.bool true) ∧ Grown w w' := by
  have ha' := ha
  have hb' := hb
  unfold maxLen at ha' hb'
  by_cases h1 : (1048576 : Int) < (a.size : Int)
  · go_enter Try.func6, Try.ntmps6
    go_wp2_with (go_at_call 32; refine (f32_any _ _ _ _ ha hb _).mono ?_; rintro e w' ⟨⟨b, rfl⟩, rfl⟩; cases b)
    all_goals (go_ret; exact ⟨rfl, Grown.refl _⟩)
  by_cases h2 : (1048576 : Int) - (a.size : Int) < (b.size : Int)
  · go_enter Try.func6, Try.ntmps6
    go_wp2_with (go_at_call 32; refine (f32_any _ _ _ _ ha hb _).mono ?_; rintro e w' ⟨⟨b, rfl⟩, rfl⟩; cases b)
    all_goals (go_ret; exact ⟨rfl, Grown.refl _⟩)
  have e1 : (((a.size : Int) + (b.size : Int) + 16) == ((b.size : Int) + (a.size : Int) + 16)) = true := by simp; omega
  have e2 : ((a.size : Int) + (b.size : Int)) < (a.size : Int) + (b.size : Int) + 16 := by omega
  have e3 : (((a.size : Int) + (b.size : Int) + 16 - ((a.size : Int) + (b.size : Int))) == 16) = true := by simp; omega
  go_enter Try.func6, Try.ntmps6
  go_wp2_with (first
    | (go_at_call 32; refine (f32_any _ _ _ _ ha hb _).mono ?_; rintro e w' ⟨⟨b, rfl⟩, rfl⟩; cases b)
    | (go_at_call 31; refine (f31_any _ _ _ (by first | omega | decide) (by first | omega | decide) _).mono ?_; rintro e w' ⟨rfl, rfl⟩))
  all_goals (go_ret; refine ⟨rfl, ?_⟩; (try unfold opObj); repeat (first | exact Grown.refl _ | apply Grown.drew | apply Grown.alloc))
end Go.Proofs.Qxb6616427a
