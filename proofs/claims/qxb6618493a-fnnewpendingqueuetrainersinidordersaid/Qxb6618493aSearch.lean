/- slices.BinarySearchFunc at []*trainerRecord with byID, over a row of records. -/
import Derived.Test.Qxb6618493aLeaf
import Derived.Deep.LoopGhost
import Derived.LoopTactic
namespace Go.Proofs.Qxb6618493a
open Go.RowKit

theorem cmpS_lt {x y : ByteArray} (h : Op.bytesLess x.toList y.toList = true) : cmpS x y = -1 := by simp [cmpS, h]
theorem cmpS_ge {x y : ByteArray} (h : Op.bytesLess x.toList y.toList = false) : ¬ cmpS x y < 0 := by
  simp [cmpS, h]; split <;> decide

theorem f18_nil (id : ByteArray) (w : World) :
    Calls Try.prog 18 #[.slice none 0 0, .string id, .func (.func 19) #[] #[]] w fun e w' => e = .returned (.tuple #[.int .i64 0, .bool false]) ∧ w' = w := by
  go_enter Try.func18, Try.ntmps18
  go_wp2
  refine wp_loop_rounds 1 ?_
  rw [rounds_succ]
  go_wp2
  go_ret2
  exact ⟨rfl, rfl⟩

/-- (a name, so that the walk does not part on the Bool) -/
def Found (e : Ending) (k : Nat) : Prop := ∃ b, e = .returned (.tuple #[.int .i64 k, .bool b])

set_option maxHeartbeats 1000000 in
theorem f18_row (g n c k : Nat) (R : Nat → Nat) (Sx : Nat → ByteArray) (id : ByteArray) (w : World) (hbig : n < 4611686018427387904)
    (hc : ∀ j, j < n → w.cell? ⟨g, j, none⟩ = some (.pointer (some ⟨R j, 0, none⟩)))
    (hs : ∀ j, j < n → w.cell? ⟨R j, 0, none⟩ = some (.string (Sx j)))
    (hk : k ≤ n) (h1 : ∀ t, t < k → Op.bytesLess (Sx t).toList id.toList = true) (h2 : ∀ t, k ≤ t → t < n → Op.bytesLess (Sx t).toList id.toList = false) :
    Calls Try.prog 18 #[.slice (some ⟨g, 0, none⟩) n c, .string id, .func (.func 19) #[] #[]] w fun e w' =>
      Found e k ∧ w' = w := by
  go_enter Try.func18, Try.ntmps18
  go_wp2
  go_loop [9, 10] (fun s7 s8 => ∃ lo hi : Nat, s7 = .int .i64 lo ∧ s8 = .int .i64 hi ∧ lo ≤ k ∧ k ≤ hi ∧ hi ≤ n) (fun s7 s8 => (intOf s8 - intOf s7).toNat)
  case atStart => exact ⟨0, n, rfl, rfl, Nat.zero_le _, hk, Nat.le_refl _⟩
  case round =>
    obtain ⟨lo, hi, rfl, rfl, hlo, hhi, hin⟩ := hrel
    by_cases hlt : lo < hi
    · have cm := hc ((lo + hi) / 2) (by omega)
      have sm := hs ((lo + hi) / 2) (by omega)
      by_cases hm : (lo + hi) / 2 < k
      · have hl := cmpS_lt (h1 ((lo + hi) / 2) hm)
        clear h1 h2 hc hs
        go_wp2_with (go_at_call 19; refine (f19_any _ _ _ _ sm).mono ?_; rintro e w' ⟨rfl, rfl⟩)
        go_round
        case rel => exact ⟨(lo + hi) / 2 + 1, hi, by go_num, rfl, by omega, hhi, hin⟩
        case measure => simp [intOf]; omega
      · have hl := cmpS_ge (h2 ((lo + hi) / 2) (by omega) (by omega))
        clear h1 h2 hc hs
        go_wp2_with (go_at_call 19; refine (f19_any _ _ _ _ sm).mono ?_; rintro e w' ⟨rfl, rfl⟩)
        go_round
        case rel => exact ⟨lo, (lo + hi) / 2, rfl, by go_num, hlo, by omega, by omega⟩
        case measure => simp [intOf]; omega
    · have e1 : lo = k := by omega
      have e2 : hi = k := by omega
      subst e1
      subst e2
      by_cases hn : hi < n
      · have cm := hc hi hn
        have sm := hs hi hn
        clear h1 h2 hc hs
        go_wp2_with (go_at_call 19; refine (f19_any _ _ _ _ sm).mono ?_; rintro e w' ⟨rfl, rfl⟩)
        all_goals go_ret2
        all_goals exact ⟨⟨_, rfl⟩, rfl⟩
      · clear h1 h2 hc hs
        go_wp2
        go_ret2
        exact ⟨⟨_, rfl⟩, rfl⟩
end Go.Proofs.Qxb6618493a
