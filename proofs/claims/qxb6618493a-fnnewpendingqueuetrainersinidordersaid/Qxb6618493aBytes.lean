/- zzBytes of the second law: it answers some bool and writes nothing. -/
import Derived.Test.Qxb6618493aStart
namespace Go.Proofs.Qxb6618493a
open Go.RowKit Go.Maps

/-- what is known of a slice of strings that came in -/
structure Strs (w : World) (a : Option Addr) (len : Nat) (S : Nat → ByteArray) : Prop where
  cell : ∀ k, k < len → ∃ b off, a = some ⟨b, off, none⟩ ∧ w.cell? ⟨b, off + k, none⟩ = some (.string (S k))
  size : ∀ k, k < len → (S k).size ≤ maxLen
  short : len ≤ maxLen

/-- (a name, so that the walk does not part on the Bool) -/
def SomeBool (e : Ending) : Prop := ∃ b, e = .returned (.bool b)

set_option maxHeartbeats 1000000 in
theorem f15_any (n : Int) (a : Option Addr) (len cap : Nat) (S : Nat → ByteArray) (w : World) (h : Strs w a len S) :
    Calls Try.prog 15 #[.int .i64 n, .slice a len cap] w fun e w' => SomeBool e ∧ w' = w := by
  have hm := h.short
  unfold maxLen at hm
  by_cases h1 : (1048576 : Int) < (len : Int)
  · go_enter Try.func15, Try.ntmps15
    go_wp2
    go_ret
    exact ⟨⟨_, rfl⟩, rfl⟩
  · go_enter Try.func15, Try.ntmps15
    go_wp2
    go_loop [5, 6] (fun t i => ∃ (k : Nat) (z : Int), k ≤ len ∧ i = .int .i64 k ∧ t = .int .i64 z) (fun _ i => len - (intOf i).toNat)
    case atStart => exact ⟨0, _, Nat.zero_le _, rfl, rfl⟩
    case round =>
      obtain ⟨k, z, hk, rfl, rfl⟩ := hrel
      by_cases hlt : k < len
      · obtain ⟨b, off, rfl, hc⟩ := h.cell k hlt
        go_wp2
        · go_ret
          exact ⟨⟨_, rfl⟩, rfl⟩
        · go_ret
          exact ⟨⟨_, rfl⟩, rfl⟩
        · go_round
          case rel => exact ⟨k + 1, _, by omega, by go_num, rfl⟩
          case measure => simp [intOf]; omega
      · go_wp2
        go_ret
        exact ⟨⟨_, rfl⟩, rfl⟩
end Go.Proofs.Qxb6618493a
