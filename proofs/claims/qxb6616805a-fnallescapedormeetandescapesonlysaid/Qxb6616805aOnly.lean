/- zzOnlyEscapes, and the second law's guard. -/
import Derived.Test.Qxb6616805aExact
namespace Go.Proofs.Qxb6616805a
open Go.RowKit

set_option maxHeartbeats 1000000 in
theorem f17_any (s : ByteArray) (hs : s.size ≤ 1048576) (w : World) :
    Calls Try.prog 17 #[.string s] w fun e w' => e = .returned (.bool (esc (fun _ => false) s.data.toList)) ∧ w' = w := by
  have hl : s.data.toList.length = s.size := by simp
  have hiff := only_iff s.data.toList.length s.data.toList (Nat.le_refl _)
  obtain ⟨R, hR⟩ : ∃ R, R = esc (fun _ => false) s.data.toList := ⟨_, rfl⟩
  rw [← hR] at hiff ⊢
  have HN : Hid (¬ OnlyEsc s.data.toList → R = false) := fun h => by
    cases hq : R
    · rfl
    · exact absurd (hiff.1 hq) h
  have HY : Hid (OnlyEsc s.data.toList → R = true) := hiff.2
  have HL : Hid (s.data.toList.length = s.size) := hl
  clear hiff hR hl
  by_cases h3 : s.size % 3 = 0
  · have h3i : ((s.size : Int) % 3 == 0) = true := by rw [beq_iff_eq]; omega
    have h3n : ((s.size : Int) % 3 != 0) = false := by rw [bne_eq_false_iff_eq]; omega
    go_enter Try.func17, Try.ntmps17
    go_wp2
    go_loop [3] (fun v => ∃ i : Nat, i ≤ s.size ∧ v = .int .i64 i ∧ ∀ t (h : t < s.data.toList.length), t < i → okAt s.data.toList t h) (fun v => s.size - (intOf v).toNat)
    case atStart => exact ⟨0, Nat.zero_le _, rfl, fun t _ h => by omega⟩
    case round =>
      obtain ⟨i, hi, rfl, hok⟩ := hrel
      have HOK : Hid (∀ t (h : t < s.data.toList.length), t < i → okAt s.data.toList t h) := hok
      clear hok
      by_cases hlt : i < s.size
      · have hil : i < s.data.toList.length := by have := HL.out; omega
        by_cases hm : i % 3 = 0
        · have hmi : ((i : Int) % 3 == 0) = true := by rw [beq_iff_eq]; omega
          by_cases h37 : s[i].toNat = 37
          · have HO : Hid (∀ t (h : t < s.data.toList.length), t < i + 1 → okAt s.data.toList t h) := by
              intro t h ht
              by_cases e : t = i
              · subst e; unfold okAt; rw [if_pos hm]; exact h37
              · exact HOK.out t h (by omega)
            go_wp2
            go_round
            case rel => exact ⟨i + 1, by omega, by go_num, HO.out⟩
            case measure => simp [intOf]; omega
          · have hr : R = false := HN.out fun ho => by
              have := ho.2 i hil
              unfold okAt at this
              rw [if_pos hm] at this
              exact h37 this
            subst hr
            go_wp2
            go_ret
            exact ⟨rfl, rfl⟩
        · have hmi : ((i : Int) % 3 == 0) = false := by rw [beq_eq_false_iff_ne]; omega
          cases hx : hexB (s[i].toNat : Int)
          · have hr : R = false := HN.out fun ho => by
              have := ho.2 i hil
              unfold okAt at this
              rw [if_neg hm] at this
              have h' : hexB (s[i].toNat : Int) = true := this
              rw [hx] at h'; cases h'
            subst hr
            go_wp2_with (go_at_call 24; refine (f24_any _ _).mono ?_; rw [hx]; rintro e w' ⟨rfl, rfl⟩)
            go_ret
            exact ⟨rfl, rfl⟩
          · have HO : Hid (∀ t (h : t < s.data.toList.length), t < i + 1 → okAt s.data.toList t h) := by
              intro t h ht
              by_cases e : t = i
              · subst e; unfold okAt; rw [if_neg hm]; exact hx
              · exact HOK.out t h (by omega)
            go_wp2_with (go_at_call 24; refine (f24_any _ _).mono ?_; rw [hx]; rintro e w' ⟨rfl, rfl⟩)
            go_round
            case rel => exact ⟨i + 1, by omega, by go_num, HO.out⟩
            case measure => simp [intOf]; omega
      · have hr : R = true := HY.out ⟨by have := HL.out; omega, fun t h => HOK.out t h (by have := HL.out; omega)⟩
        subst hr
        go_wp2
        go_ret
        exact ⟨rfl, rfl⟩
  · have h3n : ((s.size : Int) % 3 != 0) = true := by rw [bne_iff_ne]; omega
    have hr : R = false := HN.out fun ho => h3 (by have := ho.1; have := HL.out; omega)
    subst hr
    go_enter Try.func17, Try.ntmps17
    go_wp2
    go_ret
    exact ⟨rfl, rfl⟩
end Go.Proofs.Qxb6616805a
