/- Plain: rows of accepted bytes and escapes. No Go in sight. -/
namespace Go.Proofs.Qxb6616805a

def hexB (c : Int) : Bool := (decide (48 ≤ c) && decide (c ≤ 57)) || (decide (97 ≤ c) && decide (c ≤ 102)) || (decide (65 ≤ c) && decide (c ≤ 70))
def hexU (c : UInt8) : Bool := hexB (c.toNat : Int)

/-- does the row of bytes split into accepted bytes other than 37 and escapes? -/
def esc (T : Nat → Bool) : List UInt8 → Bool
  | [] => true
  | c :: rest => if c.toNat = 37 then (match rest with
      | h1 :: h2 :: r => hexU h1 && (hexU h2 && esc T r)
      | _ => false) else T c.toNat && esc T rest

theorem esc_nil (T : Nat → Bool) : esc T [] = true := by unfold esc; rfl
theorem esc_byte (T : Nat → Bool) (c : UInt8) (l : List UInt8) (h : ¬ c.toNat = 37) : esc T (c :: l) = (T c.toNat && esc T l) := by
  match l with
  | [] => simp [esc, h]
  | [x] => rw [esc, if_neg h]; simp
  | x :: y :: r => rw [esc, if_neg h]
theorem esc_esc (T : Nat → Bool) (c h1 h2 : UInt8) (l : List UInt8) (h : c.toNat = 37) : esc T (c :: h1 :: h2 :: l) = (hexU h1 && (hexU h2 && esc T l)) := by
  rw [esc, if_pos h]
theorem esc_short (T : Nat → Bool) (c : UInt8) (l : List UInt8) (h : c.toNat = 37) (hl : l.length < 2) : esc T (c :: l) = false := by
  match l, hl with
  | [], _ => rw [esc, if_pos h]; simp
  | [_], _ => rw [esc, if_pos h]; simp

/-! by places -/
theorem drop_at (l : List UInt8) (i : Nat) (h : i < l.length) : l.drop i = l[i] :: l.drop (i + 1) := List.drop_eq_getElem_cons h

theorem at_byte (T : Nat → Bool) (l : List UInt8) (i : Nat) (h : i < l.length) (hc : ¬ l[i].toNat = 37) : esc T (l.drop i) = (T l[i].toNat && esc T (l.drop (i + 1))) := by
  rw [drop_at l i h, esc_byte T _ _ hc]
theorem at_esc (T : Nat → Bool) (l : List UInt8) (i : Nat) (h : i + 2 < l.length) (hc : l[i].toNat = 37) : esc T (l.drop i) = (hexU l[i + 1] && (hexU l[i + 2] && esc T (l.drop (i + 3)))) := by
  rw [drop_at l i (by omega), drop_at l (i + 1) (by omega), drop_at l (i + 1 + 1) (by omega), esc_esc T _ _ _ _ hc]
theorem at_short (T : Nat → Bool) (l : List UInt8) (i : Nat) (h : i < l.length) (h2 : ¬ i + 2 < l.length) (hc : l[i].toNat = 37) : esc T (l.drop i) = false := by
  rw [drop_at l i h, esc_short T _ _ hc (by simp; omega)]
theorem at_end (T : Nat → Bool) (l : List UInt8) : esc T (l.drop l.length) = true := by rw [List.drop_length, esc_nil]

/-! the meet -/
theorem esc_meet (T1 T2 : Nat → Bool) : ∀ (n : Nat) (l : List UInt8), l.length ≤ n → esc (fun c => T1 c && T2 c) l = (esc T1 l && esc T2 l)
  | _, [], _ => by simp [esc_nil]
  | 0, c :: l, h => by simp at h
  | n + 1, c :: l, h => by
    by_cases hc : c.toNat = 37
    · match l, h with
      | [], _ => simp [esc_short _ c [] hc]
      | [x], _ => simp [esc_short _ c [x] hc]
      | x :: y :: r, h =>
        rw [esc_esc _ _ _ _ _ hc, esc_esc _ _ _ _ _ hc, esc_esc _ _ _ _ _ hc, esc_meet T1 T2 n r (by simp at h; omega)]
        cases hexU x <;> cases hexU y <;> simp
    · rw [esc_byte _ _ _ hc, esc_byte _ _ _ hc, esc_byte _ _ _ hc, esc_meet T1 T2 n l (by simp at h; omega)]
      cases T1 c.toNat <;> cases T2 c.toNat <;> simp

theorem esc_none (T : Nat → Bool) : ∀ (n : Nat) (l : List UInt8), l.length ≤ n → esc (fun _ => false) l = true → esc T l = true
  | _, [], _, _ => esc_nil T
  | 0, c :: l, h, _ => by simp at h
  | n + 1, c :: l, h, he => by
    by_cases hc : c.toNat = 37
    · match l, h, he with
      | [], _, he => rw [esc_short _ c [] hc (by simp)] at he; cases he
      | [x], _, he => rw [esc_short _ c [x] hc (by simp)] at he; cases he
      | x :: y :: r, h, he =>
        rw [esc_esc _ _ _ _ _ hc] at he ⊢
        simp only [Bool.and_eq_true] at he ⊢
        exact ⟨he.1, he.2.1, esc_none T n r (by simp at h; omega) he.2.2⟩
    · rw [esc_byte _ _ _ hc] at he; simp at he

/-! only escapes -/
def okAt (l : List UInt8) (t : Nat) (h : t < l.length) : Prop := if t % 3 = 0 then l[t].toNat = 37 else hexU l[t] = true
def OnlyEsc (l : List UInt8) : Prop := l.length % 3 = 0 ∧ ∀ t (h : t < l.length), okAt l t h

theorem only_iff : ∀ (n : Nat) (l : List UInt8), l.length ≤ n → (esc (fun _ => false) l = true ↔ OnlyEsc l)
  | _, [], _ => by simp [esc_nil, OnlyEsc]
  | 0, c :: l, h => by simp at h
  | n + 1, c :: l, h => by
    by_cases hc : c.toNat = 37
    · match l, h with
      | [], _ => simp [esc_short _ c [] hc, OnlyEsc]
      | [x], _ => simp [esc_short _ c [x] hc, OnlyEsc]
      | x :: y :: r, h =>
        rw [esc_esc _ _ _ _ _ hc]
        simp only [Bool.and_eq_true]
        rw [only_iff n r (by simp at h; omega)]
        constructor
        · rintro ⟨hx, hy, hl, hr⟩
          refine ⟨by simp; omega, ?_⟩
          intro t ht
          match t, ht with
          | 0, _ => simp [okAt, hc]
          | 1, _ => simp [okAt, hx]
          | 2, _ => simp [okAt, hy]
          | t + 3, ht =>
            have := hr t (by simp at ht; omega)
            simpa [okAt] using this
        · rintro ⟨hl, hr⟩
          have h1 := hr 1 (by simp)
          have h2 := hr 2 (by simp)
          refine ⟨by simpa [okAt] using h1, by simpa [okAt] using h2, by simp at hl; omega, ?_⟩
          intro t ht
          have := hr (t + 3) (by simp; omega)
          simpa [okAt] using this
    · rw [esc_byte _ _ _ hc]
      simp only [Bool.false_and, Bool.false_eq_true, false_iff]
      rintro ⟨_, hr⟩
      have := hr 0 (by simp)
      simp [okAt] at this
      exact hc this
end Go.Proofs.Qxb6616805a
