/- Plain facts: the byte order of strings; a sorted list of records. No Go in sight but the order itself. -/
import GoSem.Op.String
namespace Go.Proofs.Qxb6618493a

theorem bl_irrefl : ∀ x : List UInt8, Op.bytesLess x x = false
  | [] => rfl
  | a :: x => by simp [Op.bytesLess, bl_irrefl x]

theorem bl_trans : ∀ x y z : List UInt8, Op.bytesLess x y = true → Op.bytesLess y z = true → Op.bytesLess x z = true
  | _, [], _, h1, _ => by cases ‹List UInt8› <;> simp [Op.bytesLess] at h1
  | _, _ :: _, [], _, h2 => by simp [Op.bytesLess] at h2
  | [], _ :: _, _ :: _, _, _ => by simp [Op.bytesLess]
  | a :: x, b :: y, c :: z, h1, h2 => by
    simp only [Op.bytesLess, Bool.or_eq_true, decide_eq_true_eq, Bool.and_eq_true, beq_iff_eq] at h1 h2 ⊢
    rcases h1 with h1 | ⟨rfl, h1⟩
    · rcases h2 with h2 | ⟨rfl, h2⟩
      · exact .inl (UInt8.lt_trans h1 h2)
      · exact .inl h1
    · rcases h2 with h2 | ⟨rfl, h2⟩
      · exact .inl h2
      · exact .inr ⟨rfl, bl_trans x y z h1 h2⟩

theorem bl_tri : ∀ x y : List UInt8, Op.bytesLess x y = false → Op.bytesLess y x = false → x = y
  | [], [], _, _ => rfl
  | [], _ :: _, h1, _ => by simp [Op.bytesLess] at h1
  | _ :: _, [], _, h2 => by simp [Op.bytesLess] at h2
  | a :: x, b :: y, h1, h2 => by
    simp only [Op.bytesLess, Bool.or_eq_false_iff, decide_eq_false_iff_not, Bool.and_eq_false_iff, beq_eq_false_iff_ne] at h1 h2
    have hab : a = b := by
      apply UInt8.toNat_inj.1
      have e1 := h1.1; have e2 := h2.1
      rw [UInt8.lt_iff_toNat_lt] at e1 e2
      omega
    subst hab
    rcases h1.2 with h | h
    · exact absurd rfl h
    rcases h2.2 with h' | h'
    · exact absurd rfl h'
    rw [bl_tri x y h h']

theorem ba_ext {x y : ByteArray} (h : x.data.toList = y.data.toList) : x = y := by
  cases x; cases y; simpa using h

abbrev Rec := ByteArray × Nat
def lessR (s : ByteArray) (r : Rec) : Bool := Op.bytesLess r.1.toList s.toList
def posR (s : ByteArray) (recs : List Rec) : Nat := (recs.takeWhile (lessR s)).length
def SortedR (recs : List Rec) : Prop := recs.Pairwise fun a b => Op.bytesLess a.1.toList b.1.toList = true
def insR (recs : List Rec) (r : Rec) : List Rec := recs.take (posR r.1 recs) ++ r :: recs.drop (posR r.1 recs)
def AbsentR (s : ByteArray) (recs : List Rec) : Prop := ∀ r ∈ recs, r.1 ≠ s

theorem posR_le (s : ByteArray) (recs : List Rec) : posR s recs ≤ recs.length := by
  unfold posR; exact (List.takeWhile_prefix _).length_le

theorem posR_lt (s : ByteArray) : ∀ (recs : List Rec) (t : Nat) (h : t < recs.length), t < posR s recs → Op.bytesLess recs[t].1.toList s.toList = true
  | [], _, h, _ => by simp at h
  | r :: rs, t, h, hp => by
    unfold posR at hp
    rw [List.takeWhile_cons] at hp
    split at hp
    · rename_i hr
      cases t with
      | zero => exact hr
      | succ t => exact posR_lt s rs t (by simpa using h) (by simpa [posR] using hp)
    · simp at hp

theorem posR_ge (s : ByteArray) : ∀ (recs : List Rec), SortedR recs → ∀ (t : Nat) (h : t < recs.length), posR s recs ≤ t → Op.bytesLess recs[t].1.toList s.toList = false
  | [], _, _, h, _ => by simp at h
  | r :: rs, hs, t, h, hp => by
    unfold posR at hp
    rw [List.takeWhile_cons] at hp
    have hs' := List.pairwise_cons.1 hs
    split at hp
    · cases t with
      | zero => simp at hp
      | succ t => exact posR_ge s rs hs'.2 t (by simpa using h) (by simpa [posR] using hp)
    · rename_i hr
      have hr' : Op.bytesLess r.1.toList s.toList = false := by simpa [lessR] using hr
      cases t with
      | zero => exact hr'
      | succ t =>
        cases hq : Op.bytesLess (r :: rs)[t + 1].1.toList s.toList
        · rfl
        · have ht : t < rs.length := by simpa using h
          have h1 := hs'.1 rs[t] (List.getElem_mem _)
          have := bl_trans _ _ _ h1 (by simpa using hq)
          rw [hr'] at this
          cases this

theorem mem_insR {recs : List Rec} {r x : Rec} : x ∈ insR recs r ↔ x = r ∨ x ∈ recs := by
  have e : recs = recs.take (posR r.1 recs) ++ recs.drop (posR r.1 recs) := (List.take_append_drop _ _).symm
  constructor
  · intro h
    unfold insR at h
    rcases List.mem_append.1 h with h | h
    · exact .inr (List.mem_of_mem_take h)
    · rcases List.mem_cons.1 h with h | h
      · exact .inl h
      · exact .inr (List.mem_of_mem_drop h)
  · intro h
    unfold insR
    rcases h with rfl | h
    · simp
    · rw [e] at h
      rcases List.mem_append.1 h with h | h
      · exact List.mem_append_left _ h
      · exact List.mem_append_right _ (List.mem_cons_of_mem _ h)

theorem length_insR (recs : List Rec) (r : Rec) : (insR recs r).length = recs.length + 1 := by
  have := posR_le r.1 recs
  simp [insR]; omega

theorem sorted_insR {recs : List Rec} {r : Rec} (hl : ∀ x y : ByteArray, x.toList = y.toList → x = y) (hs : SortedR recs) (ha : AbsentR r.1 recs) : SortedR (insR recs r) := by
  have hsp : (recs.take (posR r.1 recs) ++ recs.drop (posR r.1 recs)).Pairwise (fun a b : Rec => Op.bytesLess a.1.toList b.1.toList = true) := by
    rw [List.take_append_drop]; exact hs
  rw [List.pairwise_append] at hsp
  obtain ⟨h1, h2, h3⟩ := hsp
  unfold SortedR insR
  rw [List.pairwise_append, List.pairwise_cons]
  refine ⟨h1, ⟨?_, h2⟩, ?_⟩
  · intro x hx
    obtain ⟨j, hj, rfl⟩ := List.getElem_of_mem hx
    rw [List.getElem_drop]
    have hjl : posR r.1 recs + j < recs.length := by simp at hj; omega
    have hge := posR_ge r.1 recs hs (posR r.1 recs + j) hjl (by omega)
    cases hq : Op.bytesLess r.1.toList recs[posR r.1 recs + j].1.toList
    · exact absurd (hl _ _ (bl_tri _ _ hge hq)) (ha _ (List.getElem_mem _))
    · rfl
  · intro x hx y hy
    have hxr : Op.bytesLess x.1.toList r.1.toList = true := by
      obtain ⟨j, hj, rfl⟩ := List.getElem_of_mem hx
      rw [List.getElem_take]
      exact posR_lt r.1 recs j (by simp at hj; omega) (by simp at hj; omega)
    rcases List.mem_cons.1 hy with rfl | hy
    · exact hxr
    · exact h3 x hx y hy
end Go.Proofs.Qxb6618493a
