/- Plain: the sorted list of the distinct ids, as the law builds it and as the queue holds it. -/
import Derived.Test.Qxb6618493aPlain
namespace Go.Proofs.Qxb6618493a

def lessW (s x : ByteArray) : Bool := Op.bytesLess x.toList s.toList
def posW (s : ByteArray) (l : List ByteArray) : Nat := (l.takeWhile (lessW s)).length
def insAt (l : List ByteArray) (s : ByteArray) : List ByteArray := l.take (posW s l) ++ s :: l.drop (posW s l)
def hasW (l : List ByteArray) (s : ByteArray) : Bool := l.any fun x => x.toList == s.toList
def insW (l : List ByteArray) (s : ByteArray) : List ByteArray := if hasW l s = true then l else insAt l s
def wantAt (S : Nat → ByteArray) : Nat → List ByteArray
  | 0 => []
  | k + 1 => insW (wantAt S k) (S k)
def SortedW (l : List ByteArray) : Prop := l.Pairwise fun a b => Op.bytesLess a.toList b.toList = true

def zeroR (l : List ByteArray) : List Rec := l.map fun s => (s, 0)
theorem zeroR_fst (l : List ByteArray) : (zeroR l).map Prod.fst = l := by simp [zeroR, Function.comp_def]

theorem takeWhile_fst (s : ByteArray) : ∀ recs : List Rec, (recs.map Prod.fst).takeWhile (lessW s) = (recs.takeWhile (lessR s)).map Prod.fst
  | [] => rfl
  | r :: rs => by
    simp only [List.map_cons, List.takeWhile_cons]
    have e : lessW s r.1 = lessR s r := rfl
    rw [e]
    cases lessR s r
    · rfl
    · simp only [if_true, List.map_cons]; rw [takeWhile_fst s rs]

theorem posW_fst (s : ByteArray) (recs : List Rec) : posW s (recs.map Prod.fst) = posR s recs := by
  unfold posW posR; rw [takeWhile_fst]; simp
theorem insR_fst (recs : List Rec) (r : Rec) : (insR recs r).map Prod.fst = insAt (recs.map Prod.fst) r.1 := by
  unfold insR insAt; rw [posW_fst]; simp [List.map_take, List.map_drop]
theorem sortedW_fst (recs : List Rec) : SortedW (recs.map Prod.fst) ↔ SortedR recs := by
  unfold SortedW SortedR; rw [List.pairwise_map]

theorem hasW_fst_true {recs : List Rec} {s : ByteArray} (hl : ∀ x y : ByteArray, x.toList = y.toList → x = y) (h : hasW (recs.map Prod.fst) s = true) : ∃ r ∈ recs, r.1 = s := by
  unfold hasW at h
  rw [List.any_eq_true] at h
  obtain ⟨x, hx, he⟩ := h
  obtain ⟨r, hr, rfl⟩ := List.mem_map.1 hx
  exact ⟨r, hr, hl _ _ (by simpa using he)⟩
theorem hasW_fst_false {recs : List Rec} {s : ByteArray} (h : hasW (recs.map Prod.fst) s = false) : AbsentR s recs := by
  intro r hr e
  unfold hasW at h
  rw [List.any_eq_false] at h
  exact h r.1 (List.mem_map_of_mem hr) (by simp [e])

theorem posW_le (s : ByteArray) (l : List ByteArray) : posW s l ≤ l.length := by
  unfold posW; exact (List.takeWhile_prefix _).length_le
theorem posW_lt (s : ByteArray) (l : List ByteArray) (t : Nat) (h : t < l.length) (hp : t < posW s l) : Op.bytesLess l[t].toList s.toList = true := by
  have := posR_lt s (zeroR l) t (by simpa [zeroR] using h) (by rw [← posW_fst, zeroR_fst]; exact hp)
  simpa [zeroR] using this
theorem posW_stop (s : ByteArray) : ∀ (l : List ByteArray) (h : posW s l < l.length), Op.bytesLess (l[posW s l]'h).toList s.toList = false
  | [], h => by simp at h
  | x :: l, h => by
    cases hx : lessW s x
    · have e : posW s (x :: l) = 0 := by simp [posW, hx]
      have : (x :: l)[posW s (x :: l)]'h = x := by simp [e]
      rw [this]; exact hx
    · have e : posW s (x :: l) = posW s l + 1 := by simp [posW, hx]
      have h' : posW s l < l.length := by rw [e] at h; simpa using h
      have : (x :: l)[posW s (x :: l)]'h = l[posW s l] := by simp [e]
      rw [this]; exact posW_stop s l h'

theorem hasW_iff {l : List ByteArray} {s : ByteArray} (hs : SortedW l) : hasW l s = true ↔ ∃ h : posW s l < l.length, ((l[posW s l]'h).toList == s.toList) = true := by
  constructor
  · intro h
    unfold hasW at h
    rw [List.any_eq_true] at h
    obtain ⟨x, hx, he⟩ := h
    obtain ⟨t, ht, rfl⟩ := List.getElem_of_mem hx
    have he' : l[t].toList = s.toList := by simpa using he
    have e : posW s l = t := by
      rcases Nat.lt_trichotomy (posW s l) t with h | h | h
      · have h0 : posW s l < l.length := by omega
        have h1 := List.pairwise_iff_getElem.1 hs (posW s l) t h0 ht h
        have h2 := posW_stop s l h0
        rw [he'] at h1
        rw [h1] at h2; cases h2
      · exact h
      · have h1 := posW_lt s l t ht h
        rw [he', bl_irrefl] at h1; cases h1
    subst e
    exact ⟨ht, he⟩
  · rintro ⟨h, he⟩
    unfold hasW
    rw [List.any_eq_true]
    exact ⟨_, List.getElem_mem h, he⟩

theorem sorted_insAt {l : List ByteArray} {s : ByteArray} (hl : ∀ x y : ByteArray, x.toList = y.toList → x = y) (hs : SortedW l) (ha : hasW l s = false) : SortedW (insAt l s) := by
  have h1 : SortedR (zeroR l) := by rw [← sortedW_fst, zeroR_fst]; exact hs
  have h2 : AbsentR s (zeroR l) := hasW_fst_false (by rw [zeroR_fst]; exact ha)
  have h3 := sorted_insR (r := (s, 0)) hl h1 h2
  rw [← sortedW_fst, insR_fst, zeroR_fst] at h3
  exact h3

theorem sorted_wantAt (S : Nat → ByteArray) (hl : ∀ x y : ByteArray, x.toList = y.toList → x = y) : ∀ k, SortedW (wantAt S k)
  | 0 => List.Pairwise.nil
  | k + 1 => by
    show SortedW (insW (wantAt S k) (S k))
    unfold insW
    split
    · exact sorted_wantAt S hl k
    · rename_i h
      exact sorted_insAt hl (sorted_wantAt S hl k) (by simpa using h)

theorem length_insAt (l : List ByteArray) (s : ByteArray) : (insAt l s).length = l.length + 1 := by
  have := posW_le s l
  simp [insAt]; omega

theorem length_wantAt (S : Nat → ByteArray) : ∀ k, (wantAt S k).length ≤ k
  | 0 => Nat.le_refl _
  | k + 1 => by
    show (insW (wantAt S k) (S k)).length ≤ k + 1
    have := length_wantAt S k
    unfold insW
    split
    · omega
    · rw [length_insAt]; omega

theorem size_wantAt (S : Nat → ByteArray) (B : Nat) : ∀ k, (∀ j, j < k → (S j).size ≤ B) → ∀ x ∈ wantAt S k, x.size ≤ B
  | 0, _, x, hx => by simp [wantAt] at hx
  | k + 1, h, x, hx => by
    have ih := size_wantAt S B k (fun j hj => h j (by omega))
    have hx : x ∈ insW (wantAt S k) (S k) := hx
    unfold insW at hx
    split at hx
    · exact ih x hx
    · unfold insAt at hx
      rcases List.mem_append.1 hx with hx | hx
      · exact ih x (List.mem_of_mem_take hx)
      · rcases List.mem_cons.1 hx with rfl | hx
        · exact h k (by omega)
        · exact ih x (List.mem_of_mem_drop hx)

/-- the row while the law's inner loop shifts it up -/
def shiftAt (l : List ByteArray) (e : ByteArray) (k : Nat) : List ByteArray := (l ++ [e]).take (k + 1) ++ l.drop k
theorem shift_start (l : List ByteArray) (e : ByteArray) : shiftAt l e l.length = l ++ [e] := by
  unfold shiftAt
  rw [List.take_of_length_le (by simp), List.drop_eq_nil_of_le (Nat.le_refl _), List.append_nil]
theorem length_shift (l : List ByteArray) (e : ByteArray) (k : Nat) (hk : k ≤ l.length) : (shiftAt l e k).length = l.length + 1 := by
  simp [shiftAt]; omega
theorem shift_get (l : List ByteArray) (e : ByteArray) (k : Nat) (hk : k < l.length) : (shiftAt l e (k + 1))[k]? = some l[k] := by
  unfold shiftAt
  rw [List.getElem?_append_left (by simp; omega), List.getElem?_take_of_lt (by omega), List.getElem?_append_left hk, List.getElem?_eq_getElem hk]
theorem shift_step (l : List ByteArray) (e : ByteArray) (k : Nat) (hk : k < l.length) : (shiftAt l e (k + 1)).set (k + 1) l[k] = shiftAt l e k := by
  unfold shiftAt
  have h1 : (l ++ [e]).take (k + 1 + 1) = (l ++ [e]).take (k + 1) ++ [(l ++ [e])[k + 1]'(by simp; omega)] := List.take_succ_eq_append_getElem (by simp; omega)
  have h2 : l.drop k = l[k] :: l.drop (k + 1) := List.drop_eq_getElem_cons hk
  have h3 : ((l ++ [e]).take (k + 1)).length = k + 1 := by simp; omega
  rw [h1, h2, List.append_assoc, List.set_append_right _ _ (by omega), h3]
  simp
theorem shift_end (l : List ByteArray) (e s : ByteArray) (h : posW s l ≤ l.length) : (shiftAt l e (posW s l)).set (posW s l) s = insAt l s := by
  unfold shiftAt insAt
  have h1 : (l ++ [e]).take (posW s l + 1) = (l ++ [e]).take (posW s l) ++ [(l ++ [e])[posW s l]'(by simp; omega)] := List.take_succ_eq_append_getElem (by simp; omega)
  have h3 : ((l ++ [e]).take (posW s l)).length = posW s l := by simp; omega
  rw [h1, List.append_assoc, List.set_append_right _ _ (by omega), h3, List.take_append_of_le_length h]
  simp
end Go.Proofs.Qxb6618493a
