/- The law's own row of strings: reading and writing it. -/
import Derived.Test.Qxb6618493aParts
namespace Go.Proofs.Qxb6618493a
open Go.RowKit Go.Maps

/-- 'v', of n strings l, is a row of the law's own, from block B on -/
def StrRow (w : World) (B : Nat) (ao : Option Addr) (n c : Nat) (l : List ByteArray) : Prop :=
  w.ownsRow B 9 1 (.slice ao n c) n (l.map Value.string) ∧ n = l.length

theorem StrRow.at {w : World} {B : Nat} {ao : Option Addr} {n c : Nat} {l : List ByteArray} (h : StrRow w B ao n c l) (hn : 0 < n) : ∃ g, ao = some ⟨g, 0, none⟩ := by
  rcases h.1.2 with ⟨hv, h0⟩ | ⟨g, c', cur, hv, _⟩
  · omega
  · simp only [Value.slice.injEq] at hv; exact ⟨g, hv.1⟩

theorem StrRow.cell {w : World} {B g : Nat} {n c : Nat} {l : List ByteArray} (h : StrRow w B (some ⟨g, 0, none⟩) n c l) (j : Nat) (hj : j < l.length) : w.cell? ⟨g, j, none⟩ = some (.string l[j]) := by
  have := h.1.cellAt j (by have := h.2; omega)
  rw [this]; simp [hj]
theorem StrRow.frozen {w : World} {B g : Nat} {n c : Nat} {l : List ByteArray} (h : StrRow w B (some ⟨g, 0, none⟩) n c l) (j : Nat) : w.frozen? ⟨g, j, none⟩ = false := h.1.frozenAt j
theorem StrRow.base {w : World} {B g : Nat} {n c : Nat} {l : List ByteArray} (h : StrRow w B (some ⟨g, 0, none⟩) n c l) : B ≤ g := (h.1.lt g rfl).1
theorem StrRow.lt {w : World} {B g : Nat} {n c : Nat} {l : List ByteArray} (h : StrRow w B (some ⟨g, 0, none⟩) n c l) : g < w.heap.size := (h.1.lt g rfl).2
theorem StrRow.set {w : World} {B g : Nat} {n c : Nat} {l : List ByteArray} (h : StrRow w B (some ⟨g, 0, none⟩) n c l) (j : Nat) (s : ByteArray) : StrRow (w.setCell ⟨g, j, none⟩ (.string s)) B (some ⟨g, 0, none⟩) n c (l.set j s) := by
  refine ⟨?_, by have := h.2; simpa using this⟩
  rw [List.map_set]
  exact (h.1.stored j (.string s)).1
theorem StrRow.nil (w : World) (B : Nat) : StrRow w B none 0 0 [] := ⟨World.ownsRow_nil _ _ _ _, rfl⟩
theorem StrRow.drewN {w : World} {B : Nat} {ao : Option Addr} {n c : Nat} {l : List ByteArray} (h : StrRow w B ao n c l) (q : Nat) : StrRow (w.drewN q) B ao n c l := h
theorem StrRow.alloc {w : World} {B : Nat} {ao : Option Addr} {n c : Nat} {l : List ByteArray} (h : StrRow w B ao n c l) (o : Obj) : StrRow (w.alloc o) B ao n c l := ⟨h.1.alloc o, h.2⟩

/-- the law appends the empty string to its own row -/
theorem wp_app_str {w : World} {ops : Array Oper} {rest : List Oper} {o : Oper} {a : Act} {Q : Exit → Act → World → Prop} (hgd : o.guard = none) (s x : Operand)
    (ho : o.op = .call { callee := .builtin .append, args := #[s, x], argTypes := #[41, 41] }) {B : Nat} {ao : Option Addr} {n c : Nat} {l : List ByteArray} (hs : a.eval s = .slice ao n c) (hrow : StrRow w B ao n c l)
    (vb : Nat) (e : ByteArray) (hx : a.eval x = .slice (some ⟨vb, 0, none⟩) 1 1) (hcell : w.cell? ⟨vb, 0, none⟩ = some (.string e)) (hn : n ≤ 65536) (hB : B ≤ w.heap.size)
    (h : ∀ g c' w', StrRow w' B (some ⟨g, 0, none⟩) (n + 1) c' (l ++ [e]) → w.grownBy w' (Value.ownBlock (.slice ao n c)) → wpList Try.prog ops Q rest (a.put o.dst (.slice (some ⟨g, 0, none⟩) (n + 1) c')) w') :
    wpList Try.prog ops Q (o :: rest) a w := by
  obtain ⟨i0, hi0, hz0, hzs, hzb⟩ := info_parts Try.info9
  refine wpList_append_own w hgd s x 41 ho B 9 i0 (.string ⟨#[]⟩) 1 16 Try.underlying41 hi0 hz0 hzs hzb rfl (by decide) (.slice ao n c) n _ hs hrow.1 ⟨vb, 0, none⟩ 1 1 [.string e] hx rfl (cells1 hcell) (by simp; rfl) (by unfold maxLen; omega) (by omega) hB ?_
  intro v' w' h1 h2 _
  obtain ⟨a', c', rfl⟩ := ownsRow_shape h1
  have hr : StrRow w' B a' (n + 1) c' (l ++ [e]) := ⟨by simpa using h1, by have := hrow.2; simp; omega⟩
  obtain ⟨g, rfl⟩ := hr.at (by omega)
  exact h g c' w' hr h2

/-- one round of the shift: what it reads, what it leaves -/
theorem shift_round {w : World} {B g n c : Nat} {l : List ByteArray} {e : ByteArray} {q : Nat} (h : StrRow w B (some ⟨g, 0, none⟩) n c (shiftAt l e (q + 1))) (hq : q < l.length) :
    ∃ x y, w.cell? ⟨g, q, none⟩ = some (.string x) ∧ w.cell? ⟨g, q + 1, none⟩ = some (.string y) ∧ StrRow (w.setCell ⟨g, q + 1, none⟩ (.string x)) B (some ⟨g, 0, none⟩) n c (shiftAt l e q) := by
  have hl := length_shift l e (q + 1) (by omega)
  have h0 := h.cell q (by omega)
  have h1 := h.cell (q + 1) (by omega)
  have hg := shift_get l e q hq
  rw [List.getElem?_eq_getElem (by omega)] at hg
  have hg' : (shiftAt l e (q + 1))[q] = l[q] := by simpa using hg
  rw [hg'] at h0
  refine ⟨_, _, h0, h1, ?_⟩
  have hr := h.set (q + 1) l[q]
  rw [shift_step l e q hq] at hr
  exact hr

/-- the last store -/
theorem shift_last {w : World} {B g n c : Nat} {l : List ByteArray} {e s : ByteArray} (h : StrRow w B (some ⟨g, 0, none⟩) n c (shiftAt l e (posW s l))) :
    ∃ y, w.cell? ⟨g, posW s l, none⟩ = some (.string y) ∧ StrRow (w.setCell ⟨g, posW s l, none⟩ (.string s)) B (some ⟨g, 0, none⟩) n c (insAt l s) := by
  have hp := posW_le s l
  have hl := length_shift l e (posW s l) hp
  refine ⟨_, h.cell (posW s l) (by omega), ?_⟩
  have hr := h.set (posW s l) s
  rw [shift_end l e s hp] at hr
  exact hr

/-- what the law's last loop meets in round k -/
theorem pq_at {w : World} {base pb lb bm n : Nat} {recs : List Rec} {l : List ByteArray} (h : PQ w base pb lb bm n recs) (hl : recs.map Prod.fst = l) (hz : ∀ x ∈ l, x.size ≤ maxLen) {a : Option Addr} {c nw : Nat} (h3 : w.ownsRow base 35 1 (.slice a nw c) nw (recs.map ptrR)) (hn : nw = l.length)
    (k : Nat) (hk : k < l.length) : ∃ g rb, a = some ⟨g, 0, none⟩ ∧ w.cell? ⟨g, k, none⟩ = some (.pointer (some ⟨rb, 0, none⟩)) ∧ (l[k], rb) ∈ recs ∧ w.cell? ⟨rb, 0, none⟩ = some (.string l[k]) ∧
      ∀ q, (Instr.lookup 24 (.map (some bm)) (.string l[k]) false).run Try.prog (w.drewN q) = .ok (.pointer (some ⟨rb, 0, none⟩)) (w.drewN q) := by
  subst hl
  have hkr : k < recs.length := by simpa using hk
  have e1 : (recs.map Prod.fst)[k] = recs[k].1 := by simp
  rw [e1]
  rcases h3.2 with ⟨hv, h0⟩ | ⟨g, c', cur, hv, _⟩
  · omega
  · simp only [Value.slice.injEq] at hv
    obtain ⟨rfl, _, rfl⟩ := hv
    refine ⟨g, recs[k].2, rfl, ?_, List.getElem_mem _, (h.rc _ (List.getElem_mem _)).1, ?_⟩
    · rw [h3.cellAt k (by omega)]; simp [hkr, ptrR]
    · intro q
      obtain ⟨D, hown, hD⟩ := h.mp
      have hown' : (w.drewN q).ownsMap Try.prog 9 ptrElem bm recs.length D := hown
      obtain ⟨v, ps, hrun, hv⟩ := hown'.lookup law9 Try.underlying24 (zero35 _) (zd := .nil) (zp := []) rfl (key9 (hz recs[k].1 (by simp; exact ⟨_, List.getElem_mem _⟩)))
      rw [hD.here recs[k] (List.getElem_mem _)] at hv
      rw [ptrElem_some hv] at hrun
      exact hrun

/-- all that the law's last loops need of the world -/
structure Last (w' wr : World) (B pb lb bm m nw : Nat) (recs : List Rec) (l : List ByteArray) (ao a3 : Option Addr) (c c3 : Nat) : Prop where
  pq : PQ wr w'.heap.size pb lb bm m recs
  row : StrRow wr B ao nw c l
  row3 : wr.ownsRow w'.heap.size 35 1 (.slice a3 nw c3) nw (recs.map ptrR)
  k3 : wr.cell? ⟨pb, 3, none⟩ = some (.slice a3 nw c3)
  bel : Below w'.heap.size w' wr
theorem Last.drewN {w' wr : World} {B pb lb bm m nw : Nat} {recs : List Rec} {l : List ByteArray} {ao a3 : Option Addr} {c c3 : Nat} (h : Last w' wr B pb lb bm m nw recs l ao a3 c c3) (q : Nat) : Last w' (wr.drewN q) B pb lb bm m nw recs l ao a3 c c3 :=
  ⟨pq_below h.pq ⟨rfl, rfl, rfl, Nat.le_refl _, fun _ _ => rfl⟩, h.row, h.row3, h.k3, h.bel.trans ⟨rfl, rfl, rfl, Nat.le_refl _, fun _ _ => rfl⟩⟩
end Go.Proofs.Qxb6618493a
