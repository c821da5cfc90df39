/- The law FnAllEscapedOrExact: its walk. -/
import Derived.Test.Qxb6616805aModel
import Derived.Deep.Quiet
namespace Go.Proofs.Qxb6616805a
open Go.RowKit

theorem size28 : (Try.prog.info? 28).map (·.size) = some 256 := by kernel_rfl

/-- the whole table loaded, as a law at the operation -/
theorem wp_load28 {ops : Array Oper} {rest : List Oper} {o : Oper} {a : Act} {w : World} {Q : Exit → Act → World → Prop} (hgd : o.guard = none) (x : Operand) (ho : o.op = .load 28 x)
    (g : Nat) (hx : a.eval x = .pointer (some ⟨g, 0, none⟩)) (T : Nat → Bool) (hg : w.heap[g]? = some (.cells (tab T) 28 (0, 0)))
    (h : wpList Try.prog ops Q rest (a.put o.dst (.agg (tab T))) w) : wpList Try.prog ops Q (o :: rest) a w :=
  wpList_load_row hgd 28 x ho g hx 28 (tab T) (0, 0) _ hg Try.underlying28 rfl (by rw [size_tab]; exact size28) h

theorem exact_long (s : ByteArray) (T : Nat → Bool) (hm : s.size ≤ maxLen) (hs : ¬ s.size ≤ 1048576) (w : World) :
    Calls Try.prog 5 #[.string s, .agg (tab T)] w fun e w' => e = .returned (.bool true) ∧ Below w.heap.size w w' := by
  have hd : decide ((s.size : Int) ≤ 1048576) = false := by simp; omega
  go_enter Try.func5, Try.ntmps5
  go_wp2_with (first
    | (refine wp_load28 rfl _ rfl w.heap.size rfl T (heap_alloc_new w _) ?_)
    | (go_at_call 13; refine (f13_any s T hm _).mono ?_; rw [hd]; rintro e w' ⟨rfl, rfl⟩))
  go_ret
  exact ⟨rfl, ((Below.refl _ _).alloc (Nat.le_refl _) _).alloc (by simp) _⟩

/-! ### a region that draws its order, walked once for all worlds in which the table lies as it was -/
theorem region_held {id : Nat} {C : World → Prop} {Q : Exit → Act → World → Prop} {a : Act} {w : World} {l : List Oper} (hB : Region.lexB .any l.toArray = true) (hC : C { w with drawn := w.drawn + 1 })
    (h : wpQuiet Try.prog l.toArray C (fun a' => ∀ w', C w' → Q .normal a' w') l a) : (Code.region id l.toArray true).wp Try.prog Q a w :=
  wp_region_quiet (by kernel_rfl) hB hC (by simpa using h)

theorem q_val {ops : Array Oper} {C : World → Prop} {Q : Act → Prop} {a : Act} {o : Oper} {rest : List Oper} (hg : o.guard = none) (v : Value) (h : ∀ w, C w → (execOp a.eval o).run Try.prog w = .ok (.value v) w)
    (hk : wpQuiet Try.prog ops C Q rest (a.put o.dst v)) : wpQuiet Try.prog ops C Q (o :: rest) a := by
  unfold wpQuiet
  rw [if_pos (by simp [Region.wanted, hg])]
  exact ⟨v, fun w hw => by unfold Oper.quietAt; rw [h w hw]; exact ⟨rfl, rfl⟩, hk⟩

theorem q_call {ops : Array Oper} {C : World → Prop} {Q : Act → Prop} {a : Act} {o : Oper} {rest : List Oper} (hg : o.guard = none) (f : FuncId) (args : Array Value) (v : Value) (h : ∀ w, C w → (execOp a.eval o).run Try.prog w = .ok (.enter f args) w)
    (hc : ∀ w, C w → Calls Try.prog f args w (fun e w'' => e = .returned v ∧ C w'')) (hk : wpQuiet Try.prog ops C Q rest (a.put o.dst v)) : wpQuiet Try.prog ops C Q (o :: rest) a := by
  unfold wpQuiet
  rw [if_pos (by simp [Region.wanted, hg])]
  exact ⟨v, fun w hw => by unfold Oper.quietAt; rw [h w hw]; exact ⟨rfl, hc w hw⟩, hk⟩

/-- the table lies at block B; below B nothing has turned since w -/
structure Held (w : World) (T : Nat → Bool) (w' : World) : Prop where
  row : w'.heap[w.heap.size]? = some (.cells (tab T) 28 (0, 0))
  bel : Below w.heap.size w w'
theorem Held.alloc {w w' : World} {T : Nat → Bool} (h : Held w T w') (o : Obj) : Held w T (w'.alloc o) :=
  ⟨(heap_alloc_old w' o (Array.getElem?_eq_some_iff.1 h.row).1).trans h.row, h.bel.alloc h.bel.size o⟩

theorem run_load28 {w : World} {g : Nat} {T : Nat → Bool} (hg : w.heap[g]? = some (.cells (tab T) 28 (0, 0))) {o : Oper} {a : Act} (x : Operand) (ho : o.op = .load 28 x) (hx : a.eval x = .pointer (some ⟨g, 0, none⟩)) :
    (execOp a.eval o).run Try.prog w = .ok (.value (.agg (tab T))) w := by
  unfold execOp
  simp only [ho, hx, Instr.loadAt, Instr.sureAddr, Sem.run_bind, Sem.run_pure, Result.andThen_ok, run_loadVar_row w g 28 28 (tab T) (0, 0) _ hg Try.underlying28 rfl (by rw [size_tab]; exact size28)]

theorem exact_in (s : ByteArray) (T : Nat → Bool) (hs : s.size ≤ 1048576) (w : World) :
    Calls Try.prog 5 #[.string s, .agg (tab T)] w fun e w' => e = .returned (.bool true) ∧ Below w.heap.size w w' := by
  have hd : decide ((s.size : Int) ≤ 1048576) = true := by simp; omega
  have hm : s.size ≤ maxLen := by unfold maxLen; omega
  go_enter Try.func5, Try.ntmps5
  go_wp2_with (first
    | (refine wp_load28 rfl _ rfl w.heap.size rfl T (heap_alloc_new w _) ?_)
    | (go_at_call 13; refine (f13_any s T hm _).mono ?_; rw [hd]; rintro e w' ⟨rfl, rfl⟩))
  have H0 : Held w T ((w.alloc (.cells (tab T) 28)).alloc (.cells (tab T) 28)) :=
    Held.alloc ⟨heap_alloc_new w _, (Below.refl _ _).alloc (Nat.le_refl _) _⟩ _
  refine region_held (C := Held w T) (by kernel_rfl) ⟨H0.row, H0.bel.drew⟩ ?_
  refine q_val rfl (.string s) (fun _ _ => by rfl) ?_
  refine q_val rfl (.agg (tab T)) (fun _ h => run_load28 h.row _ rfl rfl) ?_
  refine q_call rfl 14 #[.string s, .agg (tab T)] (.bool (esc T s.data.toList)) (fun _ _ => by go_simp) (fun _ h => (f14_any s T hs _).mono (by rintro e w' ⟨rfl, rfl⟩; exact ⟨rfl, h.alloc _⟩)) ?_
  refine q_val rfl (.string s) (fun _ _ => by rfl) ?_
  refine q_val rfl (.agg (tab T)) (fun _ h => run_load28 h.row _ rfl rfl) ?_
  refine q_call rfl 15 #[.string s, .agg (tab T)] (.bool (esc T s.data.toList)) (fun _ _ => by go_simp) (fun _ h => (f15_any s T hs _).mono (by rintro e w' ⟨rfl, cur, rfl⟩; exact ⟨rfl, (h.alloc _).alloc _⟩)) ?_
  refine q_val rfl (.bool true) (fun _ _ => by go_simp) ?_
  refine q_val rfl (.bool true) (fun _ _ => by go_simp) ?_
  refine wpQuiet_nil ?_
  intro w' hw'
  go_simp
  go_wp2
  go_ret
  exact ⟨rfl, hw'.bel⟩

theorem exact_any (s : ByteArray) (T : Nat → Bool) (hm : s.size ≤ maxLen) (w : World) :
    Calls Try.prog 5 #[.string s, .agg (tab T)] w fun e w' => e = .returned (.bool true) ∧ Below w.heap.size w w' := by
  by_cases hs : s.size ≤ 1048576
  · exact exact_in s T hs w
  · exact exact_long s T hm hs w
end Go.Proofs.Qxb6616805a
