/- slices.Insert at []*trainerRecord, one value, onto a row that the call itself owns. -/
import Derived.Test.Qxb6618493aLeaf
import Derived.Maps.AppendAt
import Derived.Laws.CopyRow
import Derived.Laws.Externs
import Derived.Deep.RegionLaw
import Derived.OwnWalk
namespace Go.Proofs.Qxb6618493a
open Go.RowKit

/-! ### laws of this program's own: an append and a copy whose run is known; append of a make; overlaps -/
theorem wp_app {w : World} {ops : Array Oper} {rest : List Oper} {o : Oper} {a : Act} {Q : Exit → Act → World → Prop} (hgd : o.guard = none) (s x : Operand) (tn : TypeId)
    (ho : o.op = .call { callee := .builtin .append, args := #[s, x], argTypes := #[25, tn] }) (vs vx : Value) (hs : a.eval s = vs) (hx : a.eval x = vx)
    {v' : Value} {w' : World} (hr : (Builtin.append_ #[25, tn] o.type #[vs, vx]).run Try.prog w = .ok v' w') (h : wpList Try.prog ops Q rest (a.put o.dst v') w') : wpList Try.prog ops Q (o :: rest) a w := by
  refine wpList_plain hgd fun K hK => ?_
  unfold Oper.wp execOp
  simp only [ho, resolve, invoke, builtin, Sem.run_bind, Sem.run_pure, Result.andThen_ok, List.map_toArray, List.map_cons, List.map_nil, hs, hx, hr]
  exact hK _ _ h

theorem wp_cpy {w : World} {ops : Array Oper} {rest : List Oper} {o : Oper} {a : Act} {Q : Exit → Act → World → Prop} (hgd : o.guard = none) (d s : Operand)
    (ho : o.op = .call { callee := .builtin .copy, args := #[d, s], argTypes := #[25, 25] }) (v u : Value) (hd : a.eval d = v) (hs : a.eval s = u) {v' : Value} {w' : World}
    (hr : (Builtin.copy_ #[25, 25] o.type #[v, u]).run Try.prog w = .ok v' w') (h : wpList Try.prog ops Q rest (a.put o.dst v') w') : wpList Try.prog ops Q (o :: rest) a w := by
  refine wpList_plain hgd fun K hK => ?_
  unfold Oper.wp execOp
  simp only [ho, resolve, invoke, builtin, Sem.run_bind, Sem.run_pure, Result.andThen_ok, List.map_toArray, List.map_cons, List.map_nil, hd, hs, hr]
  exact hK _ _ h

theorem step_cpy {ops : Array Oper} {o : Oper} {a : Act} {w : World} {K : Act → World → Prop} {Q : Exit → Act → World → Prop} {E : Prop}
    (hg : o.guard = none) (d x : Operand) (hop : o.op = Op.call { callee := Callee.builtin Builtin.copy, args := #[d, x], argTypes := #[25, 25] })
    (v u : Value) (hd : a.eval d = v) (hx : a.eval x = u) {v' : Value} {w' : World} (hr : (Builtin.copy_ #[25, 25] o.type #[v, u]).run Try.prog w = .ok v' w') (hK : K (a.put o.dst v') w') :
    if Region.wanted o (yielded ops a.tmps) = true then Oper.wp Try.prog o a w K Q else E := by
  have hw : Region.wanted o (yielded ops a.tmps) = true := by simp [Region.wanted, hg]
  rw [if_pos hw]
  unfold Oper.wp
  simp [execOp, hop, resolve, invoke, builtin, hd, hx, hr, Result.andThen]
  exact hK

theorem size35 : (Try.prog.info? 35).map (·.size) = some 1 := by kernel_rfl

/-- 's2 := append(s[:i], make(S, k)...)' with no room: a new row. -/
theorem run_zeros (w : World) (ty : TypeId) (g i c k : Nat) (cur : Array Value) (hg : w.heap[g]? = some (.cells cur 35 (0, 0))) (hi : i ≤ cur.size)
    (h0 : 0 < k) (hr : c < i + k) (hb : (i + k) * 8 ≤ 140737488355328) :
    ∃ C cs', i + k ≤ C ∧ C ≤ maxLen ∧ cs'.size = C ∧ cs'.toList.take i = cur.toList.take i ∧
    (Builtin.append_ #[25, 3] ty #[.slice (some ⟨g, 0, none⟩) i c, .int .i64 k]).run Try.prog w =
      .ok (.slice (some ⟨w.heap.size, 0, none⟩) (i + k) C) (w.drew.alloc (.cells cs' 35)) := by
  obtain ⟨i0, hi0, hz0, hzs, hzb⟩ := info_parts Try.info35
  have hold : (Builtin.firstCells 1 i (.slice (some ⟨g, 0, none⟩) i c)).run Try.prog w.drew = .ok (cur.toList.take i).toArray w.drew := by
    refine run_firstCells_some w.drew 1 i ⟨g, 0, none⟩ i c (cur.toList.take i) (by simp; omega) (fun j v hj => ?_)
    have hadd : (⟨g, 0, none⟩ : Addr).add j = ⟨g, 0 + j, none⟩ := by unfold Addr.add; split <;> simp_all
    rw [hadd]
    have hc := cell_of_row w.drew g (0 + j) cur 35 (0, 0) hg
    rw [hc]
    rw [List.getElem?_take] at hj
    split at hj
    · simpa using hj
    · cases hj
  have hk : k ≠ 0 := by omega
  have hw : IntKind.i64.wrap (k : Int) = k := by rw [IntKind.wrap_i64]; omega
  have hn : ¬ (i + k ≤ c) := by omega
  have h63' : ¬ (9223372036854775807 < ((i : Int) + (k : Int))) := by omega
  have hfit := growslice_fits (need := i + k) (old := c) (bytes := 8) (by omega) hb
  have h48' : ¬ (281474976710656 < Builtin.nextslicecap (i + k) c * 8) := by omega
  have h48i : ¬ (281474976710656 < (k : Int) * 8) := by omega
  have hneg : ¬ ((k : Int) < 0) := by omega
  refine ⟨grownCap w (i + k) c 35, (cur.toList.take i).toArray ++ Builtin.zeroCells (Value.pointer none).cells k ++ Builtin.zeroCells (Value.pointer none).cells (grownCap w (i + k) c 35 - (i + k)), grownCap_ge _ _ _ _, grownCap_le_maxLen _ _ _ _ (by unfold maxLen; omega), ?_, ?_, ?_⟩
  · have := grownCap_ge w (i + k) c 35
    simp [Builtin.zeroCells, Value.cells]; omega
  · simp only [Array.toList_append, List.append_assoc]
    rw [List.take_append_of_le_length (by simp; omega)]
    rw [List.take_take, Nat.min_self]
  · simp [Builtin.append_, run_underlying Try.underlying25, run_underlying Try.underlying3, sizeOf, typeInfo, zeroValue, hi0, hz0, hzs, hzb, asInt, asIntOf, hw, hn, hneg, hk, h63', h48', h48i, Question.forced, hold, newRow, grownCap]

/-- slices.overlaps at two rows in two blocks (the model's own entry). -/
theorem run_over (w : World) (vb g o lb cb : Nat) (p : Value) (cur : Array Value) (hne : vb ≠ g) (hv : w.heap[vb]? = some (.cells #[p] 35 (0, 0))) (hg : w.heap[g]? = some (.cells cur 35 (0, 0))) (hc : cur.size ≠ 0) :
    (callFunc 22 #[.slice (some ⟨vb, 0, none⟩) 1 1, .slice (some ⟨g, o, none⟩) lb cb]).run Try.prog w = .ok (.value (.bool false)) w := by
  have hz : ∀ w, (Go.sizeOf 35).run Try.prog w = .ok 1 w := fun w => by kernel_rfl
  have hnb : (vb != g) = true := by simpa using hne
  have hnb' : (vb == g) = false := by simpa using hne
  have hs1 : w.shape? vb = some (35, 1) := by simp [World.shape?, hv]
  have hs2 : w.shape? g = some (35, cur.size) := by simp [World.shape?, hg]
  have hf1 : w.frozen? ⟨vb, 0, none⟩ = false := frozen_of_row w vb 0 _ 35 hv
  have hf2 : w.frozen? ⟨vb, 1, none⟩ = false := frozen_of_row w vb 1 _ 35 hv
  rw [run_callFunc_extern Try.func22 (by kernel_rfl) (by kernel_rfl) (by kernel_rfl) (e := Extern.SlicesOverlaps.overlaps #[25, 25] #[4]) (by kernel_rfl)]
  have hov : (Extern.SlicesOverlaps.overlaps #[25, 25] #[4] #[.slice (some ⟨vb, 0, none⟩) 1 1, .slice (some ⟨g, o, none⟩) lb cb]).run Try.prog w = .ok (.bool false) w := by
    obtain ⟨kB, hkB⟩ : ∃ kB, cur.size = kB + 1 := ⟨cur.size - 1, by omega⟩
    rw [hkB] at hs2
    change Sem.run Try.prog (bind (underlying 25) _) w = _
    by_cases h0 : lb = 0
    · subst h0
      simp [run_underlying Try.underlying25, hz]
    · simp [run_underlying Try.underlying25, hz, h0, hnb, hnb', frozen, noView, viewAt, mayBeOne, stringish, shape, Sem.run, hs1, hs2, hf1, hf2]
  rw [hov]
  rfl

theorem cells1 {w : World} {vb : Nat} {p : Value} (h : w.cell? ⟨vb, 0, none⟩ = some p) : ∀ j u, [p][j]? = some u → w.cell? ((⟨vb, 0, none⟩ : Addr).add j) = some u := by
  intro j u hj
  match j, hj with
  | 0, hj => simp at hj; subst hj; simpa [Addr.add] using h

/-- 'append(s, v...)': i is the length. -/
theorem f20_end (base : Nat) (a : Option Addr) (n c : Nat) (xs : List Value) (vb : Nat) (p : Value) (w : World) (hown : w.ownsRow base 35 1 (.slice a n c) n xs) (hn : n ≤ 65536) (hp : p.oneCell' = true)
    (hvb : w.heap[vb]? = some (.cells #[p] 35 (0, 0))) (hbase : base ≤ w.heap.size) (hnc : n ≤ c) (hc : c ≤ maxLen) :
    Calls Try.prog 20 #[.slice a n c, .int .i64 n, .slice (some ⟨vb, 0, none⟩) 1 1] w fun e w' =>
      ∃ v', e = .returned v' ∧ w'.ownsRow base 35 1 v' (n + 1) (xs ++ [p]) ∧ w.grownBy w' (Value.ownBlock (.slice a n c)) ∧ (v'.ownBlock = Value.ownBlock (.slice a n c) ∨ v'.ownBlock = some w.heap.size) := by
  obtain ⟨i0, hi0, hz0, hzs, hzb⟩ := info_parts Try.info35
  have hcell : w.cell? ⟨vb, 0, none⟩ = some p := by rw [cell_of_row w vb 0 _ 35 _ hvb]; rfl
  unfold maxLen at hc
  rcases Nat.lt_or_ge n c with hlt | hge
  · go_enter Try.func20, Try.ntmps20
    go_wp2_with (at_builtin; refine wpList_append_own_at _ rfl _ _ 25 rfl base 35 i0 (.pointer none) 1 8 Try.underlying25 hi0 hz0 hzs hzb rfl (by decide) (.slice a n c) n xs rfl hown ⟨vb, 0, none⟩ 1 1 [p] rfl rfl (cells1 hcell) (by simpa using hp) (by unfold maxLen; omega) (by omega) hbase ?_; intro v' w1 hown' hgrow hnil hloc)
    go_ret
    exact ⟨v', rfl, hown', hgrow, hloc⟩
  · obtain rfl : c = n := by omega
    go_enter Try.func20, Try.ntmps20
    go_wp2_with (at_builtin; refine wpList_append_own_at _ rfl _ _ 25 rfl base 35 i0 (.pointer none) 1 8 Try.underlying25 hi0 hz0 hzs hzb rfl (by decide) (.slice a c c) c xs rfl hown ⟨vb, 0, none⟩ 1 1 [p] rfl rfl (cells1 hcell) (by simpa using hp) (by unfold maxLen; omega) (by omega) hbase ?_; intro v' w1 hown' hgrow hnil hloc)
    go_ret
    exact ⟨v', rfl, hown', hgrow, hloc⟩

theorem ins_take (p : Value) (cs cur : List Value) (i n : Nat) (hC : n + 1 ≤ cs.length) (hi : i < n) (hn : n ≤ cur.length) (h4 : cs.take i = cur.take i) :
    ((cs.take i ++ [p] ++ cs.drop (i + 1)).take (i + 1) ++ (cur.take n).drop i ++ (cs.take i ++ [p] ++ cs.drop (i + 1)).drop (i + 1 + (n - i))).take (n + 1) = (cur.take n).take i ++ p :: (cur.take n).drop i := by
  have hl : (cs.take i ++ [p]).length = i + 1 := by simp; omega
  have e1 : (cs.take i ++ [p] ++ cs.drop (i + 1)).take (i + 1) = cs.take i ++ [p] := List.take_left' hl
  rw [e1]
  have hl2 : (cs.take i ++ [p] ++ (cur.take n).drop i).length = n + 1 := by simp; omega
  rw [List.take_left' hl2, h4, List.take_take, Nat.min_eq_left (by omega)]
  simp

/-- i < len(s), no room: a new row -/
theorem f20_grow (base g n c i : Nat) (cur : Array Value) (vb : Nat) (p : Value) (w : World) (hg : w.heap[g]? = some (.cells cur 35 (0, 0))) (hcs : cur.size = c) (hnc : n ≤ c) (hn : n ≤ 65536) (hi : i < n) (hroom : c < n + 1)
    (hp : p.oneCell' = true) (h1 : ∀ u ∈ cur.toList.take n, u.oneCell' = true) (hvb : w.heap[vb]? = some (.cells #[p] 35 (0, 0))) (hbase : base ≤ w.heap.size) :
    Calls Try.prog 20 #[.slice (some ⟨g, 0, none⟩) n c, .int .i64 i, .slice (some ⟨vb, 0, none⟩) 1 1] w fun e w' =>
      ∃ v', e = .returned v' ∧ w'.ownsRow base 35 1 v' (n + 1) ((cur.toList.take n).take i ++ p :: (cur.toList.take n).drop i) ∧ w.grownBy w' (some g) ∧ v'.ownBlock = some w.heap.size := by
  have hcell : w.cell? ⟨vb, 0, none⟩ = some p := by rw [cell_of_row w vb 0 _ 35 _ hvb]; rfl
  have hgl : g < w.heap.size := (Array.getElem?_eq_some_iff.1 hg).1
  have hvl : vb < w.heap.size := (Array.getElem?_eq_some_iff.1 hvb).1
  have hk : (n : Int) + 1 - (i : Int) = ((n + 1 - i : Nat) : Int) := by omega
  have hz := fun ty => run_zeros w ty g i c (n + 1 - i) cur hg (by omega) (by omega) (by omega) (by omega)
  obtain ⟨C, cs', hC1, hC2, hC3, hC4, hrun⟩ := hz 25
  have hik : i + (n + 1 - i) = n + 1 := by omega
  rw [hik] at hC1 hrun
  rw [← hk] at hrun
  clear hz hk hik
  have hN0 : ((w.alloc (.cells cs' 35)).drew).heap[w.heap.size]? = some (.cells cs' 35 (0, 0)) := heap_alloc_new w _
  obtain ⟨R1, hR1⟩ : ∃ R1, R1 = (cs'.toList.take i ++ [p] ++ cs'.toList.drop (i + 1)).toArray := ⟨_, rfl⟩
  have hs1 : R1.size = C := by rw [hR1]; simp; omega
  have hcp1 : ∀ dC, (Builtin.copy_ #[25, 25] 3 #[.slice (some ⟨w.heap.size, i, none⟩) (n + 1 - i) dC, .slice (some ⟨vb, 0, none⟩) 1 1]).run Try.prog ((w.alloc (.cells cs' 35)).drew) =
      .ok (goInt 1) (((w.alloc (.cells cs' 35)).drew).setRow w.heap.size R1) := fun dC => by
    have h := run_copy_row (P := Try.prog) ((w.alloc (.cells cs' 35)).drew) 25 25 3 35 w.heap.size i (n + 1 - i) dC ⟨vb, 0, none⟩ 1 1 cs' 35 [p] Try.underlying25 size35 hN0 (by simp [Nat.min_def]; omega)
      (cells1 (by show (w.alloc (.cells cs' 35)).cell? _ = _; rw [World.cell?_alloc_past _ _ _ hvl]; exact hcell)) (by simp; omega) (by simpa using hp)
    rw [h, hR1]; rfl
  have hN1 : ((((w.alloc (.cells cs' 35)).drew).setRow w.heap.size R1).drew).heap[w.heap.size]? = some (.cells R1 35 (0, 0)) := setRow_heap _ _ _ _ _ _ hN0
  obtain ⟨R2, hR2⟩ : ∃ R2, R2 = (R1.toList.take (i + 1) ++ (cur.toList.take n).drop i ++ R1.toList.drop (i + 1 + (n - i))).toArray := ⟨_, rfl⟩
  have hs2 : R2.size = C := by rw [hR2]; simp; omega
  have hcp2 : ∀ dC sC, (Builtin.copy_ #[25, 25] 3 #[.slice (some ⟨w.heap.size, i + 1, none⟩) (n + 1 - (i + 1)) dC, .slice (some ⟨g, i, none⟩) (n - i) sC]).run Try.prog ((((w.alloc (.cells cs' 35)).drew).setRow w.heap.size R1).drew) =
      .ok (goInt (n - i : Nat)) (((((w.alloc (.cells cs' 35)).drew).setRow w.heap.size R1).drew).setRow w.heap.size R2) := fun dC sC => by
    have hl : ((cur.toList.take n).drop i).length = n - i := by simp; omega
    have h := run_copy_row (P := Try.prog) ((((w.alloc (.cells cs' 35)).drew).setRow w.heap.size R1).drew) 25 25 3 35 w.heap.size (i + 1) (n + 1 - (i + 1)) dC ⟨g, i, none⟩ (n - i) sC R1 35 ((cur.toList.take n).drop i) Try.underlying25 size35 hN1 (by rw [hl]; simp only [Nat.min_def]; split <;> omega)
      (fun j v hj => by
        rw [Addr.add_lit]
        have e1 : ((((w.alloc (.cells cs' 35)).drew).setRow w.heap.size R1).drew).heap[g]? = some (.cells cur 35 (0, 0)) := (setRow_other _ _ _ _ (by omega)).trans ((heap_alloc_old w _ hgl).trans hg)
        rw [cell_of_row _ g (i + j) cur 35 (0, 0) e1]
        rw [List.getElem?_drop, List.getElem?_take] at hj
        split at hj
        · simpa using hj
        · cases hj) (by rw [hl]; omega) (fun v hv => h1 v (List.mem_of_mem_drop hv))
    rw [h, hl, hR2]
  clear hN0 hN1
  have HR1 : Hid (R1 = (cs'.toList.take i ++ [p] ++ cs'.toList.drop (i + 1)).toArray) := hR1
  have HR2 : Hid (R2 = (R1.toList.take (i + 1) ++ (cur.toList.take n).drop i ++ R1.toList.drop (i + 1 + (n - i))).toArray) := hR2
  have HC4 : Hid (cs'.toList.take i = cur.toList.take i) := hC4
  clear hR1 hR2 hC4
  have hw1 : IntKind.i64.wrap ((i : Int) + 1) = (i : Int) + 1 := by rw [IntKind.wrap_i64]; omega
  have hb1 : (0 : Int) ≤ (i : Int) + 1 := by omega
  have hb3 : (i : Int) ≤ (n : Int) := by omega
  have hb4 : ¬ C = i + 1 := by omega
  have hb5 : ¬ c = i := by omega
  unfold maxLen at hC2
  go_enter Try.func20, Try.ntmps20
  go_wp2_with (first | (at_builtin; refine wp_app rfl _ _ 3 rfl _ _ rfl rfl hrun ?_) | (at_builtin; refine wp_cpy rfl _ _ rfl _ _ rfl rfl (hcp1 _) ?_))
  go_region_law (refine step_cpy rfl _ _ rfl (.slice (some ⟨w.heap.size, i + 1, none⟩) (n + 1 - (i + 1)) (C - (i + 1))) (.slice (some ⟨g, i, none⟩) (n - i) (c - i)) (by simp [Act.eval, Act.put]) (by simp [Act.eval, Act.put]) (hcp2 _ _) ?_)
  go_wp2
  go_ret
  have hN2 : (((((w.alloc (.cells cs' 35)).drew).setRow w.heap.size R1).drew).setRow w.heap.size R2).heap[w.heap.size]? = some (.cells R2 35 (0, 0)) :=
    setRow_heap _ _ _ _ _ _ (show ((((w.alloc (.cells cs' 35)).drew).setRow w.heap.size R1).drew).heap[w.heap.size]? = some (.cells R1 35 (0, 0)) from setRow_heap _ _ _ _ _ _ (show ((w.alloc (.cells cs' 35)).drew).heap[w.heap.size]? = some (.cells cs' 35 (0, 0)) from heap_alloc_new w _))
  have hgr : w.grownBy (((((w.alloc (.cells cs' 35)).drew).setRow w.heap.size R1).drew).setRow w.heap.size R2) (some g) :=
    ⟨rfl, rfl, rfl, by simp [World.setRow], fun k hk _ => (setRow_other _ _ _ _ (by omega)).trans ((show ((((w.alloc (.cells cs' 35)).drew).setRow w.heap.size R1).drew).heap[k]? = _ from setRow_other _ _ _ _ (by omega)).trans (heap_alloc_old w _ hk))⟩
  refine ⟨_, rfl, ⟨?_, .inr ⟨w.heap.size, C, R2, rfl, hbase, hN2, hC1, by unfold maxLen; omega, by omega, ?_⟩⟩, hgr, rfl⟩
  · simp; omega
  · have e1 := HR1.out
    have e2 := HR2.out
    rw [Nat.mul_one, e2, e1]
    exact ins_take p cs'.toList cur.toList i n (by simp; omega) hi (by simp; omega) HC4.out

theorem ins_take2 (p : Value) (cur : List Value) (i n : Nat) (hC : n + 1 ≤ cur.length) (hi : i < n) :
    ((cur.take (i + 1) ++ (cur.take n).drop i ++ cur.drop (i + 1 + (n - i))).take i ++ [p] ++ (cur.take (i + 1) ++ (cur.take n).drop i ++ cur.drop (i + 1 + (n - i))).drop (i + 1)).take (n + 1) = (cur.take n).take i ++ p :: (cur.take n).drop i := by
  have e1 : (cur.take (i + 1) ++ (cur.take n).drop i ++ cur.drop (i + 1 + (n - i))).take i = cur.take i := by
    rw [List.append_assoc, List.take_append_of_le_length (by simp; omega), List.take_take, Nat.min_eq_left (by omega)]
  have e2 : (cur.take (i + 1) ++ (cur.take n).drop i ++ cur.drop (i + 1 + (n - i))).drop (i + 1) = (cur.take n).drop i ++ cur.drop (i + 1 + (n - i)) := by
    rw [List.append_assoc]; exact List.drop_left' (by simp; omega)
  rw [e1, e2]
  have hl2 : (cur.take i ++ [p] ++ (cur.take n).drop i).length = n + 1 := by simp; omega
  rw [← List.append_assoc, List.take_left' hl2, List.take_take, Nat.min_eq_left (by omega)]
  simp

/-- i < len(s), room: in place -/
theorem f20_shift (base g n c i : Nat) (cur : Array Value) (vb : Nat) (p : Value) (w : World) (hg : w.heap[g]? = some (.cells cur 35 (0, 0))) (hcs : cur.size = c) (hcm : c ≤ maxLen) (hn : n ≤ 65536) (hi : i < n) (hroom : n + 1 ≤ c)
    (hp : p.oneCell' = true) (h1 : ∀ u ∈ cur.toList.take n, u.oneCell' = true) (hvb : w.heap[vb]? = some (.cells #[p] 35 (0, 0))) (hne : vb ≠ g) (hbase : base ≤ g) :
    Calls Try.prog 20 #[.slice (some ⟨g, 0, none⟩) n c, .int .i64 i, .slice (some ⟨vb, 0, none⟩) 1 1] w fun e w' =>
      ∃ v', e = .returned v' ∧ w'.ownsRow base 35 1 v' (n + 1) ((cur.toList.take n).take i ++ p :: (cur.toList.take n).drop i) ∧ w.grownBy w' (some g) ∧ v'.ownBlock = some g := by
  have hgl : g < w.heap.size := (Array.getElem?_eq_some_iff.1 hg).1
  have hl : ((cur.toList.take n).drop i).length = n - i := by simp; omega
  have hov := fun o lb cb => run_over w vb g o lb cb p cur hne hvb hg (by omega)
  obtain ⟨R1, hR1⟩ : ∃ R1, R1 = (cur.toList.take (i + 1) ++ (cur.toList.take n).drop i ++ cur.toList.drop (i + 1 + (n - i))).toArray := ⟨_, rfl⟩
  have hs1 : R1.size = c := by rw [hR1]; simp; omega
  have hcp1 : ∀ dC sC, (Builtin.copy_ #[25, 25] 3 #[.slice (some ⟨g, i + 1, none⟩) (n + 1 - (i + 1)) dC, .slice (some ⟨g, i, none⟩) (n + 1 - i) sC]).run Try.prog w.drew =
      .ok (goInt (n - i : Nat)) (w.drew.setRow g R1) := fun dC sC => by
    have h := run_copy_row (P := Try.prog) w.drew 25 25 3 35 g (i + 1) (n + 1 - (i + 1)) dC ⟨g, i, none⟩ (n + 1 - i) sC cur 35 ((cur.toList.take n).drop i) Try.underlying25 size35 hg (by rw [hl]; simp only [Nat.min_def]; split <;> omega)
      (fun j v hj => by
        rw [Addr.add_lit, cell_of_row w.drew g (i + j) cur 35 (0, 0) hg]
        rw [List.getElem?_drop, List.getElem?_take] at hj
        split at hj
        · simpa using hj
        · cases hj) (by rw [hl]; omega) (fun v hv => h1 v (List.mem_of_mem_drop hv))
    rw [h, hl, hR1]
  obtain ⟨R2, hR2⟩ : ∃ R2, R2 = (R1.toList.take i ++ [p] ++ R1.toList.drop (i + 1)).toArray := ⟨_, rfl⟩
  have hs2 : R2.size = c := by rw [hR2]; simp; omega
  have hN1 : (w.drew.setRow g R1).heap[g]? = some (.cells R1 35 (0, 0)) := setRow_heap _ _ _ _ _ _ hg
  have hv1 : (w.drew.setRow g R1).heap[vb]? = some (.cells #[p] 35 (0, 0)) := (setRow_other _ _ _ _ hne).trans hvb
  have hcp2 : ∀ dC, (Builtin.copy_ #[25, 25] 3 #[.slice (some ⟨g, i, none⟩) (n + 1 - i) dC, .slice (some ⟨vb, 0, none⟩) 1 1]).run Try.prog (w.drew.setRow g R1) =
      .ok (goInt 1) ((w.drew.setRow g R1).setRow g R2) := fun dC => by
    have h := run_copy_row (P := Try.prog) (w.drew.setRow g R1) 25 25 3 35 g i (n + 1 - i) dC ⟨vb, 0, none⟩ 1 1 R1 35 [p] Try.underlying25 size35 hN1 (by simp [Nat.min_def]; omega)
      (cells1 (by rw [cell_of_row _ vb 0 _ 35 _ hv1]; rfl)) (by simp; omega) (by simpa using hp)
    rw [h, hR2]; rfl
  have hN2 : ((w.drew.setRow g R1).setRow g R2).heap[g]? = some (.cells R2 35 (0, 0)) := setRow_heap _ _ _ _ _ _ hN1
  have hgr : w.grownBy ((w.drew.setRow g R1).setRow g R2) (some g) :=
    ⟨rfl, rfl, rfl, by simp [World.setRow], fun k hk hne => (setRow_other _ _ _ _ (by simpa using hne)).trans (setRow_other _ _ _ _ (by simpa using hne))⟩
  have HF : Hid (R2.toList.take (n + 1) = (cur.toList.take n).take i ++ p :: (cur.toList.take n).drop i) := by
    show _ = _
    rw [hR2, hR1]
    exact ins_take2 p cur.toList i n (by simp; omega) hi
  clear hR1 hR2 hN1 hv1
  have hw1 : IntKind.i64.wrap ((i : Int) + 1) = (i : Int) + 1 := by rw [IntKind.wrap_i64]; omega
  have hb1 : (0 : Int) ≤ (i : Int) + 1 := by omega
  have hb3 : (i : Int) ≤ (n : Int) + 1 := by omega
  have hb4 : ¬ c = i + 1 := by omega
  have hb5 : ¬ c = i := by omega
  have hb6 : i ≤ n := by omega
  unfold maxLen at hcm
  have HN2 : Hid (((w.drew.setRow g R1).setRow g R2).heap[g]? = some (.cells R2 35 (0, 0))) := hN2
  clear hN2
  go_enter Try.func20, Try.ntmps20
  go_wp2_with (simp only [hov])
  go_region_law (refine step_cpy rfl _ _ rfl (.slice (some ⟨g, i + 1, none⟩) (n + 1 - (i + 1)) (c - (i + 1))) (.slice (some ⟨g, i, none⟩) (n + 1 - i) (c - i)) (by simp [Act.eval, Act.put]) (by simp [Act.eval, Act.put]) (hcp1 _ _) ?_)
  go_wp2_with (at_builtin; refine wp_cpy rfl _ _ rfl _ _ rfl rfl (hcp2 _) ?_)
  go_ret
  exact ⟨_, rfl, ⟨by simp; omega, .inr ⟨g, c, R2, rfl, hbase, HN2.out, hroom, by unfold maxLen; omega, by omega, by rw [Nat.mul_one]; exact HF.out⟩⟩, hgr, rfl⟩

/-- slices.Insert(s, i, p), s a row of the call's own (nil too) -/
theorem f20_any0 (base : Nat) (v : Value) (n i : Nat) (xs : List Value) (vb : Nat) (p : Value) (w : World) (hown : w.ownsRow base 35 1 v n xs) (hi : i ≤ n) (hn : n ≤ 65536) (hp : p.oneCell' = true) (hxs : ∀ u ∈ xs, u.oneCell' = true)
    (hvb : w.heap[vb]? = some (.cells #[p] 35 (0, 0))) (hne : v.ownBlock ≠ some vb) (hbase : base ≤ w.heap.size) :
    Calls Try.prog 20 #[v, .int .i64 i, .slice (some ⟨vb, 0, none⟩) 1 1] w fun e w' =>
      ∃ v', e = .returned v' ∧ w'.ownsRow base 35 1 v' (n + 1) (xs.take i ++ p :: xs.drop i) ∧ w.grownBy w' v.ownBlock ∧ (v'.ownBlock = v.ownBlock ∨ v'.ownBlock = some w.heap.size) := by
  have hlen : xs.length = n := by simpa using hown.1
  have hend : ∀ a c, v = .slice a n c → n ≤ c → c ≤ maxLen → i = n → Calls Try.prog 20 #[v, .int .i64 i, .slice (some ⟨vb, 0, none⟩) 1 1] w fun e w' =>
      ∃ v', e = .returned v' ∧ w'.ownsRow base 35 1 v' (n + 1) (xs.take i ++ p :: xs.drop i) ∧ w.grownBy w' v.ownBlock ∧ (v'.ownBlock = v.ownBlock ∨ v'.ownBlock = some w.heap.size) := by
    intro a c hv hnc hc hin
    subst hv
    subst hin
    have e1 : xs.take i ++ p :: xs.drop i = xs ++ [p] := by rw [List.take_of_length_le (by omega), List.drop_eq_nil_of_le (by omega)]
    rw [e1]
    exact f20_end base a i c xs vb p w hown hn hp hvb hbase hnc hc
  rcases hown.2 with ⟨hv, h0⟩ | ⟨g, c, cur, hv, hbg, hg, hnc, hcm, hcs, htake⟩
  · subst h0
    exact hend none 0 hv (Nat.le_refl _) (Nat.zero_le _) (by omega)
  · by_cases hin : i = n
    · exact hend _ c hv hnc hcm hin
    · subst hv
      rw [Nat.mul_one] at htake
      subst htake
      have hne' : vb ≠ g := fun e => hne (by rw [e]; rfl)
      by_cases hroom : n + 1 ≤ c
      · exact (f20_shift base g n c i cur vb p w hg (by omega) hcm hn (by omega) hroom hp hxs hvb hne' hbg).mono fun e w' ⟨v', h1, h2, h3, h4⟩ => ⟨v', h1, h2, h3, .inl h4⟩
      · exact (f20_grow base g n c i cur vb p w hg (by omega) hnc hn (by omega) (by omega) hp hxs hvb hbase).mono fun e w' ⟨v', h1, h2, h3, h4⟩ => ⟨v', h1, h2, h3, .inr h4⟩

theorem ownsRow_shape {w : World} {base e size : Nat} {v : Value} {n : Nat} {xs : List Value} (h : w.ownsRow base e size v n xs) : ∃ a c, v = .slice a n c := by
  rcases h.2 with ⟨rfl, rfl⟩ | ⟨g, c, _, rfl, _⟩
  · exact ⟨_, _, rfl⟩
  · exact ⟨_, _, rfl⟩

theorem f20_any (base : Nat) (v : Value) (n i : Nat) (xs : List Value) (vb : Nat) (p : Value) (w : World) (hown : w.ownsRow base 35 1 v n xs) (hi : i ≤ n) (hn : n ≤ 65536) (hp : p.oneCell' = true) (hxs : ∀ u ∈ xs, u.oneCell' = true)
    (hvb : w.heap[vb]? = some (.cells #[p] 35 (0, 0))) (hne : v.ownBlock ≠ some vb) (hbase : base ≤ w.heap.size) :
    Calls Try.prog 20 #[v, .int .i64 i, .slice (some ⟨vb, 0, none⟩) 1 1] w fun e w' =>
      ∃ a c, e = .returned (.slice a (n + 1) c) ∧ w'.ownsRow base 35 1 (.slice a (n + 1) c) (n + 1) (xs.take i ++ p :: xs.drop i) ∧ w.grownBy w' v.ownBlock ∧ (Value.ownBlock (.slice a (n + 1) c) = v.ownBlock ∨ Value.ownBlock (.slice a (n + 1) c) = some w.heap.size) := by
  refine (f20_any0 base v n i xs vb p w hown hi hn hp hxs hvb hne hbase).mono ?_
  rintro e w' ⟨v', rfl, h1, h2, h3⟩
  obtain ⟨a, c, rfl⟩ := ownsRow_shape h1
  exact ⟨a, c, rfl, h1, h2, h3⟩
end Go.Proofs.Qxb6618493a
