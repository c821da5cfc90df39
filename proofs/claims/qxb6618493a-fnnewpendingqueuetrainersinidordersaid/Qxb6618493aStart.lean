/- ZZtrainer's contracts; the queue as newPendingQueue leaves it. -/
import Derived.Test.Qxb6618493aTrainer
import Derived.LaidEqlPtr
namespace Go.Proofs.Qxb6618493a
open Go.RowKit Go.Maps

theorem info45 : ∃ j, Try.prog.info? 45 = some j := Option.isSome_iff_exists.1 (by kernel_rfl)
theorem eql35 (w : World) (a : Addr) : (binOp .eql 35 (.pointer (some a)) (.pointer (some a))).run Try.prog w = .ok (.bool true) w := by
  obtain ⟨j, hj⟩ := info45
  exact run_eql_ptr_same w a Try.underlying35 hj
theorem neq35 (w : World) (a : Addr) : (binOp .neq 35 (.pointer (some a)) (.pointer (some a))).run Try.prog w = .ok (.bool false) w := by
  obtain ⟨j, hj⟩ := info45
  have h : ∀ d : Nat, (Op.equalIn (d + 1) 35 (.pointer (some a)) (.pointer (some a))).run Try.prog w = .ok true w := fun d => by
    simp [Op.equalIn, run_underlying Try.underlying35, sizeOf, typeInfo, hj, run_sameAddr_same]
  simp only [binOp]
  simp [Op.equal, Op.maxDepth, h 9999]

theorem f11_found {w : World} {base pb lb bm n : Nat} {recs : List Rec} (h : PQ w base pb lb bm n recs) (r : Rec) (hr : r ∈ recs) (hs : r.1.size ≤ maxLen) :
    Calls Try.prog 11 #[.pointer (some ⟨pb, 0, none⟩), .string r.1] w fun e w' => e = .returned (.pointer (some ⟨r.2, 0, none⟩)) ∧ w' = w := by
  have H : Hid (PQ w base pb lb bm n recs) := h
  clear h
  go_enter Try.func11, Try.ntmps11
  go_wp2_with (go_at_call 17; refine (f17_found H.out r hr hs).mono ?_; rintro e w' ⟨rfl, rfl⟩)
  go_ret
  exact ⟨rfl, rfl⟩

theorem f11_new {w : World} {base pb lb bm n : Nat} {recs : List Rec} (h : PQ w base pb lb bm n recs) (id : ByteArray) (hs : id.size ≤ maxLen) (ha : AbsentR id recs) (hn : recs.length ≤ 65535) :
    Calls Try.prog 11 #[.pointer (some ⟨pb, 0, none⟩), .string id] w fun e w' => e = .returned (.pointer (some ⟨w.heap.size, 0, none⟩)) ∧ PQ w' base pb lb bm n (insR recs (id, w.heap.size)) ∧ Below base w w' := by
  have H : Hid (PQ w base pb lb bm n recs) := h
  clear h
  go_enter Try.func11, Try.ntmps11
  go_wp2_with (go_at_call 17; refine (f17_new H.out id hs ha hn).mono ?_; rintro e w' ⟨rfl, hp, hb⟩)
  go_ret
  exact ⟨rfl, hp, hb⟩

theorem nils_get (n j : Nat) (hj : j < n) : (nils n)[j]? = some (.pointer none) := by
  have h : (nils n).toList[j]? = some (Value.pointer none) := by
    unfold nils
    rw [toList_madeCells_one]
    simp [hj]
  simpa using h

theorem pq_start (w : World) (c1 c2 : Array Value) (n : Nat) :
    PQ (((((w.alloc (.cells c1 27)).alloc (.cells c2 27)).alloc (.cells (nils n) 31)).alloc (.map #[] 0)).alloc (.cells #[.slice (some ⟨w.heap.size + 1 + 1, 0, none⟩) n n, .int .i64 0, .map (some (w.heap.size + 1 + 1 + 1)), .slice none 0 0] 27))
      w.heap.size (w.heap.size + 1 + 1 + 1 + 1) (w.heap.size + 1 + 1) (w.heap.size + 1 + 1 + 1) n [] := by
  obtain ⟨w3, h3⟩ : ∃ w3, w3 = ((w.alloc (.cells c1 27)).alloc (.cells c2 27)).alloc (.cells (nils n) 31) := ⟨_, rfl⟩
  have s3 : w3.heap.size = w.heap.size + 1 + 1 + 1 := by rw [h3]; simp
  have b3 : w3.heap[w.heap.size + 1 + 1]? = some (.cells (nils n) 31) := by
    have := heap_alloc_new ((w.alloc (.cells c1 27)).alloc (.cells c2 27)) (.cells (nils n) 31)
    rw [h3]; simpa using this
  rw [← h3]
  have m4 : (w3.alloc (.map #[] 0)).ownsMap Try.prog 9 ptrElem w3.heap.size 0 (.map []) := World.ownsMap_made _ _ _ _
  obtain ⟨w4, h4⟩ : ∃ w4, w4 = w3.alloc (.map #[] 0) := ⟨_, rfl⟩
  rw [← h4] at m4 ⊢
  have s4 : w4.heap.size = w.heap.size + 1 + 1 + 1 + 1 := by rw [h4]; simp [s3]
  have b4 : w4.heap[w.heap.size + 1 + 1]? = some (.cells (nils n) 31) := by rw [h4]; exact (heap_alloc_old w3 _ (by omega)).trans b3
  obtain ⟨cs, hcs⟩ : ∃ cs : Array Value, cs = #[.slice (some ⟨w.heap.size + 1 + 1, 0, none⟩) n n, .int .i64 0, .map (some (w.heap.size + 1 + 1 + 1)), .slice none 0 0] := ⟨_, rfl⟩
  have b5 : (w4.alloc (.cells cs 27)).heap[w.heap.size + 1 + 1 + 1 + 1]? = some (.cells cs 27 (0, 0)) := by rw [← s4]; exact heap_alloc_new w4 _
  have b5' : (w4.alloc (.cells cs 27)).heap[w.heap.size + 1 + 1]? = some (.cells (nils n) 31) := (heap_alloc_old w4 _ (by omega)).trans b4
  rw [← hcs]
  refine ⟨?_, ?_, ?_, ⟨none, 0, ?_, World.ownsRow_nil _ _ _ _, ?_⟩, frozen_of_row _ _ _ _ _ b5, ?_, ⟨.map [], ?_, ⟨?_, ?_, rfl⟩⟩, ?_, List.Pairwise.nil, ⟨by omega, by omega, by omega⟩, ?_, by omega⟩
  · rw [cell_of_row _ _ _ _ _ _ b5, hcs]; rfl
  · rw [cell_of_row _ _ _ _ _ _ b5, hcs]; rfl
  · rw [cell_of_row _ _ _ _ _ _ b5, hcs]; rfl
  · rw [cell_of_row _ _ _ _ _ _ b5, hcs]; rfl
  · intro k hk; simp [Value.ownBlock] at hk
  · intro j hj
    rw [cell_of_row _ _ _ _ _ _ b5']; exact nils_get n j hj
  · rw [← s3]; exact m4.alloc _
  · intro r hr; simp at hr
  · intro s _; rfl
  · intro r hr; simp at hr
  · simp [s4]
end Go.Proofs.Qxb6618493a
