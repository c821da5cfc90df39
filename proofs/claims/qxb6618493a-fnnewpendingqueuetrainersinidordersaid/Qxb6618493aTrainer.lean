/- (*pendingQueue).trainer: the queue's state as one word, and the two contracts: the id is there; it is new. -/
import Derived.Test.Qxb6618493aSearch
import Derived.Test.Qxb6618493aInsert
import Derived.Test.Qxb6618493aPlain
import Derived.Maps.OwnSet
namespace Go.Proofs.Qxb6618493a
open Go.RowKit Go.Maps

theorem toList_inj (x y : ByteArray) (h : x.toList = y.toList) : x = y := by
  rw [ByteArray.toList_eq, ByteArray.toList_eq] at h; exact ba_ext h

/-- how an element of the map reads: nil, or the number of the record's block -/
def ptrElem : Value → Option (DataW Unit × List MemPlace)
  | .pointer none => some (.nil, [])
  | .pointer (some ⟨b, 0, none⟩) => some (.lit (.int .i64 b), [])
  | _ => none
theorem ptrElem_nil {v : Value} {ps : List MemPlace} (h : ptrElem v = some (.nil, ps)) : v = .pointer none := by
  unfold ptrElem at h; split at h <;> simp at h; rfl
theorem ptrElem_some {v : Value} {b : Nat} {ps : List MemPlace} (h : ptrElem v = some (.lit (.int .i64 b), ps)) : v = .pointer (some ⟨b, 0, none⟩) := by
  unfold ptrElem at h; split at h <;> simp at h
  obtain ⟨h, _⟩ := h
  have : (_ : Nat) = b := Int.ofNat_inj.1 h
  rw [this]

theorem law9 : Keyed Try.prog 9 := string_keyed Try.underlying9
theorem zero35 (w : World) : (zeroValue 35).run Try.prog w = .ok (.pointer none) w := by kernel_rfl
theorem key9 {s : ByteArray} (hs : s.size ≤ maxLen) : keyOf Try.prog 9 (.string s) = some (.string s.data.toList) := WideMaps.keyOf_string_mk Try.underlying9 hs

def ptrR (r : Rec) : Value := .pointer (some ⟨r.2, 0, none⟩)

/-- what the map holds, in the records' words -/
structure MapIs (D : DataW Unit) (recs : List Rec) : Prop where
  here : ∀ r ∈ recs, D.atKey (.string r.1.data.toList) .nil = .lit (.int .i64 r.2)
  gone : ∀ s, AbsentR s recs → Maps.has D (.string s.data.toList) = false
  size : Maps.size D = recs.length

/-- the queue at block pb, its leases at lb (n of them, all nil), its map at bm, its records -/
structure PQ (w : World) (base pb lb bm n : Nat) (recs : List Rec) : Prop where
  c0 : w.cell? ⟨pb, 0, none⟩ = some (.slice (some ⟨lb, 0, none⟩) n n)
  c1 : w.cell? ⟨pb, 1, none⟩ = some (.int .i64 0)
  c2 : w.cell? ⟨pb, 2, none⟩ = some (.map (some bm))
  c3 : ∃ a c, w.cell? ⟨pb, 3, none⟩ = some (.slice a recs.length c) ∧ w.ownsRow base 35 1 (.slice a recs.length c) recs.length (recs.map ptrR) ∧
    ∀ k, Value.ownBlock (.slice a recs.length c) = some k → k ≠ pb ∧ k ≠ lb ∧ k ≠ bm ∧ ∀ r ∈ recs, k ≠ r.2
  f3 : w.frozen? ⟨pb, 3, none⟩ = false
  nl : ∀ j, j < n → w.cell? ⟨lb, j, none⟩ = some (.pointer none)
  mp : ∃ D, w.ownsMap Try.prog 9 ptrElem bm recs.length D ∧ MapIs D recs
  rc : ∀ r ∈ recs, w.cell? ⟨r.2, 0, none⟩ = some (.string r.1) ∧ w.cell? ⟨r.2, 1, none⟩ = some (.slice none 0 0) ∧ w.cell? ⟨r.2, 2, none⟩ = some (.int .i64 0) ∧ base ≤ r.2
  so : SortedR recs
  bs : base ≤ pb ∧ base ≤ lb ∧ base ≤ bm
  ll : lb < w.heap.size
  pl : lb ≠ pb

/-- the id is there -/
theorem f17_found {w : World} {base pb lb bm n : Nat} {recs : List Rec} (h : PQ w base pb lb bm n recs) (r : Rec) (hr : r ∈ recs) (hs : r.1.size ≤ maxLen) :
    Calls Try.prog 17 #[.pointer (some ⟨pb, 0, none⟩), .string r.1] w fun e w' => e = .returned (ptrR r) ∧ w' = w := by
  obtain ⟨D, hown, hD⟩ := h.mp
  have c2 := h.c2
  obtain ⟨v, ps, hrun, hv⟩ := hown.lookup law9 Try.underlying24 (zero35 w) (zd := .nil) (zp := []) rfl (key9 hs)
  rw [hD.here r hr] at hv
  rw [ptrElem_some hv] at hrun
  clear hv hown hD h
  go_enter Try.func17, Try.ntmps17
  go_wp2
  go_ret
  exact ⟨rfl, rfl⟩

/-- the search over the queue's own row -/
theorem f18_pq {w : World} {base : Nat} {a : Option Addr} {c : Nat} (recs : List Rec) (id : ByteArray) (hown : w.ownsRow base 35 1 (.slice a recs.length c) recs.length (recs.map ptrR))
    (hrc : ∀ r ∈ recs, w.cell? ⟨r.2, 0, none⟩ = some (.string r.1)) (so : SortedR recs) (hn : recs.length ≤ 65536) :
    Calls Try.prog 18 #[.slice a recs.length c, .string id, .func (.func 19) #[] #[]] w fun e w' => Found e (posR id recs) ∧ w' = w := by
  rcases hown.2 with ⟨hv, h0⟩ | ⟨g, c', cur, hv, hbg, hg, hnc, hcm, hcs, htake⟩
  · obtain rfl : recs = [] := List.eq_nil_of_length_eq_zero h0
    simp only [List.length_nil, Value.slice.injEq] at hv ⊢
    obtain ⟨rfl, _, rfl⟩ := hv
    refine (f18_nil id w).mono ?_
    rintro e w' ⟨rfl, rfl⟩
    exact ⟨⟨false, rfl⟩, rfl⟩
  · simp only [Value.slice.injEq] at hv
    obtain ⟨rfl, _, rfl⟩ := hv
    rw [Nat.mul_one] at htake
    refine f18_row g recs.length c (posR id recs) (fun j => (recs.getD j (⟨#[]⟩, 0)).2) (fun j => (recs.getD j (⟨#[]⟩, 0)).1) id w (by omega) ?_ ?_ (posR_le _ _) ?_ ?_
    · intro j hj
      rw [cell_of_row w g j cur 35 (0, 0) hg]
      have e1 : (cur.toList.take recs.length)[j]? = some (ptrR recs[j]) := by rw [htake]; simp [hj]
      rw [List.getElem?_take, if_pos hj] at e1
      simpa [ptrR, hj] using e1
    · intro j hj
      simpa [hj] using hrc recs[j] (List.getElem_mem _)
    · intro t ht
      have htl : t < recs.length := Nat.lt_of_lt_of_le ht (posR_le _ _)
      simpa [htl] using posR_lt id recs t htl ht
    · intro t ht htl
      simpa [htl] using posR_ge id recs so t htl ht

theorem map_cell_ne {w : World} {b o : Nat} {v : Value} {bm m : Nat} {D : DataW Unit} (h : w.cell? ⟨b, o, none⟩ = some v) (hown : w.ownsMap Try.prog 9 ptrElem bm m D) : b ≠ bm := by
  rintro rfl
  obtain ⟨es, clock, hb, _⟩ := hown
  simp [World.cell?, hb] at h

theorem ptrs_one (recs : List Rec) : ∀ u ∈ recs.map ptrR, u.oneCell' = true := by
  intro u hu
  obtain ⟨r, _, rfl⟩ := List.mem_map.1 hu
  rfl

theorem grown_setCell (w : World) (p : Addr) (u : Value) : w.grownBy (w.setCell p u) (some p.block) :=
  ⟨rfl, rfl, rfl, by simp [World.setCell], fun k _ hne => heap_setCell_other w p k u (by simpa using hne)⟩

theorem map_insR (recs : List Rec) (r : Rec) : (insR recs r).map ptrR = (recs.map ptrR).take (posR r.1 recs) ++ ptrR r :: (recs.map ptrR).drop (posR r.1 recs) := by
  simp [insR, List.map_take, List.map_drop]

theorem mapIs_put {D : DataW Unit} {recs : List Rec} (hD : MapIs D recs) (hm : Tidy D) {r : Rec} (ha : AbsentR r.1 recs) : MapIs (D.put (.string r.1.data.toList) (.lit (.int .i64 r.2))) (insR recs r) := by
  have hk : WideAt.IsKeyLit (.string r.1.data.toList) := trivial
  refine ⟨?_, ?_, ?_⟩
  · intro x hx
    rcases mem_insR.1 hx with rfl | hx
    · exact Maps.atKey_put_same hm.isMap hk _ _
    · rw [Maps.atKey_put_other (fun e => ha x hx (ba_ext (by simpa using e)))]
      exact hD.here x hx
  · intro s hs
    have h1 : s ≠ r.1 := fun e => hs r (mem_insR.2 (.inl rfl)) e.symm
    rw [Maps.has_put_other (fun e => h1 (ba_ext (by simpa using e)))]
    exact hD.gone s fun x hx => hs x (mem_insR.2 (.inr hx))
  · rw [Maps.size_put hm, hD.gone r.1 ha, length_insR, hD.size]
    simp

/-- what the four writes leave -/
theorem pq_new {w w3 w4 : World} {base pb lb bm n : Nat} {recs : List Rec} (h : PQ w base pb lb bm n recs) (id : ByteArray) (ha : AbsentR id recs) {D : DataW Unit} (hD : MapIs D recs) (hown : w.ownsMap Try.prog 9 ptrElem bm recs.length D)
    (hown3 : w3.ownsMap Try.prog 9 ptrElem bm (recs.length + 1) (D.put (.string id.data.toList) (.lit (.int .i64 w.heap.size))))
    (hturn : (w.alloc (.cells #[.string id, .slice none 0 0, .int .i64 0] 45)).mapTurned w3 bm)
    {a : Option Addr} {c : Nat} (hrow : w.ownsRow base 35 1 (.slice a recs.length c) recs.length (recs.map ptrR))
    (hap : ∀ k, Value.ownBlock (.slice a recs.length c) = some k → k ≠ pb ∧ k ≠ lb ∧ k ≠ bm ∧ ∀ r ∈ recs, k ≠ r.2)
    {a4 : Option Addr} {c4 : Nat} (hown4 : w4.ownsRow base 35 1 (.slice a4 (recs.length + 1) c4) (recs.length + 1) ((recs.map ptrR).take (posR id recs) ++ .pointer (some ⟨w.heap.size, 0, none⟩) :: (recs.map ptrR).drop (posR id recs)))
    (hg4 : (w3.alloc (.cells #[.pointer (some ⟨w.heap.size, 0, none⟩)] 35)).grownBy w4 (Value.ownBlock (.slice a recs.length c)))
    (hl4 : Value.ownBlock (.slice a4 (recs.length + 1) c4) = Value.ownBlock (.slice a recs.length c) ∨ Value.ownBlock (.slice a4 (recs.length + 1) c4) = some (w3.alloc (.cells #[.pointer (some ⟨w.heap.size, 0, none⟩)] 35)).heap.size) :
    PQ (w4.setCell ⟨pb, 3, none⟩ (.slice a4 (recs.length + 1) c4)) base pb lb bm n (insR recs (id, w.heap.size)) ∧ Below base w (w4.setCell ⟨pb, 3, none⟩ (.slice a4 (recs.length + 1) c4)) := by
  have hpl : pb < w.heap.size := block_lt_of_cell h.c2
  have hpm : pb ≠ bm := map_cell_ne h.c2 hown
  have hbml : bm < w.heap.size := hown.lt
  have G3 := (World.grownBy_alloc w (.cells #[.string id, .slice none 0 0, .int .i64 0] 45) (some bm)).trans hturn.grown
  have hs3 : w.heap.size + 1 ≤ w3.heap.size := by have := hturn.grown.size; simpa using this
  -- old blocks
  have old4 : ∀ b, b < w.heap.size → b ≠ bm → Value.ownBlock (.slice a recs.length c) ≠ some b → w4.heap[b]? = w.heap[b]? := fun b hb hbm hbo =>
    (hg4.block b (by simp; omega) (fun e => hbo e.symm)).trans ((heap_alloc_old w3 _ (by omega)).trans (G3.block b hb (by simpa using hbm)))
  have olp : ∀ b, Value.ownBlock (.slice a recs.length c) = some b → base ≤ b ∧ b < w.heap.size := hrow.lt
  have cell4 : ∀ b o v, w.cell? ⟨b, o, none⟩ = some v → Value.ownBlock (.slice a recs.length c) ≠ some b → w4.cell? ⟨b, o, none⟩ = some v := fun b o v hv hbo =>
    (World.cell?_of_block (a := ⟨b, o, none⟩) (old4 b (block_lt_of_cell hv) (map_cell_ne hv hown) hbo)).trans hv
  have hopb : Value.ownBlock (.slice a recs.length c) ≠ some pb := fun e => (hap pb e).1 rfl
  have holb : Value.ownBlock (.slice a recs.length c) ≠ some lb := fun e => (hap lb e).2.1 rfl
  have hobm : Value.ownBlock (.slice a recs.length c) ≠ some bm := fun e => (hap bm e).2.2.1 rfl
  have hN : Value.ownBlock (.slice a recs.length c) ≠ some w.heap.size := fun e => by have := (olp _ e).2; omega
  -- the record's block
  have rec3 : w3.heap[w.heap.size]? = some (.cells #[.string id, .slice none 0 0, .int .i64 0] 45) :=
    (hturn.grown.block w.heap.size (by simp) (by simp; omega)).trans (heap_alloc_new w _)
  have rec4 : w4.heap[w.heap.size]? = some (.cells #[.string id, .slice none 0 0, .int .i64 0] 45) :=
    (hg4.block w.heap.size (by simp; omega) (fun e => hN e.symm)).trans ((heap_alloc_old w3 _ (by omega)).trans rec3)
  -- the map's block
  have map4 : w4.ownsMap Try.prog 9 ptrElem bm (recs.length + 1) (D.put (.string id.data.toList) (.lit (.int .i64 w.heap.size))) :=
    (hown3.alloc _).kept hg4 (fun e => hobm e.symm)
  have G5 := grown_setCell w4 ⟨pb, 3, none⟩ (.slice a4 (recs.length + 1) c4)
  have cell5 : ∀ b o v, (⟨pb, 3, none⟩ : Addr) ≠ ⟨b, o, none⟩ → w4.cell? ⟨b, o, none⟩ = some v → (w4.setCell ⟨pb, 3, none⟩ (.slice a4 (recs.length + 1) c4)).cell? ⟨b, o, none⟩ = some v := fun b o v hb hv =>
    (World.cell?_setCell_other w4 ⟨pb, 3, none⟩ ⟨b, o, none⟩ _ hb).trans hv
  have ob4 : ∀ k, Value.ownBlock (.slice a4 (recs.length + 1) c4) = some k → Value.ownBlock (.slice a recs.length c) = some k ∨ w.heap.size < k := by
    intro k hk
    rcases hl4 with e | e
    · exact .inl (e ▸ hk)
    · rw [hk] at e
      simp at e
      exact .inr (by omega)
  have bsz : ∀ k, (k = pb ∨ k = lb ∨ k = bm ∨ k = w.heap.size ∨ ∃ r ∈ recs, k = r.2) → Value.ownBlock (.slice a4 (recs.length + 1) c4) ≠ some k := by
    intro k hk e
    rcases ob4 k e with e | e
    · rcases hk with rfl | rfl | rfl | rfl | ⟨r, hr, rfl⟩
      · exact hopb e
      · exact holb e
      · exact hobm e
      · exact hN e
      · exact (hap _ e).2.2.2 r hr rfl
    · rcases hk with rfl | rfl | rfl | rfl | ⟨r, hr, rfl⟩
      · omega
      · have := h.ll; omega
      · omega
      · omega
      · have := block_lt_of_cell (h.rc r hr).1; simp at this; omega
  have row5 : (w4.setCell ⟨pb, 3, none⟩ (.slice a4 (recs.length + 1) c4)).ownsRow base 35 1 (.slice a4 (recs.length + 1) c4) (recs.length + 1) ((insR recs (id, w.heap.size)).map ptrR) := by
    rw [map_insR]
    exact hown4.kept G5 (.inr (bsz pb (.inl rfl)))
  have oc3 : ∃ v, w4.cell? ⟨pb, 3, none⟩ = some v := by
    obtain ⟨a', c', hc, _⟩ := h.c3
    exact ⟨_, cell4 _ _ _ hc hopb⟩
  refine ⟨⟨cell5 _ _ _ (by simp) (cell4 _ _ _ h.c0 hopb), cell5 _ _ _ (by simp) (cell4 _ _ _ h.c1 hopb), cell5 _ _ _ (by simp) (cell4 _ _ _ h.c2 hopb), ?_, ?_, ?_, ?_, ?_, sorted_insR toList_inj h.so ha, h.bs, ?_, h.pl⟩, ?_⟩
  · obtain ⟨v, hv⟩ := oc3
    rw [length_insR]
    refine ⟨a4, c4, World.cell?_setCell_same w4 _ _ hv, row5, ?_⟩
    intro k hk
    refine ⟨fun e => bsz k (.inl e) hk, fun e => bsz k (.inr (.inl e)) hk, fun e => bsz k (.inr (.inr (.inl e))) hk, ?_⟩
    intro r hr e
    rcases mem_insR.1 hr with rfl | hr
    · exact bsz k (.inr (.inr (.inr (.inl e)))) hk
    · exact bsz k (.inr (.inr (.inr (.inr ⟨r, hr, e⟩)))) hk
  · rw [World.frozen?_setCell]
    exact (World.frozen?_of_block (a := ⟨pb, 3, none⟩) (old4 pb hpl hpm hopb)).trans h.f3
  · intro j hj
    exact cell5 _ _ _ (fun e => h.pl (by simpa using (congrArg Addr.block e).symm)) (cell4 _ _ _ (h.nl j hj) holb)
  · refine ⟨_, ?_, mapIs_put (r := (id, w.heap.size)) hD (hown.tidy law9) ha⟩
    rw [length_insR]
    exact map4.setCell (fun e => hpm e.symm) _
  · intro r hr
    rcases mem_insR.1 hr with rfl | hr
    · refine ⟨cell5 _ _ _ (by simp) ?_, cell5 _ _ _ (by simp) ?_, cell5 _ _ _ (by simp) ?_, ?_⟩
      · rw [cell_of_row w4 _ 0 _ _ _ rec4]; rfl
      · rw [cell_of_row w4 _ 1 _ _ _ rec4]; rfl
      · rw [cell_of_row w4 _ 2 _ _ _ rec4]; rfl
      · have := h.bs.1; show base ≤ w.heap.size; omega
    · obtain ⟨r0, r1, r2, r3⟩ := h.rc r hr
      have hro : Value.ownBlock (.slice a recs.length c) ≠ some r.2 := fun e => (hap _ e).2.2.2 r hr rfl
      exact ⟨cell5 _ _ _ (by simp) (cell4 _ _ _ r0 hro), cell5 _ _ _ (by simp) (cell4 _ _ _ r1 hro), cell5 _ _ _ (by simp) (cell4 _ _ _ r2 hro), r3⟩
  · have e1 := hg4.size
    have e2 := h.ll
    simp [World.setCell] at e1 ⊢
    omega
  · have b1 : Below base w (w.alloc (.cells #[.string id, .slice none 0 0, .int .i64 0] 45)) := (Below.refl _ _).alloc (by have := h.bs.1; omega) _
    have b2 := b1.grown hturn.grown (by have := h.bs.1; simp; omega) (fun k e => by simp at e; subst e; exact h.bs.2.2)
    have b3 := b2.alloc (by have := h.bs.1; omega) (.cells #[.pointer (some ⟨w.heap.size, 0, none⟩)] 35)
    have b4 := b3.grown hg4 (by have := h.bs.1; simp; omega) (fun k e => (olp k e).1)
    exact b4.setCell h.bs.1 _

set_option maxHeartbeats 1000000 in
/-- the id is new -/
theorem f17_new {w : World} {base pb lb bm n : Nat} {recs : List Rec} (h : PQ w base pb lb bm n recs) (id : ByteArray) (hs : id.size ≤ maxLen) (ha : AbsentR id recs) (hn : recs.length ≤ 65535) :
    Calls Try.prog 17 #[.pointer (some ⟨pb, 0, none⟩), .string id] w fun e w' => e = .returned (ptrR (id, w.heap.size)) ∧ PQ w' base pb lb bm n (insR recs (id, w.heap.size)) ∧ Below base w w' := by
  obtain ⟨D, hown, hD⟩ := h.mp
  obtain ⟨a, c, c3, hrow, hap⟩ := h.c3
  have c2 := h.c2
  obtain ⟨v, ps, hrun, hv⟩ := hown.lookup law9 Try.underlying24 (zero35 w) (zd := .nil) (zp := []) rfl (key9 hs)
  rw [Maps.atKey_of_not_has (hD.gone id ha)] at hv
  rw [ptrElem_nil hv] at hrun
  have hpl : pb < w.heap.size := block_lt_of_cell c2
  have c2a : ∀ o, (w.alloc o).cell? ⟨pb, 2, none⟩ = some (.map (some bm)) := fun o => (World.cell?_alloc_past _ _ _ hpl).trans c2
  clear hv
  have hpm : pb ≠ bm := map_cell_ne c2 hown
  have hob : Value.ownBlock (.slice a recs.length c) ≠ some bm := fun e => (hap bm e).2.2.1 rfl
  have HD : Hid (MapIs D recs) := hD
  have HP : Hid (PQ w base pb lb bm n recs) := h
  clear hD h
  go_enter Try.func17, Try.ntmps17
  go_wp2_with (at_mapUpdate; refine wpList_mapUpdate_in _ rfl _ _ _ 24 rfl 9 35 law9 Try.underlying24 ptrElem bm recs.length D rfl (hown.alloc _) (by unfold maxLen; omega) _ _ _ rfl rfl (key9 hs) (.lit (.int .i64 w.heap.size)) [] rfl ?_; intro w2 hown2 hturn2; have G2 := (World.grownBy_alloc w (.cells #[.string id, .slice none 0 0, .int .i64 0] 45) (some bm)).trans hturn2.grown; have g3 := G2.cell c3 (by simpa using hpm); have hrow2 := hrow.kept G2 (.inr hob))
  refine (f18_pq recs id hrow2 (fun r hr => G2.cell (HP.out.rc r hr).1 (by simpa using map_cell_ne (HP.out.rc r hr).1 hown)) HP.out.so (by omega)).mono ?_
  rintro e w3 ⟨⟨bb, rfl⟩, hw3⟩
  subst hw3
  go_wp2_with fail
  refine (f20_any base _ recs.length (posR id recs) (recs.map ptrR) w3.heap.size (.pointer (some ⟨w.heap.size, 0, none⟩)) _ (hrow2.alloc _) (posR_le _ _) (by omega) rfl (ptrs_one recs) (heap_alloc_new w3 _) ?_ ?_).mono ?_
  · intro e
    have := (hrow2.lt _ e).2
    omega
  · have e1 := HP.out.bs.1
    have e2 := G2.size
    simp; omega
  · rintro e w4 ⟨a4, c4, rfl, ho4, hg4, hl4⟩
    have R := pq_new HP.out id ha HD.out hown hown2 hturn2 hrow hap ho4 hg4 hl4
    have hopb : some pb ≠ Value.ownBlock (.slice a recs.length c) := fun e => (hap pb e.symm).1 rfl
    have p4 : w4.cell? ⟨pb, 3, none⟩ = some (.slice a recs.length c) := hg4.cell ((World.cell?_alloc_past _ _ _ (by have := G2.size; omega)).trans g3) hopb
    have q4 : w4.frozen? ⟨pb, 3, none⟩ = false := (World.frozen?_of_block (a := ⟨pb, 3, none⟩) ((hg4.block pb (by have := G2.size; simp; omega) hopb).trans ((heap_alloc_old w3 _ (by have := G2.size; omega)).trans (G2.block pb hpl (by simpa using hpm))))).trans HP.out.f3
    clear ho4 hg4 hl4 hown2 hturn2 G2 g3 hrow2 hrow hap hown c2a hrun
    go_wp2
    go_ret
    exact ⟨rfl, R.1, R.2⟩
end Go.Proofs.Qxb6618493a
