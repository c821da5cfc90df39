/- The queue's state carried over other work. -/
import Derived.Test.Qxb6618493aBytes
import Derived.Test.Qxb6618493aWant
namespace Go.Proofs.Qxb6618493a
open Go.RowKit Go.Maps

theorem pq_below {W wr : World} {base pb lb bm n : Nat} {recs : List Rec} (h : PQ W base pb lb bm n recs) (hb : Below W.heap.size W wr) : PQ wr base pb lb bm n recs := by
  have cell : ∀ b o v, W.cell? ⟨b, o, none⟩ = some v → wr.cell? ⟨b, o, none⟩ = some v := fun b o v hv =>
    (hb.cell (p := ⟨b, o, none⟩) (block_lt_of_cell hv)).trans hv
  have G : W.grownBy wr none := ⟨hb.os, hb.tape, hb.output, hb.size, fun k hk _ => hb.block k hk⟩
  refine ⟨cell _ _ _ h.c0, cell _ _ _ h.c1, cell _ _ _ h.c2, ?_, ?_, fun j hj => cell _ _ _ (h.nl j hj), ?_, ?_, h.so, h.bs, Nat.lt_of_lt_of_le h.ll hb.size, h.pl⟩
  · obtain ⟨a, c, c3, hrow, hap⟩ := h.c3
    refine ⟨a, c, cell _ _ _ c3, hrow.kept G ?_, hap⟩
    cases Value.ownBlock (.slice a recs.length c) <;> simp
  · exact (hb.frozen (p := ⟨pb, 3, none⟩) (show pb < W.heap.size from block_lt_of_cell h.c2)).trans h.f3
  · obtain ⟨D, hown, hD⟩ := h.mp
    exact ⟨D, hown.kept G (by simp), hD⟩
  · intro r hr
    obtain ⟨r0, r1, r2, r3⟩ := h.rc r hr
    exact ⟨cell _ _ _ r0, cell _ _ _ r1, cell _ _ _ r2, r3⟩

theorem strs_below {w wr : World} {a : Option Addr} {len : Nat} {S : Nat → ByteArray} (h : Strs w a len S) (hb : Below w.heap.size w wr) : Strs wr a len S := by
  refine ⟨fun k hk => ?_, h.size, h.short⟩
  obtain ⟨b, off, e, hc⟩ := h.cell k hk
  exact ⟨b, off, e, (hb.cell (p := ⟨b, off + k, none⟩) (block_lt_of_cell hc)).trans hc⟩

/-- one hand-off, whether or not the id is there: what the law's second loop does a round -/
theorem f11_next {w : World} {base pb lb bm n : Nat} {recs : List Rec} (S : Nat → ByteArray) (k : Nat) (h : PQ w base pb lb bm n recs) (he : recs.map Prod.fst = wantAt S k) (hs : (S k).size ≤ maxLen) (hk : k ≤ 65535) :
    Calls Try.prog 11 #[.pointer (some ⟨pb, 0, none⟩), .string (S k)] w fun e w' => ∃ rb recs', e = .returned (.pointer (some ⟨rb, 0, none⟩)) ∧ PQ w' base pb lb bm n recs' ∧ recs'.map Prod.fst = wantAt S (k + 1) ∧ w'.cell? ⟨rb, 0, none⟩ = some (.string (S k)) ∧ Below base w w' := by
  have hlen : recs.length ≤ k := by
    have h1 := length_wantAt S k
    rw [← he] at h1
    simpa using h1
  cases hq : hasW (wantAt S k) (S k)
  · have ha : AbsentR (S k) recs := hasW_fst_false (by rw [he]; exact hq)
    refine (f11_new h (S k) hs ha (by omega)).mono ?_
    rintro e w' ⟨rfl, hp, hb⟩
    refine ⟨_, _, rfl, hp, ?_, (hp.rc (S k, w.heap.size) (mem_insR.2 (.inl rfl))).1, hb⟩
    rw [insR_fst, he]
    show _ = insW (wantAt S k) (S k)
    unfold insW
    rw [if_neg (by rw [hq]; decide)]
  · obtain ⟨r, hr, e1⟩ := hasW_fst_true toList_inj (show hasW (recs.map Prod.fst) (S k) = true by rw [he]; exact hq)
    have hf := f11_found h r hr (by rw [e1]; exact hs)
    rw [e1] at hf
    refine hf.mono ?_
    rintro e w' ⟨rfl, rfl⟩
    refine ⟨_, recs, rfl, h, ?_, by rw [← e1]; exact (h.rc r hr).1, Below.refl _ _⟩
    rw [he]
    show _ = insW (wantAt S k) (S k)
    unfold insW
    rw [if_pos hq]
end Go.Proofs.Qxb6618493a
