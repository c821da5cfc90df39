/- The leaf contracts of seat b6618493a: small functions of the taskqueue package. -/
import Derived.Test.Qxb6618493aRows
import Derived.WalkKit
import Derived.WalkSpells
import Derived.WalkLawsBesides
import Derived.Deep.OwnRows
import Derived.Below
namespace Go.Proofs.Qxb6618493a
open Go.RowKit

theorem Try.info31 : (Try.prog.info? 31).map (fun i => (i.zero, i.size, i.bytes)) = some (some (.pointer none), 1, 8) := by kernel_rfl
theorem Try.info35 : (Try.prog.info? 35).map (fun i => (i.zero, i.size, i.bytes)) = some (some (.pointer none), 1, 8) := by kernel_rfl
theorem Try.info9 : (Try.prog.info? 9).map (fun i => (i.zero, i.size, i.bytes)) = some (some (.string ⟨#[]⟩), 1, 16) := by kernel_rfl

/-- zzBytes of the first law. -/
theorem f5_any (n : Int) (s : ByteArray) (hs : s.size ≤ maxLen) (w : World) :
    Calls Try.prog 5 #[.int .i64 n, .string s] w fun e w' => e = .returned (.bool (decide ((s.size : Int) ≤ 1048576))) ∧ w' = w := by
  unfold maxLen at hs
  by_cases h : (s.size : Int) ≤ 1048576
  · go_enter Try.func5, Try.ntmps5
    go_wp2
    go_ret
    exact ⟨by simp [h], rfl⟩
  · go_enter Try.func5, Try.ntmps5
    go_wp2
    go_ret
    exact ⟨by simp [h], rfl⟩

/-- the four readers of the queue -/
theorem f7_any (pb : Nat) (v : Value) (a : Option Addr) (n c : Nat) (hv : v = .slice a n c) (w : World) (h : w.cell? ⟨pb, 0, none⟩ = some v) :
    Calls Try.prog 7 #[.pointer (some ⟨pb, 0, none⟩)] w fun e w' => e = .returned v ∧ w' = w := by
  subst hv
  go_enter Try.func7, Try.ntmps7
  go_wp2
  go_ret
  exact ⟨rfl, rfl⟩
theorem f8_any (pb : Nat) (m : Option Nat) (w : World) (h : w.cell? ⟨pb, 2, none⟩ = some (.map m)) :
    Calls Try.prog 8 #[.pointer (some ⟨pb, 0, none⟩)] w fun e w' => e = .returned (.map m) ∧ w' = w := by
  go_enter Try.func8, Try.ntmps8
  go_wp2
  go_ret
  exact ⟨rfl, rfl⟩
theorem f9_any (pb : Nat) (n : Int) (w : World) (h : w.cell? ⟨pb, 1, none⟩ = some (.int .i64 n)) :
    Calls Try.prog 9 #[.pointer (some ⟨pb, 0, none⟩)] w fun e w' => e = .returned (.int .i64 n) ∧ w' = w := by
  go_enter Try.func9, Try.ntmps9
  go_wp2
  go_ret
  exact ⟨rfl, rfl⟩
theorem f10_any (pb : Nat) (a : Option Addr) (n c : Nat) (w : World) (h : w.cell? ⟨pb, 3, none⟩ = some (.slice a n c)) :
    Calls Try.prog 10 #[.pointer (some ⟨pb, 0, none⟩)] w fun e w' => e = .returned (.slice a n c) ∧ w' = w := by
  go_enter Try.func10, Try.ntmps10
  go_wp2
  go_ret
  exact ⟨rfl, rfl⟩
/-- the three readers of a record -/
theorem f12_any (rb : Nat) (s : ByteArray) (w : World) (h : w.cell? ⟨rb, 0, none⟩ = some (.string s)) :
    Calls Try.prog 12 #[.pointer (some ⟨rb, 0, none⟩)] w fun e w' => e = .returned (.string s) ∧ w' = w := by
  go_enter Try.func12, Try.ntmps12
  go_wp2
  go_ret
  exact ⟨rfl, rfl⟩
theorem f13_any (rb : Nat) (a : Option Addr) (n c : Nat) (w : World) (h : w.cell? ⟨rb, 1, none⟩ = some (.slice a n c)) :
    Calls Try.prog 13 #[.pointer (some ⟨rb, 0, none⟩)] w fun e w' => e = .returned (.slice a n c) ∧ w' = w := by
  go_enter Try.func13, Try.ntmps13
  go_wp2
  go_ret
  exact ⟨rfl, rfl⟩
theorem f14_any (rb : Nat) (n : Int) (w : World) (h : w.cell? ⟨rb, 2, none⟩ = some (.int .i64 n)) :
    Calls Try.prog 14 #[.pointer (some ⟨rb, 0, none⟩)] w fun e w' => e = .returned (.int .i64 n) ∧ w' = w := by
  go_enter Try.func14, Try.ntmps14
  go_wp2
  go_ret
  exact ⟨rfl, rfl⟩

/-- cmp.Compare at strings -/
theorem f24_any (x : ByteArray) (w : World) :
    Calls Try.prog 24 #[.string x] w fun e w' => e = .returned (.bool false) ∧ w' = w := by
  go_enter Try.func24, Try.ntmps24
  go_wp2
  go_ret
  exact ⟨by simp, rfl⟩
def cmpS (x y : ByteArray) : Int := if Op.bytesLess x.toList y.toList then -1 else if x.toList == y.toList then 0 else 1
theorem f21_any (x y : ByteArray) (w : World) :
    Calls Try.prog 21 #[.string x, .string y] w fun e w' => e = .returned (.int .i64 (cmpS x y)) ∧ w' = w := by
  go_enter Try.func21, Try.ntmps21
  go_wp2_with (go_at_call 24; refine (f24_any _ _).mono ?_; rintro e w' ⟨rfl, rfl⟩)
  all_goals go_ret
  all_goals refine ⟨?_, rfl⟩
  · simp [cmpS, *]
  · simp_all [cmpS]
  · simp_all [cmpS]

/-- byID -/
theorem f19_any (rb : Nat) (s id : ByteArray) (w : World) (h : w.cell? ⟨rb, 0, none⟩ = some (.string s)) :
    Calls Try.prog 19 #[.pointer (some ⟨rb, 0, none⟩), .string id] w fun e w' => e = .returned (.int .i64 (cmpS s id)) ∧ w' = w := by
  go_enter Try.func19, Try.ntmps19
  go_wp2_with (go_at_call 21; refine (f21_any _ _ _).mono ?_; rintro e w' ⟨rfl, rfl⟩)
  go_ret
  exact ⟨rfl, rfl⟩

/-- newPendingQueue: what it hands back, and the three blocks that it lays -/
def nils (n : Nat) : Array Value := madeCells #[Value.pointer none] n

theorem f16_any (n : Nat) (hn : n ≤ 65536) (w : World) :
    Calls Try.prog 16 #[.int .i64 n] w fun e w' => e = .returned (.agg #[.slice (some ⟨w.heap.size + 1, 0, none⟩) n n, .int .i64 0, .map (some (w.heap.size + 1 + 1)), .slice none 0 0]) ∧
      w' = ((w.alloc (.cells #[.slice (some ⟨w.heap.size + 1, 0, none⟩) n n, .int .i64 0, .map (some (w.heap.size + 1 + 1)), .slice none 0 0] 27)).alloc (.cells (nils n) 31)).alloc (.map #[] 0) := by
  have hmk := run_make_row' (P := Try.prog) 23 31 (.pointer none) 8 Try.underlying23 Try.info31 rfl .i64 .i64 n (by omega) (by omega)
  have hmm := @run_makeMap Try.prog
  go_enter Try.func16, Try.ntmps16
  go_wp2
  exact bodyPost_ret (v := .agg #[.slice (some ⟨w.heap.size + 1, 0, none⟩) n n, .int .i64 0, .map (some (w.heap.size + 1 + 1)), .slice none 0 0]) (by simp [results, Try.results16, go_sem]) rfl ⟨rfl, rfl⟩

theorem f6_any (n : Nat) (hn : n ≤ 65536) (w : World) :
    Calls Try.prog 6 #[.int .i64 n] w fun e w' => e = .returned (.agg #[.slice (some ⟨w.heap.size + 1 + 1, 0, none⟩) n n, .int .i64 0, .map (some (w.heap.size + 1 + 1 + 1)), .slice none 0 0]) ∧
      ∃ c1 c2, w' = (((w.alloc (.cells c1 27)).alloc (.cells c2 27)).alloc (.cells (nils n) 31)).alloc (.map #[] 0) := by
  go_enter Try.func6, Try.ntmps6
  go_wp2_with (go_at_call 16; refine (f16_any n hn _).mono ?_; rintro e w' ⟨rfl, rfl⟩)
  exact bodyPost_ret (v := .agg #[.slice (some ⟨w.heap.size + 1 + 1, 0, none⟩) n n, .int .i64 0, .map (some (w.heap.size + 1 + 1 + 1)), .slice none 0 0]) (by simp [results, Try.results6, go_sem]) rfl ⟨rfl, _, _, rfl⟩
end Go.Proofs.Qxb6618493a
