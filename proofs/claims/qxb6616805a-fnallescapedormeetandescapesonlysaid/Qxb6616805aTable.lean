/- A table of bools among the arguments, opened. -/
import Derived.Test.Qxb6616805aEsc
import Derived.ProofKit
import Derived.OpenShut
namespace Go.Proofs.Qxb6616805a
open Go.ChangeShapes Go.WideShapes Go.ChangeAt Go.RowKit

theorem cells4 : Try.prog.cellsOf 4 = 1 := by kernel_rfl
theorem cells28 : Try.prog.cellsOf 28 = 256 := by kernel_rfl

theorem open_tab {H : Type} {enc : TypeId × Value → H} {W : World} {base b0 : Nat} {r : Go.Reach} {spare : Nat → Bool} {held : Bool} {v : Value} {d : DataW H} {p : List MemPlace} (hv : Value.okWide Try.prog W r base 28 v)
    (h : DataW.Trod enc Try.prog W b0 spare held 28 v d p) : ∃ T, v = .agg (tab T) := by
  simp only [Value.okWide, Try.underlying28] at hv
  obtain ⟨cs, rfl, hsz, _⟩ := hv
  rw [cells28] at hsz
  obtain ⟨fuel, hf⟩ := h
  obtain ⟨xs, m, _, _, _, hxl, hx⟩ := DataW.trod_array Try.underlying28 hf
  have key : ∀ i, i < 256 → ∃ b, cs[i]? = some (.bool b) := by
    intro i hi
    have h1 := hx i hi
    rw [List.getElem?_eq_getElem (by omega)] at h1
    obtain ⟨b, hb, _⟩ := DataW.trod_bool Try.underlying4 h1
    refine ⟨b, ?_⟩
    rw [cells4, Nat.mul_one] at hb
    have h2 := congrArg (fun l : List Value => l[0]?) hb
    simp [Value.cells] at h2
    exact h2
  refine ⟨fun c => match cs[c]? with | some (.bool b) => b | _ => false, ?_⟩
  congr 1
  apply Array.ext_getElem?
  intro i
  by_cases hi : i < 256
  · obtain ⟨b, hb⟩ := key i hi
    rw [get_tab _ i hi, hb]
  · rw [Array.getElem?_eq_none (by omega), Array.getElem?_eq_none (by rw [size_tab]; omega)]
end Go.Proofs.Qxb6616805a
