/- Plain: the model's table of reached places. -/
import Derived.Test.Qxb6616805aPlain
import GoSem.Core.Value
namespace Go.Proofs.Qxb6616805a

structure Reach (l : List UInt8) (T : Nat → Bool) (R : Bool) (i : Nat) (cur : Array Value) (p : Option Nat) : Prop where
  size : cur.size = l.length + 1
  here : ∀ t, i ≤ t → t ≤ l.length → cur[t]? = some (.bool (decide (p = some t)))
  pos : ∀ q, p = some q → i ≤ q ∧ q ≤ l.length ∧ esc T (l.drop q) = R
  dead : p = none → R = false

theorem Reach.skip {l : List UInt8} {T : Nat → Bool} {R : Bool} {i : Nat} {cur : Array Value} {p : Option Nat} (h : Reach l T R i cur p) (hp : p ≠ some i) : Reach l T R (i + 1) cur p :=
  ⟨h.size, fun t h1 h2 => h.here t (by omega) h2, fun q hq => by
    obtain ⟨h1, h2, h3⟩ := h.pos q hq
    have : q ≠ i := fun e => hp (by rw [hq, e])
    exact ⟨by omega, h2, h3⟩, h.dead⟩

theorem Reach.stop {l : List UInt8} {T : Nat → Bool} {R : Bool} {i : Nat} {cur : Array Value} (h : Reach l T R i cur (some i)) (hr : R = false) : Reach l T R (i + 1) cur none :=
  ⟨h.size, fun t h1 h2 => by
    rw [h.here t (by omega) h2]
    have : i ≠ t := by omega
    simp [this], fun q hq => (by cases hq), fun _ => hr⟩

theorem Reach.move {l : List UInt8} {T : Nat → Bool} {R : Bool} {i : Nat} {cur : Array Value} (h : Reach l T R i cur (some i)) (q : Nat) (h1 : i < q) (h2 : q ≤ l.length) (he : esc T (l.drop q) = R) : Reach l T R (i + 1) (cur.setIfInBounds q (.bool true)) (some q) :=
  ⟨by simp [h.size], fun t h3 h4 => by
    rw [Array.getElem?_setIfInBounds]
    by_cases e : q = t
    · subst e
      have := h.size
      rw [if_pos rfl, if_pos (by omega)]
      simp
    · rw [if_neg e, h.here t (by omega) h4]
      have : i ≠ t := by omega
      simp [this, e], fun q' hq => by
        obtain rfl : q = q' := by simpa using hq
        exact ⟨by omega, h2, he⟩, fun hn => by cases hn⟩

theorem Reach.last {l : List UInt8} {T : Nat → Bool} {R : Bool} {cur : Array Value} {p : Option Nat} (h : Reach l T R l.length cur p) : cur[l.length]? = some (.bool R) := by
  rw [h.here l.length (Nat.le_refl _) (Nat.le_refl _)]
  cases hp : p with
  | none => rw [h.dead hp]; simp
  | some q =>
    obtain ⟨h1, h2, h3⟩ := h.pos q hp
    obtain rfl : q = l.length := by omega
    rw [at_end] at h3
    rw [← h3]; simp
end Go.Proofs.Qxb6616805a
