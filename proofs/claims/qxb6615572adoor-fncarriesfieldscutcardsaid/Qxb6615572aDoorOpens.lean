/-
  What an argument of type []string or [][]string reads as when the call begins: its cells, lengths and sizes.
-/
import Derived.Test.Qxb6615572aDoorLaw
import Derived.Deep.Strs
import Derived.Deep.Slices
namespace Go.Proofs.Qxb6615572aDoor
open Go.ChangeShapes Go.WideShapes Go.RowKit

theorem open_strs_one {H : Type} {enc : TypeId × Value → H} {w : World} {base : Nat} {spare : Nat → Bool} {held : Bool} {fuel : Nat} {v : Value} {x : DataW H × List MemPlace}
    (h : DataW.trod enc Tryd.prog w base spare held fuel 22 [v] = some x) : ∃ (a : Option Addr) (c : Nat) (xs : List ByteArray), v = .slice a xs.length c ∧ xs.length ≤ maxLen ∧ SliceIn w a xs c ∧ Sized xs := by
  rcases Deep.open_strs Tryd.underlying22 Tryd.underlying9 (by kernel_rfl) h with ⟨hcs, _⟩ | ⟨y, l, c, m, Sx, hcs, _, hl, hm, hmm, _, hcell⟩
  · simp at hcs
    exact ⟨none, 0, [], hcs, by simp [maxLen], .inl ⟨rfl, rfl, rfl⟩, fun x hx => by cases hx⟩
  · simp at hcs
    have hlm : l ≤ m := by rw [hmm]; split <;> omega
    refine ⟨some y, c, (List.range l).map Sx, by simpa using hcs, by simp; omega, ?_, ?_⟩
    · refine .inr ⟨y, rfl, fun j x hx => ?_⟩
      by_cases hj : j < l
      · have := (hcell j (by omega)).1
        rw [this]
        simp [hj] at hx
        rw [hx]
      · rw [List.getElem?_eq_none (by simp; omega)] at hx
        cases hx
    · intro x hx
      obtain ⟨j, hj, rfl⟩ := List.mem_map.1 hx
      exact (hcell j (by have := List.mem_range.1 hj; omega)).2

/-- An argument of type []string, read. -/
theorem open_strs {H : Type} {enc : TypeId × Value → H} {w : World} {base : Nat} {spare : Nat → Bool} {held : Bool} {fuel : Nat} {a : Option Addr} {len cap : Nat} {x : DataW H × List MemPlace}
    (h : DataW.trod enc Tryd.prog w base spare held fuel 22 (Value.cells (.slice a len cap)).toList = some x) : ∃ xs : List ByteArray, len = xs.length ∧ xs.length ≤ maxLen ∧ SliceIn w a xs cap ∧ Sized xs := by
  obtain ⟨a', c', xs, e, h1, h2, h3⟩ := open_strs_one (v := .slice a len cap) (by simpa [Value.cells] using h)
  cases e
  exact ⟨xs, rfl, h1, h2, h3⟩

/-- An argument of type [][]string, read. -/
theorem open_grid {H : Type} {enc : TypeId × Value → H} {w : World} {base : Nat} {spare : Nat → Bool} {held : Bool} {fuel : Nat} {a : Option Addr} {len cap : Nat} {x : DataW H × List MemPlace}
    (h : DataW.trod enc Tryd.prog w base spare held fuel 23 (Value.cells (.slice a len cap)).toList = some x) : ∃ vs : List (List ByteArray), len = vs.length ∧ vs.length ≤ maxLen ∧ GridRow w a vs ∧ ∀ xs ∈ vs, xs.length ≤ maxLen ∧ Sized xs := by
  rcases Deep.open_slice1 Tryd.underlying23 (by kernel_rfl) h with ⟨hcs, _⟩ | ⟨y, l, c, m, n, V, D, Pl, hcs, _, hl, hm, hmm, _, hel⟩
  · simp [Value.cells] at hcs
    obtain ⟨rfl, rfl, rfl⟩ := hcs
    exact ⟨[], rfl, by simp [maxLen], fun h => by simp at h, fun xs hx => by cases hx⟩
  · simp [Value.cells] at hcs
    obtain ⟨rfl, rfl, rfl⟩ := hcs
    have hlm : len ≤ m := by rw [hmm]; split <;> omega
    obtain ⟨Q, hQ⟩ := Deep.choose_lt (α := Option Addr × Nat × List ByteArray) (n := m) (p := fun i q => V i = .slice q.1 q.2.2.length q.2.1 ∧ q.2.2.length ≤ maxLen ∧ SliceIn w q.1 q.2.2 q.2.1 ∧ Sized q.2.2) (fun i hi => by
      obtain ⟨a', c', xs, e, h1, h2, h3⟩ := open_strs_one (hel i hi).2
      exact ⟨(a', c', xs), e, h1, h2, h3⟩)
    refine ⟨(List.range len).map fun i => (Q i).2.2, by simp, by simp; omega, ?_, ?_⟩
    · intro h0
      have h0' : 0 < len := by simpa using h0
      obtain ⟨b, off, spot⟩ := y
      have hspot : spot = none := by simpa [Addr.add] using World.cell?_spot (hel 0 (by omega)).1
      subst hspot
      refine ⟨b, off, rfl, fun j xs hx => ?_⟩
      by_cases hj : j < len
      · have hc := (hel j (by omega)).1
        obtain ⟨e, _, hs, _⟩ := hQ j (by omega)
        simp [hj] at hx
        subst hx
        rw [add_at, e] at hc
        exact ⟨_, _, hc, hs.row⟩
      · rw [List.getElem?_eq_none (by simp; omega)] at hx
        cases hx
    · intro xs hx
      obtain ⟨j, hj, rfl⟩ := List.mem_map.1 hx
      have := hQ j (by have := List.mem_range.1 hj; omega)
      exact ⟨this.2.1, this.2.2.2⟩
end Go.Proofs.Qxb6615572aDoor
