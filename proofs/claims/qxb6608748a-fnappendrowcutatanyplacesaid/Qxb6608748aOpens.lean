import Derived.Test.Qxb6608748aRows
import Derived.Test.Qxb6608748aOut
import Derived.ProofKit
import Derived.OpenShut
import Derived.Deep.Strs
namespace Go.Proofs.Qxb6608748a
open Go.RowKit Go.ChangeShapes Go.WideShapes

theorem wf_u8 {k : Int} (h : (Lit.int .u8 k).wf = true) : 0 ≤ k ∧ k ≤ 255 := by
  have := bounds_u8 h
  omega

/-- The argument 'b', read: its bytes. -/
theorem open_bytes {H : Type} {enc : TypeId × Value → H} {w : World} {base : Nat} {spare : Nat → Bool} {held : Bool} {fuel : Nat} {a : Option Addr} {len cap : Nat} {x : DataW H × List MemPlace}
    (h : DataW.trod enc Try.prog w base spare held fuel 22 (Value.cells (.slice a len cap)).toList = some x) : len ≤ maxLen ∧ ∃ bs, BytesAt w a len cap bs := by
  rcases open_ints Try.underlying22 Try.underlying5 (by kernel_rfl) h with ⟨hcs, _⟩ | ⟨y, l, c, zs, hcs, _, hl, hm, hz, _, hcell, hwz⟩
  · simp [Value.cells] at hcs
    obtain ⟨rfl, rfl, rfl⟩ := hcs
    exact ⟨by simp [maxLen], [], rfl, .inl ⟨rfl, rfl, rfl⟩⟩
  · simp [Value.cells] at hcs
    obtain ⟨rfl, rfl, rfl⟩ := hcs
    have hzl : len ≤ zs.length := by rw [hz]; split <;> omega
    refine ⟨by omega, (zs.take len).map (fun z => z.toNat.toUInt8), by simp; omega, .inr ⟨y, rfl, fun j u hu => ?_⟩⟩
    have hj : j < len := by
      rcases Nat.lt_or_ge j len with h1 | h1
      · exact h1
      · rw [List.getElem?_eq_none (by simp [Lib.byteCells]; omega)] at hu; cases hu
    have hjz : j < zs.length := by omega
    have hw := wf_u8 (hwz (zs[j]) (List.getElem_mem hjz))
    rw [hcell j hjz]
    simp only [Lib.byteCells, List.map_map, List.getElem?_map, List.getElem?_take, hj, if_true, List.getElem?_eq_getElem hjz, Option.map_some, Function.comp] at hu
    have e : ((zs[j].toNat.toUInt8).toNat : Int) = zs[j] := by
      rw [Lib.toUInt8_toNat (by omega)]; omega
    rw [← hu, e]
    simp [hjz]

set_option maxRecDepth 100000 in
/-- The argument 'row', read: its values. -/
theorem open_row {H : Type} {enc : TypeId × Value → H} {w : World} {base : Nat} {spare : Nat → Bool} {held : Bool} {fuel : Nat} {a : Option Addr} {len cap : Nat} {x : DataW H × List MemPlace}
    (h : DataW.trod enc Try.prog w base spare held fuel 23 (Value.cells (.slice a len cap)).toList = some x) :
    len ≤ maxLen ∧ ∃ R, RowAt w a len R ∧ ∀ i, i < len → -9223372036854775808 ≤ (R i).num ∧ (R i).num ≤ 9223372036854775807 := by
  rcases Deep.open_slice Try.underlying23 h with ⟨hcs, _⟩ | ⟨y, l, c, m, n, D, Pl, hcs, _, hl, hm, hmm, _, hel⟩
  · simp [Value.cells] at hcs
    obtain ⟨rfl, rfl, rfl⟩ := hcs
    exact ⟨by simp [maxLen], fun _ => ⟨0, 0, ByteArray.empty⟩, fun h => by omega, fun i hi => by omega⟩
  · simp [Value.cells] at hcs
    obtain ⟨rfl, rfl, rfl⟩ := hcs
    have hlm : len ≤ m := by rw [hmm]; split <;> omega
    have c30 : Try.prog.cellsOf 30 = 3 := by kernel_rfl
    have c5 : Try.prog.cellsOf 5 = 1 := by kernel_rfl
    have c2 : Try.prog.cellsOf 2 = 1 := by kernel_rfl
    have c9 : Try.prog.cellsOf 9 = 1 := by kernel_rfl
    have each : ∀ i, i < len → ∃ v : ZV, (w.cell? (y.add (i * 3)) = some (.int .u8 v.kind) ∧ w.cell? (y.add (i * 3 + 1)) = some (.int .i64 v.num) ∧ w.cell? (y.add (i * 3 + 2)) = some (.string v.str)) ∧ -9223372036854775808 ≤ v.num ∧ v.num ≤ 9223372036854775807 := by
      intro i hi
      obtain ⟨cs', h1, h2⟩ := hel i (by omega)
      rw [c30] at h1
      obtain ⟨_, hlen, hcell⟩ := World.cells?_some h1
      obtain ⟨y0, y1, y2, k, _, _, t0, t1, t2⟩ := Deep.trod_struct3 Try.underlying30 h2
      match cs', hlen with
      | [v0, v1, v2], _ =>
        simp [c5, c2, c9] at t0 t1 t2
        obtain ⟨k0, e0, _, wf0⟩ := DataW.trod_int Try.underlying5 t0
        obtain ⟨k1, e1, _, wf1⟩ := DataW.trod_int Try.underlying2 t1
        obtain ⟨s2, e2, _, _⟩ := DataW.trod_string Try.underlying9 t2
        simp at e0 e1 e2
        subst e0 e1 e2
        have g0 := hcell 0 (by omega)
        have g1 := hcell 1 (by omega)
        have g2 := hcell 2 (by omega)
        rw [Deep.add_add] at g0 g1 g2
        have b0 := wf_u8 wf0
        have b1 := bounds_i64 wf1
        refine ⟨⟨k0.toNat, k1, s2⟩, ⟨?_, by simpa using g1, by simpa using g2⟩, by simp only; omega, by simp only; omega⟩
        have : ((k0.toNat : Nat) : Int) = k0 := by omega
        simp only [this]
        simpa using g0
    obtain ⟨R, hR⟩ := @Deep.choose_lt ZV ⟨⟨0, 0, ByteArray.empty⟩⟩ _ _ each
    refine ⟨by omega, R, fun hpos => ?_, fun i hi => (hR i hi).2⟩
    obtain ⟨b, off, spot⟩ := y
    have hspot : spot = none := by simpa [Addr.add] using World.cell?_spot (hR 0 hpos).1.1
    subst hspot
    refine ⟨b, off, rfl, fun i hi => ?_⟩
    obtain ⟨⟨q0, q1, q2⟩, _⟩ := hR i hi
    rw [add_none] at q0 q1 q2
    exact ⟨q0, q1, q2⟩
end Go.Proofs.Qxb6608748a
