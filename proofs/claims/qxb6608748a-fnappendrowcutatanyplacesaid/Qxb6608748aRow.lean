import Derived.Test.Qxb6608748aValue
namespace Go.Proofs.Qxb6608748a
open Go.RowKit

/-- A row of n values of three cells each (kind, number, text), from cell 'off' of block V on. -/
def ValsAt (w : World) (V off n : Nat) (R : Nat → ZV) : Prop :=
  ∀ i, i < n → w.cell? ⟨V, off + i * 3, none⟩ = some (.int .u8 (R i).kind) ∧ w.cell? ⟨V, off + i * 3 + 1, none⟩ = some (.int .i64 (R i).num) ∧ w.cell? ⟨V, off + i * 3 + 1 + 1, none⟩ = some (.string (R i).str)

/-- A row that came in: its n values lie at ⟨b, off⟩; where it is empty nothing is known of its address. -/
def RowAt (w : World) (ao : Option Addr) (n : Nat) (R : Nat → ZV) : Prop := 0 < n → ∃ b off, ao = some ⟨b, off, none⟩ ∧ ValsAt w b off n R

theorem ValsAt.kept {w w' : World} {V off n : Nat} {R : Nat → ZV} (h : ValsAt w V off n R) {B : Nat} (hb : Below B w w') (hB : V < B) : ValsAt w' V off n R := by
  intro i hi
  obtain ⟨h1, h2, h3⟩ := h i hi
  exact ⟨by rw [hb.cell (by exact hB)]; exact h1, by rw [hb.cell (by exact hB)]; exact h2, by rw [hb.cell (by exact hB)]; exact h3⟩

set_option maxHeartbeats 1000000 in
set_option maxRecDepth 100000 in
theorem row_any (B m : Nat) (V off n cap : Nat) (R : Nat → ZV) (sv : Value) (xs : List Value) (w : World) (hV : ValsAt w V off n R) (hVB : V < B)
    (hz : ∀ i, i < n → -9223372036854775808 ≤ (R i).num ∧ (R i).num ≤ 9223372036854775807)
    (hown : w.ownsRow B 5 1 sv m xs) (hBw : B ≤ w.heap.size) (hn : n ≤ 1048576) (hlim : ∀ i, i < n → m + (encFrom R 0 i).length + 11 + (R i).str.size ≤ 140737488355328) :
    Calls Try.prog 22 #[sv, .slice (some ⟨V, off, none⟩) n cap] w fun e w' => ∃ v', e = .returned v' ∧ w'.ownsRow B 5 1 v' (m + (encFrom R 0 n).length) (xs ++ Lib.byteCells (encFrom R 0 n)) ∧ Below B w w' := by
  have HV := tuck hV
  have HZ := tuck hz
  have HL := tuck hlim
  have HO := tuck hown
  clear hV hz hlim hown
  go_enter Try.func22, Try.ntmps22
  go_wp2
  go_loopw [0, 6, 9] (fun vb _ vi wr => ∃ k : Nat, k ≤ n ∧ vi = .int .i64 k ∧ Hid (wr.ownsRow B 5 1 vb (m + (encFrom R 0 k).length) (xs ++ Lib.byteCells (encFrom R 0 k))) ∧ Hid (Below B w wr)) (fun _ _ vi _ => n - (intOf vi).toNat)
  case atStart => exact ⟨0, by omega, rfl, by simpa [encFrom, Lib.byteCells, Hid] using HO.out, Below.refl _ _⟩
  case round =>
    obtain ⟨k, hk, rfl, HOk, HB⟩ := hrel
    by_cases hlt : k < n
    · obtain ⟨c1, c2, c3⟩ := HV.out.kept HB.out hVB k hlt
      have hsz := HB.out.size
      go_wp2_with fail
      clear c1 c2 c3
      refine (value_any B _ (R k) (HZ.out k hlt).1 (HZ.out k hlt).2 _ _ _ (HOk.out.alloc _) (by simp; omega) (HL.out k hlt)).mono ?_
      rintro e w1 ⟨v1, rfl, ho1, hb1⟩
      have HO1 := tuck ho1
      have HB1 := tuck ((HB.out.alloc (by omega) _).trans hb1)
      clear ho1 hb1 HOk HB
      go_wp2
      go_roundw
      case rel =>
        refine ⟨k + 1, by omega, by go_num, ?_, HB1⟩
        have := HO1.out
        rw [List.append_assoc, ← Lib.byteCells_append, Nat.add_assoc, ← List.length_append] at this
        simpa [encFrom] using tuck this
      case measure => simp [intOf]; omega
    · have e : k = n := by omega
      subst e
      go_wp2
      go_ret
      exact ⟨_, rfl, HOk.out, HB.out⟩

set_option maxHeartbeats 1000000 in
set_option maxRecDepth 100000 in
theorem appendRow_any (B m : Nat) (V off n cap : Nat) (R : Nat → ZV) (sv : Value) (xs : List Value) (w : World) (hV : ValsAt w V off n R) (hVB : V < B)
    (hz : ∀ i, i < n → -9223372036854775808 ≤ (R i).num ∧ (R i).num ≤ 9223372036854775807)
    (hown : w.ownsRow B 5 1 sv m xs) (hBw : B ≤ w.heap.size) (hn : n ≤ 1048576) (hlim : ∀ i, i < n → m + (encFrom R 0 i).length + 11 + (R i).str.size ≤ 140737488355328) :
    Calls Try.prog 10 #[sv, .slice (some ⟨V, off, none⟩) n cap] w fun e w' => ∃ v', e = .returned v' ∧ w'.ownsRow B 5 1 v' (m + (encFrom R 0 n).length) (xs ++ Lib.byteCells (encFrom R 0 n)) ∧ Below B w w' := by
  have HK := tuck (row_any B m V off n cap R sv xs w hV hVB hz hown hBw hn hlim)
  clear hV hz hlim hown
  go_enter Try.func10, Try.ntmps10
  go_wp2_with fail
  refine HK.out.mono ?_
  rintro e w1 ⟨v1, rfl, ho1, hb1⟩
  clear HK
  go_wp2
  go_ret
  exact ⟨_, rfl, ho1, hb1⟩
end Go.Proofs.Qxb6608748a
