import Derived.Test.Qxb6608748aVals
import Derived.Laws.CopyOwn
namespace Go.Proofs.Qxb6608748a
open Go.RowKit

/-- A slice of bytes that came in: nil, or its first n cells hold bs. -/
def BytesAt (w : World) (ao : Option Addr) (n cap : Nat) (bs : List UInt8) : Prop :=
  bs.length = n ∧ ((ao = none ∧ n = 0 ∧ cap = 0) ∨ ∃ x, ao = some x ∧ ∀ j u, (Lib.byteCells bs)[j]? = some u → w.cell? (x.add j) = some u)

theorem info5s : (Try.prog.info? 5).map (·.size) = some 1 := by kernel_rfl

theorem bytes_one (bs : List UInt8) : ∀ v ∈ Lib.byteCells bs, v.oneCell' = true := by
  intro v hv
  simp only [Lib.byteCells, List.mem_map] at hv
  obtain ⟨b, _, rfl⟩ := hv
  rfl

theorem splice_whole {α : Type} (L cs : List α) (h : L.length = cs.length) : splice L 0 cs = cs := by
  simp [splice, h, List.drop_eq_nil_of_le]

set_option maxRecDepth 100000 in
set_option maxHeartbeats 400000 in
theorem clone_none (w : World) : Calls Try.prog 11 #[.slice none 0 0] w fun e w' => e = .returned (.slice none 0 0) ∧ w' = w := by
  have hq := fun w' => Lib.run_eql_slice_nil (P := Try.prog) w' 22 5 none 0 0 0 0 Try.underlying22
  go_enter Try.func11, Try.ntmps11
  go_wp2
  go_ret
  exact ⟨rfl, rfl⟩

set_option maxRecDepth 100000 in
set_option maxHeartbeats 400000 in
theorem clone_some (x : Addr) (n cap : Nat) (hn : n ≤ 1048576) (bs : List UInt8) (w : World) (hl : bs.length = n) (hb : ∀ j u, (Lib.byteCells bs)[j]? = some u → w.cell? (x.add j) = some u) :
    Calls Try.prog 11 #[.slice (some x) n cap] w fun e w' => ∃ v', e = .returned v' ∧ w'.ownsRow w.heap.size 5 1 v' n (Lib.byteCells bs) ∧ Below w.heap.size w w' := by
  have hq := fun w' => Lib.run_eql_slice_nil (P := Try.prog) w' 22 5 (some x) n cap 0 0 Try.underlying22
  have hmk := run_make_row' (P := Try.prog) 22 5 (.int .u8 0) 1 Try.underlying22 info5 rfl .i64 .i64 n (by omega) (by omega)
  have hbl := Lib.byteCells_length bs
  have HB := tuck hb
  have HL := tuck hl
  clear hb hl
  go_enter Try.func11, Try.ntmps11
  go_wp2_with (refine wpList_copy_splice rfl (.tmp 9) (.tmp 10) 22 22 rfl 5 Try.underlying22 info5s _ _ n n n cap rfl rfl w.heap.size 0 (madeCells #[Value.int .u8 0] n).toList 5 ?c1 (Lib.byteCells bs) ?c2 ?c3 ?c4 ?c5 w.heap.size w ?c6 (Nat.le_refl _) ?_)
  case c1 => rw [heap_alloc_new]
  case c2 => rw [hbl, HL.out]; exact (Nat.min_self n).symm
  case c3 =>
    intro _ j v hv
    have := HB.out j v hv
    rw [World.cell?_alloc_lt _ _ _ (World.block_lt_of_cell? _ _ this)]
    exact this
  case c4 => rw [hbl, HL.out, Array.length_toList, size_madeCells]; omega
  case c5 => exact bytes_one bs
  case c6 => exact (Below.refl _ _).alloc (Nat.le_refl _) _
  intro w1 HG hbel
  have hg := HG.out
  rw [splice_whole _ _ (by rw [hbl, HL.out, Array.length_toList, size_madeCells])] at hg
  have HG1 := tuck hg
  clear hg HG
  go_wp2
  go_ret
  refine ⟨_, rfl, ⟨by rw [hbl, HL.out]; omega, .inr ⟨w.heap.size, n, _, rfl, Nat.le_refl _, HG1.out, Nat.le_refl _, by unfold maxLen; omega, by simp [hbl, HL.out], ?_⟩⟩, hbel⟩
  simp only [Nat.mul_one]
  exact List.take_of_length_le (by rw [hbl, HL.out]; omega)

/-- 'zzCloneBytes': a row of the call's own with the same bytes, or nil. -/
theorem clone_any (ao : Option Addr) (n cap : Nat) (hn : n ≤ 1048576) (bs : List UInt8) (w : World) (hb : BytesAt w ao n cap bs) :
    Calls Try.prog 11 #[.slice ao n cap] w fun e w' => ∃ v', e = .returned v' ∧ w'.ownsRow w.heap.size 5 1 v' n (Lib.byteCells bs) ∧ Below w.heap.size w w' := by
  obtain ⟨hl, ⟨rfl, rfl, rfl⟩ | ⟨x, rfl, hc⟩⟩ := hb
  · refine (clone_none w).mono ?_
    rintro e w' ⟨rfl, rfl⟩
    obtain rfl : bs = [] := List.eq_nil_of_length_eq_zero hl
    exact ⟨_, rfl, World.ownsRow_nil _ _ _ _, Below.refl _ _⟩
  · exact clone_some x n cap hn bs w hl hc
end Go.Proofs.Qxb6608748a
