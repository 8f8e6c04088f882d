import Derived.Test.Qxb6608748aCursor
import Derived.Deep.OwnRows
namespace Go.Proofs.Qxb6608748a
open Go.RowKit

theorem info73 : (Try.prog.info? 73).map (fun i => (i.zero, i.size, i.bytes)) = some (some (.pointer none), 1, 8) := by kernel_rfl
theorem info42 : (Try.prog.info? 42).map (fun i => (i.zero, i.size, i.bytes)) = some (some (.pointer none), 1, 8) := by kernel_rfl
theorem info3 : (Try.prog.info? 3).map (fun i => (i.zero, i.size, i.bytes)) = some (some (.int .i64 0), 1, 8) := by kernel_rfl

theorem node_built (a : Option Addr) (n c : Nat) : ∃ cells, Try.prog.built 72 [(5, .slice a n c)] = some cells ∧ cells[5]? = some (.pointer none) ∧ cells[9]? = some (.slice a n c) :=
  ⟨(Try.prog.built 72 [(5, .slice a n c)]).getD #[], by kernel_rfl, by kernel_rfl, by kernel_rfl⟩

theorem record_built : ∃ cells, Try.prog.built 90 [] = some cells :=
  ⟨(Try.prog.built 90 []).getD #[], by kernel_rfl⟩

theorem wpList_build_as {P : Program} {ops : Array Oper} {rest : List Oper} {o : Oper} {a : Act} {w : World} {Q : Exit → Act → World → Prop} (hg : o.guard = none) (t : TypeId) (parts : Array (Nat × Operand)) (ho : o.op = .build t parts)
    (cells : Array Value) (hf : P.built t (parts.map fun (i, x) => (i, a.eval x)).toList = some cells)
    (h : wpList P ops Q rest (a.put o.dst (.agg cells)) w) : wpList P ops Q (o :: rest) a w := by
  refine wpList_build hg t parts ho (by rw [hf]; rfl) ?_
  rw [hf]
  exact h

/-- What the loop of 'ZZNewLeaf' holds: the row of records at block B, the node at B + 1. -/
structure LeafMade (B c : Nat) (w wr : World) : Prop where
  recs : wr.cell? ⟨B + 1, 9, none⟩ = some (.slice (some ⟨B, 0, none⟩) c c)
  next : wr.cell? ⟨B + 1, 5, none⟩ = some (.pointer none)
  free : wr.frozen? ⟨B + 1, 5, none⟩ = false
  row : ∃ f, wr.rowIs B 73 c f
  size : B + 2 ≤ wr.heap.size
  below : Below B w wr

theorem LeafMade.start (w : World) (c : Nat) (cells : Array Value) (h5 : cells[5]? = some (.pointer none)) (h9 : cells[9]? = some (.slice (some ⟨w.heap.size, 0, none⟩) c c)) :
    LeafMade w.heap.size c w ((w.alloc (.cells (madeCells #[Value.pointer none] c) 73)).alloc (.cells cells 72)) := by
  refine ⟨?_, ?_, ?_, ⟨_, (World.rowIs_made w (.pointer none) c 73).alloc _⟩, by simp, ((Below.refl _ _).alloc (Nat.le_refl _) _).alloc (by simp) _⟩
  · rw [World.cell?_alloc2_new]; exact h9
  · rw [World.cell?_alloc2_new]; exact h5
  · exact World.frozen?_alloc_at _ _ _ _ (by simp)

theorem LeafMade.step {B c : Nat} {w wr : World} (h : LeafMade B c w wr) (o : Obj) (k : Nat) (v : Value) : LeafMade B c w ((wr.alloc o).setCell ⟨B, k, none⟩ v) := by
  obtain ⟨h1, h2, h3, ⟨f, h4⟩, h5, h6⟩ := h
  refine ⟨?_, ?_, ?_, ⟨_, (h4.alloc o).set k v⟩, ?_, (h6.alloc (by omega) o).setCell (by simp) v⟩
  · rw [World.cell?_of_block (Below.heap_setCell _ _ _ _ (by simp)), World.cell?_alloc_lt _ _ _ (by simp; omega)]; exact h1
  · rw [World.cell?_of_block (Below.heap_setCell _ _ _ _ (by simp)), World.cell?_alloc_lt _ _ _ (by simp; omega)]; exact h2
  · rw [World.frozen?_of_block (Below.heap_setCell _ _ _ _ (by simp)), World.frozen?_alloc_old _ _ _ (by simp; omega)]; exact h3
  · simp [World.setCell]; omega

set_option maxRecDepth 100000 in
set_option maxHeartbeats 400000 in
theorem newLeaf_any (c : Nat) (hc : c ≤ 64) (w : World) :
    Calls Try.prog 24 #[.int .i64 c] w fun e w' => ∃ b, e = .returned (.pointer (some ⟨b, 0, none⟩)) ∧ w.heap.size ≤ b ∧ LeafAt w' b none c ∧ w'.frozen? ⟨b, 5, none⟩ = false ∧ Below w.heap.size w w' := by
  obtain ⟨cells, hbuilt, h5, h9⟩ := node_built (some ⟨w.heap.size, 0, none⟩) c c
  obtain ⟨rcells, rbuilt⟩ := record_built
  have hmk := run_make_row' (P := Try.prog) 58 73 (.pointer none) 8 Try.underlying58 info73 rfl .i64 .i64 c (by omega) (by omega)
  have HB := (show Hid _ from hbuilt)
  have HR := (show Hid _ from rbuilt)
  clear hbuilt rbuilt
  go_enter Try.func24, Try.ntmps24
  go_wp2_with (first | (refine wpList_build_as rfl 72 #[(5, .tmp 6)] rfl cells ?_ ?_; (· simp only [List.map_toArray, List.map_cons, List.map_nil, Act.eval]; exact HB.out)))
  go_loopw [4] (fun i wr => ∃ k : Nat, k ≤ c ∧ i = .int .i64 k ∧ LeafMade w.heap.size c w wr) (fun i _ => c - (intOf i).toNat)
  case atStart => exact ⟨0, by omega, rfl, LeafMade.start w c cells h5 h9⟩
  case round =>
    obtain ⟨k, hk, rfl, HM⟩ := hrel
    by_cases hlt : k < c
    · obtain ⟨f, hrow⟩ := HM.row
      have hcell : ∀ o, (wr.alloc o).cell? ⟨w.heap.size, k, none⟩ = some (f k) := fun o => (hrow.alloc o).cell hlt
      have hfr : ∀ o, (wr.alloc o).frozen? ⟨w.heap.size, k, none⟩ = false := fun o => (hrow.alloc o).frozen k
      have h9' := HM.recs
      clear hrow
      go_wp2_with (first | (refine wpList_build_as rfl 90 #[] rfl rcells ?_ ?_; (· simp only [List.map_toArray, List.map_nil]; exact HR.out)))
      go_roundw
      case rel => exact ⟨k + 1, by omega, by go_num, HM.step _ _ _⟩
      case measure => simp [intOf]; omega
    · go_wp2
      go_ret
      have : k = c := by omega
      obtain ⟨g1, g2, g3, g4, g5, g6⟩ := HM
      exact ⟨_, rfl, by omega, ⟨by omega, g2, _, g1⟩, g3, g6⟩

set_option maxHeartbeats 400000 in
theorem setNext_any (b : Nat) (q nx : Option Addr) (w : World) (hn : w.cell? ⟨b, 5, none⟩ = some (.pointer nx)) (hf : w.frozen? ⟨b, 5, none⟩ = false) :
    Calls Try.prog 25 #[.pointer (some ⟨b, 0, none⟩), .pointer q] w fun e w' => e = .returned (.tuple #[]) ∧ w' = w.setCell ⟨b, 5, none⟩ (.pointer q) := by
  go_enter Try.func25, Try.ntmps25
  go_wp2
  go_end0
  exact ⟨rfl, rfl⟩

set_option maxHeartbeats 400000 in
theorem bytes_any (a : Option Addr) (len cap : Nat) (hl : len ≤ maxLen) (w : World) :
    Calls Try.prog 15 #[.slice a len cap] w fun e w' => e = .returned (.bool (decide ((len : Int) ≤ 1048576))) ∧ w' = w := by
  unfold maxLen at hl
  by_cases h : (len : Int) ≤ 1048576
  · have h' : ¬ (1048576 < (len : Int)) := by omega
    have hd : decide ((len : Int) ≤ 1048576) = true := by simpa using h
    rw [hd]
    clear hd
    go_enter Try.func15, Try.ntmps15
    go_wp2
    go_ret
    exact ⟨rfl, rfl⟩
  · have h' : (1048576 < (len : Int)) := by omega
    have hd : decide ((len : Int) ≤ 1048576) = false := by simpa using h
    rw [hd]
    clear hd
    go_enter Try.func15, Try.ntmps15
    go_wp2
    go_ret
    exact ⟨rfl, rfl⟩
end Go.Proofs.Qxb6608748a
