import Derived.Test.Qxb6608748aRow
import Derived.Deep.RegionHeld3
import Derived.Deep.OwnRows
namespace Go.Proofs.Qxb6608748a
open Go.RowKit

set_option maxHeartbeats 400000 in
theorem zzvalue_any (k : Int) (z : Int) (s : ByteArray) (w : World) :
    Calls Try.prog 21 #[.int .u8 k, .int .i64 z, .string s] w fun e w' => e = .returned (.agg #[.int .u8 k, .int .i64 z, .string s]) ∧ Below w.heap.size w w' := by
  go_enter Try.func21, Try.ntmps21
  go_wp2
  exact bodyPost_ret (v := .agg #[.int .u8 k, .int .i64 z, .string s]) (by simp [results, Try.results21, go_sem]) rfl ⟨rfl, (Below.refl _ _).alloc (Nat.le_refl _) _⟩

theorem info49 : ∃ i : TypeInfo, Try.prog.info? 49 = some i ∧ i.zero = some (.agg #[.int .u8 0, .int .i64 0, .string ByteArray.empty]) ∧ i.size = 3 ∧ i.bytes = 32 := by
  obtain ⟨i, hi, h⟩ := Option.map_eq_some_iff.1 (show (Try.prog.info? 49).map (fun i => (i.zero, i.size, i.bytes)) = some (some (.agg #[.int .u8 0, .int .i64 0, .string ByteArray.empty]), 3, 32) from by kernel_rfl)
  simp only [Prod.mk.injEq] at h
  exact ⟨i, hi, h.1, h.2.1, h.2.2⟩

/-- 'zzBuildRow', k rounds done. -/
structure ValsMid (V n k : Nat) (R : Nat → ZV) (w wr : World) : Prop where
  row : ∃ f, wr.rowIs V 49 (n * 3) f
  vals : ValsAt wr V 0 k R
  below : Below V w wr

theorem ValsMid.step {V n k : Nat} {R : Nat → ZV} {w wr w1 : World} (h : ValsMid V n k R w wr) (hk : k < n) (hb : Below wr.heap.size wr w1) :
    ValsMid V n (k + 1) R w (((w1.setCell ⟨V, k * 3, none⟩ (.int .u8 (R k).kind)).setCell ⟨V, k * 3 + 1, none⟩ (.int .i64 (R k).num)).setCell ⟨V, k * 3 + 1 + 1, none⟩ (.string (R k).str)) := by
  obtain ⟨⟨f, h1⟩, h2, h3⟩ := h
  have l := h1.lt
  have r1 := h1.of_block (hb.block _ l)
  have r2 := ((r1.set (k * 3) (.int .u8 (R k).kind)).set (k * 3 + 1) (.int .i64 (R k).num)).set (k * 3 + 1 + 1) (.string (R k).str)
  refine ⟨⟨_, r2⟩, ?_, (((h3.trans (hb.mono (by omega))).setCell (by simp) _).setCell (by simp) _).setCell (by simp) _⟩
  intro i hi
  have g := fun (j : Nat) (hj : j < n * 3) => r2.cell hj
  by_cases e : i = k
  · subst e
    refine ⟨?_, ?_, ?_⟩
    · rw [Nat.zero_add, g _ (by omega)]; simp [show ¬ i * 3 = i * 3 + 1 + 1 from by omega]
    · rw [Nat.zero_add, g _ (by omega)]; simp
    · rw [Nat.zero_add, g _ (by omega)]; simp
  · obtain ⟨q1, q2, q3⟩ := (h2.kept hb l) i (by omega)
    have o : ∀ (j : Nat), j ≠ k * 3 ∧ j ≠ k * 3 + 1 ∧ j ≠ k * 3 + 1 + 1 → (((w1.setCell ⟨V, k * 3, none⟩ (.int .u8 (R k).kind)).setCell ⟨V, k * 3 + 1, none⟩ (.int .i64 (R k).num)).setCell ⟨V, k * 3 + 1 + 1, none⟩ (.string (R k).str)).cell? ⟨V, j, none⟩ = w1.cell? ⟨V, j, none⟩ := by
      intro j hj
      obtain ⟨j1, j2, j3⟩ := hj
      have hne : ∀ x, j ≠ x → (⟨V, x, none⟩ : Addr) ≠ ⟨V, j, none⟩ := fun x h e => h (by injection e with _ e2; exact e2.symm)
      rw [World.cell?_setCell_other _ _ _ _ (hne _ j3), World.cell?_setCell_other _ _ _ _ (hne _ j2), World.cell?_setCell_other _ _ _ _ (hne _ j1)]
    exact ⟨by rw [o _ (by omega)]; exact q1, by rw [o _ (by omega)]; exact q2, by rw [o _ (by omega)]; exact q3⟩

theorem ValsMid.start (w : World) (n : Nat) (R : Nat → ZV) (z : Array Value) : ValsMid w.heap.size n 0 R w (w.alloc (.cells (madeCells z (n * 3)) 49)) := by
  refine ⟨⟨fun j => (madeCells z (n * 3)).getD j undef, ?_⟩, fun i hi => by omega, (Below.refl _ _).alloc (Nat.le_refl _) _⟩
  have := World.rowIs_alloc w (madeCells z (n * 3)) 49 (fun j => (madeCells z (n * 3)).getD j undef) (fun i hi => by simp [Array.getD, hi])
  rw [size_madeCells] at this
  exact this

set_option maxHeartbeats 1000000 in
set_option maxRecDepth 100000 in
theorem buildRow_any (ar : Option Addr) (n cap : Nat) (R : Nat → ZV) (w : World) (hR : RowAt w ar n R) (hn : n ≤ 1048576) :
    Calls Try.prog 9 #[.slice ar n cap] w fun e w' => e = .returned (.slice (some ⟨w.heap.size, 0, none⟩) n n) ∧ ValsAt w' w.heap.size 0 n R ∧ w.heap.size < w'.heap.size ∧ Below w.heap.size w w' := by
  obtain ⟨i, hi, hz, hs, hby⟩ := info49
  have hmk := fun w' => run_make (P := Try.prog) w' 25 49 i _ Try.underlying25 hi hz .i64 .i64 n n (by omega) (by omega) (by rw [hby]; omega) (by omega)
  simp only [Int.toNat_natCast, hs, Value.cells] at hmk
  have HR := tuck hR
  clear hR hz hs hby hi
  go_enter Try.func9, Try.ntmps9
  go_wp2
  clear hmk
  go_loopw [4] (fun vi wr => ∃ k : Nat, k ≤ n ∧ vi = .int .i64 k ∧ Hid (ValsMid w.heap.size n k R w wr)) (fun vi _ => n - (intOf vi).toNat)
  case atStart => exact ⟨0, by omega, rfl, ValsMid.start w n R _⟩
  case round =>
    obtain ⟨k, hk, rfl, HM⟩ := hrel
    by_cases hlt : k < n
    · have hb := HM.out.below
      obtain ⟨b, off, rfl, hv⟩ := HR.out (by omega)
      have hold : b < w.heap.size := World.block_lt_of_cell? _ _ (hv k hlt).1
      obtain ⟨c1, c2, c3⟩ := hv.kept hb hold k hlt
      clear hv
      obtain ⟨f, hrow⟩ := HM.out.row
      have hVl := hrow.lt
      have hi1 : (k : Int) < (n : Int) := by omega
      have hi0 : (0 : Int) ≤ (k : Int) := by omega
      have hne : w.heap.size ≠ b := by omega
      clear hb
      have HW := tuck hrow
      clear hrow
      go_wp2
      go_region_held3 (fun w' => w'.cell? ⟨b, off + k * 3, none⟩ = some (.int .u8 (R k).kind) ∧ w'.cell? ⟨b, off + k * 3 + 1, none⟩ = some (.int .i64 (R k).num) ∧ w'.cell? ⟨b, off + k * 3 + 1 + 1, none⟩ = some (.string (R k).str)) (first | go_keep | skip)
        (first | (go_at_call 21; refine (zzvalue_any _ _ _ _).mono ?_; rintro e w1 ⟨rfl, hb1⟩; have d1 : w1.cell? ⟨b, off + k * 3, none⟩ = some (.int .u8 (R k).kind) := (hb1.cell (by show b < wr.heap.size; omega)).trans c1; have d2 : w1.cell? ⟨b, off + k * 3 + 1, none⟩ = some (.int .i64 (R k).num) := (hb1.cell (by show b < wr.heap.size; omega)).trans c2; have d3 : w1.cell? ⟨b, off + k * 3 + 1 + 1, none⟩ = some (.string (R k).str) := (hb1.cell (by show b < wr.heap.size; omega)).trans c3; have r1 := (HW.out.of_block (hb1.block _ hVl)); have s1 := r1.cell (show k * 3 < n * 3 by omega); have s2 := r1.cell (show k * 3 + 1 < n * 3 by omega); have s3 := r1.cell (show k * 3 + 1 + 1 < n * 3 by omega); have f1 := r1.frozen (k * 3); have f2 := r1.frozen (k * 3 + 1); have f3 := r1.frozen (k * 3 + 1 + 1); clear r1))
      all_goals
        go_wp2
        go_roundw
        case rel => exact ⟨k + 1, by omega, by go_num, (HM.out.step hlt ⟨hb1.os, hb1.tape, hb1.output, hb1.size, hb1.block⟩)⟩
        case measure => simp [intOf]; omega
    · have e : k = n := by omega
      subst e
      go_wp2
      go_ret
      exact ⟨rfl, HM.out.vals, by obtain ⟨f, hf⟩ := HM.out.row; exact hf.lt, HM.out.below⟩
end Go.Proofs.Qxb6608748a
