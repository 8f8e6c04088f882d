import Derived.Test.Qxb6608748aMid
import Derived.Deep.RegionWith
namespace Go.Proofs.Qxb6608748a
open Go.RowKit

theorem tuck {p : Prop} (h : p) : Hid p := h

theorem Link.drew {B n k : Nat} {nb : Nat → Nat} {f : Nat → Int} {w wr : World} (h : Link B n k nb f w wr) : Link B n k nb f w wr.drew :=
  ⟨h.1.drew, h.2.drew, fun j hj => ⟨(h.3 j hj).1, ⟨(h.3 j hj).2.1.1, (h.3 j hj).2.1.2, (h.3 j hj).2.1.3⟩, (h.3 j hj).2.2⟩, h.4, h.5.drew⟩

set_option maxRecDepth 100000 in
set_option maxHeartbeats 1000000 in
theorem build_any (b off n cap : Nat) (f : Nat → Int) (w : World) (hn : Nums w b off n f) (hfit : Fits n f) :
    Calls Try.prog 17 #[.slice (some ⟨b, off, none⟩) n cap] w fun e w' => ∃ nb : Nat → Nat, e = .returned (.tuple #[.slice (some ⟨w.heap.size, 0, none⟩) n n, .slice (some ⟨w.heap.size + 1, 0, none⟩) n n, .int .i64 (tot f n)]) ∧
      Built w.heap.size (w.heap.size + 1) n nb f w' ∧ Below w.heap.size w w' := by
  obtain ⟨hn1, hn2, hf⟩ := hfit
  have hold : b < w.heap.size := World.block_lt_of_cell? _ _ (hn 0 (by omega))
  have hmk := run_make_row' (P := Try.prog) 39 42 (.pointer none) 8 Try.underlying39 info42 rfl .i64 .i64 n (by omega) (by omega)
  have hmk2 := run_make_row' (P := Try.prog) 37 3 (.int .i64 0) 8 Try.underlying37 info3 rfl .i64 .i64 n (by omega) (by omega)
  have HF : Hid (∀ j, j < n → 1 ≤ f j ∧ f j ≤ 64) := hf
  have HN : Hid (Nums w b off n f) := hn
  clear hn hf
  go_enter Try.func17, Try.ntmps17
  go_wp2
  clear hmk hmk2
  go_loopw [7, 8] (fun t i wr => ∃ (k : Nat) (nb : Nat → Nat), k ≤ n ∧ i = .int .i64 k ∧ t = .int .i64 (tot f k) ∧ Mid w.heap.size n k nb f w wr) (fun _ i _ => n - (intOf i).toNat)
  case atStart => exact ⟨0, _, by omega, rfl, rfl, Mid.start w n f⟩
  case round =>
    obtain ⟨k, nb, hk, rfl, rfl, HM⟩ := hrel
    have hbd := tot_bd f k (fun j hj => HF.out j (by omega))
    by_cases hlt : k < n
    · have hc : wr.cell? ⟨b, off + k, none⟩ = some (.int .i64 (f k)) := by rw [HM.below.cell (by exact hold)]; exact HN.out k hlt
      have hfk := HF.out k hlt
      go_wp2_with fail
      refine (newLeaf_int (f k) (by omega) (by omega) _).mono ?_
      rintro e w1 ⟨nl, rfl, hnl, hleaf, hfz, hbel⟩
      have HS := HM.step nl hnl hleaf hfz hbel
      have r1 := HM.leaves.of_block (hbel.block _ HM.leaves.lt)
      have r2 := HM.pre.of_block (hbel.block _ HM.pre.lt)
      have c1 : w1.cell? ⟨w.heap.size, k, none⟩ = some (.pointer none) := by simpa using r1.cell hlt
      have c2 : w1.cell? ⟨w.heap.size + 1, k, none⟩ = some (.int .i64 0) := by simpa using r2.cell hlt
      have f1 := r1.frozen k
      have f2 := r2.frozen k
      have c3 : w1.cell? ⟨b, off + k, none⟩ = some (.int .i64 (f k)) := by rw [hbel.cell (by have := HM.size; show b < _; omega)]; exact hc
      clear r1 r2 hleaf hfz hbel hc HM hnl
      go_wp2
      go_roundw
      case rel => exact ⟨k + 1, _, by omega, by go_num, rfl, HS⟩
      case measure => simp [intOf]; omega
    · have e : k = n := by omega
      subst e
      have HL := Link.start HM
      clear HM hlt hk
      go_wp2
      go_loopw [9] (fun i ws => ∃ m : Nat, m + 1 ≤ k ∧ i = .int .i64 m ∧ Link w.heap.size k m nb f w ws) (fun i _ => k - (intOf i).toNat)
      case atStart => exact ⟨0, by omega, rfl, HL⟩
      case round =>
        clear HL
        obtain ⟨m, hm, rfl, HL⟩ := hrel
        by_cases hlt : m + 1 < k
        · have c1 := HL.leaves.cell (show m < k by omega)
          have c2 := HL.leaves.cell hlt
          obtain ⟨g1, g2, g3⟩ := HL.leaf m (by omega)
          have K := setNext_any (nb m) (some ⟨nb (m + 1), 0, none⟩) _ wr.drew g2.next g3
          have HK := tuck K
          have HS := HL.step hlt
          have hi1 : (m : Int) + 1 < (k : Int) := by omega
          have hi2 : (0 : Int) ≤ (m : Int) + 1 := by omega
          have hi4 : IntKind.i64.wrap ((m : Int) + 1) = (m : Int) + 1 := by rw [IntKind.wrap_i64]; omega
          have hi3 : (m : Int) < (k : Int) := by omega
          clear g2 g3 K
          go_wp2
          go_region_with (go_at_call 25; refine HK.out.mono ?_; rintro e w2 ⟨rfl, rfl⟩)
          all_goals
            go_wp2
            go_roundw
            case rel => exact ⟨m + 1, by omega, by go_num, HS.drew⟩
            case measure => simp [intOf]; omega
        · go_wp2
          go_ret3
          exact ⟨nb, rfl, HL.done (by omega), HL.below⟩
end Go.Proofs.Qxb6608748a
