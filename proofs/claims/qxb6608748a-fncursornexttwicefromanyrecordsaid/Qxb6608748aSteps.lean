import Derived.Test.Qxb6608748aBuild
import Derived.LaidEql
namespace Go.Proofs.Qxb6608748a
open Go.RowKit

theorem tot_le (f : Nat → Int) (n : Nat) (h : ∀ j, j < n → 1 ≤ f j ∧ f j ≤ 64) (j : Nat) : ∀ i, i ≤ j → j ≤ n → tot f i ≤ tot f j := by
  induction j with
  | zero => intro i hi _; rw [show i = 0 from by omega]; exact Int.le_refl _
  | succ j ih =>
    intro i hi hj
    by_cases e : i = j + 1
    · subst e; exact Int.le_refl _
    · have := ih i (by omega) (by omega)
      have := h j (by omega)
      simp only [tot]
      omega

/-- Where the cursor stands: at place p (from 0) of the table, leaf j. -/
def Stands (n : Nat) (f : Nat → Int) (j : Nat) (p : Int) : Prop := j < n ∧ tot f j ≤ p ∧ (j + 1 < n → p < tot f (j + 1))

theorem Stands.place {n : Nat} {f : Nat → Int} {j : Nat} {p : Int} (h : Stands n f j p) (hp : p < tot f n) : 0 ≤ p - tot f j ∧ p - tot f j < f j := by
  obtain ⟨h1, h2, h3⟩ := h
  refine ⟨by omega, ?_⟩
  have e : tot f (j + 1) = tot f j + f j := rfl
  by_cases c : j + 1 < n
  · have := h3 c; omega
  · rw [show n = j + 1 from by omega, e] at hp; omega

/-- One step of the cursor. -/
theorem Stands.step {n : Nat} {f : Nat → Int} {j : Nat} {p : Int} (nb : Nat → Nat) (hf : ∀ j, j < n → 1 ≤ f j ∧ f j ≤ 64) (h : Stands n f j p) (hp : p < tot f n) :
    ∃ k, j ≤ k ∧ stepOf (nb j) (if j + 1 < n then some ⟨nb (j + 1), 0, none⟩ else none) (f j).toNat (p - tot f j) = (.pointer (some ⟨nb k, 0, none⟩), p + 1 - tot f k) ∧ Stands n f k (p + 1) := by
  have hpl := h.place hp
  obtain ⟨h1, h2, h3⟩ := h
  have hfj := hf j h1
  have e : tot f (j + 1) = tot f j + f j := rfl
  unfold stepOf
  by_cases c : p - tot f j + 1 = ((f j).toNat : Int)
  · rw [if_pos c]
    by_cases d : j + 1 < n
    · rw [if_pos d]
      refine ⟨j + 1, by omega, ?_, d, by omega, fun hd => ?_⟩
      · show (Value.pointer (some ⟨nb (j + 1), 0, none⟩), (0 : Int)) = _
        rw [show p + 1 - tot f (j + 1) = 0 from by omega]
      · have e2 : tot f (j + 1 + 1) = tot f (j + 1) + f (j + 1) := rfl
        have := hf (j + 1) d
        omega
    · rw [if_neg d]
      refine ⟨j, by omega, ?_, h1, by omega, fun hd => absurd hd d⟩
      show (Value.pointer (some ⟨nb j, 0, none⟩), p - tot f j + 1) = _
      rw [show p - tot f j + 1 = p + 1 - tot f j from by omega]
  · rw [if_neg c]
    refine ⟨j, by omega, ?_, h1, by omega, fun hd => by omega⟩
    rw [show p - tot f j + 1 = p + 1 - tot f j from by omega]

theorem cursor_step {LB PB n : Nat} {nb : Nat → Nat} {f : Nat → Int} {j : Nat} {p : Int} {w : World} (hB : Built LB PB n nb f w) (hf : ∀ j, j < n → 1 ≤ f j ∧ f j ≤ 64) (h : Stands n f j p) (hp : p < tot f n) :
    ∃ k, j ≤ k ∧ Stands n f k (p + 1) ∧ Calls Try.prog 18 #[.pointer (some ⟨nb j, 0, none⟩), .int .i64 (p - tot f j)] w fun e w' => e = .returned (.tuple #[.pointer (some ⟨nb k, 0, none⟩), .int .i64 (p + 1 - tot f k)]) ∧ Below w.heap.size w w' := by
  obtain ⟨k, hk, hst, hs⟩ := h.step nb hf hp
  have hpl := h.place hp
  have hfj := hf j h.1
  have K := cursor_any (nb j) _ (f j).toNat (p - tot f j) w (hB.leaf j h.1) (by omega) (by omega) (by omega)
  rw [hst] at K
  exact ⟨k, hk, hs, K⟩

set_option maxHeartbeats 400000 in
theorem fit_zero (a : Option Addr) (cap : Nat) (w : World) :
    Calls Try.prog 16 #[.slice a 0 cap] w fun e w' => w' = w ∧ e = .returned (.bool false) := by
  go_enter Try.func16, Try.ntmps16
  go_wp2
  go_ret
  exact ⟨rfl, rfl⟩

theorem under42 : Try.prog.underlying 42 = some (.pointer 72) := by kernel_rfl
theorem ptr_in (d : Nat) (a : Addr) (w : World) : (Op.equalIn (d + 1) 42 (.pointer (some a)) (.pointer (some a))).run Try.prog w = .ok true w := by
  obtain ⟨i, hi⟩ : ∃ i, Try.prog.info? 72 = some i := Option.isSome_iff_exists.1 (by kernel_rfl)
  simp [Op.equalIn, run_underlying under42, typeInfo, sizeOf, run_sameAddr_same, hi]
theorem ptr_same (a : Addr) (w : World) : (binOp .eql 42 (.pointer (some a)) (.pointer (some a))).run Try.prog w = .ok (.bool true) w := by
  simp only [binOp]
  simp [Op.equal, Op.maxDepth, ptr_in 9999 a w]
theorem ptr_not (a : Addr) (w : World) : (binOp .neq 42 (.pointer (some a)) (.pointer (some a))).run Try.prog w = .ok (.bool false) w := by
  simp only [binOp]
  simp [Op.equal, Op.maxDepth, ptr_in 9999 a w]
end Go.Proofs.Qxb6608748a
