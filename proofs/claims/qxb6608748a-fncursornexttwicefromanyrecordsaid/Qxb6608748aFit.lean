import Derived.Test.Qxb6608748aLeaves
namespace Go.Proofs.Qxb6608748a
open Go.RowKit

/-- The numbers of a slice in memory. -/
def Nums (w : World) (b off len : Nat) (f : Nat → Int) : Prop := ∀ j, j < len → w.cell? ⟨b, off + j, none⟩ = some (.int .i64 (f j))

theorem Nums.kept {w w' : World} {b off len : Nat} {f : Nat → Int} (h : Nums w b off len f) {B : Nat} (hb : Below B w w') (hB : b < B) : Nums w' b off len f :=
  fun j hj => by rw [hb.cell (by exact hB)]; exact h j hj

/-- The sum of the first n numbers. -/
def tot (f : Nat → Int) : Nat → Int
  | 0 => 0
  | n + 1 => tot f n + f n

/-- What 'zzLeavesFit' lets by. -/
def Fits (len : Nat) (f : Nat → Int) : Prop := 1 ≤ len ∧ len ≤ 4096 ∧ ∀ j, j < len → 1 ≤ f j ∧ f j ≤ 64

theorem tot_bd (f : Nat → Int) (n : Nat) (h : ∀ j, j < n → 1 ≤ f j ∧ f j ≤ 64) : (n : Int) ≤ tot f n ∧ tot f n ≤ 64 * n := by
  induction n with
  | zero => simp [tot]
  | succ n ih =>
    have := ih (fun j hj => h j (by omega))
    have := h n (by omega)
    simp only [tot]
    omega

/-- It answers a bool, and 'true' only where the counts fit. -/
def FitEnd (len : Nat) (f : Nat → Int) (e : Ending) : Prop := ∃ r, e = .returned (.bool r) ∧ (r = true → Fits len f)

set_option maxHeartbeats 400000 in
theorem fit_some (b off len cap : Nat) (f : Nat → Int) (w : World) (hn : Nums w b off len f) (hl : len ≤ maxLen) :
    Calls Try.prog 16 #[.slice (some ⟨b, off, none⟩) len cap] w fun e w' => w' = w ∧ FitEnd len f e := by
  unfold maxLen at hl
  by_cases h1 : 4096 < (len : Int)
  · go_enter Try.func16, Try.ntmps16
    go_wp2
    go_ret
    exact ⟨rfl, _, rfl, fun h => by cases h⟩
  by_cases h2 : len = 0
  · have h2' : (((len : Int) == 0) : Bool) = true := beq_iff_eq.2 (by omega)
    go_enter Try.func16, Try.ntmps16
    go_wp2
    go_ret
    exact ⟨rfl, _, rfl, fun h => by cases h⟩
  have h2' : (((len : Int) == 0) : Bool) = false := beq_eq_false_iff_ne.2 (by omega)
  go_enter Try.func16, Try.ntmps16
  go_wp2
  go_loop [3, 4] (fun t i => ∃ k : Nat, k ≤ len ∧ i = .int .i64 k ∧ t = .int .i64 (tot f k) ∧ Hid (∀ j, j < k → 1 ≤ f j ∧ f j ≤ 64)) (fun _ i => len - (intOf i).toNat)
  case atStart => exact ⟨0, by omega, rfl, rfl, fun j hj => by omega⟩
  case round =>
    obtain ⟨k, hk, rfl, rfl, HB⟩ := hrel
    have hbd := tot_bd f k HB.out
    by_cases hlt : k < len
    · have hc := hn k hlt
      have HC := (show Hid _ from hn)
      clear hn
      by_cases c1 : f k < 1
      · go_wp2
        go_ret
        exact ⟨rfl, _, rfl, fun h => by cases h⟩
      by_cases c2 : 64 < f k
      · go_wp2
        go_ret
        exact ⟨rfl, _, rfl, fun h => by cases h⟩
      go_wp2
      go_round
      case rel => exact ⟨k + 1, by omega, by go_num, rfl, fun j hj => by
        by_cases e : j = k
        · subst e; omega
        · exact HB.out j (by omega)⟩
      case measure => simp [intOf]; omega
    · clear hn
      go_wp2
      go_ret
      exact ⟨rfl, _, rfl, fun _ => ⟨by omega, by omega, fun j hj => HB.out j (by omega)⟩⟩
end Go.Proofs.Qxb6608748a
