import Derived.Lib.VarintBits
import Derived.Lib.Varint
import Derived.Lib.Zigzag
import Derived.IntWalk
namespace Go.Proofs.Qxb6608748a

theorem or_add (k : Nat) (hk : k ≤ 9) (a b : Nat) (ha : a < 2 ^ (7 * k)) (hb : b * 2 ^ (7 * k) < 18446744073709551616) :
    bits .or .u64 (a : Int) (IntKind.u64.wrap ((b : Int) * 2 ^ (7 * k))) = ((a + b * 2 ^ (7 * k) : Nat) : Int) := by
  have hs : k = 0 ∨ k = 1 ∨ k = 2 ∨ k = 3 ∨ k = 4 ∨ k = 5 ∨ k = 6 ∨ k = 7 ∨ k = 8 ∨ k = 9 := by omega
  rcases hs with rfl | rfl | rfl | rfl | rfl | rfl | rfl | rfl | rfl | rfl
  · simp only [show 7 * 0 = 0 from rfl, show (2 : Nat) ^ 0 = 1 from rfl, show (2 : Int) ^ 0 = 1 from rfl] at ha hb ⊢
    rw [IntWalk.u64_in _ ⟨by omega, by omega⟩, u64_orv0 (x := (b : Int) * 1) (y := (a : Int)) (by omega) (by omega) (by omega) (by omega) (by omega)]; omega
  · simp only [show 7 * 1 = 7 from rfl, show (2 : Nat) ^ 7 = 128 from rfl, show (2 : Int) ^ 7 = 128 from rfl] at ha hb ⊢
    rw [IntWalk.u64_in _ ⟨by omega, by omega⟩, u64_orv7 (x := (b : Int) * 128) (y := (a : Int)) (by omega) (by omega) (by omega) (by omega) (by omega)]; omega
  · simp only [show 7 * 2 = 14 from rfl, show (2 : Nat) ^ 14 = 16384 from rfl, show (2 : Int) ^ 14 = 16384 from rfl] at ha hb ⊢
    rw [IntWalk.u64_in _ ⟨by omega, by omega⟩, u64_orv14 (x := (b : Int) * 16384) (y := (a : Int)) (by omega) (by omega) (by omega) (by omega) (by omega)]; omega
  · simp only [show 7 * 3 = 21 from rfl, show (2 : Nat) ^ 21 = 2097152 from by decide, show (2 : Int) ^ 21 = 2097152 from by decide] at ha hb ⊢
    rw [IntWalk.u64_in _ ⟨by omega, by omega⟩, u64_orv21 (x := (b : Int) * 2097152) (y := (a : Int)) (by omega) (by omega) (by omega) (by omega) (by omega)]; omega
  · simp only [show 7 * 4 = 28 from rfl, show (2 : Nat) ^ 28 = 268435456 from by decide, show (2 : Int) ^ 28 = 268435456 from by decide] at ha hb ⊢
    rw [IntWalk.u64_in _ ⟨by omega, by omega⟩, u64_orv28 (x := (b : Int) * 268435456) (y := (a : Int)) (by omega) (by omega) (by omega) (by omega) (by omega)]; omega
  · simp only [show 7 * 5 = 35 from rfl, show (2 : Nat) ^ 35 = 34359738368 from by decide, show (2 : Int) ^ 35 = 34359738368 from by decide] at ha hb ⊢
    rw [IntWalk.u64_in _ ⟨by omega, by omega⟩, u64_orv35 (x := (b : Int) * 34359738368) (y := (a : Int)) (by omega) (by omega) (by omega) (by omega) (by omega)]; omega
  · simp only [show 7 * 6 = 42 from rfl, show (2 : Nat) ^ 42 = 4398046511104 from by decide, show (2 : Int) ^ 42 = 4398046511104 from by decide] at ha hb ⊢
    rw [IntWalk.u64_in _ ⟨by omega, by omega⟩, u64_orv42 (x := (b : Int) * 4398046511104) (y := (a : Int)) (by omega) (by omega) (by omega) (by omega) (by omega)]; omega
  · simp only [show 7 * 7 = 49 from rfl, show (2 : Nat) ^ 49 = 562949953421312 from by decide, show (2 : Int) ^ 49 = 562949953421312 from by decide] at ha hb ⊢
    rw [IntWalk.u64_in _ ⟨by omega, by omega⟩, u64_orv49 (x := (b : Int) * 562949953421312) (y := (a : Int)) (by omega) (by omega) (by omega) (by omega) (by omega)]; omega
  · simp only [show 7 * 8 = 56 from rfl, show (2 : Nat) ^ 56 = 72057594037927936 from by decide, show (2 : Int) ^ 56 = 72057594037927936 from by decide] at ha hb ⊢
    rw [IntWalk.u64_in _ ⟨by omega, by omega⟩, u64_orv56 (x := (b : Int) * 72057594037927936) (y := (a : Int)) (by omega) (by omega) (by omega) (by omega) (by omega)]; omega
  · simp only [show 7 * 9 = 63 from rfl, show (2 : Nat) ^ 63 = 9223372036854775808 from by decide, show (2 : Int) ^ 63 = 9223372036854775808 from by decide] at ha hb ⊢
    rw [IntWalk.u64_in _ ⟨by omega, by omega⟩, u64_orv63 (x := (b : Int) * 9223372036854775808) (y := (a : Int)) (by omega) (by omega) (by omega) (by omega) (by omega)]; omega

/-- The rest of x behind k groups of seven bits. -/
def rest (x k : Nat) : Nat := x / 2 ^ (7 * k)
def low (x k : Nat) : Nat := x % 2 ^ (7 * k)

theorem low_rest (x k : Nat) : low x k + rest x k * 2 ^ (7 * k) = x := by
  unfold low rest
  rw [Nat.mul_comm (x / 2 ^ (7 * k))]; exact Nat.mod_add_div x (2 ^ (7 * k))

theorem pow7 (k : Nat) : 2 ^ (7 * (k + 1)) = 2 ^ (7 * k) * 128 := by
  rw [Nat.mul_add, Nat.pow_add]

theorem rest_succ (x k : Nat) : rest x (k + 1) = rest x k / 128 := by
  unfold rest
  rw [pow7, Nat.div_div_eq_div_mul]

theorem low_succ (x k : Nat) : low x (k + 1) = low x k + rest x k % 128 * 2 ^ (7 * k) := by
  unfold low rest
  rw [pow7, Nat.mod_mul, Nat.mul_comm (2 ^ (7 * k)) (x / 2 ^ (7 * k) % 128)]

theorem low_lt (x k : Nat) : low x k < 2 ^ (7 * k) := Nat.mod_lt _ (Nat.two_pow_pos _)

theorem rest_nine {x : Nat} (hx : x < 18446744073709551616) : rest x 9 ≤ 1 := by
  unfold rest
  have : (2 : Nat) ^ (7 * 9) = 9223372036854775808 := by decide
  rw [this]
  omega

/-- The last byte's bits come on top. -/
theorem or_last {x k : Nat} (hx : x < 18446744073709551616) (hk : k ≤ 9) : bits .or .u64 (low x k : Int) (IntKind.u64.wrap ((rest x k : Int) * 2 ^ (7 * k))) = (x : Int) := by
  have h := low_rest x k
  rw [or_add k hk _ _ (low_lt x k) (by omega), h]

theorem or_nine {x : Nat} (hx : x < 18446744073709551616) (h : rest x 9 = 1) : bits .or .u64 (low x 9 : Int) 9223372036854775808 = (x : Int) := by
  have := or_last hx (k := 9) (by omega)
  rw [h, show ((1 : Nat) : Int) * 2 ^ (7 * 9) = 9223372036854775808 from by decide, IntWalk.u64_in _ ⟨by omega, by omega⟩] at this
  exact this

/-- A byte on the way. -/
theorem or_mid {x k : Nat} (hx : x < 18446744073709551616) (hk : k ≤ 9) : bits .or .u64 (low x k : Int) (IntKind.u64.wrap (((rest x k % 128 : Nat) : Int) * 2 ^ (7 * k))) = (low x (k + 1) : Int) := by
  have h := low_rest x k
  have h2 : rest x k % 128 * 2 ^ (7 * k) ≤ rest x k * 2 ^ (7 * k) := Nat.mul_le_mul_right _ (Nat.mod_le _ _)
  rw [or_add k hk _ _ (low_lt x k) (by omega), low_succ]

/-- zig-zag back. -/
theorem zig_even {n : Int} (h : 0 ≤ n) : Lib.zigzag n / 2 = n.toNat ∧ Lib.zigzag n % 2 = 0 := by unfold Lib.zigzag; rw [if_pos h]; omega
theorem zig_odd {n : Int} (h : n < 0) : Lib.zigzag n / 2 = (-n - 1).toNat ∧ Lib.zigzag n % 2 = 1 := by unfold Lib.zigzag; rw [if_neg (by omega)]; omega
end Go.Proofs.Qxb6608748a
