import Derived.Test.Qxb6608748aClone
namespace Go.Proofs.Qxb6608748a
open Go.RowKit

/-- The call answers a bool. -/
def SaysBool (e : Ending) : Prop := ∃ r, e = .returned (.bool r)

/-- The bytes of the first k texts. -/
def sumStr (R : Nat → ZV) : Nat → Nat
  | 0 => 0
  | k + 1 => sumStr R k + (R k).str.size

set_option maxHeartbeats 400000 in
theorem bytes7_any (ao : Option Addr) (m mc : Nat) (ar : Option Addr) (n cap : Nat) (R : Nat → ZV) (w : World) (hR : RowAt w ar n R) (hm : m ≤ maxLen) (hn : n ≤ maxLen) :
    Calls Try.prog 7 #[.slice ao m mc, .slice ar n cap] w fun e w' => w' = w ∧ SaysBool e := by
  unfold maxLen at hm hn
  have HR := tuck hR
  clear hR
  by_cases h1 : 1048576 < (m : Int)
  · go_enter Try.func7, Try.ntmps7
    go_wp2
    go_ret
    exact ⟨rfl, _, rfl⟩
  by_cases h2 : 1048576 < (n : Int)
  · go_enter Try.func7, Try.ntmps7
    go_wp2
    go_ret
    exact ⟨rfl, _, rfl⟩
  by_cases h3 : 1048576 < (m : Int) + (n : Int)
  · go_enter Try.func7, Try.ntmps7
    go_wp2
    go_ret
    exact ⟨rfl, _, rfl⟩
  go_enter Try.func7, Try.ntmps7
  go_wp2
  go_loop [5, 6] (fun t i => ∃ (k s : Nat), k ≤ n ∧ s ≤ 1048576 ∧ i = .int .i64 k ∧ t = .int .i64 s) (fun _ i => n - (intOf i).toNat)
  case atStart => exact ⟨0, m + n, by omega, by omega, rfl, by go_num⟩
  case round =>
    obtain ⟨k, s, hk, hs, rfl, rfl⟩ := hrel
    by_cases hlt : k < n
    · obtain ⟨b, off, rfl, hv⟩ := HR.out (by omega)
      obtain ⟨_, _, c3⟩ := hv k hlt
      clear hv
      by_cases h4 : 1048576 < ((R k).str.size : Int)
      · go_wp2
        go_ret
        exact ⟨rfl, _, rfl⟩
      by_cases h5 : 1048576 < (s : Int) + ((R k).str.size : Int)
      · go_wp2
        go_ret
        exact ⟨rfl, _, rfl⟩
      go_wp2
      go_round
      case rel => exact ⟨k + 1, s + (R k).str.size, by omega, by omega, by go_num, by go_num⟩
      case measure => simp [intOf]; omega
    · go_wp2
      go_ret
      exact ⟨rfl, _, rfl⟩

/-- What 'zzAppendRowFits' lets by. -/
def RowFits (m n : Nat) (R : Nat → ZV) : Prop := n ≤ 32768 ∧ m + 32 * n + sumStr R n ≤ 1048576 ∧ ∀ i, i < n → (R i).fits

def FitsSaid (m n : Nat) (R : Nat → ZV) (e : Ending) : Prop := ∃ r, e = .returned (.bool r) ∧ (r = true → RowFits m n R)

theorem str_zero {s : ByteArray} (h : (!s.toList.isEmpty) = false) : s.size = 0 := by
  rw [ByteArray.toList_eq] at h
  have h2 : s.data = #[] := by simpa using h
  show s.data.size = 0
  rw [h2]; rfl

theorem fits_0 {v : ZV} (h : ((v.kind : Int) == 0) = true) (h2 : v.num = 0) (h3 : (!v.str.toList.isEmpty) = false) : v.fits :=
  .inl ⟨by have := eq_of_beq h; omega, h2, str_zero h3⟩
theorem fits_1 {v : ZV} (h : ((v.kind : Int) == 1) = true) (h3 : (!v.str.toList.isEmpty) = false) : v.fits :=
  .inr (.inl ⟨by have := eq_of_beq h; omega, str_zero h3⟩)
theorem fits_2 {v : ZV} (h : ((v.kind : Int) == 2) = true) (h3 : (v.num != 0) = false) : v.fits :=
  .inr (.inr ⟨by have := eq_of_beq h; omega, by simpa using h3⟩)

theorem fits_more {R : Nat → ZV} {q : Nat} (h : ∀ j, j < q → (R j).fits) (hq : (R q).fits) : ∀ j, j < q + 1 → (R j).fits := by
  intro j hj
  by_cases e : j = q
  · subst e; exact hq
  · exact h j (by omega)

set_option maxHeartbeats 1000000 in
theorem fits8_any (ao : Option Addr) (m mc : Nat) (ar : Option Addr) (n cap : Nat) (R : Nat → ZV) (w : World) (hR : RowAt w ar n R) (hm : m ≤ maxLen) (hn : n ≤ maxLen) :
    Calls Try.prog 8 #[.slice ao m mc, .slice ar n cap] w fun e w' => w' = w ∧ FitsSaid m n R e := by
  unfold maxLen at hm hn
  have HR := tuck hR
  clear hR
  by_cases h1 : 1048576 < (m : Int)
  · go_enter Try.func8, Try.ntmps8
    go_wp2
    go_ret
    exact ⟨rfl, _, rfl, fun h => by cases h⟩
  by_cases h2 : 32768 < (n : Int)
  · go_enter Try.func8, Try.ntmps8
    go_wp2
    go_ret
    exact ⟨rfl, _, rfl, fun h => by cases h⟩
  by_cases h3 : 1048576 < (m : Int) + 32 * (n : Int)
  · go_enter Try.func8, Try.ntmps8
    go_wp2
    go_ret
    exact ⟨rfl, _, rfl, fun h => by cases h⟩
  go_enter Try.func8, Try.ntmps8
  go_wp2
  go_loop [5, 6] (fun t i => ∃ (k s : Nat), k ≤ n ∧ s ≤ 1048576 ∧ i = .int .i64 k ∧ t = .int .i64 s ∧ Hid (s = m + 32 * n + sumStr R k)) (fun _ i => n - (intOf i).toNat)
  case atStart => exact ⟨0, m + 32 * n, by omega, by omega, rfl, by go_num, rfl⟩
  case round =>
    obtain ⟨k, s, hk, hs, rfl, rfl, HS⟩ := hrel
    by_cases hlt : k < n
    · obtain ⟨b, off, rfl, hv⟩ := HR.out (by omega)
      obtain ⟨_, _, c3⟩ := hv k hlt
      clear hv
      by_cases h4 : 1048576 < ((R k).str.size : Int)
      · go_wp2
        go_ret
        exact ⟨rfl, _, rfl, fun h => by cases h⟩
      by_cases h5 : 1048576 < (s : Int) + ((R k).str.size : Int)
      · go_wp2
        go_ret
        exact ⟨rfl, _, rfl, fun h => by cases h⟩
      go_wp2
      go_round
      case rel => exact ⟨k + 1, s + (R k).str.size, by omega, by omega, by go_num, by go_num, by have := HS.out; simp only [sumStr, Hid]; omega⟩
      case measure => simp [intOf]; omega
    · have e : k = n := by omega
      subst e
      have HS2 : Hid (m + 32 * k + sumStr R k ≤ 1048576) := by have := HS.out; simp only [Hid]; omega
      clear HS hlt
      go_wp2
      go_loop [7] (fun i => ∃ q : Nat, q ≤ k ∧ i = .int .i64 q ∧ Hid (∀ j, j < q → (R j).fits)) (fun i => k - (intOf i).toNat)
      case atStart => exact ⟨0, by omega, rfl, fun j hj => by omega⟩
      case round =>
        obtain ⟨q, hq, rfl, HQ⟩ := hrel
        by_cases hlt : q < k
        · obtain ⟨b, off, rfl, hv⟩ := HR.out (by omega)
          obtain ⟨c1, c2, c3⟩ := hv q hlt
          clear hv
          go_wp2
          all_goals first
            | (have hf : (R q).fits := by first | exact fits_0 ‹_› ‹_› ‹_› | exact fits_1 ‹_› ‹_› | exact fits_2 ‹_› ‹_›
               have HQ1 := tuck (fits_more HQ.out hf)
               go_round
               case rel => exact ⟨q + 1, by omega, by go_num, HQ1⟩
               case measure => simp [intOf]; omega)
            | (go_ret; exact ⟨rfl, _, rfl, fun h => by cases h⟩)
        · go_wp2
          go_ret
          exact ⟨rfl, _, rfl, fun _ => ⟨by omega, HS2.out, fun i hi => HQ.out i (by omega)⟩⟩
end Go.Proofs.Qxb6608748a
