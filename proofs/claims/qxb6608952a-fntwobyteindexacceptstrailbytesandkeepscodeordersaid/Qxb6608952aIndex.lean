import Derived.Test.Qxb6608952aProg
import Derived.WalkKit
import Derived.WalkSpells
import Derived.WalkLawsBesides
namespace Go.Proofs.Qxb6608952a
open Go.RowKit

theorem tuck {p : Prop} (h : p) : Hid p := h

/-- 'first - 0x81' on bytes. -/
def lead (f : Int) : Int := (f - 129) % 256
/-- The rank of an accepted second byte. -/
def rk (s : Int) : Int := if 127 < s then s - 65 else s - 64
/-- Is the second byte accepted? -/
def okS (s : Int) : Bool := decide (64 ≤ s ∧ s ≠ 127 ∧ s ≠ 255)
def idx (f s : Int) : Int := if okS s = true then lead f * 190 + rk s else 0

theorem wrapu8 (x : Int) : IntKind.u8.wrap x = x % 256 := by
  simp [IntKind.wrap, IntKind.bits, IntKind.signed]

theorem ret_idx {a a' : Int} (h : a = a') : Ending.returned (.tuple #[.int .i64 a, .bool true]) = Ending.returned (.tuple #[.int .i64 a', .bool true]) := by rw [h]

set_option maxHeartbeats 400000 in
theorem index_yes (f s : Int) (hs0 : 64 ≤ s) (hs1 : s ≤ 254) (hs2 : s ≠ 127) (w : World) :
    Calls Try.prog 19 #[.int .u8 f, .int .u8 s] w fun e w' => e = .returned (.tuple #[.int .i64 (lead f * 190 + rk s), .bool true]) ∧ w' = w := by
  have c1 : ¬ s < 64 := by omega
  have c2 : ((s == 127) : Bool) = false := beq_eq_false_iff_ne.2 hs2
  have c3 : ((s == 255) : Bool) = false := beq_eq_false_iff_ne.2 (by omega)
  by_cases h : 127 < s
  · go_enter Try.func19, Try.ntmps19
    go_wp2
    go_ret2
    exact ⟨ret_idx (by unfold lead rk; rw [if_pos h]; omega), rfl⟩
  · have h' := h
    go_enter Try.func19, Try.ntmps19
    go_wp2
    go_ret2
    exact ⟨ret_idx (by unfold lead rk; rw [if_neg (by omega)]), rfl⟩

set_option maxHeartbeats 400000 in
theorem index_no (f s : Int) (hs : s < 64 ∨ s = 127 ∨ s = 255) (w : World) :
    Calls Try.prog 19 #[.int .u8 f, .int .u8 s] w fun e w' => e = .returned (.tuple #[.int .i64 0, .bool false]) ∧ w' = w := by
  by_cases c1 : s < 64
  · go_enter Try.func19, Try.ntmps19
    go_wp2
    go_ret2
    exact ⟨rfl, rfl⟩
  by_cases c2 : s = 127
  · subst c2
    go_enter Try.func19, Try.ntmps19
    go_wp2
    go_ret2
    exact ⟨rfl, rfl⟩
  · obtain rfl : s = 255 := by omega
    go_enter Try.func19, Try.ntmps19
    go_wp2
    go_ret2
    exact ⟨rfl, rfl⟩

theorem index_any (f s : Int) (hs1 : s ≤ 255) (w : World) :
    Calls Try.prog 19 #[.int .u8 f, .int .u8 s] w fun e w' => e = .returned (.tuple #[.int .i64 (idx f s), .bool (okS s)]) ∧ w' = w := by
  by_cases h : 64 ≤ s ∧ s ≠ 127 ∧ s ≠ 255
  · have e : okS s = true := by simp [okS, h]
    rw [idx, if_pos e, e]
    exact index_yes f s h.1 (by omega) h.2.1 w
  · have e : okS s = false := by simp only [okS]; exact decide_eq_false h
    rw [idx, if_neg (by rw [e]; simp), e]
    exact index_no f s (by omega) w

set_option maxHeartbeats 400000 in
theorem zzindex_any (f s : Int) (hs1 : s ≤ 255) (w : World) :
    Calls Try.prog 9 #[.int .u8 f, .int .u8 s] w fun e w' => e = .returned (.tuple #[.int .i64 (idx f s), .bool (okS s)]) ∧ w' = w := by
  have HK := tuck (index_any f s hs1 w)
  go_enter Try.func9, Try.ntmps9
  go_wp2_with fail
  refine HK.out.mono ?_
  rintro e w1 ⟨rfl, rfl⟩
  clear HK
  go_wp2
  go_ret2
  exact ⟨rfl, rfl⟩

def leadB (f : Int) : Bool := decide (129 ≤ f ∧ f ≤ 254)

set_option maxHeartbeats 400000 in
theorem lead_any (f : Int) (w : World) : Calls Try.prog 10 #[.int .u8 f] w fun e w' => e = .returned (.bool (leadB f)) ∧ w' = w := by
  by_cases h1 : 129 ≤ f
  · by_cases h2 : f ≤ 254
    · have e : leadB f = true := by simp [leadB, h1, h2]
      rw [e]; clear e
      go_enter Try.func10, Try.ntmps10
      go_wp2
      go_ret
      exact ⟨rfl, rfl⟩
    · have e : leadB f = false := by simp [leadB, h2]
      rw [e]; clear e
      go_enter Try.func10, Try.ntmps10
      go_wp2
      go_ret
      exact ⟨rfl, rfl⟩
  · have e : leadB f = false := by simp [leadB, h1]
    rw [e]; clear e
    go_enter Try.func10, Try.ntmps10
    go_wp2
    go_ret
    exact ⟨rfl, rfl⟩

set_option maxHeartbeats 400000 in
theorem trail_any (s : Int) (hs : s ≤ 255) (w : World) : Calls Try.prog 11 #[.int .u8 s] w fun e w' => e = .returned (.bool (okS s)) ∧ w' = w := by
  by_cases h1 : 64 ≤ s
  · by_cases h2 : s ≤ 254
    · by_cases h3 : s = 127
      · subst h3
        have e : okS 127 = false := rfl
        rw [e]; clear e
        go_enter Try.func11, Try.ntmps11
        go_wp2
        go_ret
        exact ⟨rfl, rfl⟩
      · have e : okS s = true := by simp [okS, h1, h3]; omega
        have h3' : (s != 127) = true := by simp [h3]
        rw [e]; clear e
        go_enter Try.func11, Try.ntmps11
        go_wp2
        go_ret
        exact ⟨rfl, rfl⟩
    · have e : okS s = false := by simp [okS]; omega
      rw [e]; clear e
      go_enter Try.func11, Try.ntmps11
      go_wp2
      go_ret
      exact ⟨rfl, rfl⟩
  · have e : okS s = false := by simp [okS, h1]
    rw [e]; clear e
    go_enter Try.func11, Try.ntmps11
    go_wp2
    go_ret
    exact ⟨rfl, rfl⟩
end Go.Proofs.Qxb6608952a
