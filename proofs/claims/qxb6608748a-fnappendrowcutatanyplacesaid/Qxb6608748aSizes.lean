import Derived.Test.Qxb6608748aOut
import Derived.BigQuiet
import Derived.Deep.QuietTactic
namespace Go.Proofs.Qxb6608748a
open Go.RowKit

theorem bdrewN {B : Nat} {a w : World} (h : Below B a w) (q : Nat) : Below B a (w.drewN q) := h.trans ⟨rfl, rfl, rfl, Nat.le_refl _, fun _ _ => rfl⟩

set_option maxRecDepth 100000 in
set_option maxHeartbeats 400000 in
theorem usize_any (x : Nat) (hx : x < 18446744073709551616) (w : World) :
    Calls Try.prog 23 #[.int .u64 x] w fun e w' => e = .returned (.int .i64 ((Lib.uvarint x).length : Int)) ∧ w' = w := by
  have hlen := Lib.uvarint_length64 hx
  go_enter Try.func23, Try.ntmps23
  go_wp2
  go_loop [0, 3] (fun xv mv => ∃ (y j : Nat), xv = .int .u64 y ∧ mv = .int .i64 j ∧ y ≤ x ∧ 1 ≤ j ∧ j ≤ 10 ∧ Hid (j + (Lib.uvarint y).length = (Lib.uvarint x).length + 1)) (fun xv _ => (intOf xv).toNat)
  case atStart => exact ⟨x, 1, rfl, rfl, Nat.le_refl _, by omega, by omega, by simp only [Hid]; omega⟩
  case round =>
    obtain ⟨y, j, rfl, rfl, hy, hj1, hj2, HJ⟩ := hrel
    have hp := Lib.uvarint_pos y
    by_cases h : 128 ≤ y
    · have hu : (Lib.uvarint y).length = (Lib.uvarint (y / 128)).length + 1 := by rw [Lib.uvarint_big h]; simp
      have hp2 := Lib.uvarint_pos (y / 128)
      have hj3 : j + 1 ≤ 10 := by have := HJ.out; omega
      have HJ1 : Hid (j + 1 + (Lib.uvarint (y / 128)).length = (Lib.uvarint x).length + 1) := by have := HJ.out; simp only [Hid]; omega
      clear hu HJ hp hp2
      go_wp2
      go_round
      case rel => exact ⟨y / 128, j + 1, by go_num, by go_num, by omega, by omega, by omega, HJ1⟩
      case measure => simp [intOf]; omega
    · have hu : (Lib.uvarint y).length = 1 := by rw [Lib.uvarint_small (by omega)]; rfl
      have hj : (j : Int) = ((Lib.uvarint x).length : Int) := by have := HJ.out; omega
      have HJ1 := tuck hj
      clear hu hj HJ hp
      go_wp2
      go_ret
      exact ⟨by rw [← HJ1.out]; rfl, rfl⟩

set_option maxRecDepth 100000 in
set_option maxHeartbeats 400000 in
theorem vsize_null (k : Nat) (z : Int) (s : ByteArray) (hk1 : k ≠ 1) (hk2 : k ≠ 2) (w : World) :
    Calls Try.prog 14 #[.agg #[.int .u8 k, .int .i64 z, .string s]] w fun e w' => e = .returned (.int .i64 1) ∧ Below w.heap.size w w' := by
  have c1 : (((k : Int) == 1) : Bool) = false := u8_ne hk1
  have c2 : (((k : Int) == 2) : Bool) = false := u8_ne hk2
  go_enter Try.func14, Try.ntmps14
  go_wp2
  go_ret
  exact ⟨rfl, (Below.refl _ _).alloc (Nat.le_refl _) _⟩

set_option maxRecDepth 100000 in
set_option maxHeartbeats 400000 in
theorem vsize_num (z : Int) (h0 : -9223372036854775808 ≤ z) (h1 : z ≤ 9223372036854775807) (s : ByteArray) (w : World) :
    Calls Try.prog 14 #[.agg #[.int .u8 1, .int .i64 z, .string s]] w fun e w' => e = .returned (.int .i64 (1 + ((Lib.uvarint (Lib.zigzag z)).length : Int))) ∧ Below w.heap.size w w' := by
  have hU := fun w' => usize_any (Lib.zigzag z) (Lib.zigzag_lt h0 h1) w'
  have hlen := Lib.uvarint_length64 (Lib.zigzag_lt h0 h1)
  by_cases hneg : z < 0
  · rw [← Lib.zigzag_neg h0 hneg] at hU
    have HU := tuck hU
    clear hU
    go_enter Try.func14, Try.ntmps14
    go_wp2_with (go_at_call 23; refine (HU.out _).mono ?_; rintro e w1 ⟨rfl, rfl⟩)
    go_ret
    exact ⟨rfl, (Below.refl _ _).alloc (Nat.le_refl _) _⟩
  · rw [Lib.zigzag_nonneg (by omega)] at hU
    have HU := tuck hU
    clear hU
    go_enter Try.func14, Try.ntmps14
    go_wp2_with (go_at_call 23; refine (HU.out _).mono ?_; rintro e w1 ⟨rfl, rfl⟩)
    go_ret
    exact ⟨rfl, (Below.refl _ _).alloc (Nat.le_refl _) _⟩

set_option maxRecDepth 100000 in
set_option maxHeartbeats 400000 in
theorem vsize_text (z : Int) (s : ByteArray) (hs : s.size ≤ 1048576) (w : World) :
    Calls Try.prog 14 #[.agg #[.int .u8 2, .int .i64 z, .string s]] w fun e w' => e = .returned (.int .i64 (1 + ((Lib.uvarint s.size).length : Int) + (s.size : Int))) ∧ Below w.heap.size w w' := by
  have HU := tuck (fun w' => usize_any s.size (by omega) w')
  have hlen := Lib.uvarint_length64 (x := s.size) (by omega)
  have hw1 : IntKind.i64.wrap (1 + ((Lib.uvarint s.size).length : Int)) = 1 + ((Lib.uvarint s.size).length : Int) := by rw [IntKind.wrap_i64]; omega
  have hw2 : IntKind.i64.wrap (1 + ((Lib.uvarint s.size).length : Int) + (s.size : Int)) = 1 + ((Lib.uvarint s.size).length : Int) + (s.size : Int) := by rw [IntKind.wrap_i64]; omega
  go_enter Try.func14, Try.ntmps14
  go_wp2
  go_quiet ((go_at_call 23; exact Calls.quiet_of_same (HU.out _)))
  go_wp2
  go_ret
  exact ⟨rfl, bdrewN ((Below.refl _ _).alloc (Nat.le_refl _) _) _⟩

/-- 'zzValueSize' answers how many bytes 'appendValue' lays. -/
theorem vsize_any (v : ZV) (h0 : -9223372036854775808 ≤ v.num) (h1 : v.num ≤ 9223372036854775807) (hs : v.str.size ≤ 1048576) (w : World) :
    Calls Try.prog 14 #[.agg #[.int .u8 v.kind, .int .i64 v.num, .string v.str]] w fun e w' => e = .returned (.int .i64 (v.enc.length : Int)) ∧ Below w.heap.size w w' := by
  obtain ⟨k, z, s⟩ := v
  simp only at h0 h1 hs ⊢
  by_cases e1 : k = 1
  · subst e1
    refine (vsize_num z h0 h1 s w).mono ?_
    rintro e w' ⟨rfl, hb⟩
    have e : ((ZV.enc ⟨1, z, s⟩).length : Int) = 1 + ((Lib.uvarint (Lib.zigzag z)).length : Int) := by simp [ZV.enc]; omega
    exact ⟨by rw [e], hb⟩
  by_cases e2 : k = 2
  · subst e2
    refine (vsize_text z s hs w).mono ?_
    rintro e w' ⟨rfl, hb⟩
    have e : ((ZV.enc ⟨2, z, s⟩).length : Int) = 1 + ((Lib.uvarint s.size).length : Int) + (s.size : Int) := by
      have e0 : s.data.size = s.size := rfl
      simp [ZV.enc]; omega
    exact ⟨by rw [e], hb⟩
  refine (vsize_null k z s e1 e2 w).mono ?_
  rintro e w' ⟨rfl, hb⟩
  have e : (ZV.enc ⟨k, z, s⟩) = [0] := by simp [ZV.enc, e1, e2]
  exact ⟨by rw [e]; rfl, hb⟩

set_option maxHeartbeats 400000 in
theorem bytes13_any (ao : Option Addr) (m mc : Nat) (ar : Option Addr) (n cap : Nat) (kk : Int) (R : Nat → ZV) (w : World) (hR : RowAt w ar n R) (hm : m ≤ maxLen) (hn : n ≤ maxLen) :
    Calls Try.prog 13 #[.slice ao m mc, .slice ar n cap, .int .i64 kk] w fun e w' => w' = w ∧ SaysBool e := by
  unfold maxLen at hm hn
  have HR := tuck hR
  clear hR
  by_cases h1 : 1048576 < (m : Int)
  · go_enter Try.func13, Try.ntmps13
    go_wp2
    go_ret
    exact ⟨rfl, _, rfl⟩
  by_cases h2 : 1048576 < (n : Int)
  · go_enter Try.func13, Try.ntmps13
    go_wp2
    go_ret
    exact ⟨rfl, _, rfl⟩
  by_cases h3 : 1048576 < (m : Int) + (n : Int)
  · go_enter Try.func13, Try.ntmps13
    go_wp2
    go_ret
    exact ⟨rfl, _, rfl⟩
  go_enter Try.func13, Try.ntmps13
  go_wp2
  go_loop [7, 8] (fun t i => ∃ (k s : Nat), k ≤ n ∧ s ≤ 1048576 ∧ i = .int .i64 k ∧ t = .int .i64 s) (fun _ i => n - (intOf i).toNat)
  case atStart => exact ⟨0, m + n, by omega, by omega, rfl, by go_num⟩
  case round =>
    obtain ⟨k, s, hk, hs, rfl, rfl⟩ := hrel
    by_cases hlt : k < n
    · obtain ⟨b, off, rfl, hv⟩ := HR.out (by omega)
      obtain ⟨_, _, c3⟩ := hv k hlt
      clear hv
      by_cases h4 : 1048576 < ((R k).str.size : Int)
      · go_wp2
        go_ret
        exact ⟨rfl, _, rfl⟩
      by_cases h5 : 1048576 < (s : Int) + ((R k).str.size : Int)
      · go_wp2
        go_ret
        exact ⟨rfl, _, rfl⟩
      go_wp2
      go_round
      case rel => exact ⟨k + 1, s + (R k).str.size, by omega, by omega, by go_num, by go_num⟩
      case measure => simp [intOf]; omega
    · go_wp2
      go_ret
      exact ⟨rfl, _, rfl⟩

end Go.Proofs.Qxb6608748a
