import Derived.Test.Qxb6615572aDoorProg
import Derived.WalkKit
import Derived.WalkSpells
import Derived.WalkLawsBesides
import Derived.Lib.Walk
namespace Go.Proofs.Qxb6615572aDoor
open Go.RowKit

theorem tuck {p : Prop} (h : p) : Hid p := h

/-- May the byte stand in a token? -/
def tokB (c : Int) : Bool := decide ((97 ≤ c ∧ c ≤ 122) ∨ (65 ≤ c ∧ c ≤ 90) ∨ (48 ≤ c ∧ c ≤ 57) ∨ c = 33 ∨ c = 35 ∨ c = 36 ∨ c = 37 ∨ c = 38 ∨ c = 39 ∨ c = 42 ∨ c = 43 ∨ c = 45 ∨ c = 46 ∨ c = 94 ∨ c = 95 ∨ c = 96 ∨ c = 124 ∨ c = 126)

theorem tokB_true {c : Int} (h : (97 ≤ c ∧ c ≤ 122) ∨ (65 ≤ c ∧ c ≤ 90) ∨ (48 ≤ c ∧ c ≤ 57) ∨ c = 33 ∨ c = 35 ∨ c = 36 ∨ c = 37 ∨ c = 38 ∨ c = 39 ∨ c = 42 ∨ c = 43 ∨ c = 45 ∨ c = 46 ∨ c = 94 ∨ c = 95 ∨ c = 96 ∨ c = 124 ∨ c = 126) : tokB c = true := decide_eq_true h
theorem tokB_false {c : Int} (h : ¬ ((97 ≤ c ∧ c ≤ 122) ∨ (65 ≤ c ∧ c ≤ 90) ∨ (48 ≤ c ∧ c ≤ 57) ∨ c = 33 ∨ c = 35 ∨ c = 36 ∨ c = 37 ∨ c = 38 ∨ c = 39 ∨ c = 42 ∨ c = 43 ∨ c = 45 ∨ c = 46 ∨ c = 94 ∨ c = 95 ∨ c = 96 ∨ c = 124 ∨ c = 126)) : tokB c = false := decide_eq_false h

set_option maxHeartbeats 1000000 in
theorem tokenChar_any (c : Int) (w : World) (h0 : 0 ≤ c) (h1 : c ≤ 255) :
    Calls Tryd.prog 23 #[.int .u8 c] w fun e w' => e = .returned (.bool (tokB c)) ∧ w' = w := by
  go_enter Tryd.func23, Tryd.ntmps23
  go_wp2
  all_goals
    go_ret
    refine ⟨?_, rfl⟩
    try simp only [beq_eq_false_iff_ne, beq_iff_eq, ne_eq] at *
    first
      | (rw [tokB_true (by omega)]; rfl)
      | (rw [tokB_false (by omega)]; rfl)

/-- The byte at k. -/
def byte (s : ByteArray) (k : Nat) : Int := if h : k < s.size then (s[k].toNat : Int) else 0

theorem byte_eq (s : ByteArray) (k : Nat) (h : k < s.size) : (s[k].toNat : Int) = byte s k := by simp [byte, h]
theorem byte_nn (s : ByteArray) (k : Nat) : 0 ≤ byte s k := by unfold byte; split <;> omega
theorem byte_le (s : ByteArray) (k : Nat) : byte s k ≤ 255 := by
  unfold byte
  split
  · rename_i h
    have := s[k].toNat_lt
    omega
  · omega

/-- Is the string a token? -/
def tokS (s : ByteArray) : Bool := decide (s.size ≠ 0 ∧ ∀ k, k < s.size → tokB (byte s k) = true)
theorem tokS_true {s : ByteArray} (h : s.size ≠ 0) (h2 : ∀ k, k < s.size → tokB (byte s k) = true) : tokS s = true := decide_eq_true ⟨h, h2⟩
theorem tokS_empty {s : ByteArray} (h : s.size = 0) : tokS s = false := decide_eq_false fun q => q.1 h
theorem tokS_false {s : ByteArray} {k : Nat} (h : k < s.size) (h2 : tokB (byte s k) = false) : tokS s = false := decide_eq_false fun q => by have := q.2 k h; rw [h2] at this; cases this

/-- Is the byte a control, but a tab? -/
def ctlB (c : Int) : Bool := decide (c = 127 ∨ (c < 32 ∧ c ≠ 9))
/-- Has the string a control? -/
def ctlS (s : ByteArray) : Bool := !decide (∀ k, k < s.size → ctlB (byte s k) = false)
theorem ctlS_false {s : ByteArray} (h2 : ∀ k, k < s.size → ctlB (byte s k) = false) : ctlS s = false := by unfold ctlS; rw [decide_eq_true h2]; rfl
theorem ctlS_true {s : ByteArray} {k : Nat} (h : k < s.size) (h2 : ctlB (byte s k) = true) : ctlS s = true := by
  unfold ctlS
  rw [decide_eq_false fun q => by have := q k h; rw [h2] at this; cases this]
  rfl

theorem size_nil {s : ByteArray} : s.size = 0 ↔ s.toList.isEmpty = true := by
  cases s with
  | mk d => rw [List.isEmpty_iff, ByteArray.toList_eq]; simp [ByteArray.size]

set_option maxHeartbeats 1000000 in
theorem token_any (s : ByteArray) (w : World) (hs : s.size ≤ maxLen) :
    Calls Tryd.prog 18 #[.string s] w fun e w' => e = .returned (.bool (tokS s)) ∧ w' = w := by
  unfold maxLen at hs
  go_enter Tryd.func18, Tryd.ntmps18
  go_wp2
  go_loop [3] (fun i => ∃ k : Nat, k ≤ s.size ∧ i = .int .i64 k ∧ Hid (∀ j, j < k → tokB (byte s j) = true)) (fun i => s.size - (intOf i).toNat)
  case atStart => exact ⟨0, by omega, rfl, tuck (fun j hj => by omega)⟩
  case round =>
    obtain ⟨k, hk, rfl, HA⟩ := hrel
    by_cases hlt : k < s.size
    · have hb := byte_eq s k hlt
      have b0 := byte_nn s k
      have b1 := byte_le s k
      generalize hc : byte s k = c at *
      have HK := tuck (tokenChar_any c w b0 b1)
      cases ht : tokB c with
      | true =>
        rw [ht] at HK
        go_wp2_with (go_at_call 23; refine HK.out.mono ?_; rintro e w1 ⟨rfl, rfl⟩)
        go_round
        case rel =>
          refine ⟨k + 1, by omega, by go_num, tuck (fun j hj => ?_)⟩
          by_cases e : j = k
          · subst e; rw [hc]; exact ht
          · exact HA.out j (by omega)
        case measure => simp [intOf]; omega
      | false =>
        rw [ht] at HK
        go_wp2_with (go_at_call 23; refine HK.out.mono ?_; rintro e w1 ⟨rfl, rfl⟩)
        go_ret
        exact ⟨by rw [tokS_false hlt (by rw [hc]; exact ht)]; rfl, rfl⟩
    · have ek : k = s.size := by omega
      subst ek
      go_wp2
      go_ret
      refine ⟨?_, rfl⟩
      have e : (!s.toList.isEmpty) = tokS s := by
        by_cases h0 : s.size = 0
        · rw [tokS_empty h0, size_nil.1 h0]; rfl
        · rw [tokS_true h0 HA.out]
          cases hq : s.toList.isEmpty with
          | true => exact absurd (size_nil.2 hq) h0
          | false => rfl
      rw [← e]
      rfl

theorem ctlB_true {c : Int} (h : c = 127 ∨ (c < 32 ∧ c ≠ 9)) : ctlB c = true := decide_eq_true h
theorem ctlB_false {c : Int} (h : ¬ (c = 127 ∨ (c < 32 ∧ c ≠ 9))) : ctlB c = false := decide_eq_false h

set_option maxHeartbeats 1000000 in
theorem control_any (s : ByteArray) (w : World) (hs : s.size ≤ maxLen) :
    Calls Tryd.prog 19 #[.string s, .bool true] w fun e w' => e = .returned (.bool (ctlS s)) ∧ w' = w := by
  unfold maxLen at hs
  go_enter Tryd.func19, Tryd.ntmps19
  go_wp2
  go_loop [5, 6] (fun i _ => ∃ k : Nat, k ≤ s.size ∧ i = .int .i64 k ∧ Hid (∀ j, j < k → ctlB (byte s j) = false)) (fun i _ => s.size - (intOf i).toNat)
  case atStart => exact ⟨0, by omega, rfl, tuck (fun j hj => by omega)⟩
  case round =>
    obtain ⟨k, hk, rfl, HA⟩ := hrel
    by_cases hlt : k < s.size
    · have hb := byte_eq s k hlt
      have b0 := byte_nn s k
      have b1 := byte_le s k
      generalize hc : byte s k = c at *
      have HS : Hid (ctlB c = false → ∀ j, j < k + 1 → ctlB (byte s j) = false) := tuck fun h j hj => by
        by_cases e : j = k
        · subst e; rw [hc]; exact h
        · exact HA.out j (by omega)
      have HT : Hid (ctlB c = true → ctlS s = true) := tuck fun h => ctlS_true hlt (by rw [hc]; exact h)
      by_cases q1 : c < 32
      · by_cases q2 : c = 9
        · have q3 : ¬ c = 127 := by omega
          subst q2
          go_wp2
          go_round
          case rel => exact ⟨k + 1, by omega, by go_num, tuck (HS.out (ctlB_false (by omega)))⟩
          case measure => simp [intOf]; omega
        · have q3 : (c != 9) = true := by simpa using q2
          go_wp2
          go_ret
          exact ⟨by rw [HT.out (ctlB_true (by omega))]; rfl, rfl⟩
      · by_cases q3 : c = 127
        · subst q3
          go_wp2
          go_ret
          exact ⟨by rw [HT.out (ctlB_true (by omega))]; rfl, rfl⟩
        · have q4 : (c == 127) = false := by simpa using q3
          go_wp2
          go_round
          case rel => exact ⟨k + 1, by omega, by go_num, tuck (HS.out (ctlB_false (by omega)))⟩
          case measure => simp [intOf]; omega
    · have ek : k = s.size := by omega
      subst ek
      go_wp2
      go_ret
      exact ⟨by rw [ctlS_false HA.out]; rfl, rfl⟩

set_option maxHeartbeats 1000000 in
theorem zzControl_any (s : ByteArray) (w : World) (hs : s.size ≤ maxLen) :
    Calls Tryd.prog 14 #[.string s] w fun e w' => e = .returned (.bool (ctlS s)) ∧ w' = w := by
  unfold maxLen at hs
  go_enter Tryd.func14, Tryd.ntmps14
  go_wp2
  go_loop [3, 4] (fun i _ => ∃ k : Nat, k ≤ s.size ∧ i = .int .i64 k ∧ Hid (∀ j, j < k → ctlB (byte s j) = false)) (fun i _ => s.size - (intOf i).toNat)
  case atStart => exact ⟨0, by omega, rfl, tuck (fun j hj => by omega)⟩
  case round =>
    obtain ⟨k, hk, rfl, HA⟩ := hrel
    by_cases hlt : k < s.size
    · have hb := byte_eq s k hlt
      have b0 := byte_nn s k
      have b1 := byte_le s k
      generalize hc : byte s k = c at *
      have HS : Hid (ctlB c = false → ∀ j, j < k + 1 → ctlB (byte s j) = false) := tuck fun h j hj => by
        by_cases e : j = k
        · subst e; rw [hc]; exact h
        · exact HA.out j (by omega)
      have HT : Hid (ctlB c = true → ctlS s = true) := tuck fun h => ctlS_true hlt (by rw [hc]; exact h)
      by_cases q3 : c = 127
      · subst q3
        go_wp2
        go_ret
        exact ⟨by rw [HT.out (ctlB_true (by omega))]; rfl, rfl⟩
      have q4 : (c == 127) = false := by simpa using q3
      by_cases q1 : c < 32
      · by_cases q2 : c = 9
        · subst q2
          go_wp2
          go_round
          case rel => exact ⟨k + 1, by omega, by go_num, tuck (HS.out (ctlB_false (by omega)))⟩
          case measure => simp [intOf]; omega
        · have q5 : (c != 9) = true := by simpa using q2
          go_wp2
          go_ret
          exact ⟨by rw [HT.out (ctlB_true (by omega))]; rfl, rfl⟩
      · go_wp2
        go_round
        case rel => exact ⟨k + 1, by omega, by go_num, tuck (HS.out (ctlB_false (by omega)))⟩
        case measure => simp [intOf]; omega
    · have ek : k = s.size := by omega
      subst ek
      go_wp2
      go_ret
      exact ⟨by rw [ctlS_false HA.out]; rfl, rfl⟩

def letB (c : Int) : Bool := decide ((65 ≤ c ∧ c ≤ 90) ∨ (97 ≤ c ∧ c ≤ 122))

theorem or32 : ∀ c : Fin 256, (decide (97 ≤ bits .or .u8 (c.val : Int) 32 ∧ bits .or .u8 (c.val : Int) 32 ≤ 122)) = letB (c.val : Int) := by decide +kernel

set_option maxHeartbeats 1000000 in
theorem letter_any (c : Int) (w : World) (h0 : 0 ≤ c) (h1 : c ≤ 255) :
    Calls Tryd.prog 24 #[.int .u8 c] w fun e w' => e = .returned (.bool (letB c)) ∧ w' = w := by
  have hb := or32 ⟨c.toNat, by omega⟩
  simp only [show ((c.toNat : Nat) : Int) = c by omega] at hb
  generalize hx : bits .or .u8 c 32 = x at hb
  rw [← hb]
  by_cases q : 97 ≤ x
  · have e : decide (97 ≤ x ∧ x ≤ 122) = decide (x ≤ 122) := by simp [q]
    rw [e]
    go_enter Tryd.func24, Tryd.ntmps24
    go_wp2
    go_ret
    exact ⟨rfl, rfl⟩
  · have e : decide (97 ≤ x ∧ x ≤ 122) = false := by simp [q]
    rw [e]
    go_enter Tryd.func24, Tryd.ntmps24
    go_wp2
    go_ret
    exact ⟨rfl, rfl⟩

def marks : ByteArray := ⟨#[33, 35, 36, 37, 38, 39, 42, 43, 45, 46, 94, 95, 96, 124, 126]⟩
theorem marks_tok : ∀ k : Fin 15, tokB (byte marks k.val) = true := by decide +kernel
theorem marks_all : ∀ c : Fin 256, (∀ j : Fin 15, byte marks j.val ≠ (c.val : Int)) → ¬ (48 ≤ (c.val : Int) ∧ (c.val : Int) ≤ 57) → letB (c.val : Int) = false → tokB (c.val : Int) = false := by decide +kernel
theorem tok_let {c : Int} (h : letB c = true) : tokB c = true := by
  have := of_decide_eq_true h
  exact tokB_true (by omega)
theorem marks_at (k : Nat) (h : k < marks.size) : (marks[k].toNat : Int) = byte marks k := byte_eq _ _ _

set_option maxHeartbeats 1000000 in
theorem zzTokenByte_any (c : Int) (w : World) (h0 : 0 ≤ c) (h1 : c ≤ 255) :
    Calls Tryd.prog 20 #[.int .u8 c] w fun e w' => e = .returned (.bool (tokB c)) ∧ w' = w := by
  have HK := tuck (letter_any c w h0 h1)
  by_cases q1 : 48 ≤ c ∧ c ≤ 57
  · obtain ⟨q1, q2⟩ := q1
    rw [tokB_true (by omega)]
    go_enter Tryd.func20, Tryd.ntmps20
    go_wp2
    go_ret
    exact ⟨rfl, rfl⟩
  have hmA := marks_all ⟨c.toNat, by omega⟩
  simp only [show ((c.toNat : Nat) : Int) = c by omega] at hmA
  cases hl : letB c with
  | true =>
    rw [hl] at HK
    rw [tok_let hl]
    by_cases q2 : 48 ≤ c
    · have q3 : ¬ c ≤ 57 := by omega
      go_enter Tryd.func20, Tryd.ntmps20
      go_wp2_with (go_at_call 24; refine HK.out.mono ?_; rintro e w1 ⟨rfl, rfl⟩)
      go_ret
      exact ⟨rfl, rfl⟩
    · go_enter Tryd.func20, Tryd.ntmps20
      go_wp2_with (go_at_call 24; refine HK.out.mono ?_; rintro e w1 ⟨rfl, rfl⟩)
      go_ret
      exact ⟨rfl, rfl⟩
  | false =>
    rw [hl] at HK
    have HM := tuck (fun h => hmA h q1 hl)
    clear hmA
    by_cases q2 : 48 ≤ c
    · have q3 : ¬ c ≤ 57 := by omega
      go_enter Tryd.func20, Tryd.ntmps20
      go_wp2_with (go_at_call 24; refine HK.out.mono ?_; rintro e w1 ⟨rfl, rfl⟩)
      go_loop [3] (fun i => ∃ k : Nat, k ≤ 15 ∧ i = .int .i64 k ∧ Hid (∀ j, j < k → byte marks j ≠ c)) (fun i => 15 - (intOf i).toNat)
      case atStart => exact ⟨0, by omega, rfl, tuck (fun j hj => by omega)⟩
      case round =>
        obtain ⟨k, hk, rfl, HA⟩ := hrel
        by_cases hlt : k < 15
        · have hmt := marks_tok ⟨k, hlt⟩
          have hb : ((⟨#[33, 35, 36, 37, 38, 39, 42, 43, 45, 46, 94, 95, 96, 124, 126]⟩ : ByteArray)[k]'hlt).toNat = (byte marks k).toNat := by
            have := marks_at k hlt
            rw [← this]; rfl
          have hnn := byte_nn marks k
          simp only at hmt
          generalize hx : byte marks k = x at *
          have hxx : ((x.toNat : Nat) : Int) = x := by omega
          by_cases hxc : x = c
          · subst hxc
            go_wp2
            go_ret
            exact ⟨rfl, rfl⟩
          · have hxb : (x == c) = false := by simpa using hxc
            go_wp2
            go_round
            case rel =>
              refine ⟨k + 1, by omega, by go_num, tuck (fun j hj => ?_)⟩
              by_cases e : j = k
              · subst e; rw [hx]; exact hxc
              · exact HA.out j (by omega)
            case measure => simp [intOf]; omega
        · have ek : k = 15 := by omega
          subst ek
          go_wp2
          go_ret
          exact ⟨by rw [HM.out (fun j => HA.out j.val j.isLt)]; rfl, rfl⟩
    · go_enter Tryd.func20, Tryd.ntmps20
      go_wp2_with (go_at_call 24; refine HK.out.mono ?_; rintro e w1 ⟨rfl, rfl⟩)
      go_loop [3] (fun i => ∃ k : Nat, k ≤ 15 ∧ i = .int .i64 k ∧ Hid (∀ j, j < k → byte marks j ≠ c)) (fun i => 15 - (intOf i).toNat)
      case atStart => exact ⟨0, by omega, rfl, tuck (fun j hj => by omega)⟩
      case round =>
        obtain ⟨k, hk, rfl, HA⟩ := hrel
        by_cases hlt : k < 15
        · have hmt := marks_tok ⟨k, hlt⟩
          have hb : ((⟨#[33, 35, 36, 37, 38, 39, 42, 43, 45, 46, 94, 95, 96, 124, 126]⟩ : ByteArray)[k]'hlt).toNat = (byte marks k).toNat := by
            have := marks_at k hlt
            rw [← this]; rfl
          have hnn := byte_nn marks k
          simp only at hmt
          generalize hx : byte marks k = x at *
          have hxx : ((x.toNat : Nat) : Int) = x := by omega
          by_cases hxc : x = c
          · subst hxc
            go_wp2
            go_ret
            exact ⟨rfl, rfl⟩
          · have hxb : (x == c) = false := by simpa using hxc
            go_wp2
            go_round
            case rel =>
              refine ⟨k + 1, by omega, by go_num, tuck (fun j hj => ?_)⟩
              by_cases e : j = k
              · subst e; rw [hx]; exact hxc
              · exact HA.out j (by omega)
            case measure => simp [intOf]; omega
        · have ek : k = 15 := by omega
          subst ek
          go_wp2
          go_ret
          exact ⟨by rw [HM.out (fun j => HA.out j.val j.isLt)]; rfl, rfl⟩

set_option maxHeartbeats 1000000 in
theorem zzToken_any (s : ByteArray) (w : World) (hs : s.size ≤ maxLen) :
    Calls Tryd.prog 13 #[.string s] w fun e w' => e = .returned (.bool (tokS s)) ∧ w' = w := by
  unfold maxLen at hs
  by_cases h0 : s.size = 0
  · have he := size_nil.1 h0
    go_enter Tryd.func13, Tryd.ntmps13
    go_wp2
    go_ret
    exact ⟨by rw [tokS_empty h0]; rfl, rfl⟩
  have he : s.toList.isEmpty = false := Bool.eq_false_iff.2 fun q => h0 (size_nil.2 q)
  go_enter Tryd.func13, Tryd.ntmps13
  go_wp2
  go_loop [3] (fun i => ∃ k : Nat, k ≤ s.size ∧ i = .int .i64 k ∧ Hid (∀ j, j < k → tokB (byte s j) = true)) (fun i => s.size - (intOf i).toNat)
  case atStart => exact ⟨0, by omega, rfl, tuck (fun j hj => by omega)⟩
  case round =>
    obtain ⟨k, hk, rfl, HA⟩ := hrel
    by_cases hlt : k < s.size
    · have hb := byte_eq s k hlt
      have b0 := byte_nn s k
      have b1 := byte_le s k
      generalize hc : byte s k = c at *
      have HK := tuck (zzTokenByte_any c w b0 b1)
      cases ht : tokB c with
      | true =>
        rw [ht] at HK
        go_wp2_with (go_at_call 20; refine HK.out.mono ?_; rintro e w1 ⟨rfl, rfl⟩)
        go_round
        case rel =>
          refine ⟨k + 1, by omega, by go_num, tuck (fun j hj => ?_)⟩
          by_cases e : j = k
          · subst e; rw [hc]; exact ht
          · exact HA.out j (by omega)
        case measure => simp [intOf]; omega
      | false =>
        rw [ht] at HK
        go_wp2_with (go_at_call 20; refine HK.out.mono ?_; rintro e w1 ⟨rfl, rfl⟩)
        go_ret
        exact ⟨by rw [tokS_false hlt (by rw [hc]; exact ht)]; rfl, rfl⟩
    · have ek : k = s.size := by omega
      subst ek
      go_wp2
      go_ret
      exact ⟨by rw [tokS_true h0 HA.out]; rfl, rfl⟩
end Go.Proofs.Qxb6615572aDoor
