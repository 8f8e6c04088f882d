import Derived.Test.Qxb6615572aDoorLeaves
namespace Go.Proofs.Qxb6615572aDoor
open Go.RowKit

def hexB (c : Int) : Bool := decide ((48 ≤ c ∧ c ≤ 57) ∨ (97 ≤ c ∧ c ≤ 102) ∨ (65 ≤ c ∧ c ≤ 70))

set_option maxHeartbeats 1000000 in
theorem hex_any (c : Int) (w : World) (h0 : 0 ≤ c) (h1 : c ≤ 255) :
    Calls Tryd.prog 22 #[.int .u8 c] w fun e w' => e = .returned (.bool (hexB c)) ∧ w' = w := by
  by_cases a1 : 48 ≤ c <;> by_cases a2 : c ≤ 57 <;> by_cases a3 : 97 ≤ c <;> by_cases a4 : c ≤ 102 <;> by_cases a5 : 65 ≤ c <;> by_cases a6 : c ≤ 70
  all_goals first
    | omega
    | (go_enter Tryd.func22, Tryd.ntmps22
       go_wp2
       go_ret
       exact ⟨by simp [hexB, *], rfl⟩)

/-- What 'plainQuery' answers, n bytes from the end, with 'params' so far. -/
def queryFrom (s : ByteArray) : Nat → Nat → Nat → Bool
  | 0, _, params => decide (params ≤ 10000)
  | n + 1, i, params =>
    if i < s.size then
      let c := byte s i
      if c = 59 ∨ c < 32 ∨ c = 127 then false
      else if c = 38 then queryFrom s n (i + 1) (params + 1)
      else if c = 37 then (if i + 2 < s.size ∧ hexB (byte s (i + 1)) = true ∧ hexB (byte s (i + 2)) = true then queryFrom s n (i + 3) params else false)
      else queryFrom s n (i + 1) params
    else decide (params ≤ 10000)

def plainQ (s : ByteArray) : Bool := queryFrom s s.size 0 1

theorem queryFrom_end (s : ByteArray) (n i p : Nat) (h : ¬ i < s.size) : queryFrom s n i p = decide (p ≤ 10000) := by
  cases n with
  | zero => rfl
  | succ n => unfold queryFrom; rw [if_neg h]

theorem queryFrom_bad {s : ByteArray} {n i p : Nat} (h : i < s.size) (hb : byte s i = 59 ∨ byte s i < 32 ∨ byte s i = 127) : queryFrom s (n + 1) i p = false := by
  unfold queryFrom; simp only [if_pos h, if_pos hb]
theorem queryFrom_amp {s : ByteArray} {n i p : Nat} (h : i < s.size) (hb : byte s i = 38) : queryFrom s (n + 1) i p = queryFrom s n (i + 1) (p + 1) := by
  rw [queryFrom, if_pos h]; simp [hb]
theorem queryFrom_pct {s : ByteArray} {n i p : Nat} (h : i < s.size) (hb : byte s i = 37) : queryFrom s (n + 1) i p = (if i + 2 < s.size ∧ hexB (byte s (i + 1)) = true ∧ hexB (byte s (i + 2)) = true then queryFrom s n (i + 3) p else false) := by
  rw [queryFrom, if_pos h]; simp [hb]
theorem queryFrom_else {s : ByteArray} {n i p : Nat} (h : i < s.size) (h1 : ¬ (byte s i = 59 ∨ byte s i < 32 ∨ byte s i = 127)) (h2 : ¬ byte s i = 38) (h3 : ¬ byte s i = 37) : queryFrom s (n + 1) i p = queryFrom s n (i + 1) p := by
  rw [queryFrom, if_pos h]; simp only [if_neg h1, if_neg h2, if_neg h3]

set_option maxHeartbeats 2000000 in
theorem query_any (s : ByteArray) (w : World) (hs : s.size ≤ 1048576) :
    Calls Tryd.prog 16 #[.string s] w fun e w' => e = .returned (.bool (plainQ s)) ∧ w' = w := by
  have HH := tuck (fun c h0 h1 => hex_any c w h0 h1)
  go_enter Tryd.func16, Tryd.ntmps16
  go_wp2
  go_loop [3, 4] (fun vp vi => ∃ p i n : Nat, vp = .int .i64 p ∧ vi = .int .i64 i ∧ p ≤ i + 1 ∧ i ≤ s.size ∧ s.size ≤ n + i ∧ Hid (queryFrom s n i p = plainQ s)) (fun _ vi => s.size - (intOf vi).toNat)
  case atStart => exact ⟨1, 0, s.size, rfl, rfl, by omega, by omega, by omega, tuck rfl⟩
  case round =>
    obtain ⟨p, i, n, rfl, rfl, hp, hi, hn, HQ⟩ := hrel
    by_cases hlt : i < s.size
    · obtain ⟨n, rfl⟩ : ∃ m, n = m + 1 := ⟨n - 1, by omega⟩
      have hb := byte_eq s i hlt
      have b0 := byte_nn s i
      have b1 := byte_le s i
      have HBad := tuck (queryFrom_bad (n := n) (p := p) hlt)
      have HAmp := tuck (queryFrom_amp (n := n) (p := p) hlt)
      have HPct := tuck (queryFrom_pct (n := n) (p := p) hlt)
      have HElse := tuck (queryFrom_else (n := n) (p := p) hlt)
      generalize byte s i = c at *
      by_cases q1 : c = 59
      · subst q1
        go_wp2
        go_ret
        exact ⟨by rw [← HQ.out, HBad.out (by simp)]; rfl, rfl⟩
      have r1 : (c == 59) = false := by simpa using q1
      by_cases q2 : c < 32
      · go_wp2
        go_ret
        exact ⟨by rw [← HQ.out, HBad.out (.inr (.inl q2))]; rfl, rfl⟩
      by_cases q3 : c = 127
      · subst q3
        go_wp2
        go_ret
        exact ⟨by rw [← HQ.out, HBad.out (by simp)]; rfl, rfl⟩
      have r3 : (c == 127) = false := by simpa using q3
      by_cases q4 : c = 38
      · subst q4
        go_wp2
        go_round
        case rel => exact ⟨p + 1, i + 1, n, by go_num, by go_num, by omega, by omega, by omega, tuck (by rw [← HQ.out, HAmp.out rfl])⟩
        case measure => simp [intOf]; omega
      have r4 : (c == 38) = false := by simpa using q4
      by_cases q5 : c = 37
      · subst q5
        have HP := tuck (HPct.out rfl)
        clear HPct HBad HAmp HElse
        by_cases q6 : i + 2 < s.size
        · have q6' : ¬ ((s.size : Int) ≤ (i : Int) + 2) := by omega
          have hb1 := byte_eq s (i + 1) (by omega)
          have hb2 := byte_eq s (i + 2) (by omega)
          have H1 := tuck (HH.out (byte s (i + 1)) (byte_nn _ _) (byte_le _ _))
          have H2 := tuck (HH.out (byte s (i + 2)) (byte_nn _ _) (byte_le _ _))
          clear HH
          generalize byte s (i + 1) = c1 at *
          generalize byte s (i + 2) = c2 at *
          cases x1 : hexB c1 with
          | false =>
            rw [x1] at H1
            go_wp2_with fail
            refine H1.out.mono ?_
            rintro e w1 ⟨rfl, rfl⟩
            go_wp2
            go_ret
            exact ⟨by rw [← HQ.out, HP.out, x1, if_neg (by simp)]; rfl, rfl⟩
          | true =>
            rw [x1] at H1
            cases x2 : hexB c2 with
            | false =>
              rw [x2] at H2
              go_wp2_with fail
              refine H1.out.mono ?_
              rintro e w1 ⟨rfl, rfl⟩
              go_wp2_with fail
              refine H2.out.mono ?_
              rintro e w2 ⟨rfl, rfl⟩
              go_wp2
              go_ret
              exact ⟨by rw [← HQ.out, HP.out, x2, if_neg (by simp)]; rfl, rfl⟩
            | true =>
              rw [x2] at H2
              go_wp2_with fail
              refine H1.out.mono ?_
              rintro e w1 ⟨rfl, rfl⟩
              go_wp2_with fail
              refine H2.out.mono ?_
              rintro e w2 ⟨rfl, rfl⟩
              go_wp2
              go_round
              case rel => exact ⟨p, i + 3, n, by go_num, by go_num, by omega, by omega, by omega, tuck (by rw [← HQ.out, HP.out, if_pos ⟨q6, x1, x2⟩])⟩
              case measure => simp [intOf]; omega
        · have q6' : (s.size : Int) ≤ (i : Int) + 2 := by omega
          go_wp2
          go_ret
          exact ⟨by rw [← HQ.out, HP.out, if_neg (by omega)]; rfl, rfl⟩
      · have r5 : (c == 37) = false := by simpa using q5
        go_wp2
        go_round
        case rel => exact ⟨p, i + 1, n, by go_num, by go_num, by omega, by omega, by omega, tuck (by rw [← HQ.out, HElse.out (by omega) q4 q5])⟩
        case measure => simp [intOf]; omega
    · go_wp2
      go_ret
      refine ⟨?_, rfl⟩
      rw [← HQ.out, queryFrom_end _ _ _ _ hlt]
      rw [show decide (p ≤ 10000) = decide ((p : Int) ≤ 10000) from decide_eq_decide.2 (by omega)]
      rfl
end Go.Proofs.Qxb6615572aDoor
