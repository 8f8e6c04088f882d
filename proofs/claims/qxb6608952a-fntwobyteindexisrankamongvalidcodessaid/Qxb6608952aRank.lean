import Derived.Test.Qxb6608952aIndex
namespace Go.Proofs.Qxb6608952a
open Go.RowKit

/-- How many second bytes below b are accepted. -/
def cntB (b : Int) : Int := if b ≤ 64 then 0 else if b ≤ 127 then b - 64 else if b ≤ 255 then b - 65 else 190

theorem cnt_yes (b : Int) (h1 : b ≤ 255) (h : okS b = true) : cntB (b + 1) = cntB b + 1 := by
  have := of_decide_eq_true h
  unfold cntB
  (repeat' split) <;> omega

theorem cnt_no (b : Int) (h0 : 0 ≤ b) (h1 : b ≤ 255) (h : okS b = false) : cntB (b + 1) = cntB b := by
  have := of_decide_eq_false h
  unfold cntB
  by_cases c1 : b < 64
  · rw [if_pos (by omega), if_pos (by omega)]
  · by_cases c2 : b = 127
    · subst c2; decide
    · obtain rfl : b = 255 := by omega
      decide

theorem cnt_bd (b : Int) (h1 : b ≤ 256) : 0 ≤ cntB b ∧ cntB b ≤ 190 := by
  unfold cntB
  split
  · omega
  · split
    · omega
    · split <;> omega

theorem cnt_rk (s : Int) (h1 : s ≤ 255) (h : okS s = true) : rk s = cntB s := by
  have := of_decide_eq_true h
  unfold rk cntB
  by_cases c : 127 < s
  · rw [if_pos c, if_neg (by omega), if_neg (by omega), if_pos (by omega)]
  · rw [if_neg c]
    by_cases c1 : s ≤ 64
    · rw [if_pos c1]; omega
    · rw [if_neg c1, if_pos (by omega)]

/-- How many accepted second bytes below k lie below s. -/
def lowB (s k : Int) : Int := if k ≤ s then cntB k else cntB s

theorem lead_bd (f : Int) : 0 ≤ lead f ∧ lead f ≤ 255 := by unfold lead; omega

set_option maxRecDepth 100000 in
set_option maxHeartbeats 1000000 in
theorem rank_any (f s : Int) (hf0 : 0 ≤ f) (hf1 : f ≤ 255) (hs0 : 0 ≤ s) (hs1 : s ≤ 255) (w : World) :
    Calls Try.prog 3 #[.int .u8 f, .int .u8 s] w fun e w' => e = .returned (.bool true) ∧ w' = w := by
  have HK := tuck (fun (b : Int) (hb : b ≤ 255) => zzindex_any f b hb w)
  have HL := tuck (lead_any f w)
  go_enter Try.func3, Try.ntmps3
  go_wp2_with fail
  refine (HK.out s hs1).mono ?_
  rintro e w1 ⟨rfl, hw1⟩
  subst hw1
  go_wp2
  go_loop [7, 8, 9] (fun cv bv kv => ∃ k : Nat, k ≤ 256 ∧ kv = .int .i64 k ∧ cv = .int .i64 (cntB k) ∧ bv = .int .i64 (lowB s k)) (fun _ _ kv => 256 - (intOf kv).toNat)
  case atStart => exact ⟨0, by omega, rfl, rfl, by unfold lowB; rw [if_pos (by omega)]; rfl⟩
  case round =>
    obtain ⟨k, hk, rfl, rfl, rfl⟩ := hrel
    have hcb := cnt_bd k (by omega)
    have hlb : 0 ≤ lowB s k ∧ lowB s k ≤ 190 := by unfold lowB; split; exact hcb; exact cnt_bd s (by omega)
    by_cases hlt : k < 256
    · cases hok : okS (k : Int) with
      | true =>
        have h1 := cnt_yes k (by omega) hok
        have H1 := tuck h1
        by_cases hks : (k : Int) < s
        · have H2 : Hid (lowB s ((k : Int) + 1) = lowB s k + 1) := by unfold lowB; rw [if_pos (by omega), if_pos (by omega), h1]; rfl
          clear h1
          go_wp2_with fail
          refine (HK.out _ (by omega)).mono ?_
          rintro e w1 ⟨rfl, hw1⟩
          subst hw1
          go_wp2
          go_round
          case rel => exact ⟨k + 1, by omega, by go_num, by rw [show ((k + 1 : Nat) : Int) = (k : Int) + 1 from by omega, H1.out], by rw [show ((k + 1 : Nat) : Int) = (k : Int) + 1 from by omega, H2.out]⟩
          case measure => simp [intOf]; omega
        · have H2 : Hid (lowB s ((k : Int) + 1) = lowB s k) := by
            unfold lowB
            rw [if_neg (by omega)]
            by_cases e : (k : Int) ≤ s
            · rw [if_pos e, show (k : Int) = s from by omega]; rfl
            · rw [if_neg e]; rfl
          clear h1
          go_wp2_with fail
          refine (HK.out _ (by omega)).mono ?_
          rintro e w1 ⟨rfl, hw1⟩
          subst hw1
          go_wp2
          go_round
          case rel => exact ⟨k + 1, by omega, by go_num, by rw [show ((k + 1 : Nat) : Int) = (k : Int) + 1 from by omega, H1.out], by rw [show ((k + 1 : Nat) : Int) = (k : Int) + 1 from by omega, H2.out]⟩
          case measure => simp [intOf]; omega
      | false =>
        have h1 := cnt_no k (by omega) (by omega) hok
        have H1 := tuck h1
        have H2 : Hid (lowB s ((k : Int) + 1) = lowB s k) := by
          unfold lowB
          by_cases e : (k : Int) + 1 ≤ s
          · rw [if_pos e, if_pos (by omega), h1]; rfl
          · rw [if_neg e]
            by_cases e2 : (k : Int) ≤ s
            · rw [if_pos e2, show (k : Int) = s from by omega]; rfl
            · rw [if_neg e2]; rfl
        clear h1
        go_wp2_with fail
        refine (HK.out _ (by omega)).mono ?_
        rintro e w1 ⟨rfl, hw1⟩
        subst hw1
        go_wp2
        go_round
        case rel => exact ⟨k + 1, by omega, by go_num, by rw [show ((k + 1 : Nat) : Int) = (k : Int) + 1 from by omega, H1.out], by rw [show ((k + 1 : Nat) : Int) = (k : Int) + 1 from by omega, H2.out]⟩
        case measure => simp [intOf]; omega
    · have e : k = 256 := by omega
      subst e
      have e1 : cntB ((256 : Nat) : Int) = 190 := by decide
      have e2 : lowB s ((256 : Nat) : Int) = cntB s := by unfold lowB; rw [if_neg (by omega)]
      rw [e1, e2]
      clear hcb hlb e1 e2
      have hcs := cnt_bd s (by omega)
      have hlf := lead_bd f
      cases hok : okS s with
      | false =>
        have e3 : idx f s = 0 := by unfold idx; rw [hok]; rfl
        rw [e3]
        clear e3
        go_wp2
        go_ret
        exact ⟨rfl, rfl⟩
      | true =>
        have e3 : idx f s = lead f * 190 + cntB s := by unfold idx; rw [if_pos hok, cnt_rk s hs1 hok]
        rw [e3]
        obtain ⟨c, hc⟩ : ∃ c, c = cntB s := ⟨_, rfl⟩
        obtain ⟨l, hl⟩ : ∃ l, l = lead f := ⟨_, rfl⟩
        rw [← hc, ← hl]
        rw [← hc] at hcs
        rw [← hl] at hlf
        have HL2 : Hid (129 ≤ f → l = f - 129) := fun h => by rw [hl]; unfold lead; omega
        clear e3 hc hl hlt
        have t1 : ((l * 190 + c - c) % 190 != 0) = false := by simp
        cases hlb : leadB f with
        | false =>
          go_wp2_with fail
          refine HL.out.mono ?_
          rintro e w1 ⟨rfl, hw1⟩
          subst hw1
          go_wp2
          go_ret
          exact ⟨rfl, rfl⟩
        | true =>
          have hle := of_decide_eq_true hlb
          have el := HL2.out hle.1
          go_wp2_with fail
          refine HL.out.mono ?_
          rintro e w1 ⟨rfl, hw1⟩
          subst hw1
          have t2 : ((l * 190 + c == (f - 129) * 190 + c) : Bool) = true := beq_iff_eq.2 (by omega)
          clear el HL2
          go_wp2
          go_ret
          exact ⟨rfl, rfl⟩
end Go.Proofs.Qxb6608952a
