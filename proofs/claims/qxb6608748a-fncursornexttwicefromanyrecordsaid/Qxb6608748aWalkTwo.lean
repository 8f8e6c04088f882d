import Derived.Test.Qxb6608748aSteps
namespace Go.Proofs.Qxb6608748a
open Go.RowKit

set_option maxHeartbeats 400000 in
theorem bytes19_any (a : Option Addr) (len cap : Nat) (hl : len ≤ maxLen) (x y : Int) (w : World) :
    Calls Try.prog 19 #[.slice a len cap, .int .i64 x, .int .i64 y] w fun e w' => e = .returned (.bool (decide ((len : Int) ≤ 1048576))) ∧ w' = w := by
  unfold maxLen at hl
  by_cases h : (len : Int) ≤ 1048576
  · have h' : ¬ (1048576 < (len : Int)) := by omega
    have hd : decide ((len : Int) ≤ 1048576) = true := by simpa using h
    rw [hd]
    clear hd
    go_enter Try.func19, Try.ntmps19
    go_wp2
    go_ret
    exact ⟨rfl, rfl⟩
  · have h' : (1048576 < (len : Int)) := by omega
    have hd : decide ((len : Int) ≤ 1048576) = false := by simpa using h
    rw [hd]
    clear hd
    go_enter Try.func19, Try.ntmps19
    go_wp2
    go_ret
    exact ⟨rfl, rfl⟩

set_option maxHeartbeats 400000 in
theorem locate_any (PB n k : Nat) (f : Nat → Int) (p : Int) (w : World) (hpre : ∀ j, j < n → w.cell? ⟨PB, j, none⟩ = some (.int .i64 (tot f j))) (hf : ∀ j, j < n → 1 ≤ f j ∧ f j ≤ 64) (hn : n ≤ 4096) (hs : Stands n f k p) :
    Calls Try.prog 20 #[.slice (some ⟨PB, 0, none⟩) n n, .int .i64 p] w fun e w' => e = .returned (.int .i64 k) ∧ w' = w := by
  have HP := tuck hpre
  have HF := tuck hf
  have HS := tuck hs
  clear hpre hf hs
  go_enter Try.func20, Try.ntmps20
  go_wp2
  go_loop [5] (fun jv => ∃ jj : Nat, jj ≤ k ∧ jv = .int .i64 jj) (fun jv => k - (intOf jv).toNat)
  case atStart => exact ⟨0, by omega, rfl⟩
  case round =>
    obtain ⟨jj, hjj, rfl⟩ := hrel
    have hkn := HS.out.1
    by_cases hlt2 : jj < k
    · have c1 := HP.out (jj + 1) (by omega)
      have t1 : tot f (jj + 1) ≤ p := by
        have := tot_le f n HF.out k (jj + 1) (by omega) (by omega)
        have := HS.out.2.1
        omega
      go_wp2
      go_round
      case rel => exact ⟨jj + 1, by omega, by go_num⟩
      case measure => simp [intOf]; omega
    · have e : jj = k := by omega
      subst e
      by_cases hlast : jj + 1 < n
      · have c1 := HP.out (jj + 1) (by omega)
        have t1 : ¬ tot f (jj + 1) ≤ p := by
          have := HS.out.2.2 hlast
          omega
        go_wp2
        go_ret
        exact ⟨rfl, rfl⟩
      · go_wp2
        go_ret
        exact ⟨rfl, rfl⟩

set_option maxRecDepth 100000 in
set_option maxHeartbeats 400000 in
theorem two_zero (a : Option Addr) (cap : Nat) (x y : Int) (w : World) :
    Calls Try.prog 6 #[.slice a 0 cap, .int .i64 x, .int .i64 y] w fun e w' => e = .returned (.bool true) ∧ Below w.heap.size w w' := by
  go_enter Try.func6, Try.ntmps6
  go_wp2_with fail
  refine (bytes19_any _ _ _ (by unfold maxLen; omega) _ _ _).mono ?_
  rintro e w1 ⟨rfl, rfl⟩
  go_wp2_with fail
  refine (fit_zero _ _ _).mono ?_
  rintro e w1 ⟨rfl, rfl⟩
  go_wp2
  go_ret
  exact ⟨rfl, Below.refl _ _⟩

set_option maxRecDepth 100000 in
set_option maxHeartbeats 1000000 in
theorem two_some (b off n cap : Nat) (f : Nat → Int) (x y : Int) (w : World) (hn : Nums w b off n f) (hl : n ≤ maxLen) :
    Calls Try.prog 6 #[.slice (some ⟨b, off, none⟩) n cap, .int .i64 x, .int .i64 y] w fun e w' => e = .returned (.bool true) ∧ Below w.heap.size w w' := by
  have HN := tuck hn
  clear hn
  by_cases h20 : (n : Int) ≤ 1048576
  case neg =>
    have hd : decide ((n : Int) ≤ 1048576) = false := by simpa using h20
    go_enter Try.func6, Try.ntmps6
    go_wp2_with fail
    refine (bytes19_any _ _ _ hl _ _ _).mono ?_
    rintro e w1 ⟨rfl, rfl⟩
    go_wp2
    go_ret
    exact ⟨rfl, Below.refl _ _⟩
  have hd : decide ((n : Int) ≤ 1048576) = true := by simpa using h20
  go_enter Try.func6, Try.ntmps6
  go_wp2_with fail
  refine (bytes19_any _ _ _ hl _ _ _).mono ?_
  rintro e w1 ⟨rfl, rfl⟩
  go_wp2_with fail
  refine (fit_some b off n cap f _ HN.out hl).mono ?_
  rintro e w1 ⟨rfl, r, rfl, hr⟩
  cases r with
  | false =>
    clear hr
    go_wp2
    go_ret
    exact ⟨rfl, Below.refl _ _⟩
  | true =>
    have HF := tuck (hr rfl)
    clear hr
    by_cases hx0 : x < 0
    · go_wp2
      go_ret
      exact ⟨rfl, Below.refl _ _⟩
    obtain ⟨j, rfl⟩ := Int.eq_ofNat_of_zero_le (show 0 ≤ x by omega)
    by_cases hx1 : (n : Int) ≤ (j : Int)
    · go_wp2
      go_ret
      exact ⟨rfl, Below.refl _ _⟩
    have hjn : j < n := by omega
    by_cases hy0 : y < 0
    · go_wp2
      go_ret
      exact ⟨rfl, Below.refl _ _⟩
    have hcj := HN.out j hjn
    by_cases hy1 : f j ≤ y
    · go_wp2
      go_ret
      exact ⟨rfl, Below.refl _ _⟩
    go_wp2_with fail
    clear hcj
    refine (build_any b off n cap f _ HN.out HF.out).mono ?_
    rintro e w2 ⟨nb, rfl, hB, hbel⟩
    obtain ⟨hn1, hn2, hf⟩ := HF.out
    have HFF := tuck hf
    have e1 : tot f (j + 1) = tot f j + f j := rfl
    have hle := tot_le f n hf n (j + 1) (by omega) (by omega)
    have hbt := tot_bd f n hf
    have hbj := tot_bd f j (fun i hi => hf i (by omega))
    have hs0 : Stands n f j (tot f j + y) := ⟨hjn, by omega, fun _ => by omega⟩
    have hlt0 : tot f j + y < tot f n := by omega
    obtain ⟨k1, _, hs1, hc1⟩ := cursor_step hB hf hs0 hlt0
    rw [show tot f j + y - tot f j = y from by omega] at hc1
    have HC1 := tuck hc1
    have HS1 := tuck hs1
    have HB := tuck hB
    have HBel := tuck hbel
    have d1 := hB.leaves j hjn
    have d2 := hB.pre j hjn
    clear hf hs1 hs0 hc1 hB hbel e1 hle
    go_wp2_with fail
    clear d1 d2
    refine HC1.out.mono ?_
    rintro e w3 ⟨rfl, hbel3⟩
    have HB3 := tuck (HB.out.kept hbel3)
    have HBel3 := tuck (HBel.out.trans (hbel3.mono HBel.out.size))
    clear hbel3 HC1
    go_wp2_with fail
    refine (locate_any _ _ k1 f _ _ HB3.out.pre HFF.out hn2 HS1.out).mono ?_
    rintro e w4 ⟨rfl, rfl⟩
    have hk1 := HS1.out.1
    have d1 := HB3.out.leaves k1 hk1
    have d2 := HB3.out.pre k1 hk1
    have hpn := ptr_not
    have hpe := ptr_same
    have hb1 := tot_bd f k1 (fun i hi => HFF.out i (by omega))
    by_cases hlast : tot f n < tot f j + y + 2
    · go_wp2
      go_ret
      exact ⟨rfl, HBel3.out⟩
    obtain ⟨k2, _, hs2, hc2⟩ := cursor_step HB3.out HFF.out HS1.out (by omega)
    rw [show tot f j + y + 1 + 1 = tot f j + y + 2 from by omega] at hs2 hc2
    have HC2 := tuck hc2
    have HS2 := tuck hs2
    clear hs2 hc2
    go_wp2_with fail
    clear d1 d2
    refine HC2.out.mono ?_
    rintro e w5 ⟨rfl, hbel5⟩
    have HB5 := tuck (HB3.out.kept hbel5)
    have HBel5 := tuck (HBel3.out.trans (hbel5.mono HBel3.out.size))
    clear hbel5 HC2
    go_wp2_with fail
    refine (locate_any _ _ k2 f _ _ HB5.out.pre HFF.out hn2 HS2.out).mono ?_
    rintro e w6 ⟨rfl, rfl⟩
    have hk2 := HS2.out.1
    have d1 := HB5.out.leaves k2 hk2
    have d2 := HB5.out.pre k2 hk2
    have hb2 := tot_bd f k2 (fun i hi => HFF.out i (by omega))
    go_wp2
    go_ret
    exact ⟨rfl, HBel5.out⟩
end Go.Proofs.Qxb6608748a
