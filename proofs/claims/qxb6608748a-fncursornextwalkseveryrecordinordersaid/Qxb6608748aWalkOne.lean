import Derived.Test.Qxb6608748aSteps
namespace Go.Proofs.Qxb6608748a
open Go.RowKit

set_option maxRecDepth 100000 in
set_option maxHeartbeats 1000000 in
theorem walk_some (b off n cap : Nat) (f : Nat → Int) (w : World) (hn : Nums w b off n f) (hl : n ≤ maxLen) :
    Calls Try.prog 5 #[.slice (some ⟨b, off, none⟩) n cap] w fun e w' => e = .returned (.bool true) ∧ Below w.heap.size w w' := by
  have HN := tuck hn
  clear hn
  by_cases h20 : (n : Int) ≤ 1048576
  case neg =>
    have hd : decide ((n : Int) ≤ 1048576) = false := by simpa using h20
    go_enter Try.func5, Try.ntmps5
    go_wp2_with fail
    refine (bytes_any _ _ _ hl _).mono ?_
    rintro e w1 ⟨rfl, rfl⟩
    go_wp2
    go_ret
    exact ⟨rfl, Below.refl _ _⟩
  have hd : decide ((n : Int) ≤ 1048576) = true := by simpa using h20
  go_enter Try.func5, Try.ntmps5
  go_wp2_with fail
  refine (bytes_any _ _ _ hl _).mono ?_
  rintro e w1 ⟨rfl, rfl⟩
  go_wp2_with fail
  refine (fit_some b off n cap f _ HN.out hl).mono ?_
  rintro e w1 ⟨rfl, r, rfl, hr⟩
  cases r with
  | false =>
    clear hr
    go_wp2
    go_ret
    exact ⟨rfl, Below.refl _ _⟩
  | true =>
    have HF := tuck (hr rfl)
    clear hr
    go_wp2_with fail
    refine (build_any b off n cap f _ HN.out HF.out).mono ?_
    rintro e w2 ⟨nb, rfl, hB, hbel⟩
    obtain ⟨hn1, hn2, hf⟩ := HF.out
    have HFF := tuck hf
    clear hf
    have htot := tot_bd f n HFF.out
    have hc0 := hB.leaves 0 (by omega)
    have HB := tuck hB
    have HBel := tuck hbel
    clear hB hbel
    go_wp2
    clear hc0
    go_loopw [6, 7, 8, 9] (fun lf i jv sv wr => ∃ (s j : Nat), 1 ≤ s ∧ (s : Int) ≤ tot f n + 1 ∧ j < n ∧ sv = .int .i64 s ∧ jv = .int .i64 j ∧ lf = .pointer (some ⟨nb j, 0, none⟩) ∧ i = .int .i64 ((s : Int) - 1 - tot f j) ∧
        Hid (Stands n f j ((s : Int) - 1)) ∧ Hid (Built w1.heap.size (w1.heap.size + 1) n nb f wr) ∧ Hid (Below w1.heap.size w1 wr)) (fun _ _ _ sv _ => (tot f n + 1 - intOf sv).toNat)
    case atStart => exact ⟨1, 0, by omega, by omega, by omega, rfl, rfl, rfl, rfl, ⟨by omega, by simp [tot], fun h => by have := HFF.out 0 (by omega); simp [tot]; omega⟩, HB, HBel⟩
    case round =>
      clear HB HBel
      obtain ⟨s, j, hs1, hs2, hj, rfl, rfl, rfl, rfl, HS, HB, HBel⟩ := hrel
      by_cases hlt : (s : Int) ≤ tot f n
      · obtain ⟨k, hjk, hst, hcall⟩ := cursor_step HB.out HFF.out HS.out (by omega)
        have HST := tuck hst
        have HC := tuck hcall
        clear hst hcall
        go_wp2_with fail
        refine HC.out.mono ?_
        rintro e w3 ⟨rfl, hbel3⟩
        have HB3 := tuck (HB.out.kept hbel3)
        have HBel3 := tuck (HBel.out.trans (hbel3.mono HBel.out.size))
        clear HC HB HBel hbel3
        go_wp2
        go_loop [8] (fun jv => ∃ jj : Nat, jj ≤ k ∧ jv = .int .i64 jj) (fun jv => k - (intOf jv).toNat)
        case atStart => exact ⟨j, hjk, rfl⟩
        case round =>
          obtain ⟨jj, hjj, rfl⟩ := hrel
          have hkn := HST.out.1
          have hb2 := tot_bd f k (fun j hj => HFF.out j (by omega))
          by_cases hlt2 : jj < k
          · have c1 := HB3.out.pre (jj + 1) (by omega)
            have t1 : tot f (jj + 1) ≤ (s : Int) := by
              have := tot_le f n HFF.out k (jj + 1) (by omega) (by omega)
              have := HST.out.2.1
              omega
            go_wp2
            go_round
            case rel => exact ⟨jj + 1, by omega, by go_num⟩
            case measure => simp [intOf]; omega
          · have e : jj = k := by omega
            subst e
            have d1 := HB3.out.leaves jj hkn
            have d2 := HB3.out.pre jj hkn
            have hpn := ptr_not
            by_cases hlast : jj + 1 < n
            · have c1 := HB3.out.pre (jj + 1) (by omega)
              have t1 : ¬ tot f (jj + 1) ≤ (s : Int) := by
                have := HST.out.2.2 hlast
                omega
              go_wp2
              go_roundw
              case rel => exact ⟨s + 1, jj, by omega, by omega, hkn, by go_num, rfl, rfl, by go_num, tuck (by have := HST.out; simpa using this), HB3, HBel3⟩
              case measure => simp [intOf]; omega
            · go_wp2
              go_roundw
              case rel => exact ⟨s + 1, jj, by omega, by omega, hkn, by go_num, rfl, rfl, by go_num, tuck (by have := HST.out; simpa using this), HB3, HBel3⟩
              case measure => simp [intOf]; omega
      · go_wp2
        go_ret
        exact ⟨rfl, HBel.out⟩

set_option maxRecDepth 100000 in
set_option maxHeartbeats 400000 in
theorem walk_zero (a : Option Addr) (cap : Nat) (w : World) :
    Calls Try.prog 5 #[.slice a 0 cap] w fun e w' => e = .returned (.bool true) ∧ Below w.heap.size w w' := by
  go_enter Try.func5, Try.ntmps5
  go_wp2_with fail
  refine (bytes_any _ _ _ (by unfold maxLen; omega) _).mono ?_
  rintro e w1 ⟨rfl, rfl⟩
  go_wp2_with fail
  refine (fit_zero _ _ _).mono ?_
  rintro e w1 ⟨rfl, rfl⟩
  go_wp2
  go_ret
  exact ⟨rfl, Below.refl _ _⟩
end Go.Proofs.Qxb6608748a
