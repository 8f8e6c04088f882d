import Derived.Test.Qxb6608952aFmtBudget
namespace Go.Proofs.Qxb6608952aFmt
open Go.RowKit

set_option maxHeartbeats 1000000 in
theorem budget_any (a0 a1 a2 a3 a4 : ByteArray) (a b : Option Addr) (rs ps : List ByteArray) (c d : Nat) (w : World) (hR : StrRow w a rs) (hn : rs.length ≤ maxLen) (hP : StrRow w b ps) (hm : ps.length ≤ maxLen) :
    Calls Tryf.prog 5 #[.string a0, .string a1, .string a2, .string a3, .string a4, .slice a rs.length c, .slice b ps.length d] w fun e w' =>
      ∃ ok : Bool, e = .returned (.bool ok) ∧ w' = w ∧ (ok = true → a0.size + a1.size + a2.size + a3.size + a4.size + cost rs + cost ps ≤ 1048576) := by
  have HR := tuck hR
  have HP := tuck hP
  clear hR hP
  go_enter Tryf.func5, Tryf.ntmps5
  go_wp2_with fail
  refine (addString_any _ a0 _ (by omega) (by omega)).mono ?_
  rintro e w1 ⟨r0, rfl, rfl, p0, q0, s0⟩
  by_cases c0 : 1048576 < r0
  · go_wp2
    go_ret
    exact ⟨false, rfl, rfl, fun h => by cases h⟩
  have t0 := s0 (by omega)
  clear s0
  go_wp2_with fail
  refine (addString_any _ a1 _ (by omega) (by omega)).mono ?_
  rintro e w1 ⟨r1, rfl, rfl, p1, q1, s1⟩
  by_cases c1 : 1048576 < r1
  · go_wp2
    go_ret
    exact ⟨false, rfl, rfl, fun h => by cases h⟩
  have t1 := s1 (by omega)
  clear s1
  go_wp2_with fail
  refine (addString_any _ a2 _ (by omega) (by omega)).mono ?_
  rintro e w1 ⟨r2, rfl, rfl, p2, q2, s2⟩
  by_cases c2 : 1048576 < r2
  · go_wp2
    go_ret
    exact ⟨false, rfl, rfl, fun h => by cases h⟩
  have t2 := s2 (by omega)
  clear s2
  go_wp2_with fail
  refine (addString_any _ a3 _ (by omega) (by omega)).mono ?_
  rintro e w1 ⟨r3, rfl, rfl, p3, q3, s3⟩
  by_cases c3 : 1048576 < r3
  · go_wp2
    go_ret
    exact ⟨false, rfl, rfl, fun h => by cases h⟩
  have t3 := s3 (by omega)
  clear s3
  go_wp2_with fail
  refine (addString_any _ a4 _ (by omega) (by omega)).mono ?_
  rintro e w1 ⟨r4, rfl, rfl, p4, q4, s4⟩
  by_cases c4 : 1048576 < r4
  · go_wp2
    go_ret
    exact ⟨false, rfl, rfl, fun h => by cases h⟩
  have t4 := s4 (by omega)
  clear s4
  go_wp2_with fail
  refine (addList_any _ a rs c _ HR.out hn (by omega) (by omega)).mono ?_
  rintro e w1 ⟨r5, rfl, rfl, p5, q5, s5⟩
  by_cases c5 : 1048576 < r5
  · go_wp2
    go_ret
    exact ⟨false, rfl, rfl, fun h => by cases h⟩
  have t5 := s5 (by omega)
  clear s5
  go_wp2_with fail
  refine (addList_any _ b ps d _ HP.out hm (by omega) (by omega)).mono ?_
  rintro e w1 ⟨r6, rfl, rfl, p6, q6, s6⟩
  go_wp2
  go_ret
  refine ⟨decide (r6 ≤ 1048576), rfl, rfl, fun h => ?_⟩
  have h := of_decide_eq_true h
  have t6 := s6 h
  omega

set_option maxHeartbeats 2000000 in
theorem bytes_any (a0 a1 a2 a3 a4 : ByteArray) (l1 l2 at' : Int) (a b : Option Addr) (rs ps : List ByteArray) (c d : Nat) (w : World) (hR : StrRow w a rs) (hn : rs.length ≤ maxLen) (hP : StrRow w b ps) (hm : ps.length ≤ maxLen) :
    Calls Tryf.prog 4 #[.string a0, .int .i64 l1, .string a1, .string a2, .int .i64 l2, .string a3, .slice a rs.length c, .slice b ps.length d, .string a4, .int .i64 at'] w fun e w' => w' = w ∧ SaysBool e := by
  unfold maxLen at hn hm
  have HR := tuck hR
  have HP := tuck hP
  clear hR hP
  by_cases e0 : 1048576 < (a0.size : Int)
  · go_enter Tryf.func4, Tryf.ntmps4
    go_wp2
    go_ret
    exact ⟨rfl, _, rfl⟩
  by_cases e0a : 1048576 < (a1.size : Int)
  · go_enter Tryf.func4, Tryf.ntmps4
    go_wp2
    go_ret
    exact ⟨rfl, _, rfl⟩
  by_cases e0b : 1048576 < (a0.size : Int) + (a1.size : Int)
  · go_enter Tryf.func4, Tryf.ntmps4
    go_wp2
    go_ret
    exact ⟨rfl, _, rfl⟩
  by_cases e1a : 1048576 < (a2.size : Int)
  · go_enter Tryf.func4, Tryf.ntmps4
    go_wp2
    go_ret
    exact ⟨rfl, _, rfl⟩
  by_cases e1b : 1048576 < (a0.size : Int) + (a1.size : Int) + (a2.size : Int)
  · go_enter Tryf.func4, Tryf.ntmps4
    go_wp2
    go_ret
    exact ⟨rfl, _, rfl⟩
  by_cases e2a : 1048576 < (a3.size : Int)
  · go_enter Tryf.func4, Tryf.ntmps4
    go_wp2
    go_ret
    exact ⟨rfl, _, rfl⟩
  by_cases e2b : 1048576 < (a0.size : Int) + (a1.size : Int) + (a2.size : Int) + (a3.size : Int)
  · go_enter Tryf.func4, Tryf.ntmps4
    go_wp2
    go_ret
    exact ⟨rfl, _, rfl⟩
  by_cases e4a : 1048576 < (rs.length : Int)
  · go_enter Tryf.func4, Tryf.ntmps4
    go_wp2
    go_ret
    exact ⟨rfl, _, rfl⟩
  by_cases e4b : 1048576 < (a0.size : Int) + (a1.size : Int) + (a2.size : Int) + (a3.size : Int) + (rs.length : Int)
  · go_enter Tryf.func4, Tryf.ntmps4
    go_wp2
    go_ret
    exact ⟨rfl, _, rfl⟩
  go_enter Tryf.func4, Tryf.ntmps4
  go_wp2
  go_loop [21, 22] (fun t i => ∃ (k s : Nat), k ≤ rs.length ∧ s ≤ 1048576 ∧ i = .int .i64 k ∧ t = .int .i64 s) (fun _ i => rs.length - (intOf i).toNat)
  case atStart => exact ⟨0, a0.size + a1.size + a2.size + a3.size + rs.length, by omega, by omega, rfl, by go_num⟩
  case round =>
    obtain ⟨k, s, hk, hs, rfl, rfl⟩ := hrel
    by_cases hlt : k < rs.length
    · obtain ⟨bb, off, rfl, hv⟩ := HR.out (by omega)
      have c3 := hv k _ (at_get hlt)
      clear hv
      generalize rs[k] = x at c3
      by_cases h4 : 1048576 < (x.size : Int)
      · go_wp2
        go_ret
        exact ⟨rfl, _, rfl⟩
      by_cases h5 : 1048576 < (s : Int) + (x.size : Int)
      · go_wp2
        go_ret
        exact ⟨rfl, _, rfl⟩
      go_wp2
      go_round
      case rel => exact ⟨k + 1, s + x.size, by omega, by omega, by go_num, by go_num⟩
      case measure => simp [intOf]; omega
    · by_cases g1 : 1048576 < (ps.length : Int)
      · go_wp2
        go_ret
        exact ⟨rfl, _, rfl⟩
      by_cases g2 : 1048576 < (s : Int) + (ps.length : Int)
      · go_wp2
        go_ret
        exact ⟨rfl, _, rfl⟩
      go_wp2
      go_loop [21, 23] (fun t i => ∃ (k s : Nat), k ≤ ps.length ∧ s ≤ 1048576 ∧ i = .int .i64 k ∧ t = .int .i64 s) (fun _ i => ps.length - (intOf i).toNat)
      case atStart => exact ⟨0, s + ps.length, by omega, by omega, rfl, by go_num⟩
      case round =>
        obtain ⟨k2, s2, hk2, hs2, rfl, rfl⟩ := hrel
        by_cases hlt2 : k2 < ps.length
        · obtain ⟨bb, off, rfl, hv⟩ := HP.out (by omega)
          have c3 := hv k2 _ (at_get hlt2)
          clear hv
          generalize ps[k2] = x at c3
          by_cases h4 : 1048576 < (x.size : Int)
          · go_wp2
            go_ret
            exact ⟨rfl, _, rfl⟩
          by_cases h5 : 1048576 < (s2 : Int) + (x.size : Int)
          · go_wp2
            go_ret
            exact ⟨rfl, _, rfl⟩
          go_wp2
          go_round
          case rel => exact ⟨k2 + 1, s2 + x.size, by omega, by omega, by go_num, by go_num⟩
          case measure => simp [intOf]; omega
        · by_cases g3 : 1048576 < (a4.size : Int)
          · go_wp2
            go_ret
            exact ⟨rfl, _, rfl⟩
          by_cases g4 : 1048576 < (s2 : Int) + (a4.size : Int)
          · go_wp2
            go_ret
            exact ⟨rfl, _, rfl⟩
          go_wp2
          go_ret
          exact ⟨rfl, _, rfl⟩
end Go.Proofs.Qxb6608952aFmt
