import Derived.Test.Qxb6608952aRank
namespace Go.Proofs.Qxb6608952a
open Go.RowKit

theorem rk_bd (s : Int) (h1 : s ≤ 255) (h : okS s = true) : 0 ≤ rk s ∧ rk s ≤ 189 := by
  have := of_decide_eq_true h
  unfold rk
  split <;> omega

theorem rk_mono (s t : Int) (hs : okS s = true) (ht : okS t = true) (h : s < t) : rk s < rk t := by
  have := of_decide_eq_true hs
  have := of_decide_eq_true ht
  unfold rk
  (repeat' split) <;> omega

theorem idx_at (f s : Int) (hs : okS s = true) (hf : leadB f = true) : idx f s = (f - 129) * 190 + rk s := by
  have := of_decide_eq_true hf
  unfold idx lead
  rw [if_pos hs]
  omega

set_option maxRecDepth 100000 in
set_option maxHeartbeats 1000000 in
theorem order_any (f s f2 s2 : Int) (hs1 : s ≤ 255) (hs3 : s2 ≤ 255) (w : World) :
    Calls Try.prog 4 #[.int .u8 f, .int .u8 s, .int .u8 f2, .int .u8 s2] w fun e w' => e = .returned (.bool true) ∧ w' = w := by
  have HK := tuck (fun (f b : Int) (hb : b ≤ 255) => zzindex_any f b hb w)
  have HT := tuck (fun (b : Int) (hb : b ≤ 255) => trail_any b hb w)
  have HL := tuck (fun (f : Int) => lead_any f w)
  go_enter Try.func4, Try.ntmps4
  go_wp2_with fail
  refine (HK.out f s hs1).mono ?_
  rintro e w1 ⟨rfl, hw1⟩
  subst hw1
  go_wp2_with fail
  refine (HK.out f2 s2 hs3).mono ?_
  rintro e w1 ⟨rfl, hw1⟩
  subst hw1
  clear HK
  go_wp2_with fail
  refine (HT.out s hs1).mono ?_
  rintro e w1 ⟨rfl, hw1⟩
  subst hw1
  go_wp2_with fail
  refine (HT.out s2 hs3).mono ?_
  rintro e w1 ⟨rfl, hw1⟩
  subst hw1
  clear HT
  cases h1 : okS s with
  | false =>
    go_wp2
    go_ret
    exact ⟨rfl, rfl⟩
  | true =>
  cases h2 : okS s2 with
  | false =>
    go_wp2
    go_ret
    exact ⟨rfl, rfl⟩
  | true =>
  go_wp2_with fail
  refine (HL.out f).mono ?_
  rintro e w1 ⟨rfl, hw1⟩
  subst hw1
  cases h3 : leadB f with
  | false =>
    go_wp2
    go_ret
    exact ⟨rfl, rfl⟩
  | true =>
  go_wp2_with fail
  refine (HL.out f2).mono ?_
  rintro e w1 ⟨rfl, hw1⟩
  subst hw1
  cases h4 : leadB f2 with
  | false =>
    go_wp2
    go_ret
    exact ⟨rfl, rfl⟩
  | true =>
  clear HL
  have b1 := rk_bd s hs1 h1
  have b2 := rk_bd s2 hs3 h2
  have f1 := of_decide_eq_true h3
  have g1 := of_decide_eq_true h4
  have e1 := idx_at f s h1 h3
  have e2 := idx_at f2 s2 h2 h4
  have m1 : s < s2 → rk s < rk s2 := rk_mono s s2 h1 h2
  have m2 : s2 < s → rk s2 < rk s := rk_mono s2 s h2 h1
  have m3 : s = s2 → rk s = rk s2 := fun h => by rw [h]
  obtain ⟨i1, hi1⟩ : ∃ i1, i1 = idx f s := ⟨_, rfl⟩
  obtain ⟨i2, hi2⟩ : ∃ i2, i2 = idx f2 s2 := ⟨_, rfl⟩
  rw [← hi1] at e1 ⊢
  rw [← hi2] at e2 ⊢
  have k1 : 0 ≤ i1 ∧ i1 < 23940 := by omega
  have k2 : 0 ≤ i2 ∧ i2 < 23940 := by omega
  have k1' : ¬ 23940 ≤ i1 := by omega
  have k2' : ¬ 23940 ≤ i2 := by omega
  have cmp1 : f < f2 → i1 < i2 := by omega
  have cmp2 : f2 < f → i2 < i1 := by omega
  have cmp3 : f = f2 → s < s2 → i1 < i2 := fun h h' => by have := m1 h'; omega
  have cmp4 : f = f2 → s2 < s → i2 < i1 := fun h h' => by have := m2 h'; omega
  have cmp5 : f = f2 → s = s2 → i1 = i2 := fun h h' => by have := m3 h'; omega
  clear m1 m2 m3 e1 e2 hi1 hi2 b1 b2 h1 h2 h3 h4 f1 g1
  rcases Int.lt_trichotomy f f2 with hf | hf | hf
  · have c1 := cmp1 hf
    have c2 : ((f == f2) : Bool) = false := beq_eq_false_iff_ne.2 (by omega)
    have c3 : ((i1 == i2) : Bool) = false := beq_eq_false_iff_ne.2 (by omega)
    clear cmp1 cmp2 cmp3 cmp4 cmp5
    go_wp2
    go_ret
    exact ⟨rfl, rfl⟩
  · rcases Int.lt_trichotomy s s2 with hs | hs | hs
    · have c1 := cmp3 hf hs
      have c3 : ((i1 == i2) : Bool) = false := beq_eq_false_iff_ne.2 (by omega)
      have c4 : ((s == s2) : Bool) = false := beq_eq_false_iff_ne.2 (by omega)
      subst hf
      clear cmp1 cmp2 cmp3 cmp4 cmp5
      go_wp2
      go_ret
      exact ⟨rfl, rfl⟩
    · have c1 := cmp5 hf hs
      subst hf hs c1
      clear cmp1 cmp2 cmp3 cmp4 cmp5
      go_wp2
      go_ret
      exact ⟨rfl, rfl⟩
    · have c1 := cmp4 hf hs
      have c3 : ((i1 == i2) : Bool) = false := beq_eq_false_iff_ne.2 (by omega)
      have c4 : ((s == s2) : Bool) = false := beq_eq_false_iff_ne.2 (by omega)
      subst hf
      clear cmp1 cmp2 cmp3 cmp4 cmp5
      go_wp2
      go_ret
      exact ⟨rfl, rfl⟩
  · have c1 := cmp2 hf
    have c2 : ((f == f2) : Bool) = false := beq_eq_false_iff_ne.2 (by omega)
    have c3 : ((i1 == i2) : Bool) = false := beq_eq_false_iff_ne.2 (by omega)
    clear cmp1 cmp2 cmp3 cmp4 cmp5
    go_wp2
    go_ret
    exact ⟨rfl, rfl⟩
end Go.Proofs.Qxb6608952a
