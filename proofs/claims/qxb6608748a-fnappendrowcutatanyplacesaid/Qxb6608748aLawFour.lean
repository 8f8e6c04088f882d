import Derived.Test.Qxb6608748aSizes
import Derived.Deep.RegionWith
import Derived.Deep.DeepCutAuto
namespace Go.Proofs.Qxb6608748a
open Go.RowKit

theorem getD_l (a b : List UInt8) (k : Nat) (h : k < a.length) : (a ++ b).getD k 0 = a.getD k 0 := by
  simp [List.getD, List.getElem?_append_left h]
theorem getD_r (a b : List UInt8) (k : Nat) : (a ++ b).getD (a.length + k) 0 = b.getD k 0 := by
  simp [List.getD, List.getElem?_append_right]

theorem encFrom_shift (R : Nat → ZV) (k n : Nat) : encFrom (fun i => R (k + i)) 0 n = encFrom R k n := by
  induction n with
  | zero => rfl
  | succ n ih => simp only [encFrom, ih, Nat.zero_add]

theorem ValsAt.tail {w : World} {V n k : Nat} {R : Nat → ZV} (h : ValsAt w V 0 n R) (hk : k ≤ n) : ValsAt w V (k * 3) (n - k) (fun i => R (k + i)) := by
  intro i hi
  obtain ⟨h1, h2, h3⟩ := h (k + i) (by omega)
  have e : 0 + (k + i) * 3 = k * 3 + i * 3 := by omega
  rw [e] at h1 h2 h3
  exact ⟨h1, h2, h3⟩

theorem ValsAt.head {w : World} {V n k : Nat} {R : Nat → ZV} (h : ValsAt w V 0 n R) (hk : k ≤ n) : ValsAt w V 0 k R := fun i hi => h i (by omega)

set_option maxHeartbeats 2000000 in
set_option maxRecDepth 100000 in
theorem four_any (ao : Option Addr) (m mc : Nat) (bs : List UInt8) (ar : Option Addr) (n cap : Nat) (R : Nat → ZV) (kk : Int) (w : World) (hb : BytesAt w ao m mc bs) (hR : RowAt w ar n R) (hm : m ≤ maxLen) (hn : n ≤ maxLen)
    (hz : ∀ i, i < n → -9223372036854775808 ≤ (R i).num ∧ (R i).num ≤ 9223372036854775807) :
    Calls Try.prog 4 #[.slice ao m mc, .slice ar n cap, .int .i64 kk] w fun e w' => e = .returned (.bool true) ∧ Below w.heap.size w w' := by
  have HB := tuck hb
  have HR := tuck hR
  have HZ := tuck hz
  clear hb hR hz
  go_enter Try.func4, Try.ntmps4
  go_wp2_with fail
  refine (bytes13_any ao m mc ar n cap kk R _ HR.out hm hn).mono ?_
  rintro e w1 ⟨rfl, r, rfl⟩
  cases r with
  | false =>
    go_wp2
    go_ret
    exact ⟨rfl, Below.refl _ _⟩
  | true =>
  go_wp2_with fail
  refine (fits8_any ao m mc ar n cap R _ HR.out hm hn).mono ?_
  rintro e w1 ⟨rfl, r, rfl, hr⟩
  cases r with
  | false =>
    clear hr
    go_wp2
    go_ret
    exact ⟨rfl, Below.refl _ _⟩
  | true =>
  by_cases hk0 : kk < 0
  · clear hr
    go_wp2
    go_ret
    exact ⟨rfl, Below.refl _ _⟩
  obtain ⟨k, rfl⟩ := Int.eq_ofNat_of_zero_le (show 0 ≤ kk by omega)
  have hk0' : decide ((k : Int) < 0) = false := by simp
  by_cases hk1 : (n : Int) < (k : Int)
  · clear hr
    go_wp2
    go_ret
    exact ⟨rfl, Below.refl _ _⟩
  have hkn : k ≤ n := by omega
  obtain ⟨hn1, hs1, hfit⟩ := hr rfl
  have hle := encFrom_le R n HZ.out (by omega)
  have hspl : encFrom R 0 n = encFrom R 0 k ++ encFrom R k (n - k) := by
    have := encFrom_split R 0 k (n - k)
    rw [Nat.zero_add, Nat.add_sub_cancel' hkn] at this
    exact this
  have hspl2 : (encFrom R 0 n).length = (encFrom R 0 k).length + (encFrom R k (n - k)).length := by rw [hspl]; simp
  have HSP := tuck hspl
  have HS2 := tuck hspl2
  clear hr hfit hspl hspl2
  go_wp2_with fail
  refine (buildRow_any ar n cap R _ HR.out (by omega)).mono ?_
  rintro e w2 ⟨rfl, hv2, hsz2, hbel2⟩
  have HV := tuck hv2
  have HB2 := tuck (HB.out.kept hbel2)
  have HR2 := tuck (HR.out.kept hbel2)
  have HBel2 := tuck hbel2
  clear hv2 hbel2
  go_wp2_with fail
  refine (clone_any ao m mc (by omega) bs _ HB2.out).mono ?_
  rintro e w3 ⟨v3, rfl, ho3, hbel3⟩
  have HK := tuck (appendRow_any w2.heap.size m w1.heap.size 0 n n R v3 _ w3 (HV.out.kept hbel3 hsz2) hsz2 HZ.out ho3 hbel3.size (by omega) (fun i hi => by
    have h1 := encFrom_mono R n i (by omega)
    have h2 := str_le R n i hi
    omega))
  clear ho3
  go_wp2_with fail
  refine HK.out.mono ?_
  rintro e w4 ⟨v4, rfl, ho4, hbel4⟩
  clear HK
  rw [← Lib.byteCells_append] at ho4
  obtain ⟨og, oc, rfl, hO⟩ := out_of ho4
  have HO := tuck hO
  have hbel : Below w2.heap.size w2 w4 := hbel3.trans hbel4
  have HB4 := tuck (HB2.out.kept hbel)
  have HR4 := tuck (HR2.out.kept hbel)
  have HV4 := tuck (HV.out.kept hbel hsz2)
  have HBel := tuck (HBel2.out.trans (hbel.mono HBel2.out.size))
  have hsz4 : w1.heap.size < w4.heap.size := by have := hbel.size; omega
  clear hO ho4 hbel3 hbel4 hbel HB HB2 HR HR2 HBel2 HV hsz2
  have hi1 : (k : Int) ≤ (n : Int) := by omega
  have HC := tuck (clone_any ao m mc (by omega) bs w4.drew ⟨HB4.out.1, HB4.out.2⟩)
  go_upto_region 9 with fail
  go_cut [9] (fun v wx => ∃ og2 oc2, v = .slice og2 (m + (encFrom R 0 k).length) oc2 ∧ Hid (OutV wx og2 (m + (encFrom R 0 k).length) (bs ++ encFrom R 0 k)) ∧ Hid (Below w4.heap.size w4 wx))
  case first =>
    go_region_with (first
      | (go_at_call 11; refine HC.out.mono ?_; rintro e w5 ⟨v5, rfl, ho5, hbel5⟩; have hv5 := (HV4.out.kept ⟨hbel5.os, hbel5.tape, hbel5.output, hbel5.size, hbel5.block⟩ hsz4).head hkn; have hs5 := hbel5.size)
      | (go_at_call 10; refine (appendRow_any w4.heap.size m w1.heap.size 0 k n R v5 _ _ hv5 hsz4 (fun i hi => HZ.out i (by omega)) ho5 hs5 (by omega) (fun i hi => by have h1 := encFrom_mono R n i (by omega); have h2 := str_le R n i (by omega); omega)).mono ?_; rintro e w6 ⟨v6, rfl, ho6, hbel6⟩))
    all_goals
      rw [← Lib.byteCells_append] at ho6
      obtain ⟨og2, oc2, rfl, hO2⟩ := out_of ho6
      have HO2 := tuck hO2
      have hbel : Below w4.heap.size w4 w6 := Below.trans ⟨hbel5.os, hbel5.tape, hbel5.output, hbel5.size, hbel5.block⟩ hbel6
      clear hO2 ho6 ho5 hbel5 hbel6 hv5 hs5
      go_wp2_with fail
      go_meet
      exact ⟨og2, oc2, rfl, HO2, hbel⟩
  case rest =>
  obtain ⟨og2, oc2, rfl, HO2, HBel6'⟩ := hcut
  have hbel := HBel6'.out
  have HO6 := tuck (HO.out.kept hbel)
  have HB6 := tuck (InV.of (HB4.out.kept hbel))
  have HR6 := tuck (HR4.out.kept hbel)
  have HV6 := tuck (HV4.out.kept hbel hsz4)
  have HBel6 := tuck (HBel.out.trans (hbel.mono HBel.out.size))
  have hsz6 : w1.heap.size < wc.heap.size := by have := hbel.size; omega
  clear hbel HBel6' HC HO HB4 HR4 HV4 HBel hsz4
  obtain ⟨w6, hw6⟩ : ∃ w6, w6 = wc := ⟨_, rfl⟩
  subst hw6
  have HK3 := tuck (fun (V off c : Nat) (hV : ValsAt w6 V off (n - k) (fun i => R (k + i))) (hVB : V < w6.heap.size) => appendRow_any w6.heap.size 0 V off (n - k) c (fun i => R (k + i)) (.slice none 0 0) [] w6 hV hVB (fun i hi => HZ.out (k + i) (by omega)) (World.ownsRow_nil _ _ _ _) (Nat.le_refl _) (by omega) (fun i hi => by
    have h2 := str_le R n (k + i) (by omega)
    have h3 := encFrom_shift R k i
    have h4 := encFrom_split R 0 k i
    have h5 := encFrom_mono R n (k + i) (by omega)
    rw [h3]
    rw [Nat.zero_add] at h4
    rw [h4, List.length_append] at h5
    omega))
  go_upto_region 10 with fail
  go_cut [10] (fun v wx => ∃ og3 oc3, v = .slice og3 (encFrom R k (n - k)).length oc3 ∧ Hid (OutV wx og3 (encFrom R k (n - k)).length (encFrom R k (n - k))) ∧ Hid (Below w6.heap.size w6 wx))
  case first =>
    by_cases hkn2 : k = n
    · subst hkn2
      have HK4 := tuck (HK3.out w1.heap.size 0 0 (fun i hi => by omega) hsz6)
      clear HK3
      simp only [Nat.sub_self] at HK4
      go_wp2_with fail
      refine HK4.out.mono ?_
      rintro e w7 ⟨v7, rfl, ho7, hbel7⟩
      obtain ⟨og3, oc3, rfl, hO3⟩ := out_of ho7
      have HO3 := tuck hO3
      clear ho7 hO3 HK4
      go_wp2_with fail
      go_meet
      rw [Nat.sub_self]
      exact ⟨og3, oc3, rfl, HO3, hbel7⟩
    · have hk2 : k < n := by omega
      have HK4 := tuck (HK3.out w1.heap.size (k * 3) (n - k) (HV6.out.tail hkn) hsz6)
      clear HK3
      go_wp2_with fail
      refine HK4.out.mono ?_
      rintro e w7 ⟨v7, rfl, ho7, hbel7⟩
      rw [encFrom_shift, List.nil_append, Nat.zero_add] at ho7
      obtain ⟨og3, oc3, rfl, hO3⟩ := out_of ho7
      have HO3 := tuck hO3
      clear ho7 hO3 HK4
      go_wp2_with fail
      go_meet
      exact ⟨og3, oc3, rfl, HO3, hbel7⟩
  case rest =>
    obtain ⟨og3, oc3, rfl, HO3, HBel3⟩ := hcut
    obtain ⟨w7, hw7⟩ : ∃ w7, w7 = wc := ⟨_, rfl⟩
    subst hw7
    have hbel := HBel3.out
    have HP := tuck (HO6.out.kept hbel)
    have HL := tuck (HO2.out.kept hbel)
    have HR7 := tuck (HR6.out.kept hbel)
    have HBel := tuck (HBel6.out.trans (hbel.mono HBel6.out.size))
    obtain ⟨N1, hN1⟩ : ∃ N1, N1 = m + (encFrom R 0 n).length := ⟨_, rfl⟩
    obtain ⟨N2, hN2⟩ : ∃ N2, N2 = m + (encFrom R 0 k).length := ⟨_, rfl⟩
    obtain ⟨N3, hN3⟩ : ∃ N3, N3 = (encFrom R k (n - k)).length := ⟨_, rfl⟩
    have hN12 : N1 = N2 + N3 := by have := HS2.out; omega
    have hN1b : N1 ≤ 1048576 := by omega
    rw [← hN1] at HP ⊢
    rw [← hN2] at HL ⊢
    rw [← hN3] at HO3 ⊢
    have HN1 := tuck hN1
    have HN12 := tuck hN12
    have hN2b : N2 ≤ N1 := by omega
    have hN3b : N3 ≤ N1 := by omega
    clear hN1 hN2 hN3 hN12 HK3 HO6 HO2 HBel3 HB6 HR6 HV6 HBel6 hsz6 hbel
    go_wp2
    go_loopw [11, 12] (fun tv iv ws => ∃ q : Nat, q ≤ n ∧ iv = .int .i64 q ∧ tv = .int .i64 ((m + (encFrom R 0 q).length : Nat) : Int) ∧ Hid (Below w7.heap.size w7 ws)) (fun _ iv _ => n - (intOf iv).toNat)
    case atStart => exact ⟨0, by omega, rfl, by simp [encFrom], Below.refl _ _⟩
    case round =>
      obtain ⟨q, hq, rfl, rfl, HW⟩ := hrel
      by_cases hlt : q < n
      · obtain ⟨b, off, rfl, hv⟩ := (HR7.out.kept HW.out) (by omega)
        obtain ⟨c1, c2, c3⟩ := hv q hlt
        have hzq := HZ.out q hlt
        have hsq := str_le R n q hlt
        have hmq := encFrom_mono R n (q + 1) (by omega)
        have henc : ((m + (encFrom R 0 (q + 1)).length : Nat) : Int) = ((m + (encFrom R 0 q).length : Nat) : Int) + ((R q).enc.length : Int) := by simp only [encFrom, List.length_append, Nat.zero_add]; omega
        have HE := tuck henc
        obtain ⟨T, hT⟩ : ∃ T : Nat, T = m + (encFrom R 0 q).length := ⟨_, rfl⟩
        rw [← hT] at HE ⊢
        have hTb : (T : Int) + ((R q).enc.length : Int) ≤ 1048576 := by have := HN1.out; omega
        have HK := tuck (fun w' => vsize_any (R q) hzq.1 hzq.2 (by omega) w')
        clear hv henc hT hzq hmq
        go_wp2_with fail
        refine (HK.out _).mono ?_
        rintro e w8 ⟨rfl, hb8⟩
        have HW8 := tuck (HW.out.trans (hb8.mono HW.out.size))
        clear hb8 HK c1 c2 c3 HW
        go_wp2
        go_roundw
        case rel => exact ⟨q + 1, by omega, by go_num, by rw [HE.out], HW8⟩
        case measure => simp [intOf]; omega
      · have e : q = n := by omega
        subst e
        have hfin : ((N1 : Nat) : Int) = ((m + (encFrom R 0 q).length : Nat) : Int) := by have := HN1.out; omega
        rw [← hfin]
        have hN12 := HN12.out
        have ht1 : (((N2 : Int) + (N3 : Int)) != (N1 : Int)) = false := by simp; omega
        clear hfin hlt hq hN12
        go_wp2
        go_loopw [13] (fun iv ws => ∃ t : Nat, t ≤ N2 ∧ iv = .int .i64 t ∧ Hid (Below w7.heap.size w7 ws)) (fun iv _ => N2 - (intOf iv).toNat)
        case atStart => exact ⟨0, by omega, rfl, HW⟩
        case round =>
          clear HW
          obtain ⟨t, ht, rfl, HW⟩ := hrel
          by_cases hlt : t < N2
          · obtain ⟨g1, rfl, hg1⟩ := (HP.out.kept HW.out).2 (by omega)
            obtain ⟨g2, rfl, hg2⟩ := (HL.out.kept HW.out).2 (by omega)
            have d1 := hg1.2 t (by omega)
            have d2 := hg2.2 t hlt
            have hl := HL.out.1
            rw [HSP.out, ← List.append_assoc, getD_l _ _ _ (by omega)] at d1
            obtain ⟨c, hc⟩ : ∃ c, c = ((bs ++ encFrom R 0 k).getD t 0).toNat := ⟨_, rfl⟩
            rw [← hc] at d1 d2
            have hj1 : (t : Int) < (N1 : Int) := by omega
            have hj2 : (t : Int) < (N2 : Int) := by omega
            have hj0 : (0 : Int) ≤ (t : Int) := by omega
            clear hg1 hg2 hc hl
            go_wp2
            go_quiet (fail)
            go_wp2
            go_roundw
            case rel => exact ⟨t + 1, by omega, by go_num, bdrewN HW.out _⟩
            case measure => simp [intOf]; omega
          · go_wp2
            clear hlt ht
            go_loopw [14] (fun iv ws => ∃ t : Nat, t ≤ N3 ∧ iv = .int .i64 t ∧ Hid (Below w7.heap.size w7 ws)) (fun iv _ => N3 - (intOf iv).toNat)
            case atStart => exact ⟨0, by omega, rfl, HW⟩
            case round =>
              clear HW
              obtain ⟨s, hs, rfl, HW⟩ := hrel
              by_cases hlt : s < N3
              · have hN := HN12.out
                obtain ⟨g1, rfl, hg1⟩ := (HP.out.kept HW.out).2 (by omega)
                obtain ⟨g3, rfl, hg3⟩ := (HO3.out.kept HW.out).2 (by omega)
                have d1 := hg1.2 (N2 + s) (by omega)
                have d3 := hg3.2 s hlt
                have hl := HL.out.1
                rw [HSP.out, ← List.append_assoc, ← hl, getD_r] at d1
                rw [hl] at d1
                obtain ⟨c, hc⟩ : ∃ c, c = ((encFrom R k (q - k)).getD s 0).toNat := ⟨_, rfl⟩
                rw [← hc] at d1 d3
                have hj1 : (N2 : Int) + (s : Int) < (N1 : Int) := by omega
                have hj2 : (s : Int) < (N3 : Int) := by omega
                have hj0 : (0 : Int) ≤ (s : Int) := by omega
                have hj3 : (0 : Int) ≤ (N2 : Int) + (s : Int) := by omega
                have hj4 : IntKind.i64.wrap ((N2 : Int) + (s : Int)) = (N2 : Int) + (s : Int) := by rw [IntKind.wrap_i64]; omega
                clear hg1 hg3 hc hl hN
                go_wp2
                go_quiet (fail)
                go_wp2
                go_roundw
                case rel => exact ⟨s + 1, by omega, by go_num, bdrewN HW.out _⟩
                case measure => simp [intOf]; omega
              · go_wp2
                go_ret
                exact ⟨rfl, HBel.out.trans (HW.out.mono HBel.out.size)⟩
end Go.Proofs.Qxb6608748a
