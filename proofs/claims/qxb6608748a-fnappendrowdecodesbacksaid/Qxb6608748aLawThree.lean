import Derived.Test.Qxb6608748aOut
import Derived.BigQuiet
import Derived.Deep.QuietTactic
namespace Go.Proofs.Qxb6608748a
open Go.RowKit

theorem decode_int (g N cap p x : Nat) (pz : Int) (hpz : pz = (p : Int)) (os tail : List UInt8) (w : World) (hO : OutAt w g N os) (hN : N ≤ 140737488355328) (hx : x < 18446744073709551616) (hd : os.drop p = Lib.uvarint x ++ tail) :
    Calls Try.prog 12 #[.slice (some ⟨g, 0, none⟩) N cap, .int .i64 pz] w fun e w' => e = .returned (.tuple #[.int .u64 x, .int .i64 ((p + (Lib.uvarint x).length : Nat) : Int), .bool true]) ∧ w' = w := by
  subst hpz
  exact decode_any g N cap p x os tail w hO hN hx hd

theorem xor_back {z : Nat} {num : Int} (hz : z < 18446744073709551616) (hneg : num < 0) (z1 : z / 2 = (-num - 1).toNat) :
    (bits .xor .i64 (if IntKind.i64.signed = true then -1 else 9223372036854775807) ((z : Int) / 2) != num) = false := by
  rw [if_pos (show IntKind.i64.signed = true from rfl), show (z : Int) / 2 = ((z / 2 : Nat) : Int) from by omega, Lib.i64_not _ (by omega)]
  simp; omega

theorem drop_cons {os : List UInt8} {p : Nat} {c : UInt8} {r : List UInt8} (h : os.drop p = c :: r) : os.drop (p + 1) = r := (drop_head h).2.2

/-- The first byte of a value's own is its kind. -/
theorem tag_at {v : ZV} (hf : v.fits) {os tail : List UInt8} {p : Nat} (hd : os.drop p = v.enc ++ tail) : (os.getD p 0).toNat = v.kind := by
  rcases hf with ⟨h, _, _⟩ | ⟨h, _⟩ | ⟨h, _⟩
  · rw [show v.enc = [0] from by simp [ZV.enc, h]] at hd
    rw [(drop_head hd).2.1, h]; rfl
  · rw [show v.enc = 1 :: Lib.uvarint (Lib.zigzag v.num) from by simp [ZV.enc, h]] at hd
    rw [(drop_head hd).2.1, h]; rfl
  · rw [show v.enc = 2 :: (Lib.uvarint v.str.size ++ v.str.data.toList) from by simp [ZV.enc, h]] at hd
    rw [(drop_head hd).2.1, h]; rfl

theorem str_at {os u tail : List UInt8} {s : ByteArray} {p : Nat} (hd : os.drop p = (u ++ s.data.toList) ++ tail) (t : Nat) (ht : t < s.size) : os.getD (p + u.length + t) 0 = s[t] := by
  have h1 : os.getD (p + u.length + t) 0 = (os.drop p).getD (u.length + t) 0 := by simp [List.getD, List.getElem?_drop, Nat.add_assoc]
  have ht' : t < s.data.size := ht
  rw [h1, hd, List.append_assoc]
  simp only [List.getD, List.getElem?_append_right (Nat.le_add_right _ _), Nat.add_sub_cancel_left]
  rw [List.getElem?_append_left (by simpa using ht')]
  rw [show s.data.toList[t]? = some (s.data[t]'ht') from by simp]
  rfl

theorem getD_left (a b : List UInt8) (k : Nat) (h : k < a.length) : (a ++ b).getD k 0 = a.getD k 0 := by
  simp [List.getD, List.getElem?_append_left h]

theorem Below.drewN' {B : Nat} {a w : World} (h : Below B a w) (q : Nat) : Below B a (w.drewN q) := h.trans ⟨rfl, rfl, rfl, Nat.le_refl _, fun _ _ => rfl⟩

set_option maxHeartbeats 2000000 in
set_option maxRecDepth 100000 in
theorem three_any (ao : Option Addr) (m mc : Nat) (bs : List UInt8) (ar : Option Addr) (n cap : Nat) (R : Nat → ZV) (w : World) (hb : BytesAt w ao m mc bs) (hR : RowAt w ar n R) (hm : m ≤ maxLen) (hn : n ≤ maxLen)
    (hz : ∀ i, i < n → -9223372036854775808 ≤ (R i).num ∧ (R i).num ≤ 9223372036854775807) :
    Calls Try.prog 3 #[.slice ao m mc, .slice ar n cap] w fun e w' => e = .returned (.bool true) ∧ Below w.heap.size w w' := by
  have HB := tuck hb
  have HR := tuck hR
  have HZ := tuck hz
  clear hb hR hz
  go_enter Try.func3, Try.ntmps3
  go_wp2_with fail
  refine (bytes7_any ao m mc ar n cap R _ HR.out hm hn).mono ?_
  rintro e w1 ⟨rfl, r, rfl⟩
  cases r with
  | false =>
    go_wp2
    go_ret
    exact ⟨rfl, Below.refl _ _⟩
  | true =>
  go_wp2_with fail
  refine (fits8_any ao m mc ar n cap R _ HR.out hm hn).mono ?_
  rintro e w1 ⟨rfl, r, rfl, hr⟩
  cases r with
  | false =>
    clear hr
    go_wp2
    go_ret
    exact ⟨rfl, Below.refl _ _⟩
  | true =>
  obtain ⟨hn1, hs1, hfit⟩ := hr rfl
  have hle := encFrom_le R n HZ.out (by omega)
  have HF := tuck hfit
  clear hr hfit
  go_wp2_with fail
  refine (buildRow_any ar n cap R _ HR.out (by omega)).mono ?_
  rintro e w2 ⟨rfl, hv2, hsz2, hbel2⟩
  have HV := tuck hv2
  have HB2 := tuck (HB.out.kept hbel2)
  have HR2 := tuck (HR.out.kept hbel2)
  have HBel2 := tuck hbel2
  clear hv2 hbel2
  go_wp2_with fail
  refine (clone_any ao m mc (by omega) bs _ HB2.out).mono ?_
  rintro e w3 ⟨v3, rfl, ho3, hbel3⟩
  have HK := tuck (appendRow_any w2.heap.size m w1.heap.size 0 n n R v3 _ w3 (HV.out.kept hbel3 hsz2) hsz2 HZ.out ho3 hbel3.size (by omega) (fun i hi => by
    have h1 := encFrom_mono R n i (by omega)
    have h2 := str_le R n i hi
    omega))
  clear ho3 HV
  go_wp2_with fail
  refine HK.out.mono ?_
  rintro e w4 ⟨v4, rfl, ho4, hbel4⟩
  clear HK
  rw [← Lib.byteCells_append] at ho4
  obtain ⟨og, oc, rfl, hO⟩ := out_of ho4
  have HO := tuck hO
  have hbel : Below w2.heap.size w2 w4 := hbel3.trans hbel4
  have HB4 := tuck (InV.of (HB2.out.kept hbel))
  have HR4 := tuck (HR2.out.kept hbel)
  have HBel := tuck (HBel2.out.trans (hbel.mono HBel2.out.size))
  have hN : m + (encFrom R 0 n).length ≤ 1048576 := by omega
  obtain ⟨N, hNN⟩ : ∃ N, N = m + (encFrom R 0 n).length := ⟨_, rfl⟩
  rw [← hNN] at HO hN ⊢
  have HNN := tuck hNN
  have hmN : m ≤ N := by omega
  have hNm : decide (N < m) = false := by simp; omega
  clear hO ho4 hbel3 hbel4 hbel HB HB2 HR HR2 HBel2 hle hNN hsz2
  go_wp2
  go_loopw [7] (fun i wr => ∃ k : Nat, k ≤ m ∧ i = .int .i64 k ∧ Hid (Below w4.heap.size w4 wr)) (fun i _ => m - (intOf i).toNat)
  case atStart => exact ⟨0, by omega, rfl, Below.refl _ _⟩
  case round =>
    obtain ⟨k, hk, rfl, HW⟩ := hrel
    by_cases hlt : k < m
    · obtain ⟨b, off, rfl, hcb⟩ := HB4.out.2 (by omega)
      obtain ⟨g, rfl, hcg⟩ := HO.out.2 (by omega)
      have c1 : wr.cell? ⟨b, off + k, none⟩ = some (.int .u8 ((bs.getD k 0).toNat : Int)) := by rw [HW.out.cell (World.block_lt_of_cell? _ _ (hcb k hlt))]; exact hcb k hlt
      have c2 : wr.cell? ⟨g, k, none⟩ = some (.int .u8 ((bs.getD k 0).toNat : Int)) := by
        have := hcg.2 k (by omega)
        rw [HW.out.cell (World.block_lt_of_cell? _ _ this), this]
        have hl := HB4.out.1
        rw [getD_left bs _ k (by omega)]
      obtain ⟨c, hc⟩ : ∃ c, c = (bs.getD k 0).toNat := ⟨_, rfl⟩
      rw [← hc] at c1 c2
      have hi1 : (k : Int) < (m : Int) := by omega
      have hi2 : (k : Int) < (N : Int) := by omega
      have hi0 : (0 : Int) ≤ (k : Int) := by omega
      clear hcb hcg hc
      go_wp2
      go_quiet (fail)
      go_wp2
      go_roundw
      case rel => exact ⟨k + 1, by omega, by go_num, Below.drewN' HW.out _⟩
      case measure => simp [intOf]; omega
    · go_wp2
      clear hlt hk
      go_loopw [8, 9] (fun pv iv ws => ∃ q : Nat, q ≤ n ∧ iv = .int .i64 q ∧ pv = .int .i64 ((m + (encFrom R 0 q).length : Nat) : Int) ∧ Hid (Below w4.heap.size w4 ws)) (fun _ iv _ => n - (intOf iv).toNat)
      case atStart => exact ⟨0, by omega, rfl, by simp [encFrom], HW⟩
      case round =>
        clear HW
        obtain ⟨q, hq, rfl, rfl, HW⟩ := hrel
        by_cases hlt : q < n
        · obtain ⟨tail, hd, hlenT⟩ := drop_enc R bs n q hlt
          have hbl := HB4.out.1
          have hpos := enc_pos (R q)
          rw [hbl] at hd hlenT
          obtain ⟨p, hp⟩ : ∃ p, p = m + (encFrom R 0 q).length := ⟨_, rfl⟩
          have hpn : m + (encFrom R 0 (q + 1)).length = p + (R q).enc.length := by simp only [encFrom, List.length_append, Nat.zero_add]; omega
          have HPN := tuck hpn
          have hNl := HO.out.1
          rw [← hp] at hd hlenT ⊢
          have hNp : p + (R q).enc.length + tail.length = N := by omega
          obtain ⟨b, off, rfl, hv⟩ := (HR4.out.kept HW.out) (by omega)
          obtain ⟨c1, c2, c3⟩ := hv q hlt
          obtain ⟨g, rfl, hcg⟩ := (HO.out.kept HW.out).2 (by omega)
          have HG := tuck hcg
          have HD := tuck hd
          have hpN : p < N := by omega
          have hg : g < wr.heap.size := World.block_lt_of_cell? _ _ (hcg.2 p hpN)
          have hcp : wr.cell? ⟨g, p, none⟩ = some (.int .u8 ((R q).kind : Int)) := by rw [hcg.2 p hpN, tag_at (HF.out q hlt) hd]
          have hcp' : ∀ o, (wr.alloc o).cell? ⟨g, p, none⟩ = some (.int .u8 ((R q).kind : Int)) := fun o => by rw [World.cell?_alloc_lt _ _ _ (by exact hg)]; exact hcp
          have hi1 : (p : Int) < (N : Int) := by omega
          have hi2 : decide ((N : Int) ≤ (p : Int)) = false := by simp; omega
          have hi0 : (0 : Int) ≤ (p : Int) := by omega
          clear hp hpn hNl hlenT hd hv hcg hcp hbl
          rcases HF.out q hlt with ⟨hk0, _, _⟩ | ⟨hk1, _⟩ | ⟨hk2, _⟩
          · have hk : ((R q).kind : Int) = 0 := by omega
            rw [hk] at c1
            simp only [hk] at hcp'
            have henc : (R q).enc = [0] := by simp [ZV.enc, hk0]
            have hpq : ((m + (encFrom R 0 (q + 1)).length : Nat) : Int) = (p : Int) + 1 := by have := HPN.out; rw [henc] at this; simp at this; omega
            have HPQ := tuck hpq
            clear hk hk0 henc HPN hpq
            go_wp2
            go_quiet (fail)
            go_wp2
            go_roundw
            case rel => exact ⟨q + 1, by omega, by go_num, by rw [HPQ.out], Below.drewN' (HW.out.alloc HW.out.size _) _⟩
            case measure => simp [intOf]; omega
          · have hk : ((R q).kind : Int) = 1 := by omega
            rw [hk] at c1
            simp only [hk] at hcp'
            have henc : (R q).enc = 1 :: Lib.uvarint (Lib.zigzag (R q).num) := by simp [ZV.enc, hk1]
            have hpq : ((m + (encFrom R 0 (q + 1)).length : Nat) : Int) = ((p + 1 + (Lib.uvarint (Lib.zigzag (R q).num)).length : Nat) : Int) := by have := HPN.out; rw [henc] at this; simp only [List.length_cons] at this; omega
            have hd1 := HD.out
            rw [henc] at hd1
            have hzr := HZ.out q hlt
            have hz64 := Lib.zigzag_lt hzr.1 hzr.2
            have HK := fun (pz : Int) (hpz : pz = ((p + 1 : Nat) : Int)) (ww : World) (hO : OutAt ww g N _) => decode_int g N oc (p + 1) (Lib.zigzag (R q).num) pz hpz _ tail ww hO (by omega) hz64 (drop_cons hd1)
            have hbel1 : ∀ o nq, Below wr.heap.size wr ((wr.alloc o).drewN nq) := fun o nq => Below.drewN' ((Below.refl _ _).alloc (Nat.le_refl _) o) nq
            have HBL := tuck hbel1
            have HK2 := tuck HK
            have HPQ := tuck hpq
            clear hk hk1 henc HPN hpq hd1 HK hbel1
            go_wp2
            go_quiet (fail)
            go_wp2_with fail
            refine (HK2.out _ (by omega) _ (HG.out.kept (HBL.out _ _))).mono ?_
            rintro e w5 ⟨rfl, rfl⟩
            clear HK2
            by_cases hneg : (R q).num < 0
            · obtain ⟨z1, z2⟩ := zig_odd hneg
              obtain ⟨z, hz⟩ : ∃ z, z = Lib.zigzag (R q).num := ⟨_, rfl⟩
              rw [← hz] at z1 z2 hz64 HPQ ⊢
              have hand : bits .and .u64 (z : Int) 1 = 1 := by rw [Lib.u64_and1 _ (by omega) (by omega)]; omega
              have HX := tuck (xor_back hz64 hneg z1)
              clear hz
              go_wp2
              · exact absurd (HX.out.symm.trans ‹(bits .xor .i64 (if IntKind.i64.signed = true then -1 else 9223372036854775807) ((z : Int) / 2) != (R q).num) = true›) (by simp)
              · go_roundw
                case rel => exact ⟨q + 1, by omega, by go_num, by rw [HPQ.out]; go_num, Below.drewN' (HW.out.alloc HW.out.size _) _⟩
                case measure => simp [intOf]; omega
            · obtain ⟨z1, z2⟩ := zig_even (show 0 ≤ (R q).num by omega)
              obtain ⟨z, hz⟩ : ∃ z, z = Lib.zigzag (R q).num := ⟨_, rfl⟩
              rw [← hz] at z1 z2 hz64 HPQ ⊢
              have hand : bits .and .u64 (z : Int) 1 = 0 := by rw [Lib.u64_and1 _ (by omega) (by omega)]; omega
              clear hz
              go_wp2
              go_roundw
              case rel => exact ⟨q + 1, by omega, by go_num, by rw [HPQ.out]; go_num, Below.drewN' (HW.out.alloc HW.out.size _) _⟩
              case measure => simp [intOf]; omega
          · have hk : ((R q).kind : Int) = 2 := by omega
            rw [hk] at c1
            simp only [hk] at hcp'
            have henc : (R q).enc = 2 :: (Lib.uvarint (R q).str.size ++ (R q).str.data.toList) := by simp [ZV.enc, hk2]
            have hss := str_le R n q hlt
            have hpq : ((m + (encFrom R 0 (q + 1)).length : Nat) : Int) = ((p + 1 + (Lib.uvarint (R q).str.size).length : Nat) : Int) + ((R q).str.size : Int) := by
              have := HPN.out; rw [henc] at this; simp only [List.length_cons, List.length_append, Array.length_toList] at this
              have e : (R q).str.data.size = (R q).str.size := rfl
              omega
            have hd1 := HD.out
            rw [henc] at hd1
            have hd2 : (bs ++ encFrom R 0 n).drop (p + 1) = (Lib.uvarint (R q).str.size ++ (R q).str.data.toList) ++ tail := drop_cons hd1
            have HK := fun (pz : Int) (hpz : pz = ((p + 1 : Nat) : Int)) (ww : World) (hO : OutAt ww g N _) => decode_int g N oc (p + 1) (R q).str.size pz hpz _ ((R q).str.data.toList ++ tail) ww hO (by omega) (by omega) (by rw [hd2, List.append_assoc])
            have hbel1 : ∀ o nq, Below wr.heap.size wr ((wr.alloc o).drewN nq) := fun o nq => Below.drewN' ((Below.refl _ _).alloc (Nat.le_refl _) o) nq
            have HBL := tuck hbel1
            have HK2 := tuck HK
            have HPQ := tuck hpq
            have HST := tuck (str_at hd2)
            have hQN : p + 1 + (Lib.uvarint (R q).str.size).length + (R q).str.size ≤ N := by
              have := hNp; rw [henc] at this; simp only [List.length_cons, List.length_append, Array.length_toList] at this
              have e : (R q).str.data.size = (R q).str.size := rfl
              omega
            obtain ⟨s, hs⟩ : ∃ s, s = (R q).str := ⟨_, rfl⟩
            rw [← hs] at HST HPQ HK2 hQN c3 hss
            obtain ⟨Q, hQ⟩ : ∃ Q, Q = p + 1 + (Lib.uvarint s.size).length := ⟨_, rfl⟩
            rw [← hQ] at HST HPQ HK2 hQN
            clear hk hk2 henc HPN hpq hd1 HK hbel1 hd2 hs hQ hNp
            go_wp2
            go_quiet (fail)
            go_wp2_with fail
            refine (HK2.out _ (by omega) _ (HG.out.kept (HBL.out _ _))).mono ?_
            rintro e w5 ⟨rfl, rfl⟩
            clear HK2
            go_wp2
            go_loopw [18] (fun tv ws => ∃ t : Nat, t ≤ s.size ∧ tv = .int .i64 t ∧ ws.cell? ⟨wr.heap.size, 2, none⟩ = some (.string s) ∧ Hid (OutAt ws g N (bs ++ encFrom R 0 n)) ∧ Hid (Below w4.heap.size w4 ws)) (fun tv _ => s.size - (intOf tv).toNat)
            case atStart => exact ⟨0, by omega, rfl, by simp, HG.out.kept (HBL.out _ _), Below.drewN' (HW.out.alloc HW.out.size _) _⟩
            case round =>
              clear HG HW c1 c2 c3 hcp'
              obtain ⟨t, ht, rfl, hbox, HG, HW⟩ := hrel
              by_cases hlt2 : t < s.size
              · have co : wr.cell? ⟨g, Q + t, none⟩ = some (.int .u8 ((s[t]'hlt2).toNat : Int)) := by rw [HG.out.2 _ (by omega), HST.out t hlt2]
                have hj1 : (Q : Int) + (t : Int) < (N : Int) := by omega
                have hj0 : (0 : Int) ≤ (Q : Int) + (t : Int) := by omega
                have hj2 : (t : Int) < (s.size : Int) := by omega
                have hj3 : IntKind.i64.wrap ((Q : Int) + (t : Int)) = (Q : Int) + (t : Int) := by rw [IntKind.wrap_i64]; omega
                go_wp2
                go_quiet (fail)
                go_wp2
                go_roundw
                case rel => exact ⟨t + 1, by omega, by go_num, hbox, HG.out.kept (Below.drewN' (Below.refl _ _) _), Below.drewN' HW.out _⟩
                case measure => simp [intOf]; omega
              · have e : t = s.size := by omega
                go_wp2
                go_roundw
                case rel => exact ⟨q + 1, by omega, by go_num, by rw [HPQ.out], HW⟩
                case measure => simp [intOf]; omega
        · have e : q = n := by omega
          subst e
          have hfin : (((m + (encFrom R 0 q).length : Nat) : Int) == (N : Int)) = true := beq_iff_eq.2 (by have := HNN.out; omega)
          obtain ⟨z, hz⟩ : ∃ z : Int, z = ((m + (encFrom R 0 q).length : Nat) : Int) := ⟨_, rfl⟩
          rw [← hz] at hfin ⊢
          clear hz
          go_wp2
          go_ret
          exact ⟨rfl, HBel.out.trans (HW.out.mono HBel.out.size)⟩
end Go.Proofs.Qxb6608748a
