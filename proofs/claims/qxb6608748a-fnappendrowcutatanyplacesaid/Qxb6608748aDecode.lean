import Derived.Test.Qxb6608748aBits
import Derived.Test.Qxb6608748aScreen
namespace Go.Proofs.Qxb6608748a
open Go.RowKit

/-- The bytes of a slice at the head of block g. -/
def OutAt (w : World) (g N : Nat) (os : List UInt8) : Prop := os.length = N ∧ ∀ j, j < N → w.cell? ⟨g, j, none⟩ = some (.int .u8 (os.getD j 0).toNat)

theorem drop_head {os : List UInt8} {q : Nat} {c : UInt8} {r : List UInt8} (h : os.drop q = c :: r) : q < os.length ∧ os.getD q 0 = c ∧ os.drop (q + 1) = r := by
  have hq : q < os.length := by
    rcases Nat.lt_or_ge q os.length with h1 | h1
    · exact h1
    · rw [List.drop_eq_nil_of_le h1] at h; cases h
  rw [List.drop_eq_getElem_cons hq] at h
  injection h with h1 h2
  exact ⟨hq, by simp [hq, h1], h2⟩

theorem ret_dec {a a' b b' : Int} (h1 : a = a') (h2 : b = b') : Ending.returned (.tuple #[.int .u64 a, .int .i64 b, .bool true]) = Ending.returned (.tuple #[.int .u64 a', .int .i64 b', .bool true]) := by rw [h1, h2]

set_option maxHeartbeats 1000000 in
set_option maxRecDepth 100000 in
theorem decode_any (g N cap p x : Nat) (os tail : List UInt8) (w : World) (hO : OutAt w g N os) (hN : N ≤ 140737488355328) (hx : x < 18446744073709551616) (hd : os.drop p = Lib.uvarint x ++ tail) :
    Calls Try.prog 12 #[.slice (some ⟨g, 0, none⟩) N cap, .int .i64 p] w fun e w' => e = .returned (.tuple #[.int .u64 x, .int .i64 ((p + (Lib.uvarint x).length : Nat) : Int), .bool true]) ∧ w' = w := by
  obtain ⟨hlen, hcell⟩ := hO
  have HC := tuck hcell
  have HL := tuck hlen
  have HD := tuck hd
  clear hcell hd hlen
  go_enter Try.func12, Try.ntmps12
  go_wp2
  go_loop [7, 8, 9] (fun xv sv kv => ∃ k : Nat, k ≤ 9 ∧ xv = .int .u64 (low x k) ∧ sv = .int .u64 ((7 * k : Nat) : Int) ∧ kv = .int .i64 k ∧ Hid (os.drop (p + k) = Lib.uvarint (rest x k) ++ tail) ∧ Hid ((Lib.uvarint x).length = k + (Lib.uvarint (rest x k)).length) ∧ Hid (0 < k → 1 ≤ rest x k)) (fun _ _ kv => 10 - (intOf kv).toNat)
  case atStart => exact ⟨0, by omega, by simp [low, Nat.mod_one], by simp, rfl, by simpa [rest, Hid] using HD.out, by simp [rest, Hid], by simp [Hid]⟩
  case round =>
    obtain ⟨k, hk, rfl, rfl, rfl, HDk, HLk, HP⟩ := hrel
    by_cases hy : rest x k < 128
    · have hu : Lib.uvarint (rest x k) = [(rest x k).toUInt8] := Lib.uvarint_small hy
      have hdk := HDk.out
      rw [hu] at hdk
      have hq1 := (drop_head hdk).1
      have hq2 := (drop_head hdk).2.1
      have hq : p + k < N := by have := HL.out; omega
      have c0 : w.cell? ⟨g, p + k, none⟩ = some (.int .u8 (rest x k : Int)) := by rw [HC.out _ hq, hq2, Lib.toUInt8_toNat (by omega)]
      have h9 : k = 9 → rest x k ≤ 1 := fun e => by subst e; exact rest_nine hx
      have hlen1 : p + k + 1 = p + (Lib.uvarint x).length := by have := HLk.out; rw [hu] at this; simp at this; omega
      have HOR := tuck (or_last hx hk)
      have HL1 := tuck hlen1
      clear hdk hu hq1 hq2 hlen1
      by_cases e9 : k = 9
      · subst e9
        have h91 := h9 rfl
        have h92 := HP.out (by omega)
        have h93 : rest x 9 = 1 := by omega
        rw [h93] at c0
        have HN9 := tuck (or_nine hx h93)
        clear h9 h93
        go_wp2
        go_ret3
        exact ⟨ret_dec HN9.out (by have := HL1.out; omega), rfl⟩
      have e9' : (((k : Int) == 9) : Bool) = false := beq_eq_false_iff_ne.2 (by omega)
      by_cases k0 : 0 < k
      · have h92 := HP.out k0
        have h93 : (((rest x k : Nat) : Int) == 0) = false := beq_eq_false_iff_ne.2 (by omega)
        go_wp2
        go_ret3
        exact ⟨ret_dec HOR.out (by have := HL1.out; omega), rfl⟩
      · go_wp2
        go_ret3
        exact ⟨ret_dec HOR.out (by have := HL1.out; omega), rfl⟩
    · have hk9 : k ≠ 9 := fun e => by subst e; have := rest_nine hx; omega
      have hu : Lib.uvarint (rest x k) = (rest x k % 128 + 128).toUInt8 :: Lib.uvarint (rest x k / 128) := Lib.uvarint_big (by omega)
      have hdk := HDk.out
      rw [hu] at hdk
      have hq1 := (drop_head hdk).1
      have hq2 := (drop_head hdk).2.1
      have hq3 := (drop_head hdk).2.2
      have hq : p + k < N := by have := HL.out; omega
      have c0 : w.cell? ⟨g, p + k, none⟩ = some (.int .u8 ((rest x k % 128 + 128 : Nat) : Int)) := by rw [HC.out _ hq, hq2, Lib.toUInt8_toNat (by omega)]
      have HD1 : Hid (os.drop (p + (k + 1)) = Lib.uvarint (rest x (k + 1)) ++ tail) := by rw [rest_succ]; exact hq3
      have HL1 : Hid ((Lib.uvarint x).length = k + 1 + (Lib.uvarint (rest x (k + 1))).length) := by
        have := HLk.out; rw [hu] at this; simp only [List.length_cons] at this
        rw [rest_succ]; simp only [Hid]; omega
      have HP1 : Hid (0 < k + 1 → 1 ≤ rest x (k + 1)) := fun _ => by rw [rest_succ]; omega
      have hmask : bits .and .u8 ((rest x k % 128 + 128 : Nat) : Int) 127 = ((rest x k % 128 : Nat) : Int) := by
        rw [u8_and127 _ (by omega) (by omega)]; omega
      have HOR := tuck (or_mid hx hk)
      clear hdk hu hq1 hq2 hq3 HDk HLk HP
      obtain ⟨c, hc⟩ : ∃ c, c = rest x k % 128 + 128 := ⟨_, rfl⟩
      obtain ⟨r, hr⟩ : ∃ r, r = rest x k % 128 := ⟨_, rfl⟩
      have hr1 : r < 128 := by omega
      have hc1 : 128 ≤ c := by omega
      have hc2 : c < 256 := by omega
      rw [← hc] at c0 hmask
      rw [← hr] at hmask HOR
      clear hc hr hy
      have e9' : (((k : Int) == 9) : Bool) = false := beq_eq_false_iff_ne.2 (by omega)
      go_wp2
      go_round
      case rel => exact ⟨k + 1, by omega, by rw [← HOR.out], by go_num, by go_num, HD1, HL1, HP1⟩
      case measure => simp [intOf]; omega
end Go.Proofs.Qxb6608748a
