import Derived.Test.Qxb6608952aFmtErr
import Derived.Test.Qxb6608952aFmtShelf
import Derived.Lib.Walk
import Derived.Lib.Slices
namespace Go.Proofs.Qxb6608952aFmt
open Go.RowKit

/-- The call answers a bool. -/
def SaysBool (e : Ending) : Prop := ∃ r, e = .returned (.bool r)

/-- The strings of a slice lie at its address (a slice without elements needs no address). -/
def StrRow (w : World) (a : Option Addr) (xs : List ByteArray) : Prop :=
  0 < xs.length → ∃ b off, a = some ⟨b, off, none⟩ ∧ ∀ j x, xs[j]? = some x → w.cell? ⟨b, off + j, none⟩ = some (.string x)

theorem StrRow.kept {w w' : World} {a : Option Addr} {xs : List ByteArray} (h : StrRow w a xs) {B : Nat} (hB : w.heap.size ≤ B) (hb : Below B w w') : StrRow w' a xs := by
  intro hn
  obtain ⟨b, off, e, hv⟩ := h hn
  refine ⟨b, off, e, fun j x hx => ?_⟩
  have h1 := hv j x hx
  rw [hb.cell (by exact Nat.lt_of_lt_of_le (World.block_lt_of_cell? _ _ h1) hB)]
  exact h1

/-- What a list of strings costs: its bytes, and sixteen an element. -/
def cost (xs : List ByteArray) : Nat := (xs.map fun x => 16 + x.size).sum

theorem cost_take_succ (xs : List ByteArray) (k : Nat) (x : ByteArray) (h : xs[k]? = some x) : cost (xs.take (k + 1)) = cost (xs.take k) + (16 + x.size) := by
  unfold cost
  rw [List.take_add_one, h]
  simp

theorem at_get {xs : List ByteArray} {k : Nat} (h : k < xs.length) : xs[k]? = some xs[k] := List.getElem?_eq_getElem h

set_option maxHeartbeats 400000 in
theorem addString_any (n : Int) (s : ByteArray) (w : World) (h0 : 0 ≤ n) (h1 : n ≤ 1048576) :
    Calls Tryf.prog 8 #[.int .i64 n, .string s] w fun e w' => ∃ r : Int, e = .returned (.int .i64 r) ∧ w' = w ∧ 0 ≤ r ∧ r ≤ 9000000 ∧ (r ≤ 1048576 → r = n + s.size) := by
  by_cases h : 1048576 < (s.size : Int)
  · go_enter Tryf.func8, Tryf.ntmps8
    go_wp2
    go_ret
    exact ⟨_, rfl, rfl, by omega, by omega, fun h => by omega⟩
  · go_enter Tryf.func8, Tryf.ntmps8
    go_wp2
    go_ret
    exact ⟨n + s.size, by go_num, rfl, by omega, by omega, fun _ => rfl⟩

set_option maxHeartbeats 400000 in
theorem addList_any (n : Int) (a : Option Addr) (xs : List ByteArray) (c : Nat) (w : World) (hR : StrRow w a xs) (hn : xs.length ≤ maxLen) (h0 : 0 ≤ n) (h1 : n ≤ 1048576) :
    Calls Tryf.prog 9 #[.int .i64 n, .slice a xs.length c] w fun e w' => ∃ r : Int, e = .returned (.int .i64 r) ∧ w' = w ∧ 0 ≤ r ∧ r ≤ 9000000 ∧ (r ≤ 1048576 → r = n + cost xs) := by
  unfold maxLen at hn
  have HR := tuck hR
  clear hR
  go_enter Tryf.func9, Tryf.ntmps9
  go_wp2
  go_loop [0, 6, 9] (fun t _ i => ∃ k : Nat, k ≤ xs.length ∧ i = .int .i64 k ∧ t = .int .i64 (n + cost (xs.take k)) ∧ n + cost (xs.take k) ≤ 1048576) (fun _ _ i => xs.length - (intOf i).toNat)
  case atStart => exact ⟨0, by omega, rfl, by simp [cost], by simpa [cost] using h1⟩
  case round =>
    obtain ⟨k, hk, rfl, rfl, hc⟩ := hrel
    by_cases hlt : k < xs.length
    · obtain ⟨b, off, rfl, hv⟩ := HR.out (by omega)
      have c3 := hv k _ (at_get hlt)
      have hs := cost_take_succ xs k _ (at_get hlt)
      clear hv
      generalize xs[k] = x at c3 hs
      generalize cost (xs.take k) = ck at *
      generalize hck : cost (xs.take (k + 1)) = ck1 at *
      by_cases h4 : 1048576 < (x.size : Int)
      · go_wp2
        go_ret
        exact ⟨_, rfl, rfl, by omega, by omega, fun h => by omega⟩
      by_cases h5 : 1048576 < n + (ck : Int) + (16 + (x.size : Int))
      · go_wp2
        go_ret
        exact ⟨_, rfl, rfl, by omega, by omega, fun h => by omega⟩
      go_wp2
      go_round
      case rel => exact ⟨k + 1, by omega, by go_num, by rw [hck]; go_num, by rw [hck]; omega⟩
      case measure => simp [intOf]; omega
    · have e : k = xs.length := by omega
      subst e
      rw [List.take_length] at hc
      go_wp2
      go_ret
      exact ⟨n + cost xs, rfl, rfl, by omega, by omega, fun _ => rfl⟩

set_option maxHeartbeats 400000 in
theorem contains_any (key : ByteArray) (a : Option Addr) (xs : List ByteArray) (c : Nat) (w : World) (hR : StrRow w a xs) (hn : xs.length ≤ maxLen) :
    Calls Tryf.prog 7 #[.slice a xs.length c, .string key] w fun e w' => e = .returned (.bool (Lib.containsS xs key)) ∧ w' = w := by
  unfold maxLen at hn
  have HR := tuck hR
  clear hR
  go_enter Tryf.func7, Tryf.ntmps7
  go_wp2
  go_loop [6, 9] (fun _ i => ∃ k : Nat, k ≤ xs.length ∧ i = .int .i64 k ∧ Hid (∀ j x, j < k → xs[j]? = some x → x ≠ key)) (fun _ i => xs.length - (intOf i).toNat)
  case atStart => exact ⟨0, by omega, rfl, tuck (fun j x hj => by omega)⟩
  case round =>
    obtain ⟨k, hk, rfl, HN⟩ := hrel
    by_cases hlt : k < xs.length
    · obtain ⟨b, off, rfl, hv⟩ := HR.out (by omega)
      have c3 := hv k _ (at_get hlt)
      clear hv
      have hx := at_get hlt
      generalize xs[k] = x at c3 hx
      by_cases h4 : x = key
      · subst h4
        have hm : Lib.containsS xs x = true := (Lib.containsS_iff _ _).2 (List.mem_of_getElem? hx)
        go_wp2
        go_ret
        exact ⟨rfl, rfl⟩
      · have hbe := (Lib.bytes_beq_false_iff x key).2 h4
        go_wp2
        go_round
        case rel =>
          refine ⟨k + 1, by omega, by go_num, tuck (fun j y hj hy => ?_)⟩
          by_cases e : j = k
          · subst e; rw [hx] at hy; cases hy; exact h4
          · exact HN.out j y (by omega) hy
        case measure => simp [intOf]; omega
    · have hm : Lib.containsS xs key = false := by
        refine Bool.eq_false_iff.2 fun hm => ?_
        have hm := (Lib.containsS_iff _ _).1 hm
        obtain ⟨j, hj⟩ := List.getElem?_of_mem hm
        exact HN.out j key (by have := (List.getElem?_eq_some_iff.1 hj).1; omega) hj rfl
      go_wp2
      go_ret
      exact ⟨rfl, rfl⟩
end Go.Proofs.Qxb6608952aFmt
