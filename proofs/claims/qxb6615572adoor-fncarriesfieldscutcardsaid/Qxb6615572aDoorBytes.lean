import Derived.Test.Qxb6615572aDoorFields
namespace Go.Proofs.Qxb6615572aDoor
open Go.RowKit

/-- The lists of strings of a slice of slices, as the screens read them. -/
def GridAt (w : World) (a : Option Addr) (vs : List (List ByteArray)) : Prop :=
  0 < vs.length → ∃ b off, a = some ⟨b, off, none⟩ ∧ ∀ j xs, vs[j]? = some xs → ∃ va vc, w.cell? ⟨b, off + j, none⟩ = some (.slice va xs.length vc) ∧ StrRow w va xs

/-- How many strings the first k lists hold. -/
def many (vs : List (List ByteArray)) (k : Nat) : Nat := ((vs.take k).map List.length).sum

theorem many_succ {vs : List (List ByteArray)} {k : Nat} {xs : List ByteArray} (h : vs[k]? = some xs) : many vs (k + 1) = many vs k + xs.length := by
  unfold many
  rw [List.take_add_one, h]
  simp

/-- The screen answers a bool; if it lets by, P holds. -/
def LetsBy (P : Prop) (e : Ending) : Prop := ∃ ok : Bool, e = .returned (.bool ok) ∧ (ok = true → P)

set_option maxRecDepth 100000 in
set_option maxHeartbeats 4000000 in
theorem bytes_any (kept : Bool) (a0 a1 a2 : ByteArray) (kk : Int) (na va sa ta : Option Addr) (ns : List ByteArray) (vs : List (List ByteArray)) (sn sv : List ByteArray) (nc vc sc tc : Nat) (w : World)
    (hN : StrRow w na ns) (hV : GridAt w va vs) (hS : StrRow w sa sn) (hT : StrRow w ta sv) (hn : ns.length ≤ maxLen) (hv : vs.length ≤ maxLen) (hs : sn.length ≤ maxLen) (ht : sv.length ≤ maxLen) (zv : ∀ xs ∈ vs, xs.length ≤ maxLen) :
    Calls Tryd.prog 9 #[.bool kept, .string a0, .string a1, .string a2, .slice na ns.length nc, .slice va vs.length vc, .slice sa sn.length sc, .slice ta sv.length tc, .int .i64 kk] w fun e w' =>
      LetsBy (a2.size ≤ 1048576 ∧ many vs vs.length ≤ 1048576) e ∧ w' = w := by
  unfold maxLen at hn hv hs ht
  have HN := tuck hN
  have HV := tuck hV
  have HS := tuck hS
  have HT := tuck hT
  have HZ := tuck zv
  clear hN hV hS hT zv
  by_cases e0 : 1048576 < (a0.size : Int)
  · go_enter Tryd.func9, Tryd.ntmps9
    go_wp2
    go_ret
    exact ⟨⟨false, rfl, fun h => by cases h⟩, rfl⟩
  by_cases e0a : 1048576 < (a1.size : Int)
  · go_enter Tryd.func9, Tryd.ntmps9
    go_wp2
    go_ret
    exact ⟨⟨false, rfl, fun h => by cases h⟩, rfl⟩
  by_cases e0b : 1048576 < (a0.size : Int) + (a1.size : Int)
  · go_enter Tryd.func9, Tryd.ntmps9
    go_wp2
    go_ret
    exact ⟨⟨false, rfl, fun h => by cases h⟩, rfl⟩
  by_cases e1a : 1048576 < (a2.size : Int)
  · go_enter Tryd.func9, Tryd.ntmps9
    go_wp2
    go_ret
    exact ⟨⟨false, rfl, fun h => by cases h⟩, rfl⟩
  by_cases e1b : 1048576 < (a0.size : Int) + (a1.size : Int) + (a2.size : Int)
  · go_enter Tryd.func9, Tryd.ntmps9
    go_wp2
    go_ret
    exact ⟨⟨false, rfl, fun h => by cases h⟩, rfl⟩
  by_cases e2a : 1048576 < (ns.length : Int)
  · go_enter Tryd.func9, Tryd.ntmps9
    go_wp2
    go_ret
    exact ⟨⟨false, rfl, fun h => by cases h⟩, rfl⟩
  by_cases e2b : 1048576 < (a0.size : Int) + (a1.size : Int) + (a2.size : Int) + (ns.length : Int)
  · go_enter Tryd.func9, Tryd.ntmps9
    go_wp2
    go_ret
    exact ⟨⟨false, rfl, fun h => by cases h⟩, rfl⟩
  go_enter Tryd.func9, Tryd.ntmps9
  go_wp2
  go_loop [19, 20] (fun t i => ∃ (k s : Nat), k ≤ ns.length ∧ s ≤ 1048576 ∧ i = .int .i64 k ∧ t = .int .i64 s) (fun _ i => ns.length - (intOf i).toNat)
  case atStart => exact ⟨0, a0.size + a1.size + a2.size + ns.length, by omega, by omega, rfl, by go_num⟩
  case round =>
    obtain ⟨k20, s20, hk20, hs20, rfl, rfl⟩ := hrel
    by_cases hlt20 : k20 < ns.length
    · obtain ⟨bb, off, rfl, hv⟩ := HN.out (by omega)
      have c3 := hv k20 _ (at_get hlt20)
      clear hv
      generalize ns[k20] = x at c3
      by_cases h4 : 1048576 < (x.size : Int)
      · go_wp2
        go_ret
        exact ⟨⟨false, rfl, fun h => by cases h⟩, rfl⟩
      by_cases h5 : 1048576 < (s20 : Int) + (x.size : Int)
      · go_wp2
        go_ret
        exact ⟨⟨false, rfl, fun h => by cases h⟩, rfl⟩
      go_wp2
      go_round
      case rel => exact ⟨k20 + 1, s20 + x.size, by omega, by omega, by go_num, by go_num⟩
      case measure => simp [intOf]; omega
    · skip
      by_cases g1 : 1048576 < (vs.length : Int)
      · go_wp2
        go_ret
        exact ⟨⟨false, rfl, fun h => by cases h⟩, rfl⟩
      by_cases g2 : 1048576 < (s20 : Int) + (vs.length : Int)
      · go_wp2
        go_ret
        exact ⟨⟨false, rfl, fun h => by cases h⟩, rfl⟩
      go_wp2
      go_loop [19, 21] (fun t i => ∃ (k s : Nat), k ≤ vs.length ∧ many vs k ≤ s ∧ s ≤ 1048576 ∧ i = .int .i64 k ∧ t = .int .i64 s) (fun _ i => vs.length - (intOf i).toNat)
      case atStart => exact ⟨0, s20 + vs.length, by omega, by simp [many], by omega, rfl, by go_num⟩
      case round =>
        obtain ⟨k21, s21, hk21, hm21, hs21, rfl, rfl⟩ := hrel
        by_cases hlt21 : k21 < vs.length
        · obtain ⟨xs, hxs⟩ : ∃ xs, vs[k21]? = some xs := ⟨_, at_get hlt21⟩
          obtain ⟨bv, ov, rfl, hv2⟩ := HV.out (by omega)
          obtain ⟨ya, yc, c2, hrow⟩ := hv2 k21 xs hxs
          have hms := many_succ hxs
          have hxl : xs.length ≤ 9223372036854775807 := by have := HZ.out xs (List.mem_of_getElem? hxs); unfold maxLen at this; omega
          have HRow := tuck hrow
          clear hv2 hxs hrow
          generalize many vs k21 = mk0 at *
          generalize hmk1 : many vs (k21 + 1) = mk1 at *
          by_cases g3 : 1048576 < (xs.length : Int)
          · go_wp2
            go_ret
            exact ⟨⟨false, rfl, fun h => by cases h⟩, rfl⟩
          by_cases g4 : 1048576 < (s21 : Int) + (xs.length : Int)
          · go_wp2
            go_ret
            exact ⟨⟨false, rfl, fun h => by cases h⟩, rfl⟩
          go_wp2
          go_loop [19, 22] (fun t i => ∃ (k s : Nat), k ≤ xs.length ∧ mk1 ≤ s ∧ s ≤ 1048576 ∧ i = .int .i64 k ∧ t = .int .i64 s) (fun _ i => xs.length - (intOf i).toNat)
          case atStart => exact ⟨0, s21 + xs.length, by omega, by omega, by omega, rfl, by go_num⟩
          case round =>
            obtain ⟨k22, s22, hk22, hm22, hs22, rfl, rfl⟩ := hrel
            by_cases hlt22 : k22 < xs.length
            · obtain ⟨bb, off, rfl, hv⟩ := HRow.out (by omega)
              have c3 := hv k22 _ (at_get hlt22)
              clear hv
              generalize xs[k22] = x at c3
              by_cases h4 : 1048576 < (x.size : Int)
              · go_wp2
                go_ret
                exact ⟨⟨false, rfl, fun h => by cases h⟩, rfl⟩
              by_cases h5 : 1048576 < (s22 : Int) + (x.size : Int)
              · go_wp2
                go_ret
                exact ⟨⟨false, rfl, fun h => by cases h⟩, rfl⟩
              go_wp2
              go_round
              case rel => exact ⟨k22 + 1, s22 + x.size, by omega, by omega, by omega, by go_num, by go_num⟩
              case measure => simp [intOf]; omega
            · go_wp2
              go_round
              case rel => exact ⟨k21 + 1, s22, by omega, by rw [hmk1]; exact hm22, by omega, by go_num, rfl⟩
              case measure => simp [intOf]; omega
        · have ek : k21 = vs.length := by omega
          subst ek
          by_cases g5 : 1048576 < (sn.length : Int)
          · go_wp2
            go_ret
            exact ⟨⟨false, rfl, fun h => by cases h⟩, rfl⟩
          by_cases g6 : 1048576 < (s21 : Int) + (sn.length : Int)
          · go_wp2
            go_ret
            exact ⟨⟨false, rfl, fun h => by cases h⟩, rfl⟩
          go_wp2
          go_loop [19, 23] (fun t i => ∃ (k s : Nat), k ≤ sn.length ∧ s ≤ 1048576 ∧ i = .int .i64 k ∧ t = .int .i64 s) (fun _ i => sn.length - (intOf i).toNat)
          case atStart => exact ⟨0, s21 + sn.length, by omega, by omega, rfl, by go_num⟩
          case round =>
            obtain ⟨k23, s23, hk23, hs23, rfl, rfl⟩ := hrel
            by_cases hlt23 : k23 < sn.length
            · obtain ⟨bb, off, rfl, hv⟩ := HS.out (by omega)
              have c3 := hv k23 _ (at_get hlt23)
              clear hv
              generalize sn[k23] = x at c3
              by_cases h4 : 1048576 < (x.size : Int)
              · go_wp2
                go_ret
                exact ⟨⟨false, rfl, fun h => by cases h⟩, rfl⟩
              by_cases h5 : 1048576 < (s23 : Int) + (x.size : Int)
              · go_wp2
                go_ret
                exact ⟨⟨false, rfl, fun h => by cases h⟩, rfl⟩
              go_wp2
              go_round
              case rel => exact ⟨k23 + 1, s23 + x.size, by omega, by omega, by go_num, by go_num⟩
              case measure => simp [intOf]; omega
            · skip
              by_cases g7 : 1048576 < (sv.length : Int)
              · go_wp2
                go_ret
                exact ⟨⟨false, rfl, fun h => by cases h⟩, rfl⟩
              by_cases g8 : 1048576 < (s23 : Int) + (sv.length : Int)
              · go_wp2
                go_ret
                exact ⟨⟨false, rfl, fun h => by cases h⟩, rfl⟩
              go_wp2
              go_loop [19, 24] (fun t i => ∃ (k s : Nat), k ≤ sv.length ∧ s ≤ 1048576 ∧ i = .int .i64 k ∧ t = .int .i64 s) (fun _ i => sv.length - (intOf i).toNat)
              case atStart => exact ⟨0, s23 + sv.length, by omega, by omega, rfl, by go_num⟩
              case round =>
                obtain ⟨k24, s24, hk24, hs24, rfl, rfl⟩ := hrel
                by_cases hlt24 : k24 < sv.length
                · obtain ⟨bb, off, rfl, hv⟩ := HT.out (by omega)
                  have c3 := hv k24 _ (at_get hlt24)
                  clear hv
                  generalize sv[k24] = x at c3
                  by_cases h4 : 1048576 < (x.size : Int)
                  · go_wp2
                    go_ret
                    exact ⟨⟨false, rfl, fun h => by cases h⟩, rfl⟩
                  by_cases h5 : 1048576 < (s24 : Int) + (x.size : Int)
                  · go_wp2
                    go_ret
                    exact ⟨⟨false, rfl, fun h => by cases h⟩, rfl⟩
                  go_wp2
                  go_round
                  case rel => exact ⟨k24 + 1, s24 + x.size, by omega, by omega, by go_num, by go_num⟩
                  case measure => simp [intOf]; omega
                · go_wp2
                  go_ret
                  exact ⟨⟨true, rfl, fun _ => ⟨by omega, by omega⟩⟩, rfl⟩
end Go.Proofs.Qxb6615572aDoor
