import Derived.Test.Qxb6615572aDoorBytes
namespace Go.Proofs.Qxb6615572aDoor
open Go.RowKit

/-- The call answers a bool. -/
def SaysBool (e : Ending) : Prop := ∃ r, e = .returned (.bool r)

/-- What 'zzRoom' hands back. -/
def RoomSaid (e : Ending) : Prop := ∃ (t : Int) (ok : Bool), e = .returned (.tuple #[.int .i64 t, .bool ok]) ∧ 0 ≤ t ∧ t ≤ 1048576

set_option maxHeartbeats 1000000 in
theorem room1 (t n : Int) (w : World) (h0 : 0 ≤ t) (h1 : t ≤ 1048576) (hn : 0 ≤ n) (hn2 : n ≤ 9223372036854775807) :
    Calls Tryd.prog 11 #[.int .i64 t, .int .i64 n, .int .i64 1] w fun e w' => RoomSaid e ∧ w' = w := by
  have hd : (1048576 - t).tdiv 1 = (1048576 - t) / 1 := Int.tdiv_eq_ediv_of_nonneg (by omega)
  by_cases hc : (1048576 - t) / 1 < n
  · go_enter Tryd.func11, Tryd.ntmps11
    go_wp2
    go_ret2
    exact ⟨⟨_, _, rfl, by omega, by omega⟩, rfl⟩
  · go_enter Tryd.func11, Tryd.ntmps11
    go_wp2
    go_ret2
    exact ⟨⟨_, _, rfl, by omega, by omega⟩, rfl⟩

set_option maxHeartbeats 1000000 in
theorem room16 (t n : Int) (w : World) (h0 : 0 ≤ t) (h1 : t ≤ 1048576) (hn : 0 ≤ n) (hn2 : n ≤ 9223372036854775807) :
    Calls Tryd.prog 11 #[.int .i64 t, .int .i64 n, .int .i64 16] w fun e w' => RoomSaid e ∧ w' = w := by
  have hd : (1048576 - t).tdiv 16 = (1048576 - t) / 16 := Int.tdiv_eq_ediv_of_nonneg (by omega)
  by_cases hc : (1048576 - t) / 16 < n
  · go_enter Tryd.func11, Tryd.ntmps11
    go_wp2
    go_ret2
    exact ⟨⟨_, _, rfl, by omega, by omega⟩, rfl⟩
  · go_enter Tryd.func11, Tryd.ntmps11
    go_wp2
    go_ret2
    exact ⟨⟨_, _, rfl, by omega, by omega⟩, rfl⟩

set_option maxHeartbeats 1000000 in
theorem room24 (t n : Int) (w : World) (h0 : 0 ≤ t) (h1 : t ≤ 1048576) (hn : 0 ≤ n) (hn2 : n ≤ 9223372036854775807) :
    Calls Tryd.prog 11 #[.int .i64 t, .int .i64 n, .int .i64 24] w fun e w' => RoomSaid e ∧ w' = w := by
  have hd : (1048576 - t).tdiv 24 = (1048576 - t) / 24 := Int.tdiv_eq_ediv_of_nonneg (by omega)
  by_cases hc : (1048576 - t) / 24 < n
  · go_enter Tryd.func11, Tryd.ntmps11
    go_wp2
    go_ret2
    exact ⟨⟨_, _, rfl, by omega, by omega⟩, rfl⟩
  · go_enter Tryd.func11, Tryd.ntmps11
    go_wp2
    go_ret2
    exact ⟨⟨_, _, rfl, by omega, by omega⟩, rfl⟩

set_option maxRecDepth 100000 in
set_option maxHeartbeats 4000000 in
theorem size_any (a0 a1 a2 : ByteArray) (na va sa ta : Option Addr) (ns : List ByteArray) (vs : List (List ByteArray)) (sn sv : List ByteArray) (nc vc sc tc : Nat) (w : World)
    (hN : StrRow w na ns) (hV : GridAt w va vs) (hS : StrRow w sa sn) (hT : StrRow w ta sv) (hn : ns.length ≤ maxLen) (hv : vs.length ≤ maxLen) (hs : sn.length ≤ maxLen) (ht : sv.length ≤ maxLen) (zv : ∀ xs ∈ vs, xs.length ≤ maxLen ∧ Sized xs)
    (zn : Sized ns) (zs : Sized sn) (zt : Sized sv) (l0 : a0.size ≤ maxLen) (l1 : a1.size ≤ maxLen) (l2 : a2.size ≤ maxLen) :
    Calls Tryd.prog 6 #[.string a0, .string a1, .string a2, .slice na ns.length nc, .slice va vs.length vc, .slice sa sn.length sc, .slice ta sv.length tc] w fun e w' => SaysBool e ∧ w' = w := by
  unfold maxLen at hn hv hs ht l0 l1 l2
  have HN := tuck hN
  have HV := tuck hV
  have HS := tuck hS
  have HT := tuck hT
  have HZ := tuck zv
  have ZHN := tuck zn
  have ZHS := tuck zs
  have ZHT := tuck zt
  clear hN hV hS hT zv zn zs zt
  go_enter Tryd.func6, Tryd.ntmps6
  go_wp2_with fail
  refine (room1 _ a0.size _ (by omega) (by omega) (by omega) (by omega)).mono ?_
  rintro e w1 ⟨⟨t1, ok, rfl, p1, q1⟩, rfl⟩
  cases ok with
  | false =>
    go_wp2
    go_ret
    exact ⟨⟨_, rfl⟩, rfl⟩
  | true =>
  go_wp2_with fail
  refine (room1 _ a1.size _ (by omega) (by omega) (by omega) (by omega)).mono ?_
  rintro e w2 ⟨⟨t2, ok, rfl, p2, q2⟩, rfl⟩
  cases ok with
  | false =>
    go_wp2
    go_ret
    exact ⟨⟨_, rfl⟩, rfl⟩
  | true =>
  go_wp2_with fail
  refine (room1 _ a2.size _ (by omega) (by omega) (by omega) (by omega)).mono ?_
  rintro e w3 ⟨⟨t3, ok, rfl, p3, q3⟩, rfl⟩
  cases ok with
  | false =>
    go_wp2
    go_ret
    exact ⟨⟨_, rfl⟩, rfl⟩
  | true =>
  go_wp2_with fail
  refine (room16 _ ns.length _ (by omega) (by omega) (by omega) (by omega)).mono ?_
  rintro e w4 ⟨⟨t4, ok, rfl, p4, q4⟩, rfl⟩
  cases ok with
  | false =>
    go_wp2
    go_ret
    exact ⟨⟨_, rfl⟩, rfl⟩
  | true =>
  go_wp2
  go_loop [15, 16, 17] (fun t g i => ∃ (k : Nat) (s : Int), k ≤ ns.length ∧ 0 ≤ s ∧ s ≤ 1048576 ∧ i = .int .i64 k ∧ t = .int .i64 s ∧ g = .bool true) (fun _ _ i => ns.length - (intOf i).toNat)
  case atStart => exact ⟨0, _, by omega, by omega, by omega, rfl, rfl, rfl⟩
  case round =>
    obtain ⟨k17, s17, hk17, hs17, hr17, rfl, rfl, rfl⟩ := hrel
    by_cases hlt17 : k17 < ns.length
    · obtain ⟨x, hx⟩ : ∃ x, ns[k17]? = some x := ⟨_, at_get hlt17⟩
      obtain ⟨bb17, off17, rfl, hv⟩ := HN.out (by omega)
      have c17 := hv k17 x hx
      have z17 := ZHN.out x (List.mem_of_getElem? hx)
      clear hv hx
      go_wp2_with fail
      refine (room1 _ x.size _ (by omega) (by omega) (by omega) (by unfold maxLen at z17; omega)).mono ?_
      rintro e w5 ⟨⟨t5, ok, rfl, p5, q5⟩, rfl⟩
      cases ok with
      | false =>
        go_wp2
        go_ret
        exact ⟨⟨_, rfl⟩, rfl⟩
      | true =>
      go_wp2
      go_round
      case rel => exact ⟨k17 + 1, t5, by omega, by omega, by omega, by go_num, rfl, rfl⟩
      case measure => simp [intOf]; omega
    · skip
      go_wp2_with fail
      refine (room24 _ vs.length _ (by omega) (by omega) (by omega) (by omega)).mono ?_
      rintro e w6 ⟨⟨t6, ok, rfl, p6, q6⟩, rfl⟩
      cases ok with
      | false =>
        go_wp2
        go_ret
        exact ⟨⟨_, rfl⟩, rfl⟩
      | true =>
      go_wp2
      go_loop [15, 16, 18] (fun t g i => ∃ (k : Nat) (s : Int), k ≤ vs.length ∧ 0 ≤ s ∧ s ≤ 1048576 ∧ i = .int .i64 k ∧ t = .int .i64 s ∧ g = .bool true) (fun _ _ i => vs.length - (intOf i).toNat)
      case atStart => exact ⟨0, _, by omega, by omega, by omega, rfl, rfl, rfl⟩
      case round =>
        obtain ⟨k18, s18, hk18, hs18, hr18, rfl, rfl, rfl⟩ := hrel
        by_cases hlt18 : k18 < vs.length
        · obtain ⟨xs, hxs⟩ : ∃ xs, vs[k18]? = some xs := ⟨_, at_get hlt18⟩
          obtain ⟨bv, ov, rfl, hv2⟩ := HV.out (by omega)
          obtain ⟨ya, yc, c2, hrow⟩ := hv2 k18 xs hxs
          obtain ⟨hxl, hxz⟩ := HZ.out xs (List.mem_of_getElem? hxs)
          unfold maxLen at hxl
          have HX := tuck hrow
          have ZHX := tuck hxz
          clear hv2 hxs hrow hxz
          go_wp2_with fail
          refine (room16 _ xs.length _ (by omega) (by omega) (by omega) (by omega)).mono ?_
          rintro e w7 ⟨⟨t7, ok, rfl, p7, q7⟩, rfl⟩
          cases ok with
          | false =>
            go_wp2
            go_ret
            exact ⟨⟨_, rfl⟩, rfl⟩
          | true =>
          go_wp2
          go_loop [15, 16, 19] (fun t g i => ∃ (k : Nat) (s : Int), k ≤ xs.length ∧ 0 ≤ s ∧ s ≤ 1048576 ∧ i = .int .i64 k ∧ t = .int .i64 s ∧ g = .bool true) (fun _ _ i => xs.length - (intOf i).toNat)
          case atStart => exact ⟨0, _, by omega, by omega, by omega, rfl, rfl, rfl⟩
          case round =>
            obtain ⟨k19, s19, hk19, hs19, hr19, rfl, rfl, rfl⟩ := hrel
            by_cases hlt19 : k19 < xs.length
            · obtain ⟨x, hx⟩ : ∃ x, xs[k19]? = some x := ⟨_, at_get hlt19⟩
              obtain ⟨bb19, off19, rfl, hv⟩ := HX.out (by omega)
              have c19 := hv k19 x hx
              have z19 := ZHX.out x (List.mem_of_getElem? hx)
              clear hv hx
              go_wp2_with fail
              refine (room1 _ x.size _ (by omega) (by omega) (by omega) (by unfold maxLen at z19; omega)).mono ?_
              rintro e w8 ⟨⟨t8, ok, rfl, p8, q8⟩, rfl⟩
              cases ok with
              | false =>
                go_wp2
                go_ret
                exact ⟨⟨_, rfl⟩, rfl⟩
              | true =>
              go_wp2
              go_round
              case rel => exact ⟨k19 + 1, t8, by omega, by omega, by omega, by go_num, rfl, rfl⟩
              case measure => simp [intOf]; omega
            · go_wp2
              go_round
              case rel => exact ⟨k18 + 1, s19, by omega, by omega, by omega, by go_num, rfl, rfl⟩
              case measure => simp [intOf]; omega
        · skip
          go_wp2_with fail
          refine (room16 _ sn.length _ (by omega) (by omega) (by omega) (by omega)).mono ?_
          rintro e w9 ⟨⟨t9, ok, rfl, p9, q9⟩, rfl⟩
          cases ok with
          | false =>
            go_wp2
            go_ret
            exact ⟨⟨_, rfl⟩, rfl⟩
          | true =>
          go_wp2
          go_loop [15, 16, 20] (fun t g i => ∃ (k : Nat) (s : Int), k ≤ sn.length ∧ 0 ≤ s ∧ s ≤ 1048576 ∧ i = .int .i64 k ∧ t = .int .i64 s ∧ g = .bool true) (fun _ _ i => sn.length - (intOf i).toNat)
          case atStart => exact ⟨0, _, by omega, by omega, by omega, rfl, rfl, rfl⟩
          case round =>
            obtain ⟨k20, s20, hk20, hs20, hr20, rfl, rfl, rfl⟩ := hrel
            by_cases hlt20 : k20 < sn.length
            · obtain ⟨x, hx⟩ : ∃ x, sn[k20]? = some x := ⟨_, at_get hlt20⟩
              obtain ⟨bb20, off20, rfl, hv⟩ := HS.out (by omega)
              have c20 := hv k20 x hx
              have z20 := ZHS.out x (List.mem_of_getElem? hx)
              clear hv hx
              go_wp2_with fail
              refine (room1 _ x.size _ (by omega) (by omega) (by omega) (by unfold maxLen at z20; omega)).mono ?_
              rintro e w10 ⟨⟨t10, ok, rfl, p10, q10⟩, rfl⟩
              cases ok with
              | false =>
                go_wp2
                go_ret
                exact ⟨⟨_, rfl⟩, rfl⟩
              | true =>
              go_wp2
              go_round
              case rel => exact ⟨k20 + 1, t10, by omega, by omega, by omega, by go_num, rfl, rfl⟩
              case measure => simp [intOf]; omega
            · skip
              go_wp2_with fail
              refine (room16 _ sv.length _ (by omega) (by omega) (by omega) (by omega)).mono ?_
              rintro e w11 ⟨⟨t11, ok, rfl, p11, q11⟩, rfl⟩
              cases ok with
              | false =>
                go_wp2
                go_ret
                exact ⟨⟨_, rfl⟩, rfl⟩
              | true =>
              go_wp2
              go_loop [15, 16, 21] (fun t g i => ∃ (k : Nat) (s : Int), k ≤ sv.length ∧ 0 ≤ s ∧ s ≤ 1048576 ∧ i = .int .i64 k ∧ t = .int .i64 s ∧ g = .bool true) (fun _ _ i => sv.length - (intOf i).toNat)
              case atStart => exact ⟨0, _, by omega, by omega, by omega, rfl, rfl, rfl⟩
              case round =>
                obtain ⟨k21, s21, hk21, hs21, hr21, rfl, rfl, rfl⟩ := hrel
                by_cases hlt21 : k21 < sv.length
                · obtain ⟨x, hx⟩ : ∃ x, sv[k21]? = some x := ⟨_, at_get hlt21⟩
                  obtain ⟨bb21, off21, rfl, hv⟩ := HT.out (by omega)
                  have c21 := hv k21 x hx
                  have z21 := ZHT.out x (List.mem_of_getElem? hx)
                  clear hv hx
                  go_wp2_with fail
                  refine (room1 _ x.size _ (by omega) (by omega) (by omega) (by unfold maxLen at z21; omega)).mono ?_
                  rintro e w12 ⟨⟨t12, ok, rfl, p12, q12⟩, rfl⟩
                  cases ok with
                  | false =>
                    go_wp2
                    go_ret
                    exact ⟨⟨_, rfl⟩, rfl⟩
                  | true =>
                  go_wp2
                  go_round
                  case rel => exact ⟨k21 + 1, t12, by omega, by omega, by omega, by go_num, rfl, rfl⟩
                  case measure => simp [intOf]; omega
                · go_wp2
                  go_ret
                  exact ⟨⟨_, rfl⟩, rfl⟩
end Go.Proofs.Qxb6615572aDoor
