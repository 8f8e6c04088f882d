import Derived.Test.Qxb6615572aDoorGroup
namespace Go.Proofs.Qxb6615572aDoor
open Go.RowKit Go.Maps Go.WideMaps

/-- The step of a range over the map. -/
theorem next_grp (w : World) {ops : Array Oper} {rest : List Oper} {o : Oper} {a : Act} {Q : Exit → Act → World → Prop} (hg : o.guard = none) (it : Operand) (hop : o.op = Op.next it false)
    (b r n : Nat) (D : DataW Value) (left : Lit → Bool) (cnt : Nat) (hit : a.eval it = .pointer (some ⟨r, 0, none⟩)) (h : w.ranges Tryd.prog 9 RV b r n D left cnt)
    (hDone : Hid (∀ kl, left kl = false) → wpList Tryd.prog ops Q rest (a.put o.dst (.tuple #[.bool false])) w)
    (hMore : ∀ (s : ByteArray) (p : Option Addr) (m c : Nat) (w' : World) (cnt' : Nat), Hid (s.size ≤ maxLen ∧ left (lit s) = true ∧ (∀ zd, D.atKey (lit s) zd = .held (.slice p m c)) ∧ w'.ranges Tryd.prog 9 RV b r n D (fun z => left z && !z.sameKey (lit s)) cnt' ∧ cnt' < cnt ∧ w.grownBy w' (some r)) →
      (Instr.entry (.pointer (some ⟨r, 0, none⟩))).run Tryd.prog w' = .ok (.tuple #[.string s, .slice p m c]) w' → wpList Tryd.prog ops Q rest (a.put o.dst (.tuple #[.bool true, .string s, .slice p m c])) w') :
    wpList Tryd.prog ops Q (o :: rest) a w := by
  refine wpList_next_ranges w hg it hop 9 keyed9 RV (fun s : ByteArray => .string s) (fun c : Option Addr × Nat × Nat => .slice c.1 c.2.1 c.2.2)
    (fun key kl hk => by obtain ⟨s, rfl, _⟩ := string_of_keyOf Tryd.underlying9 hk; exact ⟨s, rfl⟩) (fun v y hv => by obtain ⟨c, rfl, _⟩ := RV_inv hv; exact ⟨c, rfl⟩)
    b r n D left cnt hit h (fun _ h0 => hDone h0) (fun x c kl y w' cnt' hkey hlk hv hat hrg hlt hgr hsz hen => ?_)
  obtain ⟨s, es, rfl, hss⟩ := string_of_keyOf Tryd.underlying9 hkey
  obtain rfl : x = s := by simpa using es
  obtain ⟨p, m, c⟩ := c
  obtain ⟨_, _, rfl⟩ := RV_inv hv
  exact hMore x p m c w' cnt' ⟨hss, hlk, hat, hrg, hlt, hgr⟩ hen

/-- A header entry that Go's transport would send. -/
def Good (L : ByteArray → List ByteArray) (s : ByteArray) : Prop := tokS s = true ∧ ∀ v ∈ L s, ctlS v = false

/-- Is the answer true just where P holds? -/
def SaysIff (P : Prop) (e : Ending) : Prop := ∃ r : Bool, e = .returned (.bool r) ∧ (r = true ↔ P)

theorem own_row {w : World} {B : Nat} {v : Value} {L : List ByteArray} {n : Nat} {a : Option Addr} {c : Nat} (h : w.ownsRow B 9 1 v L.length (L.map .string)) (hv : v = .slice a n c) : n = L.length ∧ StrRow w a L := by
  have hc := @World.ownsRow.cells _ _ _ _ _ _ _ h
  obtain ⟨_, ⟨rfl, h0⟩ | ⟨g, cap, cur, rfl, _⟩⟩ := h
  · cases hv
    exact ⟨h0.symm, fun hp => by omega⟩
  · cases hv
    refine ⟨rfl, fun _ => ⟨g, 0, rfl, fun j x hx => ?_⟩⟩
    have := hc (g := g) rfl j (.string x) (by simp [hx])
    rwa [add_at] at this

set_option maxRecDepth 100000 in
set_option maxHeartbeats 1000000 in
theorem formed_any {w : World} {b base : Nat} {ns : List ByteArray} {vs : List (List ByteArray)} {k : Nat} {V : ByteArray → Value} {L : ByteArray → List ByteArray} {D : DataW Value}
    (h : Grp w b base ns vs k V L D) (hsz : ∀ s v, v ∈ L s → v.size ≤ maxLen) (hlen : total vs k ≤ 1048576) :
    Calls Tryd.prog 17 #[.map (some b)] w fun e w' => SaysIff (∀ s, Maps.has D (lit s) = true → Good L s) e ∧ Below w.heap.size w w' := by
  have HG := tuck h
  have HS := tuck hsz
  clear h hsz
  go_enter Tryd.func17, Tryd.ntmps17
  go_wp2_with (at_range; refine wpList_range_own _ rfl _ 65 rfl 9 22 keyed9 Tryd.underlying65 _ b k D rfl HG.out.own ?_; intro w0 hrg0 hg0 hs0)
  have HR0 := tuck hrg0
  have HB0 : Hid (Below w.heap.size w w0) := tuck ((Below.refl _ _).grown hg0 (Nat.le_refl _) (fun j hj => by cases hj))
  clear hrg0 hg0 hs0
  go_frame
  go_loopw [3, 4] (fun _ _ wr => ∃ left cnt, Hid (wr.ranges Tryd.prog 9 RV b w.heap.size k D left cnt) ∧ Hid (∀ s, Maps.has D (lit s) = true → left (lit s) = false → Good L s) ∧ Hid (Below w.heap.size w wr)) (fun _ _ wr => wr.rangeLeft b w.heap.size)
  case atStart => exact ⟨_, _, HR0, tuck (fun s h1 h2 => by rw [h1] at h2; cases h2), HB0⟩
  case round =>
    obtain ⟨left, cnt, HR, HA, HB⟩ := hrel
    go_wp2_with (at_next; refine next_grp _ rfl _ rfl b w.heap.size k D left cnt rfl HR.out ?_ ?_)
    · intro HL
      go_wp2
      go_ret
      exact ⟨⟨true, rfl, fun _ s hs => HA.out s hs (HL.out _), fun _ => rfl⟩, HB.out⟩
    · intro s p m c w1 cnt1 HN hen
      have HB1 : Hid (Below w.heap.size w w1) := tuck (HB.out.grown HN.out.2.2.2.2.2 HB.out.size (fun j hj => by cases hj; exact Nat.le_refl _))
      have HHas : Hid (Maps.has D (lit s) = true) := has_true_of_atKey HN.out.2.2.1
      have HV : Hid (V s = .slice p m c) := by
        have h1 := HG.out.val s
        rw [HN.out.2.2.1] at h1
        exact (DataW.held.inj h1).symm
      obtain ⟨hm, hrow⟩ := own_row (HG.out.row s) HV.out
      subst hm
      have HRow := tuck (hrow.kept (Nat.le_refl _) HB1.out)
      clear hrow
      have hls : (L s).length ≤ 1048576 := Nat.le_trans (HG.out.len s) hlen
      have H1 := tuck (token_any s w1 HN.out.1)
      cases q1 : tokS s with
      | false =>
        rw [q1] at H1
        go_wp2_with (go_at_call 18; refine H1.out.mono ?_; rintro e w2 ⟨rfl, rfl⟩)
        go_ret
        exact ⟨⟨false, rfl, fun h => (by cases h), fun h => by have := (h s HHas.out).1; rw [q1] at this; cases this⟩, HB1.out⟩
      | true =>
        rw [q1] at H1
        go_wp2_with (go_at_call 18; refine H1.out.mono ?_; rintro e w2 ⟨rfl, rfl⟩)
        go_loop [6, 19] (fun _ i => ∃ j : Nat, j ≤ (L s).length ∧ i = .int .i64 j ∧ Hid (∀ q v, q < j → (L s)[q]? = some v → ctlS v = false)) (fun _ i => (L s).length - (intOf i).toNat)
        case atStart => exact ⟨0, by omega, rfl, tuck (fun q v hq => by omega)⟩
        case round =>
          obtain ⟨j, hj, rfl, HC⟩ := hrel
          by_cases hlt : j < (L s).length
          · obtain ⟨x, hx⟩ : ∃ x, (L s)[j]? = some x := ⟨_, at_get hlt⟩
            obtain ⟨b1, o1, rfl, hv1⟩ := HRow.out (by omega)
            have c1 := hv1 j x hx
            have HX := tuck hx
            clear hv1 hx
            have H2 := tuck (control_any x w2 (HS.out s x (List.mem_of_getElem? HX.out)))
            cases q2 : ctlS x with
            | true =>
              rw [q2] at H2
              go_wp2_with (go_at_call 19; refine H2.out.mono ?_; rintro e w3 ⟨rfl, rfl⟩)
              go_ret
              exact ⟨⟨false, rfl, fun h => (by cases h), fun h => by have := (h s HHas.out).2 x (List.mem_of_getElem? HX.out); rw [q2] at this; cases this⟩, HB1.out⟩
            | false =>
              rw [q2] at H2
              go_wp2_with (go_at_call 19; refine H2.out.mono ?_; rintro e w3 ⟨rfl, rfl⟩)
              go_round
              case rel =>
                refine ⟨j + 1, by omega, by go_num, tuck (fun q v hq hv => ?_)⟩
                by_cases e : q = j
                · subst e; rw [HX.out] at hv; cases hv; exact q2
                · exact HC.out q v (by omega) hv
              case measure => simp [intOf]; omega
          · have HGood : Hid (Good L s) := tuck ⟨q1, fun v hv => by
              obtain ⟨q, hq⟩ := List.getElem?_of_mem hv
              exact HC.out q v (by have := (List.getElem?_eq_some_iff.1 hq).1; omega) hq⟩
            go_wp2
            go_roundw
            case rel =>
              refine ⟨_, _, tuck HN.out.2.2.2.1, tuck (fun t ht hl => ?_), HB1⟩
              cases q3 : left (lit t) with
              | false => exact HA.out t ht q3
              | true =>
                rw [q3] at hl
                have h4 : (lit t).sameKey (lit s) = true := by simpa using hl
                have h5 := WideAt.sameKey_eq h4
                have h6 : t = s := Classical.byContradiction fun q => lit_ne q h5
                subst h6
                exact HGood.out
            case measure => rw [HN.out.2.2.2.1.left_eq, HR.out.left_eq]; exact HN.out.2.2.2.2.1
end Go.Proofs.Qxb6615572aDoor
