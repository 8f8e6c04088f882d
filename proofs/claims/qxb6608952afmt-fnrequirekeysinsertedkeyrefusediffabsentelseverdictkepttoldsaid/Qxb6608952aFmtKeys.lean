import Derived.Test.Qxb6608952aFmtErr
import Derived.Test.Qxb6608952aFmtBudget
import Derived.Lib.Walk
namespace Go.Proofs.Qxb6608952aFmt
open Go.RowKit Go.Extern.Stop Go.Stop Go.Extern

set_option maxHeartbeats 400000 in
/-- The closure that asks whether a key is present. -/
theorem has_any (key : ByteArray) (box : Addr) (a : Option Addr) (ps : List ByteArray) (c : Nat) (w : World) (hbox : w.cell? box = some (.slice a ps.length c)) (hP : StrRow w a ps) (hn : ps.length ≤ maxLen) :
    Calls Tryf.prog 11 #[.string key, .pointer (some box)] w fun e w' => e = .returned (.bool (Lib.containsS ps key)) ∧ w' = w := by
  have HK : Hid (Calls Tryf.prog 12 #[.slice a ps.length c, .string key] w fun e w' => e = .returned (.bool (Lib.containsS ps key)) ∧ w' = w) := by
    refine tuck ?_
    by_cases h0 : 0 < ps.length
    · obtain ⟨b, off, rfl, hv⟩ := hP h0
      have h := Tryf.slices_Contains_string b off ps.length c ps key w (Nat.le_refl _) (by unfold maxLen at hn; omega) (fun j hj => by
        have := hv j _ (at_get hj)
        rw [this]; simp [List.getD, at_get hj])
      rw [List.take_length] at h
      exact h
    · have e : ps = [] := by cases ps with
        | nil => rfl
        | cons x r => simp at h0
      subst e
      have e0 : Lib.containsS [] key = false := Bool.eq_false_iff.2 fun hm => by cases (Lib.containsS_iff _ _).1 hm
      rw [e0]
      exact Tryf.slices_Contains_string_empty a c key w
  clear hP
  go_enter Tryf.func11, Tryf.ntmps11
  go_wp2_with fail
  refine HK.out.mono ?_
  rintro e w1 ⟨rfl, rfl⟩
  go_wp2
  go_ret
  exact ⟨rfl, rfl⟩

theorem info9 : (Tryf.prog.info? 9).map (fun i => (i.zero, i.size, i.bytes)) = some (some (.string ⟨#[]⟩), 1, 16) := by kernel_rfl

/-- The keys that are wanted and not there. -/
def lacking (ps rs : List ByteArray) : List ByteArray := rs.filter fun x => !Lib.containsS ps x

theorem lacking_succ (ps rs : List ByteArray) (k : Nat) (x : ByteArray) (h : rs[k]? = some x) : lacking ps (rs.take (k + 1)) = lacking ps (rs.take k) ++ (if Lib.containsS ps x then [] else [x]) := by
  unfold lacking
  rw [List.take_add_one, h]
  cases hc : Lib.containsS ps x <;> simp [hc]

/-- What RequireKeys answers: nil if nothing lacks, else an error. -/
def KeysSaid (lack : List ByteArray) (e : Ending) : Prop := if lack = [] then e = .returned .nilIface else ∃ b, e = .returned (.iface 49 (.pointer (some ⟨b, 0, none⟩)))

theorem own_form {w : World} {B : Nat} {v : Value} {L : List ByteArray} {n : Nat} (h : w.ownsRow B 9 1 v n (L.map .string)) :
    ∃ a c, v = .slice a n c ∧ n ≤ c ∧ (0 < n → ∃ g, a = some ⟨g, 0, none⟩ ∧ B ≤ g ∧ g < w.heap.size ∧ ∀ j x, L[j]? = some x → w.cell? ⟨g, 0 + j, none⟩ = some (.string x)) := by
  have hc := @World.ownsRow.cells _ _ _ _ _ _ _ h
  have hl := h.lt
  obtain ⟨_, h1 | ⟨g, cap, cur, rfl, hg, _, hcap, _⟩⟩ := h
  · obtain ⟨rfl, h0⟩ := h1
    exact ⟨none, 0, by rw [h0], by omega, fun hp => by omega⟩
  · refine ⟨_, cap, rfl, hcap, fun _ => ⟨g, rfl, hg, (hl g rfl).2, fun j x hx => ?_⟩⟩
    have := hc (g := g) rfl j (.string x) (by simp [hx])
    rw [Nat.zero_add]
    by_cases e : j = 0
    · subst e; exact this
    · simpa [Addr.add, e] using this

theorem new_cell (w : World) (v : Value) : (w.alloc (.cells #[v] 20)).drew.cell? ⟨w.heap.size, 0, none⟩ = some v := by
  show (w.alloc (.cells #[v] 20)).cell? _ = _
  rw [World.cell?_alloc_at _ _ _ _ (by simp)]
  rfl

theorem hend_cell (w : World) (v : Value) : (w.alloc (.cells #[v] 20)).cell? ⟨w.heap.size, 0, none⟩ = some v := new_cell w v

theorem cost_filter (p : ByteArray → Bool) (rs : List ByteArray) : cost (rs.filter p) ≤ cost rs := by
  unfold cost
  induction rs with
  | nil => simp
  | cons x r ih =>
    cases h : p x <;> simp [h] <;> omega

theorem join_len (L : List ByteArray) : (Lib.join (L.map (·.data.toList)) [44, 32]).length ≤ cost L := by
  cases L with
  | nil => simp [Lib.join]
  | cons x r =>
    rw [List.map_cons, Lib.join_length]
    have gen : ∀ l : List ByteArray, 2 * l.length + Lib.lens (l.map (·.data.toList)) ≤ cost l := by
      intro l
      induction l with
      | nil => simp [Lib.lens, cost]
      | cons y l ih =>
        have e : y.data.toList.length = y.size := Array.length_toList
        simp only [Lib.lens, cost, List.map_cons, List.sum_cons, List.length_cons] at ih ⊢
        omega
    have h := gen (x :: r)
    simp only [List.map_cons, List.length_cons, List.length_map, List.length_nil] at h ⊢
    omega

set_option maxRecDepth 100000 in
set_option maxHeartbeats 1000000 in
theorem keys_any (F : Interp) (path name : ByteArray) (line : Int) (ra : Option Addr) (rs : List ByteArray) (rc : Nat) (box : Addr) (a : Option Addr) (ps : List ByteArray) (c : Nat) (w : World) (hF : F.answers w.tape)
    (hR : StrRow w ra rs) (hrn : rs.length ≤ 1048576) (hbox : w.cell? box = some (.slice a ps.length c)) (hP : StrRow w a ps) (hn : ps.length ≤ maxLen) (hcost : cost rs ≤ 1099511627776)
    (hT : (FmtStop.textOf (F "fmt.Sprintf" (placeReading path.data.toList line) 0)).size ≤ 1099511627776) (hnm : name.size ≤ 1099511627776) :
    Calls Tryf.prog 10 #[.agg #[.string path, .int .i64 line, .string name], .slice ra rs.length rc, .func (.func 11) #[] #[.pointer (some box)]] w fun e w' => KeysSaid (lacking ps rs) e ∧ Below w.heap.size w w' := by
  obtain ⟨i0, hi, hz0, hz1, hz2⟩ := info_parts info9
  have hbl : box.block < w.heap.size := World.block_lt_of_cell? _ _ hbox
  have HR := tuck hR
  have HP := tuck hP
  have HH := tuck (fun (key : ByteArray) (wr : World) (hb : Below w.heap.size w wr) => has_any key box a ps c wr (by rw [hb.cell (by exact hbl)]; exact hbox) (hP.kept (Nat.le_refl _) hb) hn)
  clear hR hP hbox hn
  go_enter Tryf.func10, Tryf.ntmps10
  go_wp2
  go_loopw [7, 9, 12] (fun vm _ vi wr => ∃ k : Nat, k ≤ rs.length ∧ vi = .int .i64 k ∧ Hid (wr.ownsRow (w.heap.size + 1) 9 1 vm (lacking ps (rs.take k)).length ((lacking ps (rs.take k)).map .string)) ∧ Hid (Below (w.heap.size + 1) (w.alloc (.cells #[.string path, .int .i64 line, .string name] 29)) wr))
    (fun _ _ vi _ => rs.length - (intOf vi).toNat)
  case atStart => exact ⟨0, by omega, rfl, tuck (World.ownsRow_nil _ _ _ _), tuck (Below.refl _ _)⟩
  case round =>
    obtain ⟨k, hk, rfl, HO, HB⟩ := hrel
    have hB1 : Below w.heap.size w wr := ((Below.refl _ _).alloc (Nat.le_refl _) _).trans (HB.out.mono (Nat.le_succ _))
    by_cases hlt : k < rs.length
    · obtain ⟨x, hx⟩ : ∃ x, rs[k]? = some x := ⟨_, at_get hlt⟩
      obtain ⟨b, off, rfl, hv⟩ := (HR.out.kept (Nat.le_refl _) hB1) (by omega)
      have c3 := hv k x hx
      clear hv
      have hls := lacking_succ ps rs k x hx
      have HX := tuck hx
      clear hx
      have HC := tuck (HH.out x wr hB1)
      have HB1 := tuck hB1
      clear hB1
      cases hc : Lib.containsS ps x with
      | true =>
        rw [hc] at HC hls
        go_wp2_with (go_at_call 11; refine HC.out.mono ?_; rintro e w1 ⟨rfl, rfl⟩)
        go_wp2
        go_roundw
        case rel => exact ⟨k + 1, by omega, by go_num, by rw [hls]; simpa using HO, HB⟩
        case measure => simp [intOf]; omega
      | false =>
        rw [hc] at HC hls
        have hlen : (lacking ps (rs.take k)).length ≤ 1048576 := by
          have := List.length_filter_le (fun x => !Lib.containsS ps x) (rs.take k)
          have h2 : (rs.take k).length ≤ rs.length := by rw [List.length_take]; omega
          unfold lacking; omega
        go_wp2_with (go_at_call 11; refine HC.out.mono ?_; rintro e w1 ⟨rfl, rfl⟩; clear HC; go_wp2_with (at_builtin; refine wpList_append_own _ rfl _ _ 22 rfl (w.heap.size + 1) 9 i0 (.string ⟨#[]⟩) 1 16 Tryf.underlying22 hi hz0 hz1 hz2 rfl (by decide) _ _ _ rfl (HO.out.alloc _) ⟨w1.heap.size, 0, none⟩ 1 1 [.string x] rfl rfl ?c1 ?c2 ?c3 ?c4 ?c5 ?_))
        case c1 =>
          intro j u hj
          match j, hj with
          | 0, hj => simp at hj; subst hj; simp [Addr.add]
        case c2 => intro u hu; simp at hu; subst hu; rfl
        case c3 => unfold maxLen; omega
        case c4 => omega
        case c5 => have := HB.out.size; simp at this ⊢; omega
        intro v' w2 hown' hgrow _
        have HB2 : Hid (Below (w.heap.size + 1) (w.alloc (.cells #[.string path, .int .i64 line, .string name] 29)) w2) :=
          tuck ((HB.out.alloc (by have := HB.out.size; simp at this; omega) _).grown hgrow (by have := HB.out.size; simp at this ⊢; omega) (fun k hk => (HO.out.lt k hk).1))
        have HO2 := tuck hown'
        clear hown' hgrow
        go_wp2
        go_roundw
        case rel => exact ⟨k + 1, by omega, by go_num, by rw [hls]; simpa using HO2, HB2⟩
        case measure => simp [intOf]; omega
    · have ek : k = rs.length := by omega
      subst ek
      rw [List.take_length] at HO
      have hFr : F.answers wr.tape := by rw [hB1.tape]; exact hF
      have hp0 : wr.cell? ⟨w.heap.size, 0, none⟩ = some (.string path) := by rw [HB.out.cell (by exact Nat.lt_succ_self _)]; simp
      have hp1 : wr.cell? ⟨w.heap.size, 1, none⟩ = some (.int .i64 line) := by rw [HB.out.cell (by exact Nat.lt_succ_self _)]; simp
      have hp2 : wr.cell? ⟨w.heap.size, 2, none⟩ = some (.string name) := by rw [HB.out.cell (by exact Nat.lt_succ_self _)]; simp
      have HB1 := tuck hB1
      have hws : w.heap.size < wr.heap.size := by have := HB.out.size; simp at this; omega
      clear hB1 hlt hk
      have hcase : lacking ps rs = [] ∨ (∃ x, lacking ps rs = [x]) ∨ ∃ n, (lacking ps rs).length = n ∧ 2 ≤ n := by
        match lacking ps rs with
        | [] => exact .inl rfl
        | [x] => exact .inr (.inl ⟨x, rfl⟩)
        | x :: y :: r => exact .inr (.inr ⟨_, rfl, by simp⟩)
      rcases hcase with hL | ⟨x, hL⟩ | ⟨n, hL, h2⟩
      · have HO2 : Hid (wr.ownsRow (w.heap.size + 1) 9 1 u7 0 (([] : List ByteArray).map .string)) := by rw [hL] at HO; exact HO
        clear HO
        obtain ⟨a', c', rfl, hc', hcells⟩ := own_form HO2.out
        clear HO2 hcells
        go_wp2
        go_ret
        exact ⟨by rw [hL]; simp [KeysSaid], HB1.out⟩
      · have HO2 : Hid (wr.ownsRow (w.heap.size + 1) 9 1 u7 1 ([x].map .string)) := by rw [hL] at HO; exact HO
        clear HO
        obtain ⟨a', c', rfl, hc', hcells⟩ := own_form HO2.out
        obtain ⟨g, rfl, hg, hgl, hcell⟩ := hcells (by decide)
        have hx := hcell 0 x rfl
        clear HO2 hcells hcell HH HP HR
        have HK := tuck (fun (blk : Nat) (w1 : World) (h1 : F.answers w1.tape) (h2 : w1.cell? ⟨blk, 0, none⟩ = some (.iface 9 (.string x))) => place_any F path name _ line x blk w1 h1 h2 hT hnm (fun blk w h1 h2 => errorf_key F x blk w h1 h2))
        have HC := tuck (new_cell wr)
        clear hT hnm
        go_wp2
        go_region_law (first | (go_simp; go_at_call 13; refine (HK.out _ _ (by exact hFr) (HC.out _)).mono ?_; rintro e w2 ⟨b, rfl, hb2⟩))
        all_goals
          go_wp2
          go_ret
          exact ⟨by rw [hL]; exact ⟨b, rfl⟩, HB1.out.trans ((((Below.refl _ _).alloc HB1.out.size _).drew).trans (hb2.mono (by have := HB1.out.size; show _ ≤ (wr.alloc _).heap.size; simp; omega)))⟩
      · have HO2 : Hid (wr.ownsRow (w.heap.size + 1) 9 1 u7 n ((lacking ps rs).map .string)) := by rw [hL] at HO; exact HO
        clear HO
        obtain ⟨a', c', rfl, hc', hcells⟩ := own_form HO2.out
        obtain ⟨g, rfl, hg, hgl, hcell⟩ := hcells (by omega)
        clear HO2 hcells HH HP HR
        have HJ : Hid (Calls Tryf.prog 14 #[.slice (some ⟨g, 0, none⟩) n c', .string ⟨#[44, 32]⟩] wr.drew fun e w' => e = .returned (.string ⟨(Lib.join ((lacking ps rs).map (·.data.toList)) [44, 32]).toArray⟩) ∧ Below wr.drew.heap.size wr.drew w') := by
          have h3 := join_len (lacking ps rs)
          have h4 : cost (lacking ps rs) ≤ cost rs := cost_filter _ rs
          have h5 : (lacking ps rs).length ≤ rs.length := List.length_filter_le _ _
          have h := Tryf.strings_Join g 0 c' (lacking ps rs) ⟨#[44, 32]⟩ wr.drew (fun j x hx => hcell j x hx) (by exact hgl) (by omega) (by omega) (by show (Lib.join ((lacking ps rs).map (·.data.toList)) [44, 32]).length ≤ _; omega)
          rw [hL] at h
          exact h
        generalize (⟨(Lib.join ((lacking ps rs).map (·.data.toList)) [44, 32]).toArray⟩ : ByteArray) = J at HJ
        have HK := tuck (fun (blk : Nat) (w1 : World) (h1 : F.answers w1.tape) (h2 : w1.cell? ⟨blk, 0, none⟩ = some (.iface 9 (.string J))) => place_any F path name _ line J blk w1 h1 h2 hT hnm (fun blk w h1 h2 => errorf_keys F J blk w h1 h2))
        have HC := tuck hend_cell
        have hn0 : ¬ ((n : Int) = 0) := by omega
        have hn1 : ¬ ((n : Int) = 1) := by omega
        have hne : lacking ps rs ≠ [] := by intro e; rw [e] at hL; simp at hL; omega
        clear hT hnm hcell
        go_wp2
        go_region_law (first
          | (go_simp; go_at_call 14; refine HJ.out.mono ?_; rintro e w1 ⟨rfl, hb1⟩; have hq0 : w1.cell? ⟨w.heap.size, 0, none⟩ = some (.string path) := (hb1.cell (by exact hws)).trans hp0; have hq1 : w1.cell? ⟨w.heap.size, 1, none⟩ = some (.int .i64 line) := (hb1.cell (by exact hws)).trans hp1; have hq2 : w1.cell? ⟨w.heap.size, 2, none⟩ = some (.string name) := (hb1.cell (by exact hws)).trans hp2; have hFw : F.answers w1.tape := (by rw [hb1.tape]; exact hFr); have hws1 : w.heap.size < w1.heap.size := Nat.lt_of_lt_of_le hws hb1.size; have HB3 := tuck hb1; clear hb1)
          | (go_simp; go_at_call 13; refine (HK.out _ _ (by exact hFw) (HC.out _ _)).mono ?_; rintro e w2 ⟨b, rfl, hb2⟩))
        all_goals
          go_wp2
          go_ret
          exact ⟨by unfold KeysSaid; rw [if_neg hne]; exact ⟨b, rfl⟩, HB1.out.trans (((Below.refl _ _).drew).trans ((HB3.out.mono HB1.out.size).trans (((Below.refl _ _).alloc (Nat.le_of_lt hws1) _).trans (hb2.mono (by simp; omega)))))⟩
end Go.Proofs.Qxb6608952aFmt
