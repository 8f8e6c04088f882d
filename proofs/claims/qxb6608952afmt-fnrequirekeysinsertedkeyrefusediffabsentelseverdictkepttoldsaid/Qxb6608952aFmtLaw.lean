import Derived.Test.Qxb6608952aFmtPresent
import Derived.Deep.OwnRows
namespace Go.Proofs.Qxb6608952aFmt
open Go.RowKit Go.Extern.Stop Go.Stop Go.Extern

theorem add_at (b off j : Nat) : (⟨b, off, none⟩ : Addr).add j = ⟨b, off + j, none⟩ := by
  by_cases e : j = 0
  · subst e; rfl
  · simp [Addr.add, e]

/-- A slice of strings that came in: nil, or its cells hold xs. -/
def SliceIn (w : World) (a : Option Addr) (xs : List ByteArray) (c : Nat) : Prop :=
  (a = none ∧ xs = [] ∧ c = 0) ∨ ∃ y, a = some y ∧ ∀ j x, xs[j]? = some x → w.cell? (y.add j) = some (.string x)

theorem SliceIn.row {w : World} {a : Option Addr} {xs : List ByteArray} {c : Nat} (h : SliceIn w a xs c) : StrRow w a xs := by
  obtain ⟨rfl, rfl, rfl⟩ | ⟨y, rfl, hv⟩ := h
  · intro h; simp at h
  · intro h0
    obtain ⟨b, off, spot⟩ := y
    have hspot : spot = none := by simpa [Addr.add] using World.cell?_spot (hv 0 _ (at_get h0))
    subst hspot
    exact ⟨b, off, rfl, fun j x hx => by have := hv j x hx; rwa [add_at] at this⟩

theorem info9s : (Tryf.prog.info? 9).map (·.size) = some 1 := by kernel_rfl

theorem splice_whole {α : Type} (L cs : List α) (h : L.length = cs.length) : splice L 0 cs = cs := by
  simp [splice, h, List.drop_eq_nil_of_le]

theorem made_len (z : Value) (n : Nat) : (madeCells #[z] n).toList.length = n := by rw [Array.length_toList, size_madeCells]

/-- A row of the call's own, read as a row of strings. -/
theorem row_of_own {w : World} {B : Nat} {v : Value} {L : List ByteArray} {n : Nat} (h : w.ownsRow B 9 1 v n (L.map .string)) : ∃ a c, v = .slice a n c ∧ StrRow w a L := by
  have hl : L.length = n := by have := h.1; simpa using this
  obtain ⟨a, c, rfl, _, hc⟩ := own_form h
  refine ⟨a, c, rfl, fun h0 => ?_⟩
  obtain ⟨g, rfl, _, _, hv⟩ := hc (by omega)
  exact ⟨g, 0, rfl, hv⟩

theorem strs_one (xs : List ByteArray) : ∀ v ∈ xs.map Value.string, v.oneCell' = true := by
  intro v hv
  obtain ⟨x, _, rfl⟩ := List.mem_map.1 hv
  rfl

theorem cost_len (xs : List ByteArray) : 16 * xs.length ≤ cost xs := by
  unfold cost
  induction xs with
  | nil => simp
  | cons x r ih => simp only [List.map_cons, List.sum_cons, List.length_cons]; omega

theorem cost_append (xs ys : List ByteArray) : cost (xs ++ ys) = cost xs + cost ys := by simp [cost]

/-- The list with the key laid in at m, as far as the k-th of its old elements. -/
def grown (rs : List ByteArray) (key : ByteArray) (m k : Nat) : List ByteArray := rs.take m ++ [key] ++ (rs.take k).drop m

theorem grown_succ (rs : List ByteArray) (key x : ByteArray) (m k : Nat) (hm : m ≤ k) (h : rs[k]? = some x) : grown rs key m (k + 1) = grown rs key m k ++ [x] := by
  have hk : k < rs.length := (List.getElem?_eq_some_iff.1 h).1
  unfold grown
  rw [List.take_add_one, h]
  simp only [Option.toList]
  rw [List.drop_append_of_le_length (by rw [List.length_take]; omega)]
  simp

theorem grown_length (rs : List ByteArray) (key : ByteArray) (m k : Nat) (hm : m ≤ k) (hk : k ≤ rs.length) : (grown rs key m k).length = k + 1 := by
  simp [grown]; omega

theorem grown_cost (rs : List ByteArray) (key : ByteArray) (m : Nat) : cost (grown rs key m rs.length) = cost rs + (16 + key.size) := by
  have h : cost rs = cost (rs.take m) + cost (rs.drop m) := by rw [← cost_append, List.take_append_drop]
  unfold grown
  rw [cost_append, cost_append, List.take_length, h]
  simp [cost]; omega

theorem lacking_grown (ps rs : List ByteArray) (key : ByteArray) (m : Nat) : (lacking ps (grown rs key m rs.length)).isEmpty = ((lacking ps rs).isEmpty && Lib.containsS ps key) := by
  have h : lacking ps rs = lacking ps (rs.take m) ++ lacking ps (rs.drop m) := by unfold lacking; rw [← List.filter_append, List.take_append_drop]
  rw [h]
  unfold grown lacking
  rw [List.filter_append, List.filter_append, List.take_length]
  cases hc : Lib.containsS ps key <;> simp [hc]

/-- A copy of the strings, where a copy was made. -/
theorem row_of_block {w : World} {g : Nat} {xs : List ByteArray} {t : TypeId} (h : w.heap[g]? = some (.cells (xs.map Value.string).toArray t (0, 0))) : StrRow w (some ⟨g, 0, none⟩) xs := by
  refine fun _ => ⟨g, 0, rfl, fun j x hx => ?_⟩
  simp [World.cell?, h, hx]

set_option maxRecDepth 100000 in
set_option maxHeartbeats 2000000 in
theorem law_any (F : Interp) (p1 p2 n1 n2 key : ByteArray) (l1 l2 at' : Int) (ra pa : Option Addr) (rs ps : List ByteArray) (rc pc : Nat) (w : World) (hF : F.answers w.tape)
    (hR : SliceIn w ra rs rc) (hP : SliceIn w pa ps pc) (hrn : rs.length ≤ maxLen) (hpn : ps.length ≤ maxLen)
    (hTT : ∀ (p : ByteArray) (l : Int), p.size ≤ 1048576 → (l = l1 ∨ l = l2) → (FmtStop.textOf (F "fmt.Sprintf" (placeReading p.data.toList l) 0)).size ≤ 1099511627776) :
    Calls Tryf.prog 3 #[.string p1, .int .i64 l1, .string n1, .string p2, .int .i64 l2, .string n2, .slice ra rs.length rc, .slice pa ps.length pc, .string key, .int .i64 at'] w fun e w' =>
      e = .returned (.bool true) ∧ Below w.heap.size w w' := by
  have HR := tuck hR
  have HP := tuck hP
  have HT := tuck hTT
  have HF := tuck hF
  have HRN := tuck hrn
  have HPN := tuck hpn
  clear hR hP hTT hF hrn hpn
  go_enter Tryf.func3, Tryf.ntmps3
  go_wp2_with fail
  refine (bytes_any p1 n1 p2 n2 key l1 l2 at' ra pa rs ps rc pc w HR.out.row HRN.out HP.out.row HPN.out).mono ?_
  rintro e w1 ⟨rfl, r, rfl⟩
  cases r with
  | false =>
    go_wp2
    go_ret
    exact ⟨rfl, Below.refl _ _⟩
  | true =>
  go_wp2_with fail
  refine (budget_any p1 n1 p2 n2 key ra pa rs ps rc pc w1 HR.out.row HRN.out HP.out.row HPN.out).mono ?_
  rintro e w2 ⟨ok, rfl, rfl, hb⟩
  cases ok with
  | false =>
    go_wp2
    go_ret
    exact ⟨rfl, Below.refl _ _⟩
  | true =>
  have hbud := hb rfl
  clear hb
  have hl1 := cost_len rs
  have hl2 := cost_len ps
  by_cases h1 : 65536 < (rs.length : Int)
  · go_wp2
    go_ret
    exact ⟨rfl, Below.refl _ _⟩
  by_cases h2 : at' < 0
  · go_wp2
    go_ret
    exact ⟨rfl, Below.refl _ _⟩
  by_cases h3 : (rs.length : Int) < at'
  · go_wp2
    go_ret
    exact ⟨rfl, Below.refl _ _⟩
  obtain ⟨m, rfl⟩ := Int.eq_ofNat_of_zero_le (show 0 ≤ at' by omega)
  have hq := fun w' => run_neq_slice_nil_any (P := Tryf.prog) w' 22 9 ra rs.length rc 0 0 Tryf.underlying22
  have hq2 := fun w' => run_neq_slice_nil_any (P := Tryf.prog) w' 22 9 pa ps.length pc 0 0 Tryf.underlying22
  have hmk := run_make_row' (P := Tryf.prog) 22 9 (.string ⟨#[]⟩) 16 Tryf.underlying22 info9 rfl .i64 .i64 rs.length (by omega) (by omega)
  have hmk2 := run_make_row' (P := Tryf.prog) 22 9 (.string ⟨#[]⟩) 16 Tryf.underlying22 info9 rfl .i64 .i64 ps.length (by omega) (by omega)
  go_upto_if 61 with fail
  go_cut [6, 21] (fun v _ wx => ∃ a c, v = .slice a rs.length c ∧ Hid (StrRow wx a rs) ∧ Hid (Below w2.heap.size w2 wx))
  case first =>
    obtain ⟨rfl, rfl, rfl⟩ | ⟨y, rfl, hv⟩ := HR.out
    · go_wp2
      go_meet
      exact ⟨none, 0, rfl, tuck (fun h => by simp at h), tuck (Below.refl _ _)⟩
    · have HV := tuck hv
      clear hv
      go_wp2_with (refine wpList_copy_splice rfl (.tmp 65) (.tmp 66) 22 22 rfl 9 Tryf.underlying22 info9s _ _ rs.length rs.length rs.length _ rfl rfl w2.heap.size 0 (madeCells #[Value.string ⟨#[]⟩] rs.length).toList 9 ?c1 (rs.map Value.string) ?c2 ?c3 ?c4 ?c5 w2.heap.size w2 ?c6 (Nat.le_refl _) ?_)
      case c1 => rw [heap_alloc_new]
      case c2 => rw [List.length_map]; exact (Nat.min_self _).symm
      case c3 =>
        intro _ j x hx
        have := HV.out j x hx
        rw [World.cell?_alloc_lt _ _ _ (World.block_lt_of_cell? _ _ this)]
        exact this
      case c4 => rw [List.length_map, made_len]; omega
      case c5 => exact strs_one _
      case c6 => exact (Below.refl _ _).alloc (Nat.le_refl _) _
      intro w3 HG hbel
      have hg := HG.out
      rw [splice_whole _ _ (by rw [List.length_map, made_len])] at hg
      have HG1 := tuck hg
      have HB := tuck hbel
      clear hg HG hbel
      go_wp2
      go_meet
      exact ⟨_, _, rfl, tuck (row_of_block HG1.out), HB⟩
  case rest =>
  obtain ⟨ra', rc', rfl, HR3, HB3⟩ := hcut
  have HP3 : Hid (SliceIn wc pa ps pc) := by
    obtain h | ⟨y, e, hv⟩ := HP.out
    · exact .inl h
    · refine .inr ⟨y, e, fun j x hx => ?_⟩
      have := hv j x hx
      rw [HB3.out.cell (by exact World.block_lt_of_cell? _ _ this)]
      exact this
  have HF3 := tuck (show F.answers wc.tape by rw [HB3.out.tape]; exact HF.out)
  clear HR HP HF hq hmk
  go_upto_if 70 with fail
  go_cut [7, 22] (fun v _ wx => ∃ a c, v = .slice a ps.length c ∧ Hid (StrRow wx a ps) ∧ Hid (Below wc.heap.size wc wx))
  case first =>
    obtain ⟨rfl, rfl, rfl⟩ | ⟨y, rfl, hv⟩ := HP3.out
    · go_wp2
      go_meet
      exact ⟨none, 0, rfl, tuck (fun h => by simp at h), tuck (Below.refl _ _)⟩
    · have HV := tuck hv
      clear hv
      go_wp2_with (refine wpList_copy_splice rfl (.tmp 74) (.tmp 75) 22 22 rfl 9 Tryf.underlying22 info9s _ _ ps.length ps.length ps.length _ rfl rfl wc.heap.size 0 (madeCells #[Value.string ⟨#[]⟩] ps.length).toList 9 ?c1 (ps.map Value.string) ?c2 ?c3 ?c4 ?c5 wc.heap.size wc ?c6 (Nat.le_refl _) ?_)
      case c1 => rw [heap_alloc_new]
      case c2 => rw [List.length_map]; exact (Nat.min_self _).symm
      case c3 =>
        intro _ j x hx
        have := HV.out j x hx
        rw [World.cell?_alloc_lt _ _ _ (World.block_lt_of_cell? _ _ this)]
        exact this
      case c4 => rw [List.length_map, made_len]; omega
      case c5 => exact strs_one _
      case c6 => exact (Below.refl _ _).alloc (Nat.le_refl _) _
      intro w3 HG hbel
      have hg := HG.out
      rw [splice_whole _ _ (by rw [List.length_map, made_len])] at hg
      have HG1 := tuck hg
      have HB := tuck hbel
      clear hg HG hbel
      go_wp2
      go_meet
      exact ⟨_, _, rfl, tuck (row_of_block HG1.out), HB⟩
  case rest =>
  obtain ⟨pa', pc', rfl, HP4, HB4⟩ := hcut
  obtain ⟨i0, hi, hz0, hz1, hz2⟩ := info_parts info9
  have HB34 : Hid (Below w2.heap.size w2 wc) := tuck (HB3.out.trans (HB4.out.mono HB3.out.size))
  have HR4 := tuck (HR3.out.kept (Nat.le_refl _) HB4.out)
  have HF4 := tuck (show F.answers wc.tape by rw [HB4.out.tape]; exact HF3.out)
  clear HR3 HB3 HB4 HF3 HP3 hmk2 hq2
  go_wp2_with fail
  refine (present_any F p1 n1 l1 ra' rs rc' pa' ps pc' wc HF4.out HR4.out (by omega) HP4.out HPN.out (by omega) (HT.out p1 l1 (by omega) (.inl rfl)) (by omega)).mono ?_
  rintro e w5 ⟨v1, rfl, hv1, hb5⟩
  have HV1 := tuck hv1
  have HB5 := tuck (HB34.out.trans (hb5.mono HB34.out.size))
  have HR5 := tuck (HR4.out.kept (Nat.le_refl _) hb5)
  have HP5 := tuck (HP4.out.kept (Nat.le_refl _) hb5)
  have HF5 := tuck (show F.answers w5.tape by rw [hb5.tape]; exact HF4.out)
  clear hv1 hb5 HR4 HP4 HF4 HB34
  have hmk3 : ∀ w', (Instr.makeSlice 22 (.int .i64 0) (.int .i64 ((rs.length : Int) + 1))).run Tryf.prog w' = .ok (.slice (some ⟨w'.heap.size, 0, none⟩) 0 (rs.length + 1)) (w'.alloc (.cells (madeCells #[.string ⟨#[]⟩] (rs.length + 1)) 9)) := by
    intro w'
    have h := run_make (P := Tryf.prog) w' 22 9 i0 _ Tryf.underlying22 hi hz0 .i64 .i64 0 ((rs.length : Int) + 1) (by omega) (by omega) (by rw [hz2]; omega) (by omega)
    rw [hz1, show ((rs.length : Int) + 1).toNat = rs.length + 1 by omega, Nat.mul_one] at h
    exact h
  go_wp2
  go_loopw [24, 25] (fun vg vi wr => ∃ k : Nat, k ≤ m ∧ vi = .int .i64 k ∧ Hid (wr.ownsRow w5.heap.size 9 1 vg k ((rs.take k).map .string)) ∧ Hid (Below w5.heap.size w5 wr)) (fun _ vi _ => m - (intOf vi).toNat)
  case atStart => exact ⟨0, by omega, rfl, tuck (World.ownsRow_made _ _ _ (Nat.le_refl _) (by unfold maxLen; omega) (by rw [size_madeCells]; omega)), tuck ((Below.refl _ _).alloc (Nat.le_refl _) _)⟩
  case round =>
    obtain ⟨k, hk, rfl, HO, HB⟩ := hrel
    by_cases hlt : k < m
    · obtain ⟨x, hx⟩ : ∃ x, rs[k]? = some x := ⟨_, at_get (by omega)⟩
      obtain ⟨b, off, rfl, hv⟩ := (HR5.out.kept (Nat.le_refl _) HB.out) (by omega)
      have c3 := hv k x hx
      clear hv
      have hls : rs.take (k + 1) = rs.take k ++ [x] := by rw [List.take_add_one, hx]; rfl
      clear hx
      have hkl : k < rs.length := by omega
      go_wp2_with (at_builtin; refine wpList_append_own _ rfl _ _ 22 rfl w5.heap.size 9 i0 (.string ⟨#[]⟩) 1 16 Tryf.underlying22 hi hz0 hz1 hz2 rfl (by decide) _ _ _ rfl (HO.out.alloc _) ⟨wr.heap.size, 0, none⟩ 1 1 [.string x] rfl rfl ?c1 ?c2 ?c3 ?c4 ?c5 ?_)
      case c1 =>
        intro j u hj
        match j, hj with
        | 0, hj => simp at hj; subst hj; simp [Addr.add]
      case c2 => intro u hu; simp at hu; subst hu; rfl
      case c3 => unfold maxLen; omega
      case c4 => omega
      case c5 => have := HB.out.size; simp at this ⊢; omega
      intro v' w6 hown' hgrow _
      have HB2 : Hid (Below w5.heap.size w5 w6) :=
        tuck ((HB.out.alloc HB.out.size _).grown hgrow (by have := HB.out.size; simp; omega) (fun k hk => (HO.out.lt k hk).1))
      have HO2 := tuck hown'
      clear hown' hgrow
      go_wp2
      go_roundw
      case rel => exact ⟨k + 1, by omega, by go_num, by rw [hls]; simpa using HO2, HB2⟩
      case measure => simp [intOf]; omega
    · have ek : k = m := by omega
      subst ek
      go_wp2_with (at_builtin; refine wpList_append_own _ rfl _ _ 22 rfl w5.heap.size 9 i0 (.string ⟨#[]⟩) 1 16 Tryf.underlying22 hi hz0 hz1 hz2 rfl (by decide) _ _ _ rfl (HO.out.alloc _) ⟨wr.heap.size, 0, none⟩ 1 1 [.string key] rfl rfl ?c1 ?c2 ?c3 ?c4 ?c5 ?_)
      case c1 =>
        intro j u hj
        match j, hj with
        | 0, hj => simp at hj; subst hj; simp [Addr.add]
      case c2 => intro u hu; simp at hu; subst hu; rfl
      case c3 => unfold maxLen; omega
      case c4 => omega
      case c5 => have := HB.out.size; simp at this ⊢; omega
      intro v' w6 hown' hgrow _
      have HB2 : Hid (Below w5.heap.size w5 w6) :=
        tuck ((HB.out.alloc HB.out.size _).grown hgrow (by have := HB.out.size; simp; omega) (fun k hk => (HO.out.lt k hk).1))
      have HO2 : Hid (w6.ownsRow w5.heap.size 9 1 v' (k + 1) ((grown rs key k k).map .string)) := by
        refine tuck ?_
        have e : (grown rs key k k).map Value.string = (rs.take k).map Value.string ++ [.string key] := by simp [grown]
        rw [e, List.map_take]
        exact hown'
      clear hown' hgrow HO HB
      go_wp2
      go_loopw [24, 26] (fun vg vi wr => ∃ j : Nat, k ≤ j ∧ j ≤ rs.length ∧ vi = .int .i64 j ∧ Hid (wr.ownsRow w5.heap.size 9 1 vg (j + 1) ((grown rs key k j).map .string)) ∧ Hid (Below w5.heap.size w5 wr)) (fun _ vi _ => rs.length - (intOf vi).toNat)
      case atStart => exact ⟨k, Nat.le_refl _, by omega, rfl, HO2, HB2⟩
      case round =>
        obtain ⟨j, hkj, hj, rfl, HO, HB⟩ := hrel
        clear HO2 HB2
        by_cases hlt2 : j < rs.length
        · obtain ⟨x, hx⟩ : ∃ x, rs[j]? = some x := ⟨_, at_get hlt2⟩
          obtain ⟨b, off, rfl, hv⟩ := (HR5.out.kept (Nat.le_refl _) HB.out) (by omega)
          have c3 := hv j x hx
          clear hv
          have hls := grown_succ rs key x k j hkj hx
          clear hx
          go_wp2_with (at_builtin; refine wpList_append_own _ rfl _ _ 22 rfl w5.heap.size 9 i0 (.string ⟨#[]⟩) 1 16 Tryf.underlying22 hi hz0 hz1 hz2 rfl (by decide) _ _ _ rfl (HO.out.alloc _) ⟨wr.heap.size, 0, none⟩ 1 1 [.string x] rfl rfl ?c1 ?c2 ?c3 ?c4 ?c5 ?_)
          case c1 =>
            intro j u hj
            match j, hj with
            | 0, hj => simp at hj; subst hj; simp [Addr.add]
          case c2 => intro u hu; simp at hu; subst hu; rfl
          case c3 => unfold maxLen; omega
          case c4 => omega
          case c5 => have := HB.out.size; simp at this ⊢; omega
          intro v' w7 hown' hgrow _
          have HB2 : Hid (Below w5.heap.size w5 w7) :=
            tuck ((HB.out.alloc HB.out.size _).grown hgrow (by have := HB.out.size; simp; omega) (fun k hk => (HO.out.lt k hk).1))
          have HO2 := tuck hown'
          clear hown' hgrow
          go_wp2
          go_roundw
          case rel => exact ⟨j + 1, by omega, by omega, by go_num, by rw [hls]; simpa using HO2, HB2⟩
          case measure => simp [intOf]; omega
        · have ej : j = rs.length := by omega
          subst ej
          have hgl := grown_length rs key k rs.length hkj (Nat.le_refl _)
          have hgc := grown_cost rs key k
          have hlg := lacking_grown ps rs key k
          obtain ⟨ga, gc, rfl, hrow⟩ := row_of_own HO.out
          have HG := tuck hrow
          clear hrow HO
          generalize hG : grown rs key k rs.length = G at *
          have HK := tuck (present_any F p2 n2 l2 ga G gc pa' ps pc' wr (by rw [HB.out.tape]; exact HF5.out) HG.out (by omega) (HP5.out.kept (Nat.le_refl _) HB.out) HPN.out (by omega) (HT.out p2 l2 (by omega) (.inr rfl)) (by omega))
          rw [hgl] at HK
          go_wp2_with fail
          refine HK.out.mono ?_
          rintro e w8 ⟨v2, rfl, hv2, hb8⟩
          have HV2 := tuck hv2
          have HB8 := tuck (HB.out.trans (hb8.mono HB.out.size))
          clear hv2 hb8 HK
          go_wp2_with fail
          refine (contains_any key pa' ps pc' w8 (HP5.out.kept (Nat.le_refl _) HB8.out) HPN.out).mono ?_
          rintro e w9 ⟨rfl, rfl⟩
          have HEnd := tuck (HB5.out.trans (HB8.out.mono HB5.out.size))
          have hv1 := HV1.out
          have hv2 := HV2.out
          rw [hlg] at hv2
          clear HV1 HV2 hlg HT HRN HPN HP5 HR5 HF5 HB5 HB8 HB HG
          cases hc : Lib.containsS ps key with
          | false =>
            rw [hc, Bool.and_false] at hv2
            obtain ⟨h, _⟩ | ⟨_, b, rfl⟩ := hv2
            · cases h
            · go_wp2
              go_ret
              exact ⟨rfl, HEnd.out⟩
          | true =>
            rw [hc, Bool.and_true] at hv2
            obtain ⟨h, rfl⟩ | ⟨h, b, rfl⟩ := hv2
            · obtain ⟨h', rfl⟩ | ⟨h', b', rfl⟩ := hv1
              · go_wp2
                go_quiet (fail)
                go_wp2
                go_ret
                exact ⟨rfl, below_drewN HEnd.out _⟩
              · rw [h] at h'; cases h'
            · obtain ⟨h', rfl⟩ | ⟨h', b', rfl⟩ := hv1
              · rw [h] at h'; cases h'
              · go_wp2
                go_quiet (fail)
                go_wp2
                go_ret
                exact ⟨rfl, below_drewN HEnd.out _⟩
end Go.Proofs.Qxb6608952aFmt
