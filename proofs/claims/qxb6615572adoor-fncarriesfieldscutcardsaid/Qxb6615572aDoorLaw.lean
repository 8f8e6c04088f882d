import Derived.Test.Qxb6615572aDoorBuild
import Derived.Test.Qxb6615572aDoorSize
import Derived.Laws.CopyOwn
import Derived.Deep.OwnRows
namespace Go.Proofs.Qxb6615572aDoor
open Go.RowKit Go.Maps Go.WideMaps

/-- A slice of strings that came in: nil, or its cells hold xs. -/
def SliceIn (w : World) (a : Option Addr) (xs : List ByteArray) (c : Nat) : Prop :=
  (a = none ∧ xs = [] ∧ c = 0) ∨ ∃ y, a = some y ∧ ∀ j x, xs[j]? = some x → w.cell? (y.add j) = some (.string x)

theorem SliceIn.row {w : World} {a : Option Addr} {xs : List ByteArray} {c : Nat} (h : SliceIn w a xs c) : StrRow w a xs := by
  obtain ⟨rfl, rfl, rfl⟩ | ⟨y, rfl, hv⟩ := h
  · intro h; simp at h
  · intro h0
    obtain ⟨b, off, spot⟩ := y
    have hspot : spot = none := by simpa [Addr.add] using World.cell?_spot (hv 0 _ (at_get h0))
    subst hspot
    exact ⟨b, off, rfl, fun j x hx => by have := hv j x hx; rwa [add_at] at this⟩

theorem SliceIn.kept {w w' : World} {a : Option Addr} {xs : List ByteArray} {c : Nat} (h : SliceIn w a xs c) (hb : Below w.heap.size w w') : SliceIn w' a xs c := by
  obtain h | ⟨y, e, hv⟩ := h
  · exact .inl h
  · refine .inr ⟨y, e, fun j x hx => ?_⟩
    have := hv j x hx
    rw [hb.cell (by exact World.block_lt_of_cell? _ _ this)]
    exact this

theorem info9s : (Tryd.prog.info? 9).map (·.size) = some 1 := by kernel_rfl
theorem splice_whole {α : Type} (L cs : List α) (h : L.length = cs.length) : splice L 0 cs = cs := by
  simp [splice, h, List.drop_eq_nil_of_le]
theorem made_len (z : Value) (n : Nat) : (madeCells #[z] n).toList.length = n := by rw [Array.length_toList, size_madeCells]
theorem strs_one (xs : List ByteArray) : ∀ v ∈ xs.map Value.string, v.oneCell' = true := by
  intro v hv
  obtain ⟨x, _, rfl⟩ := List.mem_map.1 hv
  rfl
theorem row_of_block {w : World} {g : Nat} {xs : List ByteArray} {t : TypeId} (h : w.heap[g]? = some (.cells (xs.map Value.string).toArray t (0, 0))) : StrRow w (some ⟨g, 0, none⟩) xs := by
  refine fun _ => ⟨g, 0, rfl, fun j x hx => ?_⟩
  simp [World.cell?, h, hx]

theorem row_take {w : World} {a : Option Addr} {xs : List ByteArray} (h : StrRow w a xs) (k : Nat) : StrRow w a (xs.take k) := by
  intro hp
  rw [List.length_take] at hp
  obtain ⟨b, off, e, hv⟩ := h (by omega)
  refine ⟨b, off, e, fun j x hx => hv j x ?_⟩
  rw [List.getElem?_take] at hx
  split at hx
  · exact hx
  · cases hx

theorem sized_take {xs : List ByteArray} (h : Sized xs) (k : Nat) : Sized (xs.take k) := fun x hx => h x (List.mem_of_mem_take hx)
theorem sized_drop {xs : List ByteArray} (h : Sized xs) (k : Nat) : Sized (xs.drop k) := fun x hx => h x (List.mem_of_mem_drop hx)

theorem row_drop {w : World} {a : Option Addr} {xs : List ByteArray} (h : StrRow w a xs) (k : Nat) {c : Nat} (hc : xs.length ≤ c) : StrRow w (if c = k then a else Option.map (fun x => x.add k) a) (xs.drop k) := by
  intro hp
  rw [List.length_drop] at hp
  obtain ⟨b, off, e, hv⟩ := h (by omega)
  subst e
  rw [if_neg (by omega)]
  refine ⟨b, off + k, by simp [add_at], fun j x hx => ?_⟩
  rw [List.getElem?_drop] at hx
  have := hv (k + j) x hx
  rwa [← Nat.add_assoc] at this

theorem okF_cut (sn sv : List ByteArray) (k : Nat) (hl : sv.length = sn.length) : okF (sn.zip sv) = (okF ((sn.take k).zip (sv.take k)) && okF ((sn.drop k).zip (sv.drop k))) := by
  have h : sn.zip sv = (sn.take k).zip (sv.take k) ++ (sn.drop k).zip (sv.drop k) := by
    rw [← List.zip_append (by rw [List.length_take, List.length_take, hl]), List.take_append_drop, List.take_append_drop]
  rw [h]
  unfold okF
  rw [List.all_append]

theorem ask_plain : Ask true strGET ⟨#[]⟩ ⟨#[]⟩ [] [] := ⟨rfl, .inl rfl, rfl, fun j xs h => by simp at h, by rfl, fun j s h => by simp at h⟩

theorem grid_eq : GridRow = GridAt := rfl
theorem many_eq : many = total := rfl

set_option maxRecDepth 100000 in
set_option maxHeartbeats 4000000 in
theorem law_any (kept : Bool) (method opq query : ByteArray) (kk : Int) (na va sa ta : Option Addr) (ns : List ByteArray) (vs : List (List ByteArray)) (sn sv : List ByteArray) (nc vc sc tc : Nat) (w : World)
    (hN : SliceIn w na ns nc) (hV : GridRow w va vs) (hS : SliceIn w sa sn sc) (hT : SliceIn w ta sv tc) (hn : ns.length ≤ maxLen) (hv : vs.length ≤ maxLen) (hs : sn.length ≤ maxLen) (ht : sv.length ≤ maxLen) (zv : ∀ xs ∈ vs, xs.length ≤ maxLen ∧ Sized xs)
    (zn : Sized ns) (zs : Sized sn) (zt : Sized sv) (l0 : method.size ≤ maxLen) (l1 : opq.size ≤ maxLen) (l2 : query.size ≤ maxLen) :
    Calls Tryd.prog 4 #[.bool kept, .string method, .string opq, .string query, .slice na ns.length nc, .slice va vs.length vc, .slice sa sn.length sc, .slice ta sv.length tc, .int .i64 kk] w fun e w' =>
      e = .returned (.bool true) ∧ Below w.heap.size w w' := by
  have H9 := tuck (bytes_any kept method opq query kk na va sa ta ns vs sn sv nc vc sc tc w hN.row hV hS.row hT.row hn hv hs ht (fun xs hx => (zv xs hx).1))
  have H6 := tuck (size_any method opq query na va sa ta ns vs sn sv nc vc sc tc w hN.row hV hS.row hT.row hn hv hs ht zv zn zs zt l0 l1 l2)
  have HN := tuck hN
  have HV := tuck hV
  have HS := tuck hS
  have HT := tuck hT
  have ZV := tuck zv
  have ZN := tuck zn
  have ZS := tuck zs
  have ZT := tuck zt
  unfold maxLen at hn hv hs ht
  clear hN hV hS hT zv zn zs zt l0 l1 l2
  go_enter Tryd.func4, Tryd.ntmps4
  go_wp2_with fail
  refine H9.out.mono ?_
  rintro e w1 ⟨⟨ok, rfl, hok⟩, rfl⟩
  cases ok with
  | false =>
    go_wp2
    go_ret
    exact ⟨rfl, Below.refl _ _⟩
  | true =>
  obtain ⟨hq, htot⟩ := hok rfl
  clear hok H9
  by_cases b1 : 65536 < (ns.length : Int)
  · go_wp2
    go_ret
    exact ⟨rfl, Below.refl _ _⟩
  by_cases b2 : 65536 < (vs.length : Int)
  · go_wp2
    go_ret
    exact ⟨rfl, Below.refl _ _⟩
  by_cases b3 : 65536 < (sn.length : Int)
  · go_wp2
    go_ret
    exact ⟨rfl, Below.refl _ _⟩
  by_cases b4 : 65536 < (sv.length : Int)
  · go_wp2
    go_ret
    exact ⟨rfl, Below.refl _ _⟩
  go_wp2_with fail
  refine H6.out.mono ?_
  rintro e w2 ⟨⟨ok, rfl⟩, rfl⟩
  cases ok with
  | false =>
    go_wp2
    go_ret
    exact ⟨rfl, Below.refl _ _⟩
  | true =>
  clear H6
  by_cases d1 : vs.length = ns.length
  case neg =>
    have d1' : ((vs.length : Int) != (ns.length : Int)) = true := by simp; omega
    go_wp2
    all_goals
      go_ret
      exact ⟨rfl, Below.refl _ _⟩
  by_cases d2 : sv.length = sn.length
  case neg =>
    have d1' : ((vs.length : Int) != (ns.length : Int)) = false := by simp; omega
    have d2' : ((sv.length : Int) != (sn.length : Int)) = true := by simp; omega
    go_wp2
    all_goals
      go_ret
      exact ⟨rfl, Below.refl _ _⟩
  have D1 := tuck d1
  have D2 := tuck d2
  by_cases f1 : kk < 0
  · go_wp2
    go_ret
    exact ⟨rfl, Below.refl _ _⟩
  by_cases f2 : (sn.length : Int) < kk
  · go_wp2
    go_ret
    exact ⟨rfl, Below.refl _ _⟩
  obtain ⟨k, rfl⟩ := Int.eq_ofNat_of_zero_le (show 0 ≤ kk by omega)
  have hq1 := fun w' => run_neq_slice_nil_any (P := Tryd.prog) w' 22 9 na ns.length nc 0 0 Tryd.underlying22
  have hq2 := fun w' => run_neq_slice_nil_any (P := Tryd.prog) w' 22 9 sa sn.length sc 0 0 Tryd.underlying22
  have hq3 := fun w' => run_neq_slice_nil_any (P := Tryd.prog) w' 22 9 ta sn.length tc 0 0 Tryd.underlying22
  have hm1 := run_make_row' (P := Tryd.prog) 22 9 (.string ⟨#[]⟩) 16 Tryd.underlying22 info9 rfl .i64 .i64 ns.length (by omega) (by omega)
  have hm2 := run_make_row' (P := Tryd.prog) 22 9 (.string ⟨#[]⟩) 16 Tryd.underlying22 info9 rfl .i64 .i64 sn.length (by omega) (by omega)
  go_upto_if 85 with fail
  clear d1 d2
  go_cut [4, 19] (fun v _ wx => ∃ a c, v = .slice a ns.length c ∧ ns.length ≤ c ∧ Hid (StrRow wx a ns) ∧ Hid (Below w2.heap.size w2 wx))
  case first =>
    obtain ⟨rfl, rfl, rfl⟩ | ⟨y, rfl, hv⟩ := HN.out
    · go_wp2
      go_meet
      exact ⟨none, 0, rfl, by simp, tuck (fun h => by simp at h), tuck (Below.refl _ _)⟩
    · have HVV := tuck hv
      clear hv
      go_wp2_with (refine wpList_copy_splice rfl (.tmp 89) (.tmp 90) 22 22 rfl 9 Tryd.underlying22 info9s _ _ ns.length ns.length ns.length _ rfl rfl w2.heap.size 0 (madeCells #[Value.string ⟨#[]⟩] ns.length).toList 9 ?c1 (ns.map Value.string) ?c2 ?c3 ?c4 ?c5 w2.heap.size w2 ?c6 (Nat.le_refl _) ?_)
      case c1 => rw [heap_alloc_new]
      case c2 => rw [List.length_map]; exact (Nat.min_self _).symm
      case c3 =>
        intro _ j x hx
        have := HVV.out j x hx
        rw [World.cell?_alloc_lt _ _ _ (World.block_lt_of_cell? _ _ this)]
        exact this
      case c4 => rw [List.length_map, made_len]; omega
      case c5 => exact strs_one _
      case c6 => exact (Below.refl _ _).alloc (Nat.le_refl _) _
      intro w3 HG hbel
      have hg := HG.out
      rw [splice_whole _ _ (by rw [List.length_map, made_len])] at hg
      have HG1 := tuck hg
      have HB := tuck hbel
      clear hg HG hbel
      go_wp2
      go_meet
      exact ⟨_, _, rfl, Nat.le_refl _, tuck (row_of_block HG1.out), HB⟩
  case rest =>
  obtain ⟨na', nc', rfl, hc1, HN3, HB3⟩ := hcut
  have HS3 := tuck (HS.out.kept HB3.out)
  have HT3 := tuck (HT.out.kept HB3.out)
  have HV3 := tuck (HV.out.kept HB3.out)
  obtain ⟨wa, rfl⟩ : ∃ wa, wa = wc := ⟨wc, rfl⟩
  clear HN HS HT HV hq1 hm1
  go_upto_if 94 with fail
  go_cut [6, 20] (fun v _ wx => ∃ a c, v = .slice a sn.length c ∧ sn.length ≤ c ∧ Hid (StrRow wx a sn) ∧ Hid (Below wa.heap.size wa wx))
  case first =>
    obtain ⟨rfl, rfl, rfl⟩ | ⟨y, rfl, hv⟩ := HS3.out
    · go_wp2
      go_meet
      exact ⟨none, 0, rfl, by simp, tuck (fun h => by simp at h), tuck (Below.refl _ _)⟩
    · have HVV := tuck hv
      clear hv
      go_wp2_with (refine wpList_copy_splice rfl (.tmp 98) (.tmp 99) 22 22 rfl 9 Tryd.underlying22 info9s _ _ sn.length sn.length sn.length _ rfl rfl wa.heap.size 0 (madeCells #[Value.string ⟨#[]⟩] sn.length).toList 9 ?c1 (sn.map Value.string) ?c2 ?c3 ?c4 ?c5 wa.heap.size wa ?c6 (Nat.le_refl _) ?_)
      case c1 => rw [heap_alloc_new]
      case c2 => rw [List.length_map]; exact (Nat.min_self _).symm
      case c3 =>
        intro _ j x hx
        have := HVV.out j x hx
        rw [World.cell?_alloc_lt _ _ _ (World.block_lt_of_cell? _ _ this)]
        exact this
      case c4 => rw [List.length_map, made_len]; omega
      case c5 => exact strs_one _
      case c6 => exact (Below.refl _ _).alloc (Nat.le_refl _) _
      intro w3 HG hbel
      have hg := HG.out
      rw [splice_whole _ _ (by rw [List.length_map, made_len])] at hg
      have HG1 := tuck hg
      have HB := tuck hbel
      clear hg HG hbel
      go_wp2
      go_meet
      exact ⟨_, _, rfl, Nat.le_refl _, tuck (row_of_block HG1.out), HB⟩
  case rest =>
  obtain ⟨sa', sc', rfl, hc2, HS4, HB4⟩ := hcut
  have HB4' : Hid (Below w2.heap.size w2 wc) := tuck (HB3.out.trans (HB4.out.mono HB3.out.size))
  have HN4 := tuck (HN3.out.kept (Nat.le_refl _) HB4.out)
  have HT4 := tuck (HT3.out.kept HB4.out)
  have HV4 := tuck (HV3.out.kept HB4.out)
  clear HB4
  obtain ⟨wb, rfl⟩ : ∃ wb, wb = wc := ⟨wc, rfl⟩
  clear HN3 HS3 HT3 HV3 HB3 hq2
  go_upto_if 103 with fail
  go_cut [7, 21] (fun v _ wx => ∃ a c, v = .slice a sn.length c ∧ sn.length ≤ c ∧ Hid (StrRow wx a sv) ∧ Hid (Below wb.heap.size wb wx))
  case first =>
    obtain ⟨rfl, rfl, rfl⟩ | ⟨y, rfl, hv⟩ := HT4.out
    · go_wp2
      go_meet
      exact ⟨none, 0, rfl, by have := D2.out; simp at this; omega, tuck (fun h => by simp at h), tuck (Below.refl _ _)⟩
    · have HVV := tuck hv
      clear hv
      go_wp2_with (refine wpList_copy_splice rfl (.tmp 107) (.tmp 108) 22 22 rfl 9 Tryd.underlying22 info9s _ _ sn.length sn.length sn.length _ rfl rfl wb.heap.size 0 (madeCells #[Value.string ⟨#[]⟩] sn.length).toList 9 ?c1 (sv.map Value.string) ?c2 ?c3 ?c4 ?c5 wb.heap.size wb ?c6 (Nat.le_refl _) ?_)
      case c1 => rw [heap_alloc_new]
      case c2 => rw [List.length_map, D2.out]; exact (Nat.min_self _).symm
      case c3 =>
        intro _ j x hx
        have := HVV.out j x hx
        rw [World.cell?_alloc_lt _ _ _ (World.block_lt_of_cell? _ _ this)]
        exact this
      case c4 => rw [List.length_map, D2.out, made_len]; omega
      case c5 => exact strs_one _
      case c6 => exact (Below.refl _ _).alloc (Nat.le_refl _) _
      intro w3 HG hbel
      have hg := HG.out
      rw [splice_whole _ _ (by rw [List.length_map, D2.out, made_len])] at hg
      have HG1 := tuck hg
      have HB := tuck hbel
      clear hg HG hbel
      go_wp2
      go_meet
      exact ⟨_, _, rfl, Nat.le_refl _, tuck (row_of_block HG1.out), HB⟩
  case rest =>
  obtain ⟨ta', tc', rfl, hc3, HT5, HB5⟩ := hcut
  have HB5' : Hid (Below w2.heap.size w2 wc) := tuck (HB4'.out.trans (HB5.out.mono HB4'.out.size))
  have HN5 := tuck (HN4.out.kept (Nat.le_refl _) HB5.out)
  have HS5 := tuck (HS4.out.kept (Nat.le_refl _) HB5.out)
  have HV5 := tuck (HV4.out.kept HB5.out)
  clear HB5 HN4 HS4 HT4 HV4 HB4' hq3 hm2
  have HC : Hid (∀ (z : World) (hz : Below wc.heap.size wc z) (a b : Option Addr) (c d : Nat) (xs ys : List ByteArray) (m : Nat), xs.length = m → ys.length = m → m ≤ 65536 → StrRow z a xs → StrRow z b ys → Sized xs → Sized ys →
      Calls Tryd.prog 7 #[.bool kept, .string method, .string opq, .string query, .slice na' ns.length nc', .slice va ns.length vc, .slice a m c, .slice b m d] z fun e w'' => SaysIff (Ask kept method opq query ns vs ∧ okF (xs.zip ys) = true) e ∧ Below z.heap.size z w'') := by
    refine tuck fun z hz a b c d xs ys m hx hy hm ha hb sx sy => ?_
    subst hx
    exact zz_any kept method opq query na' va a b ns vs xs ys nc' vc c d z (HN5.out.kept (Nat.le_refl _) hz) (HV5.out.kept hz) ha hb D1.out hy (by omega) hm ZN.out sx sy (fun xs hx => (ZV.out xs hx).2) (by rw [← D1.out]; exact htot) hq
  clear HN5 HV5 ZN ZV htot hq hn hv hs ht
  classical
  go_wp2_with fail
  refine (HC.out wc (Below.refl _ _) sa' ta' sc' tc' sn sv sn.length rfl D2.out (by omega) HS5.out HT5.out ZS.out ZT.out).mono ?_
  rintro e w4 ⟨⟨r1, rfl, hr1⟩, hb4⟩
  have HB6 := tuck hb4
  have R1 := tuck hr1
  clear hb4 hr1
  go_wp2
  have hk1 : (k : Int) ≤ (sc' : Int) := by omega
  have hk2 : (k : Int) ≤ (tc' : Int) := by omega
  have inst : Nonempty (Kin w4) := ⟨⟨w4, Below.refl _ _⟩⟩
  have hkn : k ≤ sn.length := by omega
  obtain ⟨r2, hr2⟩ : ∃ r2 : Bool, (r2 = true ↔ (Ask kept method opq query ns vs ∧ okF ((sn.take k).zip (sv.take k)) = true)) := ⟨decide _, decide_eq_true_iff⟩
  have R2 := tuck hr2
  clear hr2
  obtain ⟨r3, hr3⟩ : ∃ r3 : Bool, (r3 = true ↔ (Ask kept method opq query ns vs ∧ okF ((sn.drop k).zip (sv.drop k)) = true)) := ⟨decide _, decide_eq_true_iff⟩
  have R3 := tuck hr3
  clear hr3
  have H7a : Hid (∀ z : Kin w4, Calls Tryd.prog 7 #[.bool kept, .string method, .string opq, .string query, .slice na' ns.length nc', .slice va ns.length vc, .slice sa' k sc', .slice ta' k tc'] z.world fun e w'' =>
      e = .returned (.bool r2) ∧ ∃ m : Kin w4, w'' = m.world) := by
    refine tuck fun z => ?_
    have hz : Below wc.heap.size wc z.world := HB6.out.trans (z.below.mono HB6.out.size)
    refine (HC.out z.world hz sa' ta' sc' tc' (sn.take k) (sv.take k) k (by rw [List.length_take]; omega) (by rw [List.length_take, D2.out]; omega) (by omega) (row_take (HS5.out.kept (Nat.le_refl _) hz) k) (row_take (HT5.out.kept (Nat.le_refl _) hz) k) (sized_take ZS.out k) (sized_take ZT.out k)).mono ?_
    rintro e w'' ⟨⟨r, rfl, hr⟩, hb⟩
    refine ⟨?_, ⟨w'', z.below.trans (hb.mono z.below.size)⟩, rfl⟩
    congr 2
    rw [Bool.eq_iff_iff, hr, R2.out]
  refine wp_region_kin (by kernel_rfl) (by kernel_rfl) ?_
  repeat (go_big_quiet_step ((go_at_call 7; exact H7a.out _)))
  refine wpQuiet_nil ?_
  rintro _ ⟨z4, rfl⟩
  have HB7 : Hid (Below wc.heap.size wc z4.world) := tuck (HB6.out.trans (z4.below.mono HB6.out.size))
  clear H7a inst
  generalize z4.world = w5 at *
  go_wp2
  have inst : Nonempty (Kin w5) := ⟨⟨w5, Below.refl _ _⟩⟩
  have H7b : Hid (∀ z : Kin w5, Calls Tryd.prog 7 #[.bool kept, .string method, .string opq, .string query, .slice na' ns.length nc', .slice va ns.length vc, .slice (if sc' = k then sa' else Option.map (fun x => x.add k) sa') (sn.length - k) (sc' - k), .slice (if tc' = k then ta' else Option.map (fun x => x.add k) ta') (sn.length - k) (tc' - k)] z.world fun e w'' =>
      e = .returned (.bool r3) ∧ ∃ m : Kin w5, w'' = m.world) := by
    refine tuck fun z => ?_
    have hz : Below wc.heap.size wc z.world := HB7.out.trans (z.below.mono HB7.out.size)
    refine (HC.out z.world hz _ _ (sc' - k) (tc' - k) (sn.drop k) (sv.drop k) (sn.length - k) (by rw [List.length_drop]) (by rw [List.length_drop, D2.out]) (by omega) (row_drop (HS5.out.kept (Nat.le_refl _) hz) k hc2) (row_drop (HT5.out.kept (Nat.le_refl _) hz) k (by rw [D2.out]; exact hc3)) (sized_drop ZS.out k) (sized_drop ZT.out k)).mono ?_
    rintro e w'' ⟨⟨r, rfl, hr⟩, hb⟩
    refine ⟨?_, ⟨w'', z.below.trans (hb.mono z.below.size)⟩, rfl⟩
    congr 2
    rw [Bool.eq_iff_iff, hr, R3.out]
  refine wp_region_kin (by kernel_rfl) (by kernel_rfl) ?_
  repeat (go_big_quiet_step ((go_at_call 7; exact H7b.out _)))
  refine wpQuiet_nil ?_
  rintro _ ⟨z5, rfl⟩
  have HB8 : Hid (Below wc.heap.size wc z5.world) := tuck (HB7.out.trans (z5.below.mono HB7.out.size))
  clear H7b inst
  generalize z5.world = w6 at *
  have hkey : r1 = (r2 && r3) := by
    have e := okF_cut sn sv k D2.out
    rw [Bool.eq_iff_iff, R1.out, Bool.and_eq_true, R2.out, R3.out, e, Bool.and_eq_true]
    exact ⟨fun ⟨a, b, c⟩ => ⟨⟨a, b⟩, a, c⟩, fun ⟨⟨a, b⟩, _, c⟩ => ⟨a, b, c⟩⟩
  subst hkey
  clear R1 R2 R3
  have H7c : Hid (Calls Tryd.prog 7 #[.bool true, .string ⟨#[71, 69, 84]⟩, .string ⟨#[]⟩, .string ⟨#[]⟩, .slice none 0 0, .slice none 0 0, .slice sa' sn.length sc', .slice ta' sn.length tc'] w6 fun e w' => SaysIff (Ask true strGET ⟨#[]⟩ ⟨#[]⟩ [] [] ∧ okF (sn.zip sv) = true) e ∧ Below w6.heap.size w6 w') :=
    tuck (zz_any true strGET ⟨#[]⟩ ⟨#[]⟩ none none sa' ta' [] [] sn sv 0 0 sc' tc' w6 (fun h => absurd h (Nat.lt_irrefl 0)) (fun h => absurd h (Nat.lt_irrefl 0)) (HS5.out.kept (Nat.le_refl _) HB8.out) (HT5.out.kept (Nat.le_refl _) HB8.out) rfl D2.out (Nat.zero_le _) (by omega) (fun x hx => nomatch hx) ZS.out ZT.out (fun x hx => nomatch hx) (Nat.zero_le _) (Nat.zero_le _))
  clear HC
  generalize (if sc' = k then sa' else Option.map (fun x => x.add k) sa') = qa
  generalize (if tc' = k then ta' else Option.map (fun x => x.add k) ta') = qb
  rename_i K aK
  refine aK _ _ ?_
  clear aK
  clear K
  go_wp2_with fail
  refine H7c.out.mono ?_
  rintro e w7 ⟨⟨r4, rfl, hr4⟩, hb7⟩
  have hp : r4 = okF (sn.zip sv) := by
    rw [Bool.eq_iff_iff, hr4]
    exact ⟨fun q => q.2, fun q => ⟨ask_plain, q⟩⟩
  subst hp
  clear hr4 H7c
  have HB9 : Hid (Below wc.heap.size wc w7) := tuck (HB8.out.trans (hb7.mono HB8.out.size))
  clear hb7
  have H10 := tuck (zzFields_any sa' ta' sn sv sc' tc' w7 (HS5.out.kept (Nat.le_refl _) HB9.out) (HT5.out.kept (Nat.le_refl _) HB9.out) D2.out (by omega) ZS.out ZT.out)
  have HEnd : Hid (Below w2.heap.size w2 w7) := tuck (HB5'.out.trans (HB9.out.mono HB5'.out.size))
  generalize okF (sn.zip sv) = r5 at *
  clear HB8 HB7 HB6 HB5' HB9 HS5 HT5 ZS ZT hc2 hc3 hk1 hk2 hkn
  cases r2 <;> cases r3 <;> cases r5
  all_goals
    go_wp2_with fail
    refine H10.out.mono ?_
    rintro e w8 ⟨rfl, rfl⟩
    go_wp2
    go_ret
    exact ⟨rfl, HEnd.out⟩
end Go.Proofs.Qxb6615572aDoor
