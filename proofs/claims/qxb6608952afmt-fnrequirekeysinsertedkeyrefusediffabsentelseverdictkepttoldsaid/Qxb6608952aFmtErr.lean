import Derived.Test.Qxb6608952aFmtFacts
namespace Go.Proofs.Qxb6608952aFmt
open Go.RowKit Go.Extern.Stop Go.Stop Go.Extern

theorem tuck {p : Prop} (h : p) : Hid p := h

attribute [local go_sem] call16 call21 guard fmt0 fmt0r fmt0n fmt0nr fmt1 fmt1r fmt1n fmt1nr fmt2 fmt2r fmt2n fmt2nr fmt3 fmt3r fmt3n fmt3nr op9_115 op9_115w op3_100 act9_115w act9_115 strict9 strict3 str9 str3 ptr51 elem51 isError51 str51 actPlain51_119w ptr49 elem49 isError49

set_option maxRecDepth 100000 in
set_option maxHeartbeats 400000 in
/-- fmt.Errorf("missing key %s", s). -/
theorem errorf_key (F : Interp) (s : ByteArray) (blk : Nat) (w : World) (hF : F.answers w.tape) (hc0 : w.cell? ⟨blk, 0, none⟩ = some (.iface 9 (.string s))) :
    Calls Tryf.prog 17 #[.string ⟨#[109, 105, 115, 115, 105, 110, 103, 32, 107, 101, 121, 32, 37, 115]⟩, .slice (some ⟨blk, 0, none⟩) 1 1] w fun e w' =>
      ∃ T, e = .returned (.iface 51 (.pointer (some ⟨w.heap.size, 0, none⟩))) ∧ w' = (w.alloc (.cells #[.string T] 53)).drew := by
  have hF' := answers_open hF
  go_enter Tryf.func17, Tryf.ntmps17
  go_wp2
  apply rows_value nextTurns
  case hr =>
    go_simp
    exact ⟨rfl, rfl⟩
  case h =>
    go_wp2
    go_ret
    exact ⟨_, rfl, rfl⟩

set_option maxRecDepth 100000 in
set_option maxHeartbeats 400000 in
/-- fmt.Errorf("missing keys %s", s). -/
theorem errorf_keys (F : Interp) (s : ByteArray) (blk : Nat) (w : World) (hF : F.answers w.tape) (hc0 : w.cell? ⟨blk, 0, none⟩ = some (.iface 9 (.string s))) :
    Calls Tryf.prog 17 #[.string ⟨#[109, 105, 115, 115, 105, 110, 103, 32, 107, 101, 121, 115, 32, 37, 115]⟩, .slice (some ⟨blk, 0, none⟩) 1 1] w fun e w' =>
      ∃ T, e = .returned (.iface 51 (.pointer (some ⟨w.heap.size, 0, none⟩))) ∧ w' = (w.alloc (.cells #[.string T] 53)).drew := by
  have hF' := answers_open hF
  go_enter Tryf.func17, Tryf.ntmps17
  go_wp2
  apply rows_value nextTurns
  case hr =>
    go_simp
    exact ⟨rfl, rfl⟩
  case h =>
    go_wp2
    go_ret
    exact ⟨_, rfl, rfl⟩

set_option maxRecDepth 100000 in
set_option maxHeartbeats 400000 in
/-- fmt.Errorf("%s%w", s, err), err of errors.New's make. -/
theorem errorf_wrap (F : Interp) (s t : ByteArray) (a : Addr) (blk : Nat) (w : World) (hF : F.answers w.tape) (hc0 : w.cell? ⟨blk, 0, none⟩ = some (.iface 9 (.string s)))
    (hc1 : w.cell? ⟨blk, 1, none⟩ = some (.iface 51 (.pointer (some a)))) (ha : w.cell? a = some (.string t)) :
    Calls Tryf.prog 17 #[.string ⟨#[37, 115, 37, 119]⟩, .slice (some ⟨blk, 0, none⟩) 2 2] w fun e w' =>
      ∃ T, e = .returned (.iface 49 (.pointer (some ⟨w.heap.size, 0, none⟩))) ∧ w' = (w.alloc (.cells #[.string T, .iface 51 (.pointer (some a))] 72)).drew := by
  have hF' := answers_open hF
  have hop := opPlain51_119w "fmt.errorf" a t w ha
  go_enter Tryf.func17, Tryf.ntmps17
  go_wp2
  apply rows_value nextTurns
  case hr =>
    go_simp
    exact ⟨rfl, rfl⟩
  case h =>
    go_wp2
    go_ret
    exact ⟨_, rfl, rfl⟩

/-- What fmt.Sprintf("%s:%d: ", path, line) is asked. -/
def placeReading (path : List UInt8) (line : Int) : List (List UInt8) := [[37, 115, 58, 37, 100, 58, 32], shape9, FmtStop.pack path, shape3, Go.Extern.Stop.digits 8 (line % 18446744073709551616).toNat]

theorem wrap_cells (w : World) (o1 o2 : Obj) (T : ByteArray) (x y : Value) :
    (((((w.alloc o1).alloc o2).alloc (.cells #[.string T] 53)).alloc (.cells #[x, y] 20)).drew.drew).cell? ⟨w.heap.size + 1 + 1 + 1, 0, none⟩ = some x ∧
    (((((w.alloc o1).alloc o2).alloc (.cells #[.string T] 53)).alloc (.cells #[x, y] 20)).drew.drew).cell? ⟨w.heap.size + 1 + 1 + 1, 1, none⟩ = some y ∧
    (((((w.alloc o1).alloc o2).alloc (.cells #[.string T] 53)).alloc (.cells #[x, y] 20)).drew.drew).cell? ⟨w.heap.size + 1 + 1, 0, none⟩ = some (.string T) := by
  refine ⟨?_, ?_, ?_⟩
  · show ((((w.alloc o1).alloc o2).alloc (.cells #[.string T] 53)).alloc (.cells #[x, y] 20)).cell? _ = _
    rw [World.cell?_alloc_at _ _ _ _ (by simp)]; rfl
  · show ((((w.alloc o1).alloc o2).alloc (.cells #[.string T] 53)).alloc (.cells #[x, y] 20)).cell? _ = _
    rw [World.cell?_alloc_at _ _ _ _ (by simp)]; rfl
  · show ((((w.alloc o1).alloc o2).alloc (.cells #[.string T] 53)).alloc (.cells #[x, y] 20)).cell? _ = _
    rw [World.cell?_alloc_lt _ _ _ (by simp), World.cell?_alloc_at _ _ _ _ (by simp)]; rfl

theorem wrap_below (w : World) (o1 o2 o3 o4 o5 : Obj) : Below w.heap.size w ((((((w.alloc o1).alloc o2).alloc o3).alloc o4).drew.drew).alloc o5).drew :=
  (((((((Below.refl _ _).alloc (Nat.le_refl _) o1).alloc (by simp) o2).alloc (by simp; omega) o3).alloc (by simp; omega) o4).drew.drew).alloc (by show _ ≤ (((((w.alloc o1).alloc o2).alloc o3).alloc o4)).heap.size; simp; omega) o5).drew

set_option maxRecDepth 100000 in
set_option maxHeartbeats 400000 in
theorem place_any (F : Interp) (path name fm : ByteArray) (line : Int) (s : ByteArray) (blk : Nat) (w : World) (hF : F.answers w.tape) (hc0 : w.cell? ⟨blk, 0, none⟩ = some (.iface 9 (.string s)))
    (hT : (FmtStop.textOf (F "fmt.Sprintf" (placeReading path.data.toList line) 0)).size ≤ 1099511627776) (hn : name.size ≤ 1099511627776)
    (hfm : ∀ (blk : Nat) (w : World), F.answers w.tape → w.cell? ⟨blk, 0, none⟩ = some (.iface 9 (.string s)) →
      Calls Tryf.prog 17 #[.string fm, .slice (some ⟨blk, 0, none⟩) 1 1] w fun e w' => ∃ T, e = .returned (.iface 51 (.pointer (some ⟨w.heap.size, 0, none⟩))) ∧ w' = (w.alloc (.cells #[.string T] 53)).drew) :
    Calls Tryf.prog 13 #[.agg #[.string path, .int .i64 line, .string name], .string fm, .slice (some ⟨blk, 0, none⟩) 1 1] w fun e w' => ∃ b, e = .returned (.iface 49 (.pointer (some ⟨b, 0, none⟩))) ∧ Below w.heap.size w w' := by
  have hF' := answers_open hF
  have HFM := tuck hfm
  have hb : blk < w.heap.size := World.block_lt_of_cell? _ _ hc0
  obtain ⟨X, hX⟩ : ∃ X, FmtStop.textOf (F "fmt.Sprintf" (placeReading path.data.toList line) 0) = X := ⟨_, rfl⟩
  rw [hX] at hT
  unfold placeReading at hX
  clear hfm
  have hbel : ∀ o1 o2, Below w.heap.size w ((w.alloc o1).alloc o2).drew := fun o1 o2 => (((Below.refl _ _).alloc (Nat.le_refl _) o1).alloc (by simp) o2).drew
  have HBel := tuck hbel
  clear hbel
  by_cases hnm : name.toList.isEmpty = true
  · go_enter Tryf.func13, Tryf.ntmps13
    go_wp2_with fail
    refine (HFM.out blk _ (by exact hF) (by rw [(HBel.out _ _).cell (by exact hb)]; exact hc0)).mono ?_
    rintro e w1 ⟨T, rfl, rfl⟩
    go_wp2_with fail
    obtain ⟨q1, q2, q3⟩ := wrap_cells w (.cells #[.string path, .int .i64 line, .string name] 29) (.cells #[.iface 9 (.string path), .iface 3 (.int .i64 line)] 20) T (.iface 9 (.string X)) (.iface 51 (.pointer (some ⟨w.heap.size + 1 + 1, 0, none⟩)))
    refine (errorf_wrap F X T ⟨w.heap.size + 1 + 1, 0, none⟩ _ _ (by exact hF) q1 q2 q3).mono ?_
    rintro e w2 ⟨T2, rfl, rfl⟩
    clear q1 q2 q3
    go_wp2
    go_ret
    exact ⟨_, rfl, wrap_below _ _ _ _ _ _⟩
  · have hnm' : name.toList.isEmpty = false := by simpa using hnm
    go_enter Tryf.func13, Tryf.ntmps13
    go_wp2_with fail
    refine (HFM.out blk _ (by exact hF) (by rw [(HBel.out _ _).cell (by exact hb)]; exact hc0)).mono ?_
    rintro e w1 ⟨T, rfl, rfl⟩
    go_wp2_with fail
    obtain ⟨q1, q2, q3⟩ := wrap_cells w (.cells #[.string path, .int .i64 line, .string name] 29) (.cells #[.iface 9 (.string path), .iface 3 (.int .i64 line)] 20) T (.iface 9 (.string (X ++ (name ++ ⟨#[58, 32]⟩)))) (.iface 51 (.pointer (some ⟨w.heap.size + 1 + 1, 0, none⟩)))
    refine (errorf_wrap F (X ++ (name ++ ⟨#[58, 32]⟩)) T ⟨w.heap.size + 1 + 1, 0, none⟩ _ _ (by exact hF) q1 q2 q3).mono ?_
    rintro e w2 ⟨T2, rfl, rfl⟩
    clear q1 q2 q3
    go_wp2
    go_ret
    exact ⟨_, rfl, wrap_below _ _ _ _ _ _⟩
end Go.Proofs.Qxb6608952aFmt
