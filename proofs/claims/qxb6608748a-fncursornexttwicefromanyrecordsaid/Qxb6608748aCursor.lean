import Derived.Test.Qxb6608748aProg
import Derived.WalkKit
import Derived.WalkSpells
import Derived.WalkLawsBesides
namespace Go.Proofs.Qxb6608748a
open Go.RowKit

/-- A leaf in memory at block b: its 'next' pointer and its row of records, 'c' long. -/
structure LeafAt (w : World) (b : Nat) (nx : Option Addr) (c : Nat) : Prop where
  old : b < w.heap.size
  next : w.cell? ⟨b, 5, none⟩ = some (.pointer nx)
  recs : ∃ ra, w.cell? ⟨b, 9, none⟩ = some (.slice ra c c)

theorem LeafAt.kept {w w' : World} {b : Nat} {nx : Option Addr} {c : Nat} (h : LeafAt w b nx c) {B : Nat} (hb : Below B w w') (hB : b < B) : LeafAt w' b nx c := by
  obtain ⟨h0, h1, ra, h2⟩ := h
  exact ⟨by have := hb.size; omega, by rw [hb.cell (by exact hB)]; exact h1, ra, by rw [hb.cell (by exact hB)]; exact h2⟩

set_option maxHeartbeats 400000 in
theorem at_stay (b : Nat) (nx : Option Addr) (c : Nat) (i : Int) (w : World)
    (h : LeafAt w b nx c) (h1 : i < c) :
    Calls Try.prog 28 #[.pointer (some ⟨b, 0, none⟩), .int .i64 i] w fun e w' => e = .returned (.agg #[.pointer (some ⟨b, 0, none⟩), .int .i64 i]) ∧ Below w.heap.size w w' := by
  obtain ⟨hb, hn, ra, hr⟩ := h
  have ht : ((i == (c : Int)) : Bool) = false := beq_eq_false_iff_ne.2 (by omega)
  have hr1 : ∀ o, (w.alloc o).cell? ⟨b, 9, none⟩ = some (.slice ra c c) := fun o => by rw [World.cell?_alloc_lt _ _ _ hb]; exact hr
  clear hr hn
  go_enter Try.func28, Try.ntmps28
  go_wp2
  exact bodyPost_ret (v := .agg #[.pointer (some ⟨b, 0, none⟩), .int .i64 i]) (by simp [results, Try.results28, go_sem]) rfl ⟨rfl, (Below.refl _ _).alloc (Nat.le_refl _) _⟩

set_option maxHeartbeats 400000 in
theorem at_top (b : Nat) (c : Nat) (w : World) (h : LeafAt w b none c) :
    Calls Try.prog 28 #[.pointer (some ⟨b, 0, none⟩), .int .i64 c] w fun e w' => e = .returned (.agg #[.pointer (some ⟨b, 0, none⟩), .int .i64 c]) ∧ Below w.heap.size w w' := by
  obtain ⟨hb, hn, ra, hr⟩ := h
  have hr1 : ∀ o, (w.alloc o).cell? ⟨b, 9, none⟩ = some (.slice ra c c) := fun o => by rw [World.cell?_alloc_lt _ _ _ hb]; exact hr
  have hn1 : ∀ o, (w.alloc o).cell? ⟨b, 5, none⟩ = some (.pointer none) := fun o => by rw [World.cell?_alloc_lt _ _ _ hb]; exact hn
  clear hr hn
  go_enter Try.func28, Try.ntmps28
  go_wp2
  exact bodyPost_ret (v := .agg #[.pointer (some ⟨b, 0, none⟩), .int .i64 c]) (by simp [results, Try.results28, go_sem]) rfl ⟨rfl, (Below.refl _ _).alloc (Nat.le_refl _) _⟩

set_option maxHeartbeats 400000 in
theorem at_on (b : Nat) (q : Addr) (c : Nat) (w : World) (h : LeafAt w b (some q) c) :
    Calls Try.prog 28 #[.pointer (some ⟨b, 0, none⟩), .int .i64 c] w fun e w' => e = .returned (.agg #[.pointer (some q), .int .i64 0]) ∧ Below w.heap.size w w' := by
  obtain ⟨hb, hn, ra, hr⟩ := h
  have hr1 : ∀ o, (w.alloc o).cell? ⟨b, 9, none⟩ = some (.slice ra c c) := fun o => by rw [World.cell?_alloc_lt _ _ _ hb]; exact hr
  have hn1 : ∀ o, (w.alloc o).cell? ⟨b, 5, none⟩ = some (.pointer (some q)) := fun o => by rw [World.cell?_alloc_lt _ _ _ hb]; exact hn
  clear hr hn
  go_enter Try.func28, Try.ntmps28
  go_wp2
  exact bodyPost_ret (v := .agg #[.pointer (some q), .int .i64 0]) (by simp [results, Try.results28, go_sem]) rfl ⟨rfl, (Below.refl _ _).alloc (Nat.le_refl _) _⟩

/-- What 'next' comes to: from place i of the leaf at b. -/
def stepOf (b : Nat) (nx : Option Addr) (c : Nat) (i : Int) : Value × Int :=
  if i + 1 = c then match nx with | some q => (.pointer (some q), 0) | none => (.pointer (some ⟨b, 0, none⟩), i + 1)
  else (.pointer (some ⟨b, 0, none⟩), i + 1)

theorem at_any (b : Nat) (nx : Option Addr) (c : Nat) (i j : Int) (hj : j = i + 1) (w : World) (h : LeafAt w b nx c) (h1 : i < c) :
    Calls Try.prog 28 #[.pointer (some ⟨b, 0, none⟩), .int .i64 j] w fun e w' => e = .returned (.agg #[(stepOf b nx c i).1, .int .i64 (stepOf b nx c i).2]) ∧ Below w.heap.size w w' := by
  subst hj
  unfold stepOf
  by_cases e : i + 1 = c
  · rw [if_pos e]
    cases nx with
    | none => rw [e]; exact at_top b c w h
    | some q => rw [e]; exact at_on b q c w h
  · rw [if_neg e]
    exact at_stay b nx c (i + 1) w h (by omega)

theorem bcell {W w1 : World} {B : Nat} (hb : Below B W w1) : (∀ b o, b < B → w1.cell? ⟨b, o, none⟩ = W.cell? ⟨b, o, none⟩) ∧ (∀ b o, b < B → w1.frozen? ⟨b, o, none⟩ = W.frozen? ⟨b, o, none⟩) :=
  ⟨fun b o h => hb.cell (p := ⟨b, o, none⟩) h, fun b o h => hb.frozen (p := ⟨b, o, none⟩) h⟩

theorem LeafAt.alloc {w : World} {b : Nat} {nx : Option Addr} {c : Nat} (h : LeafAt w b nx c) (o : Obj) : LeafAt (w.alloc o) b nx c :=
  h.kept ((Below.refl _ _).alloc (Nat.le_refl _) o) h.old

theorem stepOf_ptr (b : Nat) (nx : Option Addr) (c : Nat) (i : Int) : ∃ q j, stepOf b nx c i = (.pointer q, j) := by
  unfold stepOf
  split
  · split <;> exact ⟨_, _, rfl⟩
  · exact ⟨_, _, rfl⟩

set_option maxHeartbeats 400000 in
theorem next_any (b : Nat) (nx : Option Addr) (c : Nat) (i : Int) (w : World) (h : LeafAt w b nx c) (h0 : 0 ≤ i) (h1 : i < c) (hc : c ≤ 64) :
    Calls Try.prog 26 #[.agg #[.pointer (some ⟨b, 0, none⟩), .int .i64 i]] w fun e w' => e = .returned (.agg #[(stepOf b nx c i).1, .int .i64 (stepOf b nx c i).2]) ∧ Below w.heap.size w w' := by
  have K := fun o1 o2 => at_any b nx c i (i + 1) rfl ((w.alloc o1).alloc o2) ((h.alloc o1).alloc o2) h1
  obtain ⟨q, j, hq⟩ := stepOf_ptr b nx c i
  rw [hq] at K ⊢
  have HK : Hid (∀ o1 o2, Calls Try.prog 28 #[.pointer (some ⟨b, 0, none⟩), .int .i64 (i + 1)] ((w.alloc o1).alloc o2) fun e w' => e = .returned (.agg #[.pointer q, .int .i64 j]) ∧ Below ((w.alloc o1).alloc o2).heap.size ((w.alloc o1).alloc o2) w') := K
  clear K hq h
  go_enter Try.func26, Try.ntmps26
  go_wp2_with fail
  refine (HK.out _ _).mono ?_
  rintro e w1 ⟨rfl, hb⟩
  obtain ⟨hc1, hf1⟩ := bcell hb
  have hz : w.heap.size + 1 < w1.heap.size := by have := hb.size; simp at this; omega
  go_wp2
  refine bodyPost_ret (v := .agg #[.pointer q, .int .i64 j]) (by simp [results, Try.results26, go_sem, hc1]) rfl ⟨rfl, ?_⟩
  exact (((((Below.refl _ _).alloc (Nat.le_refl _) _).alloc (by simp) _).trans (hb.mono (by simp; omega))).setCell (by simp) _).setCell (by simp) _

set_option maxHeartbeats 400000 in
theorem cursor_any (b : Nat) (nx : Option Addr) (c : Nat) (i : Int) (w : World) (h : LeafAt w b nx c) (h0 : 0 ≤ i) (h1 : i < c) (hc : c ≤ 64) :
    Calls Try.prog 18 #[.pointer (some ⟨b, 0, none⟩), .int .i64 i] w fun e w' => e = .returned (.tuple #[(stepOf b nx c i).1, .int .i64 (stepOf b nx c i).2]) ∧ Below w.heap.size w w' := by
  have K := next_any b nx c i w h h0 h1 hc
  obtain ⟨q, j, hq⟩ := stepOf_ptr b nx c i
  rw [hq] at K ⊢
  have HK : Hid (Calls Try.prog 26 #[.agg #[.pointer (some ⟨b, 0, none⟩), .int .i64 i]] w fun e w' => e = .returned (.agg #[.pointer q, .int .i64 j]) ∧ Below w.heap.size w w') := K
  clear K hq h
  go_enter Try.func18, Try.ntmps18
  go_wp2_with fail
  refine HK.out.mono ?_
  rintro e w1 ⟨rfl, hb⟩
  go_wp2
  go_region
  all_goals go_wp2
  all_goals go_ret2
  all_goals exact ⟨rfl, (hb.alloc hb.size _).drew⟩
end Go.Proofs.Qxb6608748a
