import Derived.Test.Qxb6608748aFit
namespace Go.Proofs.Qxb6608748a
open Go.RowKit

theorem newLeaf_int (z : Int) (h0 : 0 ≤ z) (hz : z ≤ 64) (w : World) :
    Calls Try.prog 24 #[.int .i64 z] w fun e w' => ∃ b, e = .returned (.pointer (some ⟨b, 0, none⟩)) ∧ w.heap.size ≤ b ∧ LeafAt w' b none z.toNat ∧ w'.frozen? ⟨b, 5, none⟩ = false ∧ Below w.heap.size w w' := by
  obtain ⟨c, rfl⟩ := Int.eq_ofNat_of_zero_le h0
  rw [Int.toNat_natCast]
  exact newLeaf_any c (by omega) w

/-- The first loop of 'zzBuildLeaves', k rounds done: the row of leaves at block B, the row of prefixes at B + 1; n: how many there will be. -/
structure Mid (B n k : Nat) (nb : Nat → Nat) (f : Nat → Int) (w wr : World) : Prop where
  leaves : wr.rowIs B 42 n (fun j => if j < k then .pointer (some ⟨nb j, 0, none⟩) else .pointer none)
  pre : wr.rowIs (B + 1) 3 n (fun j => if j < k then .int .i64 (tot f j) else .int .i64 0)
  leaf : ∀ j, j < k → B + 2 ≤ nb j ∧ LeafAt wr (nb j) none (f j).toNat ∧ wr.frozen? ⟨nb j, 5, none⟩ = false
  apart : ∀ i j, i < j → j < k → nb i < nb j
  size : B + 2 ≤ wr.heap.size
  below : Below B w wr

theorem Mid.start (w : World) (n : Nat) (f : Nat → Int) :
    Mid w.heap.size n 0 (fun _ => 0) f w ((w.alloc (.cells (madeCells #[Value.pointer none] n) 42)).alloc (.cells (madeCells #[Value.int .i64 0] n) 3)) := by
  refine ⟨((World.rowIs_made w (.pointer none) n 42).alloc _).congr (fun i _ => by simp), ?_, fun j hj => by omega, fun i j _ hj => by omega, by simp, ((Below.refl _ _).alloc (Nat.le_refl _) _).alloc (by simp) _⟩
  have := World.rowIs_made (w.alloc (.cells (madeCells #[Value.pointer none] n) 42)) (.int .i64 0) n 3
  rw [World.size_alloc] at this
  exact this.congr (fun i _ => by simp)

theorem LeafAt.setOther {w : World} {b : Nat} {nx : Option Addr} {c : Nat} (h : LeafAt w b nx c) {a : Addr} (ha : b ≠ a.block) (v : Value) : LeafAt (w.setCell a v) b nx c := by
  obtain ⟨h0, h1, ra, h2⟩ := h
  exact ⟨by simpa [World.setCell] using h0, by rw [World.cell?_of_block (Below.heap_setCell _ _ _ _ (by exact ha))]; exact h1, ra, by rw [World.cell?_of_block (Below.heap_setCell _ _ _ _ (by exact ha))]; exact h2⟩

/-- One round: a new leaf, its address and its prefix laid. -/
theorem Mid.step {B n k : Nat} {nb : Nat → Nat} {f : Nat → Int} {w wr w1 : World} (h : Mid B n k nb f w wr) (b : Nat) (hb : wr.heap.size ≤ b)
    (hl : LeafAt w1 b none (f k).toNat) (hf : w1.frozen? ⟨b, 5, none⟩ = false) (hbel : Below wr.heap.size wr w1) :
    Mid B n (k + 1) (fun j => if j = k then b else nb j) f w ((w1.setCell ⟨B, k, none⟩ (.pointer (some ⟨b, 0, none⟩))).setCell ⟨B + 1, k, none⟩ (.int .i64 (tot f k))) := by
  obtain ⟨h1, h2, h3, h4, h5, h6⟩ := h
  have l1 := h1.lt
  have l2 := h2.lt
  refine ⟨?_, ?_, ?_, ?_, ?_, ?_⟩
  · refine (((h1.of_block (hbel.block _ l1)).set k _).setOther (by simp) _).congr (fun j hj => ?_)
    by_cases e : j = k
    · subst e; simp
    · by_cases e2 : j < k
      · simp [e, e2, show j < k + 1 from by omega]
      · simp [e, e2, show ¬ j < k + 1 from by omega]
  · refine (((h2.of_block (hbel.block _ l2)).setOther (by simp) _).set k _).congr (fun j hj => ?_)
    by_cases e : j = k
    · subst e; simp
    · by_cases e2 : j < k
      · simp [e, e2, show j < k + 1 from by omega]
      · simp [e, e2, show ¬ j < k + 1 from by omega]
  · intro j hj
    by_cases e : j = k
    · subst e
      simp only [if_true]
      exact ⟨by omega, (hl.setOther (by simp; omega) _).setOther (by simp; omega) _, by simpa using hf⟩
    · simp only [e, if_false]
      obtain ⟨g1, g2, g3⟩ := h3 j (by omega)
      have g0 := g2.old
      refine ⟨g1, ((g2.kept hbel g0).setOther (by simp; omega) _).setOther (by simp; omega) _, ?_⟩
      rw [World.frozen?_setCell, World.frozen?_setCell, hbel.frozen (by exact g0)]
      exact g3
  · intro i j hij hj
    have g0 := fun (q : Nat) (hq : q < k) => (h3 q hq).2.1.old
    by_cases e : j = k
    · subst e
      simp only [if_true, show i ≠ j from by omega, if_false]
      have := g0 i (by omega)
      omega
    · simp only [e, if_false, show i ≠ k from by omega]
      exact h4 i j hij (by omega)
  · have := hbel.size
    simp [World.setCell]; omega
  · exact ((h6.trans (hbel.mono (by omega))).setCell (by simp) _).setCell (by simp) _

/-- The second loop, k rounds done. -/
structure Link (B n k : Nat) (nb : Nat → Nat) (f : Nat → Int) (w wr : World) : Prop where
  leaves : wr.rowIs B 42 n (fun j => .pointer (some ⟨nb j, 0, none⟩))
  pre : wr.rowIs (B + 1) 3 n (fun j => .int .i64 (tot f j))
  leaf : ∀ j, j < n → B + 2 ≤ nb j ∧ LeafAt wr (nb j) (if j < k ∧ j + 1 < n then some ⟨nb (j + 1), 0, none⟩ else none) (f j).toNat ∧ wr.frozen? ⟨nb j, 5, none⟩ = false
  apart : ∀ i j, i < j → j < n → nb i < nb j
  below : Below B w wr

theorem Link.start {B n : Nat} {nb : Nat → Nat} {f : Nat → Int} {w wr : World} (h : Mid B n n nb f w wr) : Link B n 0 nb f w wr := by
  obtain ⟨h1, h2, h3, h4, h5, h6⟩ := h
  exact ⟨h1.congr (fun i hi => by simp [hi]), h2.congr (fun i hi => by simp [hi]), fun j hj => by simpa using h3 j hj, h4, h6⟩

theorem Link.step {B n k : Nat} {nb : Nat → Nat} {f : Nat → Int} {w wr : World} (h : Link B n k nb f w wr) (hk : k + 1 < n) :
    Link B n (k + 1) nb f w (wr.setCell ⟨nb k, 5, none⟩ (.pointer (some ⟨nb (k + 1), 0, none⟩))) := by
  obtain ⟨h1, h2, h3, h4, h5⟩ := h
  obtain ⟨q1, q2, q3⟩ := h3 k (by omega)
  refine ⟨h1.setOther (by simp; omega) _, h2.setOther (by simp; omega) _, ?_, h4, h5.setCell (by simp; omega) _⟩
  intro j hj
  obtain ⟨g1, g2, g3⟩ := h3 j hj
  refine ⟨g1, ?_, by rw [World.frozen?_setCell]; exact g3⟩
  by_cases e : j = k
  · subst e
    obtain ⟨s0, s1, ra, s2⟩ := g2
    rw [if_pos ⟨by omega, hk⟩]
    refine ⟨by simpa [World.setCell] using s0, World.cell?_setCell_same _ _ _ s1, ra, ?_⟩
    rw [World.cell?_setCell_other _ _ _ _ (by simp)]
    exact s2
  · have hne : nb j ≠ nb k := by
      rcases Nat.lt_or_gt_of_ne e with hlt | hlt
      · have := h4 j k hlt (by omega); omega
      · have := h4 k j hlt hj; omega
    have := g2.setOther (a := ⟨nb k, 5, none⟩) (by simpa using hne) (.pointer (some ⟨nb (k + 1), 0, none⟩))
    by_cases e2 : j < k
    · simpa [e2, show j < k + 1 from by omega] using this
    · simpa [e2, show ¬ j < k + 1 from by omega] using this

/-- What 'zzBuildLeaves' has built: n leaves in a chain, their addresses in the row at LB, their prefixes in the row at PB. -/
structure Built (LB PB n : Nat) (nb : Nat → Nat) (f : Nat → Int) (w : World) : Prop where
  leaves : ∀ j, j < n → w.cell? ⟨LB, j, none⟩ = some (.pointer (some ⟨nb j, 0, none⟩))
  pre : ∀ j, j < n → w.cell? ⟨PB, j, none⟩ = some (.int .i64 (tot f j))
  leaf : ∀ j, j < n → LeafAt w (nb j) (if j + 1 < n then some ⟨nb (j + 1), 0, none⟩ else none) (f j).toNat

theorem Link.done {B n k : Nat} {nb : Nat → Nat} {f : Nat → Int} {w wr : World} (h : Link B n k nb f w wr) (hk : n ≤ k + 1) : Built B (B + 1) n nb f wr := by
  obtain ⟨h1, h2, h3, h4, h5⟩ := h
  refine ⟨fun j hj => h1.cell hj, fun j hj => h2.cell hj, fun j hj => ?_⟩
  obtain ⟨g1, g2, g3⟩ := h3 j hj
  by_cases e : j + 1 < n
  · simpa [e, show j < k from by omega] using g2
  · simpa [e] using g2

theorem Built.kept {LB PB n : Nat} {nb : Nat → Nat} {f : Nat → Int} {w w' : World} (h : Built LB PB n nb f w) (hb : Below w.heap.size w w') : Built LB PB n nb f w' := by
  obtain ⟨h1, h2, h3⟩ := h
  exact ⟨fun j hj => by rw [hb.cell (World.block_lt_of_cell? _ _ (h1 j hj))]; exact h1 j hj, fun j hj => by rw [hb.cell (World.block_lt_of_cell? _ _ (h2 j hj))]; exact h2 j hj, fun j hj => (h3 j hj).kept hb (h3 j hj).old⟩
end Go.Proofs.Qxb6608748a
