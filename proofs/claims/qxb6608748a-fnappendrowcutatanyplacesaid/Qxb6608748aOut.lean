import Derived.Test.Qxb6608748aDecode
namespace Go.Proofs.Qxb6608748a
open Go.RowKit

/-- What is known of a slice of bytes: where it is not empty it lies at the head of block g. -/
def OutV (w : World) (og : Option Addr) (N : Nat) (os : List UInt8) : Prop := os.length = N ∧ (0 < N → ∃ g, og = some ⟨g, 0, none⟩ ∧ OutAt w g N os)

theorem out_of {w : World} {B : Nat} {v : Value} {N : Nat} {os : List UInt8} (h : w.ownsRow B 5 1 v N (Lib.byteCells os)) : ∃ og oc, v = .slice og N oc ∧ OutV w og N os := by
  have hl : os.length = N := by have := h.1; rw [Lib.byteCells_length] at this; omega
  have hc := @World.ownsRow.cells _ _ _ _ _ _ _ h
  rcases h.2 with ⟨rfl, rfl⟩ | ⟨g, cap, cur, rfl, _⟩
  · exact ⟨none, 0, rfl, hl, fun h => by omega⟩
  · refine ⟨some ⟨g, 0, none⟩, cap, rfl, hl, fun _ => ⟨g, rfl, hl, fun j hj => ?_⟩⟩
    have := hc (g := g) rfl j (.int .u8 (os.getD j 0).toNat) (by simp [Lib.byteCells, show j < os.length by omega])
    have hadd : (⟨g, 0, none⟩ : Addr).add j = ⟨g, j, none⟩ := by unfold Addr.add; split <;> simp_all
    rw [hadd] at this
    exact this

theorem OutAt.kept {w w' : World} {g N : Nat} {os : List UInt8} (h : OutAt w g N os) (hb : Below w.heap.size w w') : OutAt w' g N os :=
  ⟨h.1, fun j hj => by rw [hb.cell (World.block_lt_of_cell? _ _ (h.2 j hj))]; exact h.2 j hj⟩

theorem OutV.kept {w w' : World} {og : Option Addr} {N : Nat} {os : List UInt8} (h : OutV w og N os) (hb : Below w.heap.size w w') : OutV w' og N os :=
  ⟨h.1, fun hN => by obtain ⟨g, e, ho⟩ := h.2 hN; exact ⟨g, e, ho.kept hb⟩⟩

/-- The argument b in the same words. -/
def InV (w : World) (ao : Option Addr) (m : Nat) (bs : List UInt8) : Prop := bs.length = m ∧ (0 < m → ∃ b off, ao = some ⟨b, off, none⟩ ∧ ∀ j, j < m → w.cell? ⟨b, off + j, none⟩ = some (.int .u8 (bs.getD j 0).toNat))

theorem add_none (b off j : Nat) : (⟨b, off, none⟩ : Addr).add j = ⟨b, off + j, none⟩ := by unfold Addr.add; split <;> simp_all

theorem InV.of {w : World} {ao : Option Addr} {m mc : Nat} {bs : List UInt8} (h : BytesAt w ao m mc bs) : InV w ao m bs := by
  obtain ⟨hl, ⟨rfl, rfl, rfl⟩ | ⟨x, rfl, hc⟩⟩ := h
  · exact ⟨hl, fun h => by omega⟩
  · refine ⟨hl, fun hm => ?_⟩
    obtain ⟨b, off, spot⟩ := x
    have c0 := hc 0 (.int .u8 (bs.getD 0 0).toNat) (by simp [Lib.byteCells, show 0 < bs.length by omega])
    have hspot : spot = none := by simpa [Addr.add] using World.cell?_spot c0
    subst hspot
    refine ⟨b, off, rfl, fun j hj => ?_⟩
    have := hc j (.int .u8 (bs.getD j 0).toNat) (by simp [Lib.byteCells, show j < bs.length by omega])
    rw [add_none] at this
    exact this

theorem InV.kept {w w' : World} {ao : Option Addr} {m : Nat} {bs : List UInt8} (h : InV w ao m bs) (hb : Below w.heap.size w w') : InV w' ao m bs :=
  ⟨h.1, fun hm => by
    obtain ⟨b, off, e, hc⟩ := h.2 hm
    exact ⟨b, off, e, fun j hj => by rw [hb.cell (World.block_lt_of_cell? _ _ (hc j hj))]; exact hc j hj⟩⟩

theorem BytesAt.kept {w w' : World} {ao : Option Addr} {m mc : Nat} {bs : List UInt8} (h : BytesAt w ao m mc bs) (hb : Below w.heap.size w w') : BytesAt w' ao m mc bs := by
  obtain ⟨hl, h1 | ⟨x, rfl, hc⟩⟩ := h
  · exact ⟨hl, .inl h1⟩
  · exact ⟨hl, .inr ⟨x, rfl, fun j u hu => by rw [hb.cell (World.block_lt_of_cell? _ _ (hc j u hu))]; exact hc j u hu⟩⟩

theorem RowAt.kept {w w' : World} {ar : Option Addr} {n : Nat} {R : Nat → ZV} (h : RowAt w ar n R) (hb : Below w.heap.size w w') : RowAt w' ar n R := by
  intro hn
  obtain ⟨b, off, e, hv⟩ := h hn
  exact ⟨b, off, e, hv.kept hb (World.block_lt_of_cell? _ _ (hv 0 hn).1)⟩

/-! ### plain facts on the bytes -/

theorem enc_pos (v : ZV) : 1 ≤ v.enc.length := by
  unfold ZV.enc
  split
  · simp
  · split <;> simp

theorem enc_le (v : ZV) (h0 : -9223372036854775808 ≤ v.num) (h1 : v.num ≤ 9223372036854775807) (hs : v.str.size ≤ 1048576) : v.enc.length ≤ 11 + v.str.size := by
  unfold ZV.enc
  split
  · have := Lib.uvarint_length64 (Lib.zigzag_lt h0 h1); simp; omega
  · split
    · have := Lib.uvarint_length64 (x := v.str.size) (by omega); simp; omega
    · simp; omega

theorem str_le (R : Nat → ZV) (n : Nat) : ∀ i, i < n → (R i).str.size ≤ sumStr R n := by
  induction n with
  | zero => intro i hi; omega
  | succ n ih =>
    intro i hi
    simp only [sumStr]
    by_cases e : i = n
    · subst e; omega
    · have := ih i (by omega); omega

theorem encFrom_le (R : Nat → ZV) (n : Nat) (hz : ∀ i, i < n → -9223372036854775808 ≤ (R i).num ∧ (R i).num ≤ 9223372036854775807) (hs : sumStr R n ≤ 1048576) :
    (encFrom R 0 n).length ≤ 11 * n + sumStr R n := by
  induction n with
  | zero => simp [encFrom]
  | succ n ih =>
    simp only [sumStr] at hs ⊢
    have h1 := ih (fun i hi => hz i (by omega)) (by omega)
    have h2 := enc_le (R n) (hz n (by omega)).1 (hz n (by omega)).2 (by omega)
    simp only [encFrom, List.length_append, Nat.zero_add]
    omega

theorem encFrom_mono (R : Nat → ZV) (n k : Nat) (hk : k ≤ n) : (encFrom R 0 k).length ≤ (encFrom R 0 n).length := by
  obtain ⟨d, rfl⟩ := Nat.exists_eq_add_of_le hk
  rw [encFrom_split]; simp

/-- Behind b and the first k values the k-th value's own bytes stand. -/
theorem drop_enc (R : Nat → ZV) (bs : List UInt8) (n k : Nat) (hk : k < n) : ∃ tail, (bs ++ encFrom R 0 n).drop (bs.length + (encFrom R 0 k).length) = (R k).enc ++ tail ∧ (bs ++ encFrom R 0 n).length = bs.length + (encFrom R 0 k).length + (R k).enc.length + tail.length := by
  obtain ⟨d, rfl⟩ : ∃ d, n = k + 1 + d := ⟨n - (k + 1), by omega⟩
  refine ⟨encFrom R (0 + (k + 1)) d, ?_, ?_⟩
  · rw [encFrom_split R 0 (k + 1) d]
    have : bs ++ (encFrom R 0 (k + 1) ++ encFrom R (0 + (k + 1)) d) = (bs ++ encFrom R 0 k) ++ ((R k).enc ++ encFrom R (0 + (k + 1)) d) := by simp [encFrom]
    rw [this, ← List.length_append, List.drop_left]
  · rw [encFrom_split R 0 (k + 1) d]
    simp [encFrom]; omega
end Go.Proofs.Qxb6608748a
