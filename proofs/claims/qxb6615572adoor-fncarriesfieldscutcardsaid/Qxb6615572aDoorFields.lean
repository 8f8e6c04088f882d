import Derived.Test.Qxb6615572aDoorQuery
namespace Go.Proofs.Qxb6615572aDoor
open Go.RowKit

/-- The strings of a slice lie at its address (a slice without elements needs no address). -/
def StrRow (w : World) (a : Option Addr) (xs : List ByteArray) : Prop :=
  0 < xs.length → ∃ b off, a = some ⟨b, off, none⟩ ∧ ∀ j x, xs[j]? = some x → w.cell? ⟨b, off + j, none⟩ = some (.string x)

theorem StrRow.kept {w w' : World} {a : Option Addr} {xs : List ByteArray} (h : StrRow w a xs) {B : Nat} (hB : w.heap.size ≤ B) (hb : Below B w w') : StrRow w' a xs := by
  intro hn
  obtain ⟨b, off, e, hv⟩ := h hn
  refine ⟨b, off, e, fun j x hx => ?_⟩
  have h1 := hv j x hx
  rw [hb.cell (by exact Nat.lt_of_lt_of_le (World.block_lt_of_cell? _ _ h1) hB)]
  exact h1

theorem at_get {α : Type} {xs : List α} {k : Nat} (h : k < xs.length) : xs[k]? = some xs[k] := List.getElem?_eq_getElem h

/-- Strings of Go's own length. -/
def Sized (xs : List ByteArray) : Prop := ∀ x ∈ xs, x.size ≤ maxLen

/-- Are all fields good? -/
def okF (fs : List (ByteArray × ByteArray)) : Bool := fs.all fun f => tokS f.1 && !ctlS f.2

theorem okF_snoc {fs : List (ByteArray × ByteArray)} {k : Nat} {f : ByteArray × ByteArray} (h : fs[k]? = some f) (h1 : okF (fs.take k) = true) (h2 : tokS f.1 = true) (h3 : ctlS f.2 = false) : okF (fs.take (k + 1)) = true := by
  rw [List.take_add_one, h]
  unfold okF at *
  rw [List.all_append, h1]
  simp [h2, h3]

theorem okF_bad {fs : List (ByteArray × ByteArray)} {k : Nat} {f : ByteArray × ByteArray} (h : fs[k]? = some f) (h2 : (tokS f.1 && !ctlS f.2) = false) : okF fs = false := by
  refine Bool.eq_false_iff.2 fun q => ?_
  have := List.all_eq_true.1 q f (List.mem_of_getElem? h)
  rw [h2] at this
  cases this

theorem zip_get {ns vs : List ByteArray} {k : Nat} {x y : ByteArray} (h : ns[k]? = some x) (h2 : vs[k]? = some y) : (ns.zip vs)[k]? = some (x, y) := by
  rw [List.getElem?_zip_eq_some]
  exact ⟨h, h2⟩

set_option maxHeartbeats 1000000 in
theorem zzFields_any (a b : Option Addr) (ns vs : List ByteArray) (ca cb : Nat) (w : World) (hA : StrRow w a ns) (hB : StrRow w b vs) (hl : vs.length = ns.length) (hn : ns.length ≤ 1048576) (sa : Sized ns) (sb : Sized vs) :
    Calls Tryd.prog 10 #[.slice a ns.length ca, .slice b ns.length cb] w fun e w' => e = .returned (.bool (okF (ns.zip vs))) ∧ w' = w := by
  have HA := tuck hA
  have HB := tuck hB
  have SA := tuck sa
  have SB := tuck sb
  have HL := tuck hl
  clear hA hB sa sb hl
  go_enter Tryd.func10, Tryd.ntmps10
  go_wp2
  go_loop [5] (fun i => ∃ k : Nat, k ≤ ns.length ∧ i = .int .i64 k ∧ Hid (okF ((ns.zip vs).take k) = true)) (fun i => ns.length - (intOf i).toNat)
  case atStart => exact ⟨0, by omega, rfl, tuck rfl⟩
  case round =>
    obtain ⟨k, hk, rfl, HO⟩ := hrel
    by_cases hlt : k < ns.length
    · obtain ⟨x, hx⟩ : ∃ x, ns[k]? = some x := ⟨_, at_get hlt⟩
      obtain ⟨y, hy⟩ : ∃ y, vs[k]? = some y := ⟨_, at_get (by rw [HL.out]; exact hlt)⟩
      obtain ⟨b1, o1, rfl, hv1⟩ := HA.out (by omega)
      obtain ⟨b2, o2, rfl, hv2⟩ := HB.out (by rw [HL.out]; omega)
      have c1 := hv1 k x hx
      have c2 := hv2 k y hy
      have HZ := tuck (zip_get hx hy)
      have H1 := tuck (zzToken_any x w (SA.out x (List.mem_of_getElem? hx)))
      have H2 := tuck (zzControl_any y w (SB.out y (List.mem_of_getElem? hy)))
      clear hv1 hv2 hx hy
      cases q1 : tokS x with
      | false =>
        rw [q1] at H1
        go_wp2_with fail
        refine H1.out.mono ?_
        rintro e w1 ⟨rfl, rfl⟩
        go_wp2
        go_ret
        exact ⟨by rw [okF_bad HZ.out (by simp [q1])]; rfl, rfl⟩
      | true =>
        rw [q1] at H1
        cases q2 : ctlS y with
        | true =>
          rw [q2] at H2
          go_wp2_with fail
          refine H1.out.mono ?_
          rintro e w1 ⟨rfl, rfl⟩
          go_wp2_with fail
          refine H2.out.mono ?_
          rintro e w2 ⟨rfl, rfl⟩
          go_wp2
          go_ret
          exact ⟨by rw [okF_bad HZ.out (by simp [q2])]; rfl, rfl⟩
        | false =>
          rw [q2] at H2
          go_wp2_with fail
          refine H1.out.mono ?_
          rintro e w1 ⟨rfl, rfl⟩
          go_wp2_with fail
          refine H2.out.mono ?_
          rintro e w2 ⟨rfl, rfl⟩
          go_wp2
          go_round
          case rel => exact ⟨k + 1, by omega, by go_num, tuck (okF_snoc HZ.out HO.out q1 q2)⟩
          case measure => simp [intOf]; omega
    · have e : (ns.zip vs).take k = ns.zip vs := List.take_of_length_le (by rw [List.length_zip, HL.out]; omega)
      rw [e] at HO
      go_wp2
      go_ret
      exact ⟨by rw [HO.out]; rfl, rfl⟩
end Go.Proofs.Qxb6615572aDoor
