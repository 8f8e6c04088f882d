import Derived.Test.Qxb6615572aDoorYesA
namespace Go.Proofs.Qxb6615572aDoor
open Go.RowKit Go.Maps Go.WideMaps

set_option maxRecDepth 100000 in
set_option maxHeartbeats 4000000 in
theorem yes_head {w : World} {pb rb ub b : Nat} {opq query : ByteArray} {va : Option Addr} {vc : Nat} {kq : Addr} (ho : opq.size = 0) (sa : Option Addr) (c : Nat)
    (h : Seen w pb rb ub b (some kq) strHEAD opq query va 0 vc true true)
    (fs : List (ByteArray × ByteArray)) (hfs : FieldRow w sa fs) (hfl : fs.length ≤ 1048576) (hfz : ∀ f ∈ fs, f.1.size ≤ maxLen ∧ f.2.size ≤ maxLen) :
    Calls Tryd.prog 12 #[.pointer (some ⟨pb, 0, none⟩), .pointer (some ⟨rb, 0, none⟩), .slice sa fs.length c] w fun e w' => e = .returned (.bool (okF fs)) ∧ Below w.heap.size w w' := by
  have rk := fun z => (h.req z).k
  have rm := fun z => (h.req z).m
  have ru := fun z => (h.req z).u
  have rh := fun z => (h.req z).h
  have ry := fun z => (h.req z).y
  have ro := fun z => (h.req z).o
  have rq := fun z => (h.req z).q
  have hlook := h.look
  have H16 := tuck h.query
  have H17 := tuck h.formed
  have HFS := tuck hfs
  have HFZ := tuck hfz
  have inst : Nonempty (Kin w) := ⟨⟨w, Below.refl _ _⟩⟩
  unfold strHEAD at rm
  have g0 := size_nil.1 ho
  clear h hfs hfz
  go_enter Tryd.func12, Tryd.ntmps12
  go_wp2
  simp only [List.append]
  refine wp_region_kin (by kernel_rfl) (by kernel_rfl) ?_
  repeat (go_big_quiet_step (first | (go_at_call 16; exact H16.out _) | (go_at_call 17; exact H17.out _)))
  refine wpQuiet_nil ?_
  rintro _ ⟨z, rfl⟩
  have HZ := tuck z.below
  generalize z.world = wz at *
  clear rk rm ru rh ry ro rq hlook H16 H17 inst
  go_wp2
  go_loopw [8, 84] (fun _ vi wr => ∃ k : Nat, k ≤ fs.length ∧ vi = .int .i64 k ∧ Hid (okF (fs.take k) = true) ∧ Hid (Below w.heap.size w wr)) (fun _ vi _ => fs.length - (intOf vi).toNat)
  case atStart => exact ⟨0, by omega, rfl, tuck rfl, HZ⟩
  case round =>
    obtain ⟨k, hk, rfl, HO, HB⟩ := hrel
    by_cases hlt : k < fs.length
    · obtain ⟨⟨x, y⟩, hx⟩ : ∃ f, fs[k]? = some f := ⟨_, at_get hlt⟩
      obtain ⟨b1, o1, rfl, hv⟩ := (HFS.out.kept HB.out) (by omega)
      obtain ⟨c1, c2⟩ := hv k x y hx
      obtain ⟨s1, s2⟩ := HFZ.out (x, y) (List.mem_of_getElem? hx)
      have H1 := tuck (fun w' => token_any x w' s1)
      have H2 := tuck (fun w' => control_any y w' s2)
      have HX := tuck hx
      clear hv hx s1 s2
      have HBel : Hid (∀ o, Below w.heap.size w (wr.alloc o)) := tuck fun o => HB.out.alloc HB.out.size o
      cases q1 : tokS x with
      | false =>
        rw [q1] at H1
        go_wp2_with fail
        refine (H1.out _).mono ?_
        rintro e w1 ⟨rfl, rfl⟩
        go_wp2
        go_ret
        exact ⟨by rw [okF_bad HX.out (by simp [q1])]; rfl, HBel.out _⟩
      | true =>
        rw [q1] at H1
        cases q2 : ctlS y with
        | true =>
          rw [q2] at H2
          go_wp2_with fail
          refine (H1.out _).mono ?_
          rintro e w1 ⟨rfl, rfl⟩
          go_wp2_with fail
          refine (H2.out _).mono ?_
          rintro e w2 ⟨rfl, rfl⟩
          go_wp2
          go_ret
          exact ⟨by rw [okF_bad HX.out (by simp [q2])]; rfl, HBel.out _⟩
        | false =>
          rw [q2] at H2
          go_wp2_with fail
          refine (H1.out _).mono ?_
          rintro e w1 ⟨rfl, rfl⟩
          go_wp2_with fail
          refine (H2.out _).mono ?_
          rintro e w2 ⟨rfl, rfl⟩
          go_wp2
          go_roundw
          case rel => exact ⟨k + 1, by omega, by go_num, tuck (okF_snoc HX.out HO.out q1 q2), tuck (HBel.out _)⟩
          case measure => simp [intOf]; omega
    · have e : fs.take k = fs := List.take_of_length_le (by omega)
      rw [e] at HO
      go_wp2
      go_ret
      exact ⟨by rw [HO.out]; rfl, HB.out⟩
end Go.Proofs.Qxb6615572aDoor
