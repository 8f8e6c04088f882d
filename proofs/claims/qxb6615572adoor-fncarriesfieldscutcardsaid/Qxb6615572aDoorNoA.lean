import Derived.Test.Qxb6615572aDoorKin
namespace Go.Proofs.Qxb6615572aDoor
open Go.RowKit Go.Maps Go.WideMaps

set_option maxRecDepth 100000 in
set_option maxHeartbeats 4000000 in
theorem no_kept {w : World} {pb rb ub b : Nat} {opq query : ByteArray} {va : Option Addr} {vc : Nat} {method : ByteArray} {u : Nat} {pq wf : Bool} (sa : Option Addr) (n c : Nat)
    (h : Seen w pb rb ub b none method opq query va u vc pq wf) :
    Calls Tryd.prog 12 #[.pointer (some ⟨pb, 0, none⟩), .pointer (some ⟨rb, 0, none⟩), .slice sa n c] w fun e w' => e = .returned (.bool false) ∧ Below w.heap.size w w' := by
  have rk := fun z => (h.req z).k
  have rm := fun z => (h.req z).m
  have ru := fun z => (h.req z).u
  have rh := fun z => (h.req z).h
  have ry := fun z => (h.req z).y
  have ro := fun z => (h.req z).o
  have rq := fun z => (h.req z).q
  have hlook := h.look
  have H16 := tuck h.query
  have H17 := tuck h.formed
  have inst : Nonempty (Kin w) := ⟨⟨w, Below.refl _ _⟩⟩
  clear h
  go_enter Tryd.func12, Tryd.ntmps12
  go_wp2
  simp only [List.append]
  refine wp_region_kin (by kernel_rfl) (by kernel_rfl) ?_
  repeat (go_big_quiet_step (first | (go_at_call 16; exact H16.out _) | (go_at_call 17; exact H17.out _)))
  refine wpQuiet_nil ?_
  rintro _ ⟨z, rfl⟩
  go_wp2
  go_ret
  exact ⟨rfl, z.below⟩

set_option maxRecDepth 100000 in
set_option maxHeartbeats 4000000 in
theorem no_method {w : World} {pb rb ub b : Nat} {opq query : ByteArray} {va : Option Addr} {vc : Nat} {kq : Addr} {method : ByteArray} {u : Nat} {pq wf : Bool} (m1 : method ≠ strGET) (m2 : method ≠ strHEAD) (sa : Option Addr) (n c : Nat)
    (h : Seen w pb rb ub b (some kq) method opq query va u vc pq wf) :
    Calls Tryd.prog 12 #[.pointer (some ⟨pb, 0, none⟩), .pointer (some ⟨rb, 0, none⟩), .slice sa n c] w fun e w' => e = .returned (.bool false) ∧ Below w.heap.size w w' := by
  have rk := fun z => (h.req z).k
  have rm := fun z => (h.req z).m
  have ru := fun z => (h.req z).u
  have rh := fun z => (h.req z).h
  have ry := fun z => (h.req z).y
  have ro := fun z => (h.req z).o
  have rq := fun z => (h.req z).q
  have hlook := h.look
  have H16 := tuck h.query
  have H17 := tuck h.formed
  have inst : Nonempty (Kin w) := ⟨⟨w, Below.refl _ _⟩⟩
  have g1 := (Lib.bytes_beq_false_iff method strGET).2 m1
  have g2 := (Lib.bytes_beq_false_iff method strHEAD).2 m2
  rw [show strGET.toList = [71, 69, 84] by rw [ByteArray.toList_eq]; rfl] at g1
  rw [show strHEAD.toList = [72, 69, 65, 68] by rw [ByteArray.toList_eq]; rfl] at g2
  clear h
  go_enter Tryd.func12, Tryd.ntmps12
  go_wp2
  simp only [List.append]
  refine wp_region_kin (by kernel_rfl) (by kernel_rfl) ?_
  repeat (go_big_quiet_step (first | (go_at_call 16; exact H16.out _) | (go_at_call 17; exact H17.out _)))
  refine wpQuiet_nil ?_
  rintro _ ⟨z, rfl⟩
  go_wp2
  go_ret
  exact ⟨rfl, z.below⟩
end Go.Proofs.Qxb6615572aDoor
