import Derived.Test.Qxb6615572aDoorKin
namespace Go.Proofs.Qxb6615572aDoor
open Go.RowKit Go.Maps Go.WideMaps

set_option maxRecDepth 100000 in
set_option maxHeartbeats 4000000 in
theorem no_opaque_head {w : World} {pb rb ub b : Nat} {opq query : ByteArray} {va : Option Addr} {vc : Nat} {kq : Addr} {u : Nat} {pq wf : Bool} (ho : opq.size ≠ 0) (sa : Option Addr) (n c : Nat)
    (h : Seen w pb rb ub b (some kq) strHEAD opq query va u vc pq wf) :
    Calls Tryd.prog 12 #[.pointer (some ⟨pb, 0, none⟩), .pointer (some ⟨rb, 0, none⟩), .slice sa n c] w fun e w' => e = .returned (.bool false) ∧ Below w.heap.size w w' := by
  have rk := fun z => (h.req z).k
  have rm := fun z => (h.req z).m
  have ru := fun z => (h.req z).u
  have rh := fun z => (h.req z).h
  have ry := fun z => (h.req z).y
  have ro := fun z => (h.req z).o
  have rq := fun z => (h.req z).q
  have hlook := h.look
  have H16 := tuck h.query
  have H17 := tuck h.formed
  have inst : Nonempty (Kin w) := ⟨⟨w, Below.refl _ _⟩⟩
  unfold strHEAD at rm
  have g0 : opq.toList.isEmpty = false := Bool.eq_false_iff.2 fun q => ho (size_nil.2 q)
  clear h
  go_enter Tryd.func12, Tryd.ntmps12
  go_wp2
  simp only [List.append]
  refine wp_region_kin (by kernel_rfl) (by kernel_rfl) ?_
  repeat (go_big_quiet_step (first | (go_at_call 16; exact H16.out _) | (go_at_call 17; exact H17.out _)))
  refine wpQuiet_nil ?_
  rintro _ ⟨z, rfl⟩
  go_wp2
  go_ret
  exact ⟨rfl, z.below⟩

set_option maxRecDepth 100000 in
set_option maxHeartbeats 4000000 in
theorem no_upgrade_head {w : World} {pb rb ub b : Nat} {opq query : ByteArray} {va : Option Addr} {vc : Nat} {kq : Addr} {u : Nat} {pq wf : Bool} (ho : opq.size = 0) (hu : 0 < u) (sa : Option Addr) (n c : Nat)
    (h : Seen w pb rb ub b (some kq) strHEAD opq query va u vc pq wf) :
    Calls Tryd.prog 12 #[.pointer (some ⟨pb, 0, none⟩), .pointer (some ⟨rb, 0, none⟩), .slice sa n c] w fun e w' => e = .returned (.bool false) ∧ Below w.heap.size w w' := by
  have rk := fun z => (h.req z).k
  have rm := fun z => (h.req z).m
  have ru := fun z => (h.req z).u
  have rh := fun z => (h.req z).h
  have ry := fun z => (h.req z).y
  have ro := fun z => (h.req z).o
  have rq := fun z => (h.req z).q
  have hlook := h.look
  have H16 := tuck h.query
  have H17 := tuck h.formed
  have inst : Nonempty (Kin w) := ⟨⟨w, Below.refl _ _⟩⟩
  unfold strHEAD at rm
  have g0 := size_nil.1 ho
  have hu1 : (0 : Int) < (u : Int) := by omega
  have hu2 : decide (0 < u) = true := decide_eq_true hu
  have hu3 : decide ((0 : Int) < (u : Int)) = true := decide_eq_true hu1
  clear h
  go_enter Tryd.func12, Tryd.ntmps12
  go_wp2
  simp only [List.append]
  refine wp_region_kin (by kernel_rfl) (by kernel_rfl) ?_
  repeat (go_big_quiet_step (first | (go_at_call 16; exact H16.out _) | (go_at_call 17; exact H17.out _)))
  refine wpQuiet_nil ?_
  rintro _ ⟨z, rfl⟩
  go_wp2
  go_ret
  exact ⟨rfl, z.below⟩

set_option maxRecDepth 100000 in
set_option maxHeartbeats 4000000 in
theorem no_query_head {w : World} {pb rb ub b : Nat} {opq query : ByteArray} {va : Option Addr} {vc : Nat} {kq : Addr} {wf : Bool} (ho : opq.size = 0) (sa : Option Addr) (n c : Nat)
    (h : Seen w pb rb ub b (some kq) strHEAD opq query va 0 vc false wf) :
    Calls Tryd.prog 12 #[.pointer (some ⟨pb, 0, none⟩), .pointer (some ⟨rb, 0, none⟩), .slice sa n c] w fun e w' => e = .returned (.bool false) ∧ Below w.heap.size w w' := by
  have rk := fun z => (h.req z).k
  have rm := fun z => (h.req z).m
  have ru := fun z => (h.req z).u
  have rh := fun z => (h.req z).h
  have ry := fun z => (h.req z).y
  have ro := fun z => (h.req z).o
  have rq := fun z => (h.req z).q
  have hlook := h.look
  have H16 := tuck h.query
  have H17 := tuck h.formed
  have inst : Nonempty (Kin w) := ⟨⟨w, Below.refl _ _⟩⟩
  unfold strHEAD at rm
  have g0 := size_nil.1 ho
  clear h
  go_enter Tryd.func12, Tryd.ntmps12
  go_wp2
  simp only [List.append]
  refine wp_region_kin (by kernel_rfl) (by kernel_rfl) ?_
  repeat (go_big_quiet_step (first | (go_at_call 16; exact H16.out _) | (go_at_call 17; exact H17.out _)))
  refine wpQuiet_nil ?_
  rintro _ ⟨z, rfl⟩
  go_wp2
  go_ret
  exact ⟨rfl, z.below⟩

set_option maxRecDepth 100000 in
set_option maxHeartbeats 4000000 in
theorem no_formed_head {w : World} {pb rb ub b : Nat} {opq query : ByteArray} {va : Option Addr} {vc : Nat} {kq : Addr} (ho : opq.size = 0) (sa : Option Addr) (n c : Nat)
    (h : Seen w pb rb ub b (some kq) strHEAD opq query va 0 vc true false) :
    Calls Tryd.prog 12 #[.pointer (some ⟨pb, 0, none⟩), .pointer (some ⟨rb, 0, none⟩), .slice sa n c] w fun e w' => e = .returned (.bool false) ∧ Below w.heap.size w w' := by
  have rk := fun z => (h.req z).k
  have rm := fun z => (h.req z).m
  have ru := fun z => (h.req z).u
  have rh := fun z => (h.req z).h
  have ry := fun z => (h.req z).y
  have ro := fun z => (h.req z).o
  have rq := fun z => (h.req z).q
  have hlook := h.look
  have H16 := tuck h.query
  have H17 := tuck h.formed
  have inst : Nonempty (Kin w) := ⟨⟨w, Below.refl _ _⟩⟩
  unfold strHEAD at rm
  have g0 := size_nil.1 ho
  clear h
  go_enter Tryd.func12, Tryd.ntmps12
  go_wp2
  simp only [List.append]
  refine wp_region_kin (by kernel_rfl) (by kernel_rfl) ?_
  repeat (go_big_quiet_step (first | (go_at_call 16; exact H16.out _) | (go_at_call 17; exact H17.out _)))
  refine wpQuiet_nil ?_
  rintro _ ⟨z, rfl⟩
  go_wp2
  go_ret
  exact ⟨rfl, z.below⟩
end Go.Proofs.Qxb6615572aDoor
