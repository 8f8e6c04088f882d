import Derived.Test.Qxb6615572aDoorNoA
import Derived.Test.Qxb6615572aDoorNoB
import Derived.Test.Qxb6615572aDoorNoC
import Derived.Test.Qxb6615572aDoorYesA
import Derived.Test.Qxb6615572aDoorYesB
namespace Go.Proofs.Qxb6615572aDoor
open Go.RowKit Go.Maps Go.WideMaps

theorem Grp.kin {w : World} {b base : Nat} {ns : List ByteArray} {vs : List (List ByteArray)} {k : Nat} {V : ByteArray → Value} {L : ByteArray → List ByteArray} {D : DataW Value}
    (h : Grp w b base ns vs k V L D) (z : Kin w) : Grp z.world b base ns vs k V L D := by
  have hg : w.grownBy z.world none := ⟨z.below.os, z.below.tape, z.below.output, z.below.size, fun i hi _ => z.below.block i hi⟩
  refine ⟨h.own.kept hg (by simp), h.val, fun s => (h.row s).kept hg ?_, h.apart, h.has, h.mem, h.len, h.lt⟩
  cases (V s).ownBlock with
  | none => exact .inl rfl
  | some g => exact .inr (by simp)

/-- What 'carries' asks of the request alone. -/
def Plain (kp : Option Addr) (method opq query : ByteArray) (L : ByteArray → List ByteArray) (D : DataW Value) : Prop :=
  kp ≠ none ∧ (method = strGET ∨ method = strHEAD) ∧ opq.size = 0 ∧ L strUpgrade = [] ∧ plainQ query = true ∧ ∀ s, Maps.has D (lit s) = true → Good L s

theorem says_false {P : Prop} {e : Ending} (he : e = .returned (.bool false)) (h : ¬ P) : SaysIff P e := ⟨false, he, fun q => (by cases q), fun q => absurd q h⟩

theorem carries_any {w : World} {b base : Nat} {ns : List ByteArray} {vs : List (List ByteArray)} {k : Nat} {V : ByteArray → Value} {L : ByteArray → List ByteArray} {D : DataW Value}
    (h : Grp w b base ns vs k V L D) (hsz : ∀ s v, v ∈ L s → v.size ≤ maxLen) (hlen : total vs k ≤ 1048576)
    (pb rb ub : Nat) (kp : Option Addr) (method opq query : ByteArray) (hr : Req w pb rb ub b kp method opq query) (hq : query.size ≤ 1048576)
    (sa : Option Addr) (fs : List (ByteArray × ByteArray)) (c : Nat) (hfs : FieldRow w sa fs) (hfl : fs.length ≤ 1048576) (hfz : ∀ f ∈ fs, f.1.size ≤ maxLen ∧ f.2.size ≤ maxLen) :
    Calls Tryd.prog 12 #[.pointer (some ⟨pb, 0, none⟩), .pointer (some ⟨rb, 0, none⟩), .slice sa fs.length c] w fun e w' => SaysIff (Plain kp method opq query L D ∧ okF fs = true) e ∧ Below w.heap.size w w' := by
  classical
  obtain ⟨va, vc, hv0, _⟩ := own_slice (h.row strUpgrade)
  have hseen : ∃ wf : Bool, (wf = true ↔ ∀ s, Maps.has D (lit s) = true → Good L s) ∧ Seen w pb rb ub b kp method opq query va (L strUpgrade).length vc (plainQ query) wf := by
    refine ⟨decide (∀ s, Maps.has D (lit s) = true → Good L s), decide_eq_true_iff, ⟨hr.kin, fun z => ?_, fun z => ?_, fun z => ?_⟩⟩
    · obtain ⟨v0, ps, hlook, hRv⟩ := (h.kin z).own.lookup (t := 65) (e := 22) keyed9 Tryd.underlying65 (zero22 z.world) (zd := .held (.slice none 0 0)) (zp := []) rfl (keyOf_string_mk (P := Tryd.prog) Tryd.underlying9 (s := strUpgrade) (by decide))
      have ev : v0 = V strUpgrade := by
        obtain ⟨c, rfl, hy⟩ := RV_inv hRv
        have := h.val strUpgrade
        rw [lit] at this
        rw [Prod.mk.injEq, this] at hy
        exact (DataW.held.inj hy.1).symm
      rw [ev, hv0] at hlook
      exact hlook
    · refine (query_any query z.world hq).mono ?_
      rintro e w1 ⟨rfl, rfl⟩
      exact ⟨rfl, z, rfl⟩
    · refine (formed_any (h.kin z) hsz hlen).mono ?_
      rintro e w1 ⟨⟨r, rfl, hr⟩, hb⟩
      have e : r = decide (∀ s, Maps.has D (lit s) = true → Good L s) := by
        rw [Bool.eq_iff_iff, hr, decide_eq_true_iff]
      rw [e]
      exact ⟨rfl, ⟨w1, z.below.trans (hb.mono z.below.size)⟩, rfl⟩
  obtain ⟨wf, hwf, hs⟩ := hseen
  cases kp with
  | none => exact (no_kept sa _ c hs).mono fun e w' ⟨he, hb⟩ => ⟨says_false he (fun q => q.1.1 rfl), hb⟩
  | some kq =>
  by_cases hm : method = strGET ∨ method = strHEAD
  case neg => exact (no_method (fun q => hm (.inl q)) (fun q => hm (.inr q)) sa _ c hs).mono fun e w' ⟨he, hb⟩ => ⟨says_false he (fun q => hm q.1.2.1), hb⟩
  by_cases ho : opq.size = 0
  case neg =>
    rcases hm with rfl | rfl
    · exact (no_opaque_get ho sa _ c hs).mono fun e w' ⟨he, hb⟩ => ⟨says_false he (fun q => ho q.1.2.2.1), hb⟩
    · exact (no_opaque_head ho sa _ c hs).mono fun e w' ⟨he, hb⟩ => ⟨says_false he (fun q => ho q.1.2.2.1), hb⟩
  by_cases hu : (L strUpgrade).length = 0
  case neg =>
    have hu2 : ¬ L strUpgrade = [] := fun q => hu (by rw [q]; rfl)
    rcases hm with rfl | rfl
    · exact (no_upgrade_get ho (by omega) sa _ c hs).mono fun e w' ⟨he, hb⟩ => ⟨says_false he (fun q => hu2 q.1.2.2.2.1), hb⟩
    · exact (no_upgrade_head ho (by omega) sa _ c hs).mono fun e w' ⟨he, hb⟩ => ⟨says_false he (fun q => hu2 q.1.2.2.2.1), hb⟩
  have hu2 : L strUpgrade = [] := List.eq_nil_of_length_eq_zero hu
  rw [hu] at hs
  cases hp : plainQ query with
  | false =>
    rw [hp] at hs
    rcases hm with rfl | rfl
    · exact (no_query_get ho sa _ c hs).mono fun e w' ⟨he, hb⟩ => ⟨says_false he (fun q => by have := q.1.2.2.2.2.1; rw [hp] at this; cases this), hb⟩
    · exact (no_query_head ho sa _ c hs).mono fun e w' ⟨he, hb⟩ => ⟨says_false he (fun q => by have := q.1.2.2.2.2.1; rw [hp] at this; cases this), hb⟩
  | true =>
    rw [hp] at hs
    cases hw : wf with
    | false =>
      rw [hw] at hs hwf
      rcases hm with rfl | rfl
      · exact (no_formed_get ho sa _ c hs).mono fun e w' ⟨he, hb⟩ => ⟨says_false he (fun q => by have := hwf.2 q.1.2.2.2.2.2; cases this), hb⟩
      · exact (no_formed_head ho sa _ c hs).mono fun e w' ⟨he, hb⟩ => ⟨says_false he (fun q => by have := hwf.2 q.1.2.2.2.2.2; cases this), hb⟩
    | true =>
      rw [hw] at hs hwf
      have hall := hwf.1 rfl
      have fin : ∀ {m : ByteArray}, (m = strGET ∨ m = strHEAD) → ∀ {e : Ending}, e = .returned (.bool (okF fs)) → SaysIff (Plain (some kq) m opq query L D ∧ okF fs = true) e := fun hm e he =>
        ⟨okF fs, he, fun q => ⟨⟨by simp, hm, ho, hu2, hp, hall⟩, q⟩, fun q => q.2⟩
      rcases hm with rfl | rfl
      · exact (yes_get ho sa c hs fs hfs hfl hfz).mono fun e w' ⟨he, hb⟩ => ⟨fin (.inl rfl) he, hb⟩
      · exact (yes_head ho sa c hs fs hfs hfl hfz).mono fun e w' ⟨he, hb⟩ => ⟨fin (.inr rfl) he, hb⟩
end Go.Proofs.Qxb6615572aDoor
