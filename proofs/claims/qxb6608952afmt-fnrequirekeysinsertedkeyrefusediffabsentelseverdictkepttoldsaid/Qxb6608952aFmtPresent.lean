import Derived.Test.Qxb6608952aFmtKeys
import Derived.Test.Qxb6608952aFmtBytes
import Derived.BigQuiet
import Derived.Deep.QuietTactic
import Derived.Deep.DeepCutAuto
import Derived.Laws.CopyOwn
namespace Go.Proofs.Qxb6608952aFmt
open Go.RowKit Go.Extern.Stop Go.Stop Go.Extern

/-- An error value: nil just where 'fine' is true. -/
def ErrIff (fine : Bool) (v : Value) : Prop := (fine = true ∧ v = .nilIface) ∨ (fine = false ∧ ∃ b, v = .iface 49 (.pointer (some ⟨b, 0, none⟩)))

theorem box_cell (w : World) (o : Obj) (v : Value) : ((w.alloc o).alloc (.cells #[v] 22)).cell? ⟨w.heap.size + 1, 0, none⟩ = some v := by
  rw [World.cell?_alloc_at _ _ _ _ (by simp)]
  rfl

set_option maxRecDepth 100000 in
set_option maxHeartbeats 1000000 in
theorem present_any (F : Interp) (path name : ByteArray) (line : Int) (ra : Option Addr) (rs : List ByteArray) (rc : Nat) (a : Option Addr) (ps : List ByteArray) (c : Nat) (w : World) (hF : F.answers w.tape)
    (hR : StrRow w ra rs) (hrn : rs.length ≤ 1048576) (hP : StrRow w a ps) (hn : ps.length ≤ maxLen) (hcost : cost rs ≤ 1099511627776)
    (hT : (FmtStop.textOf (F "fmt.Sprintf" (placeReading path.data.toList line) 0)).size ≤ 1099511627776) (hnm : name.size ≤ 1099511627776) :
    Calls Tryf.prog 6 #[.agg #[.string path, .int .i64 line, .string name], .slice ra rs.length rc, .slice a ps.length c] w fun e w' => ∃ v, e = .returned v ∧ ErrIff (lacking ps rs).isEmpty v ∧ Below w.heap.size w w' := by
  have hb2 : Hid (∀ o1 o2, Below w.heap.size w ((w.alloc o1).alloc o2)) := fun o1 o2 => ((Below.refl _ _).alloc (Nat.le_refl _) o1).alloc (by simp) o2
  have HK := tuck (fun o => keys_any F path name line ra rs rc ⟨w.heap.size + 1, 0, none⟩ a ps c ((w.alloc o).alloc (.cells #[.slice a ps.length c] 22)) (by exact hF) (hR.kept (Nat.le_refl _) (hb2.out _ _)) hrn (box_cell _ _ _) (hP.kept (Nat.le_refl _) (hb2.out _ _)) hn hcost hT hnm)
  clear hR hP hT hnm hcost
  go_enter Tryf.func6, Tryf.ntmps6
  go_wp2_with fail
  refine (HK.out _).mono ?_
  rintro e w1 ⟨h1, h2⟩
  have hbel : Below w.heap.size w w1 := (hb2.out _ _).trans (h2.mono (by simp; omega))
  unfold KeysSaid at h1
  by_cases h0 : lacking ps rs = []
  · rw [if_pos h0] at h1
    subst h1
    clear h2
    have HB := tuck hbel
    clear hbel
    go_wp2
    go_ret
    exact ⟨_, rfl, by rw [h0]; exact .inl ⟨rfl, rfl⟩, HB.out⟩
  · rw [if_neg h0] at h1
    obtain ⟨b, rfl⟩ := h1
    clear h2
    have HB := tuck hbel
    clear hbel
    go_wp2
    go_ret
    exact ⟨_, rfl, by rw [List.isEmpty_eq_false_iff.2 h0]; exact .inr ⟨rfl, b, rfl⟩, HB.out⟩
end Go.Proofs.Qxb6608952aFmt
