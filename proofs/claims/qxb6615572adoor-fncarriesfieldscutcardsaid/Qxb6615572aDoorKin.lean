import Derived.Test.Qxb6615572aDoorFormed
import Derived.Lib.SlicesS
import Derived.BigQuiet
import Derived.Deep.QuietTactic
namespace Go.Proofs.Qxb6615572aDoor
open Go.RowKit Go.Maps Go.WideMaps

/-- A world that agrees with w on all that w holds. -/
structure Kin (w : World) where
  world : World
  below : Below w.heap.size w world

/-- A region that draws its order, whose operations read what w holds, and whose callees may make memory of their own: walked once, in the order of the text. -/
theorem wp_region_kin {P : Program} {id : Nat} {Q : Exit → Act → World → Prop} {a : Act} {w : World} {l : List Oper} (hm : P.follows .mixedOrders = true) (hB : Region.lexB .any l.toArray = true)
    (h : wpQuiet P l.toArray (fun w' => ∃ z : Kin w, w' = z.world) (fun a' => ∀ w', (∃ z : Kin w, w' = z.world) → Q .normal a' w') l a) : (Code.region id l.toArray true).wp P Q a w :=
  wp_region_quiet (C := fun w' => ∃ z : Kin w, w' = z.world) hm hB ⟨⟨w.drew, (Below.refl _ _).drew⟩, rfl⟩ (by simpa using h)

def strGET : ByteArray := ⟨#[71, 69, 84]⟩
def strHEAD : ByteArray := ⟨#[72, 69, 65, 68]⟩
def strUpgrade : ByteArray := ⟨#[85, 112, 103, 114, 97, 100, 101]⟩

/-- The proxy, the request and its URL, as 'carries' reads them. -/
structure Req (w : World) (pb rb ub b : Nat) (kp : Option Addr) (method opq query : ByteArray) : Prop where
  k : w.cell? ⟨pb, 1, none⟩ = some (.pointer kp)
  m : w.cell? ⟨rb, 0, none⟩ = some (.string method)
  u : w.cell? ⟨rb, 1, none⟩ = some (.pointer (some ⟨ub, 0, none⟩))
  h : w.cell? ⟨rb, 5, none⟩ = some (.map (some b))
  y : w.cell? ⟨rb, 6, none⟩ = some .nilIface
  o : w.cell? ⟨ub, 1, none⟩ = some (.string opq)
  q : w.cell? ⟨ub, 6, none⟩ = some (.string query)

theorem Req.kin {w : World} {pb rb ub b : Nat} {kp : Option Addr} {method opq query : ByteArray} (h : Req w pb rb ub b kp method opq query) (z : Kin w) : Req z.world pb rb ub b kp method opq query :=
  ⟨by rw [z.below.cell (by exact World.block_lt_of_cell? _ _ h.k)]; exact h.k, by rw [z.below.cell (by exact World.block_lt_of_cell? _ _ h.m)]; exact h.m, by rw [z.below.cell (by exact World.block_lt_of_cell? _ _ h.u)]; exact h.u,
   by rw [z.below.cell (by exact World.block_lt_of_cell? _ _ h.h)]; exact h.h, by rw [z.below.cell (by exact World.block_lt_of_cell? _ _ h.y)]; exact h.y, by rw [z.below.cell (by exact World.block_lt_of_cell? _ _ h.o)]; exact h.o,
   by rw [z.below.cell (by exact World.block_lt_of_cell? _ _ h.q)]; exact h.q⟩

/-- What the region reads, in every world that agrees with w. -/
structure Seen (w : World) (pb rb ub b : Nat) (kp : Option Addr) (method opq query : ByteArray) (va : Option Addr) (u vc : Nat) (pq wf : Bool) : Prop where
  req : ∀ z : Kin w, Req z.world pb rb ub b kp method opq query
  look : ∀ z : Kin w, (Instr.lookup 65 (.map (some b)) (.string ⟨#[85, 112, 103, 114, 97, 100, 101]⟩) false).run Tryd.prog z.world = .ok (.slice va u vc) z.world
  query : ∀ z : Kin w, Calls Tryd.prog 16 #[.string query] z.world fun e w'' => e = .returned (.bool pq) ∧ ∃ m : Kin w, w'' = m.world
  formed : ∀ z : Kin w, Calls Tryd.prog 17 #[.map (some b)] z.world fun e w'' => e = .returned (.bool wf) ∧ ∃ m : Kin w, w'' = m.world
end Go.Proofs.Qxb6615572aDoor
