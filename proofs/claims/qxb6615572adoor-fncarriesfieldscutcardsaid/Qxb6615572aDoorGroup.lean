import Derived.Test.Qxb6615572aDoorFields
import Derived.Maps.RangeWalk
import Derived.Maps.OwnSet
import Derived.Maps.AppendAt
import Derived.Deep.Upon
import Derived.Deep.AppendSrc
import Derived.StringKeys
namespace Go.Proofs.Qxb6615572aDoor
open Go.RowKit Go.Maps Go.WideMaps

/-- A slice in a map, read as itself. -/
def RV : Value → Option (DataW Value × List MemPlace)
  | .slice a n c => some (.held (.slice a n c), [])
  | _ => none

theorem RV_inv {v : Value} {y : DataW Value × List MemPlace} (h : RV v = some y) : ∃ c : Option Addr × Nat × Nat, v = .slice c.1 c.2.1 c.2.2 ∧ y = (.held v, []) := by
  unfold RV at h
  split at h
  · cases h
    exact ⟨(_, _, _), rfl, rfl⟩
  · cases h

/-- How many strings the first k lists hold. -/
def total (vs : List (List ByteArray)) (k : Nat) : Nat := ((vs.take k).map List.length).sum

theorem total_succ {vs : List (List ByteArray)} {k : Nat} {xs : List ByteArray} (h : vs[k]? = some xs) : total vs (k + 1) = total vs k + xs.length := by
  unfold total
  rw [List.take_add_one, h]
  simp

abbrev lit (s : ByteArray) : Lit := .string s.data.toList
theorem lit_ne {s t : ByteArray} (h : s ≠ t) : lit s ≠ lit t := by
  intro e
  simp only [lit, Lit.string.injEq] at e
  exact h (ByteArray.ext (Array.toList_inj.mp e))

/-- The map that 'ZZcarries' fills, k names done. V: the slice at each name; L: its strings. -/
structure Grp (w : World) (b base : Nat) (ns : List ByteArray) (vs : List (List ByteArray)) (k : Nat) (V : ByteArray → Value) (L : ByteArray → List ByteArray) (D : DataW Value) : Prop where
  own : w.ownsMap Tryd.prog 9 RV b k D
  val : ∀ s, D.atKey (lit s) (.held (.slice none 0 0)) = .held (V s)
  row : ∀ s, w.ownsRow base 9 1 (V s) (L s).length ((L s).map .string)
  apart : ∀ s t, s ≠ t → (V s).ownBlock = none ∨ (V s).ownBlock ≠ (V t).ownBlock
  has : ∀ s, Maps.has D (lit s) = true ↔ ∃ j, j < k ∧ ns[j]? = some s
  mem : ∀ s v, v ∈ L s ↔ ∃ j, j < k ∧ ns[j]? = some s ∧ ∃ xs, vs[j]? = some xs ∧ v ∈ xs
  len : ∀ s, (L s).length ≤ total vs k
  lt : b < base

theorem Grp.start (w : World) (ns : List ByteArray) (vs : List (List ByteArray)) :
    Grp (w.alloc (.map #[] 0)) w.heap.size (w.heap.size + 1) ns vs 0 (fun _ => .slice none 0 0) (fun _ => []) (.map []) := by
  refine ⟨World.ownsMap_made _ _ _ _, fun _ => rfl, fun _ => World.ownsRow_nil _ _ _ _, fun _ _ _ => .inl rfl, fun s => ?_, fun s v => ?_, fun s => Nat.zero_le _, Nat.lt_succ_self _⟩
  · simp [Maps.has]
  · simp

theorem info9 : (Tryd.prog.info? 9).map (fun i => (i.zero, i.size, i.bytes)) = some (some (.string ⟨#[]⟩), 1, 16) := by kernel_rfl
theorem keyed9 : Keyed Tryd.prog 9 := string_keyed Tryd.underlying9

theorem add_at (b off j : Nat) : (⟨b, off, none⟩ : Addr).add j = ⟨b, off + j, none⟩ := by
  by_cases e : j = 0
  · subst e; rfl
  · simp [Addr.add, e]

theorem own_slice {w : World} {B : Nat} {v : Value} {n : Nat} {xs : List Value} (h : w.ownsRow B 9 1 v n xs) : ∃ a c, v = .slice a n c ∧ n ≤ c := by
  obtain ⟨_, ⟨rfl, rfl⟩ | ⟨g, cap, cur, rfl, _, _, hcap, _⟩⟩ := h
  · exact ⟨none, 0, rfl, Nat.le_refl _⟩
  · exact ⟨_, cap, rfl, hcap⟩

/-- append(v, xs...) onto a row of the call's own. -/
theorem append_row {w : World} {base : Nat} {v : Value} {L xs : List ByteArray} {va : Option Addr} (vc : Nat) (hown : w.ownsRow base 9 1 v L.length (L.map .string)) (hva : StrRow w va xs) (hb : L.length + xs.length ≤ 1048576) (hbase : base ≤ w.heap.size) :
    ∃ v' w1, (Builtin.append_ #[22, 22] 22 #[v, .slice va xs.length vc]).run Tryd.prog w = .ok v' w1 ∧ w1.ownsRow base 9 1 v' (L ++ xs).length ((L ++ xs).map .string) ∧ w.grownBy w1 v.ownBlock ∧ (v'.ownBlock = v.ownBlock ∨ v'.ownBlock = some w.heap.size) := by
  obtain ⟨i0, hi, hz0, hz1, hz2⟩ := info_parts info9
  by_cases h0 : 0 < xs.length
  · obtain ⟨b, off, rfl, hv⟩ := hva h0
    obtain ⟨v', w1, h1, h2, h3, _, h5⟩ := run_append_own_at (P := Tryd.prog) w base 22 22 9 i0 (.string ⟨#[]⟩) 1 16 Tryd.underlying22 hi hz0 hz1 hz2 rfl (by decide) v L.length (L.map .string) hown ⟨b, off, none⟩ xs.length vc (xs.map .string) (by simp)
      (fun j u hu => by
        rw [List.getElem?_map] at hu
        obtain ⟨x, hx, rfl⟩ := Option.map_eq_some_iff.1 hu
        rw [add_at]
        exact hv j x hx)
      (fun u hu => by obtain ⟨x, _, rfl⟩ := List.mem_map.1 hu; rfl) (by unfold maxLen; omega) (by omega) hbase
    exact ⟨v', w1, h1, by rw [List.length_append, List.map_append]; exact h2, h3, h5⟩
  · have e : xs = [] := by cases xs with
      | nil => rfl
      | cons x r => simp at h0
    subst e
    obtain ⟨a, c, rfl, hc⟩ := own_slice hown
    have hs : Src Tryd.prog i0.size 22 (.slice va 0 vc) 0 [] w := by
      cases va with
      | none => exact Src.ofNil w Tryd.underlying22 vc
      | some y => exact Src.ofSlice w Tryd.underlying22 y 0 vc [] (by simp) (fun j u hu => by simp at hu) (fun u hu => by cases hu)
    refine ⟨_, w, run_append_nothing w 22 22 22 9 i0 Tryd.underlying22 hi a L.length c hc (.slice va 0 vc) hs, by simpa using hown, ⟨rfl, rfl, rfl, Nat.le_refl _, fun _ _ _ => rfl⟩, .inl rfl⟩

theorem zero22 (w : World) : (zeroValue 22).run Tryd.prog w = .ok (.slice none 0 0) w := by kernel_rfl

theorem RV_held {v : Value} (a : Option Addr) (n c : Nat) (h : v = .slice a n c) : RV v = some (.held v, []) := by subst h; rfl

/-- One round: look up, append, store. -/
theorem Grp.step {w : World} {b base : Nat} {ns : List ByteArray} {vs : List (List ByteArray)} {k : Nat} {V : ByteArray → Value} {L : ByteArray → List ByteArray} {D : DataW Value}
    (h : Grp w b base ns vs k V L D) {x : ByteArray} {xs : List ByteArray} (hx : ns[k]? = some x) (hxs : vs[k]? = some xs) (hsz : x.size ≤ maxLen) {va : Option Addr} (vc : Nat) (hva : StrRow w va xs)
    (hb : total vs (k + 1) ≤ 1048576) (hk : k < maxLen) (hbase : base ≤ w.heap.size) :
    ∃ v' w1 w2 V' L' D', (Instr.lookup 65 (.map (some b)) (.string x) false).run Tryd.prog w = .ok (V x) w ∧ (Builtin.append_ #[22, 22] 22 #[V x, .slice va xs.length vc]).run Tryd.prog w = .ok v' w1 ∧
      (Instr.mapUpdate 65 (.map (some b)) (.string x) v').run Tryd.prog w1 = .ok () w2 ∧ Grp w2 b base ns vs (k + 1) V' L' D' ∧ Below b w w1 ∧ Below b w w2 := by
  have hkey := keyOf_string_mk (P := Tryd.prog) Tryd.underlying9 hsz
  have hD := h.own.isMap
  have hkl := keyed9.key hkey
  have htot := total_succ hxs
  have hlx := h.len x
  obtain ⟨v0, ps, hlook, hRv⟩ := h.own.lookup (t := 65) (e := 22) keyed9 Tryd.underlying65 (zero22 w) (zd := .held (.slice none 0 0)) (zp := []) rfl hkey
  have ev : v0 = V x := by
    obtain ⟨c, rfl, hy⟩ := RV_inv hRv
    have := h.val x
    rw [lit] at this
    rw [Prod.mk.injEq, this] at hy
    exact (DataW.held.inj hy.1).symm
  subst ev
  obtain ⟨v', w1, happ, hown', hgrow, hloc⟩ := append_row vc (h.row x) hva (by omega) hbase
  obtain ⟨a1, c1, hv1, _⟩ := own_slice hown'
  have hne : ∀ s, (V s).ownBlock ≠ some b := fun s e => by have := ((h.row s).lt b e).1; have := h.lt; omega
  have hown1 : w1.ownsMap Tryd.prog 9 RV b k D := h.own.kept hgrow (fun e => hne x e.symm)
  obtain ⟨w2, hupd, hown2, hg2⟩ := hown1.update (t := 65) (e := 22) keyed9 Tryd.underlying65 hk hkey (RV_held a1 _ c1 hv1)
  have hblt := h.own.lt
  have hbel1 : Below b w w1 := (Below.refl b w).grown hgrow (Nat.le_of_lt hblt) (fun j hj => by have := ((h.row x).lt j hj).1; have := h.lt; omega)
  have hbel2 : Below b w w2 := hbel1.grown hg2 (by have := hbel1.size; omega) (fun j hj => by cases hj; exact Nat.le_refl _)
  have hv'ne : v'.ownBlock ≠ some b := fun e => by have := (hown'.lt b e).1; have := h.lt; omega
  refine ⟨v', w1, w2, fun s => if s = x then v' else V s, fun s => if s = x then L x ++ xs else L s, _, hlook, happ, hupd, ⟨hown2, ?_, ?_, ?_, ?_, ?_, ?_, h.lt⟩, hbel1, hbel2⟩
  · intro s
    by_cases e : s = x
    · subst e
      rw [if_pos rfl]
      exact atKey_put_same hD hkl _ _
    · rw [if_neg e, ← h.val s]
      exact atKey_put_other (lit_ne e) _ _
  · intro s
    by_cases e : s = x
    · subst e
      simp only [if_true]
      exact hown'.kept hg2 (.inr hv'ne)
    · simp only [e, if_false]
      refine ((h.row s).kept hgrow (h.apart s x e)).kept hg2 (.inr (hne s))
  · intro s t hst
    have key : ∀ s, s ≠ x → (V s).ownBlock = none ∨ (V s).ownBlock ≠ v'.ownBlock := by
      intro s hs
      rcases hloc with h1 | h1
      · rw [h1]; exact h.apart s x hs
      · cases hq : (V s).ownBlock with
        | none => exact .inl rfl
        | some g =>
          refine .inr fun e => ?_
          rw [h1] at e
          have := ((h.row s).lt g hq).2
          cases e
          omega
    by_cases e : s = x
    · have e2 : t ≠ x := fun e2 => hst (e.trans e2.symm)
      simp only [e, if_true, e2, if_false]
      rcases key t e2 with h1 | h1
      · cases hq : v'.ownBlock with
        | none => exact .inl rfl
        | some g => exact .inr (by rw [h1]; simp)
      · exact .inr (fun q => h1 q.symm)
    · by_cases e2 : t = x
      · simp only [e, if_false, e2, if_true]
        exact key s e
      · simp only [e, e2, if_false]
        exact h.apart s t hst
  · intro s
    by_cases e : s = x
    · subst e
      rw [has_put_same hD hkl]
      exact ⟨fun _ => ⟨k, Nat.lt_succ_self _, hx⟩, fun _ => rfl⟩
    · rw [has_put_other (lit_ne e), h.has s]
      refine ⟨fun ⟨j, hj, hj2⟩ => ⟨j, by omega, hj2⟩, fun ⟨j, hj, hj2⟩ => ?_⟩
      by_cases ej : j = k
      · subst ej; rw [hx] at hj2; cases hj2; exact absurd rfl e
      · exact ⟨j, by omega, hj2⟩
  · intro s v
    by_cases e : s = x
    · subst e
      simp only [if_true, List.mem_append, h.mem s v]
      constructor
      · rintro (⟨j, hj, hj2, q⟩ | hv)
        · exact ⟨j, by omega, hj2, q⟩
        · exact ⟨k, Nat.lt_succ_self _, hx, xs, hxs, hv⟩
      · rintro ⟨j, hj, hj2, ys, hy, hv⟩
        by_cases ej : j = k
        · subst ej; rw [hxs] at hy; cases hy; exact .inr hv
        · exact .inl ⟨j, by omega, hj2, ys, hy, hv⟩
    · simp only [e, if_false, h.mem s v]
      refine ⟨fun ⟨j, hj, hj2, q⟩ => ⟨j, by omega, hj2, q⟩, fun ⟨j, hj, hj2, q⟩ => ?_⟩
      by_cases ej : j = k
      · subst ej; rw [hx] at hj2; cases hj2; exact absurd rfl e
      · exact ⟨j, by omega, hj2, q⟩
  · intro s
    by_cases e : s = x
    · simp only [e, if_true, List.length_append]; omega
    · simp only [e, if_false]; have := h.len s; omega
end Go.Proofs.Qxb6615572aDoor
