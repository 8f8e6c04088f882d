import Derived.Test.Qxb6608748aAppend
import Derived.Test.Qxb6608748aSpec
import Derived.Deep.RegionLaw
namespace Go.Proofs.Qxb6608748a
open Go.RowKit

/-- append onto a row of the call's own, as one step of a region that draws its order. -/
theorem step_append_own {P : Program} {ops : Array Oper} {o : Oper} {a : Act} {w : World} {K : Act → World → Prop} {Q : Exit → Act → World → Prop} {E : Prop}
    (hgd : o.guard = none) (s x : Operand) (t : TypeId)
    (ho : o.op = .call { callee := .builtin .append, args := #[s, x], argTypes := #[t, t] })
    (base : Nat) (e : TypeId) (i : TypeInfo) (z : Value) (size bytes : Nat) (ht : P.underlying t = some (.slice e)) (hi : P.info? e = some i) (hz : i.zero = some z)
    (hsize : i.size = size) (hby : i.bytes = bytes) (hzs : z.cells.size = size) (hsz : 0 < size)
    (v : Value) (n : Nat) (xs : List Value) (hs : a.eval s = v) (hown : w.ownsRow base e size v n xs)
    (ad : Addr) (m c : Nat) (news : List Value) (hx : a.eval x = .slice (some ad) m c) (hl : news.length = m * size) (hnews : ∀ j u, news[j]? = some u → w.cell? (ad.add j) = some u) (h1 : ∀ u ∈ news, u.oneCell' = true)
    (h63 : n + m ≤ maxLen) (hbytes : (n + m) * bytes ≤ 140737488355328) (hbase : base ≤ w.heap.size)
    (h : ∀ v' w', w'.ownsRow base e size v' (n + m) (xs ++ news) → w.grownBy w' v.ownBlock → (v' = .slice none 0 0 ↔ v = .slice none 0 0 ∧ m = 0) → K (a.put o.dst v') w') :
    if Region.wanted o (yielded ops a.tmps) = true then Oper.wp P o a w K Q else E := by
  have hw : Region.wanted o (yielded ops a.tmps) = true := by simp [Region.wanted, hgd]
  rw [if_pos hw]
  exact wp_append_own w s x t ho base e i z size bytes ht hi hz hsize hby hzs hsz v n xs hs hown ad m c news hx hl hnews h1 h63 hbytes hbase h

theorem u8_ne {a b : Nat} (h : a ≠ b) : (((a : Int) == (b : Int)) : Bool) = false := beq_eq_false_iff_ne.2 (by omega)

set_option maxHeartbeats 1000000 in
set_option maxRecDepth 100000 in
theorem value_null (B n k : Nat) (z : Int) (s : ByteArray) (hk1 : k ≠ 1) (hk2 : k ≠ 2) (sv : Value) (xs : List Value) (w : World) (hown : w.ownsRow B 5 1 sv n xs) (hBw : B ≤ w.heap.size) (hlim : n + 1 ≤ 140737488355328) :
    Calls Try.prog 27 #[sv, .agg #[.int .u8 k, .int .i64 z, .string s]] w fun e w' => ∃ v', e = .returned v' ∧ w'.ownsRow B 5 1 v' (n + 1) (xs ++ [.int .u8 0]) ∧ Below B w w' := by
  obtain ⟨i0, hi, hz0, hz1, hz2⟩ := info_parts info5
  have c1 : (((k : Int) == 1) : Bool) = false := u8_ne hk1
  have c2 : (((k : Int) == 2) : Bool) = false := u8_ne hk2
  go_enter Try.func27, Try.ntmps27
  go_wp2_with (at_builtin; refine wpList_append_own _ rfl (.tmp 23) (.tmp 24) 22 rfl B 5 i0 (.int .u8 0) 1 1 Try.underlying22 hi hz0 hz1 hz2 rfl (by decide) _ _ _ rfl ((hown.alloc _).alloc _) ⟨w.heap.size + 1, 0, none⟩ 1 1 [Value.int .u8 0] rfl rfl ?c1 ?c2 ?c3 ?c4 ?c5 ?_)
  case c1 =>
    intro j u hj
    match j, hj with
    | 0, hj => simp at hj; subst hj; simp [Addr.add]
  case c2 => intro u hu; simp at hu; subst hu; rfl
  case c3 => unfold maxLen; omega
  case c4 => omega
  case c5 => simp; omega
  intro v' w1 hown' hgrow _
  have hb : Below B w w1 := (((Below.refl B w).alloc hBw _).alloc (by simp; omega) _).grown hgrow (by simp; omega) (fun k hk => (hown.lt k hk).1)
  go_wp2
  go_ret
  exact ⟨v', rfl, hown', hb⟩

theorem one_cell (w : World) (o : Obj) (c : Value) (t : TypeId) : ∀ j u, [c][j]? = some u → ((w.alloc o).alloc (.cells #[c] t)).cell? ((⟨w.heap.size + 1, 0, none⟩ : Addr).add j) = some u := by
  intro j u hj
  match j, hj with
  | 0, hj => simp at hj; subst hj; simp [Addr.add]

theorem one_only (k : IntKind) (z : Int) : ∀ u ∈ [Value.int k z], u.oneCell' = true := by intro u hu; simp at hu; subst hu; rfl

set_option maxHeartbeats 1000000 in
set_option maxRecDepth 100000 in
theorem value_num (B n : Nat) (z : Int) (h0 : -9223372036854775808 ≤ z) (h1 : z ≤ 9223372036854775807) (s : ByteArray) (sv : Value) (xs : List Value) (w : World) (hown : w.ownsRow B 5 1 sv n xs) (hBw : B ≤ w.heap.size) (hlim : n + 11 ≤ 140737488355328) :
    Calls Try.prog 27 #[sv, .agg #[.int .u8 1, .int .i64 z, .string s]] w fun e w' => ∃ v', e = .returned v' ∧ w'.ownsRow B 5 1 v' (n + 1 + (Lib.uvarint (Lib.zigzag z)).length) (xs ++ [.int .u8 1] ++ Lib.byteCells (Lib.uvarint (Lib.zigzag z))) ∧ Below B w w' := by
  obtain ⟨i0, hi, hz0, hz1, hz2⟩ := info_parts info5
  have HK := tuck (varint_any B (n + 1) z h0 h1)
  have hne : ∀ k, sv.ownBlock = some k → k < w.heap.size := fun k hk => (hown.lt k hk).2
  have HN := tuck hne
  have HO := tuck hown
  clear hne hown
  go_enter Try.func27, Try.ntmps27
  go_wp2
  go_region_law (first
      | (refine step_append_own rfl (.tmp 9) (.tmp 10) 22 rfl B 5 i0 (.int .u8 0) 1 1 Try.underlying22 hi hz0 hz1 hz2 rfl (by decide) _ _ _ rfl ((HO.out.alloc _).alloc _) ⟨w.heap.size + 1, 0, none⟩ 1 1 [Value.int .u8 1] rfl rfl (one_cell _ _ _ _) (one_only _ _) (by unfold maxLen; omega) (by omega) (by simp; omega) ?_; intro v' w1 hown' hgrow _; have hS1 : w1.cell? ⟨w.heap.size, 1, none⟩ = some (.int .i64 z) := hgrow.cell (by simp) (fun e => by have := HN.out _ e.symm; simp at this))
      | (go_simp; go_at_call 29; refine (HK.out _ _ _ hown' (by have := hgrow.size; simp at this; omega) (by omega)).mono ?_; rintro e w2 ⟨v2, rfl, ho2, hb2⟩))
  all_goals
    have hb : Below B w w1 := ((((Below.refl B w).alloc hBw _).alloc (by simp; omega) _).drew).grown hgrow (by simp; omega) (fun k hk => (HO.out.lt k hk).1)
    go_wp2
    go_ret
    exact ⟨v2, rfl, ho2, hb.trans hb2⟩

set_option maxHeartbeats 1000000 in
set_option maxRecDepth 100000 in
theorem value_text (B n : Nat) (z : Int) (s : ByteArray) (sv : Value) (xs : List Value) (w : World) (hown : w.ownsRow B 5 1 sv n xs) (hBw : B ≤ w.heap.size) (hlim : n + 11 + s.size ≤ 140737488355328) :
    Calls Try.prog 27 #[sv, .agg #[.int .u8 2, .int .i64 z, .string s]] w fun e w' => ∃ v', e = .returned v' ∧ w'.ownsRow B 5 1 v' (n + 1 + ((Lib.uvarint s.size).length + s.size)) (xs ++ [.int .u8 2] ++ Lib.byteCells (Lib.uvarint s.size ++ s.data.toList)) ∧ Below B w w' := by
  obtain ⟨i0, hi, hz0, hz1, hz2⟩ := info_parts info5
  have HK := tuck (string_any B (n + 1) s)
  have hne : ∀ k, sv.ownBlock = some k → k < w.heap.size := fun k hk => (hown.lt k hk).2
  have HN := tuck hne
  have HO := tuck hown
  clear hne hown
  go_enter Try.func27, Try.ntmps27
  go_wp2
  go_region_law (first
      | (refine step_append_own rfl (.tmp 17) (.tmp 18) 22 rfl B 5 i0 (.int .u8 0) 1 1 Try.underlying22 hi hz0 hz1 hz2 rfl (by decide) _ _ _ rfl ((HO.out.alloc _).alloc _) ⟨w.heap.size + 1, 0, none⟩ 1 1 [Value.int .u8 2] rfl rfl (one_cell _ _ _ _) (one_only _ _) (by unfold maxLen; omega) (by omega) (by simp; omega) ?_; intro v' w1 hown' hgrow _; have hS1 : w1.cell? ⟨w.heap.size, 2, none⟩ = some (.string s) := hgrow.cell (by simp) (fun e => by have := HN.out _ e.symm; simp at this))
      | (go_simp; go_at_call 30; refine (HK.out _ _ _ hown' (by have := hgrow.size; simp at this; omega) (by omega)).mono ?_; rintro e w2 ⟨v2, rfl, ho2, hb2⟩))
  all_goals
    have hb : Below B w w1 := ((((Below.refl B w).alloc hBw _).alloc (by simp; omega) _).drew).grown hgrow (by simp; omega) (fun k hk => (HO.out.lt k hk).1)
    go_wp2
    go_ret
    exact ⟨v2, rfl, ho2, hb.trans hb2⟩

/-- 'appendValue', one contract for all kinds. -/
theorem value_any (B n : Nat) (v : ZV) (h0 : -9223372036854775808 ≤ v.num) (h1 : v.num ≤ 9223372036854775807) (sv : Value) (xs : List Value) (w : World) (hown : w.ownsRow B 5 1 sv n xs) (hBw : B ≤ w.heap.size) (hlim : n + 11 + v.str.size ≤ 140737488355328) :
    Calls Try.prog 27 #[sv, .agg #[.int .u8 v.kind, .int .i64 v.num, .string v.str]] w fun e w' => ∃ v', e = .returned v' ∧ w'.ownsRow B 5 1 v' (n + v.enc.length) (xs ++ Lib.byteCells v.enc) ∧ Below B w w' := by
  obtain ⟨k, z, s⟩ := v
  simp only at h0 h1 hlim ⊢
  by_cases e1 : k = 1
  · subst e1
    refine (value_num B n z h0 h1 s sv xs w hown hBw (by omega)).mono ?_
    rintro e w' ⟨v', rfl, ho, hb⟩
    refine ⟨v', rfl, ?_, hb⟩
    have e : n + (ZV.enc ⟨1, z, s⟩).length = n + 1 + (Lib.uvarint (Lib.zigzag z)).length := by simp [ZV.enc]; omega
    have e2 : xs ++ Lib.byteCells (ZV.enc ⟨1, z, s⟩) = xs ++ [.int .u8 1] ++ Lib.byteCells (Lib.uvarint (Lib.zigzag z)) := by simp [ZV.enc, Lib.byteCells]
    rw [e, e2]
    exact ho
  by_cases e2 : k = 2
  · subst e2
    refine (value_text B n z s sv xs w hown hBw (by omega)).mono ?_
    rintro e w' ⟨v', rfl, ho, hb⟩
    refine ⟨v', rfl, ?_, hb⟩
    have e : n + (ZV.enc ⟨2, z, s⟩).length = n + 1 + ((Lib.uvarint s.size).length + s.size) := by simp [ZV.enc]; omega
    have e2 : xs ++ Lib.byteCells (ZV.enc ⟨2, z, s⟩) = xs ++ [.int .u8 2] ++ Lib.byteCells (Lib.uvarint s.size ++ s.data.toList) := by simp [ZV.enc, Lib.byteCells]
    rw [e, e2]
    exact ho
  refine (value_null B n k z s e1 e2 sv xs w hown hBw (by omega)).mono ?_
  rintro e w' ⟨v', rfl, ho, hb⟩
  refine ⟨v', rfl, ?_, hb⟩
  have e : (ZV.enc ⟨k, z, s⟩) = [0] := by simp [ZV.enc, e1, e2]
  rw [e]
  exact ho
end Go.Proofs.Qxb6608748a
