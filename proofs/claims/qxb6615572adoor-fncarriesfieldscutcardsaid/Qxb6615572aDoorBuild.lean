import Derived.Test.Qxb6615572aDoorCarry
import Derived.Deep.RegionLaw
import Derived.Deep.DeepCutAuto
import Derived.Deep.OwnRows
namespace Go.Proofs.Qxb6615572aDoor
open Go.RowKit Go.Maps Go.WideMaps

/-- The lists of strings of a slice of slices. -/
def GridRow (w : World) (a : Option Addr) (vs : List (List ByteArray)) : Prop :=
  0 < vs.length → ∃ b off, a = some ⟨b, off, none⟩ ∧ ∀ j xs, vs[j]? = some xs → ∃ va vc, w.cell? ⟨b, off + j, none⟩ = some (.slice va xs.length vc) ∧ StrRow w va xs

theorem GridRow.kept {w w' : World} {a : Option Addr} {vs : List (List ByteArray)} (h : GridRow w a vs) (hb : Below w.heap.size w w') : GridRow w' a vs := by
  intro hn
  obtain ⟨b, off, e, hv⟩ := h hn
  refine ⟨b, off, e, fun j xs hx => ?_⟩
  obtain ⟨va, vc, h1, h2⟩ := hv j xs hx
  exact ⟨va, vc, by rw [hb.cell (by exact World.block_lt_of_cell? _ _ h1)]; exact h1, h2.kept (Nat.le_refl _) hb⟩

/-- append by what its run gives, as one step of a region that draws its order. -/
theorem step_append_eq {P : Program} {ops : Array Oper} {o : Oper} {a : Act} {w : World} {K : Act → World → Prop} {Q : Exit → Act → World → Prop} {E : Prop}
    (hgd : o.guard = none) (s x : Operand) (t : TypeId) (ho : o.op = .call { callee := .builtin .append, args := #[s, x], argTypes := #[t, t] })
    {v xv v' : Value} {w' : World} (hs : a.eval s = v) (hx : a.eval x = xv) (hrun : (Builtin.append_ #[t, t] o.type #[v, xv]).run P w = .ok v' w') (h : K (a.put o.dst v') w') :
    if Region.wanted o (yielded ops a.tmps) = true then Oper.wp P o a w K Q else E := by
  have hw : Region.wanted o (yielded ops a.tmps) = true := by simp [Region.wanted, hgd]
  rw [if_pos hw]
  unfold Oper.wp execOp
  simp only [ho, resolve, invoke, builtin, Sem.run_bind, Sem.run_pure, Result.andThen_ok, List.map_toArray, List.map_cons, List.map_nil, hs, hx, hrun]
  exact h

theorem Grp.drew {w : World} {b base : Nat} {ns : List ByteArray} {vs : List (List ByteArray)} {k : Nat} {V : ByteArray → Value} {L : ByteArray → List ByteArray} {D : DataW Value}
    (h : Grp w b base ns vs k V L D) : Grp w.drew b base ns vs k V L D := ⟨h.own, h.val, h.row, h.apart, h.has, h.mem, h.len, h.lt⟩

theorem total_mono (vs : List (List ByteArray)) {i j : Nat} (h : i ≤ j) : total vs i ≤ total vs j := by
  obtain ⟨d, rfl⟩ : ∃ d, j = i + d := ⟨j - i, by omega⟩
  clear h
  induction d with
  | zero => exact Nat.le_refl _
  | succ d ih =>
    refine Nat.le_trans ih ?_
    show total vs (i + d) ≤ total vs (i + d + 1)
    cases hq : vs[i + d]? with
    | none => unfold total; rw [List.take_add_one, hq]; simp
    | some xs => rw [total_succ hq]; omega

theorem info68 : ∃ i : TypeInfo, Tryd.prog.info? 68 = some i ∧ i.zero = some (.agg #[.string ByteArray.empty, .string ByteArray.empty]) ∧ i.size = 2 ∧ i.bytes = 32 := by
  obtain ⟨i, hi, h⟩ := Option.map_eq_some_iff.1 (show (Tryd.prog.info? 68).map (fun i => (i.zero, i.size, i.bytes)) = some (some (.agg #[.string ByteArray.empty, .string ByteArray.empty]), 2, 32) from by kernel_rfl)
  simp only [Prod.mk.injEq] at h
  exact ⟨i, hi, h.1, h.2.1, h.2.2⟩

/-- The row of fields, k of them laid. -/
structure FieldMid (S n k : Nat) (fs : List (ByteArray × ByteArray)) (w wr : World) : Prop where
  row : ∃ f, wr.rowIs S 68 (n * 2) f
  vals : ∀ j x y, j < k → fs[j]? = some (x, y) → wr.cell? ⟨S, j * 2, none⟩ = some (.string x) ∧ wr.cell? ⟨S, j * 2 + 1, none⟩ = some (.string y)
  below : Below S w wr

theorem FieldMid.start (w : World) (n : Nat) (fs : List (ByteArray × ByteArray)) (z : Array Value) : FieldMid w.heap.size n 0 fs w (w.alloc (.cells (madeCells z (n * 2)) 68)) := by
  refine ⟨⟨fun j => (madeCells z (n * 2)).getD j undef, ?_⟩, fun j x y hj => by omega, (Below.refl _ _).alloc (Nat.le_refl _) _⟩
  have := World.rowIs_alloc w (madeCells z (n * 2)) 68 (fun j => (madeCells z (n * 2)).getD j undef) (fun i hi => by simp [Array.getD, hi])
  rw [size_madeCells] at this
  exact this

theorem FieldMid.step {S n k : Nat} {fs : List (ByteArray × ByteArray)} {w wr : World} {x y : ByteArray} (h : FieldMid S n k fs w wr) (hk : k < n) (hx : fs[k]? = some (x, y)) :
    FieldMid S n (k + 1) fs w ((wr.setCell ⟨S, k * 2, none⟩ (.string x)).setCell ⟨S, k * 2 + 1, none⟩ (.string y)).drew := by
  obtain ⟨⟨f, h1⟩, h2, h3⟩ := h
  have r2 := (h1.set (k * 2) (.string x)).set (k * 2 + 1) (.string y)
  refine ⟨⟨_, r2⟩, ?_, ((h3.setCell (by simp) _).setCell (by simp) _).drew⟩
  intro j x' y' hj hx'
  have g := fun (j : Nat) (hj : j < n * 2) => r2.cell hj
  by_cases e : j = k
  · subst e
    rw [hx] at hx'
    cases hx'
    exact ⟨by show World.cell? _ _ = _; refine (g _ (by omega)).trans ?_; simp, by show World.cell? _ _ = _; refine (g _ (by omega)).trans ?_; simp⟩
  · obtain ⟨q1, q2⟩ := h2 j x' y' (by omega) hx'
    have o : ∀ (i : Nat), i ≠ k * 2 ∧ i ≠ k * 2 + 1 → ((wr.setCell ⟨S, k * 2, none⟩ (.string x)).setCell ⟨S, k * 2 + 1, none⟩ (.string y)).drew.cell? ⟨S, i, none⟩ = wr.cell? ⟨S, i, none⟩ := by
      intro i hi
      obtain ⟨i1, i2⟩ := hi
      have hne : ∀ x, i ≠ x → (⟨S, x, none⟩ : Addr) ≠ ⟨S, i, none⟩ := fun x h e => h (by injection e with _ e2; exact e2.symm)
      show ((wr.setCell ⟨S, k * 2, none⟩ (.string x)).setCell ⟨S, k * 2 + 1, none⟩ (.string y)).cell? ⟨S, i, none⟩ = _
      rw [World.cell?_setCell_other _ _ _ _ (hne _ i2), World.cell?_setCell_other _ _ _ _ (hne _ i1)]
    exact ⟨by rw [o _ (by omega)]; exact q1, by rw [o _ (by omega)]; exact q2⟩

/-- What 'carries' asks of the request, in the arguments' own words. -/
def Ask (kept : Bool) (method opq query : ByteArray) (ns : List ByteArray) (vs : List (List ByteArray)) : Prop :=
  kept = true ∧ (method = strGET ∨ method = strHEAD) ∧ opq.size = 0 ∧ (∀ (j : Nat) (xs : List ByteArray), ns[j]? = some strUpgrade → vs[j]? = some xs → xs = []) ∧ plainQ query = true ∧
    ∀ (j : Nat) (s : ByteArray), ns[j]? = some s → tokS s = true ∧ ∀ xs, vs[j]? = some xs → ∀ v ∈ xs, ctlS v = false

theorem plain_ask {w : World} {b base : Nat} {ns : List ByteArray} {vs : List (List ByteArray)} {V : ByteArray → Value} {L : ByteArray → List ByteArray} {D : DataW Value}
    (h : Grp w b base ns vs ns.length V L D) {kept : Bool} {kp : Option Addr} (hk : kept = true ↔ kp ≠ none) (method opq query : ByteArray) : Plain kp method opq query L D ↔ Ask kept method opq query ns vs := by
  have hlt : ∀ {j : Nat} {s : ByteArray}, ns[j]? = some s → j < ns.length := fun h => (List.getElem?_eq_some_iff.1 h).1
  have e1 : L strUpgrade = [] ↔ ∀ (j : Nat) (xs : List ByteArray), ns[j]? = some strUpgrade → vs[j]? = some xs → xs = [] := by
    constructor
    · intro h0 j xs hj hx
      refine List.eq_nil_iff_forall_not_mem.2 fun v hv => ?_
      have := (h.mem strUpgrade v).2 ⟨j, hlt hj, hj, xs, hx, hv⟩
      rw [h0] at this
      cases this
    · intro h0
      refine List.eq_nil_iff_forall_not_mem.2 fun v hv => ?_
      obtain ⟨j, _, hj, xs, hx, hv⟩ := (h.mem strUpgrade v).1 hv
      rw [h0 j xs hj hx] at hv
      cases hv
  have e2 : (∀ s, Maps.has D (lit s) = true → Good L s) ↔ ∀ (j : Nat) (s : ByteArray), ns[j]? = some s → tokS s = true ∧ ∀ xs, vs[j]? = some xs → ∀ v ∈ xs, ctlS v = false := by
    constructor
    · intro h0 j s hj
      have hg := h0 s ((h.has s).2 ⟨j, hlt hj, hj⟩)
      exact ⟨hg.1, fun xs hx v hv => hg.2 v ((h.mem s v).2 ⟨j, hlt hj, hj, xs, hx, hv⟩)⟩
    · intro h0 s hs
      obtain ⟨j, _, hj⟩ := (h.has s).1 hs
      refine ⟨(h0 j s hj).1, fun v hv => ?_⟩
      obtain ⟨i, _, hi, xs, hx, hv⟩ := (h.mem s v).1 hv
      exact (h0 i s hi).2 xs hx v hv
  unfold Plain Ask
  rw [hk, e1, e2]

/-- The two blocks that are laid last: the URL and the request. -/
theorem finish {w wc wm wr : World} {ns : List ByteArray} {vs : List (List ByteArray)} {V : ByteArray → Value} {L : ByteArray → List ByteArray} {D : DataW Value} {kept : Bool} {kp : Option Addr} {method opq query : ByteArray} {sn sv : List ByteArray}
    (hG : Grp wm wc.heap.size (wc.heap.size + 1) ns vs ns.length V L D) (hk : kept = true ↔ kp ≠ none) (hkp : wc.cell? ⟨w.heap.size, 1, none⟩ = some (.pointer kp)) (hB0 : Below w.heap.size w wc) (hsz0 : w.heap.size < wc.heap.size)
    (hB : Below wc.heap.size wc wm) (hM : FieldMid wm.heap.size sn.length sn.length (sn.zip sv) wm wr) (hl2 : sv.length = sn.length) (hs : sn.length ≤ 65536) (zs : Sized sn) (zt : Sized sv) (zv : ∀ xs ∈ vs, Sized xs) (htot : total vs ns.length ≤ 1048576) (hq : query.size ≤ 1048576)
    {U R : Array Value} (u1 : U[1]? = some (.string opq)) (u6 : U[6]? = some (.string query)) (r0 : R[0]? = some (.string method)) (r1 : R[1]? = some (.pointer (some ⟨wr.heap.size, 0, none⟩))) (r5 : R[5]? = some (.map (some wc.heap.size))) (r6 : R[6]? = some .nilIface) :
    Calls Tryd.prog 12 #[.pointer (some ⟨w.heap.size, 0, none⟩), .pointer (some ⟨wr.heap.size + 1, 0, none⟩), .slice (some ⟨wm.heap.size, 0, none⟩) sn.length sn.length] ((wr.alloc (.cells U 73)).alloc (.cells R 86)) fun e w' =>
      SaysIff (Ask kept method opq query ns vs ∧ okF (sn.zip sv) = true) e ∧ Below w.heap.size w w' := by
  have b1 : Below wr.heap.size wr ((wr.alloc (.cells U 73)).alloc (.cells R 86)) := ((Below.refl _ _).alloc (Nat.le_refl _) _).alloc (by simp) _
  have b2 : Below wm.heap.size wm ((wr.alloc (.cells U 73)).alloc (.cells R 86)) := hM.below.trans (b1.mono hM.below.size)
  have b3 : Below wc.heap.size wc ((wr.alloc (.cells U 73)).alloc (.cells R 86)) := hB.trans (b2.mono hB.size)
  have b4 : Below w.heap.size w ((wr.alloc (.cells U 73)).alloc (.cells R 86)) := hB0.trans (b3.mono hB0.size)
  have hzl : (sn.zip sv).length = sn.length := by rw [List.length_zip, hl2]; omega
  have hlast : ∀ i v, R[i]? = some v → ((wr.alloc (.cells U 73)).alloc (.cells R 86)).cell? ⟨wr.heap.size + 1, i, none⟩ = some v := fun i v h => by
    rw [World.cell?_alloc_at _ _ _ _ (by simp)]; exact h
  have hurl : ∀ i v, U[i]? = some v → ((wr.alloc (.cells U 73)).alloc (.cells R 86)).cell? ⟨wr.heap.size, i, none⟩ = some v := fun i v h => by
    rw [World.cell?_alloc_lt _ _ _ (by simp), World.cell?_alloc_at _ _ _ _ (by simp)]; exact h
  have hreq : Req ((wr.alloc (.cells U 73)).alloc (.cells R 86)) w.heap.size (wr.heap.size + 1) wr.heap.size wc.heap.size kp method opq query :=
    ⟨(b3.cell (by exact hsz0)).trans hkp, hlast 0 _ r0, hlast 1 _ r1, hlast 5 _ r5, hlast 6 _ r6, hurl 1 _ u1, hurl 6 _ u6⟩
  have hfr : FieldRow ((wr.alloc (.cells U 73)).alloc (.cells R 86)) (some ⟨wm.heap.size, 0, none⟩) (sn.zip sv) := by
    refine fun _ => ⟨wm.heap.size, 0, rfl, fun j x y hx => ?_⟩
    have hj : j < sn.length := by rw [← hzl]; exact (List.getElem?_eq_some_iff.1 hx).1
    obtain ⟨q1, q2⟩ := hM.vals j x y hj hx
    rw [Nat.zero_add]
    exact ⟨(b1.cell (by exact World.block_lt_of_cell? _ _ q1)).trans q1, (b1.cell (by exact World.block_lt_of_cell? _ _ q2)).trans q2⟩
  have h := carries_any (hG.kin ⟨_, b2⟩) (fun s v hv => by
      obtain ⟨j, _, _, xs, hx, hv⟩ := (hG.mem s v).1 hv
      exact zv xs (List.mem_of_getElem? hx) v hv) htot w.heap.size (wr.heap.size + 1) wr.heap.size kp method opq query hreq hq (some ⟨wm.heap.size, 0, none⟩) (sn.zip sv) sn.length hfr (by omega)
      (fun f hf => ⟨zs _ (List.of_mem_zip hf).1, zt _ (List.of_mem_zip hf).2⟩)
  rw [hzl] at h
  refine h.mono ?_
  rintro e w' ⟨⟨r, he, hr⟩, hb⟩
  exact ⟨⟨r, he, by rw [hr, plain_ask hG hk]⟩, b4.trans (hb.mono b4.size)⟩

set_option maxRecDepth 100000 in
set_option maxHeartbeats 4000000 in
theorem zz_any (kept : Bool) (method opq query : ByteArray) (na va sa ta : Option Addr) (ns : List ByteArray) (vs : List (List ByteArray)) (sn sv : List ByteArray) (nc vc sc tc : Nat) (w : World)
    (hN : StrRow w na ns) (hV : GridRow w va vs) (hS : StrRow w sa sn) (hT : StrRow w ta sv) (hl : vs.length = ns.length) (hl2 : sv.length = sn.length) (hn : ns.length ≤ 65536) (hs : sn.length ≤ 65536)
    (zn : Sized ns) (zs : Sized sn) (zt : Sized sv) (zv : ∀ xs ∈ vs, Sized xs) (htot : total vs ns.length ≤ 1048576) (hq : query.size ≤ 1048576) :
    Calls Tryd.prog 7 #[.bool kept, .string method, .string opq, .string query, .slice na ns.length nc, .slice va ns.length vc, .slice sa sn.length sc, .slice ta sn.length tc] w fun e w' => SaysIff (Ask kept method opq query ns vs ∧ okF (sn.zip sv) = true) e ∧ Below w.heap.size w w' := by
  have HN := tuck hN
  have HV := tuck hV
  have HS := tuck hS
  have HT := tuck hT
  have HL := tuck hl
  have HL2 := tuck hl2
  clear hN hV hS hT hl hl2
  have hmm := @run_makeMap Tryd.prog
  go_enter Tryd.func7, Tryd.ntmps7
  go_upto_if 25 with fail
  go_cut [] (fun wx => ∃ kp : Option Addr, (kept = true ↔ kp ≠ none) ∧ wx.cell? ⟨w.heap.size, 1, none⟩ = some (.pointer kp) ∧ Hid (Below w.heap.size w wx) ∧ w.heap.size < wx.heap.size)
  case first =>
    cases kept with
    | true =>
      go_wp2
      go_meet
      exact ⟨some ⟨w.heap.size + 1, 0, none⟩, by simp, by simp, tuck (((Below.refl _ _).alloc (Nat.le_refl _) _).alloc (by simp) _), by simp; omega⟩
    | false =>
      go_wp2
      go_meet
      exact ⟨none, by simp, by simp, tuck ((Below.refl _ _).alloc (Nat.le_refl _) _), by simp⟩
  case rest =>
  obtain ⟨kp, hk0, hkp, HB0, hsz0⟩ := hcut
  have hK := tuck hk0
  clear hk0
  have HZN := tuck zn
  clear zn
  go_wp2
  go_loopw [19] (fun vi wr => ∃ (k : Nat) (V : ByteArray → Value) (L : ByteArray → List ByteArray) (D : DataW Value), k ≤ ns.length ∧ vi = .int .i64 k ∧ Hid (Grp wr wc.heap.size (wc.heap.size + 1) ns vs k V L D) ∧ Hid (Below wc.heap.size wc wr) ∧ Hid (wc.heap.size + 1 ≤ wr.heap.size)) (fun vi _ => ns.length - (intOf vi).toNat)
  case atStart => exact ⟨0, _, _, _, by omega, rfl, tuck (Grp.start wc ns vs), tuck ((Below.refl _ _).alloc (Nat.le_refl _) _), tuck (by simp)⟩
  case round =>
    obtain ⟨k, V, L, D, hk, rfl, HG, HB, HSZ⟩ := hrel
    have HBw : Hid (Below w.heap.size w wr) := tuck (HB0.out.trans (HB.out.mono HB0.out.size))
    by_cases hlt : k < ns.length
    · obtain ⟨x, hx⟩ : ∃ x, ns[k]? = some x := ⟨_, at_get hlt⟩
      obtain ⟨xs, hxs⟩ : ∃ xs, vs[k]? = some xs := ⟨_, at_get (by rw [HL.out]; exact hlt)⟩
      obtain ⟨b1, o1, rfl, hv1⟩ := HN.out (by omega)
      obtain ⟨b2, o2, rfl, hv2⟩ := HV.out (by rw [HL.out]; omega)
      have d1 := hv1 k x hx
      obtain ⟨ya, yc, d2, hrow⟩ := hv2 k xs hxs
      have l1 : b1 < w.heap.size := World.block_lt_of_cell? _ _ d1
      have l2 : b2 < w.heap.size := World.block_lt_of_cell? _ _ d2
      have c1 : wr.cell? ⟨b1, o1 + k, none⟩ = some (.string x) := (HBw.out.cell (by exact l1)).trans d1
      have c2 : wr.cell? ⟨b2, o2 + k, none⟩ = some (.slice ya xs.length yc) := (HBw.out.cell (by exact l2)).trans d2
      have htk : total vs (k + 1) ≤ 1048576 := Nat.le_trans (total_mono vs (by omega)) htot
      obtain ⟨v', w1, w2, V', L', D', hlook, happ, hupd, hG2, hb1, hb2⟩ := Grp.step HG.out.drew hx hxs (HZN.out x (List.mem_of_getElem? hx)) yc (hrow.kept (Nat.le_refl _) HBw.out.drew) htk (by unfold maxLen; omega) HSZ.out
      have e1 : w1.cell? ⟨b1, o1 + k, none⟩ = some (.string x) := (hb1.cell (by exact Nat.lt_trans l1 hsz0)).trans c1
      have HG2 := tuck hG2
      have HB2 : Hid (Below wc.heap.size wc w2) := tuck (HB.out.trans ((Below.refl _ wr).drew.trans hb2))
      have HSZ2 : Hid (wc.heap.size + 1 ≤ w2.heap.size) := tuck (Nat.le_trans HSZ.out hb2.size)
      clear hG2 hb1 hb2 hrow hv1 hv2 d1 d2 hx hxs
      have hi0 : (0 : Int) ≤ (k : Int) := by omega
      have hi1 : (k : Int) < (ns.length : Int) := by omega
      go_wp2
      go_region_law (first | (refine step_append_eq rfl (.tmp 48) (.tmp 52) 22 rfl rfl rfl happ ?_))
      all_goals
        go_wp2
        go_roundw
        case rel => exact ⟨k + 1, V', L', D', by omega, by go_num, HG2, HB2, HSZ2⟩
        case measure => simp [intOf]; omega
    · have ek : k = ns.length := by omega
      subst ek
      obtain ⟨wm, rfl⟩ : ∃ wm, wm = wr := ⟨wr, rfl⟩
      obtain ⟨i8, hi8, hz8, hs8, hby8⟩ := info68
      have hmk := fun w' => run_make (P := Tryd.prog) w' 66 68 i8 _ Tryd.underlying66 hi8 hz8 .i64 .i64 sn.length sn.length (by omega) (by omega) (by rw [hby8]; omega) (by omega)
      simp only [Int.toNat_natCast, hs8, Value.cells] at hmk
      clear hz8 hs8 hby8 hi8 hmm
      go_wp2
      clear hmk
      go_loopw [21] (fun vi wr => ∃ j : Nat, j ≤ sn.length ∧ vi = .int .i64 j ∧ Hid (FieldMid wm.heap.size sn.length j (sn.zip sv) wm wr)) (fun vi _ => sn.length - (intOf vi).toNat)
      case atStart => exact ⟨0, by omega, rfl, FieldMid.start wm sn.length _ _⟩
      case round =>
        obtain ⟨j, hj, rfl, HM⟩ := hrel
        have HBq : Hid (Below w.heap.size w wr) := tuck (HBw.out.trans (HM.out.below.mono HBw.out.size))
        by_cases hlt2 : j < sn.length
        · obtain ⟨x, hx⟩ : ∃ x, sn[j]? = some x := ⟨_, at_get hlt2⟩
          obtain ⟨y, hy⟩ : ∃ y, sv[j]? = some y := ⟨_, at_get (by rw [HL2.out]; exact hlt2)⟩
          obtain ⟨b1, o1, rfl, hv1⟩ := HS.out (by omega)
          obtain ⟨b2, o2, rfl, hv2⟩ := HT.out (by rw [HL2.out]; omega)
          have d1 := hv1 j x hx
          have d2 := hv2 j y hy
          have l1 : b1 < w.heap.size := World.block_lt_of_cell? _ _ d1
          have l2 : b2 < w.heap.size := World.block_lt_of_cell? _ _ d2
          have hws := HBw.out.size
          have c1 : wr.cell? ⟨b1, o1 + j, none⟩ = some (.string x) := (HBq.out.cell (by exact l1)).trans d1
          have c2 : wr.cell? ⟨b2, o2 + j, none⟩ = some (.string y) := (HBq.out.cell (by exact l2)).trans d2
          obtain ⟨f, hrow⟩ := HM.out.row
          have s1 := hrow.cell (show j * 2 < sn.length * 2 by omega)
          have s2 := hrow.cell (show j * 2 + 1 < sn.length * 2 by omega)
          have f1 := hrow.frozen (j * 2)
          have f2 := hrow.frozen (j * 2 + 1)
          have n1 : wm.heap.size ≠ b1 := by omega
          have n2 : wm.heap.size ≠ b2 := by omega
          have HZ := tuck (zip_get hx hy)
          have hi0 : (0 : Int) ≤ (j : Int) := by omega
          have hi1 : (j : Int) < (sn.length : Int) := by omega
          clear hrow hv1 hv2 d1 d2 hx hy
          go_wp2
          go_region
          all_goals
            go_wp2
            go_roundw
            case rel => exact ⟨j + 1, by omega, by go_num, HM.out.step hlt2 HZ.out⟩
            case measure => simp [intOf]; omega
        · have ej : j = sn.length := by omega
          subst ej
          go_wp2_with fail
          refine (finish HG.out hK.out hkp HB0.out hsz0 HB.out HM.out HL2.out hs zs zt zv htot hq rfl rfl rfl rfl rfl rfl).mono ?_
          rintro e w9 ⟨⟨r, rfl, hr⟩, hb⟩
          have HR := tuck hr
          have HE := tuck hb
          clear hr hb
          go_wp2
          go_ret
          exact ⟨⟨r, rfl, HR.out⟩, HE.out⟩
end Go.Proofs.Qxb6615572aDoor
