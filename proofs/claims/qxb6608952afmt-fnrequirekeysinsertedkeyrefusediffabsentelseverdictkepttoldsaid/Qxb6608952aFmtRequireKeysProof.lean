/-
  The proof of the told card 'Rows.FnRequireKeysInsertedKeyRefusedIffAbsentElseVerdictKeptToldSaid' out of the contract 'law_any' (Qxb6608952aFmtLaw).
-/
import Derived.Test.Qxb6608952aFmtCards
import Derived.Test.Qxb6608952aFmtLaw
import Derived.WalkKit
import Derived.ProofKit
import Derived.OpenShut
import Derived.Deep.Strs
import Derived.Stop.JoinedAt
import Derived.Stop.Texts
import Derived.Stop.JoinedTold
import Derived.Stop.FmtTextKit
import Derived.SevenToldRow
namespace Go.Proofs.Qxb6608952aFmt.fnRequireKeys
open Go.ChangeShapes Go.WideShapes Go.ChangeAt Go.RowKit Go.Kit
open Go.Extern.Stop Go.Stop Go.Extern
set_option linter.unusedVariables false

theorem own : ownKnob Tryf.prog.godebug = none := by kernel_rfl
theorem laidOut : laidOutB Tryf.prog = true := by kernel_rfl
theorem stopsAre : Tryf.pinned.checked.prog.stops = ["fmt.Sprintf", "fmt.errorf, its operands' methods called"] := by kernel_rfl
theorem knobsAre : Tryf.pinned.checked.prog.stopKnobs = [] := by kernel_rfl
theorem quietAll (os : Os) : Stop.quiet Tryf.pinned.checked.prog os := by
  intro k hk
  rw [knobsAre] at hk
  cases hk

-- "%s:%d: "
theorem parsed : (FmtText.parse [37, 115, 58, 37, 100, 58, 32]).map FmtText.glue = some [.verb {} 115, .lit [58], .verb {} 100, .lit [58, 32]] := by rfl

/-- What the place's prefix says. -/
theorem place_text (path : List UInt8) (line : Int) (hp : path.length < 2 ^ 64) (hw : (Lit.int .i64 line).wf = true) :
    FmtText.text "fmt.Sprintf" (placeReading path line) = some (path ++ ([58] ++ (Lib.itoa line ++ [58, 32]))) := by
  rw [placeReading, FmtText.text_sprintf_glued parsed (FmtText.operands_cons (FmtText.operand_str_at (sh := shape9) rfl rfl path hp) (FmtText.operands_cons (FmtText.operand_int_at (sh := shape3) (k := .i64) rfl rfl line hw) FmtText.operands_nil))]
  have h2 := FmtText.printArg_d false [105, 110, 116] (k := .i64) hw
  simp only [IntKind.signed] at h2
  simp [FmtText.render, FmtText.printArg_s_str, h2, IntKind.signed]

/-- So it is short. -/
theorem place_short (F : Interp) (p : ByteArray) (line : Int) (hp : p.size ≤ 1048576) (hw : (Lit.int .i64 line).wf = true) :
    (FmtStop.textOf (F.told "fmt.Sprintf" (placeReading p.data.toList line) 0)).size ≤ 1099511627776 := by
  have hl : p.data.toList.length = p.size := Array.length_toList
  have h21 := FmtText.itoa_length_le hw
  have h := told_string F (place_text p.data.toList line (by omega) hw) (by simp only [List.length_append, List.length_cons, List.length_nil]; omega)
  rw [← textOf_list] at h
  have h3 : (FmtStop.textOf (F.told "fmt.Sprintf" (placeReading p.data.toList line) 0)).size = (FmtStop.textOf (F.told "fmt.Sprintf" (placeReading p.data.toList line) 0)).data.toList.length := Array.length_toList.symm
  rw [h3, h]
  simp only [List.length_append, List.length_cons, List.length_nil]
  omega

/-- An argument of type []string, read. -/
theorem open_strs {H : Type} {enc : TypeId × Value → H} {w : World} {base : Nat} {spare : Nat → Bool} {held : Bool} {fuel : Nat} {a : Option Addr} {len cap : Nat} {x : DataW H × List MemPlace}
    (h : DataW.trod enc Tryf.prog w base spare held fuel 22 (Value.cells (.slice a len cap)).toList = some x) : len ≤ maxLen ∧ ∃ xs : List ByteArray, len = xs.length ∧ SliceIn w a xs cap := by
  rcases Deep.open_strs Tryf.underlying22 Tryf.underlying9 (by kernel_rfl) h with ⟨hcs, _⟩ | ⟨y, l, c, m, Sx, hcs, _, hl, hm, hmm, _, hcell⟩
  · simp [Value.cells] at hcs
    obtain ⟨rfl, rfl, rfl⟩ := hcs
    exact ⟨by simp [maxLen], [], rfl, .inl ⟨rfl, rfl, rfl⟩⟩
  · simp [Value.cells] at hcs
    obtain ⟨rfl, rfl, rfl⟩ := hcs
    have hlm : len ≤ m := by rw [hmm]; split <;> omega
    refine ⟨by omega, (List.range len).map Sx, by simp, ?_⟩
    refine .inr ⟨y, rfl, fun j x hx => ?_⟩
    by_cases hj : j < len
    · have := (hcell j (by omega)).1
      rw [this]
      simp [hj] at hx
      rw [hx]
    · rw [List.getElem?_eq_none (by simp; omega)] at hx
      cases hx

set_option maxRecDepth 100000 in
theorem lifted (os : Os) (started : os.Started) (H : Type) (enc : TypeId × Value → H) :
    ReturnsInTold none {} Tryf.checked os 3 .any Input.okWide ((OpenSpec.ofChange Rows.fnRequireKeysInsertedKeyRefusedIffAbsentElseVerdictKeptSpec).preRow enc Tryf.prog Tryf.f3 [] false []) (fun F => ((OpenSpec.ofChange Rows.fnRequireKeysInsertedKeyRefusedIffAbsentElseVerdictKeptSpec).at F).post enc Tryf.prog Tryf.f3 false true false false) (aloneAtReturn Tryf.prog) nothingAlways := by
  refine returnsInTold_of_row (C := Tryf.checked) (s := OpenSpec.ofChange Rows.fnRequireKeysInsertedKeyRefusedIffAbsentElseVerdictKeptSpec) (by kernel_rfl) own started (by kernel_rfl) Tryf.func3
    (OpenSpec.witness_stopped (enc := enc) (C := Tryf.checked) false ⟨#[], #[.string ⟨#[]⟩, .int .i64 0, .string ⟨#[]⟩, .string ⟨#[]⟩, .int .i64 0, .string ⟨#[]⟩, .slice none 0 0, .slice none 0 0, .string ⟨#[]⟩, .int .i64 0], []⟩ 8 (by kernel_rfl) (by kernel_rfl) (by kernel_rfl) (by kernel_rfl)) ?_
  intro F W base args ds gs before _ hF hval0 hW _ _ _ _ _
  have hval : ∀ (j : Nat) t v, Tryf.f3.params[j]? = some t → args[j]? = some v → Value.okWide Tryf.prog W .any base t v := hval0
  have hW' := hW
  obtain ⟨p, q, hA0, hV, rfl, hfz, hnd⟩ := hW
  have hA : DataW.TrodAll enc Tryf.prog W 0 (fun _ => true) true Tryf.f3.params.toList args.toList ds p := hA0
  rw [Tryf.params3] at hA hval
  obtain ⟨v0, vs0, d0, ds0, p0, q0, hargs, rfl, rfl, h0, r0⟩ := trodAll_cons hA
  obtain ⟨v1, vs1, d1, ds1, p1, q1, rfl, rfl, rfl, h1, r1⟩ := trodAll_cons r0
  obtain ⟨v2, vs2, d2, ds2, p2, q2, rfl, rfl, rfl, h2, r2⟩ := trodAll_cons r1
  obtain ⟨v3, vs3, d3, ds3, p3, q3, rfl, rfl, rfl, h3, r3⟩ := trodAll_cons r2
  obtain ⟨v4, vs4, d4, ds4, p4, q4, rfl, rfl, rfl, h4, r4⟩ := trodAll_cons r3
  obtain ⟨v5, vs5, d5, ds5, p5, q5, rfl, rfl, rfl, h5, r5⟩ := trodAll_cons r4
  obtain ⟨v6, vs6, d6, ds6, p6, q6, rfl, rfl, rfl, h6, r6⟩ := trodAll_cons r5
  obtain ⟨v7, vs7, d7, ds7, p7, q7, rfl, rfl, rfl, h7, r7⟩ := trodAll_cons r6
  obtain ⟨v8, vs8, d8, ds8, p8, q8, rfl, rfl, rfl, h8, r8⟩ := trodAll_cons r7
  obtain ⟨v9, vs9, d9, ds9, p9, q9, rfl, rfl, rfl, h9, r9⟩ := trodAll_cons r8
  obtain ⟨rfl, rfl, rfl⟩ := trodAll_nil r9
  obtain rfl : args = #[v0, v1, v2, v3, v4, v5, v6, v7, v8, v9] := by cases args; simp_all
  obtain ⟨rfl, rfl⟩ := trodVars_none hV
  obtain ⟨a6, len6, cap6, rfl⟩ := okWide_slice Tryf.underlying22 (hval 6 22 v6 rfl rfl)
  obtain ⟨a7, len7, cap7, rfl⟩ := okWide_slice Tryf.underlying22 (hval 7 22 v7 rfl rfl)
  have k0 := h0
  have k1 := h1
  have k2 := h2
  have k3 := h3
  have k4 := h4
  have k5 := h5
  have k6 := h6
  have k7 := h7
  have k8 := h8
  have k9 := h9
  have lt0 : ∀ x ∈ p0, x.block < W.heap.size := by obtain ⟨m, hm⟩ := k0; exact DataW.trod_lt m _ _ _ hm
  have lt1 : ∀ x ∈ p1, x.block < W.heap.size := by obtain ⟨m, hm⟩ := k1; exact DataW.trod_lt m _ _ _ hm
  have lt2 : ∀ x ∈ p2, x.block < W.heap.size := by obtain ⟨m, hm⟩ := k2; exact DataW.trod_lt m _ _ _ hm
  have lt3 : ∀ x ∈ p3, x.block < W.heap.size := by obtain ⟨m, hm⟩ := k3; exact DataW.trod_lt m _ _ _ hm
  have lt4 : ∀ x ∈ p4, x.block < W.heap.size := by obtain ⟨m, hm⟩ := k4; exact DataW.trod_lt m _ _ _ hm
  have lt5 : ∀ x ∈ p5, x.block < W.heap.size := by obtain ⟨m, hm⟩ := k5; exact DataW.trod_lt m _ _ _ hm
  have lt6 : ∀ x ∈ p6, x.block < W.heap.size := by obtain ⟨m, hm⟩ := k6; exact DataW.trod_lt m _ _ _ hm
  have lt7 : ∀ x ∈ p7, x.block < W.heap.size := by obtain ⟨m, hm⟩ := k7; exact DataW.trod_lt m _ _ _ hm
  have lt8 : ∀ x ∈ p8, x.block < W.heap.size := by obtain ⟨m, hm⟩ := k8; exact DataW.trod_lt m _ _ _ hm
  have lt9 : ∀ x ∈ p9, x.block < W.heap.size := by obtain ⟨m, hm⟩ := k9; exact DataW.trod_lt m _ _ _ hm
  obtain ⟨fuel6, hf6⟩ := h6
  obtain ⟨hl6, xs6, rfl, hs6⟩ := open_strs hf6
  obtain ⟨fuel7, hf7⟩ := h7
  obtain ⟨hl7, xs7, rfl, hs7⟩ := open_strs hf7
  obtain ⟨s0, rfl⟩ := okWide_string Tryf.underlying9 (hval 0 9 v0 rfl rfl)
  obtain ⟨s1, rfl, _, _, wf1⟩ := open_int Tryf.underlying3 (hval 1 3 v1 rfl rfl) h1
  obtain ⟨s2, rfl⟩ := okWide_string Tryf.underlying9 (hval 2 9 v2 rfl rfl)
  obtain ⟨s3, rfl⟩ := okWide_string Tryf.underlying9 (hval 3 9 v3 rfl rfl)
  obtain ⟨s4, rfl, _, _, wf4⟩ := open_int Tryf.underlying3 (hval 4 3 v4 rfl rfl) h4
  obtain ⟨s5, rfl⟩ := okWide_string Tryf.underlying9 (hval 5 9 v5 rfl rfl)
  obtain ⟨s8, rfl⟩ := okWide_string Tryf.underlying9 (hval 8 9 v8 rfl rfl)
  obtain ⟨s9, rfl, _, _, wf9⟩ := open_int Tryf.underlying3 (hval 9 3 v9 rfl rfl) h9
  clear hA0 hval0
  refine (law_any F.told s0 s3 s2 s5 s8 s1 s4 s9 a6 a7 xs6 xs7 cap6 cap7 W hF hs6 hs7 hl6 hl7 (fun p l hp hl => ?_)).mono fun e W' ⟨he, bel⟩ => ?_
  · rcases hl with rfl | rfl
    · exact place_short F p _ hp wf1
    · exact place_short F p _ hp wf4
  subst he
  exact ⟨_, rfl, _, _, _, [], _, [], hW', trodAll_mk1 (shut_bool Tryf.underlying4 _), (trodAll_cons_mk (Below.trod laidOut (by kernel_rfl) (of_decide_eq_true (by kernel_rfl)) k0 bel lt0) (trodAll_cons_mk (Below.trod laidOut (by kernel_rfl) (of_decide_eq_true (by kernel_rfl)) k1 bel lt1) (trodAll_cons_mk (Below.trod laidOut (by kernel_rfl) (of_decide_eq_true (by kernel_rfl)) k2 bel lt2) (trodAll_cons_mk (Below.trod laidOut (by kernel_rfl) (of_decide_eq_true (by kernel_rfl)) k3 bel lt3) (trodAll_cons_mk (Below.trod laidOut (by kernel_rfl) (of_decide_eq_true (by kernel_rfl)) k4 bel lt4) (trodAll_cons_mk (Below.trod laidOut (by kernel_rfl) (of_decide_eq_true (by kernel_rfl)) k5 bel lt5) (trodAll_cons_mk (Below.trod laidOut (by kernel_rfl) (of_decide_eq_true (by kernel_rfl)) k6 bel lt6) (trodAll_cons_mk (Below.trod laidOut (by kernel_rfl) (of_decide_eq_true (by kernel_rfl)) k7 bel lt7) (trodAll_cons_mk (Below.trod laidOut (by kernel_rfl) (of_decide_eq_true (by kernel_rfl)) k8 bel lt8) (trodAll_cons_mk (Below.trod laidOut (by kernel_rfl) (of_decide_eq_true (by kernel_rfl)) k9 bel lt9) trodAll_mk0)))))))))), rfl, bel.frame _, fun h => by cases h⟩

set_option maxRecDepth 100000 in
/-- ████ THE STATEMENT ████ -/
theorem proved : Rows.FnRequireKeysInsertedKeyRefusedIffAbsentElseVerdictKeptToldSaid :=
  Claim7.holds_of_told_any 3 Tryf.f3 "fmt.Sprintf" ["fmt.errorf, its operands' methods called"] [] _ _ _ (by kernel_rfl) rfl rfl rfl laidOut (by kernel_rfl) rfl ⟨rfl, rfl, rfl, rfl, rfl, rfl, rfl⟩ rfl rfl (by kernel_rfl) (by kernel_rfl) Tryf.func3 (by kernel_rfl)
    (of_decide_eq_true (by kernel_rfl)) (of_decide_eq_true (by kernel_rfl)) stopsAre.symm rfl knobsAre.symm (by kernel_rfl)
    (by kernel_rfl) (by kernel_rfl) (by kernel_rfl) (by kernel_rfl) (by kernel_rfl) (by kernel_rfl) (by kernel_rfl) (by kernel_rfl) (by kernel_rfl) rfl (by kernel_rfl) rfl rfl
    rfl rfl
    rfl (by kernel_rfl) (by kernel_rfl) (by kernel_rfl) (by decide) (by kernel_rfl)
    (OpenClaim.moreEntering_of (by kernel_rfl) (by kernel_rfl) (by kernel_rfl) (by kernel_rfl) (by kernel_rfl) (by kernel_rfl) (by kernel_rfl) (by kernel_rfl) (by kernel_rfl) (by kernel_rfl))
    ⟨_, WideRow.started_initial, quietAll _⟩
    (fun os started _ H enc _ => lifted os started H enc)
#print axioms proved
end Go.Proofs.Qxb6608952aFmt.fnRequireKeys
