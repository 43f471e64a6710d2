/-
  THE PROOF OF 'Rows.FnShowsIgnoresNeighboursSaid'. No shell was given for slices of structs: this frame is the one that proof-skeleton.mjs writes for a law over slices of integers, turned to slices of HeadIn ('open_recs' for 'open_ints'). The walks lie in Qxb6608716aModsRecs, ..Sum, ..Head, ..Fill, ..Heads, ..Main; the opening of the arguments in ..Open.
-/
import Derived.Test.Qxb6608716aModsOpen
namespace Go.Proofs.Qxb6608716aMods.fnShowsIgnoresNeighbours
open Go.ChangeShapes Go.WideShapes Go.ChangeAt Go.RowKit
set_option linter.unusedVariables false

theorem own : ownKnob Trym.prog.godebug = none := by kernel_rfl
theorem laidOut : laidOutB Trym.prog = true := by kernel_rfl

/-! ### THE WALK: the Go text returns true, and writes nothing that was there -/
theorem walk (a0 : Option Addr) (len0 cap0 : Nat) (R0 : Nat → shows.Rc) (a1 : Option Addr) (len1 cap1 : Nat) (R1 : Nat → shows.Rc) (w : World) (w0 : shows.IsRec w a0 len0 R0) (m0 : len0 ≤ maxLen) (w1 : shows.IsRec w a1 len1 R1) (m1 : len1 ≤ maxLen) :
    Calls Trym.prog 6 #[.slice a0 len0 cap0, .slice a1 len1 cap1] w fun e w' => e = .returned (.bool true) ∧ Below w.heap.size w w' := by
  by_cases h : 65536 < len0 ∨ 65536 < len1
  · exact shows.main_long a0 a1 len0 cap0 len1 cap1 R0 R1 w w0 w1 m0 m1 h
  · exact shows.main_short a0 a1 len0 cap0 len1 cap1 R0 R1 w w0 w1 (by omega) (by omega)

/-! ### THE ROW's STEP -/
set_option maxRecDepth 100000 in
theorem lifted (os : Os) (started : os.Started) (H : Type) (enc : TypeId × Value → H) :
    ReturnsInHanded {} Trym.checked os 6 .any (Rows.fnShowsIgnoresNeighboursSpec.pre6 enc Trym.prog Trym.f6 Rows.fnShowsIgnoresNeighboursRow.domain false) (Rows.fnShowsIgnoresNeighboursSpec.post enc Trym.prog Trym.f6 false true false false) := by
  refine returnsInHanded_of_change (C := Trym.checked) own started (by kernel_rfl) Trym.func6
    (ChangeSpec.witness6 (enc := enc) (C := Trym.checked) false ⟨#[], #[.slice none 0 0, .slice none 0 0], []⟩ 8 (by kernel_rfl) (by kernel_rfl) (by kernel_rfl) (by kernel_rfl)) ?_
  intro W base args ds gs before hval0 hW hcnd _
  have hval : ∀ (j : Nat) t v, Trym.f6.params[j]? = some t → args[j]? = some v → Value.okWide Trym.prog W .any base t v := hval0
  have hW' := hW
  obtain ⟨p, q, hA0, hV, rfl, hfz, hnd⟩ := hW
  have hA : DataW.TrodAll enc Trym.prog W 0 (fun _ => true) true Trym.f6.params.toList args.toList ds p := hA0
  rw [Trym.params6] at hA hval
  obtain ⟨v0, vs0, d0, ds0, p0, q0, hargs, rfl, rfl, h0, r0⟩ := trodAll_cons hA
  obtain ⟨v1, vs1, d1, ds1, p1, q1, rfl, rfl, rfl, h1, r1⟩ := trodAll_cons r0
  obtain ⟨rfl, rfl, rfl⟩ := trodAll_nil r1
  obtain rfl : args = #[v0, v1] := by cases args; simp_all
  obtain ⟨rfl, rfl⟩ := trodVars_none hV
  obtain ⟨a0, len0, cap0, rfl⟩ := okWide_slice Trym.underlying26 (hval 0 26 v0 rfl rfl)
  have k0 := h0
  have lt0 : ∀ x ∈ p0, x.block < W.heap.size := by obtain ⟨m, hm⟩ := k0; exact DataW.trod_lt m _ _ _ hm
  obtain ⟨R0, w0, m0⟩ : ∃ R, shows.IsRec W a0 len0 R ∧ len0 ≤ maxLen := by
    obtain ⟨fuel, hf⟩ := h0
    exact shows.open_recs (by simpa [Value.cells] using hf)
  obtain ⟨a1, len1, cap1, rfl⟩ := okWide_slice Trym.underlying26 (hval 1 26 v1 rfl rfl)
  have k1 := h1
  have lt1 : ∀ x ∈ p1, x.block < W.heap.size := by obtain ⟨m, hm⟩ := k1; exact DataW.trod_lt m _ _ _ hm
  obtain ⟨R1, w1, m1⟩ : ∃ R, shows.IsRec W a1 len1 R ∧ len1 ≤ maxLen := by
    obtain ⟨fuel, hf⟩ := h1
    exact shows.open_recs (by simpa [Value.cells] using hf)
  clear hA0 hval0
  refine (walk a0 len0 cap0 R0 a1 len1 cap1 R1 W w0 m0 w1 m1).mono fun e W' ⟨he, bel⟩ => ?_
  subst he
  exact ⟨_, rfl, _, _, _, [], _, [], hW', trodAll_mk1 (shut_bool Trym.underlying4 _), (trodAll_cons_mk (Below.trod laidOut (by kernel_rfl) (of_decide_eq_true (by kernel_rfl)) k0 bel lt0) (trodAll_cons_mk (Below.trod laidOut (by kernel_rfl) (of_decide_eq_true (by kernel_rfl)) k1 bel lt1) trodAll_mk0)), rfl, bel.frame _, fun h => by cases h⟩

theorem over : Rows.fnShowsIgnoresNeighboursRow.holds Trym.pinned (OpenSpec.ofChange Rows.fnShowsIgnoresNeighboursSpec) :=
  OpenClaim.holds_of_wide 6 Trym.f6 rfl rfl rfl rfl rfl rfl rfl ⟨rfl, rfl, rfl, rfl, rfl⟩ rfl rfl rfl rfl rfl (by kernel_rfl) Trym.func6 (by kernel_rfl)
    (of_decide_eq_true (by kernel_rfl)) (by unfold Func.isWrapper; first | (rw [if_pos (by decide +kernel)]; kernel_rfl) | (rw [if_neg (by decide +kernel)]; exact ⟨rfl, rfl⟩))
    (fun os started H enc _ => lifted os started H enc)

/-- ████ THE STATEMENT ████ -/
theorem proved : Rows.FnShowsIgnoresNeighboursSaid := over
#print axioms proved
end Go.Proofs.Qxb6608716aMods.fnShowsIgnoresNeighbours
