import Derived.Test.Qxb6608716aModsMain
namespace Go.Proofs.Qxb6608716aMods.shows
open Go.ChangeShapes Go.WideShapes Go.ChangeAt Go.RowKit
set_option linter.unusedVariables false

theorem Trym.cells45 : Trym.prog.cellsOf 45 = 4 := by kernel_rfl
theorem Trym.cells9 : Trym.prog.cellsOf 9 = 1 := by kernel_rfl
theorem Trym.cells4 : Trym.prog.cellsOf 4 = 1 := by kernel_rfl
theorem Trym.cells2 : Trym.prog.cellsOf 2 = 1 := by kernel_rfl

theorem four {α : Type} {l : List α} (h : l.length = 4) : ∃ a b c d, l = [a, b, c, d] := by
  match l, h with
  | [a, b, c, d], _ => exact ⟨a, b, c, d, rfl⟩

/-- A SLICE OF HeadIn THAT CAME IN, OPENED AT EVERY INDEX. -/
theorem open_recs {H : Type} {enc : TypeId × Value → H} {w : World} {base : Nat} {spare : Nat → Bool} {held : Bool} {fuel : Nat} {ao : Option Addr} {len cap : Nat} {x : DataW H × List MemPlace}
    (h : DataW.trod enc Trym.prog w base spare held fuel 26 [.slice ao len cap] = some x) : ∃ R, IsRec w ao len R ∧ len ≤ maxLen := by
  rcases Go.Deep.open_slice Trym.underlying26 h with ⟨hcs, _⟩ | ⟨a, len', cap', m, n, D, Pl, hcs, hb, hl, hm, hmm, _, hx⟩
  · simp only [List.cons.injEq, Value.slice.injEq, and_true] at hcs
    obtain ⟨rfl, rfl, rfl⟩ := hcs
    exact ⟨fun _ => default, fun h0 => absurd h0 (Nat.lt_irrefl 0), Nat.zero_le _⟩
  · simp only [List.cons.injEq, Value.slice.injEq, and_true] at hcs
    obtain ⟨rfl, rfl, rfl⟩ := hcs
    have hlm : len ≤ m := by rw [hmm]; split <;> omega
    have each : ∀ i, i < len → ∃ r : Rc, w.cell? (a.add (i * 4)) = some (.string r.1) ∧ w.cell? (a.add (i * 4 + 1)) = some (.bool r.2.1) ∧ w.cell? (a.add (i * 4 + 2)) = some (.int .i64 r.2.2.1) ∧ w.cell? (a.add (i * 4 + 3)) = some (.string r.2.2.2) := by
      intro i hi
      obtain ⟨cs', h1, h2⟩ := hx i (by omega)
      rw [Trym.cells45] at h1
      obtain ⟨_, hlen, hcell⟩ := World.cells?_some h1
      obtain ⟨xs, k, hk, hxy, _, hxl, hf⟩ := DataW.trod_struct Trym.underlying45 h2
      obtain ⟨y0, y1, y2, y3, rfl⟩ := four (show xs.length = 4 from hxl)
      obtain ⟨v0, v1, v2, v3, rfl⟩ := four hlen
      have g0 := hf 0 _ rfl
      have g1 := hf 1 _ rfl
      have g2 := hf 2 _ rfl
      have g3 := hf 3 _ rfl
      simp [Trym.cells9, Trym.cells4, Trym.cells2] at g0 g1 g2 g3
      have e0 := hcell 0 (by omega)
      have e1 := hcell 1 (by omega)
      have e2 := hcell 2 (by omega)
      have e3 := hcell 3 (by omega)
      rw [Go.Deep.add_add] at e0 e1 e2 e3
      simp at e0 e1 e2 e3
      obtain ⟨s0, r0, _, _⟩ := DataW.trod_string Trym.underlying9 g0
      obtain ⟨o1, r1, _⟩ := DataW.trod_bool Trym.underlying4 g1
      obtain ⟨z2, r2, _, _⟩ := DataW.trod_int Trym.underlying2 g2
      obtain ⟨s3, r3, _, _⟩ := DataW.trod_string Trym.underlying9 g3
      simp only [List.cons.injEq, and_true] at r0 r1 r2 r3
      subst r0 r1 r2 r3
      exact ⟨(s0, o1, z2, s3), e0, e1, e2, e3⟩
    obtain ⟨R, hR⟩ := Go.Deep.choose_lt each
    refine ⟨R, fun hpos => ?_, Nat.le_trans hl hm⟩
    obtain ⟨b, off, spot⟩ := a
    have hspot : spot = none := by simpa [Addr.add] using World.cell?_spot (hR 0 hpos).1
    subst hspot
    refine ⟨b, off, rfl, fun i hi j v hv => ?_⟩
    obtain ⟨q0, q1, q2, q3⟩ := hR i hi
    rw [add_plain] at q0 q1 q2 q3
    match j, hv with
    | 0, hv => cases hv; exact q0
    | 1, hv => cases hv; exact q1
    | 2, hv => cases hv; exact q2
    | 3, hv => cases hv; exact q3
    | j + 4, hv => simp [rcCells] at hv
end Go.Proofs.Qxb6608716aMods.shows
