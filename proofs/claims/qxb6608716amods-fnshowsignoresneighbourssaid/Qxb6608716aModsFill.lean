import Derived.Test.Qxb6608716aModsHead
namespace Go.Proofs.Qxb6608716aMods.shows
open Go.ChangeShapes Go.WideShapes Go.ChangeAt Go.RowKit
set_option linter.unusedVariables false

theorem below_setCells {B : Nat} {a : World} (g : Nat) (hg : B ≤ g) : ∀ (vs : List Value) (o : Nat) (w : World), Below B a w → Below B a (w.setCells g o vs)
  | [], _, _, h => h
  | v :: r, o, w, h => by
    rw [World.setCells]
    exact below_setCells g hg r (o + 1) _ (h.setCell (p := ⟨g, o, none⟩) hg v)

theorem size_setCells (g : Nat) : ∀ (vs : List Value) (o : Nat) (w : World), (w.setCells g o vs).heap.size = w.heap.size
  | [], _, _ => rfl
  | v :: r, o, w => by
    rw [World.setCells, size_setCells g r (o + 1)]
    simp [World.setCell]

theorem there_part {w : World} {g n sz k : Nat} (h : w.there g 0 (n * sz)) (hk : k < n) : w.there g (k * sz) sz := fun j hj => by
  have h1 : (k + 1) * sz ≤ n * sz := Nat.mul_le_mul_right sz hk
  rw [Nat.succ_mul] at h1
  have := h (k * sz + j) (by omega)
  rwa [Nat.zero_add] at this

theorem there_below {B g o n : Nat} {w w' : World} (hb : Below B w w') (h : w.there g o n) (hlt : g < B) : w'.there g o n := fun j hj => by
  rw [hb.cell (p := ⟨g, o + j, none⟩) hlt, hb.frozen (p := ⟨g, o + j, none⟩) hlt]; exact h j hj

/-- The first k elements of a row of the call's own, 'sz' cells each, are filled. -/
def Filled (w : World) (g sz k : Nat) (F : Nat → List Value) : Prop := ∀ j, j < k → w.rangeAt g (j * sz) (F j)

theorem Filled.below {B g sz k : Nat} {F : Nat → List Value} {w w' : World} (hb : Below B w w') (h : Filled w g sz k F) (hlt : g < B) : Filled w' g sz k F := fun j hj => rangeAt_below hb (h j hj) hlt

theorem fill_step {w : World} {g sz n k : Nat} {F : Nat → List Value} (hlen : ∀ j, (F j).length = sz) (hk : k < n) (ht : w.there g 0 (n * sz)) (hf : Filled w g sz k F) :
    (w.setCells g (k * sz) (F k)).there g 0 (n * sz) ∧ Filled (w.setCells g (k * sz) (F k)) g sz (k + 1) F := by
  refine ⟨World.there_setCells ht _ _ _, fun j hj => ?_⟩
  by_cases e : j = k
  · subst e
    refine World.rangeAt_setCells_same w g _ _ ?_
    rw [hlen]
    exact there_part ht hk
  · refine World.rangeAt_setCells_apart (hf j (by omega)) _ _ _ (.inr (.inl ?_))
    rw [hlen]
    have h1 : (j + 1) * sz ≤ k * sz := Nat.mul_le_mul_right sz (by omega)
    rwa [Nat.succ_mul] at h1

/-- What 'make' leaves: all cells are there, and may be written. -/
theorem there_of_owns {w : World} {base e size g n : Nat} {xs : List Value} (h : w.ownsRow base e size (.slice (some ⟨g, 0, none⟩) n n) n xs) : w.there g 0 (n * size) := fun j hj => by
  rw [Nat.zero_add, h.cellAt j hj, h.frozenAt j]
  have := h.1
  exact ⟨by rw [List.getElem?_eq_getElem (by omega)]; rfl, rfl⟩

theorem hd_one (r : Rc) : (hdCells r).toArray.all (·.oneCell') = true := all_oneCell_toArray fun v hv => by
  simp only [hdCells, List.mem_cons, List.not_mem_nil, or_false] at hv
  rcases hv with rfl | rfl | rfl | rfl | rfl | rfl | rfl <;> rfl
theorem rc_one (r : Rc) : (rcCells r).toArray.all (·.oneCell') = true := all_oneCell_toArray fun v hv => by
  simp only [rcCells, List.mem_cons, List.not_mem_nil, or_false] at hv
  rcases hv with rfl | rfl | rfl | rfl <;> rfl
theorem hd_len (r : Rc) : (hdCells r).length = 7 := rfl
theorem rc_len (r : Rc) : (rcCells r).length = 4 := rfl

/-- A SLICE OF store.Head that toHeads made. -/
def IsHds (w : World) (v : Value) (len : Nat) (R : Nat → Rc) : Prop :=
  0 < len → ∃ g, v = .slice (some ⟨g, 0, none⟩) len len ∧ Filled w g 7 len fun j => hdCells (R j)

theorem hd0 {w : World} {b o : Nat} {r : Rc} (h : w.rangeAt b o (hdCells r)) : w.cell? ⟨b, o, none⟩ = some (.string r.1) := h 0 _ rfl

theorem IsHds.below {w w' : World} {v : Value} {len : Nat} {R : Nat → Rc} (h : IsHds w v len R) (hb : Below w.heap.size w w') : IsHds w' v len R := fun hl => by
  obtain ⟨g, e, hc⟩ := h hl
  exact ⟨g, e, hc.below hb (World.block_lt_of_cell? w _ (hd0 (hc 0 hl)))⟩

theorem rc1 {w : World} {b o : Nat} {r : Rc} (h : w.rangeAt b o (rcCells r)) : w.cell? ⟨b, o + 1, none⟩ = some (.bool r.2.1) := h 1 _ rfl
theorem rc2 {w : World} {b o : Nat} {r : Rc} (h : w.rangeAt b o (rcCells r)) : w.cell? ⟨b, o + 2, none⟩ = some (.int .i64 r.2.2.1) := h 2 _ rfl

theorem Trym.info40 : (Trym.prog.info? 40).map (fun i => (i.zero, i.size, i.bytes)) = some (some (.agg #[.string ⟨#[]⟩, .bool false, .int .u64 0, .int .i64 0, .pointer none, .int .i64 0, .string ⟨#[]⟩]), 7, 72) := by kernel_rfl
theorem Trym.info45 : (Trym.prog.info? 45).map (fun i => (i.zero, i.size, i.bytes)) = some (some (.agg #[.string ⟨#[]⟩, .bool false, .int .i64 0, .string ⟨#[]⟩]), 4, 48) := by kernel_rfl
theorem Trym.size40 : (Trym.prog.info? 40).map (·.size) = some 7 := by kernel_rfl
theorem Trym.size45 : (Trym.prog.info? 45).map (·.size) = some 4 := by kernel_rfl
end Go.Proofs.Qxb6608716aMods.shows
