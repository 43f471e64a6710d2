import Derived.Test.Qxb6608716aModsSum
namespace Go.Proofs.Qxb6608716aMods.shows
open Go.ChangeShapes Go.WideShapes Go.ChangeAt Go.RowKit
set_option linter.unusedVariables false

/-- The seven cells of the store.Head that headOf makes. -/
def hdCells (r : Rc) : List Value := [.string r.1, .bool r.2.1, .int .u64 0, .int .i64 0, .pointer none, .int .i64 r.2.2.1, .string r.2.2.2]

theorem headOf_any (c s : ByteArray) (o : Bool) (z : Int) (w : World) :
    Calls Trym.prog 18 #[.agg #[.string c, .bool o, .int .i64 z, .string s]] w fun e w' => e = .returned (.agg #[.string c, .bool o, .int .u64 0, .int .i64 0, .pointer none, .int .i64 z, .string s]) ∧ Below w.heap.size w w' := by
  go_enter Trym.func18, Trym.ntmps18
  go_wp2
  exact bodyPost_ret (v := .agg #[.string c, .bool o, .int .u64 0, .int .i64 0, .pointer none, .int .i64 z, .string s]) (by simp [results, Trym.results18, go_sem]) rfl ⟨rfl, ((Below.refl _ _).alloc (Nat.le_refl _) _).alloc (by simp) _⟩

theorem shows_any (g n c : Nat) (k : Nat) (cl : ByteArray) (w : World) (hk : k < n) (hc : w.cell? ⟨g, k * 7, none⟩ = some (.string cl)) :
    Calls Trym.prog 16 #[.slice (some ⟨g, 0, none⟩) n c, .int .i64 k] w fun e w' => e = .returned (.bool (!cl.toList.isEmpty)) ∧ Below w.heap.size w w' := by
  have hb : g < w.heap.size := World.block_lt_of_cell? w _ hc
  go_enter Trym.func16, Trym.ntmps16
  go_wp2
  go_ret
  exact ⟨rfl, (Below.refl _ _).alloc (Nat.le_refl _) _⟩
end Go.Proofs.Qxb6608716aMods.shows
