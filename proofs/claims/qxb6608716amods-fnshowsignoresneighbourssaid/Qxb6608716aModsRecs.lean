import Derived.Test.Qxb6608716aModsRows
import Derived.WalkKit
import Derived.ProofKit
import Derived.OpenShut
import Derived.ShutString
import Derived.WalkSpells
import Derived.WalkLawsBesides
import Derived.Deep.QuietTactic
import Derived.BigQuiet
import Derived.Deep.MidRow
import Derived.Deep.Slices
import Derived.ChangeOld
namespace Go.Proofs.Qxb6608716aMods.shows
open Go.ChangeShapes Go.WideShapes Go.ChangeAt Go.RowKit
set_option linter.unusedVariables false

/-- One HeadIn: Class, Ongoing, Size, SHA256. -/
abbrev Rc := ByteArray × Bool × Int × ByteArray
/-- Its four cells. -/
def rcCells (r : Rc) : List Value := [.string r.1, .bool r.2.1, .int .i64 r.2.2.1, .string r.2.2.2]

/-- A SLICE OF HeadIn: where it has an element it begins at a plain address, and element i's four cells hold 'R i'. -/
def IsRec (w : World) (ao : Option Addr) (len : Nat) (R : Nat → Rc) : Prop :=
  0 < len → ∃ b off, ao = some ⟨b, off, none⟩ ∧ ∀ i, i < len → w.rangeAt b (off + i * 4) (rcCells (R i))

theorem rc0 {w : World} {b o : Nat} {r : Rc} (h : w.rangeAt b o (rcCells r)) : w.cell? ⟨b, o, none⟩ = some (.string r.1) := h 0 _ rfl
theorem rc3 {w : World} {b o : Nat} {r : Rc} (h : w.rangeAt b o (rcCells r)) : w.cell? ⟨b, o + 3, none⟩ = some (.string r.2.2.2) := h 3 _ rfl

theorem rangeAt_below {B b o : Nat} {w w' : World} {cs : List Value} (hb : Below B w w') (h : w.rangeAt b o cs) (hlt : b < B) : w'.rangeAt b o cs := fun j v hv => by
  rw [hb.cell (p := ⟨b, o + j, none⟩) hlt]; exact h j v hv
theorem IsRec.below {w w' : World} {ao : Option Addr} {len : Nat} {R : Nat → Rc} (h : IsRec w ao len R) (hb : Below w.heap.size w w') : IsRec w' ao len R := fun hl => by
  obtain ⟨b, off, e, hc⟩ := h hl
  exact ⟨b, off, e, fun i hi => rangeAt_below hb (hc i hi) (World.block_lt_of_cell? w _ (rc0 (hc i hi)))⟩

/-- It hands back some bool; some int. (Behind names: the walk would take the bare existence apart.) -/
def GaveBool (e : Ending) : Prop := ∃ r, e = .returned (.bool r)
def GaveInt (e : Ending) : Prop := ∃ n, e = .returned (.int .i64 n)

set_option maxRecDepth 100000 in
set_option maxHeartbeats 1000000 in
theorem bytes_any (ao bo : Option Addr) (la ca lb cb : Nat) (RA RB : Nat → Rc) (w : World) (hA : IsRec w ao la RA) (hB : IsRec w bo lb RB) (ma : la ≤ maxLen) (mb : lb ≤ maxLen) :
    Calls Trym.prog 22 #[.slice ao la ca, .slice bo lb cb] w fun e w' => GaveBool e ∧ w' = w := by
  unfold maxLen at ma mb
  have HA : Hid (IsRec w ao la RA) := hA
  have HB : Hid (IsRec w bo lb RB) := hB
  clear hA hB
  go_enter Trym.func22, Trym.ntmps22
  go_wp2
  all_goals (try (go_ret; exact ⟨⟨_, rfl⟩, rfl⟩))
  go_loop [5, 6] (fun n i => ∃ (k : Nat) (z : Int), k ≤ la ∧ i = .int .i64 k ∧ n = .int .i64 z) (fun _ i => la - (intOf i).toNat)
  case atStart => exact ⟨0, _, Nat.zero_le _, rfl, rfl⟩
  case round =>
    obtain ⟨k, z, hk, rfl, rfl⟩ := hrel
    by_cases hlt : k < la
    · obtain ⟨b, off, rfl, hc⟩ := HA.out (by omega)
      have c0 := rc0 (hc k hlt)
      have c3 := rc3 (hc k hlt)
      clear hc
      go_wp2
      all_goals (try (go_ret; exact ⟨⟨_, rfl⟩, rfl⟩))
      go_round
      case rel => exact ⟨k + 1, _, by omega, by go_num, rfl⟩
      case measure => simp [intOf]; omega
    · go_wp2
      all_goals (try (go_ret; exact ⟨⟨_, rfl⟩, rfl⟩))
      go_loop [5, 7] (fun n i => ∃ (k : Nat) (z : Int), k ≤ lb ∧ i = .int .i64 k ∧ n = .int .i64 z) (fun _ i => lb - (intOf i).toNat)
      case atStart => exact ⟨0, _, Nat.zero_le _, rfl, rfl⟩
      case round =>
        obtain ⟨j, y, hj, rfl, rfl⟩ := hrel
        by_cases hjt : j < lb
        · obtain ⟨b, off, rfl, hc⟩ := HB.out (by omega)
          have c0 := rc0 (hc j hjt)
          have c3 := rc3 (hc j hjt)
          clear hc
          go_wp2
          all_goals (try (go_ret; exact ⟨⟨_, rfl⟩, rfl⟩))
          go_round
          case rel => exact ⟨j + 1, _, by omega, by go_num, rfl⟩
          case measure => simp [intOf]; omega
        · go_wp2
          go_ret
          exact ⟨⟨_, rfl⟩, rfl⟩
end Go.Proofs.Qxb6608716aMods.shows
