import Derived.Test.Qxb6608716aModsRecs
namespace Go.Proofs.Qxb6608716aMods.shows
open Go.ChangeShapes Go.WideShapes Go.ChangeAt Go.RowKit
set_option linter.unusedVariables false

theorem below_drewN {B : Nat} {a w : World} (h : Below B a w) (n : Nat) : Below B a (w.drewN n) := ⟨h.os, h.tape, h.output, h.size, h.block⟩

set_option maxRecDepth 100000 in
set_option maxHeartbeats 1000000 in
theorem sum_any (ao : Option Addr) (la ca : Nat) (RA : Nat → Rc) (lim : Int) (w : World) (hA : IsRec w ao la RA) (ma : la ≤ maxLen) :
    Calls Trym.prog 12 #[.slice ao la ca, .int .i64 lim] w fun e w' => GaveInt e ∧ Below w.heap.size w w' := by
  unfold maxLen at ma
  have HA : Hid (IsRec w ao la RA) := hA
  clear hA
  go_enter Trym.func12, Trym.ntmps12
  go_wp2
  go_loopw [5, 6] (fun n i wr => ∃ (k : Nat) (z : Int), k ≤ la ∧ i = .int .i64 k ∧ n = .int .i64 z ∧ Below w.heap.size w wr) (fun _ i _ => la - (intOf i).toNat)
  case atStart => exact ⟨0, _, Nat.zero_le _, rfl, rfl, Below.refl _ _⟩
  case round =>
    obtain ⟨k, z, hk, rfl, rfl, hb⟩ := hrel
    have HR : Hid (IsRec wr ao la RA) := HA.out.below hb
    by_cases hlt : k < la
    · obtain ⟨b, off, rfl, hc⟩ := HR.out (by omega)
      have c0 := rc0 (hc k hlt)
      have c3 := rc3 (hc k hlt)
      clear hc
      by_cases g0 : lim < ((RA k).1.size : Int)
      · go_wp2
        go_ret
        exact ⟨⟨_, rfl⟩, hb⟩
      · have d0 : decide (lim < ((RA k).1.size : Int)) = false := decide_eq_false g0
        by_cases g1 : lim < ((RA k).2.2.2.size : Int)
        · go_wp2
          go_ret
          exact ⟨⟨_, rfl⟩, hb⟩
        · have d1 : decide (lim < ((RA k).2.2.2.size : Int)) = false := decide_eq_false g1
          have i0 : (k : Int) < (la : Int) := by omega
          go_wp2
          go_quiet (fail)
          go_wp2
          all_goals (try (go_ret; exact ⟨⟨_, rfl⟩, below_drewN hb _⟩))
          go_roundw
          case rel => exact ⟨k + 1, _, by omega, by go_num, rfl, below_drewN hb _⟩
          case measure => simp [intOf]; omega
    · go_wp2
      go_ret
      exact ⟨⟨_, rfl⟩, hb⟩
end Go.Proofs.Qxb6608716aMods.shows
