import Derived.Test.Qxb6605843aModsRows
import Derived.Test.Qxb6605843aModsPlain
import Derived.WalkKit
import Derived.ProofKit
import Derived.OpenShut
import Derived.ShutString
import Derived.WalkSpells
import Derived.WalkLawsBesides
import Derived.Deep.QuietTactic
import Derived.BigQuiet
namespace Go.Proofs.Qxb6605843aMods.fnLockSyntaxOfKeepsEachServersDialect
open Go.ChangeShapes Go.WideShapes Go.ChangeAt Go.RowKit Plain
set_option linter.unusedVariables false

theorem hasPre_any (s p : ByteArray) (w : World) (hs1 : s.size ≤ 1000) (hp1 : p.size ≤ 1000) : Calls Trym.prog 5 #[.string s, .string p] w fun e w' => e = .returned (.bool (hp s p)) ∧ w' = w := by
  unfold hp
  by_cases h : p.size ≤ s.size
  · have h' : (p.size : Int) ≤ (s.size : Int) := by omega
    rw [decide_eq_true h]
    go_enter Trym.func5, Trym.ntmps5
    go_wp2
    go_ret
    exact ⟨rfl, rfl⟩
  · have h' : decide ((p.size : Int) ≤ (s.size : Int)) = false := decide_eq_false (by omega)
    rw [decide_eq_false h]
    go_enter Trym.func5, Trym.ntmps5
    go_wp2
    go_ret
    exact ⟨rfl, rfl⟩

theorem hasSuf_any (s p : ByteArray) (w : World) (hs1 : s.size ≤ 1000) (hp1 : p.size ≤ 1000) : Calls Trym.prog 7 #[.string s, .string p] w fun e w' => e = .returned (.bool (hs s p)) ∧ w' = w := by
  unfold hs
  by_cases h : p.size ≤ s.size
  · have h' : (p.size : Int) ≤ (s.size : Int) := by omega
    rw [decide_eq_true h]
    go_enter Trym.func7, Trym.ntmps7
    go_wp2
    go_ret
    exact ⟨rfl, rfl⟩
  · have h' : decide ((p.size : Int) ≤ (s.size : Int)) = false := decide_eq_false (by omega)
    rw [decide_eq_false h]
    go_enter Trym.func7, Trym.ntmps7
    go_wp2
    go_ret
    exact ⟨rfl, rfl⟩

theorem contains_any (s p : ByteArray) (w : World) (hs1 : s.size ≤ 1000) (hp1 : p.size ≤ 1000) : Calls Trym.prog 6 #[.string s, .string p] w fun e w' => e = .returned (.bool (ct s p)) ∧ w' = w := by
  go_enter Trym.func6, Trym.ntmps6
  go_wp2
  go_loop [5] (fun i => ∃ k : Nat, k ≤ s.size + 1 ∧ i = .int .i64 k ∧ Hid (∀ j, j < k → ((s.extract j (j + p.size)).toList == p.toList) = false)) (fun i => s.size + 1 - (intOf i).toNat)
  case atStart => exact ⟨0, Nat.zero_le _, rfl, fun j hj => absurd hj (Nat.not_lt_zero _)⟩
  case round =>
    obtain ⟨k, hk, rfl, HP⟩ := hrel
    by_cases hlt : k + p.size ≤ s.size
    · have hlt' : (k : Int) + (p.size : Int) ≤ (s.size : Int) := by omega
      cases hb : ((s.extract k (k + p.size)).toList == p.toList)
      · have HN : Hid (∀ j, j < k + 1 → ((s.extract j (j + p.size)).toList == p.toList) = false) := by
          intro j hj
          by_cases e : j = k
          · subst e; exact hb
          · exact HP.out j (by omega)
        go_wp2
        go_round
        case rel => exact ⟨k + 1, by omega, by go_num, HN⟩
        case measure => simp [intOf]; omega
      · have HC : Hid (ct s p = true) := ct_hit hlt hb
        go_wp2
        go_ret
        exact ⟨by rw [HC.out]; rfl, rfl⟩
    · have HC : Hid (ct s p = false) := ct_miss (by omega) HP.out
      have hlt' : ¬ (k : Int) + (p.size : Int) ≤ (s.size : Int) := by omega
      go_wp2
      go_ret
      exact ⟨by rw [HC.out]; rfl, rfl⟩

theorem grown_trans {a b c : World} (h : Grown a b) (k : Grown b c) : Grown a c :=
  ⟨World.keptBut_trans h.1 k.1, fun x => (k.2.1 x).trans (h.2.1 x), Nat.le_trans h.2.2 k.2.2⟩

theorem lockSyn_tf (w : World) : Calls Trym.prog 8 #[.bool true, .bool false] w fun e w' => e = .returned (.agg #[.string ⟨#[]⟩, .string shMN, .string exN]) ∧ Grown w w' := by
  go_enter Trym.func8, Trym.ntmps8
  go_wp2
  exact bodyPost_ret (v := .agg #[.string ⟨#[]⟩, .string shMN, .string exN]) (by simp [results, Trym.results8, go_sem, shMN, exN]) rfl ⟨rfl, by repeat (first | exact Grown.refl _ | apply Grown.drew | apply Grown.alloc)⟩

theorem lockSyn_ff (w : World) : Calls Trym.prog 8 #[.bool false, .bool false] w fun e w' => e = .returned (.agg #[.string ⟨#[]⟩, .string shSN, .string exN]) ∧ Grown w w' := by
  go_enter Trym.func8, Trym.ntmps8
  go_wp2
  exact bodyPost_ret (v := .agg #[.string ⟨#[]⟩, .string shSN, .string exN]) (by simp [results, Trym.results8, go_sem, shSN, exN]) rfl ⟨rfl, by repeat (first | exact Grown.refl _ | apply Grown.drew | apply Grown.alloc)⟩

theorem lockSyn_tt (w : World) : Calls Trym.prog 8 #[.bool true, .bool true] w fun e w' => e = .returned (.agg #[.string pM, .string shW, .string exW]) ∧ Grown w w' := by
  go_enter Trym.func8, Trym.ntmps8
  go_wp2
  exact bodyPost_ret (v := .agg #[.string pM, .string shW, .string exW]) (by simp [results, Trym.results8, go_sem, pM, shW, exW]) rfl ⟨rfl, by repeat (first | exact Grown.refl _ | apply Grown.drew | apply Grown.alloc)⟩

theorem lockSyn_ft (w : World) : Calls Trym.prog 8 #[.bool false, .bool true] w fun e w' => e = .returned (.agg #[.string ⟨#[]⟩, .string shW, .string exW]) ∧ Grown w w' := by
  go_enter Trym.func8, Trym.ntmps8
  go_wp2
  exact bodyPost_ret (v := .agg #[.string ⟨#[]⟩, .string shW, .string exW]) (by simp [results, Trym.results8, go_sem, shW, exW]) rfl ⟨rfl, by repeat (first | exact Grown.refl _ | apply Grown.drew | apply Grown.alloc)⟩

theorem zzlockSyn_tf (w : World) : Calls Trym.prog 4 #[.bool true, .bool false] w fun e w' => e = .returned (.tuple #[.string ⟨#[]⟩, .string shMN, .string exN]) ∧ Grown w w' := by
  go_enter Trym.func4, Trym.ntmps4
  go_wp2_with (go_at_call 8; refine (lockSyn_tf _).mono ?_; rintro e w' ⟨rfl, hg⟩)
  go_quiet (fail)
  go_wp2
  go_ret3
  exact ⟨rfl, (grown_trans hg ((Grown.refl _).alloc _ _) : Grown _ _)⟩

theorem zzlockSyn_ff (w : World) : Calls Trym.prog 4 #[.bool false, .bool false] w fun e w' => e = .returned (.tuple #[.string ⟨#[]⟩, .string shSN, .string exN]) ∧ Grown w w' := by
  go_enter Trym.func4, Trym.ntmps4
  go_wp2_with (go_at_call 8; refine (lockSyn_ff _).mono ?_; rintro e w' ⟨rfl, hg⟩)
  go_quiet (fail)
  go_wp2
  go_ret3
  exact ⟨rfl, (grown_trans hg ((Grown.refl _).alloc _ _) : Grown _ _)⟩

theorem zzlockSyn_tt (w : World) : Calls Trym.prog 4 #[.bool true, .bool true] w fun e w' => e = .returned (.tuple #[.string pM, .string shW, .string exW]) ∧ Grown w w' := by
  go_enter Trym.func4, Trym.ntmps4
  go_wp2_with (go_at_call 8; refine (lockSyn_tt _).mono ?_; rintro e w' ⟨rfl, hg⟩)
  go_quiet (fail)
  go_wp2
  go_ret3
  exact ⟨rfl, (grown_trans hg ((Grown.refl _).alloc _ _) : Grown _ _)⟩

theorem zzlockSyn_ft (w : World) : Calls Trym.prog 4 #[.bool false, .bool true] w fun e w' => e = .returned (.tuple #[.string ⟨#[]⟩, .string shW, .string exW]) ∧ Grown w w' := by
  go_enter Trym.func4, Trym.ntmps4
  go_wp2_with (go_at_call 8; refine (lockSyn_ft _).mono ?_; rintro e w' ⟨rfl, hg⟩)
  go_quiet (fail)
  go_wp2
  go_ret3
  exact ⟨rfl, (grown_trans hg ((Grown.refl _).alloc _ _) : Grown _ _)⟩

end Go.Proofs.Qxb6605843aMods.fnLockSyntaxOfKeepsEachServersDialect
