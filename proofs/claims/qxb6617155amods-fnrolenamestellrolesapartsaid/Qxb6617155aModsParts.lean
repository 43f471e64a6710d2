import Derived.Test.Qxb6617155aModsRows
import Derived.WalkKit
import Derived.ProofKit
import Derived.OpenShut
import Derived.ShutString
namespace Go.Proofs.Qxb6617155aMods.fnRoleNamesTellRolesApart
open Go.ChangeShapes Go.WideShapes Go.ChangeAt Go.RowKit

/-- The name that the Go text gives a role's number, byte by byte. -/
def nm (a : Int) : ByteArray :=
  if a = 1 then ⟨#[99, 114, 97, 115, 104, 101, 100]⟩ else if a = 2 then ⟨#[109, 117, 116, 101]⟩ else if a = 3 then ⟨#[66, 121, 122, 97, 110, 116, 105, 110, 101]⟩ else ⟨#[104, 111, 110, 101, 115, 116]⟩
/-- The role that a number stands for. -/
def cls (a : Int) : Int := if a = 1 ∨ a = 2 ∨ a = 3 then a else 0

theorem cls_cases (a : Int) : cls a = 0 ∨ cls a = 1 ∨ cls a = 2 ∨ cls a = 3 := by unfold cls; split <;> omega
theorem nm_cls (a : Int) : nm (cls a) = nm a := by
  unfold cls
  split
  · rfl
  · have h1 : ¬ a = 1 := by omega
    have h2 : ¬ a = 2 := by omega
    have h3 : ¬ a = 3 := by omega
    simp [nm, h1, h2, h3]
/-- Names are the same just where the roles are. -/
theorem nm_apart (a b : Int) : ((nm a).toList == (nm b).toList) = (cls a == cls b) := by
  rw [← nm_cls a, ← nm_cls b]
  rcases cls_cases a with h | h | h | h <;> rcases cls_cases b with k | k | k | k <;> rw [h, k] <;> decide +kernel
theorem nm_word (a : Int) : 1 ≤ (nm a).size ∧ (nm a).size ≤ 64 ∧ ∀ i (h : i < (nm a).size), (97 ≤ ((nm a)[i]).toNat ∧ ((nm a)[i]).toNat ≤ 122) ∨ (65 ≤ ((nm a)[i]).toNat ∧ ((nm a)[i]).toNat ≤ 90) := by
  rw [← nm_cls a]
  rcases cls_cases a with h | h | h | h <;> rw [h] <;> decide

theorem string_any (a : Int) (w : World) : Calls Trym.prog 7 #[.int .i64 a] w fun e w' => e = .returned (.string (nm a)) ∧ w' = w := by
  unfold nm
  by_cases h1 : a = 1
  · subst h1
    go_enter Trym.func7, Trym.ntmps7
    go_wp2
    go_ret
    exact ⟨rfl, rfl⟩
  by_cases h2 : a = 2
  · subst h2
    go_enter Trym.func7, Trym.ntmps7
    go_wp2
    go_ret
    exact ⟨rfl, rfl⟩
  by_cases h3 : a = 3
  · subst h3
    go_enter Trym.func7, Trym.ntmps7
    go_wp2
    go_ret
    exact ⟨rfl, rfl⟩
  rw [if_neg h1, if_neg h2, if_neg h3]
  have g1 : (a == 1) = false := by simpa using h1
  have g2 : (a == 2) = false := by simpa using h2
  have g3 : (a == 3) = false := by simpa using h3
  go_enter Trym.func7, Trym.ntmps7
  go_wp2
  go_ret
  exact ⟨rfl, rfl⟩

theorem roleString_any (a : Int) (w : World) : Calls Trym.prog 4 #[.int .i64 a] w fun e w' => e = .returned (.string (nm a)) ∧ w' = w := by
  go_enter Trym.func4, Trym.ntmps4
  go_wp2_with (go_at_call 7; refine (string_any _ _).mono ?_; rintro e w' ⟨rfl, rfl⟩)
  go_ret
  exact ⟨rfl, rfl⟩

theorem class_any (a : Int) (w : World) : Calls Trym.prog 5 #[.int .i64 a] w fun e w' => e = .returned (.int .i64 (cls a)) ∧ w' = w := by
  unfold cls
  by_cases h0 : a = 0
  · subst h0
    go_enter Trym.func5, Trym.ntmps5
    go_wp2
    go_ret
    exact ⟨rfl, rfl⟩
  by_cases h1 : a = 1
  · subst h1
    go_enter Trym.func5, Trym.ntmps5
    go_wp2
    go_ret
    exact ⟨rfl, rfl⟩
  by_cases h2 : a = 2
  · subst h2
    go_enter Trym.func5, Trym.ntmps5
    go_wp2
    go_ret
    exact ⟨rfl, rfl⟩
  by_cases h3 : a = 3
  · subst h3
    go_enter Trym.func5, Trym.ntmps5
    go_wp2
    go_ret
    exact ⟨rfl, rfl⟩
  rw [if_neg (by omega)]
  have g0 : (a == 0) = false := by simpa using h0
  have g1 : (a == 1) = false := by simpa using h1
  have g2 : (a == 2) = false := by simpa using h2
  have g3 : (a == 3) = false := by simpa using h3
  go_enter Trym.func5, Trym.ntmps5
  go_wp2
  go_ret
  exact ⟨rfl, rfl⟩

theorem word_any (s : ByteArray) (w : World) (hs1 : 1 ≤ s.size) (hs2 : s.size ≤ 64)
    (hs : ∀ i (h : i < s.size), (97 ≤ (s[i]).toNat ∧ (s[i]).toNat ≤ 122) ∨ (65 ≤ (s[i]).toNat ∧ (s[i]).toNat ≤ 90)) :
    Calls Trym.prog 6 #[.string s] w fun e w' => e = .returned (.bool true) ∧ w' = w := by
  have HS : Hid (∀ i (h : i < s.size), (97 ≤ (s[i]).toNat ∧ (s[i]).toNat ≤ 122) ∨ (65 ≤ (s[i]).toNat ∧ (s[i]).toNat ≤ 90)) := hs
  clear hs
  have g0 : ((s.size : Int) == 0) = false := beq_false_of_ne (by omega)
  have g1 : ¬ (64 : Int) < (s.size : Int) := by omega
  go_enter Trym.func6, Trym.ntmps6
  go_wp2
  go_loop [3] (fun i => ∃ k : Nat, k ≤ s.size ∧ i = .int .i64 k) (fun i => s.size - (intOf i).toNat)
  case atStart => exact ⟨0, Nat.zero_le _, rfl⟩
  case round =>
    obtain ⟨k, hk, rfl⟩ := hrel
    by_cases hlt : k < s.size
    · rcases HS.out k hlt with ⟨h1, h2⟩ | ⟨h1, h2⟩
      · go_wp2
        all_goals
          go_round
          case rel => exact ⟨k + 1, by omega, by go_num⟩
          case measure => simp [intOf]; omega
      · have i2 : decide ((s[k].toNat : Int) ≤ 90) = true := decide_eq_true (by omega)
        go_wp2
        all_goals
          go_round
          case rel => exact ⟨k + 1, by omega, by go_num⟩
          case measure => simp [intOf]; omega
    · go_wp2
      go_ret
      exact ⟨rfl, rfl⟩
end Go.Proofs.Qxb6617155aMods.fnRoleNamesTellRolesApart
