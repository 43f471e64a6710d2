import Derived.Test.Qxb6617348aModsRows
import Derived.Test.Qxb6617348aModsPlain
import Derived.WalkKit
import Derived.ProofKit
import Derived.OpenShut
import Derived.ShutString
namespace Go.Proofs.Qxb6617348aMods.fnValidUserIDAlphabetAndCut
open Go.ChangeShapes Go.WideShapes Go.ChangeAt Go.RowKit Plain

theorem bytes_yes (s : ByteArray) (k : Int) (w : World) (h : s.size ≤ 1048576) : Calls Trym.prog 4 #[.string s, .int .i64 k] w fun e w' => e = .returned (.bool true) ∧ w' = w := by
  have h' : (s.size : Int) ≤ 1048576 := by omega
  go_enter Trym.func4, Trym.ntmps4
  go_wp2
  go_ret
  exact ⟨rfl, rfl⟩

theorem bytes_no (s : ByteArray) (k : Int) (w : World) (h : 1048576 < s.size) : Calls Trym.prog 4 #[.string s, .int .i64 k] w fun e w' => e = .returned (.bool false) ∧ w' = w := by
  have h' : (1048576 : Int) < (s.size : Int) := by omega
  go_enter Trym.func4, Trym.ntmps4
  go_wp2
  go_ret
  exact ⟨rfl, rfl⟩

set_option maxHeartbeats 400000 in
theorem valid_mid (s : ByteArray) (w : World) (h1 : 1 ≤ s.size) (h2 : s.size ≤ 255) :
    Calls Trym.prog 7 #[.string s] w fun e w' => e = .returned (.bool (allPr s.data.toList)) ∧ w' = w := by
  have g0 : s.toList.isEmpty = false := by
    rw [ByteArray.toList_eq, List.isEmpty_eq_false_iff]
    intro h
    have h3 : s.data.toList.length = 0 := by rw [h]; rfl
    have h4 : s.data.toList.length = s.size := rfl
    omega
  have g1 : ¬ (255 : Int) < (s.size : Int) := by omega
  go_enter Trym.func7, Trym.ntmps7
  go_wp2
  go_loop [3] (fun i => ∃ k : Nat, k ≤ s.size ∧ i = .int .i64 k ∧ Hid (allPr (s.data.toList.take k) = true)) (fun i => s.size - (intOf i).toNat)
  case atStart => exact ⟨0, Nat.zero_le _, rfl, rfl⟩
  case round =>
    obtain ⟨k, hk, rfl, HP⟩ := hrel
    by_cases hlt : k < s.size
    · have HN : Hid (allPr (s.data.toList.take (k + 1)) = (allPr (s.data.toList.take k) && pr s[k])) := allPr_snoc s k hlt
      by_cases hlo : s[k].toNat < 32
      · have HF : Hid (allPr s.data.toList = false) := allPr_mono s (k + 1) (by rw [HN.out, pr_lo hlo]; simp)
        go_wp2
        go_ret
        exact ⟨by rw [HF.out]; rfl, rfl⟩
      · by_cases hhi : 126 < s[k].toNat
        · have HF : Hid (allPr s.data.toList = false) := allPr_mono s (k + 1) (by rw [HN.out, pr_hi hhi]; simp)
          go_wp2
          go_ret
          exact ⟨by rw [HF.out]; rfl, rfl⟩
        · have i2 : decide ((126 : Int) < (s[k].toNat : Int)) = false := decide_eq_false (by omega)
          go_wp2
          go_round
          case rel => exact ⟨k + 1, by omega, by go_num, by show _ = _; rw [HN.out, HP.out, pr_yes (by omega) (by omega)]; rfl⟩
          case measure => simp [intOf]; omega
    · have hk' : k = s.size := by omega
      have HW : Hid (allPr s.data.toList = true) := by
        show _ = _
        rw [← allPr_whole, ← hk']
        exact HP.out
      clear hk'
      go_wp2
      go_ret
      exact ⟨by rw [HW.out]; rfl, rfl⟩

theorem toList_empty (s : ByteArray) : s.toList.isEmpty = decide (s.size = 0) := by
  rw [ByteArray.toList_eq]
  have h4 : s.data.toList.length = s.size := rfl
  by_cases h : s.size = 0
  · rw [decide_eq_true h, List.isEmpty_iff, ← List.length_eq_zero_iff]; omega
  · rw [decide_eq_false h, List.isEmpty_eq_false_iff]
    intro h3
    rw [h3] at h4
    exact h h4.symm

theorem valid_any (s : ByteArray) (w : World) : Calls Trym.prog 7 #[.string s] w fun e w' => e = .returned (.bool (vld s)) ∧ w' = w := by
  have h0 := toList_empty s
  by_cases h1 : s.size = 0
  · rw [decide_eq_true h1] at h0
    rw [vld_empty s h1]
    clear h1
    go_enter Trym.func7, Trym.ntmps7
    go_wp2
    go_ret
    exact ⟨rfl, rfl⟩
  rw [decide_eq_false h1] at h0
  by_cases h2 : 255 < s.size
  · rw [vld_long s h2]
    have h3 : (255 : Int) < (s.size : Int) := by omega
    clear h1 h2
    go_enter Trym.func7, Trym.ntmps7
    go_wp2
    go_ret
    exact ⟨rfl, rfl⟩
  rw [vld_mid s (by omega) (by omega)]
  exact valid_mid s w (by omega) (by omega)

theorem zzvalid_any (s : ByteArray) (w : World) : Calls Trym.prog 6 #[.string s] w fun e w' => e = .returned (.bool (vld s)) ∧ w' = w := by
  go_enter Trym.func6, Trym.ntmps6
  go_wp2_with (go_at_call 7; refine (valid_any _ _).mono ?_; rintro e w' ⟨rfl, rfl⟩)
  go_ret
  exact ⟨rfl, rfl⟩

/-- The 95 bytes that zzPrintable lists, in their order: byte k is 32 + k. -/
theorem printable_at : ∀ k (h : k < 95), ((⟨#[32, 33, 34, 35, 36, 37, 38, 39, 40, 41, 42, 43, 44, 45, 46, 47, 48, 49, 50, 51, 52, 53, 54, 55, 56, 57, 58, 59, 60, 61, 62, 63, 64, 65, 66, 67, 68, 69, 70, 71, 72, 73, 74, 75, 76, 77, 78, 79, 80, 81, 82, 83, 84, 85, 86, 87, 88, 89, 90, 91, 92, 93, 94, 95, 96, 97, 98, 99, 100, 101, 102, 103, 104, 105, 106, 107, 108, 109, 110, 111, 112, 113, 114, 115, 116, 117, 118, 119, 120, 121, 122, 123, 124, 125, 126]⟩ : ByteArray)[k]'(h)).toNat = 32 + k := by decide +kernel

set_option maxHeartbeats 400000 in
theorem alpha_any (c : UInt8) (w : World) : Calls Trym.prog 5 #[.int .u8 c.toNat] w fun e w' => e = .returned (.bool (pr c)) ∧ w' = w := by
  go_enter Trym.func5, Trym.ntmps5
  go_wp2
  go_loop [3] (fun i => ∃ k : Nat, k ≤ 95 ∧ i = .int .i64 k ∧ Hid (c.toNat < 32 ∨ 32 + k ≤ c.toNat)) (fun i => 95 - (intOf i).toNat)
  case atStart => exact ⟨0, Nat.zero_le _, rfl, by show _ ∨ _; omega⟩
  case round =>
    obtain ⟨k, hk, rfl, HP⟩ := hrel
    by_cases hlt : k < 95
    · have ht := printable_at k hlt
      by_cases hc : c.toNat = 32 + k
      · have HW : Hid (pr c = true) := pr_yes (by omega) (by omega)
        have hq : ((32 : Int) + (k : Int) == (c.toNat : Int)) = true := beq_iff_eq.2 (by omega)
        clear hc
        go_wp2
        go_ret
        exact ⟨by rw [HW.out]; rfl, rfl⟩
      · have hq : ((32 : Int) + (k : Int) == (c.toNat : Int)) = false := beq_false_of_ne (by omega)
        have HC : Hid (c.toNat < 32 ∨ 32 + (k + 1) ≤ c.toNat) := by
          show _ ∨ _
          rcases HP.out with h | h <;> omega
        clear hc
        go_wp2
        go_round
        case rel => exact ⟨k + 1, by omega, by go_num, HC⟩
        case measure => simp [intOf]; omega
    · have HW : Hid (pr c = false) := by
        rcases HP.out with h | h
        · exact pr_lo h
        · exact pr_hi (by omega)
      go_wp2
      go_ret
      exact ⟨by rw [HW.out]; rfl, rfl⟩
end Go.Proofs.Qxb6617348aMods.fnValidUserIDAlphabetAndCut
