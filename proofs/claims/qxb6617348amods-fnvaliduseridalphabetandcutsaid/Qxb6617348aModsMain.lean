import Derived.Test.Qxb6617348aModsParts
namespace Go.Proofs.Qxb6617348aMods.fnValidUserIDAlphabetAndCut
open Go.ChangeShapes Go.WideShapes Go.ChangeAt Go.RowKit Plain

/-- No byte, or more than 255: 'want' is false ahead of the loop. -/
theorem main_out (s : ByteArray) (n : Nat) (w : World) (hsm : s.size ≤ 1048576) (h6 : s.size ≤ 65536) (hn : n ≤ s.size) (ho : s.size = 0 ∨ 255 < s.size) :
    Calls Trym.prog 3 #[.string s, .int .i64 n] w fun e w' => e = .returned (.bool true) ∧ Grown w w' := by
  have hm' : ¬ (65536 : Int) < (s.size : Int) := by omega
  have hp' : decide ((s.size : Int) < (n : Int)) = false := decide_eq_false (by omega)
  rcases ho with h0 | h0
  · have hv := vld_empty s h0
    have hd : decide ((1 : Int) ≤ (s.size : Int)) = false := decide_eq_false (by omega)
    have hz : n = 0 := by omega
    subst hz
    clear h0
    go_enter Trym.func3, Trym.ntmps3
    go_wp2_with (first | (go_at_call 4; refine (bytes_yes _ _ _ hsm).mono ?_; rintro e w' ⟨rfl, rfl⟩) | (go_at_call 6; refine (zzvalid_any _ _).mono ?_; rintro e w' ⟨rfl, rfl⟩))
    go_loop [5, 6] (fun v i => v = .bool false ∧ i = .int .i64 0) (fun _ _ => 0)
    case atStart => exact ⟨rfl, rfl⟩
    case round =>
      obtain ⟨rfl, rfl⟩ := hrel
      go_wp2_with (first | (go_at_call 6; refine (zzvalid_any _ _).mono ?_; rintro e w' ⟨rfl, rfl⟩))
      all_goals (go_ret; exact ⟨rfl, Grown.refl _⟩)
  · have hv := vld_long s h0
    have hd : decide ((s.size : Int) ≤ 255) = false := decide_eq_false (by omega)
    go_enter Trym.func3, Trym.ntmps3
    go_wp2_with (first | (go_at_call 4; refine (bytes_yes _ _ _ hsm).mono ?_; rintro e w' ⟨rfl, rfl⟩) | (go_at_call 6; refine (zzvalid_any _ _).mono ?_; rintro e w' ⟨rfl, rfl⟩))
    go_loop [5, 6] (fun v i => v = .bool false ∧ i = .int .i64 0) (fun _ _ => 0)
    case atStart => exact ⟨rfl, rfl⟩
    case round =>
      obtain ⟨rfl, rfl⟩ := hrel
      go_wp2_with (first | (go_at_call 6; refine (zzvalid_any _ _).mono ?_; rintro e w' ⟨rfl, rfl⟩))
      all_goals (go_ret; exact ⟨rfl, Grown.refl _⟩)

/-- The cut leaves nothing on the left, nothing on the right, or something on both sides. -/
theorem cut_cases (s : ByteArray) (n : Nat) (hn : n ≤ s.size) :
    ((s.extract 0 n).toList.isEmpty = true ∧ True) ∨ ((s.extract n s.size).toList.isEmpty = true ∧ True) ∨ ((s.extract 0 n).toList.isEmpty = false ∧ (s.extract n s.size).toList.isEmpty = false ∧ 0 < n ∧ n < s.size) := by
  have e1 : (s.extract 0 n).size = n := by simp; omega
  have e2 : (s.extract n s.size).size = s.size - n := by simp
  have f1 := toList_empty (s.extract 0 n)
  have f2 := toList_empty (s.extract n s.size)
  rw [e1] at f1
  rw [e2] at f2
  by_cases h : n = 0
  · rw [decide_eq_true h] at f1
    exact .inl ⟨f1, trivial⟩
  by_cases h' : n = s.size
  · rw [decide_eq_true (by omega)] at f2
    exact .inr (.inl ⟨f2, trivial⟩)
  rw [decide_eq_false h] at f1
  rw [decide_eq_false (by omega)] at f2
  exact .inr (.inr ⟨f1, f2, by omega, by omega⟩)

set_option maxHeartbeats 1000000 in
theorem main_walk (s : ByteArray) (n : Nat) (w : World) (hsm : s.size ≤ 1048576) (h6 : s.size ≤ 65536) (hn : n ≤ s.size) :
    Calls Trym.prog 3 #[.string s, .int .i64 n] w fun e w' => e = .returned (.bool true) ∧ Grown w w' := by
  by_cases ho : s.size = 0 ∨ 255 < s.size
  · exact main_out s n w hsm h6 hn ho
  have h1 : 1 ≤ s.size := by omega
  have h2 : s.size ≤ 255 := by omega
  have hm' : ¬ (65536 : Int) < (s.size : Int) := by omega
  have hp' : decide ((s.size : Int) < (n : Int)) = false := decide_eq_false (by omega)
  have hd1 : decide ((s.size : Int) ≤ 255) = true := decide_eq_true (by omega)
  clear ho h6
  go_enter Trym.func3, Trym.ntmps3
  go_wp2_with (first | (go_at_call 4; refine (bytes_yes _ _ _ hsm).mono ?_; rintro e w' ⟨rfl, rfl⟩))
  go_loop [5, 6] (fun v i => ∃ k : Nat, k ≤ s.size ∧ i = .int .i64 k ∧ v = .bool (allPr (s.data.toList.take k))) (fun _ i => s.size - (intOf i).toNat)
  case atStart => exact ⟨0, Nat.zero_le _, rfl, rfl⟩
  case round =>
    obtain ⟨k, hk, rfl, rfl⟩ := hrel
    by_cases hlt : k < s.size
    · cases hb : allPr (s.data.toList.take k)
      · have hv : vld s = false := by rw [vld_mid s h1 h2]; exact allPr_mono s k hb
        rcases cut_cases s n hn with ⟨ea, eb⟩ | ⟨ea, eb⟩ | ⟨ea, eb, h3, h4⟩
        · go_wp2_with (first | (go_at_call 6; refine (zzvalid_any _ _).mono ?_; rintro e w' ⟨rfl, rfl⟩))
          all_goals (go_ret; exact ⟨rfl, Grown.refl _⟩)
        · go_wp2_with (first | (go_at_call 6; refine (zzvalid_any _ _).mono ?_; rintro e w' ⟨rfl, rfl⟩))
          all_goals (go_ret; exact ⟨rfl, Grown.refl _⟩)
        · have hc := vld_cut s n h3 h4 h2
          rw [hv] at hc
          cases va : vld (s.extract 0 n) <;> cases vb : vld (s.extract n s.size) <;> (first | (exfalso; rw [va, vb] at hc; revert hc; decide) | skip)
          all_goals
            clear hc h3 h4
            go_wp2_with (first | (go_at_call 6; refine (zzvalid_any _ _).mono ?_; rintro e w' ⟨rfl, rfl⟩))
            go_ret
            exact ⟨rfl, Grown.refl _⟩
      · have HN : Hid (allPr (s.data.toList.take (k + 1)) = (allPr (s.data.toList.take k) && pr s[k])) := allPr_snoc s k hlt
        cases hp : pr s[k]
        · go_wp2_with (first | (go_at_call 5; refine (alpha_any _ _).mono ?_; rintro e w' ⟨rfl, rfl⟩))
          go_round
          case rel => exact ⟨k + 1, by omega, by go_num, by rw [HN.out, hb, hp]; rfl⟩
          case measure => simp [intOf]; omega
        · go_wp2_with (first | (go_at_call 5; refine (alpha_any _ _).mono ?_; rintro e w' ⟨rfl, rfl⟩))
          go_round
          case rel => exact ⟨k + 1, by omega, by go_num, by rw [HN.out, hb, hp]; rfl⟩
          case measure => simp [intOf]; omega
    · have hks : k = s.size := by omega
      have hw : allPr (s.data.toList.take k) = vld s := by rw [vld_mid s h1 h2, ← allPr_whole, hks]
      clear hks
      cases hv : vld s
      all_goals
        rw [hv] at hw
        rcases cut_cases s n hn with ⟨ea, eb⟩ | ⟨ea, eb⟩ | ⟨ea, eb, h3, h4⟩
        · go_wp2_with (first | (go_at_call 6; refine (zzvalid_any _ _).mono ?_; rintro e w' ⟨rfl, rfl⟩))
          all_goals (go_ret; exact ⟨rfl, Grown.refl _⟩)
        · go_wp2_with (first | (go_at_call 6; refine (zzvalid_any _ _).mono ?_; rintro e w' ⟨rfl, rfl⟩))
          all_goals (go_ret; exact ⟨rfl, Grown.refl _⟩)
        · have hc := vld_cut s n h3 h4 h2
          rw [hv] at hc
          cases va : vld (s.extract 0 n) <;> cases vb : vld (s.extract n s.size) <;> (first | (exfalso; rw [va, vb] at hc; revert hc; decide) | skip)
          all_goals
            clear hc h3 h4
            go_wp2_with (first | (go_at_call 6; refine (zzvalid_any _ _).mono ?_; rintro e w' ⟨rfl, rfl⟩))
            go_ret
            exact ⟨rfl, Grown.refl _⟩
end Go.Proofs.Qxb6617348aMods.fnValidUserIDAlphabetAndCut
