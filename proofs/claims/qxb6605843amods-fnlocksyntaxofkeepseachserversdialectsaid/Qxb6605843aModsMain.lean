import Derived.Test.Qxb6605843aModsParts
namespace Go.Proofs.Qxb6605843aMods.fnLockSyntaxOfKeepsEachServersDialect
open Go.ChangeShapes Go.WideShapes Go.ChangeAt Go.RowKit Plain
set_option linter.unusedVariables false

set_option maxRecDepth 100000 in
set_option maxHeartbeats 1000000 in
theorem walk_tf (w : World) : Calls Trym.prog 3 #[.bool true, .bool false] w fun e w' => e = .returned (.bool true) ∧ Grown w w' := by
  have c1 := c1
  have c2 := c2
  have c3 := c3
  have c4 := c4
  have c5 := c5
  have c6 := c6
  have c7 := c7
  have c8 := c8
  have c25 := c25
  have c26 := c26
  have c27 := c27
  have c28 := c28
  have c29 := c29
  have c30 := c30
  have c31 := c31
  have c32 := c32
  have c44 := c44
  have cat1 := cat1
  have cat2 := cat2
  go_enter Trym.func3, Trym.ntmps3
  go_wp2_with fail
  refine (zzlockSyn_tf _).mono ?_
  rintro e w1 ⟨rfl, hg1⟩
  go_wp2_with fail
  refine (zzlockSyn_tt _).mono ?_
  rintro e w2 ⟨rfl, hg2⟩
  go_wp2_with (first | (go_at_call 5; refine (hasPre_any _ _ _ ?_ ?_).mono ?_; decide +kernel; decide +kernel; rintro e w' ⟨rfl, rfl⟩) | (go_at_call 6; refine (contains_any _ _ _ ?_ ?_).mono ?_; decide +kernel; decide +kernel; rintro e w' ⟨rfl, rfl⟩) | (go_at_call 7; refine (hasSuf_any _ _ _ ?_ ?_).mono ?_; decide +kernel; decide +kernel; rintro e w' ⟨rfl, rfl⟩))
  go_ret
  exact ⟨rfl, grown_trans hg1 hg2⟩

set_option maxRecDepth 100000 in
set_option maxHeartbeats 1000000 in
theorem walk_ff (w : World) : Calls Trym.prog 3 #[.bool false, .bool false] w fun e w' => e = .returned (.bool true) ∧ Grown w w' := by
  have c9 := c9
  have c10 := c10
  have c11 := c11
  have c12 := c12
  have c13 := c13
  have c14 := c14
  have c15 := c15
  have c16 := c16
  have c25 := c25
  have c26 := c26
  have c27 := c27
  have c28 := c28
  have c29 := c29
  have c30 := c30
  have c31 := c31
  have c32 := c32
  have c46 := c46
  have cat1 := cat1
  have cat2 := cat2
  go_enter Trym.func3, Trym.ntmps3
  go_wp2_with fail
  refine (zzlockSyn_ff _).mono ?_
  rintro e w1 ⟨rfl, hg1⟩
  go_wp2_with fail
  refine (zzlockSyn_ft _).mono ?_
  rintro e w2 ⟨rfl, hg2⟩
  go_wp2_with (first | (go_at_call 5; refine (hasPre_any _ _ _ ?_ ?_).mono ?_; decide +kernel; decide +kernel; rintro e w' ⟨rfl, rfl⟩) | (go_at_call 6; refine (contains_any _ _ _ ?_ ?_).mono ?_; decide +kernel; decide +kernel; rintro e w' ⟨rfl, rfl⟩) | (go_at_call 7; refine (hasSuf_any _ _ _ ?_ ?_).mono ?_; decide +kernel; decide +kernel; rintro e w' ⟨rfl, rfl⟩))
  go_ret
  exact ⟨rfl, grown_trans hg1 hg2⟩

set_option maxRecDepth 100000 in
set_option maxHeartbeats 1000000 in
theorem walk_tt (w : World) : Calls Trym.prog 3 #[.bool true, .bool true] w fun e w' => e = .returned (.bool true) ∧ Grown w w' := by
  have c17 := c17
  have c18 := c18
  have c19 := c19
  have c20 := c20
  have c21 := c21
  have c22 := c22
  have c23 := c23
  have c24 := c24
  have c33 := c33
  have c34 := c34
  have c35 := c35
  have c36 := c36
  have c37 := c37
  have c38 := c38
  have c39 := c39
  have c40 := c40
  have c41 := c41
  have c42 := c42
  have c43 := c43
  have c49 := c49
  have c50 := c50
  have cat1 := cat1
  have cat2 := cat2
  go_enter Trym.func3, Trym.ntmps3
  go_wp2_with fail
  refine (zzlockSyn_tt _).mono ?_
  rintro e w1 ⟨rfl, hg1⟩
  go_wp2_with fail
  refine (zzlockSyn_tf _).mono ?_
  rintro e w2 ⟨rfl, hg2⟩
  go_wp2_with (first | (go_at_call 5; refine (hasPre_any _ _ _ ?_ ?_).mono ?_; decide +kernel; decide +kernel; rintro e w' ⟨rfl, rfl⟩) | (go_at_call 6; refine (contains_any _ _ _ ?_ ?_).mono ?_; decide +kernel; decide +kernel; rintro e w' ⟨rfl, rfl⟩) | (go_at_call 7; refine (hasSuf_any _ _ _ ?_ ?_).mono ?_; decide +kernel; decide +kernel; rintro e w' ⟨rfl, rfl⟩))
  go_ret
  exact ⟨rfl, grown_trans hg1 hg2⟩

set_option maxRecDepth 100000 in
set_option maxHeartbeats 1000000 in
theorem walk_ft (w : World) : Calls Trym.prog 3 #[.bool false, .bool true] w fun e w' => e = .returned (.bool true) ∧ Grown w w' := by
  have c17 := c17
  have c18 := c18
  have c19 := c19
  have c20 := c20
  have c21 := c21
  have c22 := c22
  have c23 := c23
  have c24 := c24
  have c33 := c33
  have c34 := c34
  have c35 := c35
  have c36 := c36
  have c37 := c37
  have c38 := c38
  have c39 := c39
  have c40 := c40
  have c49 := c49
  have cat1 := cat1
  have cat2 := cat2
  go_enter Trym.func3, Trym.ntmps3
  go_wp2_with fail
  refine (zzlockSyn_ft _).mono ?_
  rintro e w1 ⟨rfl, hg1⟩
  go_wp2_with fail
  refine (zzlockSyn_ff _).mono ?_
  rintro e w2 ⟨rfl, hg2⟩
  go_wp2_with (first | (go_at_call 5; refine (hasPre_any _ _ _ ?_ ?_).mono ?_; decide +kernel; decide +kernel; rintro e w' ⟨rfl, rfl⟩) | (go_at_call 6; refine (contains_any _ _ _ ?_ ?_).mono ?_; decide +kernel; decide +kernel; rintro e w' ⟨rfl, rfl⟩) | (go_at_call 7; refine (hasSuf_any _ _ _ ?_ ?_).mono ?_; decide +kernel; decide +kernel; rintro e w' ⟨rfl, rfl⟩))
  go_ret
  exact ⟨rfl, grown_trans hg1 hg2⟩

end Go.Proofs.Qxb6605843aMods.fnLockSyntaxOfKeepsEachServersDialect
