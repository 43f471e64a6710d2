import Derived.Test.Qxb6608716aModsHeads
namespace Go.Proofs.Qxb6608716aMods.shows
open Go.ChangeShapes Go.WideShapes Go.ChangeAt Go.RowKit
set_option linter.unusedVariables false

/-- shows, the index a number that is reckoned. -/
theorem shows_at (g n c : Nat) (i : Int) (k : Nat) (cl : ByteArray) (w : World) (hi : i = (k : Int)) (hk : k < n) (hc : w.cell? ⟨g, k * 7, none⟩ = some (.string cl)) :
    Calls Trym.prog 16 #[.slice (some ⟨g, 0, none⟩) n c, .int .i64 i] w fun e w' => e = .returned (.bool (!cl.toList.isEmpty)) ∧ Below w.heap.size w w' := by
  subst hi
  exact shows_any g n c k cl w hk hc

/-- The records of a and b joined. -/
def joinR (la : Nat) (RA RB : Nat → Rc) (j : Nat) : Rc := if j < la then RA j else RB (j - la)
theorem joinR_lt {la : Nat} {RA RB : Nat → Rc} {j : Nat} (h : j < la) : joinR la RA RB j = RA j := if_pos h
theorem joinR_ge {la : Nat} {RA RB : Nat → Rc} (j : Nat) : joinR la RA RB (la + j) = RB j := by
  unfold joinR
  rw [if_neg (by omega), Nat.add_sub_cancel_left]

set_option maxRecDepth 100000 in
theorem main_long (ao bo : Option Addr) (la ca lb cb : Nat) (RA RB : Nat → Rc) (w : World) (hA : IsRec w ao la RA) (hB : IsRec w bo lb RB) (ma : la ≤ maxLen) (mb : lb ≤ maxLen)
    (h : 65536 < la ∨ 65536 < lb) :
    Calls Trym.prog 6 #[.slice ao la ca, .slice bo lb cb] w fun e w' => e = .returned (.bool true) ∧ Below w.heap.size w w' := by
  have C := bytes_any ao bo la ca lb cb RA RB w hA hB ma mb
  have HC : Hid (Calls Trym.prog 22 #[.slice ao la ca, .slice bo lb cb] w fun e w' => GaveBool e ∧ w' = w) := C
  unfold maxLen at ma mb
  clear C hA hB
  by_cases h1 : 65536 < la
  · have h1' : (65536 : Int) < (la : Int) := by omega
    clear h
    go_enter Trym.func6, Trym.ntmps6
    go_wp2_with fail
    refine HC.out.mono ?_
    rintro e w' ⟨⟨r, rfl⟩, rfl⟩
    cases r
    all_goals
      go_wp2
      go_ret
      exact ⟨rfl, Below.refl _ _⟩
  · have h1' : decide ((65536 : Int) < (la : Int)) = false := decide_eq_false (by omega)
    have h2' : (65536 : Int) < (lb : Int) := by omega
    clear h
    go_enter Trym.func6, Trym.ntmps6
    go_wp2_with fail
    refine HC.out.mono ?_
    rintro e w' ⟨⟨r, rfl⟩, rfl⟩
    cases r
    all_goals
      go_wp2
      go_ret
      exact ⟨rfl, Below.refl _ _⟩

set_option maxRecDepth 100000 in
set_option maxHeartbeats 2000000 in
theorem main_short (ao bo : Option Addr) (la ca lb cb : Nat) (RA RB : Nat → Rc) (w : World) (hA : IsRec w ao la RA) (hB : IsRec w bo lb RB) (ma : la ≤ 65536) (mb : lb ≤ 65536) :
    Calls Trym.prog 6 #[.slice ao la ca, .slice bo lb cb] w fun e w' => e = .returned (.bool true) ∧ Below w.heap.size w w' := by
  have C := bytes_any ao bo la ca lb cb RA RB w hA hB (by unfold maxLen; omega) (by unfold maxLen; omega)
  have HC : Hid (Calls Trym.prog 22 #[.slice ao la ca, .slice bo lb cb] w fun e w' => GaveBool e ∧ w' = w) := C
  have HA : Hid (IsRec w ao la RA) := hA
  have HB : Hid (IsRec w bo lb RB) := hB
  clear C hA hB
  have h1' : decide ((65536 : Int) < (la : Int)) = false := decide_eq_false (by omega)
  have h2' : decide ((65536 : Int) < (lb : Int)) = false := decide_eq_false (by omega)
  obtain ⟨i0, hi, hz0, hz1, hz2⟩ := info_parts Trym.info45
  go_enter Trym.func6, Trym.ntmps6
  go_wp2_with fail
  refine HC.out.mono ?_
  rintro e w0 ⟨⟨r, rfl⟩, rfl⟩
  clear HC
  cases r
  · go_wp2
    go_ret
    exact ⟨rfl, Below.refl _ _⟩
  go_wp2_with fail
  refine (sum_any ao la ca RA 1048576 w0 HA.out (by unfold maxLen; omega)).mono ?_
  rintro e w1 ⟨⟨n, rfl⟩, hb1⟩
  by_cases hn : 1048576 < n
  · go_wp2
    go_ret
    exact ⟨rfl, hb1⟩
  go_wp2_with fail
  refine (sum_any bo lb cb RB _ w1 (HB.out.below hb1) (by unfold maxLen; omega)).mono ?_
  rintro e w2 ⟨⟨m, rfl⟩, hb2⟩
  have HB2 : Hid (Below w0.heap.size w0 w2) := hb1.trans (hb2.mono hb1.size)
  clear hb1 hb2
  by_cases hm : wrap64 (1048576 - n) < m
  · go_wp2
    go_ret
    exact ⟨rfl, HB2.out⟩
  go_wp2_with (first | (at_make; refine wpList_make_full _ rfl _ _ 26 rfl w2.heap.size 45 i0 _ 4 Trym.underlying26 hi hz0 hz1 _ _ _ _ (la + lb) rfl rfl (by omega) (by omega) ?b1 ?b2 ?b3 ?_))
  case b1 => rw [hz2]; omega
  case b2 => unfold maxLen; omega
  case b3 => exact Nat.le_refl _
  intro w3 hown hgrow
  have HT3 : Hid (w3.there w2.heap.size 0 ((la + lb) * 4)) := there_of_owns hown
  have HB3 : Hid (Below w0.heap.size w0 w3) := HB2.out.grown hgrow HB2.out.size (fun k h => by cases h)
  have hlt3 : w2.heap.size < w3.heap.size := (hown.lt _ rfl).2
  have hle : w0.heap.size ≤ w2.heap.size := HB2.out.size
  clear hown hgrow hz0 hz1 hz2 hi HB2 hn hm
  go_wp2_with fail
  go_loopw [7] (fun i wr => ∃ k : Nat, k ≤ la ∧ i = .int .i64 k ∧ Hid (wr.there w2.heap.size 0 ((la + lb) * 4)) ∧ Hid (Filled wr w2.heap.size 4 k fun j => rcCells (joinR la RA RB j)) ∧ Hid (Below w0.heap.size w0 wr) ∧ w2.heap.size < wr.heap.size) (fun i _ => la - (intOf i).toNat)
  case atStart => exact ⟨0, Nat.zero_le _, rfl, HT3, fun j hj => absurd hj (Nat.not_lt_zero _), HB3, hlt3⟩
  case round =>
    obtain ⟨k, hk, rfl, HT, HF, Hb, hsz⟩ := hrel
    clear HT3 HB3 hlt3
    by_cases hkl : k < la
    · obtain ⟨b, off, rfl, hc⟩ := (HA.out.below Hb.out) (by omega)
      have c0 := rc0 (hc k hkl)
      have c1 := rc1 (hc k hkl)
      have c2 := rc2 (hc k hkl)
      have c3 := rc3 (hc k hkl)
      clear hc
      have hkn : k < la + lb := by omega
      have HP : Hid (wr.there w2.heap.size (k * 4) 4) := there_part HT.out hkn
      have HS : Hid ((wr.setCells w2.heap.size (k * 4) (rcCells (RA k))).there w2.heap.size 0 ((la + lb) * 4) ∧ Filled (wr.setCells w2.heap.size (k * 4) (rcCells (RA k))) w2.heap.size 4 (k + 1) fun j => rcCells (joinR la RA RB j)) := by
        have := fill_step (F := fun j => rcCells (joinR la RA RB j)) (fun j => rc_len _) hkn HT.out HF.out
        simp only [joinR_lt hkl] at this
        exact this
      go_wp2_with (refine wpList_store_mid (by rfl) 45 (.tmp 58) (.tmp 57) (by rfl) w2.heap.size (k * 4) (rcCells (RA k)).toArray (by rfl) (by rfl) (by exact HP.out) (by exact Trym.size45) (rc_one _) ?_)
      go_roundw
      case rel => exact ⟨k + 1, by omega, by go_num, HS.out.1, HS.out.2, below_setCells _ hle _ _ _ Hb.out, by rw [size_setCells]; exact hsz⟩
      case measure => simp [intOf]; omega
    · have hka : k = la := by omega
      have HF1 : Hid (Filled wr w2.heap.size 4 (la + 0) fun j => rcCells (joinR la RA RB j)) := fun j hj => HF.out j (by omega)
      clear hka HF
      go_wp2_with fail
      go_loopw [8] (fun i wr => ∃ k : Nat, k ≤ lb ∧ i = .int .i64 k ∧ Hid (wr.there w2.heap.size 0 ((la + lb) * 4)) ∧ Hid (Filled wr w2.heap.size 4 (la + k) fun j => rcCells (joinR la RA RB j)) ∧ Hid (Below w0.heap.size w0 wr) ∧ w2.heap.size < wr.heap.size) (fun i _ => lb - (intOf i).toNat)
      case atStart => exact ⟨0, Nat.zero_le _, rfl, HT, HF1, Hb, hsz⟩
      case round =>
        obtain ⟨j, hj, rfl, HT', HF', Hb', hsz'⟩ := hrel
        clear HT HF1 Hb hsz
        by_cases hjl : j < lb
        · obtain ⟨b, off, rfl, hc⟩ := (HB.out.below Hb'.out) (by omega)
          have c0 := rc0 (hc j hjl)
          have c1 := rc1 (hc j hjl)
          have c2 := rc2 (hc j hjl)
          have c3 := rc3 (hc j hjl)
          clear hc
          have hjn : la + j < la + lb := by omega
          have HP := there_part HT'.out hjn
          have HS := fill_step (F := fun j => rcCells (joinR la RA RB j)) (fun j => rc_len _) hjn HT'.out HF'.out
          simp only [joinR_ge] at HS
          have HP : Hid _ := HP
          have HS : Hid _ := HS
          go_wp2_with (refine wpList_store_mid (by rfl) 45 (.tmp 74) (.tmp 73) (by rfl) _ ((la + j) * 4) (rcCells (RB j)).toArray (by rfl) (by rfl) (by exact HP.out) (by exact Trym.size45) (rc_one _) ?_)
          go_roundw
          case rel => exact ⟨j + 1, by omega, by go_num, HS.out.1, HS.out.2, below_setCells _ hle _ _ _ Hb'.out, by rw [size_setCells]; exact hsz'⟩
          case measure => simp [intOf]; omega
        · have hjb : j = lb := by omega
          have HJ : Hid (IsRec wr (some ⟨w2.heap.size, 0, none⟩) (la + lb) (joinR la RA RB)) := fun _ => ⟨_, _, rfl, fun i hi => by rw [Nat.zero_add]; exact HF'.out i (by omega)⟩
          clear hjb HF' HT'
          go_wp2_with fail
          refine (toHeads_any ao la ca RA _ (HA.out.below Hb'.out) (by omega)).mono ?_
          rintro e w5 ⟨va, rfl, hva, hb5⟩
          go_wp2_with fail
          refine (toHeads_any bo lb cb RB _ ((HB.out.below Hb'.out).below hb5) (by omega)).mono ?_
          rintro e w6 ⟨vb, rfl, hvb, hb6⟩
          go_wp2_with fail
          refine (toHeads_any _ _ _ (joinR la RA RB) _ ((HJ.out.below hb5).below hb6) (by omega)).mono ?_
          rintro e w7 ⟨vj, rfl, hvj, hb7⟩
          have HVA : Hid (IsHds w7 va la RA) := (hva.below hb6).below hb7
          have HVB : Hid (IsHds w7 vb lb RB) := hvb.below hb7
          have HVJ : Hid (IsHds w7 vj (la + lb) (joinR la RA RB)) := hvj
          have HJ7 : Hid (IsRec w7 (some ⟨w2.heap.size, 0, none⟩) (la + lb) (joinR la RA RB)) := ((HJ.out.below hb5).below hb6).below hb7
          have HB7 : Hid (Below w0.heap.size w0 w7) := ((Hb'.out.trans (hb5.mono Hb'.out.size)).trans (hb6.mono (Nat.le_trans Hb'.out.size hb5.size))).trans (hb7.mono (Nat.le_trans (Nat.le_trans Hb'.out.size hb5.size) hb6.size))
          clear hva hvb hvj hb5 hb6 hb7 HJ HA HB Hb' hsz'
          go_wp2_with fail
          go_loopw [12, 13, 14] (fun nm sh i wr => ∃ (k : Nat) (z : Int), k ≤ la + lb ∧ i = .int .i64 k ∧ nm = .int .i64 z ∧ sh = .int .i64 z ∧ 0 ≤ z ∧ z ≤ (k : Int) ∧ Hid (Below w7.heap.size w7 wr)) (fun _ _ i _ => la + lb - (intOf i).toNat)
          case atStart => exact ⟨0, 0, Nat.zero_le _, rfl, rfl, rfl, Int.le_refl _, Int.le_refl _, Below.refl _ _⟩
          case round =>
            obtain ⟨t, z, ht, rfl, rfl, rfl, hz0, hz1, Hbr⟩ := hrel
            by_cases htl : t < la + lb
            · obtain ⟨gj, rfl, fj⟩ := (HVJ.out.below Hbr.out) (by omega)
              have cj := hd0 (fj t htl)
              obtain ⟨b', off', e', hc⟩ := (HJ7.out.below Hbr.out) (by omega)
              cases e'
              have c0 := rc0 (hc t htl)
              rw [Nat.zero_add] at c0
              clear hc fj
              by_cases hta : t < la
              · obtain ⟨ga, rfl, fa⟩ := (HVA.out.below Hbr.out) (by omega)
                have ca' := hd0 (fa t hta)
                rw [← joinR_lt (RA := RA) (RB := RB) hta] at ca'
                clear fa
                go_wp2_with fail
                refine (shows_at gj _ _ _ t _ _ rfl htl cj).mono ?_
                rintro e wa ⟨rfl, hba⟩
                have cp := cell_later hba ca'
                have c0a := cell_later hba c0
                go_wp2_with fail
                refine (shows_at _ _ _ _ t _ _ rfl hta cp).mono ?_
                rintro e wb ⟨rfl, hbb⟩
                have c0b := cell_later hbb c0a
                have HBb : Hid (Below w7.heap.size w7 wb) := (Hbr.out.trans (hba.mono Hbr.out.size)).trans (hbb.mono (Nat.le_trans Hbr.out.size hba.size))
                clear cj c0 c0a cp hba hbb Hbr ca'
                cases hE : (joinR la RA RB t).1.toList.isEmpty
                · go_wp2
                  go_roundw
                  case rel => exact ⟨t + 1, z + 1, by omega, by go_num, by go_num, by go_num, by omega, by omega, HBb⟩
                  case measure => simp [intOf]; omega
                · go_wp2
                  go_roundw
                  case rel => exact ⟨t + 1, z, by omega, by go_num, by go_num, by go_num, by omega, by omega, HBb⟩
                  case measure => simp [intOf]; omega
              · obtain ⟨gb, rfl, fb⟩ := (HVB.out.below Hbr.out) (by omega)
                have cb' := hd0 (fb (t - la) (by omega))
                rw [← joinR_ge (la := la) (RA := RA) (RB := RB) (t - la), Nat.add_sub_cancel' (by omega : la ≤ t)] at cb'
                clear fb
                go_wp2_with fail
                refine (shows_at gj _ _ _ t _ _ rfl htl cj).mono ?_
                rintro e wa ⟨rfl, hba⟩
                have cp := cell_later hba cb'
                have c0a := cell_later hba c0
                go_wp2_with fail
                refine (shows_at _ _ _ _ (t - la) _ _ (by omega) (by omega) cp).mono ?_
                rintro e wb ⟨rfl, hbb⟩
                have c0b := cell_later hbb c0a
                have HBb : Hid (Below w7.heap.size w7 wb) := (Hbr.out.trans (hba.mono Hbr.out.size)).trans (hbb.mono (Nat.le_trans Hbr.out.size hba.size))
                clear cj c0 c0a cp hba hbb Hbr cb'
                cases hE : (joinR la RA RB t).1.toList.isEmpty
                · go_wp2
                  go_roundw
                  case rel => exact ⟨t + 1, z + 1, by omega, by go_num, by go_num, by go_num, by omega, by omega, HBb⟩
                  case measure => simp [intOf]; omega
                · go_wp2
                  go_roundw
                  case rel => exact ⟨t + 1, z, by omega, by go_num, by go_num, by go_num, by omega, by omega, HBb⟩
                  case measure => simp [intOf]; omega
            · go_wp2
              go_ret
              exact ⟨rfl, HB7.out.trans (Hbr.out.mono HB7.out.size)⟩
end Go.Proofs.Qxb6608716aMods.shows
