import Derived.Test.Qxb6608716aModsFill
namespace Go.Proofs.Qxb6608716aMods.shows
open Go.ChangeShapes Go.WideShapes Go.ChangeAt Go.RowKit
set_option linter.unusedVariables false

theorem toHeads_nil (la : Nat) (w : World) (R : Nat → Rc) (ca : Nat) (hA : IsRec w none la R) :
    Calls Trym.prog 13 #[.slice none la ca] w fun e w' => ∃ v, e = .returned v ∧ IsHds w' v la R ∧ Below w.heap.size w w' := by
  have hl : ¬ 0 < la := fun h => by
    obtain ⟨b, off, e, _⟩ := hA h
    exact absurd e (by simp)
  have hq : ∀ (w : World) (a : Option Addr) (n c n' c' : Nat), (binOp .eql 26 (.slice a n c) (.slice none n' c')).run Trym.prog w = .ok (.bool a.isNone) w := fun w a n c n' c' => Lib.run_eql_slice_nil w _ _ a n c n' c' Trym.underlying26
  clear hA
  go_enter Trym.func13, Trym.ntmps13
  go_wp2
  go_ret
  exact ⟨_, rfl, fun h => absurd h hl, Below.refl _ _⟩

set_option maxHeartbeats 1000000 in
theorem toHeads_some (x : Addr) (la ca : Nat) (R : Nat → Rc) (w : World) (hA : IsRec w (some x) la R) (ma : la ≤ 200000) :
    Calls Trym.prog 13 #[.slice (some x) la ca] w fun e w' => ∃ v, e = .returned v ∧ IsHds w' v la R ∧ Below w.heap.size w w' := by
  have HA : Hid (IsRec w (some x) la R) := hA
  clear hA
  have hq : ∀ (w : World) (a : Option Addr) (n c n' c' : Nat), (binOp .eql 26 (.slice a n c) (.slice none n' c')).run Trym.prog w = .ok (.bool a.isNone) w := fun w a n c n' c' => Lib.run_eql_slice_nil w _ _ a n c n' c' Trym.underlying26
  obtain ⟨i0, hi, hz0, hz1, hz2⟩ := info_parts Trym.info40
  go_enter Trym.func13, Trym.ntmps13
  go_wp2_with (first | (at_make; refine wpList_make_full _ rfl _ _ 29 rfl w.heap.size 40 i0 _ 7 Trym.underlying29 hi hz0 hz1 _ _ _ _ la rfl rfl rfl rfl ?b1 ?b2 ?b3 ?_))
  case b1 => rw [hz2]; omega
  case b2 => unfold maxLen; omega
  case b3 => exact Nat.le_refl _
  intro w1 hown hgrow
  have ht : Hid (w1.there w.heap.size 0 (la * 7)) := there_of_owns hown
  have hb1 : Below w.heap.size w w1 := (Below.refl _ _).grown hgrow (Nat.le_refl _) (fun k h => by cases h)
  have hlt : w.heap.size < w1.heap.size := (hown.lt _ rfl).2
  clear hown hgrow hz0 hz1 hz2 hi
  go_wp2_with fail
  go_loopw [4] (fun i wr => ∃ k : Nat, k ≤ la ∧ i = .int .i64 k ∧ Hid (wr.there w.heap.size 0 (la * 7)) ∧ Hid (Filled wr w.heap.size 7 k fun j => hdCells (R j)) ∧ Below w.heap.size w wr ∧ w.heap.size < wr.heap.size) (fun i _ => la - (intOf i).toNat)
  case atStart => exact ⟨0, Nat.zero_le _, rfl, ht, fun j hj => absurd hj (Nat.not_lt_zero _), hb1, hlt⟩
  case round =>
    obtain ⟨k, hk, rfl, HT, HF, hb, hsz⟩ := hrel
    clear ht hb1 hlt
    by_cases hkl : k < la
    · obtain ⟨b, off, hx, hc⟩ := (HA.out.below hb) (by omega)
      cases hx
      have c0 := rc0 (hc k hkl)
      have c1 := rc1 (hc k hkl)
      have c2 := rc2 (hc k hkl)
      have c3 := rc3 (hc k hkl)
      clear hc
      go_wp2_with fail
      refine (headOf_any _ _ _ _ _).mono ?_
      rintro e w2 ⟨rfl, hb2⟩
      have HT2 : Hid (w2.there w.heap.size 0 (la * 7)) := there_below hb2 HT.out hsz
      have HF2 : Hid (Filled w2 w.heap.size 7 k fun j => hdCells (R j)) := HF.out.below hb2 hsz
      have HB2 : Below w.heap.size w w2 := hb.trans (hb2.mono (by omega))
      have hs2 : w.heap.size < w2.heap.size := Nat.lt_of_lt_of_le hsz hb2.size
      have HP : Hid (w2.there w.heap.size (k * 7) 7) := there_part HT2.out hkl
      clear HT HF hb hsz hb2 c0 c1 c2 c3
      go_wp2_with (refine wpList_store_mid (by rfl) 40 (.tmp 23) (.tmp 22) (by rfl) w.heap.size (k * 7) (hdCells (R k)).toArray (by rfl) (by rfl) (by exact HP.out) (by exact Trym.size40) (hd_one _) ?_)
      go_roundw
      case rel => exact ⟨k + 1, by omega, by go_num, (fill_step (fun j => hd_len (R j)) hkl HT2.out HF2.out).1, (fill_step (fun j => hd_len (R j)) hkl HT2.out HF2.out).2, below_setCells _ (Nat.le_refl _) _ _ _ HB2, by rw [size_setCells]; exact hs2⟩
      case measure => simp [intOf]; omega
    · have hka : k = la := by omega
      have HF2 : Hid (IsHds wr (.slice (some ⟨w.heap.size, 0, none⟩) la la) la R) := fun _ => ⟨_, rfl, by rw [← hka]; exact HF.out⟩
      clear hka
      go_wp2
      go_ret
      exact ⟨_, rfl, HF2.out, hb⟩

theorem toHeads_any (ao : Option Addr) (la ca : Nat) (R : Nat → Rc) (w : World) (hA : IsRec w ao la R) (ma : la ≤ 200000) :
    Calls Trym.prog 13 #[.slice ao la ca] w fun e w' => ∃ v, e = .returned v ∧ IsHds w' v la R ∧ Below w.heap.size w w' := by
  cases ao with
  | none => exact toHeads_nil la w R ca hA
  | some x => exact toHeads_some x la ca R w hA ma
end Go.Proofs.Qxb6608716aMods.shows
