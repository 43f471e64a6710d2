namespace Go.Proofs.Qxb6617348aMods.Plain

/-- A byte of printable ASCII. -/
def pr (c : UInt8) : Bool := decide (32 ≤ c.toNat) && decide (c.toNat ≤ 126)
def allPr (l : List UInt8) : Bool := l.all pr
/-- What validUserID answers: 1 to 255 bytes, each printable. -/
def vld (s : ByteArray) : Bool := decide (1 ≤ s.size) && decide (s.size ≤ 255) && allPr s.data.toList

theorem pr_yes {c : UInt8} (h1 : 32 ≤ c.toNat) (h2 : c.toNat ≤ 126) : pr c = true := by simp [pr, h1, h2]
theorem pr_lo {c : UInt8} (h : c.toNat < 32) : pr c = false := by simp [pr]; omega
theorem pr_hi {c : UInt8} (h : 126 < c.toNat) : pr c = false := by simp [pr]; omega
theorem take_snoc (s : ByteArray) (k : Nat) (h : k < s.size) : s.data.toList.take (k + 1) = s.data.toList.take k ++ [s[k]] := by
  rw [List.take_succ_eq_append_getElem (by simpa using h)]; rfl
theorem allPr_nil : allPr [] = true := rfl
theorem allPr_snoc (s : ByteArray) (k : Nat) (h : k < s.size) : allPr (s.data.toList.take (k + 1)) = (allPr (s.data.toList.take k) && pr s[k]) := by
  rw [take_snoc s k h]; simp [allPr]
theorem allPr_mono (s : ByteArray) (k : Nat) (h : allPr (s.data.toList.take k) = false) : allPr s.data.toList = false := by
  have e : s.data.toList = s.data.toList.take k ++ s.data.toList.drop k := (List.take_append_drop _ _).symm
  unfold allPr at *
  rw [e, List.all_append, h, Bool.false_and]
theorem allPr_whole (s : ByteArray) : allPr (s.data.toList.take s.size) = allPr s.data.toList := by
  rw [List.take_of_length_le (by exact Nat.le_refl _)]
theorem vld_empty (s : ByteArray) (h : s.size = 0) : vld s = false := by simp [vld, h]
theorem vld_long (s : ByteArray) (h : 255 < s.size) : vld s = false := by
  have : ¬ s.size ≤ 255 := by omega
  simp [vld, this]
theorem vld_mid (s : ByteArray) (h1 : 1 ≤ s.size) (h2 : s.size ≤ 255) : vld s = allPr s.data.toList := by simp [vld, h1, h2]
theorem vld_cut (s : ByteArray) (n : Nat) (h0 : 0 < n) (h1 : n < s.size) (h2 : s.size ≤ 255) : vld s = (vld (s.extract 0 n) && vld (s.extract n s.size)) := by
  have e1 : (s.extract 0 n).size = n := by simp; omega
  have e2 : (s.extract n s.size).size = s.size - n := by simp
  rw [vld_mid s (by omega) h2, vld_mid _ (by omega) (by omega), vld_mid _ (by omega) (by omega)]
  have e : s.data.toList = s.data.toList.take n ++ s.data.toList.drop n := (List.take_append_drop _ _).symm
  have d1 : (s.extract 0 n).data.toList = s.data.toList.take n := by simp [ByteArray.data_extract]
  have d2 : (s.extract n s.size).data.toList = s.data.toList.drop n := by
    simp only [ByteArray.data_extract, Array.toList_extract, List.extract_eq_take_drop]
    rw [List.take_of_length_le (by rw [List.length_drop]; exact Nat.le_refl _)]
  rw [d1, d2]
  conv => lhs; rw [e]
  unfold allPr
  rw [List.all_append]
end Go.Proofs.Qxb6617348aMods.Plain
