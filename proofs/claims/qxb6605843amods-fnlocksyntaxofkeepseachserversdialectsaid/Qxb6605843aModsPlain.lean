namespace Go.Proofs.Qxb6605843aMods.Plain

/-! ### The texts that lockSyntaxOf writes, byte by byte -/
/-- 'SET STATEMENT max_statement_time = 0.5 FOR ' -/
def pM : ByteArray := ⟨#[83, 69, 84, 32, 83, 84, 65, 84, 69, 77, 69, 78, 84, 32, 109, 97, 120, 95, 115, 116, 97, 116, 101, 109, 101, 110, 116, 95, 116, 105, 109, 101, 32, 61, 32, 48, 46, 53, 32, 70, 79, 82, 32]⟩
/-- ' LOCK IN SHARE MODE NOWAIT' -/
def shMN : ByteArray := ⟨#[32, 76, 79, 67, 75, 32, 73, 78, 32, 83, 72, 65, 82, 69, 32, 77, 79, 68, 69, 32, 78, 79, 87, 65, 73, 84]⟩
/-- ' FOR SHARE NOWAIT' -/
def shSN : ByteArray := ⟨#[32, 70, 79, 82, 32, 83, 72, 65, 82, 69, 32, 78, 79, 87, 65, 73, 84]⟩
/-- ' LOCK IN SHARE MODE' -/
def shW : ByteArray := ⟨#[32, 76, 79, 67, 75, 32, 73, 78, 32, 83, 72, 65, 82, 69, 32, 77, 79, 68, 69]⟩
/-- ' FOR UPDATE NOWAIT' -/
def exN : ByteArray := ⟨#[32, 70, 79, 82, 32, 85, 80, 68, 65, 84, 69, 32, 78, 79, 87, 65, 73, 84]⟩
/-- ' FOR UPDATE' -/
def exW : ByteArray := ⟨#[32, 70, 79, 82, 32, 85, 80, 68, 65, 84, 69]⟩

/-! ### What the three looking functions answer -/
def hp (s p : ByteArray) : Bool := decide (p.size ≤ s.size) && ((s.extract 0 p.size).toList == p.toList)
def hs (s p : ByteArray) : Bool := decide (p.size ≤ s.size) && ((s.extract (s.size - p.size) s.size).toList == p.toList)
def ct (s sub : ByteArray) : Bool := (List.range (s.size + 1)).any fun i => decide (i + sub.size ≤ s.size) && ((s.extract i (i + sub.size)).toList == sub.toList)

theorem ct_hit {s sub : ByteArray} {k : Nat} (h1 : k + sub.size ≤ s.size) (h2 : ((s.extract k (k + sub.size)).toList == sub.toList) = true) : ct s sub = true := by
  unfold ct
  rw [List.any_eq_true]
  exact ⟨k, List.mem_range.2 (by omega), by rw [h2, decide_eq_true h1]; rfl⟩
theorem ct_miss {s sub : ByteArray} {k : Nat} (h1 : s.size < k + sub.size) (h2 : ∀ j, j < k → ((s.extract j (j + sub.size)).toList == sub.toList) = false) : ct s sub = false := by
  unfold ct
  rw [List.any_eq_false]
  intro j _ h
  rw [Bool.and_eq_true] at h
  by_cases hj : j < k
  · rw [h2 j hj] at h
    exact absurd h.2 (by decide)
  · have := of_decide_eq_true h.1
    omega

/-! ### The facts of the law, each a closed reckoning -/
theorem c1 : hp shMN ⟨#[32]⟩ = true := by decide +kernel
theorem c2 : hs shMN ⟨#[32, 78, 79, 87, 65, 73, 84]⟩ = true := by decide +kernel
theorem c3 : ct shMN ⟨#[70, 79, 82, 32, 85, 80, 68, 65, 84, 69]⟩ = false := by decide +kernel
theorem c4 : ct shMN ⟨#[83, 72, 65, 82, 69]⟩ = true := by decide +kernel
theorem c5 : ct shMN ⟨#[85, 80, 68, 65, 84, 69]⟩ = false := by decide +kernel
theorem c6 : ct shMN ⟨#[70, 79, 82, 32, 83, 72, 65, 82, 69]⟩ = false := by decide +kernel
theorem c7 : ct shMN ⟨#[78, 79, 87, 65, 73, 84]⟩ = true := by decide +kernel
theorem c8 : ct shMN ⟨#[70, 79, 82, 32, 83, 72, 65, 82, 69, 32, 78, 79, 87, 65, 73, 84]⟩ = false := by decide +kernel
theorem c9 : hp shSN ⟨#[32]⟩ = true := by decide +kernel
theorem c10 : hs shSN ⟨#[32, 78, 79, 87, 65, 73, 84]⟩ = true := by decide +kernel
theorem c11 : ct shSN ⟨#[70, 79, 82, 32, 85, 80, 68, 65, 84, 69]⟩ = false := by decide +kernel
theorem c12 : ct shSN ⟨#[83, 72, 65, 82, 69]⟩ = true := by decide +kernel
theorem c13 : ct shSN ⟨#[85, 80, 68, 65, 84, 69]⟩ = false := by decide +kernel
theorem c14 : ct shSN ⟨#[70, 79, 82, 32, 83, 72, 65, 82, 69]⟩ = true := by decide +kernel
theorem c15 : ct shSN ⟨#[78, 79, 87, 65, 73, 84]⟩ = true := by decide +kernel
theorem c16 : ct shSN ⟨#[70, 79, 82, 32, 83, 72, 65, 82, 69, 32, 78, 79, 87, 65, 73, 84]⟩ = true := by decide +kernel
theorem c17 : hp shW ⟨#[32]⟩ = true := by decide +kernel
theorem c18 : hs shW ⟨#[32, 78, 79, 87, 65, 73, 84]⟩ = false := by decide +kernel
theorem c19 : ct shW ⟨#[70, 79, 82, 32, 85, 80, 68, 65, 84, 69]⟩ = false := by decide +kernel
theorem c20 : ct shW ⟨#[83, 72, 65, 82, 69]⟩ = true := by decide +kernel
theorem c21 : ct shW ⟨#[85, 80, 68, 65, 84, 69]⟩ = false := by decide +kernel
theorem c22 : ct shW ⟨#[70, 79, 82, 32, 83, 72, 65, 82, 69]⟩ = false := by decide +kernel
theorem c23 : ct shW ⟨#[78, 79, 87, 65, 73, 84]⟩ = false := by decide +kernel
theorem c24 : ct shW ⟨#[70, 79, 82, 32, 83, 72, 65, 82, 69, 32, 78, 79, 87, 65, 73, 84]⟩ = false := by decide +kernel
theorem c25 : hp exN ⟨#[32]⟩ = true := by decide +kernel
theorem c26 : hs exN ⟨#[32, 78, 79, 87, 65, 73, 84]⟩ = true := by decide +kernel
theorem c27 : ct exN ⟨#[70, 79, 82, 32, 85, 80, 68, 65, 84, 69]⟩ = true := by decide +kernel
theorem c28 : ct exN ⟨#[83, 72, 65, 82, 69]⟩ = false := by decide +kernel
theorem c29 : ct exN ⟨#[85, 80, 68, 65, 84, 69]⟩ = true := by decide +kernel
theorem c30 : ct exN ⟨#[70, 79, 82, 32, 83, 72, 65, 82, 69]⟩ = false := by decide +kernel
theorem c31 : ct exN ⟨#[78, 79, 87, 65, 73, 84]⟩ = true := by decide +kernel
theorem c32 : ct exN ⟨#[70, 79, 82, 32, 83, 72, 65, 82, 69, 32, 78, 79, 87, 65, 73, 84]⟩ = false := by decide +kernel
theorem c33 : hp exW ⟨#[32]⟩ = true := by decide +kernel
theorem c34 : hs exW ⟨#[32, 78, 79, 87, 65, 73, 84]⟩ = false := by decide +kernel
theorem c35 : ct exW ⟨#[70, 79, 82, 32, 85, 80, 68, 65, 84, 69]⟩ = true := by decide +kernel
theorem c36 : ct exW ⟨#[83, 72, 65, 82, 69]⟩ = false := by decide +kernel
theorem c37 : ct exW ⟨#[85, 80, 68, 65, 84, 69]⟩ = true := by decide +kernel
theorem c38 : ct exW ⟨#[70, 79, 82, 32, 83, 72, 65, 82, 69]⟩ = false := by decide +kernel
theorem c39 : ct exW ⟨#[78, 79, 87, 65, 73, 84]⟩ = false := by decide +kernel
theorem c40 : ct exW ⟨#[70, 79, 82, 32, 83, 72, 65, 82, 69, 32, 78, 79, 87, 65, 73, 84]⟩ = false := by decide +kernel
theorem c41 : hp pM ⟨#[83, 69, 84, 32, 83, 84, 65, 84, 69, 77, 69, 78, 84, 32]⟩ = true := by decide +kernel
theorem c42 : ct pM ⟨#[109, 97, 120, 95, 115, 116, 97, 116, 101, 109, 101, 110, 116, 95, 116, 105, 109, 101]⟩ = true := by decide +kernel
theorem c43 : hs pM ⟨#[32, 70, 79, 82, 32]⟩ = true := by decide +kernel
theorem c44 : (shMN.toList == exN.toList) = false := by decide +kernel
theorem c45 : (shMN.toList == exW.toList) = false := by decide +kernel
theorem c46 : (shSN.toList == exN.toList) = false := by decide +kernel
theorem c47 : (shSN.toList == exW.toList) = false := by decide +kernel
theorem c48 : (shW.toList == exN.toList) = false := by decide +kernel
theorem c49 : (shW.toList == exW.toList) = false := by decide +kernel
theorem c50 : pM.toList.isEmpty = false := by decide +kernel
theorem cat1 : exW ++ ⟨#[32, 78, 79, 87, 65, 73, 84]⟩ = exN := by decide +kernel
theorem cat2 : shW ++ ⟨#[32, 78, 79, 87, 65, 73, 84]⟩ = shMN := by decide +kernel
theorem pM_size : pM.size = 43 := by decide +kernel
theorem shMN_size : shMN.size = 26 := by decide +kernel
theorem shSN_size : shSN.size = 17 := by decide +kernel
theorem shW_size : shW.size = 19 := by decide +kernel
theorem exN_size : exN.size = 18 := by decide +kernel
theorem exW_size : exW.size = 11 := by decide +kernel
end Go.Proofs.Qxb6605843aMods.Plain
