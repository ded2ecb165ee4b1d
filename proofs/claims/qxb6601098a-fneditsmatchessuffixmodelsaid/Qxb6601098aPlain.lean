/-
  THE PLAIN LAWS of the distance: insert, delete, replace, swap of two neighbours; over prefixes. No Go in sight.
-/
namespace Go.Proofs.Qxb6601098a

/-- What replacing costs. -/
def cost (a b : Int) : Nat := if a = b then 0 else 1
/-- The least of three. -/
def min3 (a b c : Nat) : Nat := if c < (if b < a then b else a) then c else (if b < a then b else a)
/-- Go's 'min(a, b)'. -/
def min2 (a b : Nat) : Nat := if b < a then b else a
/-- One entry, of the four that it leans on. -/
def entry (x y : Nat → Int) (i j up left diag far : Nat) : Nat :=
  if 1 ≤ i ∧ 1 ≤ j ∧ x i = y (j - 1) ∧ x (i - 1) = y j then min2 (min3 (up + 1) (left + 1) (diag + cost (x i) (y j))) (far + 1) else min3 (up + 1) (left + 1) (diag + cost (x i) (y j))

/-- The row behind row i. -/
def rowStep (x y : Nat → Int) (i : Nat) (p2 p1 : Nat → Nat) : Nat → Nat
  | 0 => i + 1
  | j + 1 => entry x y i j (p1 (j + 1)) (rowStep x y i p2 p1 j) (p1 j) (p2 (j - 1))

/-- Row i and the row ahead of it. -/
def rows (x y : Nat → Int) : Nat → (Nat → Nat) × (Nat → Nat)
  | 0 => (fun j => j, fun _ => 0)
  | i + 1 => (rowStep x y i (rows x y i).2 (rows x y i).1, (rows x y i).1)

/-- The edits that make x[:i] into y[:j]. -/
def D (x y : Nat → Int) (i j : Nat) : Nat := (rows x y i).1 j

theorem D_zero (x y : Nat → Int) (j : Nat) : D x y 0 j = j := rfl
theorem D_left (x y : Nat → Int) (i : Nat) : D x y i 0 = i := by
  cases i <;> rfl
theorem rows_snd (x y : Nat → Int) (i : Nat) (hi : 1 ≤ i) : (rows x y i).2 = (rows x y (i - 1)).1 := by
  cases i with
  | zero => omega
  | succ i => rfl
theorem D_succ (x y : Nat → Int) (i j : Nat) : D x y (i + 1) (j + 1) = entry x y i j (D x y i (j + 1)) (D x y (i + 1) j) (D x y i j) (D x y (i - 1) (j - 1)) := by
  show entry x y i j (D x y i (j + 1)) (D x y (i + 1) j) (D x y i j) ((rows x y i).2 (j - 1)) = _
  by_cases hi : 1 ≤ i
  · rw [rows_snd x y i hi]; rfl
  · simp [entry, hi]

/-! ### Steps: no entry is greater than a neighbour's and a step; and each is one of them -/
theorem min3_le1 (a b c : Nat) : min3 a b c ≤ a := by unfold min3; split <;> (try split at *) <;> omega
theorem min3_le2 (a b c : Nat) : min3 a b c ≤ b := by unfold min3; split <;> (try split at *) <;> omega
theorem min3_le3 (a b c : Nat) : min3 a b c ≤ c := by unfold min3; split <;> (try split at *) <;> omega
theorem min3_is (a b c : Nat) : min3 a b c = a ∨ min3 a b c = b ∨ min3 a b c = c := by unfold min3; split <;> (try split at *) <;> simp
theorem min2_le1 (a b : Nat) : min2 a b ≤ a := by unfold min2; split <;> omega
theorem min2_le2 (a b : Nat) : min2 a b ≤ b := by unfold min2; split <;> omega
theorem min2_is (a b : Nat) : min2 a b = a ∨ min2 a b = b := by unfold min2; split <;> simp
theorem cost_le (a b : Int) : cost a b ≤ 1 := by unfold cost; split <;> omega

theorem entry_le (x y : Nat → Int) (i j up left diag far : Nat) : entry x y i j up left diag far ≤ min3 (up + 1) (left + 1) (diag + cost (x i) (y j)) := by
  unfold entry
  split
  · exact min2_le1 _ _
  · exact Nat.le_refl _
theorem entry_up (x y : Nat → Int) (i j up left diag far : Nat) : entry x y i j up left diag far ≤ up + 1 := Nat.le_trans (entry_le ..) (min3_le1 _ _ _)
theorem entry_left (x y : Nat → Int) (i j up left diag far : Nat) : entry x y i j up left diag far ≤ left + 1 := Nat.le_trans (entry_le ..) (min3_le2 _ _ _)
theorem entry_diag (x y : Nat → Int) (i j up left diag far : Nat) : entry x y i j up left diag far ≤ diag + cost (x i) (y j) := Nat.le_trans (entry_le ..) (min3_le3 _ _ _)
theorem entry_far (x y : Nat → Int) (i j up left diag far : Nat) (h : 1 ≤ i ∧ 1 ≤ j ∧ x i = y (j - 1) ∧ x (i - 1) = y j) : entry x y i j up left diag far ≤ far + 1 := by
  unfold entry; rw [if_pos h]; exact min2_le2 _ _
theorem entry_is (x y : Nat → Int) (i j up left diag far : Nat) : entry x y i j up left diag far = up + 1 ∨ entry x y i j up left diag far = left + 1 ∨ entry x y i j up left diag far = diag + cost (x i) (y j) ∨
    ((1 ≤ i ∧ 1 ≤ j ∧ x i = y (j - 1) ∧ x (i - 1) = y j) ∧ entry x y i j up left diag far = far + 1) := by
  unfold entry
  have h3 := min3_is (up + 1) (left + 1) (diag + cost (x i) (y j))
  split
  · rename_i h
    rcases min2_is (min3 (up + 1) (left + 1) (diag + cost (x i) (y j))) (far + 1) with e | e
    · rw [e]
      rcases h3 with h3 | h3 | h3
      · exact .inl h3
      · exact .inr (.inl h3)
      · exact .inr (.inr (.inl h3))
    · exact .inr (.inr (.inr ⟨h, e⟩))
  · rcases h3 with h3 | h3 | h3
    · exact .inl h3
    · exact .inr (.inl h3)
    · exact .inr (.inr (.inl h3))

theorem D_up (x y : Nat → Int) (i j : Nat) : D x y (i + 1) j ≤ D x y i j + 1 := by
  cases j with
  | zero => rw [D_left, D_left]; omega
  | succ j => rw [D_succ]; exact entry_up ..
theorem D_lf (x y : Nat → Int) (i j : Nat) : D x y i (j + 1) ≤ D x y i j + 1 := by
  cases i with
  | zero => rw [D_zero, D_zero]; omega
  | succ i => rw [D_succ]; exact entry_left ..
theorem D_dg (x y : Nat → Int) (i j : Nat) : D x y (i + 1) (j + 1) ≤ D x y i j + cost (x i) (y j) := by
  rw [D_succ]; exact entry_diag ..
theorem D_fr (x y : Nat → Int) (i j : Nat) (h1 : x (i + 1) = y j) (h2 : x i = y (j + 1)) : D x y (i + 2) (j + 2) ≤ D x y i j + 1 := by
  rw [show i + 2 = (i + 1) + 1 from rfl, show j + 2 = (j + 1) + 1 from rfl, D_succ]
  exact entry_far x y (i + 1) (j + 1) _ _ _ _ ⟨by omega, by omega, h1, h2⟩

/-! ### The first law: it is symmetric, bounded, and zero just where the two agree -/
theorem min3_comm (a b c : Nat) : min3 a b c = min3 b a c := by
  have e : (if b < a then b else a) = (if a < b then a else b) := by split <;> split <;> omega
  unfold min3; rw [e]
theorem cost_comm (a b : Int) : cost a b = cost b a := by
  unfold cost
  by_cases h : a = b
  · rw [if_pos h, if_pos h.symm]
  · rw [if_neg h, if_neg (fun e => h e.symm)]
theorem entry_comm (x y : Nat → Int) (i j up left diag far : Nat) : entry x y i j up left diag far = entry y x j i left up diag far := by
  have hc : (1 ≤ i ∧ 1 ≤ j ∧ x i = y (j - 1) ∧ x (i - 1) = y j) ↔ (1 ≤ j ∧ 1 ≤ i ∧ y j = x (i - 1) ∧ y (j - 1) = x i) :=
    ⟨fun ⟨a, b, c, d⟩ => ⟨b, a, d.symm, c.symm⟩, fun ⟨a, b, c, d⟩ => ⟨b, a, d.symm, c.symm⟩⟩
  unfold entry
  rw [cost_comm (x i) (y j), min3_comm (up + 1) (left + 1)]
  by_cases h : 1 ≤ i ∧ 1 ≤ j ∧ x i = y (j - 1) ∧ x (i - 1) = y j
  · rw [if_pos h, if_pos (hc.1 h)]
  · rw [if_neg h, if_neg (fun e => h (hc.2 e))]

theorem D_comm_to (x y : Nat → Int) : ∀ s i j, i + j ≤ s → D x y i j = D y x j i
  | _, 0, j, _ => by rw [D_zero, D_left]
  | _, i + 1, 0, _ => by rw [D_left, D_zero]
  | 0, i + 1, j + 1, h => by omega
  | s + 1, i + 1, j + 1, h => by
    rw [D_succ, D_succ, entry_comm, D_comm_to x y s i (j + 1) (by omega), D_comm_to x y s (i + 1) j (by omega), D_comm_to x y s i j (by omega), D_comm_to x y s (i - 1) (j - 1) (by omega)]
theorem D_comm (x y : Nat → Int) (i j : Nat) : D x y i j = D y x j i := D_comm_to x y (i + j) i j (Nat.le_refl _)

theorem D_lo_to (x y : Nat → Int) : ∀ s i j, i + j ≤ s → i ≤ D x y i j + j
  | _, 0, j, _ => by omega
  | _, i + 1, 0, _ => by rw [D_left]; omega
  | 0, i + 1, j + 1, h => by omega
  | s + 1, i + 1, j + 1, h => by
    have h1 := D_lo_to x y s i (j + 1) (by omega)
    have h2 := D_lo_to x y s (i + 1) j (by omega)
    have h3 := D_lo_to x y s i j (by omega)
    have h4 := D_lo_to x y s (i - 1) (j - 1) (by omega)
    rw [D_succ]
    rcases entry_is x y i j (D x y i (j + 1)) (D x y (i + 1) j) (D x y i j) (D x y (i - 1) (j - 1)) with e | e | e | ⟨⟨a, b, _⟩, e⟩ <;> rw [e] <;> omega
theorem D_lo (x y : Nat → Int) (i j : Nat) : i ≤ D x y i j + j := D_lo_to x y (i + j) i j (Nat.le_refl _)
theorem D_lo' (x y : Nat → Int) (i j : Nat) : j ≤ D x y i j + i := by rw [D_comm]; exact D_lo y x j i

theorem D_hi (x y : Nat → Int) : ∀ i j, D x y i j ≤ i ∨ D x y i j ≤ j
  | 0, j => by rw [D_zero]; omega
  | i + 1, 0 => by rw [D_left]; omega
  | i + 1, j + 1 => by
    have h1 := D_hi x y i j
    have h2 := D_dg x y i j
    have h3 := cost_le (x i) (y j)
    omega
theorem D_bd (x y : Nat → Int) (i j : Nat) : D x y i j ≤ i + j := by have := D_hi x y i j; omega

theorem D_same (x y : Nat → Int) : ∀ i, (∀ k, k < i → x k = y k) → D x y i i = 0
  | 0, _ => rfl
  | i + 1, h => by
    have h1 := D_same x y i (fun k hk => h k (by omega))
    have h2 := D_dg x y i i
    have h3 : cost (x i) (y i) = 0 := by unfold cost; rw [if_pos (h i (by omega))]
    omega
theorem D_agree (x y : Nat → Int) : ∀ i j, D x y i j = 0 → i = j ∧ ∀ k, k < i → x k = y k
  | 0, j, h => by rw [D_zero] at h; exact ⟨h.symm, fun k hk => absurd hk (by omega)⟩
  | i + 1, 0, h => by rw [D_left] at h; omega
  | i + 1, j + 1, h => by
    rw [D_succ] at h
    rcases entry_is x y i j (D x y i (j + 1)) (D x y (i + 1) j) (D x y i j) (D x y (i - 1) (j - 1)) with e | e | e | ⟨_, e⟩
    · omega
    · omega
    · have hd : D x y i j = 0 := by omega
      have hc : cost (x i) (y j) = 0 := by omega
      obtain ⟨rfl, h2⟩ := D_agree x y i j hd
      refine ⟨rfl, fun k hk => ?_⟩
      rcases Nat.lt_or_ge k i with h3 | h3
      · exact h2 k h3
      · rw [show k = i from by omega]
        unfold cost at hc
        by_cases he : x i = y i
        · exact he
        · rw [if_neg he] at hc; cases hc
    · omega
theorem D_zero_iff (x y : Nat → Int) (i j : Nat) : D x y i j = 0 ↔ (i = j ∧ ∀ k, k < i → x k = y k) :=
  ⟨D_agree x y i j, fun ⟨h1, h2⟩ => by subst h1; exact D_same x y i h2⟩

end Go.Proofs.Qxb6601098a
