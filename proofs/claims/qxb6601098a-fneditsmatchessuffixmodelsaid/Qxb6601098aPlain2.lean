/-
  THE PLAIN LAW (2): the distance reckoned from the other end is the same.
-/
import Derived.Test.Qxb6601098aPlain
namespace Go.Proofs.Qxb6601098a

/-- x[:n] read from its end. -/
def rev (x : Nat → Int) (n : Nat) : Nat → Int := fun k => x (n - 1 - k)

theorem D_ups (x y : Nat → Int) (j : Nat) : ∀ d i, D x y (i + d) j ≤ D x y i j + d
  | 0, i => by simp
  | d + 1, i => by
    have h1 := D_ups x y j d i
    have h2 := D_up x y (i + d) j
    rw [show i + (d + 1) = i + d + 1 from rfl]; omega
theorem D_lfs (x y : Nat → Int) (i : Nat) : ∀ d j, D x y i (j + d) ≤ D x y i j + d
  | 0, j => by simp
  | d + 1, j => by
    have h1 := D_lfs x y i d j
    have h2 := D_lf x y i (j + d)
    rw [show j + (d + 1) = j + d + 1 from rfl]; omega

/-- From (i, j) on, the rest costs no less than what is wanted. -/
theorem D_through (x y : Nat → Int) (n m : Nat) : ∀ s i j, i ≤ n → j ≤ m → (n - i) + (m - j) ≤ s → D x y n m ≤ D x y i j + D (rev x n) (rev y m) (n - i) (m - j) := by
  intro s
  induction s with
  | zero =>
    intro i j hi hj h
    obtain rfl : i = n := by omega
    obtain rfl : j = m := by omega
    omega
  | succ s ih =>
    intro i j hi hj h
    by_cases h1 : i = n
    · subst h1
      rw [Nat.sub_self, D_zero]
      have := D_lfs x y i (m - j) j
      rwa [show j + (m - j) = m from by omega] at this
    by_cases h2 : j = m
    · subst h2
      rw [Nat.sub_self, D_left]
      have := D_ups x y j (n - i) i
      rwa [show i + (n - i) = n from by omega] at this
    obtain ⟨a, ha⟩ : ∃ a, n - i = a + 1 := ⟨n - i - 1, by omega⟩
    obtain ⟨b, hb⟩ : ∃ b, m - j = b + 1 := ⟨m - j - 1, by omega⟩
    have e1 : rev x n a = x i := by unfold rev; congr 1; omega
    have e2 : rev y m b = y j := by unfold rev; congr 1; omega
    rw [ha, hb, D_succ]
    rcases entry_is (rev x n) (rev y m) a b (D (rev x n) (rev y m) a (b + 1)) (D (rev x n) (rev y m) (a + 1) b) (D (rev x n) (rev y m) a b) (D (rev x n) (rev y m) (a - 1) (b - 1)) with e | e | e | ⟨⟨c1, c2, c3, c4⟩, e⟩
    · rw [e]
      have := ih (i + 1) j (by omega) hj (by omega)
      rw [show n - (i + 1) = a from by omega, hb] at this
      have := D_up x y i j
      omega
    · rw [e]
      have := ih i (j + 1) hi (by omega) (by omega)
      rw [show m - (j + 1) = b from by omega, ha] at this
      have := D_lf x y i j
      omega
    · rw [e, e1, e2]
      have := ih (i + 1) (j + 1) (by omega) (by omega) (by omega)
      rw [show n - (i + 1) = a from by omega, show m - (j + 1) = b from by omega] at this
      have := D_dg x y i j
      omega
    · rw [e]
      have e3 : rev x n (a - 1) = x (i + 1) := by unfold rev; congr 1; omega
      have e4 : rev y m (b - 1) = y (j + 1) := by unfold rev; congr 1; omega
      rw [e1, e4] at c3
      rw [e3, e2] at c4
      have := ih (i + 2) (j + 2) (by omega) (by omega) (by omega)
      rw [show n - (i + 2) = a - 1 from by omega, show m - (j + 2) = b - 1 from by omega] at this
      have := D_fr x y i j c4 c3
      omega

theorem D_le_rev (x y : Nat → Int) (n m : Nat) : D x y n m ≤ D (rev x n) (rev y m) n m := by
  have := D_through x y n m (n + m) 0 0 (by omega) (by omega) (by omega)
  rw [D_zero] at this
  simpa using this

/-- The distance hangs on what is read alone. -/
theorem D_congr_to (x y x' y' : Nat → Int) (n m : Nat) (hx : ∀ k, k < n → x k = x' k) (hy : ∀ k, k < m → y k = y' k) : ∀ s i j, i + j ≤ s → i ≤ n → j ≤ m → D x y i j = D x' y' i j
  | _, 0, j, _, _, _ => by rw [D_zero, D_zero]
  | _, i + 1, 0, _, _, _ => by rw [D_left, D_left]
  | 0, i + 1, j + 1, h, _, _ => by omega
  | s + 1, i + 1, j + 1, h, hi, hj => by
    rw [D_succ, D_succ, D_congr_to x y x' y' n m hx hy s i (j + 1) (by omega) (by omega) hj, D_congr_to x y x' y' n m hx hy s (i + 1) j (by omega) hi (by omega), D_congr_to x y x' y' n m hx hy s i j (by omega) (by omega) (by omega),
      D_congr_to x y x' y' n m hx hy s (i - 1) (j - 1) (by omega) (by omega) (by omega)]
    unfold entry
    rw [hx i (by omega), hy j (by omega), hx (i - 1) (by omega), hy (j - 1) (by omega)]
theorem D_congr {x y x' y' : Nat → Int} {n m : Nat} (hx : ∀ k, k < n → x k = x' k) (hy : ∀ k, k < m → y k = y' k) : D x y n m = D x' y' n m := D_congr_to x y x' y' n m hx hy (n + m) n m (Nat.le_refl _) (Nat.le_refl _) (Nat.le_refl _)

/-- The second law: from either end, the same number. -/
theorem D_rev (x y : Nat → Int) (n m : Nat) : D (rev x n) (rev y m) n m = D x y n m := by
  refine Nat.le_antisymm ?_ (D_le_rev x y n m)
  have h1 := D_le_rev (rev x n) (rev y m) n m
  have h2 : D (rev (rev x n) n) (rev (rev y m) m) n m = D x y n m := D_congr (fun k hk => by unfold rev; congr 1; omega) (fun k hk => by unfold rev; congr 1; omega)
  omega

end Go.Proofs.Qxb6601098a
