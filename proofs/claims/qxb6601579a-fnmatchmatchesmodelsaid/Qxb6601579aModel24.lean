/-
  THE WALK OF 'modelNames'.
-/
import Derived.Test.Qxb6601579aNames
import Derived.Test.Qxb6601579aWalksA
namespace Go.Proofs.Qxb6601579a
open Go.RowKit

theorem kne {k : Int} (a b : Int) (h : (k == a) = true) (hab : a ≠ b) : (k == b) = false := by
  have : k = a := by simpa using h
  subst this
  simpa using hab

set_option maxHeartbeats 4000000 in
theorem mn_1 (p c : Pr) (w : World) (h1 : (p.k == 1) = true) :
    Calls Try.prog 24 #[p.v, c.v] w (RetV (.int .u8 (nm p c)) w) := by
  first | (have e : nm p c = 0 := by simp [nm, *]) | (have e : nm p c = 1 := by simp [nm, *]) | (have e : nm p c = 2 := by simp [nm, *]) | (have e : nm p c = 4 := by simp [nm, *]) | (have e : nm p c = 7 := by simp [nm, *])
  rw [e]
  clear e
  go_enter Try.func24, Try.ntmps24
  go_wp2
  go_ret
  exact ⟨rfl, ((Below.refl _ _).alloc (Nat.le_refl _) _).alloc (by simp) _⟩

set_option maxHeartbeats 4000000 in
theorem mn_2 (p c : Pr) (w : World) (h1 : (p.k == 1) = false) (hA : (p.ac.toList == c.ac.toList) = false) :
    Calls Try.prog 24 #[p.v, c.v] w (RetV (.int .u8 (nm p c)) w) := by
  first | (have e : nm p c = 0 := by simp [nm, *]) | (have e : nm p c = 1 := by simp [nm, *]) | (have e : nm p c = 2 := by simp [nm, *]) | (have e : nm p c = 4 := by simp [nm, *]) | (have e : nm p c = 7 := by simp [nm, *])
  rw [e]
  clear e
  go_enter Try.func24, Try.ntmps24
  go_wp2
  go_ret
  exact ⟨rfl, ((Below.refl _ _).alloc (Nat.le_refl _) _).alloc (by simp) _⟩

set_option maxHeartbeats 4000000 in
theorem mn_3 (p c : Pr) (w : World) (h1 : (p.k == 1) = false) (hA : (p.ac.toList == c.ac.toList) = true) (hE : p.pa.toList.isEmpty = false) (hP : (p.pa.toList == c.pa.toList) = false) :
    Calls Try.prog 24 #[p.v, c.v] w (RetV (.int .u8 (nm p c)) w) := by
  first | (have e : nm p c = 0 := by simp [nm, *]) | (have e : nm p c = 1 := by simp [nm, *]) | (have e : nm p c = 2 := by simp [nm, *]) | (have e : nm p c = 4 := by simp [nm, *]) | (have e : nm p c = 7 := by simp [nm, *])
  rw [e]
  clear e
  go_enter Try.func24, Try.ntmps24
  go_wp2
  go_ret
  exact ⟨rfl, ((Below.refl _ _).alloc (Nat.le_refl _) _).alloc (by simp) _⟩

set_option maxHeartbeats 4000000 in
theorem mn_4a (p c : Pr) (w : World) (h1 : (p.k == 1) = false) (hA : (p.ac.toList == c.ac.toList) = true) (hE : p.pa.toList.isEmpty = true) (g2 : (p.k == 2) = false) (g3 : (p.k == 3) = false) (g4 : (p.k == 4) = false) (g5 : (p.k == 5) = false) :
    Calls Try.prog 24 #[p.v, c.v] w (RetV (.int .u8 (nm p c)) w) := by
  first | (have e : nm p c = 0 := by simp [nm, *]) | (have e : nm p c = 1 := by simp [nm, *]) | (have e : nm p c = 2 := by simp [nm, *]) | (have e : nm p c = 4 := by simp [nm, *]) | (have e : nm p c = 7 := by simp [nm, *])
  rw [e]
  clear e
  go_enter Try.func24, Try.ntmps24
  go_wp2
  go_ret
  exact ⟨rfl, ((Below.refl _ _).alloc (Nat.le_refl _) _).alloc (by simp) _⟩

set_option maxHeartbeats 4000000 in
theorem mn_5a (p c : Pr) (w : World) (h1 : (p.k == 1) = false) (hA : (p.ac.toList == c.ac.toList) = true) (hE : p.pa.toList.isEmpty = true) (hk : (p.k == 2) = true) :
    Calls Try.prog 24 #[p.v, c.v] w (RetV (.int .u8 (nm p c)) w) := by
  have g3 : (p.k == 3) = false := kne 2 3 hk (by decide)
  have g4 : (p.k == 4) = false := kne 2 4 hk (by decide)
  have g5 : (p.k == 5) = false := kne 2 5 hk (by decide)
  first | (have e : nm p c = 0 := by simp [nm, *]) | (have e : nm p c = 1 := by simp [nm, *]) | (have e : nm p c = 2 := by simp [nm, *]) | (have e : nm p c = 4 := by simp [nm, *]) | (have e : nm p c = 7 := by simp [nm, *])
  rw [e]
  clear e
  go_enter Try.func24, Try.ntmps24
  go_wp2
  go_ret
  exact ⟨rfl, ((Below.refl _ _).alloc (Nat.le_refl _) _).alloc (by simp) _⟩

set_option maxHeartbeats 4000000 in
theorem mn_6a (p c : Pr) (w : World) (h1 : (p.k == 1) = false) (hA : (p.ac.toList == c.ac.toList) = true) (hE : p.pa.toList.isEmpty = true) (hk : (p.k == 3) = true) :
    Calls Try.prog 24 #[p.v, c.v] w (RetV (.int .u8 (nm p c)) w) := by
  have g2 : (p.k == 2) = false := kne 3 2 hk (by decide)
  have g4 : (p.k == 4) = false := kne 3 4 hk (by decide)
  have g5 : (p.k == 5) = false := kne 3 5 hk (by decide)
  cases hc : (c.k == 3)
  · first | (have e : nm p c = 0 := by simp [nm, *]) | (have e : nm p c = 1 := by simp [nm, *]) | (have e : nm p c = 2 := by simp [nm, *]) | (have e : nm p c = 4 := by simp [nm, *]) | (have e : nm p c = 7 := by simp [nm, *])
    rw [e]
    clear e
    go_enter Try.func24, Try.ntmps24
    go_wp2
    go_ret
    exact ⟨rfl, ((Below.refl _ _).alloc (Nat.le_refl _) _).alloc (by simp) _⟩
  · cases hN : (p.na.toList == c.na.toList)
    all_goals
      first | (have e : nm p c = 0 := by simp [nm, *]) | (have e : nm p c = 1 := by simp [nm, *]) | (have e : nm p c = 2 := by simp [nm, *]) | (have e : nm p c = 4 := by simp [nm, *]) | (have e : nm p c = 7 := by simp [nm, *])
      rw [e]
      clear e
      go_enter Try.func24, Try.ntmps24
      go_wp2
      go_ret
      exact ⟨rfl, ((Below.refl _ _).alloc (Nat.le_refl _) _).alloc (by simp) _⟩

set_option maxHeartbeats 4000000 in
theorem mn_7a (p c : Pr) (w : World) (h1 : (p.k == 1) = false) (hA : (p.ac.toList == c.ac.toList) = true) (hE : p.pa.toList.isEmpty = true) (hk : (p.k == 4) = true) :
    Calls Try.prog 24 #[p.v, c.v] w (RetV (.int .u8 (nm p c)) w) := by
  have g2 : (p.k == 2) = false := kne 4 2 hk (by decide)
  have g3 : (p.k == 3) = false := kne 4 3 hk (by decide)
  have g5 : (p.k == 5) = false := kne 4 5 hk (by decide)
  cases hc : (c.k == 5)
  · first | (have e : nm p c = 0 := by simp [nm, *]) | (have e : nm p c = 1 := by simp [nm, *]) | (have e : nm p c = 2 := by simp [nm, *]) | (have e : nm p c = 4 := by simp [nm, *]) | (have e : nm p c = 7 := by simp [nm, *])
    rw [e]
    clear e
    go_enter Try.func24, Try.ntmps24
    go_wp2
    go_ret
    exact ⟨rfl, ((Below.refl _ _).alloc (Nat.le_refl _) _).alloc (by simp) _⟩
  · cases hN : (p.na.toList == c.na.toList)
    all_goals
      first | (have e : nm p c = 0 := by simp [nm, *]) | (have e : nm p c = 1 := by simp [nm, *]) | (have e : nm p c = 2 := by simp [nm, *]) | (have e : nm p c = 4 := by simp [nm, *]) | (have e : nm p c = 7 := by simp [nm, *])
      rw [e]
      clear e
      go_enter Try.func24, Try.ntmps24
      go_wp2
      go_ret
      exact ⟨rfl, ((Below.refl _ _).alloc (Nat.le_refl _) _).alloc (by simp) _⟩

set_option maxHeartbeats 4000000 in
theorem mn_8a (p c : Pr) (w : World) (h1 : (p.k == 1) = false) (hA : (p.ac.toList == c.ac.toList) = true) (hE : p.pa.toList.isEmpty = true) (hk : (p.k == 5) = true) :
    Calls Try.prog 24 #[p.v, c.v] w (RetV (.int .u8 (nm p c)) w) := by
  have g2 : (p.k == 2) = false := kne 5 2 hk (by decide)
  have g3 : (p.k == 3) = false := kne 5 3 hk (by decide)
  have g4 : (p.k == 4) = false := kne 5 4 hk (by decide)
  cases hc : (c.k == 5)
  · first | (have e : nm p c = 0 := by simp [nm, *]) | (have e : nm p c = 1 := by simp [nm, *]) | (have e : nm p c = 2 := by simp [nm, *]) | (have e : nm p c = 4 := by simp [nm, *]) | (have e : nm p c = 7 := by simp [nm, *])
    rw [e]
    clear e
    go_enter Try.func24, Try.ntmps24
    go_wp2
    go_ret
    exact ⟨rfl, ((Below.refl _ _).alloc (Nat.le_refl _) _).alloc (by simp) _⟩
  · cases hN : (p.na.toList == c.na.toList)
    · first | (have e : nm p c = 0 := by simp [nm, *]) | (have e : nm p c = 1 := by simp [nm, *]) | (have e : nm p c = 2 := by simp [nm, *]) | (have e : nm p c = 4 := by simp [nm, *]) | (have e : nm p c = 7 := by simp [nm, *])
      rw [e]
      clear e
      go_enter Try.func24, Try.ntmps24
      go_wp2
      go_ret
      exact ⟨rfl, ((Below.refl _ _).alloc (Nat.le_refl _) _).alloc (by simp) _⟩
    · cases hS : (p.se.toList == c.se.toList)
      all_goals
        first | (have e : nm p c = 0 := by simp [nm, *]) | (have e : nm p c = 1 := by simp [nm, *]) | (have e : nm p c = 2 := by simp [nm, *]) | (have e : nm p c = 4 := by simp [nm, *]) | (have e : nm p c = 7 := by simp [nm, *])
        rw [e]
        clear e
        go_enter Try.func24, Try.ntmps24
        go_wp2
        go_ret
        exact ⟨rfl, ((Below.refl _ _).alloc (Nat.le_refl _) _).alloc (by simp) _⟩

set_option maxHeartbeats 4000000 in
theorem mn_4b (p c : Pr) (w : World) (h1 : (p.k == 1) = false) (hA : (p.ac.toList == c.ac.toList) = true) (hE : p.pa.toList.isEmpty = false) (hP : (p.pa.toList == c.pa.toList) = true) (g2 : (p.k == 2) = false) (g3 : (p.k == 3) = false) (g4 : (p.k == 4) = false) (g5 : (p.k == 5) = false) :
    Calls Try.prog 24 #[p.v, c.v] w (RetV (.int .u8 (nm p c)) w) := by
  first | (have e : nm p c = 0 := by simp [nm, *]) | (have e : nm p c = 1 := by simp [nm, *]) | (have e : nm p c = 2 := by simp [nm, *]) | (have e : nm p c = 4 := by simp [nm, *]) | (have e : nm p c = 7 := by simp [nm, *])
  rw [e]
  clear e
  go_enter Try.func24, Try.ntmps24
  go_wp2
  go_ret
  exact ⟨rfl, ((Below.refl _ _).alloc (Nat.le_refl _) _).alloc (by simp) _⟩

set_option maxHeartbeats 4000000 in
theorem mn_5b (p c : Pr) (w : World) (h1 : (p.k == 1) = false) (hA : (p.ac.toList == c.ac.toList) = true) (hE : p.pa.toList.isEmpty = false) (hP : (p.pa.toList == c.pa.toList) = true) (hk : (p.k == 2) = true) :
    Calls Try.prog 24 #[p.v, c.v] w (RetV (.int .u8 (nm p c)) w) := by
  have g3 : (p.k == 3) = false := kne 2 3 hk (by decide)
  have g4 : (p.k == 4) = false := kne 2 4 hk (by decide)
  have g5 : (p.k == 5) = false := kne 2 5 hk (by decide)
  first | (have e : nm p c = 0 := by simp [nm, *]) | (have e : nm p c = 1 := by simp [nm, *]) | (have e : nm p c = 2 := by simp [nm, *]) | (have e : nm p c = 4 := by simp [nm, *]) | (have e : nm p c = 7 := by simp [nm, *])
  rw [e]
  clear e
  go_enter Try.func24, Try.ntmps24
  go_wp2
  go_ret
  exact ⟨rfl, ((Below.refl _ _).alloc (Nat.le_refl _) _).alloc (by simp) _⟩

set_option maxHeartbeats 4000000 in
theorem mn_6b (p c : Pr) (w : World) (h1 : (p.k == 1) = false) (hA : (p.ac.toList == c.ac.toList) = true) (hE : p.pa.toList.isEmpty = false) (hP : (p.pa.toList == c.pa.toList) = true) (hk : (p.k == 3) = true) :
    Calls Try.prog 24 #[p.v, c.v] w (RetV (.int .u8 (nm p c)) w) := by
  have g2 : (p.k == 2) = false := kne 3 2 hk (by decide)
  have g4 : (p.k == 4) = false := kne 3 4 hk (by decide)
  have g5 : (p.k == 5) = false := kne 3 5 hk (by decide)
  cases hc : (c.k == 3)
  · first | (have e : nm p c = 0 := by simp [nm, *]) | (have e : nm p c = 1 := by simp [nm, *]) | (have e : nm p c = 2 := by simp [nm, *]) | (have e : nm p c = 4 := by simp [nm, *]) | (have e : nm p c = 7 := by simp [nm, *])
    rw [e]
    clear e
    go_enter Try.func24, Try.ntmps24
    go_wp2
    go_ret
    exact ⟨rfl, ((Below.refl _ _).alloc (Nat.le_refl _) _).alloc (by simp) _⟩
  · cases hN : (p.na.toList == c.na.toList)
    all_goals
      first | (have e : nm p c = 0 := by simp [nm, *]) | (have e : nm p c = 1 := by simp [nm, *]) | (have e : nm p c = 2 := by simp [nm, *]) | (have e : nm p c = 4 := by simp [nm, *]) | (have e : nm p c = 7 := by simp [nm, *])
      rw [e]
      clear e
      go_enter Try.func24, Try.ntmps24
      go_wp2
      go_ret
      exact ⟨rfl, ((Below.refl _ _).alloc (Nat.le_refl _) _).alloc (by simp) _⟩

set_option maxHeartbeats 4000000 in
theorem mn_7b (p c : Pr) (w : World) (h1 : (p.k == 1) = false) (hA : (p.ac.toList == c.ac.toList) = true) (hE : p.pa.toList.isEmpty = false) (hP : (p.pa.toList == c.pa.toList) = true) (hk : (p.k == 4) = true) :
    Calls Try.prog 24 #[p.v, c.v] w (RetV (.int .u8 (nm p c)) w) := by
  have g2 : (p.k == 2) = false := kne 4 2 hk (by decide)
  have g3 : (p.k == 3) = false := kne 4 3 hk (by decide)
  have g5 : (p.k == 5) = false := kne 4 5 hk (by decide)
  cases hc : (c.k == 5)
  · first | (have e : nm p c = 0 := by simp [nm, *]) | (have e : nm p c = 1 := by simp [nm, *]) | (have e : nm p c = 2 := by simp [nm, *]) | (have e : nm p c = 4 := by simp [nm, *]) | (have e : nm p c = 7 := by simp [nm, *])
    rw [e]
    clear e
    go_enter Try.func24, Try.ntmps24
    go_wp2
    go_ret
    exact ⟨rfl, ((Below.refl _ _).alloc (Nat.le_refl _) _).alloc (by simp) _⟩
  · cases hN : (p.na.toList == c.na.toList)
    all_goals
      first | (have e : nm p c = 0 := by simp [nm, *]) | (have e : nm p c = 1 := by simp [nm, *]) | (have e : nm p c = 2 := by simp [nm, *]) | (have e : nm p c = 4 := by simp [nm, *]) | (have e : nm p c = 7 := by simp [nm, *])
      rw [e]
      clear e
      go_enter Try.func24, Try.ntmps24
      go_wp2
      go_ret
      exact ⟨rfl, ((Below.refl _ _).alloc (Nat.le_refl _) _).alloc (by simp) _⟩

set_option maxHeartbeats 4000000 in
theorem mn_8b (p c : Pr) (w : World) (h1 : (p.k == 1) = false) (hA : (p.ac.toList == c.ac.toList) = true) (hE : p.pa.toList.isEmpty = false) (hP : (p.pa.toList == c.pa.toList) = true) (hk : (p.k == 5) = true) :
    Calls Try.prog 24 #[p.v, c.v] w (RetV (.int .u8 (nm p c)) w) := by
  have g2 : (p.k == 2) = false := kne 5 2 hk (by decide)
  have g3 : (p.k == 3) = false := kne 5 3 hk (by decide)
  have g4 : (p.k == 4) = false := kne 5 4 hk (by decide)
  cases hc : (c.k == 5)
  · first | (have e : nm p c = 0 := by simp [nm, *]) | (have e : nm p c = 1 := by simp [nm, *]) | (have e : nm p c = 2 := by simp [nm, *]) | (have e : nm p c = 4 := by simp [nm, *]) | (have e : nm p c = 7 := by simp [nm, *])
    rw [e]
    clear e
    go_enter Try.func24, Try.ntmps24
    go_wp2
    go_ret
    exact ⟨rfl, ((Below.refl _ _).alloc (Nat.le_refl _) _).alloc (by simp) _⟩
  · cases hN : (p.na.toList == c.na.toList)
    · first | (have e : nm p c = 0 := by simp [nm, *]) | (have e : nm p c = 1 := by simp [nm, *]) | (have e : nm p c = 2 := by simp [nm, *]) | (have e : nm p c = 4 := by simp [nm, *]) | (have e : nm p c = 7 := by simp [nm, *])
      rw [e]
      clear e
      go_enter Try.func24, Try.ntmps24
      go_wp2
      go_ret
      exact ⟨rfl, ((Below.refl _ _).alloc (Nat.le_refl _) _).alloc (by simp) _⟩
    · cases hS : (p.se.toList == c.se.toList)
      all_goals
        first | (have e : nm p c = 0 := by simp [nm, *]) | (have e : nm p c = 1 := by simp [nm, *]) | (have e : nm p c = 2 := by simp [nm, *]) | (have e : nm p c = 4 := by simp [nm, *]) | (have e : nm p c = 7 := by simp [nm, *])
        rw [e]
        clear e
        go_enter Try.func24, Try.ntmps24
        go_wp2
        go_ret
        exact ⟨rfl, ((Below.refl _ _).alloc (Nat.le_refl _) _).alloc (by simp) _⟩

-- f24: modelNames
theorem names24 (p c : Pr) (w : World) : Calls Try.prog 24 #[p.v, c.v] w (RetV (.int .u8 (nm p c)) w) := by
  cases h1 : (p.k == 1)
  · cases hA : (p.ac.toList == c.ac.toList)
    · exact mn_2 p c w h1 hA
    · cases hE : p.pa.toList.isEmpty
      · cases hP : (p.pa.toList == c.pa.toList)
        · exact mn_3 p c w h1 hA hE hP
        · cases h2 : (p.k == 2)
          · cases h3 : (p.k == 3)
            · cases h4 : (p.k == 4)
              · cases h5 : (p.k == 5)
                · exact mn_4b p c w h1 hA hE hP h2 h3 h4 h5
                · exact mn_8b p c w h1 hA hE hP h5
              · exact mn_7b p c w h1 hA hE hP h4
            · exact mn_6b p c w h1 hA hE hP h3
          · exact mn_5b p c w h1 hA hE hP h2
      · cases h2 : (p.k == 2)
        · cases h3 : (p.k == 3)
          · cases h4 : (p.k == 4)
            · cases h5 : (p.k == 5)
              · exact mn_4a p c w h1 hA hE h2 h3 h4 h5
              · exact mn_8a p c w h1 hA hE h5
            · exact mn_7a p c w h1 hA hE h4
          · exact mn_6a p c w h1 hA hE h3
        · exact mn_5a p c w h1 hA hE h2
  · exact mn_1 p c w h1

end Go.Proofs.Qxb6601579a
