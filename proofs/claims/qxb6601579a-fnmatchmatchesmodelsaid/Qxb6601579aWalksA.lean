/-
  THE WALKS (1): the size of a principal, its two makers, the bounds.
-/
import Derived.Test.Qxb6601579aRows
import Derived.WalkKit
import Derived.WalkSpells
import Derived.WalkLawsBesides
import Derived.Deep.QuietTactic
import Derived.BigQuiet
import Derived.Deep.RegionHeld3
namespace Go.Proofs.Qxb6601579a
open Go.RowKit

/-- The call hands back an int of which Q holds; nothing old has turned. -/
def RetI (Q : Int → Prop) (w : World) (e : Ending) (w' : World) : Prop := ∃ r : Int, e = .returned (.int .i64 r) ∧ Below w.heap.size w w' ∧ Q r

-- f9: principalSize
set_option maxHeartbeats 1000000 in
theorem size9 (k : Int) (pa ac na se : ByteArray) (w : World) (h1 : pa.size ≤ maxLen) (h2 : ac.size ≤ maxLen) (h3 : na.size ≤ maxLen) (h4 : se.size ≤ maxLen) :
    Calls Try.prog 9 #[.agg #[.int .i64 k, .string pa, .string ac, .string na, .string se]] w (RetI (fun r => 0 ≤ r ∧ r ≤ 4194376) w) := by
  unfold maxLen at h1 h2 h3 h4
  by_cases g1 : pa.size ≤ 1048576
  · have d1 : decide ((1048576 : Int) < (pa.size : Int)) = false := decide_eq_false (by omega)
    by_cases g2 : ac.size ≤ 1048576
    · have d2 : decide ((1048576 : Int) < (ac.size : Int)) = false := decide_eq_false (by omega)
      by_cases g3 : na.size ≤ 1048576
      · have d3 : decide ((1048576 : Int) < (na.size : Int)) = false := decide_eq_false (by omega)
        by_cases g4 : se.size ≤ 1048576
        · have d4 : decide ((1048576 : Int) < (se.size : Int)) = false := decide_eq_false (by omega)
          go_enter Try.func9, Try.ntmps9
          go_wp2
          go_ret
          exact ⟨_, rfl, (Below.refl _ _).alloc (Nat.le_refl _) _, by omega, by omega⟩
        · have d4 : decide ((1048576 : Int) < (se.size : Int)) = true := decide_eq_true (by omega)
          go_enter Try.func9, Try.ntmps9
          go_wp2
          go_ret
          exact ⟨_, rfl, (Below.refl _ _).alloc (Nat.le_refl _) _, by omega, by omega⟩
      · have d3 : decide ((1048576 : Int) < (na.size : Int)) = true := decide_eq_true (by omega)
        go_enter Try.func9, Try.ntmps9
        go_wp2
        go_ret
        exact ⟨_, rfl, (Below.refl _ _).alloc (Nat.le_refl _) _, by omega, by omega⟩
    · have d2 : decide ((1048576 : Int) < (ac.size : Int)) = true := decide_eq_true (by omega)
      go_enter Try.func9, Try.ntmps9
      go_wp2
      go_ret
      exact ⟨_, rfl, (Below.refl _ _).alloc (Nat.le_refl _) _, by omega, by omega⟩
  · have d1 : decide ((1048576 : Int) < (pa.size : Int)) = true := decide_eq_true (by omega)
    go_enter Try.func9, Try.ntmps9
    go_wp2
    go_ret
    exact ⟨_, rfl, (Below.refl _ _).alloc (Nat.le_refl _) _, by omega, by omega⟩

/-- The call hands back v; nothing old has turned. -/
def RetV (v : Value) (w : World) (e : Ending) (w' : World) : Prop := e = .returned v ∧ Below w.heap.size w w'

-- f22: ZZMakePrincipal
set_option maxHeartbeats 400000 in
theorem make22 (k : Int) (pa ac na se : ByteArray) (w : World) :
    Calls Try.prog 22 #[.int .i64 k, .string pa, .string ac, .string na, .string se] w (RetV (.agg #[.int .i64 k, .string pa, .string ac, .string na, .string se]) w) := by
  go_enter Try.func22, Try.ntmps22
  go_wp2
  exact bodyPost_ret (v := .agg #[.int .i64 k, .string pa, .string ac, .string na, .string se]) (by simp [results, Try.results22, go_sem]) rfl ⟨rfl, (Below.refl _ _).alloc (Nat.le_refl _) _⟩

-- f11: toZZ
set_option maxHeartbeats 400000 in
theorem zz11 (k : Int) (pa ac na se : ByteArray) (w : World) :
    Calls Try.prog 11 #[.agg #[.int .i64 k, .string pa, .string ac, .string na, .string se]] w (RetV (.agg #[.int .i64 k, .string pa, .string ac, .string na, .string se]) w) := by
  go_enter Try.func11, Try.ntmps11
  go_wp2
  refine bodyPost_ret (v := .agg #[.int .i64 k, .string pa, .string ac, .string na, .string se]) (by simp [results, go_sem]) rfl ?_
  go_wp2
  exact bodyPost_ret (v := .agg #[.int .i64 k, .string pa, .string ac, .string na, .string se]) (by simp [results, Try.results11, go_sem]) rfl ⟨rfl, (((Below.refl _ _).alloc (Nat.le_refl _) _).alloc (by simp) _).alloc (by simp; omega) _⟩

/-- The call hands back some bool; nothing old has turned. -/
def RetB (w : World) (e : Ending) (w' : World) : Prop := ∃ r : Bool, e = .returned (.bool r) ∧ Below w.heap.size w w'

-- f8: zzBytes_FnNamesOneWayWithinAccount
set_option maxHeartbeats 2000000 in
theorem bytes8 (k : Int) (pa ac na se : ByteArray) (k' : Int) (pa' ac' na' se' : ByteArray) (w : World) (h1 : pa.size ≤ maxLen) (h2 : ac.size ≤ maxLen) (h3 : na.size ≤ maxLen) (h4 : se.size ≤ maxLen) (h1' : pa'.size ≤ maxLen) (h2' : ac'.size ≤ maxLen) (h3' : na'.size ≤ maxLen) (h4' : se'.size ≤ maxLen) :
    Calls Try.prog 8 #[.agg #[.int .i64 k, .string pa, .string ac, .string na, .string se], .agg #[.int .i64 k', .string pa', .string ac', .string na', .string se']] w (RetB w) := by
  unfold maxLen at h1 h2 h3 h4 h1' h2' h3' h4'
  go_enter Try.func8, Try.ntmps8
  go_wp2
  all_goals
    go_ret
    exact ⟨_, rfl, ((Below.refl _ _).alloc (Nat.le_refl _) _).alloc (by simp) _⟩

end Go.Proofs.Qxb6601579a
