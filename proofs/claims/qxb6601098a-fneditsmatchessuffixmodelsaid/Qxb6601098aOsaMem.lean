/-
  THE THREE ROLLING ROWS OF 'zzOSA', in memory; and one entry, reckoned from the back.
-/
import Derived.Test.Qxb6601098aTab
import Derived.Test.Qxb6601098aPlain2
namespace Go.Proofs.Qxb6601098a
open Go.RowKit

/-- Three rows of m + 1 numbers in three blocks, none of them old. -/
structure Three (G m p2 p1 p0 : Nat) (V2 V1 V0 : Nat → Nat) (w wr : World) : Prop where
  n21 : p2 ≠ p1
  n20 : p2 ≠ p0
  n10 : p1 ≠ p0
  g2 : G ≤ p2
  g1 : G ≤ p1
  g0 : G ≤ p0
  r2 : wr.rowIs p2 3 (m + 1) (fun j => .int .i64 (V2 j))
  r1 : wr.rowIs p1 3 (m + 1) (fun j => .int .i64 (V1 j))
  r0 : wr.rowIs p0 3 (m + 1) (fun j => .int .i64 (V0 j))
  old : Below G w wr

/-- A row with entry j turned to v. -/
def put1 (V : Nat → Nat) (j v : Nat) : Nat → Nat := fun k => if k = j then v else V k
theorem put1_at (V : Nat → Nat) (j v : Nat) : put1 V j v j = v := by simp [put1]
theorem put1_ne (V : Nat → Nat) {j v k : Nat} (h : k ≠ j) : put1 V j v k = V k := by simp [put1, h]

theorem row_put {w : World} {p m : Nat} {V : Nat → Nat} (h : w.rowIs p 3 (m + 1) (fun j => .int .i64 (V j))) (j v : Nat) : (w.setCell ⟨p, j, none⟩ (.int .i64 (v : Int))).rowIs p 3 (m + 1) (fun k => .int .i64 (put1 V j v k)) := by
  refine (h.set j _).congr (fun k _ => ?_)
  by_cases e : k = j
  · subst e; simp [put1_at]
  · simp [e, put1_ne V e]

theorem Three.drewN {G m p2 p1 p0 : Nat} {V2 V1 V0 : Nat → Nat} {w wr : World} (h : Three G m p2 p1 p0 V2 V1 V0 w wr) (q : Nat) : Three G m p2 p1 p0 V2 V1 V0 w (wr.drewN q) :=
  ⟨h.n21, h.n20, h.n10, h.g2, h.g1, h.g0, h.r2, h.r1, h.r0, below_drewN h.old q⟩
theorem Three.put1 {G m p2 p1 p0 : Nat} {V2 V1 V0 : Nat → Nat} {w wr : World} (h : Three G m p2 p1 p0 V2 V1 V0 w wr) (j v : Nat) : Three G m p2 p1 p0 V2 (Qxb6601098a.put1 V1 j v) V0 w (wr.setCell ⟨p1, j, none⟩ (.int .i64 (v : Int))) :=
  ⟨h.n21, h.n20, h.n10, h.g2, h.g1, h.g0, h.r2.setOther h.n21 _, row_put h.r1 j v, h.r0.setOther (fun e => h.n10 e.symm) _, h.old.setCell h.g1 _⟩
theorem Three.put0 {G m p2 p1 p0 : Nat} {V2 V1 V0 : Nat → Nat} {w wr : World} (h : Three G m p2 p1 p0 V2 V1 V0 w wr) (j v : Nat) : Three G m p2 p1 p0 V2 V1 (Qxb6601098a.put1 V0 j v) w (wr.setCell ⟨p0, j, none⟩ (.int .i64 (v : Int))) :=
  ⟨h.n21, h.n20, h.n10, h.g2, h.g1, h.g0, h.r2.setOther h.n20 _, h.r1.setOther h.n10 _, row_put h.r0 j v, h.old.setCell h.g0 _⟩
/-- The three change their names: next2 := next, next := cur, cur := next2. -/
theorem Three.turn {G m p2 p1 p0 : Nat} {V2 V1 V0 : Nat → Nat} {w wr : World} (h : Three G m p2 p1 p0 V2 V1 V0 w wr) : Three G m p1 p0 p2 V1 V0 V2 w wr :=
  ⟨h.n10, fun e => h.n21 e.symm, fun e => h.n20 e.symm, h.g1, h.g0, h.g2, h.r1, h.r0, h.r2, h.old⟩

theorem Three.start (m : Nat) (w : World) : Three w.heap.size m w.heap.size (w.heap.size + 1) (w.heap.size + 1 + 1) (fun _ => 0) (fun _ => 0) (fun _ => 0) w
    (((w.alloc (.cells (madeCells #[.int .i64 0] (m + 1)) 3)).alloc (.cells (madeCells #[.int .i64 0] (m + 1)) 3)).alloc (.cells (madeCells #[.int .i64 0] (m + 1)) 3)) := by
  have h0 := World.rowIs_made w (.int .i64 0) (m + 1) 3
  have h1 := World.rowIs_made (w.alloc (.cells (madeCells #[.int .i64 0] (m + 1)) 3)) (.int .i64 0) (m + 1) 3
  have h2 := World.rowIs_made ((w.alloc (.cells (madeCells #[.int .i64 0] (m + 1)) 3)).alloc (.cells (madeCells #[.int .i64 0] (m + 1)) 3)) (.int .i64 0) (m + 1) 3
  rw [show (w.alloc (.cells (madeCells #[.int .i64 0] (m + 1)) 3)).heap.size = w.heap.size + 1 by simp] at h1
  rw [show ((w.alloc (.cells (madeCells #[.int .i64 0] (m + 1)) 3)).alloc (.cells (madeCells #[.int .i64 0] (m + 1)) 3)).heap.size = w.heap.size + 1 + 1 by simp] at h2
  exact ⟨by omega, by omega, by omega, by omega, by omega, by omega, (h0.alloc _).alloc _, h1.alloc _, h2, (((Below.refl _ _).alloc (Nat.le_refl _) _).alloc (by simp) _).alloc (by simp; omega) _⟩

/-- One entry from the back: what the text reckons step by step. -/
def best1 (p q : Nat) : Nat := if q < p then q + 1 else p + 1
def best2 (p q s : Nat) : Nat := if s < best1 p q then s else best1 p q
theorem best2_eq (p q s : Nat) : best2 p q s = min3 (p + 1) (q + 1) s := by
  unfold best2 best1 min3
  by_cases h : q < p
  · rw [if_pos h, if_pos (show q + 1 < p + 1 by omega)]
  · rw [if_neg h, if_neg (show ¬ q + 1 < p + 1 by omega)]

/-- The entry (i, j), out of the four that it leans on, from the back: no swap. -/
theorem back_no {x y : Nat → Int} {n m i j p q r c : Nat} (hi : i < n) (hj : j < m) (hp : p = D (rev x n) (rev y m) (n - (i + 1)) (m - j)) (hq : q = D (rev x n) (rev y m) (n - i) (m - (j + 1))) (hr : r = D (rev x n) (rev y m) (n - (i + 1)) (m - (j + 1)))
    (hc : cost (x i) (y j) = c) (hno : ¬ (i + 1 < n ∧ j + 1 < m ∧ x i = y (j + 1) ∧ x (i + 1) = y j)) : best2 p q (r + c) = D (rev x n) (rev y m) (n - i) (m - j) := by
  obtain ⟨a, ha⟩ : ∃ a, n = i + 1 + a := ⟨n - (i + 1), by omega⟩
  obtain ⟨b, hb⟩ : ∃ b, m = j + 1 + b := ⟨m - (j + 1), by omega⟩
  have e1 : rev x n a = x i := by unfold rev; congr 1; omega
  have e2 : rev y m b = y j := by unfold rev; congr 1; omega
  rw [show n - (i + 1) = a by omega, show m - j = b + 1 by omega] at hp
  rw [show n - i = a + 1 by omega, show m - (j + 1) = b by omega] at hq
  rw [show n - (i + 1) = a by omega, show m - (j + 1) = b by omega] at hr
  rw [show n - i = a + 1 by omega, show m - j = b + 1 by omega, D_succ, ← hp, ← hq, ← hr, best2_eq]
  unfold entry
  rw [if_neg, e1, e2, hc]
  rintro ⟨h1, h2, h3, h4⟩
  apply hno
  have e3 : rev x n (a - 1) = x (i + 1) := by unfold rev; congr 1; omega
  have e4 : rev y m (b - 1) = y (j + 1) := by unfold rev; congr 1; omega
  rw [e1, e4] at h3
  rw [e3, e2] at h4
  exact ⟨by omega, by omega, h3, h4⟩
/-- The same, where the two may be swapped. -/
theorem back_yes {x y : Nat → Int} {n m i j p q r c f : Nat} (hp : p = D (rev x n) (rev y m) (n - (i + 1)) (m - j)) (hq : q = D (rev x n) (rev y m) (n - i) (m - (j + 1))) (hr : r = D (rev x n) (rev y m) (n - (i + 1)) (m - (j + 1)))
    (hf : f = D (rev x n) (rev y m) (n - (i + 2)) (m - (j + 2))) (hc : cost (x i) (y j) = c) (hyes : i + 1 < n ∧ j + 1 < m ∧ x i = y (j + 1) ∧ x (i + 1) = y j) : min2 (best2 p q (r + c)) (f + 1) = D (rev x n) (rev y m) (n - i) (m - j) := by
  obtain ⟨h1, h2, h3, h4⟩ := hyes
  obtain ⟨a, ha⟩ : ∃ a, n = i + 1 + a := ⟨n - (i + 1), by omega⟩
  obtain ⟨b, hb⟩ : ∃ b, m = j + 1 + b := ⟨m - (j + 1), by omega⟩
  have e1 : rev x n a = x i := by unfold rev; congr 1; omega
  have e2 : rev y m b = y j := by unfold rev; congr 1; omega
  have e3 : rev x n (a - 1) = x (i + 1) := by unfold rev; congr 1; omega
  have e4 : rev y m (b - 1) = y (j + 1) := by unfold rev; congr 1; omega
  rw [show n - (i + 1) = a by omega, show m - j = b + 1 by omega] at hp
  rw [show n - i = a + 1 by omega, show m - (j + 1) = b by omega] at hq
  rw [show n - (i + 1) = a by omega, show m - (j + 1) = b by omega] at hr
  rw [show n - (i + 2) = a - 1 by omega, show m - (j + 2) = b - 1 by omega] at hf
  rw [show n - i = a + 1 by omega, show m - j = b + 1 by omega, D_succ, ← hp, ← hq, ← hr, ← hf, best2_eq]
  unfold entry
  rw [if_pos ⟨by omega, by omega, by rw [e1, e4]; exact h3, by rw [e3, e2]; exact h4⟩, e1, e2, hc]

theorem done_step {m j v : Nat} {V F : Nat → Nat} (h : ∀ k, j + 1 ≤ k → k ≤ m → V k = F k) (hv : v = F j) : ∀ k, j ≤ k → k ≤ m → put1 V j v k = F k := by
  intro k h1 h2
  by_cases e : k = j
  · subst e; rw [put1_at]; exact hv
  · rw [put1_ne V e]; exact h k (by omega) h2

end Go.Proofs.Qxb6601098a
