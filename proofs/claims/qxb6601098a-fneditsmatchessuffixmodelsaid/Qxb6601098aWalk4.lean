/-
  THE WALK OF THE FIRST LAW: out of the contract of 'edits'.
-/
import Derived.Test.Qxb6601098aTab
import Derived.Deep.QuietTactic
import Derived.BigQuiet
import Derived.Deep.LoopGhost
namespace Go.Proofs.Qxb6601098a
open Go.RowKit

/-- What 'edits' is known to do. -/
def Said20 : Prop := ∀ (a b : ByteArray) (w : World), a.size ≤ 4096 → b.size ≤ 4096 → Calls Try.prog 20 #[.string a, .string b] w (RetTo (D (RX a) (RX b) (RN a) (RN b)) w)

set_option maxHeartbeats 400000 in
theorem edits10 (h : Said20) (a b : ByteArray) (w : World) (ha : a.size ≤ 4096) (hb : b.size ≤ 4096) : Calls Try.prog 10 #[.string a, .string b] w (RetTo (D (RX a) (RX b) (RN a) (RN b)) w) := by
  go_enter Try.func10, Try.ntmps10
  go_wp2_with fail
  refine (h a b _ ha hb).mono ?_
  rintro e w1 ⟨rfl, hB⟩
  go_wp2_with fail
  go_ret
  exact ⟨rfl, hB⟩

/-- The call hands back a bool of which Q holds; the world is as it was. -/
def RetB (Q : Bool → Prop) (w : World) (e : Ending) (w' : World) : Prop := ∃ r : Bool, e = .returned (.bool r) ∧ w = w' ∧ Q r

set_option maxHeartbeats 400000 in
theorem bytes13 (a b : ByteArray) (w : World) (ha : a.size ≤ maxLen) (hb : b.size ≤ maxLen) : Calls Try.prog 13 #[.string a, .string b] w (RetB (fun _ => True) w) := by
  unfold maxLen at ha hb
  by_cases h1 : a.size ≤ 1048576
  · by_cases h2 : b.size ≤ 1048576
    · by_cases h3 : a.size + b.size ≤ 1048576
      · go_enter Try.func13, Try.ntmps13
        go_wp2
        go_ret
        exact ⟨true, rfl, rfl, trivial⟩
      · go_enter Try.func13, Try.ntmps13
        go_wp2
        go_ret
        exact ⟨false, rfl, rfl, trivial⟩
    · go_enter Try.func13, Try.ntmps13
      go_wp2
      go_ret
      exact ⟨false, rfl, rfl, trivial⟩
  · go_enter Try.func13, Try.ntmps13
    go_wp2
    go_ret
    exact ⟨false, rfl, rfl, trivial⟩

/-- What holds at the head of every round of the loop that compares the runes. -/
def SameRel (x y : Nat → Int) (n : Nat) (wc : World) (s i : Value) (wr : World) : Prop :=
  ∃ (k q : Nat) (b : Bool), k ≤ n ∧ i = .int .i64 k ∧ s = .bool b ∧ wr = wc.drewN q ∧ (b = true ↔ ∀ t, t < k → x t = y t)

theorem same_step {x y : Nat → Int} {k : Nat} {b : Bool} (h : b = true ↔ ∀ t, t < k → x t = y t) (e : x k = y k) : b = true ↔ ∀ t, t < k + 1 → x t = y t :=
  ⟨fun hb t ht => by
    rcases Nat.lt_or_ge t k with h1 | h1
    · exact h.1 hb t h1
    · rw [show t = k from by omega]; exact e, fun ha => h.2 (fun t ht => ha t (by omega))⟩

set_option maxHeartbeats 1000000 in
theorem walk4 (h20 : Said20) (a b : ByteArray) (w : World) (ha : a.size ≤ maxLen) (hb : b.size ≤ maxLen) : Calls Try.prog 4 #[.string a, .string b] w fun e w' => e = .returned (.bool true) ∧ Below w.heap.size w w' := by
  have HA : Hid (a.size ≤ maxLen) := ha
  have HB : Hid (b.size ≤ maxLen) := hb
  unfold maxLen at ha hb
  go_enter Try.func4, Try.ntmps4
  go_wp2_with fail
  refine (bytes13 a b _ HA.out HB.out).mono ?_
  rintro e w1 ⟨r, rfl, rfl, -⟩
  cases r with
  | false =>
    go_wp2_with fail
    go_ret
    exact ⟨rfl, Below.refl _ _⟩
  | true =>
    by_cases h1 : a.size ≤ 1024
    rotate_left
    · have hd : decide ((1024 : Int) < (a.size : Int)) = true := decide_eq_true (by omega)
      go_wp2_with fail
      go_ret
      exact ⟨rfl, Below.refl _ _⟩
    by_cases h2 : b.size ≤ 1024
    rotate_left
    · go_wp2_with fail
      go_ret
      exact ⟨rfl, Below.refl _ _⟩
    go_wp2_with fail
    refine (edits10 h20 a b _ (by omega) (by omega)).mono ?_
    rintro e w1 ⟨rfl, hB1⟩
    have HB1 : Hid (Below w.heap.size w w1) := hB1
    clear hB1
    go_wp2_with fail
    refine (edits10 h20 b a _ (by omega) (by omega)).mono ?_
    rintro e w2 ⟨rfl, hB2⟩
    have HB2 : Hid (Below w.heap.size w w2) := HB1.out.trans (hB2.mono HB1.out.size)
    clear hB2
    rw [D_comm (RX b) (RX a) (RN b) (RN a)]
    obtain ⟨c1, w3, hc1, hs1, hB3, hz3⟩ := conv_runes a (by omega) w2
    obtain ⟨c2, w4, hc2, hs2, hB4, hz4⟩ := conv_runes b (by omega) w3
    have hn : RN a ≤ 1024 := Nat.le_trans (RN_le a) h1
    have hm : RN b ≤ 1024 := Nat.le_trans (RN_le b) h2
    have H1 : Hid (∀ j, j < RN a → w4.cell? ⟨w2.heap.size, j, none⟩ = some (.int .i32 (RX a j))) := fun j hj => (hB4.cell (by simp; omega)).trans (hs1 j hj)
    have H2 : Hid (∀ j, j < RN b → w4.cell? ⟨w3.heap.size, j, none⟩ = some (.int .i32 (RX b j))) := hs2
    have HB4 : Hid (Below w.heap.size w w4) := (HB2.out.trans (hB3.mono HB2.out.size)).trans (hB4.mono (by have := HB2.out.size; omega))
    clear hs1 hs2 hB3 hB4 hz3 hz4
    have l1 := D_lo (RX a) (RX b) (RN a) (RN b)
    have l2 := D_lo' (RX a) (RX b) (RN a) (RN b)
    have l3 := D_hi (RX a) (RX b) (RN a) (RN b)
    have L4 : Hid (D (RX a) (RX b) (RN a) (RN b) = 0 ↔ (RN a = RN b ∧ ∀ k, k < RN a → RX a k = RX b k)) := D_zero_iff _ _ _ _
    generalize D (RX a) (RX b) (RN a) (RN b) = d at *
    generalize RN a = n at *
    generalize RN b = m at *
    generalize RX a = x at *
    generalize RX b = y at *
    rcases Nat.lt_trichotomy n m with h | h | h
    · have hd0 : ((d : Int) == 0) = false := by rw [beq_eq_false_iff_ne]; omega
      have hnm : ((n : Int) == (m : Int)) = false := by rw [beq_eq_false_iff_ne]; omega
      have hdm : d ≤ m := by omega
      clear l3
      go_wp2_with fail
      go_ret
      exact ⟨rfl, HB4.out⟩
    · subst h
      have hdm : d ≤ n := by omega
      have L5 : Hid (d = 0 ↔ ∀ k, k < n → x k = y k) := ⟨fun e => (L4.out.1 e).2, fun e => L4.out.2 ⟨rfl, e⟩⟩
      clear l3 L4 hm
      go_wp2_with fail
      go_loopw [13, 14] (fun s i wr => SameRel x y n w4 s i wr) (fun _ i _ => n - (intOf i).toNat)
      case atStart => exact ⟨0, 0, true, Nat.zero_le _, rfl, rfl, rfl, ⟨fun _ t ht => absurd ht (by omega), fun _ => rfl⟩⟩
      case round =>
        obtain ⟨k, q, bb, hk, rfl, rfl, rfl, hI⟩ := hrel
        have HI : Hid (bb = true ↔ ∀ t, t < k → x t = y t) := hI
        clear hI
        by_cases hlt : k < n
        · have hx := H1.out k hlt
          have hy := H2.out k hlt
          have i1 : (k : Int) < (n : Int) := by omega
          cases hxy : (x k == y k) with
          | true =>
            have HX : Hid (x k = y k) := by unfold Hid; simpa using hxy
            have hxn : (x k != y k) = false := by simpa using hxy
            go_wp2
            go_quiet (fail)
            go_wp2
            go_roundw
            case rel => exact ⟨k + 1, _, bb, by omega, by go_num, rfl, rfl, same_step HI.out HX.out⟩
            case measure => simp [intOf]; omega
          | false =>
            have HX : Hid (x k ≠ y k) := by unfold Hid; simpa using hxy
            have hxn : (x k != y k) = true := by simpa using hxy
            go_wp2
            go_quiet (fail)
            go_wp2
            go_roundw
            case rel => exact ⟨k + 1, _, false, by omega, by go_num, rfl, rfl, ⟨fun e => (by cases e), fun e => absurd (e k (by omega)) HX.out⟩⟩
            case measure => simp [intOf]; omega
        · obtain rfl : k = n := by omega
          have hb : ((d : Int) == 0) = bb := by
            rw [Bool.eq_iff_iff, HI.out, ← L5.out, beq_iff_eq]; omega
          cases bb
          all_goals
            go_wp2
            go_ret
            exact ⟨rfl, below_drewN HB4.out _⟩
    · have hd0 : ((d : Int) == 0) = false := by rw [beq_eq_false_iff_ne]; omega
      have hnm : ((n : Int) == (m : Int)) = false := by rw [beq_eq_false_iff_ne]; omega
      have hdm : d ≤ n := by omega
      clear l3
      go_wp2_with fail
      go_ret
      exact ⟨rfl, HB4.out⟩

end Go.Proofs.Qxb6601098a
