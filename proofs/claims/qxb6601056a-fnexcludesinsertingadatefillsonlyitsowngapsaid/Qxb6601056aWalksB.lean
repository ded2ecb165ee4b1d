/-
  THE WALKS (2): the library's binary search, 'Excludes', the copy, the calendar.
-/
import Derived.Test.Qxb6601056aWalksA
import Derived.Deep.OwnRows
namespace Go.Proofs.Qxb6601056a
open Go.RowKit

set_option maxHeartbeats 400000 in
theorem nan18 (x : ByteArray) (w : World) : Calls Try.prog 18 #[.string x] w fun e w' => e = .returned (.bool false) ∧ w' = w := by
  go_enter Try.func18, Try.ntmps18
  go_wp2
  go_ret
  exact ⟨by simp, rfl⟩

set_option maxHeartbeats 400000 in
theorem nan19 (x : ByteArray) (w : World) : Calls Try.prog 19 #[.string x] w fun e w' => e = .returned (.bool false) ∧ w' = w := by
  go_enter Try.func19, Try.ntmps19
  go_wp2
  go_ret
  exact ⟨by simp, rfl⟩

set_option maxHeartbeats 400000 in
theorem less17 (x y : ByteArray) (w : World) : Calls Try.prog 17 #[.string x, .string y] w fun e w' => e = .returned (.bool (Op.bytesLess x.toList y.toList)) ∧ w' = w := by
  go_enter Try.func17, Try.ntmps17
  go_wp2_with (go_at_call 19; refine (nan19 _ _).mono ?_; rintro e w' ⟨rfl, rfl⟩)
  go_ret
  exact ⟨rfl, rfl⟩

/-- What the search hands back over an ascending row. -/
def Found (S : Nat → ByteArray) (n : Nat) (x : ByteArray) (w : World) (e : Ending) (w' : World) : Prop :=
  ∃ k q : Nat, e = .returned (.tuple #[.int .i64 k, .bool (hit S n x k)]) ∧ w' = w.drewN q ∧ Cutat S n x k

set_option maxHeartbeats 1000000 in
theorem search16 (b off n c : Nat) (S : Nat → ByteArray) (x : ByteArray) (w : World) (hbig : n ≤ 65537)
    (hc : ∀ j, j < n → w.cell? ⟨b, off + j, none⟩ = some (.string (S j))) (hasc : Asc S n) :
    Calls Try.prog 16 #[.slice (some ⟨b, off, none⟩) n c, .string x] w (Found S n x w) := by
  have HA : Hid (Asc S n) := hasc
  clear hasc
  go_enter Try.func16, Try.ntmps16
  go_wp2
  go_loopg [7, 8] n (fun g s7 s8 wr => ∃ lo hi q : Nat, s7 = .int .i64 lo ∧ s8 = .int .i64 hi ∧ lo ≤ hi ∧ hi ≤ n ∧ hi - lo ≤ g ∧ wr = w.drewN q ∧ Hid ((∀ t, t < lo → lt (S t) x = true) ∧ (∀ t, hi ≤ t → t < n → lt (S t) x = false)))
  case atStart => exact ⟨0, n, 0, rfl, rfl, Nat.zero_le _, Nat.le_refl _, by omega, rfl, fun t ht => absurd ht (by omega), fun t h1 h2 => absurd h2 (by omega)⟩
  case round =>
    obtain ⟨lo, hi, q, rfl, rfl, hlh, hin, hg, rfl, hH⟩ := hrel
    by_cases hlt : lo < hi
    · have cm : w.cell? ⟨b, off + (lo + hi) / 2, none⟩ = some (.string (S ((lo + hi) / 2))) := hc _ (by omega)
      clear hc
      obtain ⟨y, hy⟩ : ∃ y, S ((lo + hi) / 2) = y := ⟨_, rfl⟩
      have HY : Hid (S ((lo + hi) / 2) = y) := hy
      rw [hy] at cm
      clear hy
      cases hyx : Op.bytesLess y.toList x.toList
      · have HX : Hid (lt y x = false) := hyx
        go_wp2_with (first | (go_at_call 17; refine (less17 _ _ _).mono ?_; rintro e w' ⟨rfl, rfl⟩))
        go_roundg ((lo + hi) / 2 - lo)
        case measure => omega
        case rel => exact ⟨lo, (lo + hi) / 2, _, rfl, by rw [show ((lo : Int) + (hi : Int)) / 2 = (((lo + hi) / 2 : Nat) : Int) by omega], by omega, by omega, Nat.le_refl _, rfl, hH.out.1, fun t h1 h2 => by
          cases h : lt (S t) x with
          | false => rfl
          | true =>
            have := HA.out.head x (a := (lo + hi) / 2) (b := t) h1 h2 h
            rw [HY.out, HX.out] at this; cases this⟩
      · have HX : Hid (lt y x = true) := hyx
        go_wp2_with (first | (go_at_call 17; refine (less17 _ _ _).mono ?_; rintro e w' ⟨rfl, rfl⟩))
        go_roundg (hi - ((lo + hi) / 2 + 1))
        case measure => omega
        case rel => exact ⟨(lo + hi) / 2 + 1, hi, _, by rw [show ((lo : Int) + (hi : Int)) / 2 + 1 = (((lo + hi) / 2 + 1 : Nat) : Int) by omega], rfl, by omega, hin, Nat.le_refl _, rfl, fun t h1 => HA.out.head x (a := t) (b := (lo + hi) / 2) (by omega) (by omega) (by rw [HY.out]; exact HX.out), hH.out.2⟩
    · have : hi = lo := by omega
      subst this
      have HC : Hid (Cutat S n x hi) := ⟨hin, hH.out.1, hH.out.2⟩
      by_cases hn : hi < n
      · have cl : w.cell? ⟨b, off + hi, none⟩ = some (.string (S hi)) := hc _ hn
        clear hc
        obtain ⟨y, hy⟩ : ∃ y, S hi = y := ⟨_, rfl⟩
        rw [hy] at cl
        have HY : Hid (S hi = y) := hy
        clear hy
        by_cases hyx : y = x
        · subst hyx
          go_wp2_with (first | (go_at_call 17; refine (less17 _ _ _).mono ?_; rintro e w' ⟨rfl, rfl⟩) | (go_at_call 18; refine (nan18 _ _).mono ?_; rintro e w' ⟨rfl, rfl⟩))
          go_ret2
          refine ⟨hi, _, ?_, rfl, HC.out⟩
          rw [hit, decide_eq_true (show hi < n ∧ S hi = y from ⟨hn, HY.out⟩)]
          rfl
        · have hne : (y.toList == x.toList) = false := by
            rw [beq_eq_false_iff_ne]
            exact fun h => hyx (toList_inj h)
          go_wp2_with (first | (go_at_call 17; refine (less17 _ _ _).mono ?_; rintro e w' ⟨rfl, rfl⟩) | (go_at_call 18; refine (nan18 _ _).mono ?_; rintro e w' ⟨rfl, rfl⟩))
          go_ret2
          refine ⟨hi, _, ?_, rfl, HC.out⟩
          rw [hit, decide_eq_false (show ¬ (hi < n ∧ S hi = x) from fun h => hyx (HY.out.symm.trans h.2))]
          rfl
      · clear hc
        go_wp2_with (first | (go_at_call 17; refine (less17 _ _ _).mono ?_; rintro e w' ⟨rfl, rfl⟩) | (go_at_call 18; refine (nan18 _ _).mono ?_; rintro e w' ⟨rfl, rfl⟩))
        go_ret2
        refine ⟨hi, _, ?_, rfl, HC.out⟩
        rw [hit, decide_eq_false (show ¬ (hi < n ∧ S hi = x) from fun h => hn h.1)]
        rfl

-- f11: (*Calendar).Excludes
set_option maxHeartbeats 1000000 in
theorem exc11 (cb b off n c : Nat) (S : Nat → ByteArray) (x : ByteArray) (w : World) (hn0 : 0 < n) (hbig : n ≤ 65537)
    (hcal : w.cell? ⟨cb, 1, none⟩ = some (.slice (some ⟨b, off, none⟩) n c))
    (hc : ∀ j, j < n → w.cell? ⟨b, off + j, none⟩ = some (.string (S j))) (hasc : Asc S n) :
    Calls Try.prog 11 #[.pointer (some ⟨cb, 0, none⟩), .string x] w (RetBq (fun r => r = true ↔ Gap S n x) w) := by
  have HA : Hid (Asc S n) := hasc
  clear hasc
  have hc0 : w.cell? ⟨b, off, none⟩ = some (.string (S 0)) := hc 0 (by omega)
  have hc1 := hc (n - 1) (by omega)
  have HC : Hid (∀ j, j < n → w.cell? ⟨b, off + j, none⟩ = some (.string (S j))) := hc
  clear hc
  have i0 : (0 : Int) < (n : Int) := by omega
  have i1 : (n : Int) - 1 < (n : Int) := by omega
  have i2 : (0 : Int) ≤ (n : Int) - 1 := by omega
  have i3 : ((n : Int) - 1).toNat = n - 1 := by omega
  cases hx : Op.bytesLess x.toList (S 0).toList with
  | true =>
    have HX : Hid (lt x (S 0) = true) := hx
    go_enter Try.func11, Try.ntmps11
    go_wp2
    go_quiet (fail)
    go_wp2
    go_ret
    exact ⟨false, _, rfl, rfl, ⟨fun h => (by cases h), fun h => absurd h (not_gap_low HA.out HX.out)⟩⟩
  | false =>
    have HX : Hid (lt x (S 0) = false) := hx
    cases hy : Op.bytesLess x.toList (S (n - 1)).toList with
    | true =>
      have HY : Hid (lt x (S (n - 1)) = true ∨ (x.toList == (S (n - 1)).toList) = true) := Or.inl hy
      go_enter Try.func11, Try.ntmps11
      go_wp2
      go_quiet (fail)
      go_wp2_with (go_at_call 16; refine (search16 b off n c S x _ (by omega) (by exact HC.out) HA.out).mono ?_; rintro e w' ⟨k, q, rfl, rfl, hk⟩)
      go_ret
      exact ⟨_, _, rfl, rfl, cut_gap HA.out hn0 hk HX.out HY.out⟩
    | false =>
      cases hz : (x.toList == (S (n - 1)).toList) with
      | true =>
        have HY : Hid (lt x (S (n - 1)) = true ∨ (x.toList == (S (n - 1)).toList) = true) := Or.inr hz
        go_enter Try.func11, Try.ntmps11
        go_wp2
        go_quiet (fail)
        go_wp2_with (go_at_call 16; refine (search16 b off n c S x _ (by omega) (by exact HC.out) HA.out).mono ?_; rintro e w' ⟨k, q, rfl, rfl, hk⟩)
        go_ret
        exact ⟨_, _, rfl, rfl, cut_gap HA.out hn0 hk HX.out HY.out⟩
      | false =>
        have HY : Hid (lt x (S (n - 1)) = false) := hy
        have HZ : Hid ((x.toList == (S (n - 1)).toList) = false) := hz
        go_enter Try.func11, Try.ntmps11
        go_wp2
        go_quiet (fail)
        go_wp2
        go_ret
        exact ⟨false, _, rfl, rfl, ⟨fun h => (by cases h), fun h => absurd h (not_gap_high HA.out HY.out HZ.out)⟩⟩

theorem Try.info9 : (Try.prog.info? 9).map (fun i => (i.zero, i.size, i.bytes)) = some (some (.string ⟨#[]⟩), 1, 16) := by kernel_rfl

/-- What the copy leaves: a new row of the same strings, nothing old turned. -/
def Copied (S : Nat → ByteArray) (n : Nat) (w : World) (e : Ending) (w' : World) : Prop :=
  e = .returned (.slice (some ⟨w.heap.size, 0, none⟩) n n) ∧ w'.rowIs w.heap.size 9 n (fun i => .string (S i)) ∧ Below w.heap.size w w'

-- f9: zzcalClone
set_option maxHeartbeats 400000 in
theorem clone9 (b off n c : Nat) (S : Nat → ByteArray) (w : World) (hn : n ≤ 65536) (hb : b < w.heap.size)
    (hc : ∀ j, j < n → w.cell? ⟨b, off + j, none⟩ = some (.string (S j))) :
    Calls Try.prog 9 #[.slice (some ⟨b, off, none⟩) n c] w (Copied S n w) := by
  have hmk := run_make_row' (P := Try.prog) 22 9 (.string ⟨#[]⟩) 16 Try.underlying22 Try.info9 rfl .i64 .i64 n (by omega) (by omega)
  go_enter Try.func9, Try.ntmps9
  go_wp2
  go_loopw [4] (fun i wr => ∃ k : Nat, k ≤ n ∧ i = .int .i64 k ∧ wr.rowIs w.heap.size 9 n (fun j => if j < k then .string (S j) else .string ⟨#[]⟩) ∧ Below w.heap.size w wr) (fun i _ => n - (intOf i).toNat)
  case atStart => exact ⟨0, Nat.zero_le _, rfl, (World.rowIs_made _ _ _ _).congr (fun i _ => by simp), (Below.refl _ _).alloc (Nat.le_refl _) _⟩
  case round =>
    obtain ⟨k, hk, rfl, hr, hB⟩ := hrel
    have HR := hr
    have HBB := hB
    by_cases hlt : k < n
    · have hck : wr.cell? ⟨b, off + k, none⟩ = some (.string (S k)) := (hB.cell (by exact hb)).trans (hc k hlt)
      have hdst := hr.cell hlt
      have hfz := hr.frozen k
      clear hc hmk
      go_wp2
      go_roundw
      case rel => exact ⟨k + 1, by omega, by go_num, (HR.set k _).congr (fun j _ => by
        by_cases h1 : j = k
        · subst h1; simp
        · by_cases h2 : j < k
          · simp [h1, h2, show j < k + 1 from by omega]
          · simp [h1, h2, show ¬ j < k + 1 from by omega]), HBB.setCell (Nat.le_refl _) _⟩
      case measure => simp [intOf]; omega
    · clear hc hmk
      go_wp2
      go_ret
      exact ⟨rfl, HR.congr (fun j hj => by simp [show j < k from by omega]), HBB⟩

theorem Try.info33 : Try.prog.cellsOf 33 = 2 := by kernel_rfl

-- f10: ZZNewCalendar
set_option maxHeartbeats 400000 in
theorem new10 (b n c : Nat) (w : World) :
    Calls Try.prog 10 #[.slice (some ⟨b, 0, none⟩) n c] w fun e w' => e = .returned (.pointer (some ⟨w.heap.size, 0, none⟩)) ∧ w' = w.alloc (.cells #[.slice none 0 0, .slice (some ⟨b, 0, none⟩) n c] 33) := by
  go_enter Try.func10, Try.ntmps10
  go_wp2
  go_ret
  exact ⟨rfl, rfl⟩

end Go.Proofs.Qxb6601056a
