/-
  THE WALKS FOR THE SECOND LAW (1): the bound, the valid runes, the copy.
-/
import Derived.Test.Qxb6601098aWalk4
import Derived.Test.Qxb6601098aUtf
namespace Go.Proofs.Qxb6601098a
open Go.RowKit

set_option maxHeartbeats 400000 in
theorem bytes7 (a b : Option Addr) (n c m d : Nat) (w : World) (ha : n ≤ maxLen) (hb : m ≤ maxLen) : Calls Try.prog 7 #[.slice a n c, .slice b m d] w (RetB (fun _ => True) w) := by
  unfold maxLen at ha hb
  by_cases h1 : n ≤ 1048576
  · by_cases h2 : m ≤ 1048576
    · by_cases h3 : n + m ≤ 1048576
      · go_enter Try.func7, Try.ntmps7
        go_wp2
        go_ret
        exact ⟨true, rfl, rfl, trivial⟩
      · go_enter Try.func7, Try.ntmps7
        go_wp2
        go_ret
        exact ⟨false, rfl, rfl, trivial⟩
    · go_enter Try.func7, Try.ntmps7
      go_wp2
      go_ret
      exact ⟨false, rfl, rfl, trivial⟩
  · go_enter Try.func7, Try.ntmps7
    go_wp2
    go_ret
    exact ⟨false, rfl, rfl, trivial⟩

/-- A valid code point, as an int32. -/
def okI (c : Int) : Prop := 0 ≤ c ∧ c ≤ 1114111 ∧ ¬ (55296 ≤ c ∧ c ≤ 57343)

-- f8: zzValidRunes
set_option maxHeartbeats 400000 in
theorem valid8 (a : Option Addr) (b off n c : Nat) (x : Nat → Int) (w : World) (hn : n ≤ 1024) (ha : 0 < n → a = some ⟨b, off, none⟩) (hc : ∀ j, j < n → w.cell? ⟨b, off + j, none⟩ = some (.int .i32 (x j))) :
    Calls Try.prog 8 #[.slice a n c] w (RetB (fun r => r = true → ∀ j, j < n → okI (x j)) w) := by
  go_enter Try.func8, Try.ntmps8
  go_wp2
  go_loop [3] (fun i => ∃ k : Nat, k ≤ n ∧ i = .int .i64 k ∧ Hid (∀ j, j < k → okI (x j))) (fun i => n - (intOf i).toNat)
  case atStart => exact ⟨0, Nat.zero_le _, rfl, fun j hj => absurd hj (by omega)⟩
  case round =>
    obtain ⟨k, hk, rfl, HI⟩ := hrel
    by_cases hlt : k < n
    · have hck := hc k hlt
      have ha' := ha (by omega)
      subst ha'
      clear hc
      obtain ⟨z, hz⟩ : ∃ z, x k = z := ⟨_, rfl⟩
      have HZ : Hid (x k = z) := hz
      rw [hz] at hck
      clear hz
      by_cases h1 : z < 0
      · have d1 : decide (z < 0) = true := decide_eq_true h1
        go_wp2
        go_ret
        exact ⟨false, rfl, rfl, fun h => by cases h⟩
      by_cases h2 : 1114111 < z
      · have d1 : decide (z < 0) = false := decide_eq_false h1
        have d2 : decide (1114111 < z) = true := decide_eq_true h2
        go_wp2
        go_ret
        exact ⟨false, rfl, rfl, fun h => by cases h⟩
      by_cases h3 : 55296 ≤ z
      · by_cases h4 : z ≤ 57343
        · go_wp2
          go_ret
          exact ⟨false, rfl, rfl, fun h => by cases h⟩
        · go_wp2
          go_round
          case rel => exact ⟨k + 1, by omega, by go_num, fun j hj => by
            rcases Nat.lt_or_ge j k with h | h
            · exact HI.out j h
            · rw [show j = k from by omega, HZ.out]; exact ⟨by omega, by omega, by omega⟩⟩
          case measure => simp [intOf]; omega
      · go_wp2
        go_round
        case rel => exact ⟨k + 1, by omega, by go_num, fun j hj => by
          rcases Nat.lt_or_ge j k with h | h
          · exact HI.out j h
          · rw [show j = k from by omega, HZ.out]; exact ⟨by omega, by omega, by omega⟩⟩
        case measure => simp [intOf]; omega
    · clear hc ha
      go_wp2
      go_ret
      exact ⟨true, rfl, rfl, fun _ j hj => HI.out j (by omega)⟩

theorem Try.info21 : (Try.prog.info? 21).map (fun i => (i.zero, i.size, i.bytes)) = some (some (.int .i32 0), 1, 4) := by kernel_rfl

/-- What the copy leaves: the same numbers, in new memory or nowhere. -/
def Copied (x : Nat → Int) (n : Nat) (w : World) (e : Ending) (w' : World) : Prop :=
  ∃ a : Option Addr, e = .returned (.slice a n n) ∧ (0 < n → a = some ⟨w.heap.size, 0, none⟩) ∧ (∀ j, j < n → w'.cell? ⟨w.heap.size, j, none⟩ = some (.int .i32 (x j))) ∧ Below w.heap.size w w' ∧ w'.heap.size ≤ w.heap.size + 1

-- f9: zzCloneInt32s
set_option maxHeartbeats 400000 in
theorem clone9_nil (x : Nat → Int) (w : World) : Calls Try.prog 9 #[.slice none 0 0] w (Copied x 0 w) := by
  have hnil := fun (w : World) (a : Option Addr) (n c : Nat) => Lib.run_eql_slice_nil (P := Try.prog) w 22 21 a n c 0 0 Try.underlying22
  go_enter Try.func9, Try.ntmps9
  go_wp2
  go_ret
  exact ⟨none, rfl, fun h => absurd h (by omega), fun j hj => absurd hj (by omega), Below.refl _ _, by omega⟩

set_option maxHeartbeats 400000 in
theorem clone9_some (A : Addr) (b off n c : Nat) (x : Nat → Int) (w : World) (hn : n ≤ 1024) (ha : 0 < n → A = ⟨b, off, none⟩) (hb : 0 < n → b < w.heap.size) (hc : ∀ j, j < n → w.cell? ⟨b, off + j, none⟩ = some (.int .i32 (x j))) :
    Calls Try.prog 9 #[.slice (some A) n c] w (Copied x n w) := by
  have hnil := fun (w : World) (a : Option Addr) (n c : Nat) => Lib.run_eql_slice_nil (P := Try.prog) w 22 21 a n c 0 0 Try.underlying22
  have hmk := run_make_row' (P := Try.prog) 22 21 (.int .i32 0) 4 Try.underlying22 Try.info21 rfl .i64 .i64 n (by omega) (by omega)
  go_enter Try.func9, Try.ntmps9
  go_wp2
  go_loopw [4] (fun i wr => ∃ k : Nat, k ≤ n ∧ i = .int .i64 k ∧ Hid (wr.rowIs w.heap.size 21 n (fun j => if j < k then .int .i32 (x j) else .int .i32 0)) ∧ Hid (Below w.heap.size w wr) ∧ Hid (wr.heap.size = w.heap.size + 1)) (fun i _ => n - (intOf i).toNat)
  case atStart => exact ⟨0, Nat.zero_le _, rfl, (World.rowIs_made _ _ _ _).congr (fun i _ => by simp), (Below.refl _ _).alloc (Nat.le_refl _) _, by show (w.heap.push _).size = _; simp⟩
  case round =>
    obtain ⟨k, hk, rfl, HR, HB, HZ⟩ := hrel
    by_cases hlt : k < n
    · have ha' := ha (by omega)
      have hb' := hb (by omega)
      subst ha'
      have hck : wr.cell? ⟨b, off + k, none⟩ = some (.int .i32 (x k)) := (HB.out.cell (by exact hb')).trans (hc k hlt)
      have hdst := HR.out.cell hlt
      have hfz := HR.out.frozen k
      clear hc hmk hnil
      go_wp2
      go_roundw
      case rel => exact ⟨k + 1, by omega, by go_num, (HR.out.set k _).congr (fun j _ => by
        by_cases h1 : j = k
        · subst h1; simp
        · by_cases h2 : j < k
          · simp [h1, h2, show j < k + 1 from by omega]
          · simp [h1, h2, show ¬ j < k + 1 from by omega]), HB.out.setCell (Nat.le_refl _) _, by have := HZ.out; show (World.setCell _ _ _).heap.size = _; simpa using this⟩
      case measure => simp [intOf]; omega
    · clear hc hmk hnil ha hb
      go_wp2
      go_ret
      exact ⟨_, rfl, fun _ => rfl, fun j hj => by have := HR.out.cell hj; simpa [show j < k from by omega] using this, HB.out, by have := HZ.out; omega⟩

end Go.Proofs.Qxb6601098a
