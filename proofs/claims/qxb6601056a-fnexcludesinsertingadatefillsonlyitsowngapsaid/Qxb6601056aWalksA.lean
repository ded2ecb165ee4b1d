/-
  THE WALKS (1): the bounds on lengths, the ascending test, the model.
-/
import Derived.Test.Qxb6601056aRows
import Derived.Test.Qxb6601056aPlain
import Derived.WalkKit
import Derived.WalkSpells
import Derived.WalkLawsBesides
import Derived.Deep.QuietTactic
import Derived.BigQuiet
import Derived.Deep.LoopGhost
namespace Go.Proofs.Qxb6601056a
open Go.RowKit

/-- The call hands back a bool of which Q holds; the world is as it was. -/
def RetB (Q : Bool → Prop) (w : World) (e : Ending) (w' : World) : Prop := ∃ r : Bool, e = .returned (.bool r) ∧ w = w' ∧ Q r
/-- The call hands back an int of which Q holds; the world is as it was. -/
def RetI (Q : Int → Prop) (w : World) (e : Ending) (w' : World) : Prop := ∃ r : Int, e = .returned (.int .i64 r) ∧ w = w' ∧ Q r
/-- The call hands back a bool of which Q holds; the world has drawn. -/
def RetBq (Q : Bool → Prop) (w : World) (e : Ending) (w' : World) : Prop := ∃ (r : Bool) (q : Nat), e = .returned (.bool r) ∧ w' = w.drewN q ∧ Q r

-- f6: zzBytes_FnExcludesIsExactlyAGapBetweenNeighbours
set_option maxHeartbeats 400000 in
theorem bytes6 (a : Option Addr) (b off n c : Nat) (S : Nat → ByteArray) (d : ByteArray) (w : World) (ha : 0 < n → a = some ⟨b, off, none⟩) (hd : d.size ≤ maxLen)
    (hc : ∀ j, j < n → w.cell? ⟨b, off + j, none⟩ = some (.string (S j))) :
    Calls Try.prog 6 #[.slice a n c, .string d] w (RetB (fun r => r = true → ∀ j, j < n → (S j).size ≤ 1048576) w) := by
  unfold maxLen at hd
  by_cases hn : n ≤ 1048576
  · go_enter Try.func6, Try.ntmps6
    go_wp2
    go_loop [5, 6] (fun s i => ∃ (k : Nat) (z : Int), k ≤ n ∧ i = .int .i64 k ∧ s = .int .i64 z ∧ 0 ≤ z ∧ z ≤ 1048576 ∧ Hid (∀ j, j < k → (S j).size ≤ 1048576)) (fun _ i => n - (intOf i).toNat)
    case atStart => exact ⟨0, n, Nat.zero_le _, rfl, rfl, by omega, by omega, fun j hj => absurd hj (by omega)⟩
    case round =>
      obtain ⟨k, z, hk, rfl, rfl, hz0, hz1, hH⟩ := hrel
      by_cases hlt : k < n
      · have hck := hc k hlt
        have ha' := ha (by omega)
        subst ha'
        by_cases h1 : (S k).size ≤ 1048576
        · by_cases h2 : z + (S k).size ≤ 1048576
          · clear hc
            go_wp2
            go_round
            case rel => exact ⟨k + 1, z + (S k).size, by omega, by go_num, rfl, by omega, by omega, fun j hj => by
              rcases Nat.lt_or_ge j k with h | h
              · exact hH.out j h
              · rw [show j = k from by omega]; exact h1⟩
            case measure => simp [intOf]; omega
          · clear hc
            go_wp2
            go_ret
            exact ⟨false, rfl, rfl, fun h => by cases h⟩
        · clear hc
          go_wp2
          go_ret
          exact ⟨false, rfl, rfl, fun h => by cases h⟩
      · have hkn : k = n := by omega
        subst hkn
        clear hc ha
        by_cases h1 : d.size ≤ 1048576
        · by_cases h2 : z + d.size ≤ 1048576
          · go_wp2
            go_ret
            exact ⟨true, rfl, rfl, fun _ => hH.out⟩
          · go_wp2
            go_ret
            exact ⟨false, rfl, rfl, fun h => by cases h⟩
        · go_wp2
          go_ret
          exact ⟨false, rfl, rfl, fun h => by cases h⟩
  · clear hc ha
    go_enter Try.func6, Try.ntmps6
    go_wp2
    go_ret
    exact ⟨false, rfl, rfl, fun h => by cases h⟩

-- f7: zzcalBytes: the sum does not wrap
set_option maxHeartbeats 400000 in
theorem bytes7 (a : Option Addr) (b off n c : Nat) (S : Nat → ByteArray) (w : World) (ha : 0 < n → a = some ⟨b, off, none⟩) (hn : n ≤ 65536)
    (hc : ∀ j, j < n → w.cell? ⟨b, off + j, none⟩ = some (.string (S j))) (hS : ∀ j, j < n → (S j).size ≤ 1048576) :
    Calls Try.prog 7 #[.slice a n c] w (RetI (fun r => 0 ≤ r ∧ r ≤ 4194304) w) := by
  go_enter Try.func7, Try.ntmps7
  go_wp2
  go_loop [3, 4] (fun s i => ∃ (k : Nat) (z : Int), k ≤ n ∧ i = .int .i64 k ∧ s = .int .i64 z ∧ 0 ≤ z ∧ z ≤ 1048576) (fun _ i => n - (intOf i).toNat)
  case atStart => exact ⟨0, _, Nat.zero_le _, rfl, rfl, by omega, by omega⟩
  case round =>
    obtain ⟨k, z, hk, rfl, rfl, hz0, hz1⟩ := hrel
    by_cases hlt : k < n
    · have hck := hc k hlt
      have hSk := hS k hlt
      have ha' := ha (by omega)
      subst ha'
      clear hc hS
      by_cases h2 : z + (S k).size ≤ 1048576
      · go_wp2
        go_round
        case rel => exact ⟨k + 1, z + (S k).size, by omega, by go_num, rfl, by omega, by omega⟩
        case measure => simp [intOf]; omega
      · go_wp2
        go_ret
        exact ⟨_, rfl, rfl, by omega, by omega⟩
    · clear hc hS ha
      go_wp2
      go_ret
      exact ⟨_, rfl, rfl, by omega, by omega⟩

-- f8: zzcalAscending
set_option maxHeartbeats 400000 in
theorem asc8 (b off n c : Nat) (S : Nat → ByteArray) (w : World) (hn0 : 0 < n) (hn : n ≤ 65536)
    (hc : ∀ j, j < n → w.cell? ⟨b, off + j, none⟩ = some (.string (S j))) :
    Calls Try.prog 8 #[.slice (some ⟨b, off, none⟩) n c] w (RetBq (fun r => r = true → Asc S n) w) := by
  go_enter Try.func8, Try.ntmps8
  go_wp2
  go_loopw [3] (fun i wr => ∃ k q : Nat, k + 1 ≤ n ∧ i = .int .i64 (k + 1) ∧ wr = w.drewN q ∧ Hid (∀ i, i + 1 < k + 1 → lt (S i) (S (i + 1)) = true)) (fun i _ => n - (intOf i).toNat)
  case atStart => exact ⟨0, 0, by omega, rfl, rfl, fun i hi => absurd hi (by omega)⟩
  case round =>
    obtain ⟨k, q, hk, rfl, rfl, hH⟩ := hrel
    by_cases hlt : k + 1 < n
    · have hc0 := hc k (by omega)
      have hc1 := hc (k + 1) hlt
      clear hc
      have i0 : (k : Int) < (n : Int) := by omega
      have i1 : (k : Int) + 1 < (n : Int) := by omega
      cases hx : Op.bytesLess (S k).toList (S (k + 1)).toList with
      | true =>
        have HX : Hid (lt (S k) (S (k + 1)) = true) := hx
        go_wp2
        go_quiet (fail)
        go_wp2
        go_roundw
        case rel => exact ⟨k + 1, _, by omega, by go_num, rfl, fun i hi => by
          rcases Nat.lt_or_ge i k with h | h
          · exact hH.out i (by omega)
          · rw [show i = k from by omega]; exact HX.out⟩
        case measure => simp [intOf]; omega
      | false =>
        go_wp2
        go_quiet (fail)
        go_wp2
        go_ret
        exact ⟨false, _, rfl, World.drewN_drewN _ _ _, fun h => by cases h⟩
    · clear hc
      go_wp2
      go_ret
      exact ⟨true, _, rfl, rfl, fun _ i hi => hH.out i (by omega)⟩

-- f12: zzcalInGap
set_option maxHeartbeats 400000 in
theorem gap12 (b off n c : Nat) (S : Nat → ByteArray) (d : ByteArray) (w : World) (hn : n ≤ 65536)
    (hc : ∀ j, j < n → w.cell? ⟨b, off + j, none⟩ = some (.string (S j))) :
    Calls Try.prog 12 #[.slice (some ⟨b, off, none⟩) n c, .string d] w (RetB (fun r => r = true ↔ Gap S n d) w) := by
  go_enter Try.func12, Try.ntmps12
  go_wp2
  go_loop [5] (fun i => ∃ k : Nat, k ≤ n ∧ i = .int .i64 k ∧ Hid (∀ i, i < k → ¬ (i + 1 < n ∧ lt (S i) d = true ∧ lt d (S (i + 1)) = true))) (fun i => n - (intOf i).toNat)
  case atStart => exact ⟨0, Nat.zero_le _, rfl, fun i hi => absurd hi (by omega)⟩
  case round =>
    obtain ⟨k, hk, rfl, hH⟩ := hrel
    by_cases hlt : k + 1 < n
    · have hc0 := hc k (by omega)
      have hc1 := hc (k + 1) hlt
      clear hc
      cases hx : Op.bytesLess (S k).toList d.toList with
      | true =>
        cases hy : Op.bytesLess d.toList (S (k + 1)).toList with
        | true =>
          have HX : Hid (Gap S n d) := ⟨k, hlt, hx, hy⟩
          go_wp2
          go_ret
          exact ⟨true, rfl, rfl, ⟨fun _ => HX.out, fun _ => rfl⟩⟩
        | false =>
          have HX : Hid (lt d (S (k + 1)) = false) := hy
          go_wp2
          go_round
          case rel => exact ⟨k + 1, by omega, by go_num, fun i hi => by
            rcases Nat.lt_or_ge i k with h | h
            · exact hH.out i (by omega)
            · rw [show i = k from by omega, HX.out]; simp⟩
          case measure => simp [intOf]; omega
      | false =>
        have HX : Hid (lt (S k) d = false) := hx
        go_wp2
        go_round
        case rel => exact ⟨k + 1, by omega, by go_num, fun i hi => by
          rcases Nat.lt_or_ge i k with h | h
          · exact hH.out i (by omega)
          · rw [show i = k from by omega, HX.out]; simp⟩
        case measure => simp [intOf]; omega
    · clear hc
      go_wp2
      go_ret
      exact ⟨false, rfl, rfl, ⟨fun h => (by cases h), fun ⟨i, hi, h1, h2⟩ => absurd ⟨hi, h1, h2⟩ (hH.out i (by omega))⟩⟩

-- f15: zzcalIsMember
set_option maxHeartbeats 400000 in
theorem mem15 (b off n c : Nat) (S : Nat → ByteArray) (d : ByteArray) (w : World) (hn : n ≤ 65536)
    (hc : ∀ j, j < n → w.cell? ⟨b, off + j, none⟩ = some (.string (S j))) :
    Calls Try.prog 15 #[.slice (some ⟨b, off, none⟩) n c, .string d] w (RetB (fun r => r = false → ∀ i, i < n → S i ≠ d) w) := by
  go_enter Try.func15, Try.ntmps15
  go_wp2
  go_loop [5] (fun i => ∃ k : Nat, k ≤ n ∧ i = .int .i64 k ∧ Hid (∀ i, i < k → S i ≠ d)) (fun i => n - (intOf i).toNat)
  case atStart => exact ⟨0, Nat.zero_le _, rfl, fun i hi => absurd hi (by omega)⟩
  case round =>
    obtain ⟨k, hk, rfl, hH⟩ := hrel
    by_cases hlt : k < n
    · have hc0 := hc k (by omega)
      clear hc
      cases hx : ((S k).toList == d.toList) with
      | true =>
        go_wp2
        go_ret
        exact ⟨true, rfl, rfl, fun h => by cases h⟩
      | false =>
        have HX : Hid (S k ≠ d) := fun e => by rw [e] at hx; simp at hx
        go_wp2
        go_round
        case rel => exact ⟨k + 1, by omega, by go_num, fun i hi => by
          rcases Nat.lt_or_ge i k with h | h
          · exact hH.out i (by omega)
          · rw [show i = k from by omega]; exact HX.out⟩
        case measure => simp [intOf]; omega
    · clear hc
      go_wp2
      go_ret
      exact ⟨false, rfl, rfl, fun _ i hi => hH.out i (by omega)⟩

end Go.Proofs.Qxb6601056a
