/-
  THE WALKS OF 'match': the levels, by the bits that the values name together.
-/
import Derived.Test.Qxb6601579aPrs
namespace Go.Proofs.Qxb6601579a
open Go.RowKit

/-- The bits that the first k values name of c, together. -/
def nms (S : Nat → Pr) (c : Pr) : Nat → Int
  | 0 => 0
  | k + 1 => bits .or .u8 (nms S c k) (nm (S k) c)

/-- The level, by the bits. -/
def lev (x : Int) : Int := if x == 4 || x == 5 || x == 6 || x == 7 then 3 else if x == 2 || x == 3 then 2 else if x == 1 then 1 else 0
/-- What a denied element wants: the account's bit and the caller's own; of a session, the role's too. -/
def full (c5 : Bool) (x : Int) : Int := if x == 7 || (x == 5 && !c5) then 0 else 3
/-- What the element answers. -/
def mres (neg c5 : Bool) (x : Int) : Int := if neg then full c5 x else lev x

theorem nm_cases (p c : Pr) : nm p c = 0 ∨ nm p c = 1 ∨ nm p c = 2 ∨ nm p c = 4 ∨ nm p c = 7 := by
  rcases nm_law p c with ⟨_, h⟩ | ⟨_, h | ⟨h | h | h, _⟩⟩ <;> simp [h]
theorem or_cases {x m : Int} (hx : x = 0 ∨ x = 1 ∨ x = 2 ∨ x = 3 ∨ x = 4 ∨ x = 5 ∨ x = 6 ∨ x = 7) (hm : m = 0 ∨ m = 1 ∨ m = 2 ∨ m = 4 ∨ m = 7) :
    let y := bits .or .u8 x m
    y = 0 ∨ y = 1 ∨ y = 2 ∨ y = 3 ∨ y = 4 ∨ y = 5 ∨ y = 6 ∨ y = 7 := by
  rcases hx with rfl | rfl | rfl | rfl | rfl | rfl | rfl | rfl <;> rcases hm with rfl | rfl | rfl | rfl | rfl <;> decide
theorem nms_cases (S : Nat → Pr) (c : Pr) (k : Nat) : nms S c k = 0 ∨ nms S c k = 1 ∨ nms S c k = 2 ∨ nms S c k = 3 ∨ nms S c k = 4 ∨ nms S c k = 5 ∨ nms S c k = 6 ∨ nms S c k = 7 := by
  induction k with
  | zero => exact Or.inl rfl
  | succ k ih => exact or_cases ih (nm_cases (S k) c)

/-- The call hands back r; the world has drawn. -/
def RetIq (r : Int) (w : World) (e : Ending) (w' : World) : Prop := ∃ q : Nat, e = .returned (.int .i64 r) ∧ w' = w.drewN q

-- f23: (*principalElement).match
set_option maxHeartbeats 4000000 in
theorem match23 (neg : Bool) (a : Option Addr) (b off n cp : Nat) (S : Nat → Pr) (c : Pr) (be bc : Nat) (w : World) (hn : n ≤ 65536)
    (he0 : w.cell? ⟨be, 0, none⟩ = some (.bool neg)) (he1 : w.cell? ⟨be, 1, none⟩ = some (.slice a n cp)) (hS : IsPrs w a n b off S) (hc : c.At bc 0 w) :
    Calls Try.prog 23 #[.pointer (some ⟨be, 0, none⟩), .pointer (some ⟨bc, 0, none⟩)] w (RetIq (mres neg (c.k == 5) (nms S c n)) w) := by
  have HS : Hid (IsPrs w a n b off S) := hS
  have HC : Hid (c.At bc 0 w) := hc
  clear hS hc
  go_enter Try.func23, Try.ntmps23
  go_wp2_with fail
  go_loopw [5, 13] (fun s i wr => ∃ (k q : Nat), k ≤ n ∧ i = .int .i64 k ∧ s = .int .u8 (nms S c k) ∧ wr = w.drewN q) (fun _ i _ => n - (intOf i).toNat)
  case atStart => exact ⟨0, 0, Nat.zero_le _, rfl, rfl, rfl⟩
  case round =>
    obtain ⟨k, q, hk, rfl, rfl, rfl⟩ := hrel
    have e0 : (w.drewN q).cell? ⟨be, 0, none⟩ = some (.bool neg) := he0
    have e1 : (w.drewN q).cell? ⟨be, 1, none⟩ = some (.slice a n cp) := he1
    by_cases hlt : k < n
    · have ha' := HS.out.ad (by omega)
      subst ha'
      go_wp2_with fail
      refine (names21 (S k) c b (off + k * 5) bc 0 _ (by exact (HS.out.ats k hlt).drewN q) (by exact HC.out.drewN q)).mono ?_
      rintro e w1 ⟨q1, rfl, rfl⟩
      go_wp2_with fail
      go_roundw
      case rel => exact ⟨k + 1, q + q1, by omega, by go_num, rfl, rfl⟩
      case measure => simp [intOf]; omega
    · have hkn : k = n := by omega
      subst hkn
      obtain ⟨c0, c1, c2, c3, c4⟩ := HC.out.drewN q
      have hx := nms_cases S c k
      generalize hX : nms S c k = x at hx ⊢
      cases neg with
      | true =>
        cases h5 : (c.k == 5)
        all_goals
          rcases hx with rfl | rfl | rfl | rfl | rfl | rfl | rfl | rfl
          all_goals
            go_wp2_with fail
            go_ret
            exact ⟨q, by rw [hX, h5]; rfl, rfl⟩
      | false =>
        rcases hx with rfl | rfl | rfl | rfl | rfl | rfl | rfl | rfl
        all_goals
          go_wp2_with fail
          go_ret
          exact ⟨q, by rw [hX]; rfl, rfl⟩

-- f16: ZZMatch
set_option maxHeartbeats 1000000 in
theorem match16 (neg : Bool) (a : Option Addr) (b off n cp : Nat) (S : Nat → Pr) (c : Pr) (w : World) (hn : n ≤ 65536) (hS : IsPrs w a n b off S) :
    Calls Try.prog 16 #[.bool neg, .slice a n cp, c.v] w (RetV (.int .i64 (mres neg (c.k == 5) (nms S c n))) w) := by
  have HS : Hid (IsPrs w a n b off S) := hS
  clear hS
  go_enter Try.func16, Try.ntmps16
  go_wp2_with fail
  refine (match23 neg a b off n cp S c (w.heap.size + 1) w.heap.size _ hn (by simp) (by simp) (by exact HS.out.keep (((Below.refl _ _).alloc (Nat.le_refl _) _).alloc (by simp) _)) ⟨by simp, by simp, by simp, by simp, by simp⟩).mono ?_
  rintro e w1 ⟨q, rfl, rfl⟩
  go_wp2_with fail
  go_ret
  exact ⟨rfl, below_drewN (((Below.refl _ _).alloc (Nat.le_refl _) _).alloc (by simp) _) _⟩

end Go.Proofs.Qxb6601579a
