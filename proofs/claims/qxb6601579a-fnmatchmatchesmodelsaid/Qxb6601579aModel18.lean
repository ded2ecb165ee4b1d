/-
  THE WALK OF 'modelMatch'.
-/
import Derived.Test.Qxb6601579aMatch
import Derived.Test.Qxb6601579aModel24
namespace Go.Proofs.Qxb6601579a
open Go.RowKit

def bitA (x : Int) : Bool := x == 1 || x == 3 || x == 5 || x == 7
def bitR (x : Int) : Bool := x == 2 || x == 3 || x == 6 || x == 7
def bitS (x : Int) : Bool := x == 4 || x == 5 || x == 6 || x == 7

theorem lev_or {x m : Int} (hx : x = 0 ∨ x = 1 ∨ x = 2 ∨ x = 3 ∨ x = 4 ∨ x = 5 ∨ x = 6 ∨ x = 7) (hm : m = 0 ∨ m = 1 ∨ m = 2 ∨ m = 4 ∨ m = 7) :
    lev (bits .or .u8 x m) = if lev x < lev m then lev m else lev x := by
  rcases hx with rfl | rfl | rfl | rfl | rfl | rfl | rfl | rfl <;> rcases hm with rfl | rfl | rfl | rfl | rfl <;> decide
theorem bitA_or {x m : Int} (hx : x = 0 ∨ x = 1 ∨ x = 2 ∨ x = 3 ∨ x = 4 ∨ x = 5 ∨ x = 6 ∨ x = 7) (hm : m = 0 ∨ m = 1 ∨ m = 2 ∨ m = 4 ∨ m = 7) :
    bitA (bits .or .u8 x m) = (bitA m || bitA x) := by
  rcases hx with rfl | rfl | rfl | rfl | rfl | rfl | rfl | rfl <;> rcases hm with rfl | rfl | rfl | rfl | rfl <;> decide
theorem bitR_or {x m : Int} (hx : x = 0 ∨ x = 1 ∨ x = 2 ∨ x = 3 ∨ x = 4 ∨ x = 5 ∨ x = 6 ∨ x = 7) (hm : m = 0 ∨ m = 1 ∨ m = 2 ∨ m = 4 ∨ m = 7) :
    bitR (bits .or .u8 x m) = (bitR m || bitR x) := by
  rcases hx with rfl | rfl | rfl | rfl | rfl | rfl | rfl | rfl <;> rcases hm with rfl | rfl | rfl | rfl | rfl <;> decide
theorem bitS_or {x m : Int} (hx : x = 0 ∨ x = 1 ∨ x = 2 ∨ x = 3 ∨ x = 4 ∨ x = 5 ∨ x = 6 ∨ x = 7) (hm : m = 0 ∨ m = 1 ∨ m = 2 ∨ m = 4 ∨ m = 7) :
    bitS (bits .or .u8 x m) = (bitS m || bitS x) := by
  rcases hx with rfl | rfl | rfl | rfl | rfl | rfl | rfl | rfl <;> rcases hm with rfl | rfl | rfl | rfl | rfl <;> decide
theorem full_bits {x : Int} (hx : x = 0 ∨ x = 1 ∨ x = 2 ∨ x = 3 ∨ x = 4 ∨ x = 5 ∨ x = 6 ∨ x = 7) (c5 : Bool) :
    full c5 x = if bitA x && bitS x && (bitR x || !c5) then 0 else 3 := by
  rcases hx with rfl | rfl | rfl | rfl | rfl | rfl | rfl | rfl <;> cases c5 <;> decide
theorem lev_bd (x : Int) : 0 ≤ lev x ∧ lev x ≤ 3 := by
  unfold lev
  split
  · omega
  · split
    · omega
    · split <;> omega

/-- Where the orders of the statement that draws meet. -/
def Meet18 (p c : Pr) (w : World) (s : Value) (wx : World) : Prop := s = .int .u8 (nm p c) ∧ c.At w.heap.size 0 wx ∧ Below w.heap.size w wx

-- f18: modelMatch, not denied
set_option maxHeartbeats 4000000 in
theorem model18_f (a : Option Addr) (b off n cp : Nat) (S : Nat → Pr) (c : Pr) (w : World) (hn : n ≤ 65536) (hS : IsPrs w a n b off S) :
    Calls Try.prog 18 #[.bool false, .slice a n cp, c.v] w (RetV (.int .i64 (lev (nms S c n))) w) := by
  have HS : Hid (IsPrs w a n b off S) := hS
  clear hS
  go_enter Try.func18, Try.ntmps18
  go_wp2_with fail
  go_loopg [7, 8] n (fun g s7 s8 wr => ∃ k : Nat, k ≤ n ∧ n - k ≤ g ∧ s8 = .int .i64 k ∧ s7 = .int .i64 (lev (nms S c k)) ∧ Hid (Below w.heap.size w wr) ∧ Hid (c.At w.heap.size 0 wr))
  case atStart => exact ⟨0, Nat.zero_le _, by omega, rfl, rfl, (Below.refl _ _).alloc (Nat.le_refl _) _, ⟨by simp, by simp, by simp, by simp, by simp⟩⟩
  case round =>
    obtain ⟨k, hk, hg, rfl, rfl, HB, HC⟩ := hrel
    by_cases hlt : k < n
    · have ha' := HS.out.ad (by omega)
      subst ha'
      obtain ⟨g0, g1, g2, g3, g4⟩ := (HS.out.keep HB.out).ats k hlt
      obtain ⟨c0, c1, c2, c3, c4⟩ := HC.out
      go_upto_region 6 with (fail)
      go_cut [9] (fun s9 wx => Meet18 (S k) c w s9 wx)
      case first =>
        go_region_with (go_at_call 24; refine (names24 (S k) c _).mono ?_; rintro e w2 ⟨rfl, hB2⟩; have HC2 : Hid (c.At w.heap.size 0 w2) := HC.out.drew.keep hB2; have HB2 : Hid (Below w.heap.size w w2) := HB.out.drew.trans (hB2.mono HB.out.size); clear hB2)
        all_goals
          go_wp2_with fail
          go_meet
          case rel => exact ⟨rfl, HC2.out, HB2.out⟩
      case rest =>
        obtain ⟨rfl, HC2', HB2'⟩ := hcut
        have HB2 : Hid (Below w.heap.size w wc) := HB2'
        have HC2 : Hid (c.At w.heap.size 0 wc) := HC2'
        clear HB2' HC2' g0 g1 g2 g3 g4 c0 c1 c2 c3 c4 HB HC
        have HX : Hid (nms S c k = 0 ∨ nms S c k = 1 ∨ nms S c k = 2 ∨ nms S c k = 3 ∨ nms S c k = 4 ∨ nms S c k = 5 ∨ nms S c k = 6 ∨ nms S c k = 7) := nms_cases S c k
        have HM : Hid (nm (S k) c = 0 ∨ nm (S k) c = 1 ∨ nm (S k) c = 2 ∨ nm (S k) c = 4 ∨ nm (S k) c = 7) := nm_cases (S k) c
        obtain ⟨l0, l3⟩ := lev_bd (nms S c k)
        generalize hL : lev (nms S c k) = L at l0 l3 ⊢
        have HL : Hid (lev (nms S c k) = L) := hL
        clear hL
        rcases nm_cases (S k) c with hm | hm | hm | hm | hm
        · have HN : Hid (nm (S k) c = 0) := hm
          rw [hm]
          clear hm
          by_cases hgt : L < 0
          · exact absurd hgt (by omega)
          · have HG : Hid (lev (nms S c (k + 1)) = L) := by
              show lev (bits .or .u8 (nms S c k) (nm (S k) c)) = L
              rw [lev_or HX.out HM.out, HL.out, HN.out]
              exact if_neg hgt
            go_wp2_with fail
            go_roundg (n - (k + 1))
            case measure => omega
            case rel => exact ⟨k + 1, by omega, by omega, by go_num, by rw [HG.out], HB2, HC2⟩
        · have HN : Hid (nm (S k) c = 1) := hm
          rw [hm]
          clear hm
          by_cases hgt : L < 1
          · have HG : Hid (lev (nms S c (k + 1)) = 1) := by
              show lev (bits .or .u8 (nms S c k) (nm (S k) c)) = 1
              rw [lev_or HX.out HM.out, HL.out, HN.out]
              exact if_pos hgt
            go_wp2_with fail
            go_roundg (n - (k + 1))
            case measure => omega
            case rel => exact ⟨k + 1, by omega, by omega, by go_num, by rw [HG.out], HB2, HC2⟩
          · have HG : Hid (lev (nms S c (k + 1)) = L) := by
              show lev (bits .or .u8 (nms S c k) (nm (S k) c)) = L
              rw [lev_or HX.out HM.out, HL.out, HN.out]
              exact if_neg hgt
            go_wp2_with fail
            go_roundg (n - (k + 1))
            case measure => omega
            case rel => exact ⟨k + 1, by omega, by omega, by go_num, by rw [HG.out], HB2, HC2⟩
        · have HN : Hid (nm (S k) c = 2) := hm
          rw [hm]
          clear hm
          by_cases hgt : L < 2
          · have HG : Hid (lev (nms S c (k + 1)) = 2) := by
              show lev (bits .or .u8 (nms S c k) (nm (S k) c)) = 2
              rw [lev_or HX.out HM.out, HL.out, HN.out]
              exact if_pos hgt
            go_wp2_with fail
            go_roundg (n - (k + 1))
            case measure => omega
            case rel => exact ⟨k + 1, by omega, by omega, by go_num, by rw [HG.out], HB2, HC2⟩
          · have HG : Hid (lev (nms S c (k + 1)) = L) := by
              show lev (bits .or .u8 (nms S c k) (nm (S k) c)) = L
              rw [lev_or HX.out HM.out, HL.out, HN.out]
              exact if_neg hgt
            go_wp2_with fail
            go_roundg (n - (k + 1))
            case measure => omega
            case rel => exact ⟨k + 1, by omega, by omega, by go_num, by rw [HG.out], HB2, HC2⟩
        · have HN : Hid (nm (S k) c = 4) := hm
          rw [hm]
          clear hm
          by_cases hgt : L < 3
          · have HG : Hid (lev (nms S c (k + 1)) = 3) := by
              show lev (bits .or .u8 (nms S c k) (nm (S k) c)) = 3
              rw [lev_or HX.out HM.out, HL.out, HN.out]
              exact if_pos hgt
            go_wp2_with fail
            go_roundg (n - (k + 1))
            case measure => omega
            case rel => exact ⟨k + 1, by omega, by omega, by go_num, by rw [HG.out], HB2, HC2⟩
          · have HG : Hid (lev (nms S c (k + 1)) = L) := by
              show lev (bits .or .u8 (nms S c k) (nm (S k) c)) = L
              rw [lev_or HX.out HM.out, HL.out, HN.out]
              exact if_neg hgt
            go_wp2_with fail
            go_roundg (n - (k + 1))
            case measure => omega
            case rel => exact ⟨k + 1, by omega, by omega, by go_num, by rw [HG.out], HB2, HC2⟩
        · have HN : Hid (nm (S k) c = 7) := hm
          rw [hm]
          clear hm
          by_cases hgt : L < 3
          · have HG : Hid (lev (nms S c (k + 1)) = 3) := by
              show lev (bits .or .u8 (nms S c k) (nm (S k) c)) = 3
              rw [lev_or HX.out HM.out, HL.out, HN.out]
              exact if_pos hgt
            go_wp2_with fail
            go_roundg (n - (k + 1))
            case measure => omega
            case rel => exact ⟨k + 1, by omega, by omega, by go_num, by rw [HG.out], HB2, HC2⟩
          · have HG : Hid (lev (nms S c (k + 1)) = L) := by
              show lev (bits .or .u8 (nms S c k) (nm (S k) c)) = L
              rw [lev_or HX.out HM.out, HL.out, HN.out]
              exact if_neg hgt
            go_wp2_with fail
            go_roundg (n - (k + 1))
            case measure => omega
            case rel => exact ⟨k + 1, by omega, by omega, by go_num, by rw [HG.out], HB2, HC2⟩
    · have hkn : k = n := by omega
      go_wp2_with fail
      go_ret
      exact ⟨by rw [hkn]; rfl, HB.out⟩

-- f18: modelMatch, denied
set_option maxHeartbeats 4000000 in
theorem model18_t (a : Option Addr) (b off n cp : Nat) (S : Nat → Pr) (c : Pr) (w : World) (hn : n ≤ 65536) (hS : IsPrs w a n b off S) :
    Calls Try.prog 18 #[.bool true, .slice a n cp, c.v] w (RetV (.int .i64 (full (c.k == 5) (nms S c n))) w) := by
  have HS : Hid (IsPrs w a n b off S) := hS
  clear hS
  go_enter Try.func18, Try.ntmps18
  go_wp2_with fail
  go_loopg [11, 12, 13, 14] n (fun g s11 s12 s13 s14 wr => ∃ k : Nat, k ≤ n ∧ n - k ≤ g ∧ s14 = .int .i64 k ∧ s11 = .bool (bitA (nms S c k)) ∧ s12 = .bool (bitS (nms S c k)) ∧ s13 = .bool (bitR (nms S c k)) ∧ Hid (Below w.heap.size w wr) ∧ Hid (c.At w.heap.size 0 wr))
  case atStart => exact ⟨0, Nat.zero_le _, by omega, rfl, rfl, rfl, rfl, (Below.refl _ _).alloc (Nat.le_refl _) _, ⟨by simp, by simp, by simp, by simp, by simp⟩⟩
  case round =>
    obtain ⟨k, hk, hg, rfl, rfl, rfl, rfl, HB, HC⟩ := hrel
    by_cases hlt : k < n
    · have ha' := HS.out.ad (by omega)
      subst ha'
      obtain ⟨g0, g1, g2, g3, g4⟩ := (HS.out.keep HB.out).ats k hlt
      obtain ⟨c0, c1, c2, c3, c4⟩ := HC.out
      go_upto_region 23 with (fail)
      go_cut [15] (fun s15 wx => Meet18 (S k) c w s15 wx)
      case first =>
        go_region_with (go_at_call 24; refine (names24 (S k) c _).mono ?_; rintro e w2 ⟨rfl, hB2⟩; have HC2 : Hid (c.At w.heap.size 0 w2) := HC.out.drew.keep hB2; have HB2 : Hid (Below w.heap.size w w2) := HB.out.drew.trans (hB2.mono HB.out.size); clear hB2)
        all_goals
          go_wp2_with fail
          go_meet
          case rel => exact ⟨rfl, HC2.out, HB2.out⟩
      case rest =>
        obtain ⟨rfl, HC2', HB2'⟩ := hcut
        have HB2 : Hid (Below w.heap.size w wc) := HB2'
        have HC2 : Hid (c.At w.heap.size 0 wc) := HC2'
        clear HB2' HC2' g0 g1 g2 g3 g4 c0 c1 c2 c3 c4 HB HC
        have eA : bitA (nms S c (k + 1)) = (bitA (nm (S k) c) || bitA (nms S c k)) := bitA_or (nms_cases S c k) (nm_cases (S k) c)
        have eR : bitR (nms S c (k + 1)) = (bitR (nm (S k) c) || bitR (nms S c k)) := bitR_or (nms_cases S c k) (nm_cases (S k) c)
        have eS : bitS (nms S c (k + 1)) = (bitS (nm (S k) c) || bitS (nms S c k)) := bitS_or (nms_cases S c k) (nm_cases (S k) c)
        rcases nm_cases (S k) c with hm | hm | hm | hm | hm
        all_goals
          rw [hm] at eA eR eS ⊢
          have EA : Hid (bitA (nms S c (k + 1)) = _) := eA
          have ER : Hid (bitR (nms S c (k + 1)) = _) := eR
          have ES : Hid (bitS (nms S c (k + 1)) = _) := eS
          clear hm eA eR eS
          go_wp2_with fail
          go_roundg (n - (k + 1))
          case measure => omega
          case rel => exact ⟨k + 1, by omega, by omega, by go_num, by rw [EA.out]; rfl, by rw [ES.out]; rfl, by rw [ER.out]; rfl, HB2, HC2⟩
    · have hkn : k = n := by omega
      have HF : Hid (full (c.k == 5) (nms S c k) = if bitA (nms S c k) && bitS (nms S c k) && (bitR (nms S c k) || !(c.k == 5)) then 0 else 3) := full_bits (nms_cases S c k) _
      obtain ⟨c0, c1, c2, c3, c4⟩ := HC.out
      cases hA : bitA (nms S c k)
      · go_wp2_with fail
        go_ret
        exact ⟨by rw [← hkn, HF.out, hA]; rfl, HB.out⟩
      · cases hS : bitS (nms S c k)
        · go_wp2_with fail
          go_ret
          exact ⟨by rw [← hkn, HF.out, hA, hS]; rfl, HB.out⟩
        · cases hR : bitR (nms S c k)
          · cases h5 : (c.k == 5)
            all_goals
              go_wp2_with fail
              go_ret
              exact ⟨by rw [← hkn, HF.out, hA, hS, hR, h5]; rfl, HB.out⟩
          · go_wp2_with fail
            go_ret
            exact ⟨by rw [← hkn, HF.out, hA, hS, hR]; rfl, HB.out⟩

theorem model18 (neg : Bool) (a : Option Addr) (b off n cp : Nat) (S : Nat → Pr) (c : Pr) (w : World) (hn : n ≤ 65536) (hS : IsPrs w a n b off S) :
    Calls Try.prog 18 #[.bool neg, .slice a n cp, c.v] w (RetV (.int .i64 (mres neg (c.k == 5) (nms S c n))) w) := by
  cases neg
  · exact model18_f a b off n cp S c w hn hS
  · exact model18_t a b off n cp S c w hn hS

end Go.Proofs.Qxb6601579a
