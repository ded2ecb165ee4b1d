/-
  THE WALK OF THE LAW 'match answers as the model'.
-/
import Derived.Test.Qxb6601579aModel18
import Derived.Test.Qxb6601579aCopy
namespace Go.Proofs.Qxb6601579a
open Go.RowKit

/-- Where the orders of the last statement meet. -/
def Meet5 (w : World) (s : Value) (wx : World) : Prop := s = .bool true ∧ Below w.heap.size w wx

set_option maxRecDepth 10000000 in
set_option maxHeartbeats 4000000 in
theorem walk5 (neg : Bool) (a : Option Addr) (b off n cp : Nat) (S : Nat → Pr) (c : Pr) (w : World) (hn : n ≤ maxLen) (hS : IsPrs w a n b off S) (hok : ∀ j, j < n → (S j).ok) (hc : c.ok) :
    Calls Try.prog 5 #[.bool neg, .slice a n cp, c.v] w fun e w' => e = .returned (.bool true) ∧ Below w.heap.size w w' := by
  have HNN : Hid (n ≤ maxLen) := hn
  have HS : Hid (IsPrs w a n b off S) := hS
  have HO : Hid (∀ j, j < n → (S j).ok) := hok
  have HK : Hid c.ok := hc
  clear hn hS hok hc
  go_enter Try.func5, Try.ntmps5
  go_wp2_with fail
  refine (bytes13 neg a b off n cp S c _ HNN.out (by exact HS.out.keep ((Below.refl _ _).alloc (Nat.le_refl _) _)) HO.out HK.out).mono ?_
  rintro e w1 ⟨r, rfl, hB⟩
  have HB : Hid (Below w.heap.size w w1) := ((Below.refl _ _).alloc (Nat.le_refl _) _).trans (hB.mono (by simp))
  have HC : Hid (c.At w.heap.size 0 w1) := Pr.At.keep (W := w.alloc (c.o 23)) ⟨by simp, by simp, by simp, by simp, by simp⟩ hB
  clear hB
  cases r with
  | false =>
    go_wp2_with fail
    go_ret
    exact ⟨rfl, HB.out⟩
  | true =>
    obtain ⟨c0, c1, c2, c3, c4⟩ := HC.out
    go_wp2_with fail
    refine (size14 a b off n cp S c _ HNN.out (by exact HS.out.keep HB.out) HO.out HK.out).mono ?_
    rintro e w2 ⟨z, rfl, hB2, hz⟩
    have HB2 : Hid (Below w.heap.size w w2) := HB.out.trans (hB2.mono HB.out.size)
    have HC2 : Hid (c.At w.heap.size 0 w2) := HC.out.keep hB2
    have HZ : Hid (z ≤ 1048576 → n ≤ 65536) := hz
    clear hB2 hz c0 c1 c2 c3 c4 HB HC
    by_cases hgt : z ≤ 1048576
    · have hn := HZ.out hgt
      have hd : decide ((1048576 : Int) < z) = false := decide_eq_false (by omega)
      clear hgt
      have HN : Hid (n ≤ 65536) := hn
      clear hn
      go_wp2_with fail
      refine (copy15 a b off n cp S _ HN.out (by exact HS.out.keep HB2.out)).mono ?_
      rintro e w3 ⟨a3, g3, cp3, rfl, hS3, hB3⟩
      have HB3 : Hid (Below w.heap.size w w3) := HB2.out.trans (hB3.mono HB2.out.size)
      have HC3 : Hid (c.At w.heap.size 0 w3) := HC2.out.keep hB3
      have HS3 : Hid (IsPrs w3 a3 n g3 0 S) := hS3
      clear hB3 hS3 HB2 HC2
      obtain ⟨c0, c1, c2, c3, c4⟩ := HC3.out
      go_upto_region 6 with (fail)
      go_cut [6] (fun s6 wx => Meet5 w s6 wx)
      case first =>
        go_region_with (first | (go_at_call 17; refine (zzs17 a3 g3 0 n cp3 S _ HN.out (by exact HS3.out.drew)).mono ?_; rintro e w4 ⟨a4, g4, cp4, rfl, hS4, hB4⟩; have HB4 : Hid (Below w.heap.size w w4) := HB3.out.drew.trans (hB4.mono HB3.out.size); have HC4 : Hid (c.At w.heap.size 0 w4) := HC3.out.drew.keep hB4; have HS4 : Hid (IsPrs w4 a4 n g4 0 S) := hS4; have HT4 : Hid (IsPrs w4 a3 n g3 0 S) := HS3.out.drew.keep hB4; clear hB4 hS4; obtain ⟨c0, c1, c2, c3, c4⟩ := HC4.out) | (go_at_call 11; refine (zz11 c.k c.pa c.ac c.na c.se _).mono ?_; rintro e w5 ⟨rfl, hB5⟩; have HB5 : Hid (Below w.heap.size w w5) := HB4.out.trans (hB5.mono HB4.out.size); have HC5 : Hid (c.At w.heap.size 0 w5) := HC4.out.keep hB5; have HS5 : Hid (IsPrs w5 a4 n g4 0 S) := HS4.out.keep hB5; have HT5 : Hid (IsPrs w5 a3 n g3 0 S) := HT4.out.keep hB5; clear hB5; obtain ⟨c0, c1, c2, c3, c4⟩ := HC5.out) | (go_at_call 16; refine (match16 neg a4 g4 0 n cp4 S c _ HN.out (by exact HS5.out)).mono ?_; rintro e w6 ⟨rfl, hB6⟩; have HB6 : Hid (Below w.heap.size w w6) := HB5.out.trans (hB6.mono HB5.out.size); have HC6 : Hid (c.At w.heap.size 0 w6) := HC5.out.keep hB6; have HT6 : Hid (IsPrs w6 a3 n g3 0 S) := HT5.out.keep hB6; clear hB6; obtain ⟨c0, c1, c2, c3, c4⟩ := HC6.out) | (go_at_call 18; refine (model18 neg a3 g3 0 n cp3 S c _ HN.out (by exact HT6.out)).mono ?_; rintro e w7 ⟨rfl, hB7⟩; have HB7 : Hid (Below w.heap.size w w7) := HB6.out.trans (hB7.mono HB6.out.size); clear hB7))
        all_goals
          go_wp2_with fail
          go_meet
          case rel => exact ⟨by first | rfl | simp, HB7.out⟩
      case rest =>
        obtain ⟨rfl, HB4⟩ := hcut
        go_wp2_with fail
        go_ret
        exact ⟨rfl, HB4⟩
    · have hd : decide ((1048576 : Int) < z) = true := decide_eq_true (by omega)
      clear hgt
      go_wp2_with fail
      go_ret
      exact ⟨rfl, HB2.out⟩

end Go.Proofs.Qxb6601579a
