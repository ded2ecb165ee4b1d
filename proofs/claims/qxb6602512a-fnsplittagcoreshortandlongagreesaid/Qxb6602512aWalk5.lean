/-
  THE WALK OF THE LAW 'short and long agree'.
-/
import Derived.Test.Qxb6602512aPlain
namespace Go.Proofs.Qxb6602512a
open Go.RowKit

/-- The long form splits into two marks and the rest. -/
theorem zz_long (x : ByteArray) (w : World) (hx : x.size ≤ 1048576) : Calls Try.prog 7 #[.string (core ++ x)] w (Pair bb x w) := by
  have hs := app_size core x
  have hc : core.size = 18 := rfl
  refine zz7 _ _ _ w (fun w => ?_)
  have := split_long (core ++ x) w (by omega) (core_bb x) (core_full x) (core_b1 x) (hp_app core x)
  rwa [← hc, cut_app core x] at this

/-- The short form splits into two marks and the rest. -/
theorem zz_short (x : ByteArray) (w : World) (hx : x.size ≤ 1048576) : Calls Try.prog 7 #[.string (bb ++ x)] w (Pair bb x w) := by
  have hs := app_size core x
  have hs2 := app_size bb x
  have hc : core.size = 18 := rfl
  have hb : bb.size = 2 := rfl
  refine zz7 _ _ _ w (fun w => ?_)
  have he : (bb ++ x).extract 2 (bb ++ x).size = x := cut_app bb x
  have := split_short (bb ++ x) (core ++ x) w (by omega) (hp_app bb x) (by rw [he]) (by omega) (by omega) (core_full x) (core_b1 x) (hp_app core x)
  rwa [← hc, cut_app core x] at this

set_option maxHeartbeats 400000 in
theorem walk5 (x : ByteArray) (w : World) (hx : x.size ≤ maxLen) : Calls Try.prog 5 #[.string x] w fun e w' => e = .returned (.bool true) ∧ Below w.heap.size w w' := by
  have HM : Hid (x.size ≤ maxLen) := hx
  have hb : bb.size = 2 := rfl
  have hcs : core.size = 18 := rfl
  unfold maxLen at hx
  go_enter Try.func5, Try.ntmps5
  go_wp2_with fail
  refine (bytes12 x _ HM.out).mono ?_
  rintro e w1 ⟨r, rfl, rfl⟩
  cases r with
  | false =>
    go_wp2_with fail
    go_ret
    exact ⟨rfl, Below.refl _ _⟩
  | true =>
    by_cases h : x.size ≤ 1048576
    · go_wp2_with fail
      refine (zz_short x _ h).mono ?_
      rintro e w1 ⟨rfl, hB1⟩
      have HB1 : Hid (Below w.heap.size w w1) := hB1
      clear hB1
      go_wp2_with fail
      refine (zz_long x _ h).mono ?_
      rintro e w2 ⟨rfl, hB2⟩
      have HB2 : Hid (Below w.heap.size w w2) := HB1.out.trans (hB2.mono HB1.out.size)
      clear hB2
      go_wp2_with fail
      go_ret
      exact ⟨by simp, HB2.out⟩
    · go_wp2_with fail
      go_ret
      exact ⟨rfl, Below.refl _ _⟩

end Go.Proofs.Qxb6602512a
