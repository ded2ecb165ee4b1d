/-
  THE WALK OF THE LAW 'whole'.
-/
import Derived.Test.Qxb6602512aPlain
namespace Go.Proofs.Qxb6602512a
open Go.RowKit

set_option maxHeartbeats 1000000 in
theorem walk3 (t : ByteArray) (w : World) (ht : t.size ≤ maxLen) : Calls Try.prog 3 #[.string t] w fun e w' => e = .returned (.bool true) ∧ Below w.heap.size w w' := by
  have HM : Hid (t.size ≤ maxLen) := ht
  unfold maxLen at ht
  go_enter Try.func3, Try.ntmps3
  go_wp2_with fail
  refine (bytes6 t _ HM.out).mono ?_
  rintro e w1 ⟨r, rfl, rfl⟩
  cases r with
  | false =>
    go_wp2_with fail
    go_ret
    exact ⟨rfl, Below.refl _ _⟩
  | true =>
    by_cases h : t.size ≤ 1048576
    rotate_left
    · go_wp2_with fail
      go_ret
      exact ⟨rfl, Below.refl _ _⟩
    have hcs : core.size = 18 := rfl
    cases h1 : hpB t bb with
    | true =>
      -- two marks and the rest
      have hl := hpB_le h1
      have hes : (t.extract 2 t.size).size = t.size - 2 := by simp
      have hus := app_size core (t.extract 2 t.size)
      obtain ⟨x, hx⟩ : ∃ x, t.extract 2 t.size = x := ⟨_, rfl⟩
      rw [hx] at hus hes
      have HS : Hid (∀ w, Calls Try.prog 13 #[.string t] w (Split bb x w)) := fun w => by
        have hsp := split_short t (core ++ x) w (by omega) h1 (by rw [hx]) (by omega) (by omega) (core_full x) (core_b1 x) (hp_app core x)
        rwa [← hcs, cut_app core x] at hsp
      have HL : Hid (∀ w, Calls Try.prog 9 #[.string t] w fun e w' => e = .returned (.string (core ++ x)) ∧ w = w') := fun w => by
        have hlong := long9_hit t w (by omega) h1
        rwa [hx] at hlong
      clear hx
      go_wp2_with fail
      refine (zz7 t bb x _ HS.out).mono ?_
      rintro e w1 ⟨rfl, hB⟩
      have HB : Hid (Below w.heap.size w w1) := hB
      clear hB
      go_wp2_with fail
      refine (written8_core x _ (by omega)).mono ?_
      rintro e w2 ⟨rfl, rfl⟩
      go_wp2_with fail
      refine (HL.out _).mono ?_
      rintro e w2 ⟨rfl, rfl⟩
      go_wp2_with fail
      go_ret
      exact ⟨rfl, HB.out⟩
    | false =>
      have HL : Hid (∀ w, Calls Try.prog 9 #[.string t] w fun e w' => e = .returned (.string t) ∧ w = w') := fun w => long9_miss t w (by omega) h1
      cases h2 : t.toList.isEmpty with
      | true =>
        have ht0 := nil_of h2
        subst ht0
        have HS : Hid (∀ w, Calls Try.prog 13 #[.string ⟨#[]⟩] w (Split ⟨#[]⟩ ⟨#[]⟩ w)) := fun w => split_empty _ w (by omega) h1 h2
        go_wp2_with fail
        refine (zz7 ⟨#[]⟩ ⟨#[]⟩ ⟨#[]⟩ _ HS.out).mono ?_
        rintro e w1 ⟨rfl, hB⟩
        have HB : Hid (Below w.heap.size w w1) := hB
        clear hB
        go_wp2_with fail
        refine (written8_none ⟨#[]⟩ _).mono ?_
        rintro e w2 ⟨rfl, rfl⟩
        go_wp2_with fail
        refine (HL.out _).mono ?_
        rintro e w2 ⟨rfl, rfl⟩
        go_wp2_with fail
        refine (pre10 ⟨#[]⟩ b1 _ (by decide) (by decide)).mono ?_
        rintro e w2 ⟨rfl, rfl⟩
        rw [show hpB ⟨#[]⟩ b1 = false from rfl]
        go_wp2_with fail
        refine (pre10 ⟨#[]⟩ core _ (by decide) (by decide)).mono ?_
        rintro e w2 ⟨rfl, rfl⟩
        rw [show hpB ⟨#[]⟩ core = false from rfl]
        go_wp2_with fail
        go_ret
        exact ⟨rfl, HB.out⟩
      | false =>
        cases h3 : hpB t b1 with
        | true =>
          have HA : Hid (b1 ++ t.extract 1 t.size = t) := app_cut h3
          have hes : (t.extract 1 t.size).size = t.size - 1 := by simp
          have HS : Hid (∀ w, Calls Try.prog 13 #[.string t] w (Split b1 (t.extract 1 t.size) w)) := fun w => split_bang t w (by omega) h1 h2 h3
          obtain ⟨x, hx⟩ : ∃ x, t.extract 1 t.size = x := ⟨_, rfl⟩
          rw [hx] at hes HS HA
          clear hx
          go_wp2_with fail
          refine (zz7 t b1 x _ HS.out).mono ?_
          rintro e w1 ⟨rfl, hB⟩
          have HB : Hid (Below w.heap.size w w1) := hB
          clear hB
          go_wp2_with fail
          refine (written8_bang x _ (by omega)).mono ?_
          rintro e w2 ⟨rfl, rfl⟩
          rw [HA.out]
          go_wp2_with fail
          refine (HL.out _).mono ?_
          rintro e w2 ⟨rfl, rfl⟩
          go_wp2_with fail
          go_ret
          exact ⟨rfl, HB.out⟩
        | false =>
          cases h4 : hpB t core with
          | true =>
            have HA : Hid (core ++ t.extract 18 t.size = t) := app_cut h4
            have hes : (t.extract 18 t.size).size = t.size - 18 := by simp
            have HS : Hid (∀ w, Calls Try.prog 13 #[.string t] w (Split bb (t.extract 18 t.size) w)) := fun w => split_long t w (by omega) h1 h2 h3 h4
            obtain ⟨x, hx⟩ : ∃ x, t.extract 18 t.size = x := ⟨_, rfl⟩
            rw [hx] at hes HS HA
            clear hx
            go_wp2_with fail
            refine (zz7 t bb x _ HS.out).mono ?_
            rintro e w1 ⟨rfl, hB⟩
            have HB : Hid (Below w.heap.size w w1) := hB
            clear hB
            go_wp2_with fail
            refine (written8_core x _ (by omega)).mono ?_
            rintro e w2 ⟨rfl, rfl⟩
            rw [HA.out]
            go_wp2_with fail
            refine (HL.out _).mono ?_
            rintro e w2 ⟨rfl, rfl⟩
            go_wp2_with fail
            go_ret
            exact ⟨rfl, HB.out⟩
          | false =>
            have HS : Hid (∀ w, Calls Try.prog 13 #[.string t] w (Split ⟨#[]⟩ t w)) := fun w => split_none t w (by omega) h1 h2 h3 h4
            go_wp2_with fail
            refine (zz7 t ⟨#[]⟩ t _ HS.out).mono ?_
            rintro e w1 ⟨rfl, hB⟩
            have HB : Hid (Below w.heap.size w w1) := hB
            clear hB
            go_wp2_with fail
            refine (written8_none t _).mono ?_
            rintro e w2 ⟨rfl, rfl⟩
            go_wp2_with fail
            refine (HL.out _).mono ?_
            rintro e w2 ⟨rfl, rfl⟩
            go_wp2_with fail
            refine (pre10 t b1 _ (by omega) (by decide)).mono ?_
            rintro e w2 ⟨rfl, rfl⟩
            rw [h3]
            go_wp2_with fail
            refine (pre10 t core _ (by omega) (by decide)).mono ?_
            rintro e w2 ⟨rfl, rfl⟩
            rw [h4]
            go_wp2_with fail
            go_ret
            exact ⟨rfl, HB.out⟩

end Go.Proofs.Qxb6602512a
