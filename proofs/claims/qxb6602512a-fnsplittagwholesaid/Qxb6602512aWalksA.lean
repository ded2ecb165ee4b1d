/-
  THE WALKS: prefixes, 'splitTag', 'written', 'longForm'.
-/
import Derived.Test.Qxb6602512aRows
import Derived.WalkKit
import Derived.WalkSpells
import Derived.WalkLawsBesides
import Derived.Deep.QuietTactic
import Derived.BigQuiet
import Derived.Lib.Strings
namespace Go.Proofs.Qxb6602512a
open Go.RowKit

/-- Does s begin with p? -/
def hpB (s p : ByteArray) : Bool := Lib.hasPrefix s.data.toList p.data.toList

theorem hpB_raw (s p : ByteArray) (h : p.size ≤ s.size) : ((s.extract 0 p.size).toList == p.toList) = hpB s p := by
  unfold hpB
  rw [← Lib.hasPrefix_raw]
  simp [h]
theorem hpB_short (s p : ByteArray) (h : ¬ p.size ≤ s.size) : hpB s p = false := by
  unfold hpB
  rw [← Lib.hasPrefix_raw]
  simp [h]

set_option maxHeartbeats 400000 in
theorem pre17 (s p : ByteArray) (w : World) (_hs : s.size ≤ 4194304) (_hp : p.size ≤ 4194304) : Calls Try.prog 17 #[.string s, .string p] w fun e w' => e = .returned (.bool (hpB s p)) ∧ w = w' := by
  by_cases h : p.size ≤ s.size
  · have hr := hpB_raw s p h
    generalize hpB s p = r at *
    go_enter Try.func17, Try.ntmps17
    go_wp2
    go_ret
    exact ⟨rfl, rfl⟩
  · rw [hpB_short s p h]
    go_enter Try.func17, Try.ntmps17
    go_wp2
    go_ret
    exact ⟨rfl, rfl⟩

set_option maxHeartbeats 400000 in
theorem pre10 (s p : ByteArray) (w : World) (_hs : s.size ≤ 4194304) (_hp : p.size ≤ 4194304) : Calls Try.prog 10 #[.string s, .string p] w fun e w' => e = .returned (.bool (hpB s p)) ∧ w = w' := by
  by_cases h : p.size ≤ s.size
  · have hr := hpB_raw s p h
    generalize hpB s p = r at *
    go_enter Try.func10, Try.ntmps10
    go_wp2
    go_ret
    exact ⟨rfl, rfl⟩
  · rw [hpB_short s p h]
    go_enter Try.func10, Try.ntmps10
    go_wp2
    go_ret
    exact ⟨rfl, rfl⟩

set_option maxHeartbeats 400000 in
theorem pre15 (s p : ByteArray) (w : World) (hs : s.size ≤ 4194304) (hp : p.size ≤ 4194304) : Calls Try.prog 15 #[.string s, .string p] w fun e w' => e = .returned (.bool (hpB s p)) ∧ w = w' := by
  go_enter Try.func15, Try.ntmps15
  go_wp2_with fail
  refine (pre17 s p _ hs hp).mono ?_
  rintro e w1 ⟨rfl, rfl⟩
  go_wp2_with fail
  go_ret
  exact ⟨rfl, rfl⟩

theorem hpB_le {s p : ByteArray} (h : hpB s p = true) : p.size ≤ s.size := by
  by_cases h' : p.size ≤ s.size
  · exact h'
  · rw [hpB_short s p h'] at h; cases h

set_option maxHeartbeats 400000 in
theorem cut16_hit (s p : ByteArray) (w : World) (hs : s.size ≤ 4194304) (hp : p.size ≤ 4194304) (h : hpB s p = true) : Calls Try.prog 16 #[.string s, .string p] w fun e w' => e = .returned (.tuple #[.string (s.extract p.size s.size), .bool true]) ∧ w = w' := by
  have hl := hpB_le h
  go_enter Try.func16, Try.ntmps16
  go_wp2_with fail
  refine (pre17 s p _ hs hp).mono ?_
  rintro e w1 ⟨rfl, rfl⟩
  rw [h]
  go_wp2_with fail
  go_ret2
  exact ⟨rfl, rfl⟩
set_option maxHeartbeats 400000 in
theorem cut16_miss (s p : ByteArray) (w : World) (hs : s.size ≤ 4194304) (hp : p.size ≤ 4194304) (h : hpB s p = false) : Calls Try.prog 16 #[.string s, .string p] w fun e w' => e = .returned (.tuple #[.string s, .bool false]) ∧ w = w' := by
  go_enter Try.func16, Try.ntmps16
  go_wp2_with fail
  refine (pre17 s p _ hs hp).mono ?_
  rintro e w1 ⟨rfl, rfl⟩
  rw [h]
  go_wp2_with fail
  go_ret2
  exact ⟨rfl, rfl⟩
set_option maxHeartbeats 400000 in
theorem cut14_hit (s p : ByteArray) (w : World) (hs : s.size ≤ 4194304) (hp : p.size ≤ 4194304) (h : hpB s p = true) : Calls Try.prog 14 #[.string s, .string p] w fun e w' => e = .returned (.tuple #[.string (s.extract p.size s.size), .bool true]) ∧ w = w' := by
  go_enter Try.func14, Try.ntmps14
  go_wp2_with fail
  refine (cut16_hit s p _ hs hp h).mono ?_
  rintro e w1 ⟨rfl, rfl⟩
  go_wp2_with fail
  go_ret2
  exact ⟨rfl, rfl⟩
set_option maxHeartbeats 400000 in
theorem cut14_miss (s p : ByteArray) (w : World) (hs : s.size ≤ 4194304) (hp : p.size ≤ 4194304) (h : hpB s p = false) : Calls Try.prog 14 #[.string s, .string p] w fun e w' => e = .returned (.tuple #[.string s, .bool false]) ∧ w = w' := by
  go_enter Try.func14, Try.ntmps14
  go_wp2_with fail
  refine (cut16_miss s p _ hs hp h).mono ?_
  rintro e w1 ⟨rfl, rfl⟩
  go_wp2_with fail
  go_ret2
  exact ⟨rfl, rfl⟩

/-- Two marks, one mark, and the long head. -/
abbrev bb : ByteArray := ⟨#[33, 33]⟩
abbrev b1 : ByteArray := ⟨#[33]⟩
abbrev core : ByteArray := ⟨#[116, 97, 103, 58, 121, 97, 109, 108, 46, 111, 114, 103, 44, 50, 48, 48, 50, 58]⟩

/-- 'splitTag' hands back the two strings; nothing old has turned. -/
def Split (h s : ByteArray) (w : World) (e : Ending) (w' : World) : Prop := e = .returned (.agg #[.string h, .string s]) ∧ Below w.heap.size w w'

set_option maxHeartbeats 400000 in
theorem split_none (t : ByteArray) (w : World) (ht : t.size ≤ 2097152) (h1 : hpB t bb = false) (h2 : t.toList.isEmpty = false) (h3 : hpB t b1 = false) (h4 : hpB t core = false) :
    Calls Try.prog 13 #[.string t] w (Split ⟨#[]⟩ t w) := by
  go_enter Try.func13, Try.ntmps13
  go_wp2_with fail
  refine (cut14_miss t bb _ (by omega) (by decide) h1).mono ?_
  rintro e w1 ⟨rfl, rfl⟩
  go_wp2_with fail
  refine (pre15 t b1 _ (by omega) (by decide)).mono ?_
  rintro e w1 ⟨rfl, rfl⟩
  rw [h3]
  go_wp2_with fail
  refine (pre15 t core _ (by omega) (by decide)).mono ?_
  rintro e w1 ⟨rfl, rfl⟩
  rw [h4]
  go_wp2_with fail
  exact bodyPost_ret (v := .agg #[.string ⟨#[]⟩, .string t]) (by simp [results, Try.results13, go_sem]) rfl ⟨rfl, (Below.refl _ _).alloc (Nat.le_refl _) _⟩

set_option maxHeartbeats 400000 in
theorem split_empty (t : ByteArray) (w : World) (ht : t.size ≤ 2097152) (h1 : hpB t bb = false) (h2 : t.toList.isEmpty = true) :
    Calls Try.prog 13 #[.string t] w (Split ⟨#[]⟩ ⟨#[]⟩ w) := by
  go_enter Try.func13, Try.ntmps13
  go_wp2_with fail
  refine (cut14_miss t bb _ (by omega) (by decide) h1).mono ?_
  rintro e w1 ⟨rfl, rfl⟩
  go_wp2_with fail
  exact bodyPost_ret (v := .agg #[.string ⟨#[]⟩, .string ⟨#[]⟩]) (by simp [results, Try.results13, go_sem]) rfl ⟨rfl, (Below.refl _ _).alloc (Nat.le_refl _) _⟩

set_option maxHeartbeats 400000 in
theorem split_bang (t : ByteArray) (w : World) (ht : t.size ≤ 2097152) (h1 : hpB t bb = false) (h2 : t.toList.isEmpty = false) (h3 : hpB t b1 = true) :
    Calls Try.prog 13 #[.string t] w (Split b1 (t.extract 1 t.size) w) := by
  have hl : 1 ≤ t.size := hpB_le h3
  go_enter Try.func13, Try.ntmps13
  go_wp2_with fail
  refine (cut14_miss t bb _ (by omega) (by decide) h1).mono ?_
  rintro e w1 ⟨rfl, rfl⟩
  go_wp2_with fail
  refine (pre15 t b1 _ (by omega) (by decide)).mono ?_
  rintro e w1 ⟨rfl, rfl⟩
  rw [h3]
  go_wp2_with fail
  exact bodyPost_ret (v := .agg #[.string b1, .string (t.extract 1 t.size)]) (by simp [results, Try.results13, go_sem]) rfl ⟨rfl, (Below.refl _ _).alloc (Nat.le_refl _) _⟩

set_option maxHeartbeats 400000 in
theorem split_long (t : ByteArray) (w : World) (ht : t.size ≤ 2097152) (h1 : hpB t bb = false) (h2 : t.toList.isEmpty = false) (h3 : hpB t b1 = false) (h4 : hpB t core = true) :
    Calls Try.prog 13 #[.string t] w (Split bb (t.extract 18 t.size) w) := by
  have hl : 18 ≤ t.size := hpB_le h4
  go_enter Try.func13, Try.ntmps13
  go_wp2_with fail
  refine (cut14_miss t bb _ (by omega) (by decide) h1).mono ?_
  rintro e w1 ⟨rfl, rfl⟩
  go_wp2_with fail
  refine (pre15 t b1 _ (by omega) (by decide)).mono ?_
  rintro e w1 ⟨rfl, rfl⟩
  rw [h3]
  go_wp2_with fail
  refine (pre15 t core _ (by omega) (by decide)).mono ?_
  rintro e w1 ⟨rfl, rfl⟩
  rw [h4]
  go_wp2_with fail
  exact bodyPost_ret (v := .agg #[.string bb, .string (t.extract 18 t.size)]) (by simp [results, Try.results13, go_sem]) rfl ⟨rfl, (Below.refl _ _).alloc (Nat.le_refl _) _⟩

set_option maxHeartbeats 400000 in
theorem split_short (t u : ByteArray) (w : World) (ht : t.size ≤ 2097152) (h1 : hpB t bb = true) (hu : core ++ t.extract 2 t.size = u) (hus : u.size ≤ 2097180) (hul : 18 ≤ u.size) (h2 : u.toList.isEmpty = false) (h3 : hpB u b1 = false) (h4 : hpB u core = true) :
    Calls Try.prog 13 #[.string t] w (Split bb (u.extract 18 u.size) w) := by
  have hl : 2 ≤ t.size := hpB_le h1
  have hcs : core.size = 18 := rfl
  have hes : (t.extract 2 t.size).size = t.size - 2 := by simp
  go_enter Try.func13, Try.ntmps13
  go_wp2_with fail
  refine (cut14_hit t bb _ (by omega) (by decide) h1).mono ?_
  rintro e w1 ⟨rfl, rfl⟩
  go_wp2_with fail
  refine (pre15 u b1 _ (by omega) (by decide)).mono ?_
  rintro e w1 ⟨rfl, rfl⟩
  rw [h3]
  go_wp2_with fail
  refine (pre15 u core _ (by omega) (by decide)).mono ?_
  rintro e w1 ⟨rfl, rfl⟩
  rw [h4]
  go_wp2_with fail
  exact bodyPost_ret (v := .agg #[.string bb, .string (u.extract 18 u.size)]) (by simp [results, Try.results13, go_sem]) rfl ⟨rfl, (Below.refl _ _).alloc (Nat.le_refl _) _⟩

/-- 'ZZsplitTag' hands back the two strings; nothing old has turned. -/
def Pair (h s : ByteArray) (w : World) (e : Ending) (w' : World) : Prop := e = .returned (.tuple #[.string h, .string s]) ∧ Below w.heap.size w w'

set_option maxHeartbeats 400000 in
theorem zz7 (t h s : ByteArray) (w : World) (hc : ∀ w, Calls Try.prog 13 #[.string t] w (Split h s w)) : Calls Try.prog 7 #[.string t] w (Pair h s w) := by
  have HC : Hid (∀ w, Calls Try.prog 13 #[.string t] w (Split h s w)) := hc
  clear hc
  go_enter Try.func7, Try.ntmps7
  go_wp2_with fail
  refine (HC.out _).mono ?_
  rintro e w1 ⟨rfl, hB⟩
  have HB : Hid (Below w.heap.size w w1) := hB
  clear hB
  go_wp2_with fail
  go_quiet (fail)
  go_wp2_with fail
  go_ret2
  exact ⟨rfl, below_drewN (HB.out.alloc HB.out.size _) _⟩

set_option maxHeartbeats 400000 in
theorem written8_none (s : ByteArray) (w : World) : Calls Try.prog 8 #[.string ⟨#[]⟩, .string s] w fun e w' => e = .returned (.tuple #[.string s, .bool true]) ∧ w = w' := by
  go_enter Try.func8, Try.ntmps8
  go_wp2
  go_ret2
  exact ⟨rfl, rfl⟩
set_option maxHeartbeats 400000 in
theorem written8_bang (s : ByteArray) (w : World) (hs : s.size ≤ 4194304) : Calls Try.prog 8 #[.string b1, .string s] w fun e w' => e = .returned (.tuple #[.string (b1 ++ s), .bool true]) ∧ w = w' := by
  have hcs : b1.size = 1 := rfl
  go_enter Try.func8, Try.ntmps8
  go_wp2
  go_ret2
  exact ⟨rfl, rfl⟩
set_option maxHeartbeats 400000 in
theorem written8_core (s : ByteArray) (w : World) (hs : s.size ≤ 4194304) : Calls Try.prog 8 #[.string bb, .string s] w fun e w' => e = .returned (.tuple #[.string (core ++ s), .bool true]) ∧ w = w' := by
  have hcs : core.size = 18 := rfl
  go_enter Try.func8, Try.ntmps8
  go_wp2
  go_ret2
  exact ⟨rfl, rfl⟩

set_option maxHeartbeats 400000 in
theorem long9_hit (t : ByteArray) (w : World) (ht : t.size ≤ 2097152) (h : hpB t bb = true) : Calls Try.prog 9 #[.string t] w fun e w' => e = .returned (.string (core ++ t.extract 2 t.size)) ∧ w = w' := by
  have hl : 2 ≤ t.size := hpB_le h
  have hcs : core.size = 18 := rfl
  have hes : (t.extract 2 t.size).size = t.size - 2 := by simp
  go_enter Try.func9, Try.ntmps9
  go_wp2_with fail
  refine (pre10 t bb _ (by omega) (by decide)).mono ?_
  rintro e w1 ⟨rfl, rfl⟩
  rw [h]
  go_wp2_with fail
  go_ret
  exact ⟨rfl, rfl⟩
set_option maxHeartbeats 400000 in
theorem long9_miss (t : ByteArray) (w : World) (ht : t.size ≤ 2097152) (h : hpB t bb = false) : Calls Try.prog 9 #[.string t] w fun e w' => e = .returned (.string t) ∧ w = w' := by
  go_enter Try.func9, Try.ntmps9
  go_wp2_with fail
  refine (pre10 t bb _ (by omega) (by decide)).mono ?_
  rintro e w1 ⟨rfl, rfl⟩
  rw [h]
  go_wp2_with fail
  go_ret
  exact ⟨rfl, rfl⟩

/-- The call hands back some bool; the world is as it was. -/
def RetB (w : World) (e : Ending) (w' : World) : Prop := ∃ r : Bool, e = .returned (.bool r) ∧ w = w'

set_option maxHeartbeats 400000 in
theorem bytes6 (t : ByteArray) (w : World) (ht : t.size ≤ maxLen) : Calls Try.prog 6 #[.string t] w (RetB w) := by
  unfold maxLen at ht
  by_cases h1 : t.size ≤ 1048576
  · go_enter Try.func6, Try.ntmps6
    go_wp2
    go_ret
    exact ⟨true, rfl, rfl⟩
  · go_enter Try.func6, Try.ntmps6
    go_wp2
    go_ret
    exact ⟨false, rfl, rfl⟩
set_option maxHeartbeats 400000 in
theorem bytes12 (t : ByteArray) (w : World) (ht : t.size ≤ maxLen) : Calls Try.prog 12 #[.string t] w (RetB w) := by
  unfold maxLen at ht
  by_cases h1 : t.size ≤ 1048576
  · go_enter Try.func12, Try.ntmps12
    go_wp2
    go_ret
    exact ⟨true, rfl, rfl⟩
  · go_enter Try.func12, Try.ntmps12
    go_wp2
    go_ret
    exact ⟨false, rfl, rfl⟩

end Go.Proofs.Qxb6602512a
