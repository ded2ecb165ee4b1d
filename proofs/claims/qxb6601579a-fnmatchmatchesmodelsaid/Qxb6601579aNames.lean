/-
  THE WALKS OF 'names': what a principal names of a caller.
-/
import Derived.Test.Qxb6601579aRows
import Derived.WalkKit
import Derived.WalkSpells
import Derived.WalkLawsBesides
import Derived.Deep.QuietTactic
import Derived.BigQuiet
import Derived.Deep.RegionHeld3
namespace Go.Proofs.Qxb6601579a
open Go.RowKit

/-- A principal's plain data. -/
structure Pr where
  k : Int
  pa : ByteArray
  ac : ByteArray
  na : ByteArray
  se : ByteArray

/-- As a value. -/
abbrev Pr.v (p : Pr) : Value := .agg #[.int .i64 p.k, .string p.pa, .string p.ac, .string p.na, .string p.se]
/-- As a block of type t. -/
abbrev Pr.o (p : Pr) (t : TypeId) : Obj := .cells #[.int .i64 p.k, .string p.pa, .string p.ac, .string p.na, .string p.se] t
/-- Its five cells lie at the head of block b. -/
structure Pr.At (p : Pr) (b off : Nat) (w : World) : Prop where
  c0 : w.cell? ⟨b, off, none⟩ = some (.int .i64 p.k)
  c1 : w.cell? ⟨b, off + 1, none⟩ = some (.string p.pa)
  c2 : w.cell? ⟨b, off + 2, none⟩ = some (.string p.ac)
  c3 : w.cell? ⟨b, off + 3, none⟩ = some (.string p.na)
  c4 : w.cell? ⟨b, off + 4, none⟩ = some (.string p.se)

/-- What p names of the caller c: the bits of its account (1), its role (2), itself (4). -/
def nm (p c : Pr) : Int :=
  if p.k == 1 then 7
  else if !(p.ac.toList == c.ac.toList) || (!p.pa.toList.isEmpty && !(p.pa.toList == c.pa.toList)) then 0
  else if p.k == 2 then 1
  else if !(p.na.toList == c.na.toList) then 0
  else if p.k == 3 && c.k == 3 then 4
  else if p.k == 4 && c.k == 5 then 2
  else if p.k == 5 && c.k == 5 && p.se.toList == c.se.toList then 4
  else 0

/-- The call hands back r, a uint8; the world has drawn. -/
def RetU (r : Int) (w : World) (e : Ending) (w' : World) : Prop := ∃ q : Nat, e = .returned (.int .u8 r) ∧ w' = w.drewN q

set_option maxHeartbeats 4000000 in
theorem names21_1 (p c : Pr) (bp op bc oc : Nat) (w : World) (h0 : p.At bp op w) (h0' : c.At bc oc w) (h1 : (p.k == 1) = true) :
    Calls Try.prog 21 #[.pointer (some ⟨bp, op, none⟩), .pointer (some ⟨bc, oc, none⟩)] w (RetU (nm p c) w) := by
  obtain ⟨a0, a1, a2, a3, a4⟩ := h0
  obtain ⟨b0, b1, b2, b3, b4⟩ := h0'
  all_goals
    first | (have e : nm p c = 0 := by simp [nm, *]) | (have e : nm p c = 1 := by simp [nm, *]) | (have e : nm p c = 2 := by simp [nm, *]) | (have e : nm p c = 4 := by simp [nm, *]) | (have e : nm p c = 7 := by simp [nm, *])
    rw [e]
    clear e
    go_enter Try.func21, Try.ntmps21
    go_wp2
    iterate 3 (try (go_quiet (fail); go_wp2))
    go_ret
    exact ⟨0, rfl, rfl⟩

set_option maxHeartbeats 4000000 in
theorem names21_2 (p c : Pr) (bp op bc oc : Nat) (w : World) (h0 : p.At bp op w) (h0' : c.At bc oc w) (h1 : (p.k == 1) = false) (hA : (p.ac.toList == c.ac.toList) = false) :
    Calls Try.prog 21 #[.pointer (some ⟨bp, op, none⟩), .pointer (some ⟨bc, oc, none⟩)] w (RetU (nm p c) w) := by
  obtain ⟨a0, a1, a2, a3, a4⟩ := h0
  obtain ⟨b0, b1, b2, b3, b4⟩ := h0'
  all_goals
    first | (have e : nm p c = 0 := by simp [nm, *]) | (have e : nm p c = 1 := by simp [nm, *]) | (have e : nm p c = 2 := by simp [nm, *]) | (have e : nm p c = 4 := by simp [nm, *]) | (have e : nm p c = 7 := by simp [nm, *])
    rw [e]
    clear e
    go_enter Try.func21, Try.ntmps21
    go_wp2
    iterate 3 (try (go_quiet (fail); go_wp2))
    go_ret
    first | exact ⟨_, rfl, rfl⟩ | exact ⟨_, rfl, World.drewN_drewN _ _ _⟩

set_option maxHeartbeats 4000000 in
theorem names21_3 (p c : Pr) (bp op bc oc : Nat) (w : World) (h0 : p.At bp op w) (h0' : c.At bc oc w) (h1 : (p.k == 1) = false) (hA : (p.ac.toList == c.ac.toList) = true) (hE : p.pa.toList.isEmpty = false) (hP : (p.pa.toList == c.pa.toList) = false) :
    Calls Try.prog 21 #[.pointer (some ⟨bp, op, none⟩), .pointer (some ⟨bc, oc, none⟩)] w (RetU (nm p c) w) := by
  obtain ⟨a0, a1, a2, a3, a4⟩ := h0
  obtain ⟨b0, b1, b2, b3, b4⟩ := h0'
  all_goals
    first | (have e : nm p c = 0 := by simp [nm, *]) | (have e : nm p c = 1 := by simp [nm, *]) | (have e : nm p c = 2 := by simp [nm, *]) | (have e : nm p c = 4 := by simp [nm, *]) | (have e : nm p c = 7 := by simp [nm, *])
    rw [e]
    clear e
    go_enter Try.func21, Try.ntmps21
    go_wp2
    iterate 3 (try (go_quiet (fail); go_wp2))
    go_ret
    first | exact ⟨_, rfl, rfl⟩ | exact ⟨_, rfl, World.drewN_drewN _ _ _⟩

set_option maxHeartbeats 4000000 in
theorem names21_4 (p c : Pr) (bp op bc oc : Nat) (w : World) (h0 : p.At bp op w) (h0' : c.At bc oc w) (h1 : (p.k == 1) = false) (hA : (p.ac.toList == c.ac.toList) = true) (hE : p.pa.toList.isEmpty = true) :
    Calls Try.prog 21 #[.pointer (some ⟨bp, op, none⟩), .pointer (some ⟨bc, oc, none⟩)] w (RetU (nm p c) w) := by
  obtain ⟨a0, a1, a2, a3, a4⟩ := h0
  obtain ⟨b0, b1, b2, b3, b4⟩ := h0'
  cases h2 : (p.k == 2)
  · cases hN : (p.na.toList == c.na.toList)
    · skip
      all_goals
        first | (have e : nm p c = 0 := by simp [nm, *]) | (have e : nm p c = 1 := by simp [nm, *]) | (have e : nm p c = 2 := by simp [nm, *]) | (have e : nm p c = 4 := by simp [nm, *]) | (have e : nm p c = 7 := by simp [nm, *])
        rw [e]
        clear e
        go_enter Try.func21, Try.ntmps21
        go_wp2
        iterate 3 (try (go_quiet (fail); go_wp2))
        go_ret
        first | exact ⟨_, rfl, rfl⟩ | exact ⟨_, rfl, World.drewN_drewN _ _ _⟩
    · cases h3 : (p.k == 3)
      · cases h4 : (p.k == 4)
        · cases h5 : (p.k == 5)
          · skip
            all_goals
              first | (have e : nm p c = 0 := by simp [nm, *]) | (have e : nm p c = 1 := by simp [nm, *]) | (have e : nm p c = 2 := by simp [nm, *]) | (have e : nm p c = 4 := by simp [nm, *]) | (have e : nm p c = 7 := by simp [nm, *])
              rw [e]
              clear e
              go_enter Try.func21, Try.ntmps21
              go_wp2
              iterate 3 (try (go_quiet (fail); go_wp2))
              go_ret
              first | exact ⟨_, rfl, rfl⟩ | exact ⟨_, rfl, World.drewN_drewN _ _ _⟩
          · cases h5' : (c.k == 5)
            · skip
              all_goals
                first | (have e : nm p c = 0 := by simp [nm, *]) | (have e : nm p c = 1 := by simp [nm, *]) | (have e : nm p c = 2 := by simp [nm, *]) | (have e : nm p c = 4 := by simp [nm, *]) | (have e : nm p c = 7 := by simp [nm, *])
                rw [e]
                clear e
                go_enter Try.func21, Try.ntmps21
                go_wp2
                iterate 3 (try (go_quiet (fail); go_wp2))
                go_ret
                first | exact ⟨_, rfl, rfl⟩ | exact ⟨_, rfl, World.drewN_drewN _ _ _⟩
            · cases hS : (p.se.toList == c.se.toList)
              all_goals
                first | (have e : nm p c = 0 := by simp [nm, *]) | (have e : nm p c = 1 := by simp [nm, *]) | (have e : nm p c = 2 := by simp [nm, *]) | (have e : nm p c = 4 := by simp [nm, *]) | (have e : nm p c = 7 := by simp [nm, *])
                rw [e]
                clear e
                go_enter Try.func21, Try.ntmps21
                go_wp2
                iterate 3 (try (go_quiet (fail); go_wp2))
                go_ret
                first | exact ⟨_, rfl, rfl⟩ | exact ⟨_, rfl, World.drewN_drewN _ _ _⟩
        · have h5 : (p.k == 5) = false := by rw [beq_iff_eq] at h4; rw [beq_eq_false_iff_ne]; omega
          cases h5' : (c.k == 5)
          all_goals
            first | (have e : nm p c = 0 := by simp [nm, *]) | (have e : nm p c = 1 := by simp [nm, *]) | (have e : nm p c = 2 := by simp [nm, *]) | (have e : nm p c = 4 := by simp [nm, *]) | (have e : nm p c = 7 := by simp [nm, *])
            rw [e]
            clear e
            go_enter Try.func21, Try.ntmps21
            go_wp2
            iterate 3 (try (go_quiet (fail); go_wp2))
            go_ret
            first | exact ⟨_, rfl, rfl⟩ | exact ⟨_, rfl, World.drewN_drewN _ _ _⟩
      · have h4 : (p.k == 4) = false := by rw [beq_iff_eq] at h3; rw [beq_eq_false_iff_ne]; omega
        have h5 : (p.k == 5) = false := by rw [beq_iff_eq] at h3; rw [beq_eq_false_iff_ne]; omega
        cases h3' : (c.k == 3)
        all_goals
          first | (have e : nm p c = 0 := by simp [nm, *]) | (have e : nm p c = 1 := by simp [nm, *]) | (have e : nm p c = 2 := by simp [nm, *]) | (have e : nm p c = 4 := by simp [nm, *]) | (have e : nm p c = 7 := by simp [nm, *])
          rw [e]
          clear e
          go_enter Try.func21, Try.ntmps21
          go_wp2
          iterate 3 (try (go_quiet (fail); go_wp2))
          go_ret
          first | exact ⟨_, rfl, rfl⟩ | exact ⟨_, rfl, World.drewN_drewN _ _ _⟩
  · skip
    all_goals
      first | (have e : nm p c = 0 := by simp [nm, *]) | (have e : nm p c = 1 := by simp [nm, *]) | (have e : nm p c = 2 := by simp [nm, *]) | (have e : nm p c = 4 := by simp [nm, *]) | (have e : nm p c = 7 := by simp [nm, *])
      rw [e]
      clear e
      go_enter Try.func21, Try.ntmps21
      go_wp2
      iterate 3 (try (go_quiet (fail); go_wp2))
      go_ret
      first | exact ⟨_, rfl, rfl⟩ | exact ⟨_, rfl, World.drewN_drewN _ _ _⟩

set_option maxHeartbeats 4000000 in
theorem names21_5 (p c : Pr) (bp op bc oc : Nat) (w : World) (h0 : p.At bp op w) (h0' : c.At bc oc w) (h1 : (p.k == 1) = false) (hA : (p.ac.toList == c.ac.toList) = true) (hE : p.pa.toList.isEmpty = false) (hP : (p.pa.toList == c.pa.toList) = true) :
    Calls Try.prog 21 #[.pointer (some ⟨bp, op, none⟩), .pointer (some ⟨bc, oc, none⟩)] w (RetU (nm p c) w) := by
  obtain ⟨a0, a1, a2, a3, a4⟩ := h0
  obtain ⟨b0, b1, b2, b3, b4⟩ := h0'
  cases h2 : (p.k == 2)
  · cases hN : (p.na.toList == c.na.toList)
    · skip
      all_goals
        first | (have e : nm p c = 0 := by simp [nm, *]) | (have e : nm p c = 1 := by simp [nm, *]) | (have e : nm p c = 2 := by simp [nm, *]) | (have e : nm p c = 4 := by simp [nm, *]) | (have e : nm p c = 7 := by simp [nm, *])
        rw [e]
        clear e
        go_enter Try.func21, Try.ntmps21
        go_wp2
        iterate 3 (try (go_quiet (fail); go_wp2))
        go_ret
        first | exact ⟨_, rfl, rfl⟩ | exact ⟨_, rfl, World.drewN_drewN _ _ _⟩
    · cases h3 : (p.k == 3)
      · cases h4 : (p.k == 4)
        · cases h5 : (p.k == 5)
          · skip
            all_goals
              first | (have e : nm p c = 0 := by simp [nm, *]) | (have e : nm p c = 1 := by simp [nm, *]) | (have e : nm p c = 2 := by simp [nm, *]) | (have e : nm p c = 4 := by simp [nm, *]) | (have e : nm p c = 7 := by simp [nm, *])
              rw [e]
              clear e
              go_enter Try.func21, Try.ntmps21
              go_wp2
              iterate 3 (try (go_quiet (fail); go_wp2))
              go_ret
              first | exact ⟨_, rfl, rfl⟩ | exact ⟨_, rfl, World.drewN_drewN _ _ _⟩
          · cases h5' : (c.k == 5)
            · skip
              all_goals
                first | (have e : nm p c = 0 := by simp [nm, *]) | (have e : nm p c = 1 := by simp [nm, *]) | (have e : nm p c = 2 := by simp [nm, *]) | (have e : nm p c = 4 := by simp [nm, *]) | (have e : nm p c = 7 := by simp [nm, *])
                rw [e]
                clear e
                go_enter Try.func21, Try.ntmps21
                go_wp2
                iterate 3 (try (go_quiet (fail); go_wp2))
                go_ret
                first | exact ⟨_, rfl, rfl⟩ | exact ⟨_, rfl, World.drewN_drewN _ _ _⟩
            · cases hS : (p.se.toList == c.se.toList)
              all_goals
                first | (have e : nm p c = 0 := by simp [nm, *]) | (have e : nm p c = 1 := by simp [nm, *]) | (have e : nm p c = 2 := by simp [nm, *]) | (have e : nm p c = 4 := by simp [nm, *]) | (have e : nm p c = 7 := by simp [nm, *])
                rw [e]
                clear e
                go_enter Try.func21, Try.ntmps21
                go_wp2
                iterate 3 (try (go_quiet (fail); go_wp2))
                go_ret
                first | exact ⟨_, rfl, rfl⟩ | exact ⟨_, rfl, World.drewN_drewN _ _ _⟩
        · have h5 : (p.k == 5) = false := by rw [beq_iff_eq] at h4; rw [beq_eq_false_iff_ne]; omega
          cases h5' : (c.k == 5)
          all_goals
            first | (have e : nm p c = 0 := by simp [nm, *]) | (have e : nm p c = 1 := by simp [nm, *]) | (have e : nm p c = 2 := by simp [nm, *]) | (have e : nm p c = 4 := by simp [nm, *]) | (have e : nm p c = 7 := by simp [nm, *])
            rw [e]
            clear e
            go_enter Try.func21, Try.ntmps21
            go_wp2
            iterate 3 (try (go_quiet (fail); go_wp2))
            go_ret
            first | exact ⟨_, rfl, rfl⟩ | exact ⟨_, rfl, World.drewN_drewN _ _ _⟩
      · have h4 : (p.k == 4) = false := by rw [beq_iff_eq] at h3; rw [beq_eq_false_iff_ne]; omega
        have h5 : (p.k == 5) = false := by rw [beq_iff_eq] at h3; rw [beq_eq_false_iff_ne]; omega
        cases h3' : (c.k == 3)
        all_goals
          first | (have e : nm p c = 0 := by simp [nm, *]) | (have e : nm p c = 1 := by simp [nm, *]) | (have e : nm p c = 2 := by simp [nm, *]) | (have e : nm p c = 4 := by simp [nm, *]) | (have e : nm p c = 7 := by simp [nm, *])
          rw [e]
          clear e
          go_enter Try.func21, Try.ntmps21
          go_wp2
          iterate 3 (try (go_quiet (fail); go_wp2))
          go_ret
          first | exact ⟨_, rfl, rfl⟩ | exact ⟨_, rfl, World.drewN_drewN _ _ _⟩
  · skip
    all_goals
      first | (have e : nm p c = 0 := by simp [nm, *]) | (have e : nm p c = 1 := by simp [nm, *]) | (have e : nm p c = 2 := by simp [nm, *]) | (have e : nm p c = 4 := by simp [nm, *]) | (have e : nm p c = 7 := by simp [nm, *])
      rw [e]
      clear e
      go_enter Try.func21, Try.ntmps21
      go_wp2
      iterate 3 (try (go_quiet (fail); go_wp2))
      go_ret
      first | exact ⟨_, rfl, rfl⟩ | exact ⟨_, rfl, World.drewN_drewN _ _ _⟩

-- f21: (*principal).names
theorem names21 (p c : Pr) (bp op bc oc : Nat) (w : World) (h0 : p.At bp op w) (h0' : c.At bc oc w) :
    Calls Try.prog 21 #[.pointer (some ⟨bp, op, none⟩), .pointer (some ⟨bc, oc, none⟩)] w (RetU (nm p c) w) := by
  cases h1 : (p.k == 1)
  · cases hA : (p.ac.toList == c.ac.toList)
    · exact names21_2 p c bp op bc oc w h0 h0' h1 hA
    · cases hE : p.pa.toList.isEmpty
      · cases hP : (p.pa.toList == c.pa.toList)
        · exact names21_3 p c bp op bc oc w h0 h0' h1 hA hE hP
        · exact names21_5 p c bp op bc oc w h0 h0' h1 hA hE hP
      · exact names21_4 p c bp op bc oc w h0 h0' h1 hA hE
  · exact names21_1 p c bp op bc oc w h0 h0' h1

end Go.Proofs.Qxb6601579a
