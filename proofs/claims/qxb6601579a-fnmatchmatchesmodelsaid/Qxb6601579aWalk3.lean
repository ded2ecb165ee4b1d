/-
  THE WALK OF THE LAW 'one way, within the account'.
-/
import Derived.Test.Qxb6601579aNames
import Derived.Test.Qxb6601579aWalksA
import Derived.Deep.RegionWith
import Derived.Deep.DeepCutAuto
namespace Go.Proofs.Qxb6601579a
open Go.RowKit

theorem bcell {W w1 : World} (hb : Below W.heap.size W w1) : (∀ b o, b < W.heap.size → w1.cell? ⟨b, o, none⟩ = W.cell? ⟨b, o, none⟩) :=
  fun b o h => hb.cell (p := ⟨b, o, none⟩) h

-- f10: ZZNames
set_option maxHeartbeats 400000 in
theorem names10 (p c : Pr) (w : World) : Calls Try.prog 10 #[p.v, c.v] w (RetV (.int .u8 (nm p c)) w) := by
  go_enter Try.func10, Try.ntmps10
  go_wp2_with fail
  refine (names21 p c w.heap.size 0 (w.heap.size + 1) 0 _ ⟨by simp, by simp, by simp, by simp, by simp⟩ ⟨by simp, by simp, by simp, by simp, by simp⟩).mono ?_
  rintro e w1 ⟨q, rfl, rfl⟩
  go_wp2_with fail
  go_ret
  exact ⟨rfl, below_drewN (((Below.refl _ _).alloc (Nat.le_refl _) _).alloc (by simp) _) _⟩

/-- What the law asks, said of the answer. -/
theorem nm_law (p c : Pr) : (p.k == 1) = true ∧ nm p c = 7 ∨ (p.k == 1) = false ∧ (nm p c = 0 ∨ (nm p c = 1 ∨ nm p c = 2 ∨ nm p c = 4) ∧ (p.ac.toList == c.ac.toList) = true ∧ (p.pa.toList.isEmpty = true ∨ p.pa.toList.isEmpty = false ∧ (p.pa.toList == c.pa.toList) = true)) := by
  unfold nm
  generalize (p.k == 1) = b1
  generalize (p.ac.toList == c.ac.toList) = bA
  generalize p.pa.toList.isEmpty = bE
  generalize (p.pa.toList == c.pa.toList) = bP
  generalize (p.k == 2) = b2
  generalize (p.na.toList == c.na.toList) = bN
  generalize (p.k == 3 && c.k == 3) = b3
  generalize (p.k == 4 && c.k == 5) = b4
  generalize (p.k == 5 && c.k == 5 && p.se.toList == c.se.toList) = b5
  cases b1 <;> cases bA <;> cases bE <;> cases bP <;> cases b2 <;> cases bN <;> cases b3 <;> cases b4 <;> cases b5 <;> simp

/-- A principal whose strings are no longer than a string may be. -/
def Pr.ok (p : Pr) : Prop := p.pa.size ≤ maxLen ∧ p.ac.size ≤ maxLen ∧ p.na.size ≤ maxLen ∧ p.se.size ≤ maxLen

/-- Two principals lie at the heads of two blocks, one behind the other. -/
structure Both (p c : Pr) (B : Nat) (w : World) : Prop where
  a0 : w.cell? ⟨B, 0, none⟩ = some (.int .i64 p.k)
  a1 : w.cell? ⟨B, 1, none⟩ = some (.string p.pa)
  a2 : w.cell? ⟨B, 2, none⟩ = some (.string p.ac)
  a3 : w.cell? ⟨B, 3, none⟩ = some (.string p.na)
  a4 : w.cell? ⟨B, 4, none⟩ = some (.string p.se)
  b0 : w.cell? ⟨B + 1, 0, none⟩ = some (.int .i64 c.k)
  b1 : w.cell? ⟨B + 1, 1, none⟩ = some (.string c.pa)
  b2 : w.cell? ⟨B + 1, 2, none⟩ = some (.string c.ac)
  b3 : w.cell? ⟨B + 1, 3, none⟩ = some (.string c.na)
  b4 : w.cell? ⟨B + 1, 4, none⟩ = some (.string c.se)

theorem Both.keep {p c : Pr} {B : Nat} {W w' : World} (h : Both p c B W) (hb : Below W.heap.size W w') : Both p c B w' := by
  have h1 : B < W.heap.size := World.block_lt_of_cell? _ _ h.a0
  have h2 : B + 1 < W.heap.size := World.block_lt_of_cell? _ _ h.b0
  exact ⟨(bcell hb B 0 h1).trans h.a0, (bcell hb B 1 h1).trans h.a1, (bcell hb B 2 h1).trans h.a2, (bcell hb B 3 h1).trans h.a3, (bcell hb B 4 h1).trans h.a4,
    (bcell hb (B + 1) 0 h2).trans h.b0, (bcell hb (B + 1) 1 h2).trans h.b1, (bcell hb (B + 1) 2 h2).trans h.b2, (bcell hb (B + 1) 3 h2).trans h.b3, (bcell hb (B + 1) 4 h2).trans h.b4⟩
theorem Both.drew {p c : Pr} {B : Nat} {W : World} (h : Both p c B W) : Both p c B W.drew := ⟨h.a0, h.a1, h.a2, h.a3, h.a4, h.b0, h.b1, h.b2, h.b3, h.b4⟩
theorem Both.drewN {p c : Pr} {B : Nat} {W : World} (h : Both p c B W) (n : Nat) : Both p c B (W.drewN n) := ⟨h.a0, h.a1, h.a2, h.a3, h.a4, h.b0, h.b1, h.b2, h.b3, h.b4⟩
theorem Both.start (p c : Pr) (w : World) : Both p c w.heap.size ((w.alloc (p.o 23)).alloc (c.o 23)) :=
  ⟨by simp, by simp, by simp, by simp, by simp, by simp, by simp, by simp, by simp, by simp⟩

/-- Where the ways through the first statement that draws its order meet. -/
def Meet1 (p c : Pr) (w : World) (s : Value) (wx : World) : Prop := (∃ b : Bool, s = .bool b) ∧ Both p c w.heap.size wx ∧ Below w.heap.size w wx
/-- And through the second. -/
def Meet2 (p c : Pr) (w : World) (s : Value) (wx : World) : Prop := s = .int .u8 (nm p c) ∧ Both p c w.heap.size wx ∧ Below w.heap.size w wx

set_option maxHeartbeats 2000000 in
theorem walk3 (p c : Pr) (w : World) (hp : p.ok) (hc : c.ok) : Calls Try.prog 3 #[p.v, c.v] w fun e w' => e = .returned (.bool true) ∧ Below w.heap.size w w' := by
  have HP : Hid p.ok := hp
  have HC : Hid c.ok := hc
  clear hp hc
  go_enter Try.func3, Try.ntmps3
  go_wp2_with fail
  refine (bytes8 p.k p.pa p.ac p.na p.se c.k c.pa c.ac c.na c.se _ HP.out.1 HP.out.2.1 HP.out.2.2.1 HP.out.2.2.2 HC.out.1 HC.out.2.1 HC.out.2.2.1 HC.out.2.2.2).mono ?_
  rintro e w1 ⟨r, rfl, hB⟩
  have HB : Hid (Below w.heap.size w w1) := (((Below.refl _ _).alloc (Nat.le_refl _) _).alloc (by simp) _).trans (hB.mono (by simp; omega))
  have HBo1 : Hid (Both p c w.heap.size w1) := (Both.start p c w).keep hB
  clear hB
  cases r with
  | false =>
    go_wp2_with fail
    go_ret
    exact ⟨rfl, HB.out⟩
  | true =>
    obtain ⟨a0, a1, a2, a3, a4, b0, b1, b2, b3, b4⟩ := HBo1.out
    go_upto_region 3 with (fail)
    go_cut [15] (fun s15 wx => Meet1 p c w s15 wx)
    case first =>
      go_region_with (first | (go_at_call_of 9 (p.pa); refine (size9 p.k p.pa p.ac p.na p.se _ HP.out.1 HP.out.2.1 HP.out.2.2.1 HP.out.2.2.2).mono ?_; rintro e w2 ⟨r1, rfl, hB2, hr1, hr1'⟩; have HBo2 : Hid (Both p c w.heap.size w2) := HBo1.out.drew.keep hB2; have HB2 : Hid (Below w.heap.size w w2) := HB.out.drew.trans (hB2.mono HB.out.size); clear hB2; obtain ⟨a0, a1, a2, a3, a4, b0, b1, b2, b3, b4⟩ := HBo2.out) | (go_at_call_of 9 (c.pa); refine (size9 c.k c.pa c.ac c.na c.se _ HC.out.1 HC.out.2.1 HC.out.2.2.1 HC.out.2.2.2).mono ?_; rintro e w3 ⟨r2, rfl, hB3, hr2, hr2'⟩; have HBo3 : Hid (Both p c w.heap.size w3) := HBo2.out.keep hB3; have HB3 : Hid (Below w.heap.size w w3) := HB2.out.trans (hB3.mono HB2.out.size); clear hB3))
      all_goals
        go_wp2_with fail
        go_meet
        case rel => exact ⟨⟨_, rfl⟩, HBo3.out, HB3.out⟩
    case rest =>
      obtain ⟨⟨b, rfl⟩, HBo3', HB3'⟩ := hcut
      have HBo3 : Hid (Both p c w.heap.size wc) := HBo3'
      have HB3 : Hid (Below w.heap.size w wc) := HB3'
      clear HBo3' HB3' a0 a1 a2 a3 a4 b0 b1 b2 b3 b4
      cases b with
      | true =>
        go_wp2_with fail
        go_ret
        exact ⟨rfl, HB3.out⟩
      | false =>
        obtain ⟨a0, a1, a2, a3, a4, b0, b1, b2, b3, b4⟩ := HBo3.out
        go_upto_region 5 with (fail)
        go_cut [5] (fun s5 wx => Meet2 p c w s5 wx)
        case first =>
          go_region_with (first | (go_at_call_of 11 (p.pa); refine (zz11 p.k p.pa p.ac p.na p.se _).mono ?_; rintro e w4 ⟨rfl, hB4⟩; have HBo4 : Hid (Both p c w.heap.size w4) := HBo3.out.drew.keep hB4; have HB4 : Hid (Below w.heap.size w w4) := HB3.out.drew.trans (hB4.mono HB3.out.size); clear hB4; obtain ⟨a0, a1, a2, a3, a4, b0, b1, b2, b3, b4⟩ := HBo4.out) | (go_at_call_of 11 (c.pa); refine (zz11 c.k c.pa c.ac c.na c.se _).mono ?_; rintro e w5 ⟨rfl, hB5⟩; have HBo5 : Hid (Both p c w.heap.size w5) := HBo4.out.keep hB5; have HB5 : Hid (Below w.heap.size w w5) := HB4.out.trans (hB5.mono HB4.out.size); clear hB5) | (go_at_call 10; refine (names10 p c _).mono ?_; rintro e w6 ⟨rfl, hB6⟩; have HBo6 : Hid (Both p c w.heap.size w6) := HBo5.out.keep hB6; have HB6 : Hid (Below w.heap.size w w6) := HB5.out.trans (hB6.mono HB5.out.size); clear hB6))
          all_goals
            go_wp2_with fail
            go_meet
            case rel => exact ⟨rfl, HBo6.out, HB6.out⟩
        case rest =>
          obtain ⟨rfl, HBo6', HB6'⟩ := hcut
          have HB6 : Hid (Below w.heap.size w wc) := HB6'
          obtain ⟨a0, a1, a2, a3, a4, b0, b1, b2, b3, b4⟩ := HBo6'
          clear HB6'
          rcases nm_law p c with ⟨h1, hn⟩ | ⟨h1, hn⟩
          · rw [hn]
            clear hn
            go_wp2_with fail
            go_ret
            exact ⟨rfl, HB6.out⟩
          · rcases hn with hn | ⟨hn, hA, hE⟩
            · rw [hn]
              clear hn
              go_wp2_with fail
              go_ret
              exact ⟨rfl, HB6.out⟩
            · rcases hE with hE | ⟨hE, hP⟩
              all_goals
                rcases hn with hn | hn | hn
                all_goals
                  rw [hn]
                  clear hn
                  go_wp2_with fail
                  go_ret
                  exact ⟨rfl, HB6.out⟩

end Go.Proofs.Qxb6601579a
