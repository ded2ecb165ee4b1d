/-
  OPENING A PRINCIPAL THAT CAME IN BY VALUE: five cells, five fields.
-/
import Derived.Test.Qxb6601579aWalk3
import Derived.Lib.SmallJoins
namespace Go.Proofs.Qxb6601579a
open Go.ChangeShapes Go.WideShapes Go.RowKit Go.Deep Go.WideElems Go.Maps Go.Joins
set_option linter.unusedVariables false

theorem array5 {α : Type} {cs : Array α} (h : cs.size = 5) : ∃ c0 c1 c2 c3 c4, cs = #[c0, c1, c2, c3, c4] := by
  obtain ⟨l⟩ := cs
  match l, h with
  | [c0, c1, c2, c3, c4], _ => exact ⟨c0, c1, c2, c3, c4, rfl⟩
theorem list5 {α : Type} {l : List α} (h : l.length = 5) : ∃ c0 c1 c2 c3 c4, l = [c0, c1, c2, c3, c4] := by
  match l, h with
  | [c0, c1, c2, c3, c4], _ => exact ⟨c0, c1, c2, c3, c4, rfl⟩

section
variable {H : Type} {enc : TypeId × Value → H} {w : World} {base : Nat} {spare : Nat → Bool} {held : Bool}

/-- Five cells that read at the principal's type are a principal's. -/
theorem trod_pr {fuel : Nat} {cs : List Value} {x : DataW H × List MemPlace} (h : DataW.trod enc Try.prog w base spare held fuel 23 cs = some x) :
    ∃ p : Pr, cs = p.v.cells.toList ∧ p.ok := by
  obtain ⟨xs, n, _, rfl, hl, hlen, hf⟩ := DataW.trod_struct Try.underlying23 h
  have hC : Try.prog.cellsOf 23 = 5 := by kernel_rfl
  obtain ⟨c0, c1, c2, c3, c4, rfl⟩ := list5 (hl.trans hC)
  obtain ⟨y0, y1, y2, y3, y4, rfl⟩ := list5 hlen
  have g0 := hf 0 _ rfl
  have g1 := hf 1 _ rfl
  have g2 := hf 2 _ rfl
  have g3 := hf 3 _ rfl
  have g4 := hf 4 _ rfl
  have k3 : Try.prog.cellsOf 3 = 1 := by kernel_rfl
  have k9 : Try.prog.cellsOf 9 = 1 := by kernel_rfl
  simp [k3, k9] at g0 g1 g2 g3 g4
  obtain ⟨k, h0, _, _⟩ := DataW.trod_int Try.underlying3 g0
  obtain ⟨s1, h1, _, l1⟩ := DataW.trod_string Try.underlying9 g1
  obtain ⟨s2, h2, _, l2⟩ := DataW.trod_string Try.underlying9 g2
  obtain ⟨s3, h3, _, l3⟩ := DataW.trod_string Try.underlying9 g3
  obtain ⟨s4, h4, _, l4⟩ := DataW.trod_string Try.underlying9 g4
  simp at h0 h1 h2 h3 h4
  subst h0 h1 h2 h3 h4
  exact ⟨⟨k, s1, s2, s3, s4⟩, by simp [Value.cells], l1, l2, l3, l4⟩

/-- A principal by value, opened. -/
theorem open_pr {r : Reach} {b0 : Nat} {v : Value} {d : DataW H} {ps : List MemPlace} (hv : Value.okWide Try.prog w r b0 23 v) (h : DataW.Trod enc Try.prog w base spare held 23 v d ps) :
    ∃ p : Pr, v = p.v ∧ p.ok := by
  obtain ⟨cs, rfl, hsz⟩ := okWide_struct Try.underlying23 hv
  obtain ⟨fuel, hf⟩ := h
  obtain ⟨p, hp, hok⟩ := trod_pr hf
  refine ⟨p, ?_, hok⟩
  simp [Value.cells] at hp
  obtain ⟨l⟩ := cs
  simp at hp
  rw [hp]
end
end Go.Proofs.Qxb6601579a
