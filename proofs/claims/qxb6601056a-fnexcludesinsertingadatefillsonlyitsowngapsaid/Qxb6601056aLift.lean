/-
  WHAT THE ROWS' STEPS SHARE: a slice of strings that came in, opened.
-/
import Derived.Test.Qxb6601056aRows
import Derived.WalkKit
import Derived.ProofKit
import Derived.OpenShut
import Derived.ShutString
import Derived.ChangeOld
import Derived.Below
import Derived.Deep.Strs
namespace Go.Proofs.Qxb6601056a
open Go.ChangeShapes Go.WideShapes Go.ChangeAt Go.RowKit Go.Deep

theorem own : ownKnob Try.prog.godebug = none := by kernel_rfl
theorem laidOut : laidOutB Try.prog = true := by kernel_rfl

/-- What a walk is told of a slice of strings that came in. -/
def IsStrs (w : World) (a : Option Addr) (n b off : Nat) (S : Nat → ByteArray) : Prop :=
  (0 < n → a = some ⟨b, off, none⟩) ∧ (0 < n → b < w.heap.size) ∧ n ≤ maxLen ∧ ∀ j, j < n → w.cell? ⟨b, off + j, none⟩ = some (.string (S j))

theorem strs_of {H : Type} {enc : TypeId × Value → H} {W : World} {a : Option Addr} {n c : Nat} {d : DataW H} {ps : List MemPlace}
    (h : DataW.Trod enc Try.prog W 0 (fun _ => true) true 22 (.slice a n c) d ps) : ∃ b off S, IsStrs W a n b off S := by
  obtain ⟨fuel, hf⟩ := h
  rcases open_strs Try.underlying22 Try.underlying9 (by kernel_rfl) hf with ⟨hcs, _⟩ | ⟨x, l, c', m, S, hcs, _, hl, hm, hmm, _, hcell⟩
  · simp [Value.cells] at hcs
    obtain ⟨rfl, rfl, rfl⟩ := hcs
    exact ⟨0, 0, fun _ => ByteArray.empty, fun h => absurd h (by omega), fun h => absurd h (by omega), by simp [maxLen], fun j hj => absurd hj (by omega)⟩
  · simp [Value.cells] at hcs
    obtain ⟨rfl, rfl, rfl⟩ := hcs
    simp only [if_true] at hmm
    subst hmm
    obtain ⟨b, off, spot⟩ := x
    have hsp : 0 < n → spot = none := fun h => by simpa [Addr.add] using World.cell?_spot ((hcell 0 (by omega)).1)
    refine ⟨b, off, S, fun h => by rw [hsp h], fun h => ?_, by omega, fun j hj => ?_⟩
    · exact World.block_lt_of_cell? _ _ (hcell 0 (by omega)).1
    · have h1 := (hcell j (by omega)).1
      have h2 := hsp (by omega)
      subst h2
      rwa [add_plain] at h1

end Go.Proofs.Qxb6601056a
