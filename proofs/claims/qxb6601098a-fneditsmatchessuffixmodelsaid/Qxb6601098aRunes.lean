/-
  '[]rune(s)': what the conversion lays.
-/
import Derived.Test.Qxb6601098aRows
import Derived.Test.Qxb6601098aPlain
import Derived.WalkKit
import Derived.WalkSpells
import Derived.WalkLawsBesides
import Derived.Laws.IdiomStrings
import Derived.Deep.OwnRows
namespace Go.Proofs.Qxb6601098a
open Go.RowKit

/-- The code points of s, as the model's conversion lays them. -/
def RV (s : ByteArray) : Array Value := Conv.runesFrom s s.size 0 #[]
def RN (s : ByteArray) : Nat := (RV s).size
def RX (s : ByteArray) (j : Nat) : Int := intOf ((RV s)[j]?.getD (.int .i32 0))

theorem runes_ints (s : ByteArray) : ∀ (bound i : Nat) (acc : Array Value), (∀ v ∈ acc, ∃ r, v = .int .i32 r) → ∀ v ∈ Conv.runesFrom s bound i acc, ∃ r, v = .int .i32 r
  | 0, _, acc, h => by simpa [Conv.runesFrom] using h
  | bound + 1, i, acc, h => by
    unfold Conv.runesFrom
    split
    · apply runes_ints s bound
      intro v hv
      rcases Array.mem_push.1 hv with h1 | h1
      · exact h v h1
      · exact ⟨_, h1⟩
    · exact h

theorem RV_at (s : ByteArray) (j : Nat) (hj : j < RN s) : (RV s)[j]? = some (.int .i32 (RX s j)) := by
  have h1 : (RV s)[j]? = some (RV s)[j] := Array.getElem?_eq_getElem hj
  obtain ⟨r, hr⟩ := runes_ints s s.size 0 #[] (by simp) (RV s)[j] (Array.getElem_mem hj)
  rw [RX, h1, hr]; rfl

theorem RN_le (s : ByteArray) : RN s ≤ s.size := by
  have := size_runesFrom s s.size 0 #[]
  simpa [RN, RV] using this

theorem conv_runes (s : ByteArray) (hs : s.size ≤ 1048576) (w : World) :
    ∃ cap w1, (convert 9 22 (.string s)).run Try.prog w = .ok (.slice (some ⟨w.heap.size, 0, none⟩) (RN s) cap) w1 ∧ (∀ j, j < RN s → w1.cell? ⟨w.heap.size, j, none⟩ = some (.int .i32 (RX s j))) ∧ Below w.heap.size w w1 ∧ w1.heap.size = w.heap.size + 1 := by
  have hle := RN_le s
  refine ⟨_, _, run_runes_of_string (P := Try.prog) w 9 22 21 s Try.underlying9 Try.underlying22 Try.underlying21 (by show RN s ≤ _; omega), ?_, ?_, ?_⟩
  · intro j hj
    have e : w.heap.size = w.drew.heap.size := rfl
    rw [e, World.cell?_alloc_mark, Array.getElem?_append_left (by exact hj)]
    exact RV_at s j hj
  · exact (Below.refl _ _).drew.alloc (Nat.le_refl _) _
  · show (w.heap.push _).size = _
    simp

end Go.Proofs.Qxb6601098a
