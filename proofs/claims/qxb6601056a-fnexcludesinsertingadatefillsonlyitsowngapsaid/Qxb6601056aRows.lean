/-
  No cell of these rows narrows 'for every input' (looked for: loops, veiled, ifaces, maps, wideKeys, modest, calm, conditions, laid).
  DERIVED. THE GIVEN ROWS OF THIS SEAT. 3 by the template 'for every input the law returns true; each argument reads behind the call as it read before'; 0 by the template 'total and deterministic' (their statements: Qxb6601056aTotals.lean).
  GIVEN WITH THE SEED: the statements are not yours to turn. If you find one false, say at which input.
  Laid BY PROGRAM, IN A SANDBOX (cutbox-rows.mjs): the forced cells as the released guide's own fill.sh prints them over the translation ded3f7681028e0d9… (all of the seat's roots in one cut). By AI agents, Wed Nov 11 2026. No macro, syntax, notation, axiom, sorry.
-/
import Derived.Test.Qxb6601056aChecked
import GoSem.Claim
import GoSem.ClaimJoined
import GoSem.ClaimMapViews
import Derived.JoinedTies
import Derived.KernelRfl
namespace Go.Proofs.Qxb6601056a
/- THE CELL 'sum', in the pinned program and in every row, IS THE sha256 OF THE DUMP (.gsa) THAT Qxb6601056aProg.lean LOADS. Nothing in Lean hashes anything: it is a label: what it is worth is what the hold of that sum in a sandbox is worth. -/
noncomputable def Try.pinned : Pinned := { name := "qxb6601056a", sum := "ded3f7681028e0d9745bea9a557b7261527d64381418adb9e97684c800b21785", checked := Try.checked }
namespace Rows
def none {H : Type} : Left H := { results := [], args := [] }

/-- 'zzlaws_pkg_calendar_b1.FnExcludesIsExactlyAGapBetweenNeighbours': WHATEVER THE INPUT: true; the input reads as it did. -/
def fnExcludesIsExactlyAGapBetweenNeighboursSpec : ChangeSpec := { name := "fnExcludesIsExactlyAGapBetweenNeighbours", fn := fun _ => fun
  | [d1, d2] => { results := [.lit (.bool true)], args := [d1, d2] }
  | _ => none }
def fnExcludesIsExactlyAGapBetweenNeighboursRow : OpenClaim := { program := "qxb6601056a", sum := "ded3f7681028e0d9745bea9a557b7261527d64381418adb9e97684c800b21785", func := "example.com/tuoguan/tuoguan/zzlaws_pkg_calendar_b1.FnExcludesIsExactlyAGapBetweenNeighbours", spec := "fnExcludesIsExactlyAGapBetweenNeighbours", apart := false }
def FnExcludesIsExactlyAGapBetweenNeighboursSaid : Prop := fnExcludesIsExactlyAGapBetweenNeighboursRow.holds Try.pinned (OpenSpec.ofChange fnExcludesIsExactlyAGapBetweenNeighboursSpec)

/-- ITS FALSE NEIGHBOUR: 'it returns false'. Refute it at one input. -/
def fnExcludesIsExactlyAGapBetweenNeighboursWrong : ChangeSpec := { name := "fnExcludesIsExactlyAGapBetweenNeighbours", fn := fun _ => fun
  | [d1, d2] => { results := [.lit (.bool false)], args := [d1, d2] }
  | _ => none }
def FnExcludesIsExactlyAGapBetweenNeighboursWrongFalsely : Prop := fnExcludesIsExactlyAGapBetweenNeighboursRow.holds Try.pinned (OpenSpec.ofChange fnExcludesIsExactlyAGapBetweenNeighboursWrong)

/-- 'zzlaws_pkg_calendar_b1.FnExcludesNeverHoldsOfOwnDatesNorBeyondTheEnds': WHATEVER THE INPUT: true; the input reads as it did. -/
def fnExcludesNeverHoldsOfOwnDatesNorBeyondTheEndsSpec : ChangeSpec := { name := "fnExcludesNeverHoldsOfOwnDatesNorBeyondTheEnds", fn := fun _ => fun
  | [d] => { results := [.lit (.bool true)], args := [d] }
  | _ => none }
def fnExcludesNeverHoldsOfOwnDatesNorBeyondTheEndsRow : OpenClaim := { program := "qxb6601056a", sum := "ded3f7681028e0d9745bea9a557b7261527d64381418adb9e97684c800b21785", func := "example.com/tuoguan/tuoguan/zzlaws_pkg_calendar_b1.FnExcludesNeverHoldsOfOwnDatesNorBeyondTheEnds", spec := "fnExcludesNeverHoldsOfOwnDatesNorBeyondTheEnds", apart := false }
def FnExcludesNeverHoldsOfOwnDatesNorBeyondTheEndsSaid : Prop := fnExcludesNeverHoldsOfOwnDatesNorBeyondTheEndsRow.holds Try.pinned (OpenSpec.ofChange fnExcludesNeverHoldsOfOwnDatesNorBeyondTheEndsSpec)

/-- ITS FALSE NEIGHBOUR: 'it returns false'. Refute it at one input. -/
def fnExcludesNeverHoldsOfOwnDatesNorBeyondTheEndsWrong : ChangeSpec := { name := "fnExcludesNeverHoldsOfOwnDatesNorBeyondTheEnds", fn := fun _ => fun
  | [d] => { results := [.lit (.bool false)], args := [d] }
  | _ => none }
def FnExcludesNeverHoldsOfOwnDatesNorBeyondTheEndsWrongFalsely : Prop := fnExcludesNeverHoldsOfOwnDatesNorBeyondTheEndsRow.holds Try.pinned (OpenSpec.ofChange fnExcludesNeverHoldsOfOwnDatesNorBeyondTheEndsWrong)

/-- 'zzlaws_pkg_calendar_b1.FnExcludesInsertingADateFillsOnlyItsOwnGap': WHATEVER THE INPUT: true; the input reads as it did. -/
def fnExcludesInsertingADateFillsOnlyItsOwnGapSpec : ChangeSpec := { name := "fnExcludesInsertingADateFillsOnlyItsOwnGap", fn := fun _ => fun
  | [d1, d2, d3] => { results := [.lit (.bool true)], args := [d1, d2, d3] }
  | _ => none }
def fnExcludesInsertingADateFillsOnlyItsOwnGapRow : OpenClaim := { program := "qxb6601056a", sum := "ded3f7681028e0d9745bea9a557b7261527d64381418adb9e97684c800b21785", func := "example.com/tuoguan/tuoguan/zzlaws_pkg_calendar_b1.FnExcludesInsertingADateFillsOnlyItsOwnGap", spec := "fnExcludesInsertingADateFillsOnlyItsOwnGap", apart := false }
def FnExcludesInsertingADateFillsOnlyItsOwnGapSaid : Prop := fnExcludesInsertingADateFillsOnlyItsOwnGapRow.holds Try.pinned (OpenSpec.ofChange fnExcludesInsertingADateFillsOnlyItsOwnGapSpec)

/-- ITS FALSE NEIGHBOUR: 'it returns false'. Refute it at one input. -/
def fnExcludesInsertingADateFillsOnlyItsOwnGapWrong : ChangeSpec := { name := "fnExcludesInsertingADateFillsOnlyItsOwnGap", fn := fun _ => fun
  | [d1, d2, d3] => { results := [.lit (.bool false)], args := [d1, d2, d3] }
  | _ => none }
def FnExcludesInsertingADateFillsOnlyItsOwnGapWrongFalsely : Prop := fnExcludesInsertingADateFillsOnlyItsOwnGapRow.holds Try.pinned (OpenSpec.ofChange fnExcludesInsertingADateFillsOnlyItsOwnGapWrong)

end Rows
end Go.Proofs.Qxb6601056a
