/-
  No cell of these rows narrows 'for every input' (looked for: loops, veiled, ifaces, maps, wideKeys, modest, calm, conditions, laid).
  DERIVED. THE GIVEN ROWS OF THIS SEAT. 1 by the template 'for every input the law returns true; each argument reads behind the call as it read before'; 0 by the template 'total and deterministic' (their statements: Qxb6615887aTotals.lean).
  GIVEN WITH THE SEED: the statements are not yours to turn. If you find one false, say at which input.
  Laid BY PROGRAM, IN A SANDBOX (cutbox-rows.mjs): the forced cells as the released guide's own fill.sh prints them over the translation 8215c0875851769e… (all of the seat's roots in one cut). By AI agents, Wed Nov 11 2026. No macro, syntax, notation, axiom, sorry.
-/
import Derived.Test.Qxb6615887aChecked
import GoSem.Claim
import GoSem.ClaimJoined
import GoSem.ClaimMapViews
import Derived.JoinedTies
import Derived.KernelRfl
namespace Go.Proofs.Qxb6615887a
/- THE CELL 'sum', in the pinned program and in every row, IS THE sha256 OF THE DUMP (.gsa) THAT Qxb6615887aProg.lean LOADS. Nothing in Lean hashes anything: it is a label: what it is worth is what the hold of that sum in a sandbox is worth. -/
noncomputable def Try.pinned : Pinned := { name := "qxb6615887a", sum := "8215c0875851769ee4733d9e0a164bd324935bb5de035543dd24d0d3567c0888", checked := Try.checked }
namespace Rows
def none {H : Type} : Left H := { results := [], args := [] }

/-- 'zzlaws_internal_schedule_b1.FnWorkedOutAdvanceMeetsArrears': WHATEVER THE INPUT: true; the input reads as it did. -/
def fnWorkedOutAdvanceMeetsArrearsSpec : ChangeSpec := { name := "fnWorkedOutAdvanceMeetsArrears", fn := fun _ => fun
  | [d1, d2, d3, d4, d5, d6] => { results := [.lit (.bool true)], args := [d1, d2, d3, d4, d5, d6] }
  | _ => none }
def fnWorkedOutAdvanceMeetsArrearsRow : OpenClaim := { program := "qxb6615887a", sum := "8215c0875851769ee4733d9e0a164bd324935bb5de035543dd24d0d3567c0888", func := "example.com/drawdown/drawdown/zzlaws_internal_schedule_b1.FnWorkedOutAdvanceMeetsArrears", spec := "fnWorkedOutAdvanceMeetsArrears", apart := false }
def FnWorkedOutAdvanceMeetsArrearsSaid : Prop := fnWorkedOutAdvanceMeetsArrearsRow.holds Try.pinned (OpenSpec.ofChange fnWorkedOutAdvanceMeetsArrearsSpec)

/-- ITS FALSE NEIGHBOUR: 'it returns false'. Refute it at one input. -/
def fnWorkedOutAdvanceMeetsArrearsWrong : ChangeSpec := { name := "fnWorkedOutAdvanceMeetsArrears", fn := fun _ => fun
  | [d1, d2, d3, d4, d5, d6] => { results := [.lit (.bool false)], args := [d1, d2, d3, d4, d5, d6] }
  | _ => none }
def FnWorkedOutAdvanceMeetsArrearsWrongFalsely : Prop := fnWorkedOutAdvanceMeetsArrearsRow.holds Try.pinned (OpenSpec.ofChange fnWorkedOutAdvanceMeetsArrearsWrong)

end Rows
end Go.Proofs.Qxb6615887a
