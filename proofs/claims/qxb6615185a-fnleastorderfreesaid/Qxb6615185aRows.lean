/-
  No cell of these rows narrows 'for every input' (looked for: loops, veiled, ifaces, maps, wideKeys, modest, calm, conditions, laid).
  DERIVED. THE GIVEN ROWS OF THIS SEAT. 2 by the template 'for every input the law returns true; each argument reads behind the call as it read before'; 0 by the template 'total and deterministic' (their statements: Qxb6615185aTotals.lean).
  GIVEN WITH THE SEED: the statements are not yours to turn. If you find one false, say at which input.
  Laid BY PROGRAM, IN A SANDBOX (cutbox-rows.mjs): the forced cells as the released guide's own fill.sh prints them over the translation a31df0e03029e203… (all of the seat's roots in one cut). By AI agents, Wed Nov 11 2026. No macro, syntax, notation, axiom, sorry.
-/
import Derived.Test.Qxb6615185aChecked
import GoSem.Claim
import GoSem.ClaimJoined
import GoSem.ClaimMapViews
import Derived.JoinedTies
import Derived.KernelRfl
namespace Go.Proofs.Qxb6615185a
/- THE CELL 'sum', in the pinned program and in every row, IS THE sha256 OF THE DUMP (.gsa) THAT Qxb6615185aProg.lean LOADS. Nothing in Lean hashes anything: it is a label: what it is worth is what the hold of that sum in a sandbox is worth. -/
noncomputable def Try.pinned : Pinned := { name := "qxb6615185a", sum := "a31df0e03029e2039cffd637e356e21ff2f7a366e18f443bdc36c048cd592446", checked := Try.checked }
namespace Rows
def none {H : Type} : Left H := { results := [], args := [] }

/-- 'zzlaws_internal_online_b1.FnLeastOrderFree': WHATEVER THE INPUT: true; the input reads as it did. -/
def fnLeastOrderFreeSpec : ChangeSpec := { name := "fnLeastOrderFree", fn := fun _ => fun
  | [d1, d2, d3, d4, d5, d6, d7] => { results := [.lit (.bool true)], args := [d1, d2, d3, d4, d5, d6, d7] }
  | _ => none }
def fnLeastOrderFreeRow : OpenClaim := { program := "qxb6615185a", sum := "a31df0e03029e2039cffd637e356e21ff2f7a366e18f443bdc36c048cd592446", func := "example.com/loadline/loadline/zzlaws_internal_online_b1.FnLeastOrderFree", spec := "fnLeastOrderFree", inPlace := ["math.Float64frombits", "math.Float64bits"], unfollowed := true, recurses := true, apart := false }
def FnLeastOrderFreeSaid : Prop := fnLeastOrderFreeRow.holds Try.pinned (OpenSpec.ofChange fnLeastOrderFreeSpec)

/-- ITS FALSE NEIGHBOUR: 'it returns false'. Refute it at one input. -/
def fnLeastOrderFreeWrong : ChangeSpec := { name := "fnLeastOrderFree", fn := fun _ => fun
  | [d1, d2, d3, d4, d5, d6, d7] => { results := [.lit (.bool false)], args := [d1, d2, d3, d4, d5, d6, d7] }
  | _ => none }
def FnLeastOrderFreeWrongFalsely : Prop := fnLeastOrderFreeRow.holds Try.pinned (OpenSpec.ofChange fnLeastOrderFreeWrong)

/-- 'zzlaws_internal_online_b1.FnLeastIsOrderStatistic': WHATEVER THE INPUT: true; the input reads as it did. -/
def fnLeastIsOrderStatisticSpec : ChangeSpec := { name := "fnLeastIsOrderStatistic", fn := fun _ => fun
  | [d1, d2, d3, d4, d5, d6] => { results := [.lit (.bool true)], args := [d1, d2, d3, d4, d5, d6] }
  | _ => none }
def fnLeastIsOrderStatisticRow : OpenClaim := { program := "qxb6615185a", sum := "a31df0e03029e2039cffd637e356e21ff2f7a366e18f443bdc36c048cd592446", func := "example.com/loadline/loadline/zzlaws_internal_online_b1.FnLeastIsOrderStatistic", spec := "fnLeastIsOrderStatistic", inPlace := ["math.Float64frombits", "math.Float64bits"], unfollowed := true, recurses := true, apart := false }
def FnLeastIsOrderStatisticSaid : Prop := fnLeastIsOrderStatisticRow.holds Try.pinned (OpenSpec.ofChange fnLeastIsOrderStatisticSpec)

/-- ITS FALSE NEIGHBOUR: 'it returns false'. Refute it at one input. -/
def fnLeastIsOrderStatisticWrong : ChangeSpec := { name := "fnLeastIsOrderStatistic", fn := fun _ => fun
  | [d1, d2, d3, d4, d5, d6] => { results := [.lit (.bool false)], args := [d1, d2, d3, d4, d5, d6] }
  | _ => none }
def FnLeastIsOrderStatisticWrongFalsely : Prop := fnLeastIsOrderStatisticRow.holds Try.pinned (OpenSpec.ofChange fnLeastIsOrderStatisticWrong)

end Rows
end Go.Proofs.Qxb6615185a
