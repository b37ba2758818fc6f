/-
  No cell of these rows narrows 'for every input' (looked for: loops, veiled, ifaces, maps, wideKeys, modest, calm, conditions, laid).
  DERIVED. THE GIVEN ROWS OF THIS SEAT. 1 by the template 'for every input the law returns true; each argument reads behind the call as it read before'; 0 by the template 'total and deterministic' (their statements: Qxb6617643aTotals.lean).
  GIVEN WITH THE SEED: the statements are not yours to turn. If you find one false, say at which input.
  Laid BY PROGRAM, IN A SANDBOX (cutbox-rows.mjs): the forced cells as the released guide's own fill.sh prints them over the translation 2f00537416911b4f… (all of the seat's roots in one cut). By AI agents, Wed Nov 11 2026. No macro, syntax, notation, axiom, sorry.
-/
import Derived.Test.Qxb6617643aChecked
import GoSem.Claim
import GoSem.ClaimJoined
import GoSem.ClaimMapViews
import Derived.JoinedTies
import Derived.KernelRfl
namespace Go.Proofs.Qxb6617643a
/- THE CELL 'sum', in the pinned program and in every row, IS THE sha256 OF THE DUMP (.gsa) THAT Qxb6617643aProg.lean LOADS. Nothing in Lean hashes anything: it is a label: what it is worth is what the hold of that sum in a sandbox is worth. -/
noncomputable def Try.pinned : Pinned := { name := "qxb6617643a", sum := "2f00537416911b4ff4b3f1801a8d1374fbd22e1f645593598f36ad31f0fa8ee2", checked := Try.checked }
namespace Rows
def none {H : Type} : Left H := { results := [], args := [] }

/-- 'zzlaws_root_b1.FnNoteTextSplitsAtAnyCut': WHATEVER THE INPUT: true; the input reads as it did. -/
def fnNoteTextSplitsAtAnyCutSpec : ChangeSpec := { name := "fnNoteTextSplitsAtAnyCut", fn := fun _ => fun
  | [d1, d2, d3, d4] => { results := [.lit (.bool true)], args := [d1, d2, d3, d4] }
  | _ => none }
def fnNoteTextSplitsAtAnyCutRow : OpenClaim := { program := "qxb6617643a", sum := "2f00537416911b4ff4b3f1801a8d1374fbd22e1f645593598f36ad31f0fa8ee2", func := "example.com/wiretag/wiretag/zzlaws_root_b1.FnNoteTextSplitsAtAnyCut", spec := "fnNoteTextSplitsAtAnyCut", inPlace := ["internal/abi.NoEscape", "internal/bytealg.MakeNoZero"], apart := false }
def FnNoteTextSplitsAtAnyCutSaid : Prop := fnNoteTextSplitsAtAnyCutRow.holds Try.pinned (OpenSpec.ofChange fnNoteTextSplitsAtAnyCutSpec)

/-- ITS FALSE NEIGHBOUR: 'it returns false'. Refute it at one input. -/
def fnNoteTextSplitsAtAnyCutWrong : ChangeSpec := { name := "fnNoteTextSplitsAtAnyCut", fn := fun _ => fun
  | [d1, d2, d3, d4] => { results := [.lit (.bool false)], args := [d1, d2, d3, d4] }
  | _ => none }
def FnNoteTextSplitsAtAnyCutWrongFalsely : Prop := fnNoteTextSplitsAtAnyCutRow.holds Try.pinned (OpenSpec.ofChange fnNoteTextSplitsAtAnyCutWrong)

end Rows
end Go.Proofs.Qxb6617643a
