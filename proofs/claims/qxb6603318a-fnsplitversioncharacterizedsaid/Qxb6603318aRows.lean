/-
  No cell of these rows narrows 'for every input' (looked for: loops, veiled, ifaces, maps, wideKeys, modest, calm, conditions, laid).
  DERIVED. THE GIVEN ROWS OF THIS SEAT. 1 by the template 'for every input the law returns true; each argument reads behind the call as it read before'; 0 by the template 'total and deterministic' (their statements: Qxb6603318aTotals.lean).
  GIVEN WITH THE SEED: the statements are not yours to turn. If you find one false, say at which input.
  Laid BY PROGRAM, IN A SANDBOX (cutbox-rows.mjs): the forced cells as the released guide's own fill.sh prints them over the translation e264cd573a0f7458… (all of the seat's roots in one cut). By AI agents, Wed Nov 11 2026. No macro, syntax, notation, axiom, sorry.
-/
import Derived.Test.Qxb6603318aChecked
import GoSem.Claim
import GoSem.ClaimJoined
import GoSem.ClaimMapViews
import Derived.JoinedTies
import Derived.KernelRfl
namespace Go.Proofs.Qxb6603318a
/- THE CELL 'sum', in the pinned program and in every row, IS THE sha256 OF THE DUMP (.gsa) THAT Qxb6603318aProg.lean LOADS. Nothing in Lean hashes anything: it is a label: what it is worth is what the hold of that sum in a sandbox is worth. -/
noncomputable def Try.pinned : Pinned := { name := "qxb6603318a", sum := "e264cd573a0f7458ea32e39f23cd2581328f0fe7c26a333862abff1ae14e7796", checked := Try.checked }
namespace Rows
def none {H : Type} : Left H := { results := [], args := [] }

/-- 'zzlaws_internal_control_b1.FnSplitVersionCharacterized': WHATEVER THE INPUT: true; the input reads as it did. -/
def fnSplitVersionCharacterizedSpec : ChangeSpec := { name := "fnSplitVersionCharacterized", fn := fun _ => fun
  | [d] => { results := [.lit (.bool true)], args := [d] }
  | _ => none }
def fnSplitVersionCharacterizedRow : OpenClaim := { program := "qxb6603318a", sum := "e264cd573a0f7458ea32e39f23cd2581328f0fe7c26a333862abff1ae14e7796", func := "example.com/hookwright/hookwright/zzlaws_internal_control_b1.FnSplitVersionCharacterized", spec := "fnSplitVersionCharacterized", inPlace := ["internal/bytealg.IndexByteString", "internal/bytealg.IndexString"], named := ["internal/bytealg.MaxLen"], apart := false }
def FnSplitVersionCharacterizedSaid : Prop := fnSplitVersionCharacterizedRow.holds Try.pinned (OpenSpec.ofChange fnSplitVersionCharacterizedSpec)

/-- ITS FALSE NEIGHBOUR: 'it returns false'. Refute it at one input. -/
def fnSplitVersionCharacterizedWrong : ChangeSpec := { name := "fnSplitVersionCharacterized", fn := fun _ => fun
  | [d] => { results := [.lit (.bool false)], args := [d] }
  | _ => none }
def FnSplitVersionCharacterizedWrongFalsely : Prop := fnSplitVersionCharacterizedRow.holds Try.pinned (OpenSpec.ofChange fnSplitVersionCharacterizedWrong)

end Rows
end Go.Proofs.Qxb6603318a
