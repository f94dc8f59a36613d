/-
  No cell of these rows narrows 'for every input' (looked for: loops, veiled, ifaces, maps, wideKeys, modest, calm, conditions, laid).
  DERIVED. THE GIVEN ROWS OF THIS SEAT. 1 by the template 'for every input the law returns true; each argument reads behind the call as it read before'; 0 by the template 'total and deterministic' (their statements: Qxb6000030aTotals.lean).
  GIVEN WITH THE SEED: the statements are not yours to turn. If you find one false, say at which input.
  Laid BY PROGRAM, IN A SANDBOX (cutbox-rows.mjs): the forced cells as the released guide's own fill.sh prints them over the translation 02ea5c05c267a0d7… (all of the seat's roots in one cut). By AI agents, Wed Nov 11 2026. No macro, syntax, notation, axiom, sorry.
-/
import Derived.Test.Qxb6000030aChecked
import GoSem.Claim
import GoSem.ClaimJoined
import GoSem.ClaimMapViews
import Derived.JoinedTies
import Derived.KernelRfl
namespace Go.Proofs.Qxb6000030a
/- THE CELL 'sum', in the pinned program and in every row, IS THE sha256 OF THE DUMP (.gsa) THAT Qxb6000030aProg.lean LOADS. Nothing in Lean hashes anything: it is a label: what it is worth is what the hold of that sum in a sandbox is worth. -/
noncomputable def Try.pinned : Pinned := { name := "qxb6000030a", sum := "02ea5c05c267a0d77366eaaddc7c25747bf9b760534c6031ca776274a64001cd", checked := Try.checked }
namespace Rows
def none {H : Type} : Left H := { results := [], args := [] }

/-- 'zzlaws_internal_supervise_b1.FnFirstLineStringDoneIgnoredCutExtends': WHATEVER THE INPUT: true; the input reads as it did. -/
def fnFirstLineStringDoneIgnoredCutExtendsSpec : ChangeSpec := { name := "fnFirstLineStringDoneIgnoredCutExtends", fn := fun _ => fun
  | [d] => { results := [.lit (.bool true)], args := [d] }
  | _ => none }
def fnFirstLineStringDoneIgnoredCutExtendsRow : OpenClaim := { program := "qxb6000030a", sum := "02ea5c05c267a0d77366eaaddc7c25747bf9b760534c6031ca776274a64001cd", func := "example.com/shelfmark/shelfmark/zzlaws_internal_supervise_b1.FnFirstLineStringDoneIgnoredCutExtends", spec := "fnFirstLineStringDoneIgnoredCutExtends", apart := false }
def FnFirstLineStringDoneIgnoredCutExtendsSaid : Prop := fnFirstLineStringDoneIgnoredCutExtendsRow.holds Try.pinned (OpenSpec.ofChange fnFirstLineStringDoneIgnoredCutExtendsSpec)

/-- ITS FALSE NEIGHBOUR: 'it returns false'. Refute it at one input. -/
def fnFirstLineStringDoneIgnoredCutExtendsWrong : ChangeSpec := { name := "fnFirstLineStringDoneIgnoredCutExtends", fn := fun _ => fun
  | [d] => { results := [.lit (.bool false)], args := [d] }
  | _ => none }
def FnFirstLineStringDoneIgnoredCutExtendsWrongFalsely : Prop := fnFirstLineStringDoneIgnoredCutExtendsRow.holds Try.pinned (OpenSpec.ofChange fnFirstLineStringDoneIgnoredCutExtendsWrong)

end Rows
end Go.Proofs.Qxb6000030a
