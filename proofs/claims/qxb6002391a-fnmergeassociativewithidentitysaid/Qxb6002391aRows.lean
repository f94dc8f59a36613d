/-
  No cell of these rows narrows 'for every input' (looked for: loops, veiled, ifaces, maps, wideKeys, modest, calm, conditions, laid).
  DERIVED. THE GIVEN ROWS OF THIS SEAT. 3 by the template 'for every input the law returns true; each argument reads behind the call as it read before'; 0 by the template 'total and deterministic' (their statements: Qxb6002391aTotals.lean).
  GIVEN WITH THE SEED: the statements are not yours to turn. If you find one false, say at which input.
  Laid BY PROGRAM, IN A SANDBOX (cutbox-rows.mjs): the forced cells as the released guide's own fill.sh prints them over the translation 44600292deb26003… (all of the seat's roots in one cut). By AI agents, Wed Nov 11 2026. No macro, syntax, notation, axiom, sorry.
-/
import Derived.Test.Qxb6002391aChecked
import GoSem.Claim
import GoSem.ClaimJoined
import GoSem.ClaimMapViews
import Derived.JoinedTies
import Derived.KernelRfl
namespace Go.Proofs.Qxb6002391a
/- THE CELL 'sum', in the pinned program and in every row, IS THE sha256 OF THE DUMP (.gsa) THAT Qxb6002391aProg.lean LOADS. Nothing in Lean hashes anything: it is a label: what it is worth is what the hold of that sum in a sandbox is worth. -/
noncomputable def Try.pinned : Pinned := { name := "qxb6002391a", sum := "44600292deb26003c1403a07fd032698f11ece3ff02e7a0ebfedb14dc8927e51", checked := Try.checked }
namespace Rows
def none {H : Type} : Left H := { results := [], args := [] }

/-- 'zzlaws_internal_yaml_g1.FnMergeSpec': WHATEVER THE INPUT: true; the input reads as it did. -/
def fnMergeSpecSpec : ChangeSpec := { name := "fnMergeSpec", fn := fun _ => fun
  | [d1, d2] => { results := [.lit (.bool true)], args := [d1, d2] }
  | _ => none }
def fnMergeSpecRow : OpenClaim := { program := "qxb6002391a", sum := "44600292deb26003c1403a07fd032698f11ece3ff02e7a0ebfedb14dc8927e51", func := "example.com/oropendola/oropendola/zzlaws_internal_yaml_g1.FnMergeSpec", spec := "fnMergeSpec", apart := false }
def FnMergeSpecSaid : Prop := fnMergeSpecRow.holds Try.pinned (OpenSpec.ofChange fnMergeSpecSpec)

/-- ITS FALSE NEIGHBOUR: 'it returns false'. Refute it at one input. -/
def fnMergeSpecWrong : ChangeSpec := { name := "fnMergeSpec", fn := fun _ => fun
  | [d1, d2] => { results := [.lit (.bool false)], args := [d1, d2] }
  | _ => none }
def FnMergeSpecWrongFalsely : Prop := fnMergeSpecRow.holds Try.pinned (OpenSpec.ofChange fnMergeSpecWrong)

/-- 'zzlaws_internal_yaml_g1.FnMergeOrderFree': WHATEVER THE INPUT: true; the input reads as it did. -/
def fnMergeOrderFreeSpec : ChangeSpec := { name := "fnMergeOrderFree", fn := fun _ => fun
  | [d1, d2] => { results := [.lit (.bool true)], args := [d1, d2] }
  | _ => none }
def fnMergeOrderFreeRow : OpenClaim := { program := "qxb6002391a", sum := "44600292deb26003c1403a07fd032698f11ece3ff02e7a0ebfedb14dc8927e51", func := "example.com/oropendola/oropendola/zzlaws_internal_yaml_g1.FnMergeOrderFree", spec := "fnMergeOrderFree", apart := false }
def FnMergeOrderFreeSaid : Prop := fnMergeOrderFreeRow.holds Try.pinned (OpenSpec.ofChange fnMergeOrderFreeSpec)

/-- ITS FALSE NEIGHBOUR: 'it returns false'. Refute it at one input. -/
def fnMergeOrderFreeWrong : ChangeSpec := { name := "fnMergeOrderFree", fn := fun _ => fun
  | [d1, d2] => { results := [.lit (.bool false)], args := [d1, d2] }
  | _ => none }
def FnMergeOrderFreeWrongFalsely : Prop := fnMergeOrderFreeRow.holds Try.pinned (OpenSpec.ofChange fnMergeOrderFreeWrong)

/-- 'zzlaws_internal_yaml_g1.FnMergeAssociativeWithIdentity': WHATEVER THE INPUT: true; the input reads as it did. -/
def fnMergeAssociativeWithIdentitySpec : ChangeSpec := { name := "fnMergeAssociativeWithIdentity", fn := fun _ => fun
  | [d1, d2, d3] => { results := [.lit (.bool true)], args := [d1, d2, d3] }
  | _ => none }
def fnMergeAssociativeWithIdentityRow : OpenClaim := { program := "qxb6002391a", sum := "44600292deb26003c1403a07fd032698f11ece3ff02e7a0ebfedb14dc8927e51", func := "example.com/oropendola/oropendola/zzlaws_internal_yaml_g1.FnMergeAssociativeWithIdentity", spec := "fnMergeAssociativeWithIdentity", apart := false }
def FnMergeAssociativeWithIdentitySaid : Prop := fnMergeAssociativeWithIdentityRow.holds Try.pinned (OpenSpec.ofChange fnMergeAssociativeWithIdentitySpec)

/-- ITS FALSE NEIGHBOUR: 'it returns false'. Refute it at one input. -/
def fnMergeAssociativeWithIdentityWrong : ChangeSpec := { name := "fnMergeAssociativeWithIdentity", fn := fun _ => fun
  | [d1, d2, d3] => { results := [.lit (.bool false)], args := [d1, d2, d3] }
  | _ => none }
def FnMergeAssociativeWithIdentityWrongFalsely : Prop := fnMergeAssociativeWithIdentityRow.holds Try.pinned (OpenSpec.ofChange fnMergeAssociativeWithIdentityWrong)

end Rows
end Go.Proofs.Qxb6002391a
