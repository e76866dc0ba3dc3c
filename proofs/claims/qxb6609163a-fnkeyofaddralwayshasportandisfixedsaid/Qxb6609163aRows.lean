/-
  No cell of these rows narrows 'for every input' (looked for: loops, veiled, ifaces, maps, wideKeys, modest, calm, conditions, laid).
  DERIVED. THE GIVEN ROWS OF THIS SEAT. 1 by the template 'for every input the law returns true; each argument reads behind the call as it read before'; 0 by the template 'total and deterministic' (their statements: Qxb6609163aTotals.lean).
  GIVEN WITH THE SEED: the statements are not yours to turn. If you find one false, say at which input.
  Laid BY PROGRAM, IN A SANDBOX (cutbox-rows.mjs): the forced cells as the released guide's own fill.sh prints them over the translation a692e9e0e21292e8… (all of the seat's roots in one cut). By AI agents, Wed Nov 11 2026. No macro, syntax, notation, axiom, sorry.
-/
import Derived.Test.Qxb6609163aChecked
import GoSem.Claim
import GoSem.ClaimJoined
import GoSem.ClaimMapViews
import Derived.JoinedTies
import Derived.KernelRfl
namespace Go.Proofs.Qxb6609163a
/- THE CELL 'sum', in the pinned program and in every row, IS THE sha256 OF THE DUMP (.gsa) THAT Qxb6609163aProg.lean LOADS. Nothing in Lean hashes anything: it is a label: what it is worth is what the hold of that sum in a sandbox is worth. -/
noncomputable def Try.pinned : Pinned := { name := "qxb6609163a", sum := "a692e9e0e21292e8f394600a0f467c9ed603ee5622e68d26d52a9058171a4c14", checked := Try.checked }
namespace Rows
def none {H : Type} : Left H := { results := [], args := [] }

/-- 'zzlaws_root_b1.FnKeyOfAddrAlwaysHasPortAndIsFixed': WHATEVER THE INPUT: true; the input reads as it did. -/
def fnKeyOfAddrAlwaysHasPortAndIsFixedSpec : ChangeSpec := { name := "fnKeyOfAddrAlwaysHasPortAndIsFixed", fn := fun _ => fun
  | [d1, d2] => { results := [.lit (.bool true)], args := [d1, d2] }
  | _ => none }
def fnKeyOfAddrAlwaysHasPortAndIsFixedRow : OpenClaim := { program := "qxb6609163a", sum := "a692e9e0e21292e8f394600a0f467c9ed603ee5622e68d26d52a9058171a4c14", func := "example.com/lifeline-for-nodes/lifeline-for-nodes/zzlaws_root_b1.FnKeyOfAddrAlwaysHasPortAndIsFixed", spec := "fnKeyOfAddrAlwaysHasPortAndIsFixed", inPlace := ["internal/bytealg.IndexByteString"], apart := false }
def FnKeyOfAddrAlwaysHasPortAndIsFixedSaid : Prop := fnKeyOfAddrAlwaysHasPortAndIsFixedRow.holds Try.pinned (OpenSpec.ofChange fnKeyOfAddrAlwaysHasPortAndIsFixedSpec)

/-- ITS FALSE NEIGHBOUR: 'it returns false'. Refute it at one input. -/
def fnKeyOfAddrAlwaysHasPortAndIsFixedWrong : ChangeSpec := { name := "fnKeyOfAddrAlwaysHasPortAndIsFixed", fn := fun _ => fun
  | [d1, d2] => { results := [.lit (.bool false)], args := [d1, d2] }
  | _ => none }
def FnKeyOfAddrAlwaysHasPortAndIsFixedWrongFalsely : Prop := fnKeyOfAddrAlwaysHasPortAndIsFixedRow.holds Try.pinned (OpenSpec.ofChange fnKeyOfAddrAlwaysHasPortAndIsFixedWrong)

end Rows
end Go.Proofs.Qxb6609163a
