/-
  No cell of these rows narrows 'for every input' (looked for: loops, veiled, ifaces, maps, wideKeys, modest, calm, conditions, laid).
  DERIVED. THE GIVEN ROWS OF THIS SEAT. 1 by the template 'for every input the law returns true; each argument reads behind the call as it read before'; 0 by the template 'total and deterministic' (their statements: Qxb6609418aTotals.lean).
  GIVEN WITH THE SEED: the statements are not yours to turn. If you find one false, say at which input.
  Laid BY PROGRAM, IN A SANDBOX (cutbox-rows.mjs): the forced cells as the released guide's own fill.sh prints them over the translation 18ef384d2b654ff1… (all of the seat's roots in one cut). By AI agents, Wed Nov 11 2026. No macro, syntax, notation, axiom, sorry.
-/
import Derived.Test.Qxb6609418aChecked
import GoSem.Claim
import GoSem.ClaimJoined
import GoSem.ClaimMapViews
import Derived.JoinedTies
import Derived.KernelRfl
namespace Go.Proofs.Qxb6609418a
/- THE CELL 'sum', in the pinned program and in every row, IS THE sha256 OF THE DUMP (.gsa) THAT Qxb6609418aProg.lean LOADS. Nothing in Lean hashes anything: it is a label: what it is worth is what the hold of that sum in a sandbox is worth. -/
noncomputable def Try.pinned : Pinned := { name := "qxb6609418a", sum := "18ef384d2b654ff140517506377cd652fa3c53bf7a493799e3046c18ddb35154", checked := Try.checked }
namespace Rows
def none {H : Type} : Left H := { results := [], args := [] }

/-- 'zzlaws_internal_apacheconf_b1.FnExpandReadsBackAName': WHATEVER THE INPUT: true; the input reads as it did. -/
def fnExpandReadsBackANameSpec : ChangeSpec := { name := "fnExpandReadsBackAName", fn := fun _ => fun
  | [d1, d2, d3] => { results := [.lit (.bool true)], args := [d1, d2, d3] }
  | _ => none }
def fnExpandReadsBackANameRow : OpenClaim := { program := "qxb6609418a", sum := "18ef384d2b654ff140517506377cd652fa3c53bf7a493799e3046c18ddb35154", func := "example.com/hostwarden/hostwarden/zzlaws_internal_apacheconf_b1.FnExpandReadsBackAName", spec := "fnExpandReadsBackAName", inPlace := ["internal/bytealg.IndexByteString"], unfollowed := true, recurses := true, apart := false }
def FnExpandReadsBackANameSaid : Prop := fnExpandReadsBackANameRow.holds Try.pinned (OpenSpec.ofChange fnExpandReadsBackANameSpec)

/-- ITS FALSE NEIGHBOUR: 'it returns false'. Refute it at one input. -/
def fnExpandReadsBackANameWrong : ChangeSpec := { name := "fnExpandReadsBackAName", fn := fun _ => fun
  | [d1, d2, d3] => { results := [.lit (.bool false)], args := [d1, d2, d3] }
  | _ => none }
def FnExpandReadsBackANameWrongFalsely : Prop := fnExpandReadsBackANameRow.holds Try.pinned (OpenSpec.ofChange fnExpandReadsBackANameWrong)

end Rows
end Go.Proofs.Qxb6609418a
