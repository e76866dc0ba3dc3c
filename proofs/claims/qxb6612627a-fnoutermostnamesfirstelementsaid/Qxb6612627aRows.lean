/-
  No cell of these rows narrows 'for every input' (looked for: loops, veiled, ifaces, maps, wideKeys, modest, calm, conditions, laid).
  DERIVED. THE GIVEN ROWS OF THIS SEAT. 3 by the template 'for every input the law returns true; each argument reads behind the call as it read before'; 0 by the template 'total and deterministic' (their statements: Qxb6612627aTotals.lean).
  GIVEN WITH THE SEED: the statements are not yours to turn. If you find one false, say at which input.
  Laid BY PROGRAM, IN A SANDBOX (cutbox-rows.mjs): the forced cells as the released guide's own fill.sh prints them over the translation c0036713befb8e2a… (all of the seat's roots in one cut). By AI agents, Wed Nov 11 2026. No macro, syntax, notation, axiom, sorry.
-/
import Derived.Test.Qxb6612627aChecked
import GoSem.Claim
import GoSem.ClaimJoined
import GoSem.ClaimMapViews
import Derived.JoinedTies
import Derived.KernelRfl
namespace Go.Proofs.Qxb6612627a
/- THE CELL 'sum', in the pinned program and in every row, IS THE sha256 OF THE DUMP (.gsa) THAT Qxb6612627aProg.lean LOADS. Nothing in Lean hashes anything: it is a label: what it is worth is what the hold of that sum in a sandbox is worth. -/
noncomputable def Try.pinned : Pinned := { name := "qxb6612627a", sum := "c0036713befb8e2ab678fd96d101b6da96b84484ba574cc7532bab5de9ebfbb6", checked := Try.checked }
namespace Rows
def none {H : Type} : Left H := { results := [], args := [] }

/-- 'zzlaws_root_b1.FnOutermostNamesFirstElement': WHATEVER THE INPUT: true; the input reads as it did. -/
def fnOutermostNamesFirstElementSpec : ChangeSpec := { name := "fnOutermostNamesFirstElement", fn := fun _ => fun
  | [d] => { results := [.lit (.bool true)], args := [d] }
  | _ => none }
def fnOutermostNamesFirstElementRow : OpenClaim := { program := "qxb6612627a", sum := "c0036713befb8e2ab678fd96d101b6da96b84484ba574cc7532bab5de9ebfbb6", func := "example.com/default-escaping/default-escaping/zzlaws_root_b1.FnOutermostNamesFirstElement", spec := "fnOutermostNamesFirstElement", inPlace := ["internal/bytealg.IndexByteString", "internal/bytealg.IndexString"], named := ["internal/bytealg.MaxLen"], apart := false }
def FnOutermostNamesFirstElementSaid : Prop := fnOutermostNamesFirstElementRow.holds Try.pinned (OpenSpec.ofChange fnOutermostNamesFirstElementSpec)

/-- ITS FALSE NEIGHBOUR: 'it returns false'. Refute it at one input. -/
def fnOutermostNamesFirstElementWrong : ChangeSpec := { name := "fnOutermostNamesFirstElement", fn := fun _ => fun
  | [d] => { results := [.lit (.bool false)], args := [d] }
  | _ => none }
def FnOutermostNamesFirstElementWrongFalsely : Prop := fnOutermostNamesFirstElementRow.holds Try.pinned (OpenSpec.ofChange fnOutermostNamesFirstElementWrong)

/-- 'zzlaws_root_b1.FnOutermostUnmovedByDeeperElements': WHATEVER THE INPUT: true; the input reads as it did. -/
def fnOutermostUnmovedByDeeperElementsSpec : ChangeSpec := { name := "fnOutermostUnmovedByDeeperElements", fn := fun _ => fun
  | [d1, d2] => { results := [.lit (.bool true)], args := [d1, d2] }
  | _ => none }
def fnOutermostUnmovedByDeeperElementsRow : OpenClaim := { program := "qxb6612627a", sum := "c0036713befb8e2ab678fd96d101b6da96b84484ba574cc7532bab5de9ebfbb6", func := "example.com/default-escaping/default-escaping/zzlaws_root_b1.FnOutermostUnmovedByDeeperElements", spec := "fnOutermostUnmovedByDeeperElements", inPlace := ["internal/bytealg.IndexByteString", "internal/bytealg.IndexString"], named := ["internal/bytealg.MaxLen"], apart := false }
def FnOutermostUnmovedByDeeperElementsSaid : Prop := fnOutermostUnmovedByDeeperElementsRow.holds Try.pinned (OpenSpec.ofChange fnOutermostUnmovedByDeeperElementsSpec)

/-- ITS FALSE NEIGHBOUR: 'it returns false'. Refute it at one input. -/
def fnOutermostUnmovedByDeeperElementsWrong : ChangeSpec := { name := "fnOutermostUnmovedByDeeperElements", fn := fun _ => fun
  | [d1, d2] => { results := [.lit (.bool false)], args := [d1, d2] }
  | _ => none }
def FnOutermostUnmovedByDeeperElementsWrongFalsely : Prop := fnOutermostUnmovedByDeeperElementsRow.holds Try.pinned (OpenSpec.ofChange fnOutermostUnmovedByDeeperElementsWrong)

/-- 'zzlaws_root_b1.FnDecodesWhereListOrSchemeOpen': WHATEVER THE INPUT: true; the input reads as it did. -/
def fnDecodesWhereListOrSchemeOpenSpec : ChangeSpec := { name := "fnDecodesWhereListOrSchemeOpen", fn := fun _ => fun
  | [d1, d2, d3, d4] => { results := [.lit (.bool true)], args := [d1, d2, d3, d4] }
  | _ => none }
def fnDecodesWhereListOrSchemeOpenRow : OpenClaim := { program := "qxb6612627a", sum := "c0036713befb8e2ab678fd96d101b6da96b84484ba574cc7532bab5de9ebfbb6", func := "example.com/default-escaping/default-escaping/zzlaws_root_b1.FnDecodesWhereListOrSchemeOpen", spec := "fnDecodesWhereListOrSchemeOpen", apart := false }
def FnDecodesWhereListOrSchemeOpenSaid : Prop := fnDecodesWhereListOrSchemeOpenRow.holds Try.pinned (OpenSpec.ofChange fnDecodesWhereListOrSchemeOpenSpec)

/-- ITS FALSE NEIGHBOUR: 'it returns false'. Refute it at one input. -/
def fnDecodesWhereListOrSchemeOpenWrong : ChangeSpec := { name := "fnDecodesWhereListOrSchemeOpen", fn := fun _ => fun
  | [d1, d2, d3, d4] => { results := [.lit (.bool false)], args := [d1, d2, d3, d4] }
  | _ => none }
def FnDecodesWhereListOrSchemeOpenWrongFalsely : Prop := fnDecodesWhereListOrSchemeOpenRow.holds Try.pinned (OpenSpec.ofChange fnDecodesWhereListOrSchemeOpenWrong)

end Rows
end Go.Proofs.Qxb6612627a
