/-
  No cell of these rows narrows 'for every input' (looked for: loops, veiled, ifaces, maps, wideKeys, modest, calm, conditions, laid).
  DERIVED. THE GIVEN ROWS OF THIS SEAT. 2 by the template 'for every input the law returns true; each argument reads behind the call as it read before'; 0 by the template 'total and deterministic' (their statements: Qxb6612275aTotals.lean).
  GIVEN WITH THE SEED: the statements are not yours to turn. If you find one false, say at which input.
  Laid BY PROGRAM, IN A SANDBOX (cutbox-rows.mjs): the forced cells as the released guide's own fill.sh prints them over the translation 7b47a08fb0cb221e… (all of the seat's roots in one cut). By AI agents, Wed Nov 11 2026. No macro, syntax, notation, axiom, sorry.
-/
import Derived.Test.Qxb6612275aChecked
import GoSem.Claim
import GoSem.ClaimJoined
import GoSem.ClaimMapViews
import Derived.JoinedTies
import Derived.KernelRfl
namespace Go.Proofs.Qxb6612275a
/- THE CELL 'sum', in the pinned program and in every row, IS THE sha256 OF THE DUMP (.gsa) THAT Qxb6612275aProg.lean LOADS. Nothing in Lean hashes anything: it is a label: what it is worth is what the hold of that sum in a sandbox is worth. -/
noncomputable def Try.pinned : Pinned := { name := "qxb6612275a", sum := "7b47a08fb0cb221eee400355565a3d87abdcbeaf387b79b747aab42460128066", checked := Try.checked }
namespace Rows
def none {H : Type} : Left H := { results := [], args := [] }

/-- 'zzlaws_internal_input_b1.FnQuotedAtExact': WHATEVER THE INPUT: true; the input reads as it did. -/
def fnQuotedAtExactSpec : ChangeSpec := { name := "fnQuotedAtExact", fn := fun _ => fun
  | [d1, d2] => { results := [.lit (.bool true)], args := [d1, d2] }
  | _ => none }
def fnQuotedAtExactRow : OpenClaim := { program := "qxb6612275a", sum := "7b47a08fb0cb221eee400355565a3d87abdcbeaf387b79b747aab42460128066", func := "example.com/chosetsu/chosetsu/zzlaws_internal_input_b1.FnQuotedAtExact", spec := "fnQuotedAtExact", inPlace := ["internal/bytealg.IndexByteString", "internal/bytealg.IndexString", "internal/bytealg.CountString"], named := ["internal/bytealg.MaxLen"], apart := false }
def FnQuotedAtExactSaid : Prop := fnQuotedAtExactRow.holds Try.pinned (OpenSpec.ofChange fnQuotedAtExactSpec)

/-- ITS FALSE NEIGHBOUR: 'it returns false'. Refute it at one input. -/
def fnQuotedAtExactWrong : ChangeSpec := { name := "fnQuotedAtExact", fn := fun _ => fun
  | [d1, d2] => { results := [.lit (.bool false)], args := [d1, d2] }
  | _ => none }
def FnQuotedAtExactWrongFalsely : Prop := fnQuotedAtExactRow.holds Try.pinned (OpenSpec.ofChange fnQuotedAtExactWrong)

/-- 'zzlaws_internal_input_b1.FnQuotedAtReadsWhatQuotingWrote': WHATEVER THE INPUT: true; the input reads as it did. -/
def fnQuotedAtReadsWhatQuotingWroteSpec : ChangeSpec := { name := "fnQuotedAtReadsWhatQuotingWrote", fn := fun _ => fun
  | [d1, d2, d3] => { results := [.lit (.bool true)], args := [d1, d2, d3] }
  | _ => none }
def fnQuotedAtReadsWhatQuotingWroteRow : OpenClaim := { program := "qxb6612275a", sum := "7b47a08fb0cb221eee400355565a3d87abdcbeaf387b79b747aab42460128066", func := "example.com/chosetsu/chosetsu/zzlaws_internal_input_b1.FnQuotedAtReadsWhatQuotingWrote", spec := "fnQuotedAtReadsWhatQuotingWrote", inPlace := ["internal/bytealg.IndexByteString", "internal/bytealg.IndexString", "internal/bytealg.CountString"], named := ["internal/bytealg.MaxLen"], apart := false }
def FnQuotedAtReadsWhatQuotingWroteSaid : Prop := fnQuotedAtReadsWhatQuotingWroteRow.holds Try.pinned (OpenSpec.ofChange fnQuotedAtReadsWhatQuotingWroteSpec)

/-- ITS FALSE NEIGHBOUR: 'it returns false'. Refute it at one input. -/
def fnQuotedAtReadsWhatQuotingWroteWrong : ChangeSpec := { name := "fnQuotedAtReadsWhatQuotingWrote", fn := fun _ => fun
  | [d1, d2, d3] => { results := [.lit (.bool false)], args := [d1, d2, d3] }
  | _ => none }
def FnQuotedAtReadsWhatQuotingWroteWrongFalsely : Prop := fnQuotedAtReadsWhatQuotingWroteRow.holds Try.pinned (OpenSpec.ofChange fnQuotedAtReadsWhatQuotingWroteWrong)

end Rows
end Go.Proofs.Qxb6612275a
