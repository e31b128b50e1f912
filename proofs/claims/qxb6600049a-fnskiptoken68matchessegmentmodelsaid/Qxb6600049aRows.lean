/-
  No cell of these rows narrows 'for every input' (looked for: loops, veiled, ifaces, maps, wideKeys, modest, calm, conditions, laid).
  DERIVED. THE GIVEN ROWS OF THIS SEAT. 2 by the template 'for every input the law returns true; each argument reads behind the call as it read before'; 0 by the template 'total and deterministic' (their statements: Qxb6600049aTotals.lean).
  GIVEN WITH THE SEED: the statements are not yours to turn. If you find one false, say at which input.
  Laid BY PROGRAM, IN A SANDBOX (cutbox-rows.mjs): the forced cells as the released guide's own fill.sh prints them over the translation 459be7796b6061ee… (all of the seat's roots in one cut). By AI agents, Wed Nov 11 2026. No macro, syntax, notation, axiom, sorry.
-/
import Derived.Test.Qxb6600049aChecked
import GoSem.Claim
import GoSem.ClaimJoined
import GoSem.ClaimMapViews
import Derived.JoinedTies
import Derived.KernelRfl
namespace Go.Proofs.Qxb6600049a
/- THE CELL 'sum', in the pinned program and in every row, IS THE sha256 OF THE DUMP (.gsa) THAT Qxb6600049aProg.lean LOADS. Nothing in Lean hashes anything: it is a label: what it is worth is what the hold of that sum in a sandbox is worth. -/
noncomputable def Try.pinned : Pinned := { name := "qxb6600049a", sum := "459be7796b6061ee9d01b5e0ecd5e18f01fe00ed907719d254bf42769a1ed85d", checked := Try.checked }
namespace Rows
def none {H : Type} : Left H := { results := [], args := [] }

/-- 'zzlaws_root_b1.FnSkipToken68MatchesSegmentModel': WHATEVER THE INPUT: true; the input reads as it did. -/
def fnSkipToken68MatchesSegmentModelSpec : ChangeSpec := { name := "fnSkipToken68MatchesSegmentModel", fn := fun _ => fun
  | [d1, d2] => { results := [.lit (.bool true)], args := [d1, d2] }
  | _ => none }
def fnSkipToken68MatchesSegmentModelRow : OpenClaim := { program := "qxb6600049a", sum := "459be7796b6061ee9d01b5e0ecd5e18f01fe00ed907719d254bf42769a1ed85d", func := "example.com/volley/volley/zzlaws_root_b1.FnSkipToken68MatchesSegmentModel", spec := "fnSkipToken68MatchesSegmentModel", inPlace := ["internal/bytealg.IndexByteString"], apart := false }
def FnSkipToken68MatchesSegmentModelSaid : Prop := fnSkipToken68MatchesSegmentModelRow.holds Try.pinned (OpenSpec.ofChange fnSkipToken68MatchesSegmentModelSpec)

/-- ITS FALSE NEIGHBOUR: 'it returns false'. Refute it at one input. -/
def fnSkipToken68MatchesSegmentModelWrong : ChangeSpec := { name := "fnSkipToken68MatchesSegmentModel", fn := fun _ => fun
  | [d1, d2] => { results := [.lit (.bool false)], args := [d1, d2] }
  | _ => none }
def FnSkipToken68MatchesSegmentModelWrongFalsely : Prop := fnSkipToken68MatchesSegmentModelRow.holds Try.pinned (OpenSpec.ofChange fnSkipToken68MatchesSegmentModelWrong)

/-- 'zzlaws_root_b1.FnSkipToken68StopsAtComma': WHATEVER THE INPUT: true; the input reads as it did. -/
def fnSkipToken68StopsAtCommaSpec : ChangeSpec := { name := "fnSkipToken68StopsAtComma", fn := fun _ => fun
  | [d1, d2, d3, d4] => { results := [.lit (.bool true)], args := [d1, d2, d3, d4] }
  | _ => none }
def fnSkipToken68StopsAtCommaRow : OpenClaim := { program := "qxb6600049a", sum := "459be7796b6061ee9d01b5e0ecd5e18f01fe00ed907719d254bf42769a1ed85d", func := "example.com/volley/volley/zzlaws_root_b1.FnSkipToken68StopsAtComma", spec := "fnSkipToken68StopsAtComma", inPlace := ["internal/bytealg.IndexByteString"], apart := false }
def FnSkipToken68StopsAtCommaSaid : Prop := fnSkipToken68StopsAtCommaRow.holds Try.pinned (OpenSpec.ofChange fnSkipToken68StopsAtCommaSpec)

/-- ITS FALSE NEIGHBOUR: 'it returns false'. Refute it at one input. -/
def fnSkipToken68StopsAtCommaWrong : ChangeSpec := { name := "fnSkipToken68StopsAtComma", fn := fun _ => fun
  | [d1, d2, d3, d4] => { results := [.lit (.bool false)], args := [d1, d2, d3, d4] }
  | _ => none }
def FnSkipToken68StopsAtCommaWrongFalsely : Prop := fnSkipToken68StopsAtCommaRow.holds Try.pinned (OpenSpec.ofChange fnSkipToken68StopsAtCommaWrong)

end Rows
end Go.Proofs.Qxb6600049a
