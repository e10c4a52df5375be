/-
  No cell of these rows narrows 'for every input' (looked for: loops, veiled, ifaces, maps, wideKeys, modest, calm, conditions, laid).
  DERIVED. THE GIVEN ROWS OF THIS SEAT. 3 by the template 'for every input the law returns true; each argument reads behind the call as it read before'; 0 by the template 'total and deterministic' (their statements: Qxb6602032aTotals.lean).
  GIVEN WITH THE SEED: the statements are not yours to turn. If you find one false, say at which input.
  Laid BY PROGRAM, IN A SANDBOX (cutbox-rows.mjs): the forced cells as the released guide's own fill.sh prints them over the translation 817b34f2a1e007a7… (all of the seat's roots in one cut). By AI agents, Wed Nov 11 2026. No macro, syntax, notation, axiom, sorry.
-/
import Derived.Test.Qxb6602032aChecked
import GoSem.Claim
import GoSem.ClaimJoined
import GoSem.ClaimMapViews
import Derived.JoinedTies
import Derived.KernelRfl
namespace Go.Proofs.Qxb6602032a
/- THE CELL 'sum', in the pinned program and in every row, IS THE sha256 OF THE DUMP (.gsa) THAT Qxb6602032aProg.lean LOADS. Nothing in Lean hashes anything: it is a label: what it is worth is what the hold of that sum in a sandbox is worth. -/
noncomputable def Try.pinned : Pinned := { name := "qxb6602032a", sum := "817b34f2a1e007a7f3f11bac61368999a1da70e684ad223b5830b5db2c2db264", checked := Try.checked }
namespace Rows
def none {H : Type} : Left H := { results := [], args := [] }

/-- 'zzlaws_pkg_manifest_b1.FnIsHexMatchesAlphabet': WHATEVER THE INPUT: true; the input reads as it did. -/
def fnIsHexMatchesAlphabetSpec : ChangeSpec := { name := "fnIsHexMatchesAlphabet", fn := fun _ => fun
  | [d] => { results := [.lit (.bool true)], args := [d] }
  | _ => none }
def fnIsHexMatchesAlphabetRow : OpenClaim := { program := "qxb6602032a", sum := "817b34f2a1e007a7f3f11bac61368999a1da70e684ad223b5830b5db2c2db264", func := "example.com/witnessline/witnessline/zzlaws_pkg_manifest_b1.FnIsHexMatchesAlphabet", spec := "fnIsHexMatchesAlphabet", apart := false }
def FnIsHexMatchesAlphabetSaid : Prop := fnIsHexMatchesAlphabetRow.holds Try.pinned (OpenSpec.ofChange fnIsHexMatchesAlphabetSpec)

/-- ITS FALSE NEIGHBOUR: 'it returns false'. Refute it at one input. -/
def fnIsHexMatchesAlphabetWrong : ChangeSpec := { name := "fnIsHexMatchesAlphabet", fn := fun _ => fun
  | [d] => { results := [.lit (.bool false)], args := [d] }
  | _ => none }
def FnIsHexMatchesAlphabetWrongFalsely : Prop := fnIsHexMatchesAlphabetRow.holds Try.pinned (OpenSpec.ofChange fnIsHexMatchesAlphabetWrong)

/-- 'zzlaws_pkg_manifest_b1.FnIsHexConcat': WHATEVER THE INPUT: true; the input reads as it did. -/
def fnIsHexConcatSpec : ChangeSpec := { name := "fnIsHexConcat", fn := fun _ => fun
  | [d1, d2] => { results := [.lit (.bool true)], args := [d1, d2] }
  | _ => none }
def fnIsHexConcatRow : OpenClaim := { program := "qxb6602032a", sum := "817b34f2a1e007a7f3f11bac61368999a1da70e684ad223b5830b5db2c2db264", func := "example.com/witnessline/witnessline/zzlaws_pkg_manifest_b1.FnIsHexConcat", spec := "fnIsHexConcat", apart := false }
def FnIsHexConcatSaid : Prop := fnIsHexConcatRow.holds Try.pinned (OpenSpec.ofChange fnIsHexConcatSpec)

/-- ITS FALSE NEIGHBOUR: 'it returns false'. Refute it at one input. -/
def fnIsHexConcatWrong : ChangeSpec := { name := "fnIsHexConcat", fn := fun _ => fun
  | [d1, d2] => { results := [.lit (.bool false)], args := [d1, d2] }
  | _ => none }
def FnIsHexConcatWrongFalsely : Prop := fnIsHexConcatRow.holds Try.pinned (OpenSpec.ofChange fnIsHexConcatWrong)

/-- 'zzlaws_pkg_manifest_b1.FnIsHexAcceptsEncodingRefusesStray': WHATEVER THE INPUT: true; the input reads as it did. -/
def fnIsHexAcceptsEncodingRefusesStraySpec : ChangeSpec := { name := "fnIsHexAcceptsEncodingRefusesStray", fn := fun _ => fun
  | [d1, d2] => { results := [.lit (.bool true)], args := [d1, d2] }
  | _ => none }
def fnIsHexAcceptsEncodingRefusesStrayRow : OpenClaim := { program := "qxb6602032a", sum := "817b34f2a1e007a7f3f11bac61368999a1da70e684ad223b5830b5db2c2db264", func := "example.com/witnessline/witnessline/zzlaws_pkg_manifest_b1.FnIsHexAcceptsEncodingRefusesStray", spec := "fnIsHexAcceptsEncodingRefusesStray", apart := false }
def FnIsHexAcceptsEncodingRefusesStraySaid : Prop := fnIsHexAcceptsEncodingRefusesStrayRow.holds Try.pinned (OpenSpec.ofChange fnIsHexAcceptsEncodingRefusesStraySpec)

/-- ITS FALSE NEIGHBOUR: 'it returns false'. Refute it at one input. -/
def fnIsHexAcceptsEncodingRefusesStrayWrong : ChangeSpec := { name := "fnIsHexAcceptsEncodingRefusesStray", fn := fun _ => fun
  | [d1, d2] => { results := [.lit (.bool false)], args := [d1, d2] }
  | _ => none }
def FnIsHexAcceptsEncodingRefusesStrayWrongFalsely : Prop := fnIsHexAcceptsEncodingRefusesStrayRow.holds Try.pinned (OpenSpec.ofChange fnIsHexAcceptsEncodingRefusesStrayWrong)

end Rows
end Go.Proofs.Qxb6602032a
