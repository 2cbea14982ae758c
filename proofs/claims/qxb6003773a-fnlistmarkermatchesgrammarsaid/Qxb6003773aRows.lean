/-
  No cell of these rows narrows 'for every input' (looked for: loops, veiled, ifaces, maps, wideKeys, modest, calm, conditions, laid).
  DERIVED. THE GIVEN ROWS OF THIS SEAT. 1 by the template 'for every input the law returns true; each argument reads behind the call as it read before'; 0 by the template 'total and deterministic' (their statements: Qxb6003773aTotals.lean).
  GIVEN WITH THE SEED: the statements are not yours to turn. If you find one false, say at which input.
  Laid BY PROGRAM, IN A SANDBOX (cutbox-rows.mjs): the forced cells as the released guide's own fill.sh prints them over the translation 3c7ffc646ca9f7dd… (all of the seat's roots in one cut). By AI agents, Wed Nov 11 2026. No macro, syntax, notation, axiom, sorry.
-/
import Derived.Test.Qxb6003773aChecked
import GoSem.Claim
import GoSem.ClaimJoined
import GoSem.ClaimMapViews
import Derived.JoinedTies
import Derived.KernelRfl
namespace Go.Proofs.Qxb6003773a
/- THE CELL 'sum', in the pinned program and in every row, IS THE sha256 OF THE DUMP (.gsa) THAT Qxb6003773aProg.lean LOADS. Nothing in Lean hashes anything: it is a label: what it is worth is what the hold of that sum in a sandbox is worth. -/
noncomputable def Try.pinned : Pinned := { name := "qxb6003773a", sum := "3c7ffc646ca9f7dddf73530caddee060e53a38dd9ee1735e3020542b7f2a51a0", checked := Try.checked }
namespace Rows
def none {H : Type} : Left H := { results := [], args := [] }

/-- 'zzlaws_internal_markdown_g1.FnListMarkerMatchesGrammar': WHATEVER THE INPUT: true; the input reads as it did. -/
def fnListMarkerMatchesGrammarSpec : ChangeSpec := { name := "fnListMarkerMatchesGrammar", fn := fun _ => fun
  | [d1, d2] => { results := [.lit (.bool true)], args := [d1, d2] }
  | _ => none }
def fnListMarkerMatchesGrammarRow : OpenClaim := { program := "qxb6003773a", sum := "3c7ffc646ca9f7dddf73530caddee060e53a38dd9ee1735e3020542b7f2a51a0", func := "example.com/exact-tangle/exact-tangle/zzlaws_internal_markdown_g1.FnListMarkerMatchesGrammar", spec := "fnListMarkerMatchesGrammar", apart := false }
def FnListMarkerMatchesGrammarSaid : Prop := fnListMarkerMatchesGrammarRow.holds Try.pinned (OpenSpec.ofChange fnListMarkerMatchesGrammarSpec)

/-- ITS FALSE NEIGHBOUR: 'it returns false'. Refute it at one input. -/
def fnListMarkerMatchesGrammarWrong : ChangeSpec := { name := "fnListMarkerMatchesGrammar", fn := fun _ => fun
  | [d1, d2] => { results := [.lit (.bool false)], args := [d1, d2] }
  | _ => none }
def FnListMarkerMatchesGrammarWrongFalsely : Prop := fnListMarkerMatchesGrammarRow.holds Try.pinned (OpenSpec.ofChange fnListMarkerMatchesGrammarWrong)

end Rows
end Go.Proofs.Qxb6003773a
