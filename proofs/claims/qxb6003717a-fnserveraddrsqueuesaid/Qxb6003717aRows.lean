/-
  No cell of these rows narrows 'for every input' (looked for: loops, veiled, ifaces, maps, wideKeys, modest, calm, conditions, laid).
  DERIVED. THE GIVEN ROWS OF THIS SEAT. 4 by the template 'for every input the law returns true; each argument reads behind the call as it read before'; 0 by the template 'total and deterministic' (their statements: Qxb6003717aTotals.lean).
  GIVEN WITH THE SEED: the statements are not yours to turn. If you find one false, say at which input.
  Laid BY PROGRAM, IN A SANDBOX (cutbox-rows.mjs): the forced cells as the released guide's own fill.sh prints them over the translation 1a1ec5802f293944… (all of the seat's roots in one cut). By AI agents, Wed Nov 11 2026. No macro, syntax, notation, axiom, sorry.
-/
import Derived.Test.Qxb6003717aChecked
import GoSem.Claim
import GoSem.ClaimJoined
import GoSem.ClaimMapViews
import Derived.JoinedTies
import Derived.KernelRfl
namespace Go.Proofs.Qxb6003717a
/- THE CELL 'sum', in the pinned program and in every row, IS THE sha256 OF THE DUMP (.gsa) THAT Qxb6003717aProg.lean LOADS. Nothing in Lean hashes anything: it is a label: what it is worth is what the hold of that sum in a sandbox is worth. -/
noncomputable def Try.pinned : Pinned := { name := "qxb6003717a", sum := "1a1ec5802f2939447a5f026bd230cb052fadcfc7f7b361ae183080f3bae8a23b", checked := Try.checked }
namespace Rows
def none {H : Type} : Left H := { results := [], args := [] }

/-- 'zzlaws_resolve_g1.FnChildOfSpec': WHATEVER THE INPUT: true; the input reads as it did. -/
def fnChildOfSpecSpec : ChangeSpec := { name := "fnChildOfSpec", fn := fun _ => fun
  | [d1, d2] => { results := [.lit (.bool true)], args := [d1, d2] }
  | _ => none }
def fnChildOfSpecRow : OpenClaim := { program := "qxb6003717a", sum := "1a1ec5802f2939447a5f026bd230cb052fadcfc7f7b361ae183080f3bae8a23b", func := "example.com/zoneglass/zoneglass/zzlaws_resolve_g1.FnChildOfSpec", spec := "fnChildOfSpec", apart := false }
def FnChildOfSpecSaid : Prop := fnChildOfSpecRow.holds Try.pinned (OpenSpec.ofChange fnChildOfSpecSpec)

/-- ITS FALSE NEIGHBOUR: 'it returns false'. Refute it at one input. -/
def fnChildOfSpecWrong : ChangeSpec := { name := "fnChildOfSpec", fn := fun _ => fun
  | [d1, d2] => { results := [.lit (.bool false)], args := [d1, d2] }
  | _ => none }
def FnChildOfSpecWrongFalsely : Prop := fnChildOfSpecRow.holds Try.pinned (OpenSpec.ofChange fnChildOfSpecWrong)

/-- 'zzlaws_resolve_g1.FnWithServerSpec': WHATEVER THE INPUT: true; the input reads as it did. -/
def fnWithServerSpecSpec : ChangeSpec := { name := "fnWithServerSpec", fn := fun _ => fun
  | [d1, d2] => { results := [.lit (.bool true)], args := [d1, d2] }
  | _ => none }
def fnWithServerSpecRow : OpenClaim := { program := "qxb6003717a", sum := "1a1ec5802f2939447a5f026bd230cb052fadcfc7f7b361ae183080f3bae8a23b", func := "example.com/zoneglass/zoneglass/zzlaws_resolve_g1.FnWithServerSpec", spec := "fnWithServerSpec", apart := false }
def FnWithServerSpecSaid : Prop := fnWithServerSpecRow.holds Try.pinned (OpenSpec.ofChange fnWithServerSpecSpec)

/-- ITS FALSE NEIGHBOUR: 'it returns false'. Refute it at one input. -/
def fnWithServerSpecWrong : ChangeSpec := { name := "fnWithServerSpec", fn := fun _ => fun
  | [d1, d2] => { results := [.lit (.bool false)], args := [d1, d2] }
  | _ => none }
def FnWithServerSpecWrongFalsely : Prop := fnWithServerSpecRow.holds Try.pinned (OpenSpec.ofChange fnWithServerSpecWrong)

/-- 'zzlaws_resolve_g1.FnServerAddrsQueue': WHATEVER THE INPUT: true; the input reads as it did. -/
def fnServerAddrsQueueSpec : ChangeSpec := { name := "fnServerAddrsQueue", fn := fun _ => fun
  | [d1, d2] => { results := [.lit (.bool true)], args := [d1, d2] }
  | _ => none }
def fnServerAddrsQueueRow : OpenClaim := { program := "qxb6003717a", sum := "1a1ec5802f2939447a5f026bd230cb052fadcfc7f7b361ae183080f3bae8a23b", func := "example.com/zoneglass/zoneglass/zzlaws_resolve_g1.FnServerAddrsQueue", spec := "fnServerAddrsQueue", apart := false }
def FnServerAddrsQueueSaid : Prop := fnServerAddrsQueueRow.holds Try.pinned (OpenSpec.ofChange fnServerAddrsQueueSpec)

/-- ITS FALSE NEIGHBOUR: 'it returns false'. Refute it at one input. -/
def fnServerAddrsQueueWrong : ChangeSpec := { name := "fnServerAddrsQueue", fn := fun _ => fun
  | [d1, d2] => { results := [.lit (.bool false)], args := [d1, d2] }
  | _ => none }
def FnServerAddrsQueueWrongFalsely : Prop := fnServerAddrsQueueRow.holds Try.pinned (OpenSpec.ofChange fnServerAddrsQueueWrong)

/-- 'zzlaws_resolve_g1.FnHintsAddrsFold': WHATEVER THE INPUT: true; the input reads as it did. -/
def fnHintsAddrsFoldSpec : ChangeSpec := { name := "fnHintsAddrsFold", fn := fun _ => fun
  | [d1, d2] => { results := [.lit (.bool true)], args := [d1, d2] }
  | _ => none }
def fnHintsAddrsFoldRow : OpenClaim := { program := "qxb6003717a", sum := "1a1ec5802f2939447a5f026bd230cb052fadcfc7f7b361ae183080f3bae8a23b", func := "example.com/zoneglass/zoneglass/zzlaws_resolve_g1.FnHintsAddrsFold", spec := "fnHintsAddrsFold", apart := false }
def FnHintsAddrsFoldSaid : Prop := fnHintsAddrsFoldRow.holds Try.pinned (OpenSpec.ofChange fnHintsAddrsFoldSpec)

/-- ITS FALSE NEIGHBOUR: 'it returns false'. Refute it at one input. -/
def fnHintsAddrsFoldWrong : ChangeSpec := { name := "fnHintsAddrsFold", fn := fun _ => fun
  | [d1, d2] => { results := [.lit (.bool false)], args := [d1, d2] }
  | _ => none }
def FnHintsAddrsFoldWrongFalsely : Prop := fnHintsAddrsFoldRow.holds Try.pinned (OpenSpec.ofChange fnHintsAddrsFoldWrong)

end Rows
end Go.Proofs.Qxb6003717a
