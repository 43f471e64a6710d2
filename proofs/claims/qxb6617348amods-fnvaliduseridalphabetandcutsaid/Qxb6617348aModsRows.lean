/-
  No cell of these rows narrows 'for every input' (looked for: loops, veiled, ifaces, maps, wideKeys, modest, calm, conditions, laid).
  DERIVED. THE GIVEN ROWS OF THIS SEAT. 1 by the template 'for every input the law returns true; each argument reads behind the call as it read before'; 0 by the template 'total and deterministic' (their statements: Qxb6617348aModsTotals.lean).
  GIVEN WITH THE SEED: the statements are not yours to turn. If you find one false, say at which input.
  Laid BY PROGRAM, IN A SANDBOX (cutbox-rows.mjs): the forced cells as the released guide's own fill.sh prints them over the translation 2c20b0cb636f1ba1… (all of the seat's roots in one cut). By AI agents, Wed Nov 11 2026. No macro, syntax, notation, axiom, sorry.
-/
import Derived.Test.Qxb6617348aModsChecked
import GoSem.Claim
import GoSem.ClaimJoined
import GoSem.ClaimMapViews
import Derived.JoinedTies
import Derived.KernelRfl
namespace Go.Proofs.Qxb6617348aMods
/- THE CELL 'sum', in the pinned program and in every row, IS THE sha256 OF THE DUMP (.gsa) THAT Qxb6617348aModsProg.lean LOADS. Nothing in Lean hashes anything: it is a label: what it is worth is what the hold of that sum in a sandbox is worth. -/
noncomputable def Trym.pinned : Pinned := { name := "qxb6617348amods", sum := "2c20b0cb636f1ba189f391e701246ee727cd4ed97561649d00cc4c7faad7c201", checked := Trym.checked }
namespace Rows
def none {H : Type} : Left H := { results := [], args := [] }

/-- 'zzlaws_api_b1.FnValidUserIDAlphabetAndCut': WHATEVER THE INPUT: true; the input reads as it did. -/
def fnValidUserIDAlphabetAndCutSpec : ChangeSpec := { name := "fnValidUserIDAlphabetAndCut", fn := fun _ => fun
  | [d1, d2] => { results := [.lit (.bool true)], args := [d1, d2] }
  | _ => none }
def fnValidUserIDAlphabetAndCutRow : OpenClaim := { program := "qxb6617348amods", sum := "2c20b0cb636f1ba189f391e701246ee727cd4ed97561649d00cc4c7faad7c201", func := "example.com/gatewarden/gatewarden/zzlaws_api_b1.FnValidUserIDAlphabetAndCut", spec := "fnValidUserIDAlphabetAndCut", make := .lifted ["publicsums"], apart := false }
def FnValidUserIDAlphabetAndCutSaid : Prop := fnValidUserIDAlphabetAndCutRow.holds Trym.pinned (OpenSpec.ofChange fnValidUserIDAlphabetAndCutSpec)

/-- ITS FALSE NEIGHBOUR: 'it returns false'. Refute it at one input. -/
def fnValidUserIDAlphabetAndCutWrong : ChangeSpec := { name := "fnValidUserIDAlphabetAndCut", fn := fun _ => fun
  | [d1, d2] => { results := [.lit (.bool false)], args := [d1, d2] }
  | _ => none }
def FnValidUserIDAlphabetAndCutWrongFalsely : Prop := fnValidUserIDAlphabetAndCutRow.holds Trym.pinned (OpenSpec.ofChange fnValidUserIDAlphabetAndCutWrong)

end Rows
end Go.Proofs.Qxb6617348aMods
