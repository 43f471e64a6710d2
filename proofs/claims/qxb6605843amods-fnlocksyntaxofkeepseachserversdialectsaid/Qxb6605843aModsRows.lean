/-
  No cell of these rows narrows 'for every input' (looked for: loops, veiled, ifaces, maps, wideKeys, modest, calm, conditions, laid).
  DERIVED. THE GIVEN ROWS OF THIS SEAT. 1 by the template 'for every input the law returns true; each argument reads behind the call as it read before'; 0 by the template 'total and deterministic' (their statements: Qxb6605843aModsTotals.lean).
  GIVEN WITH THE SEED: the statements are not yours to turn. If you find one false, say at which input.
  Laid BY PROGRAM, IN A SANDBOX (cutbox-rows.mjs): the forced cells as the released guide's own fill.sh prints them over the translation 6c756cdb690e3e29… (all of the seat's roots in one cut). By AI agents, Wed Nov 11 2026. No macro, syntax, notation, axiom, sorry.
-/
import Derived.Test.Qxb6605843aModsChecked
import GoSem.Claim
import GoSem.ClaimJoined
import GoSem.ClaimMapViews
import Derived.JoinedTies
import Derived.KernelRfl
namespace Go.Proofs.Qxb6605843aMods
/- THE CELL 'sum', in the pinned program and in every row, IS THE sha256 OF THE DUMP (.gsa) THAT Qxb6605843aModsProg.lean LOADS. Nothing in Lean hashes anything: it is a label: what it is worth is what the hold of that sum in a sandbox is worth. -/
noncomputable def Trym.pinned : Pinned := { name := "qxb6605843amods", sum := "6c756cdb690e3e294673b642d449643fbcd2eb3e7b80411d532173b7767b1f99", checked := Trym.checked }
namespace Rows
def none {H : Type} : Left H := { results := [], args := [] }

/-- 'zzlaws_mysqlstore_b1.FnLockSyntaxOfKeepsEachServersDialect': WHATEVER THE INPUT: true; the input reads as it did. -/
def fnLockSyntaxOfKeepsEachServersDialectSpec : ChangeSpec := { name := "fnLockSyntaxOfKeepsEachServersDialect", fn := fun _ => fun
  | [d1, d2] => { results := [.lit (.bool true)], args := [d1, d2] }
  | _ => none }
def fnLockSyntaxOfKeepsEachServersDialectRow : OpenClaim := { program := "qxb6605843amods", sum := "6c756cdb690e3e294673b642d449643fbcd2eb3e7b80411d532173b7767b1f99", func := "example.com/latchwork/latchwork/zzlaws_mysqlstore_b1.FnLockSyntaxOfKeepsEachServersDialect", spec := "fnLockSyntaxOfKeepsEachServersDialect", make := .lifted ["publicsums"], apart := false }
def FnLockSyntaxOfKeepsEachServersDialectSaid : Prop := fnLockSyntaxOfKeepsEachServersDialectRow.holds Trym.pinned (OpenSpec.ofChange fnLockSyntaxOfKeepsEachServersDialectSpec)

/-- ITS FALSE NEIGHBOUR: 'it returns false'. Refute it at one input. -/
def fnLockSyntaxOfKeepsEachServersDialectWrong : ChangeSpec := { name := "fnLockSyntaxOfKeepsEachServersDialect", fn := fun _ => fun
  | [d1, d2] => { results := [.lit (.bool false)], args := [d1, d2] }
  | _ => none }
def FnLockSyntaxOfKeepsEachServersDialectWrongFalsely : Prop := fnLockSyntaxOfKeepsEachServersDialectRow.holds Trym.pinned (OpenSpec.ofChange fnLockSyntaxOfKeepsEachServersDialectWrong)

end Rows
end Go.Proofs.Qxb6605843aMods
