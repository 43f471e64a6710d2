/-
  No cell of these rows narrows 'for every input' (looked for: loops, veiled, ifaces, maps, wideKeys, modest, calm, conditions, laid).
  DERIVED. THE GIVEN ROWS OF THIS SEAT. 1 by the template 'for every input the law returns true; each argument reads behind the call as it read before'; 0 by the template 'total and deterministic' (their statements: Qxb6617155aModsTotals.lean).
  GIVEN WITH THE SEED: the statements are not yours to turn. If you find one false, say at which input.
  Laid BY PROGRAM, IN A SANDBOX (cutbox-rows.mjs): the forced cells as the released guide's own fill.sh prints them over the translation bd8e5c8f49f839c0… (all of the seat's roots in one cut). By AI agents, Wed Nov 11 2026. No macro, syntax, notation, axiom, sorry.
-/
import Derived.Test.Qxb6617155aModsChecked
import GoSem.Claim
import GoSem.ClaimJoined
import GoSem.ClaimMapViews
import Derived.JoinedTies
import Derived.KernelRfl
namespace Go.Proofs.Qxb6617155aMods
/- THE CELL 'sum', in the pinned program and in every row, IS THE sha256 OF THE DUMP (.gsa) THAT Qxb6617155aModsProg.lean LOADS. Nothing in Lean hashes anything: it is a label: what it is worth is what the hold of that sum in a sandbox is worth. -/
noncomputable def Trym.pinned : Pinned := { name := "qxb6617155amods", sum := "bd8e5c8f49f839c0878cb2a76ad8aa83e14b7567151a2f07646ea7d04cedf021", checked := Trym.checked }
namespace Rows
def none {H : Type} : Left H := { results := [], args := [] }

/-- 'zzlaws_pkg_sim_b1.FnRoleNamesTellRolesApart': WHATEVER THE INPUT: true; the input reads as it did. -/
def fnRoleNamesTellRolesApartSpec : ChangeSpec := { name := "fnRoleNamesTellRolesApart", fn := fun _ => fun
  | [d1, d2] => { results := [.lit (.bool true)], args := [d1, d2] }
  | _ => none }
def fnRoleNamesTellRolesApartRow : OpenClaim := { program := "qxb6617155amods", sum := "bd8e5c8f49f839c0878cb2a76ad8aa83e14b7567151a2f07646ea7d04cedf021", func := "example.com/quorumwheel/quorumwheel/zzlaws_pkg_sim_b1.FnRoleNamesTellRolesApart", spec := "fnRoleNamesTellRolesApart", make := .lifted ["publicsums"], apart := false }
def FnRoleNamesTellRolesApartSaid : Prop := fnRoleNamesTellRolesApartRow.holds Trym.pinned (OpenSpec.ofChange fnRoleNamesTellRolesApartSpec)

/-- ITS FALSE NEIGHBOUR: 'it returns false'. Refute it at one input. -/
def fnRoleNamesTellRolesApartWrong : ChangeSpec := { name := "fnRoleNamesTellRolesApart", fn := fun _ => fun
  | [d1, d2] => { results := [.lit (.bool false)], args := [d1, d2] }
  | _ => none }
def FnRoleNamesTellRolesApartWrongFalsely : Prop := fnRoleNamesTellRolesApartRow.holds Trym.pinned (OpenSpec.ofChange fnRoleNamesTellRolesApartWrong)

end Rows
end Go.Proofs.Qxb6617155aMods
