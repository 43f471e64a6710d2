/-
  No cell of these rows narrows 'for every input' (looked for: loops, veiled, ifaces, maps, wideKeys, modest, calm, conditions, laid).
  DERIVED. THE GIVEN ROWS OF THIS SEAT. 4 by the template 'for every input the law returns true; each argument reads behind the call as it read before'; 0 by the template 'total and deterministic' (their statements: Qxb6608716aModsTotals.lean).
  GIVEN WITH THE SEED: the statements are not yours to turn. If you find one false, say at which input.
  Laid BY PROGRAM, IN A SANDBOX (cutbox-rows.mjs): the forced cells as the released guide's own fill.sh prints them over the translation 56e7ca1d4c8a97bc… (all of the seat's roots in one cut). By AI agents, Wed Nov 11 2026. No macro, syntax, notation, axiom, sorry.
-/
import Derived.Test.Qxb6608716aModsChecked
import GoSem.Claim
import GoSem.ClaimJoined
import GoSem.ClaimMapViews
import Derived.JoinedTies
import Derived.KernelRfl
namespace Go.Proofs.Qxb6608716aMods
/- THE CELL 'sum', in the pinned program and in every row, IS THE sha256 OF THE DUMP (.gsa) THAT Qxb6608716aModsProg.lean LOADS. Nothing in Lean hashes anything: it is a label: what it is worth is what the hold of that sum in a sandbox is worth. -/
noncomputable def Trym.pinned : Pinned := { name := "qxb6608716amods", sum := "56e7ca1d4c8a97bc67d6a8c44d0f6d861aa7e532fbbed4137ada368b99645856", checked := Trym.checked }
namespace Rows
def none {H : Type} : Left H := { results := [], args := [] }

/-- 'zzlaws_engine_b1.FnCopiesDirOneFolderPerThaw': WHATEVER THE INPUT: true; the input reads as it did. -/
def fnCopiesDirOneFolderPerThawSpec : ChangeSpec := { name := "fnCopiesDirOneFolderPerThaw", fn := fun _ => fun
  | [d1, d2, d3] => { results := [.lit (.bool true)], args := [d1, d2, d3] }
  | _ => none }
def fnCopiesDirOneFolderPerThawRow : OpenClaim := { program := "qxb6608716amods", sum := "56e7ca1d4c8a97bc67d6a8c44d0f6d861aa7e532fbbed4137ada368b99645856", func := "example.com/thawline/thawline/zzlaws_engine_b1.FnCopiesDirOneFolderPerThaw", spec := "fnCopiesDirOneFolderPerThaw", inPlace := ["internal/abi.NoEscape", "internal/bytealg.MakeNoZero", "internal/bytealg.IndexByteString"], make := .lifted ["publicsums"], apart := false }
def FnCopiesDirOneFolderPerThawSaid : Prop := fnCopiesDirOneFolderPerThawRow.holds Trym.pinned (OpenSpec.ofChange fnCopiesDirOneFolderPerThawSpec)

/-- ITS FALSE NEIGHBOUR: 'it returns false'. Refute it at one input. -/
def fnCopiesDirOneFolderPerThawWrong : ChangeSpec := { name := "fnCopiesDirOneFolderPerThaw", fn := fun _ => fun
  | [d1, d2, d3] => { results := [.lit (.bool false)], args := [d1, d2, d3] }
  | _ => none }
def FnCopiesDirOneFolderPerThawWrongFalsely : Prop := fnCopiesDirOneFolderPerThawRow.holds Trym.pinned (OpenSpec.ofChange fnCopiesDirOneFolderPerThawWrong)

/-- 'zzlaws_engine_b1.FnListedStatelessAgreesWithShows': WHATEVER THE INPUT: true; the input reads as it did. -/
def fnListedStatelessAgreesWithShowsSpec : ChangeSpec := { name := "fnListedStatelessAgreesWithShows", fn := fun _ => fun
  | [d1, d2, d3, d4, d5, d6] => { results := [.lit (.bool true)], args := [d1, d2, d3, d4, d5, d6] }
  | _ => none }
def fnListedStatelessAgreesWithShowsRow : OpenClaim := { program := "qxb6608716amods", sum := "56e7ca1d4c8a97bc67d6a8c44d0f6d861aa7e532fbbed4137ada368b99645856", func := "example.com/thawline/thawline/zzlaws_engine_b1.FnListedStatelessAgreesWithShows", spec := "fnListedStatelessAgreesWithShows", inPlace := ["sync/atomic.StoreInt64", "sync/atomic.StoreUint32", "sync/atomic.AddInt64", "sync/atomic.LoadUint32", "sync/atomic.LoadInt64"], make := .lifted ["publicsums"], apart := false }
def FnListedStatelessAgreesWithShowsSaid : Prop := fnListedStatelessAgreesWithShowsRow.holds Trym.pinned (OpenSpec.ofChange fnListedStatelessAgreesWithShowsSpec)

/-- ITS FALSE NEIGHBOUR: 'it returns false'. Refute it at one input. -/
def fnListedStatelessAgreesWithShowsWrong : ChangeSpec := { name := "fnListedStatelessAgreesWithShows", fn := fun _ => fun
  | [d1, d2, d3, d4, d5, d6] => { results := [.lit (.bool false)], args := [d1, d2, d3, d4, d5, d6] }
  | _ => none }
def FnListedStatelessAgreesWithShowsWrongFalsely : Prop := fnListedStatelessAgreesWithShowsRow.holds Trym.pinned (OpenSpec.ofChange fnListedStatelessAgreesWithShowsWrong)

/-- 'zzlaws_engine_b1.FnShowsAgreesWithBelievedListed': WHATEVER THE INPUT: true; the input reads as it did. -/
def fnShowsAgreesWithBelievedListedSpec : ChangeSpec := { name := "fnShowsAgreesWithBelievedListed", fn := fun _ => fun
  | [d] => { results := [.lit (.bool true)], args := [d] }
  | _ => none }
def fnShowsAgreesWithBelievedListedRow : OpenClaim := { program := "qxb6608716amods", sum := "56e7ca1d4c8a97bc67d6a8c44d0f6d861aa7e532fbbed4137ada368b99645856", func := "example.com/thawline/thawline/zzlaws_engine_b1.FnShowsAgreesWithBelievedListed", spec := "fnShowsAgreesWithBelievedListed", inPlace := ["sync/atomic.StoreInt64", "sync/atomic.StoreUint32", "sync/atomic.AddInt64", "sync/atomic.LoadUint32"], make := .lifted ["publicsums"], apart := false }
def FnShowsAgreesWithBelievedListedSaid : Prop := fnShowsAgreesWithBelievedListedRow.holds Trym.pinned (OpenSpec.ofChange fnShowsAgreesWithBelievedListedSpec)

/-- ITS FALSE NEIGHBOUR: 'it returns false'. Refute it at one input. -/
def fnShowsAgreesWithBelievedListedWrong : ChangeSpec := { name := "fnShowsAgreesWithBelievedListed", fn := fun _ => fun
  | [d] => { results := [.lit (.bool false)], args := [d] }
  | _ => none }
def FnShowsAgreesWithBelievedListedWrongFalsely : Prop := fnShowsAgreesWithBelievedListedRow.holds Trym.pinned (OpenSpec.ofChange fnShowsAgreesWithBelievedListedWrong)

/-- 'zzlaws_engine_b1.FnShowsIgnoresNeighbours': WHATEVER THE INPUT: true; the input reads as it did. -/
def fnShowsIgnoresNeighboursSpec : ChangeSpec := { name := "fnShowsIgnoresNeighbours", fn := fun _ => fun
  | [d1, d2] => { results := [.lit (.bool true)], args := [d1, d2] }
  | _ => none }
def fnShowsIgnoresNeighboursRow : OpenClaim := { program := "qxb6608716amods", sum := "56e7ca1d4c8a97bc67d6a8c44d0f6d861aa7e532fbbed4137ada368b99645856", func := "example.com/thawline/thawline/zzlaws_engine_b1.FnShowsIgnoresNeighbours", spec := "fnShowsIgnoresNeighbours", make := .lifted ["publicsums"], apart := false }
def FnShowsIgnoresNeighboursSaid : Prop := fnShowsIgnoresNeighboursRow.holds Trym.pinned (OpenSpec.ofChange fnShowsIgnoresNeighboursSpec)

/-- ITS FALSE NEIGHBOUR: 'it returns false'. Refute it at one input. -/
def fnShowsIgnoresNeighboursWrong : ChangeSpec := { name := "fnShowsIgnoresNeighbours", fn := fun _ => fun
  | [d1, d2] => { results := [.lit (.bool false)], args := [d1, d2] }
  | _ => none }
def FnShowsIgnoresNeighboursWrongFalsely : Prop := fnShowsIgnoresNeighboursRow.holds Trym.pinned (OpenSpec.ofChange fnShowsIgnoresNeighboursWrong)

end Rows
end Go.Proofs.Qxb6608716aMods
