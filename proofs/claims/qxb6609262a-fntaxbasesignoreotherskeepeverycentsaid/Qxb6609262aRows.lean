/-
  No cell of these rows narrows 'for every input' (looked for: loops, veiled, ifaces, maps, wideKeys, modest, calm, conditions, laid).
  DERIVED. THE GIVEN ROWS OF THIS SEAT. 2 by the template 'for every input the law returns true; each argument reads behind the call as it read before'; 0 by the template 'total and deterministic' (their statements: Qxb6609262aTotals.lean).
  GIVEN WITH THE SEED: the statements are not yours to turn. If you find one false, say at which input.
  Laid BY PROGRAM, IN A SANDBOX (cutbox-rows.mjs): the forced cells as the released guide's own fill.sh prints them over the translation f446638d73f3773e… (all of the seat's roots in one cut). By AI agents, Wed Nov 11 2026. No macro, syntax, notation, axiom, sorry.
-/
import Derived.Test.Qxb6609262aChecked
import GoSem.Claim
import GoSem.ClaimJoined
import GoSem.ClaimMapViews
import Derived.JoinedTies
import Derived.KernelRfl
namespace Go.Proofs.Qxb6609262a
/- THE CELL 'sum', in the pinned program and in every row, IS THE sha256 OF THE DUMP (.gsa) THAT Qxb6609262aProg.lean LOADS. Nothing in Lean hashes anything: it is a label: what it is worth is what the hold of that sum in a sandbox is worth. -/
noncomputable def Try.pinned : Pinned := { name := "qxb6609262a", sum := "f446638d73f3773ee060fc9d959594a9b348ab3a253911350ef8dc87fb3deb67", checked := Try.checked }
namespace Rows
def none {H : Type} : Left H := { results := [], args := [] }

/-- 'zzlaws_root_b1.FnTaxBasesExact': WHATEVER THE INPUT: true; the input reads as it did. -/
def fnTaxBasesExactSpec : ChangeSpec := { name := "fnTaxBasesExact", fn := fun _ => fun
  | [d] => { results := [.lit (.bool true)], args := [d] }
  | _ => none }
def fnTaxBasesExactRow : OpenClaim := { program := "qxb6609262a", sum := "f446638d73f3773ee060fc9d959594a9b348ab3a253911350ef8dc87fb3deb67", func := "example.com/satzwerk/satzwerk/zzlaws_root_b1.FnTaxBasesExact", spec := "fnTaxBasesExact", inPlace := ["math/bits.Add64"], unfollowed := true, recurses := true, apart := false }
def FnTaxBasesExactSaid : Prop := fnTaxBasesExactRow.holds Try.pinned (OpenSpec.ofChange fnTaxBasesExactSpec)

/-- ITS FALSE NEIGHBOUR: 'it returns false'. Refute it at one input. -/
def fnTaxBasesExactWrong : ChangeSpec := { name := "fnTaxBasesExact", fn := fun _ => fun
  | [d] => { results := [.lit (.bool false)], args := [d] }
  | _ => none }
def FnTaxBasesExactWrongFalsely : Prop := fnTaxBasesExactRow.holds Try.pinned (OpenSpec.ofChange fnTaxBasesExactWrong)

/-- 'zzlaws_root_b1.FnTaxBasesIgnoreOthersKeepEveryCent': WHATEVER THE INPUT: true; the input reads as it did. -/
def fnTaxBasesIgnoreOthersKeepEveryCentSpec : ChangeSpec := { name := "fnTaxBasesIgnoreOthersKeepEveryCent", fn := fun _ => fun
  | [d] => { results := [.lit (.bool true)], args := [d] }
  | _ => none }
def fnTaxBasesIgnoreOthersKeepEveryCentRow : OpenClaim := { program := "qxb6609262a", sum := "f446638d73f3773ee060fc9d959594a9b348ab3a253911350ef8dc87fb3deb67", func := "example.com/satzwerk/satzwerk/zzlaws_root_b1.FnTaxBasesIgnoreOthersKeepEveryCent", spec := "fnTaxBasesIgnoreOthersKeepEveryCent", inPlace := ["math/bits.Add64"], unfollowed := true, recurses := true, apart := false }
def FnTaxBasesIgnoreOthersKeepEveryCentSaid : Prop := fnTaxBasesIgnoreOthersKeepEveryCentRow.holds Try.pinned (OpenSpec.ofChange fnTaxBasesIgnoreOthersKeepEveryCentSpec)

/-- ITS FALSE NEIGHBOUR: 'it returns false'. Refute it at one input. -/
def fnTaxBasesIgnoreOthersKeepEveryCentWrong : ChangeSpec := { name := "fnTaxBasesIgnoreOthersKeepEveryCent", fn := fun _ => fun
  | [d] => { results := [.lit (.bool false)], args := [d] }
  | _ => none }
def FnTaxBasesIgnoreOthersKeepEveryCentWrongFalsely : Prop := fnTaxBasesIgnoreOthersKeepEveryCentRow.holds Try.pinned (OpenSpec.ofChange fnTaxBasesIgnoreOthersKeepEveryCentWrong)

end Rows
end Go.Proofs.Qxb6609262a
