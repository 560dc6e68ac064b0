/-
  No cell of these rows narrows 'for every input' (looked for: loops, veiled, ifaces, maps, wideKeys, modest, calm, conditions, laid).
  DERIVED. THE GIVEN ROWS OF THIS SEAT. 3 by the template 'for every input the law returns true; each argument reads behind the call as it read before'; 0 by the template 'total and deterministic' (their statements: Qxb6609329aTotals.lean).
  GIVEN WITH THE SEED: the statements are not yours to turn. If you find one false, say at which input.
  Laid BY PROGRAM, IN A SANDBOX (cutbox-rows.mjs): the forced cells as the released guide's own fill.sh prints them over the translation eb189c20437fd5ed… (all of the seat's roots in one cut). By AI agents, Wed Nov 11 2026. No macro, syntax, notation, axiom, sorry.
-/
import Derived.Test.Qxb6609329aChecked
import GoSem.Claim
import GoSem.ClaimJoined
import GoSem.ClaimMapViews
import Derived.JoinedTies
import Derived.KernelRfl
namespace Go.Proofs.Qxb6609329a
/- THE CELL 'sum', in the pinned program and in every row, IS THE sha256 OF THE DUMP (.gsa) THAT Qxb6609329aProg.lean LOADS. Nothing in Lean hashes anything: it is a label: what it is worth is what the hold of that sum in a sandbox is worth. -/
noncomputable def Try.pinned : Pinned := { name := "qxb6609329a", sum := "eb189c20437fd5ed9e1ac08fec9427c26cee1f195a30a4fcb35d64a5709e3332", checked := Try.checked }
namespace Rows
def none {H : Type} : Left H := { results := [], args := [] }

/-- 'zzlaws_root_b1.FnFileOriginTellsSettingsApart': WHATEVER THE INPUT: true; the input reads as it did. -/
def fnFileOriginTellsSettingsApartSpec : ChangeSpec := { name := "fnFileOriginTellsSettingsApart", fn := fun _ => fun
  | [d1, d2, d3, d4] => { results := [.lit (.bool true)], args := [d1, d2, d3, d4] }
  | _ => none }
def fnFileOriginTellsSettingsApartRow : OpenClaim := { program := "qxb6609329a", sum := "eb189c20437fd5ed9e1ac08fec9427c26cee1f195a30a4fcb35d64a5709e3332", func := "example.com/rung3/rung3/zzlaws_root_b1.FnFileOriginTellsSettingsApart", spec := "fnFileOriginTellsSettingsApart", plainKeys := false, apart := false }
def FnFileOriginTellsSettingsApartSaid : Prop := fnFileOriginTellsSettingsApartRow.holds Try.pinned (OpenSpec.ofChange fnFileOriginTellsSettingsApartSpec)

/-- ITS FALSE NEIGHBOUR: 'it returns false'. Refute it at one input. -/
def fnFileOriginTellsSettingsApartWrong : ChangeSpec := { name := "fnFileOriginTellsSettingsApart", fn := fun _ => fun
  | [d1, d2, d3, d4] => { results := [.lit (.bool false)], args := [d1, d2, d3, d4] }
  | _ => none }
def FnFileOriginTellsSettingsApartWrongFalsely : Prop := fnFileOriginTellsSettingsApartRow.holds Try.pinned (OpenSpec.ofChange fnFileOriginTellsSettingsApartWrong)

/-- 'zzlaws_root_b1.FnAppendFlagBodyExtendsPrefix': WHATEVER THE INPUT: true; the input reads as it did. -/
def fnAppendFlagBodyExtendsPrefixSpec : ChangeSpec := { name := "fnAppendFlagBodyExtendsPrefix", fn := fun _ => fun
  | [d1, d2, d3] => { results := [.lit (.bool true)], args := [d1, d2, d3] }
  | _ => none }
def fnAppendFlagBodyExtendsPrefixRow : OpenClaim := { program := "qxb6609329a", sum := "eb189c20437fd5ed9e1ac08fec9427c26cee1f195a30a4fcb35d64a5709e3332", func := "example.com/rung3/rung3/zzlaws_root_b1.FnAppendFlagBodyExtendsPrefix", spec := "fnAppendFlagBodyExtendsPrefix", plainKeys := false, apart := false }
def FnAppendFlagBodyExtendsPrefixSaid : Prop := fnAppendFlagBodyExtendsPrefixRow.holds Try.pinned (OpenSpec.ofChange fnAppendFlagBodyExtendsPrefixSpec)

/-- ITS FALSE NEIGHBOUR: 'it returns false'. Refute it at one input. -/
def fnAppendFlagBodyExtendsPrefixWrong : ChangeSpec := { name := "fnAppendFlagBodyExtendsPrefix", fn := fun _ => fun
  | [d1, d2, d3] => { results := [.lit (.bool false)], args := [d1, d2, d3] }
  | _ => none }
def FnAppendFlagBodyExtendsPrefixWrongFalsely : Prop := fnAppendFlagBodyExtendsPrefixRow.holds Try.pinned (OpenSpec.ofChange fnAppendFlagBodyExtendsPrefixWrong)

/-- 'zzlaws_root_b1.FnListNamesEachPathOnceInOrder': WHATEVER THE INPUT: true; the input reads as it did. -/
def fnListNamesEachPathOnceInOrderSpec : ChangeSpec := { name := "fnListNamesEachPathOnceInOrder", fn := fun _ => fun
  | [d1, d2, d3, d4, d5] => { results := [.lit (.bool true)], args := [d1, d2, d3, d4, d5] }
  | _ => none }
def fnListNamesEachPathOnceInOrderRow : OpenClaim := { program := "qxb6609329a", sum := "eb189c20437fd5ed9e1ac08fec9427c26cee1f195a30a4fcb35d64a5709e3332", func := "example.com/rung3/rung3/zzlaws_root_b1.FnListNamesEachPathOnceInOrder", spec := "fnListNamesEachPathOnceInOrder", inPlace := ["internal/bytealg.IndexByteString"], plainKeys := false, apart := false }
def FnListNamesEachPathOnceInOrderSaid : Prop := fnListNamesEachPathOnceInOrderRow.holds Try.pinned (OpenSpec.ofChange fnListNamesEachPathOnceInOrderSpec)

/-- ITS FALSE NEIGHBOUR: 'it returns false'. Refute it at one input. -/
def fnListNamesEachPathOnceInOrderWrong : ChangeSpec := { name := "fnListNamesEachPathOnceInOrder", fn := fun _ => fun
  | [d1, d2, d3, d4, d5] => { results := [.lit (.bool false)], args := [d1, d2, d3, d4, d5] }
  | _ => none }
def FnListNamesEachPathOnceInOrderWrongFalsely : Prop := fnListNamesEachPathOnceInOrderRow.holds Try.pinned (OpenSpec.ofChange fnListNamesEachPathOnceInOrderWrong)

end Rows
end Go.Proofs.Qxb6609329a
