/-
  No cell of these rows narrows 'for every input' (looked for: loops, veiled, ifaces, maps, wideKeys, modest, calm, conditions, laid).
  DERIVED. THE GIVEN ROWS OF THIS SEAT. 6 by the template 'for every input the law returns true; each argument reads behind the call as it read before'; 0 by the template 'total and deterministic' (their statements: Qxb6612690aTotals.lean).
  GIVEN WITH THE SEED: the statements are not yours to turn. If you find one false, say at which input.
  Laid BY PROGRAM, IN A SANDBOX (cutbox-rows.mjs): the forced cells as the released guide's own fill.sh prints them over the translation f5b6106646a031cb… (all of the seat's roots in one cut). By AI agents, Wed Nov 11 2026. No macro, syntax, notation, axiom, sorry.
-/
import Derived.Test.Qxb6612690aChecked
import GoSem.Claim
import GoSem.ClaimJoined
import GoSem.ClaimMapViews
import Derived.JoinedTies
import Derived.KernelRfl
namespace Go.Proofs.Qxb6612690a
/- THE CELL 'sum', in the pinned program and in every row, IS THE sha256 OF THE DUMP (.gsa) THAT Qxb6612690aProg.lean LOADS. Nothing in Lean hashes anything: it is a label: what it is worth is what the hold of that sum in a sandbox is worth. -/
noncomputable def Try.pinned : Pinned := { name := "qxb6612690a", sum := "f5b6106646a031cbd38d3b88c5595e13424eb3e288fd5cffece6e8073ddabdff", checked := Try.checked }
namespace Rows
def none {H : Type} : Left H := { results := [], args := [] }

/-- 'zzlaws_internal_generate_b1.FnIntegerMaxElementSizeIsElementLength': WHATEVER THE INPUT: true; the input reads as it did. -/
def fnIntegerMaxElementSizeIsElementLengthSpec : ChangeSpec := { name := "fnIntegerMaxElementSizeIsElementLength", fn := fun _ => fun
  | [d1, d2, d3, d4, d5, d6] => { results := [.lit (.bool true)], args := [d1, d2, d3, d4, d5, d6] }
  | _ => none }
def fnIntegerMaxElementSizeIsElementLengthRow : OpenClaim := { program := "qxb6612690a", sum := "f5b6106646a031cbd38d3b88c5595e13424eb3e288fd5cffece6e8073ddabdff", func := "example.com/docloom/docloom/zzlaws_internal_generate_b1.FnIntegerMaxElementSizeIsElementLength", spec := "fnIntegerMaxElementSizeIsElementLength", named := ["encoding/binary.LittleEndian"], apart := false }
def FnIntegerMaxElementSizeIsElementLengthSaid : Prop := fnIntegerMaxElementSizeIsElementLengthRow.holds Try.pinned (OpenSpec.ofChange fnIntegerMaxElementSizeIsElementLengthSpec)

/-- ITS FALSE NEIGHBOUR: 'it returns false'. Refute it at one input. -/
def fnIntegerMaxElementSizeIsElementLengthWrong : ChangeSpec := { name := "fnIntegerMaxElementSizeIsElementLength", fn := fun _ => fun
  | [d1, d2, d3, d4, d5, d6] => { results := [.lit (.bool false)], args := [d1, d2, d3, d4, d5, d6] }
  | _ => none }
def FnIntegerMaxElementSizeIsElementLengthWrongFalsely : Prop := fnIntegerMaxElementSizeIsElementLengthRow.holds Try.pinned (OpenSpec.ofChange fnIntegerMaxElementSizeIsElementLengthWrong)

/-- 'zzlaws_internal_generate_b1.FnIntegerMaxElementSizeKeyCut': WHATEVER THE INPUT: true; the input reads as it did. -/
def fnIntegerMaxElementSizeKeyCutSpec : ChangeSpec := { name := "fnIntegerMaxElementSizeKeyCut", fn := fun _ => fun
  | [d1, d2, d3, d4, d5] => { results := [.lit (.bool true)], args := [d1, d2, d3, d4, d5] }
  | _ => none }
def fnIntegerMaxElementSizeKeyCutRow : OpenClaim := { program := "qxb6612690a", sum := "f5b6106646a031cbd38d3b88c5595e13424eb3e288fd5cffece6e8073ddabdff", func := "example.com/docloom/docloom/zzlaws_internal_generate_b1.FnIntegerMaxElementSizeKeyCut", spec := "fnIntegerMaxElementSizeKeyCut", named := ["encoding/binary.LittleEndian"], apart := false }
def FnIntegerMaxElementSizeKeyCutSaid : Prop := fnIntegerMaxElementSizeKeyCutRow.holds Try.pinned (OpenSpec.ofChange fnIntegerMaxElementSizeKeyCutSpec)

/-- ITS FALSE NEIGHBOUR: 'it returns false'. Refute it at one input. -/
def fnIntegerMaxElementSizeKeyCutWrong : ChangeSpec := { name := "fnIntegerMaxElementSizeKeyCut", fn := fun _ => fun
  | [d1, d2, d3, d4, d5] => { results := [.lit (.bool false)], args := [d1, d2, d3, d4, d5] }
  | _ => none }
def FnIntegerMaxElementSizeKeyCutWrongFalsely : Prop := fnIntegerMaxElementSizeKeyCutRow.holds Try.pinned (OpenSpec.ofChange fnIntegerMaxElementSizeKeyCutWrong)

/-- 'zzlaws_internal_generate_b1.FnObjectMaxElementSizeHeadMatchesWriters': WHATEVER THE INPUT: true; the input reads as it did. -/
def fnObjectMaxElementSizeHeadMatchesWritersSpec : ChangeSpec := { name := "fnObjectMaxElementSizeHeadMatchesWriters", fn := fun _ => fun
  | [d1, d2, d3, d4] => { results := [.lit (.bool true)], args := [d1, d2, d3, d4] }
  | _ => none }
def fnObjectMaxElementSizeHeadMatchesWritersRow : OpenClaim := { program := "qxb6612690a", sum := "f5b6106646a031cbd38d3b88c5595e13424eb3e288fd5cffece6e8073ddabdff", func := "example.com/docloom/docloom/zzlaws_internal_generate_b1.FnObjectMaxElementSizeHeadMatchesWriters", spec := "fnObjectMaxElementSizeHeadMatchesWriters", named := ["encoding/binary.LittleEndian"], apart := false }
def FnObjectMaxElementSizeHeadMatchesWritersSaid : Prop := fnObjectMaxElementSizeHeadMatchesWritersRow.holds Try.pinned (OpenSpec.ofChange fnObjectMaxElementSizeHeadMatchesWritersSpec)

/-- ITS FALSE NEIGHBOUR: 'it returns false'. Refute it at one input. -/
def fnObjectMaxElementSizeHeadMatchesWritersWrong : ChangeSpec := { name := "fnObjectMaxElementSizeHeadMatchesWriters", fn := fun _ => fun
  | [d1, d2, d3, d4] => { results := [.lit (.bool false)], args := [d1, d2, d3, d4] }
  | _ => none }
def FnObjectMaxElementSizeHeadMatchesWritersWrongFalsely : Prop := fnObjectMaxElementSizeHeadMatchesWritersRow.holds Try.pinned (OpenSpec.ofChange fnObjectMaxElementSizeHeadMatchesWritersWrong)

/-- 'zzlaws_internal_generate_b1.FnObjectMaxElementSizeKeyAndSizeShift': WHATEVER THE INPUT: true; the input reads as it did. -/
def fnObjectMaxElementSizeKeyAndSizeShiftSpec : ChangeSpec := { name := "fnObjectMaxElementSizeKeyAndSizeShift", fn := fun _ => fun
  | [d1, d2, d3, d4, d5] => { results := [.lit (.bool true)], args := [d1, d2, d3, d4, d5] }
  | _ => none }
def fnObjectMaxElementSizeKeyAndSizeShiftRow : OpenClaim := { program := "qxb6612690a", sum := "f5b6106646a031cbd38d3b88c5595e13424eb3e288fd5cffece6e8073ddabdff", func := "example.com/docloom/docloom/zzlaws_internal_generate_b1.FnObjectMaxElementSizeKeyAndSizeShift", spec := "fnObjectMaxElementSizeKeyAndSizeShift", apart := false }
def FnObjectMaxElementSizeKeyAndSizeShiftSaid : Prop := fnObjectMaxElementSizeKeyAndSizeShiftRow.holds Try.pinned (OpenSpec.ofChange fnObjectMaxElementSizeKeyAndSizeShiftSpec)

/-- ITS FALSE NEIGHBOUR: 'it returns false'. Refute it at one input. -/
def fnObjectMaxElementSizeKeyAndSizeShiftWrong : ChangeSpec := { name := "fnObjectMaxElementSizeKeyAndSizeShift", fn := fun _ => fun
  | [d1, d2, d3, d4, d5] => { results := [.lit (.bool false)], args := [d1, d2, d3, d4, d5] }
  | _ => none }
def FnObjectMaxElementSizeKeyAndSizeShiftWrongFalsely : Prop := fnObjectMaxElementSizeKeyAndSizeShiftRow.holds Try.pinned (OpenSpec.ofChange fnObjectMaxElementSizeKeyAndSizeShiftWrong)

/-- 'zzlaws_internal_generate_b1.FnBinaryGenAppendElementLayout': WHATEVER THE INPUT: true; the input reads as it did. -/
def fnBinaryGenAppendElementLayoutSpec : ChangeSpec := { name := "fnBinaryGenAppendElementLayout", fn := fun _ => fun
  | [d1, d2, d3, d4, d5, d6, d7] => { results := [.lit (.bool true)], args := [d1, d2, d3, d4, d5, d6, d7] }
  | _ => none }
def fnBinaryGenAppendElementLayoutRow : OpenClaim := { program := "qxb6612690a", sum := "f5b6106646a031cbd38d3b88c5595e13424eb3e288fd5cffece6e8073ddabdff", func := "example.com/docloom/docloom/zzlaws_internal_generate_b1.FnBinaryGenAppendElementLayout", spec := "fnBinaryGenAppendElementLayout", unfollowed := true, recurses := true, named := ["encoding/binary.LittleEndian"], apart := false }
def FnBinaryGenAppendElementLayoutSaid : Prop := fnBinaryGenAppendElementLayoutRow.holds Try.pinned (OpenSpec.ofChange fnBinaryGenAppendElementLayoutSpec)

/-- ITS FALSE NEIGHBOUR: 'it returns false'. Refute it at one input. -/
def fnBinaryGenAppendElementLayoutWrong : ChangeSpec := { name := "fnBinaryGenAppendElementLayout", fn := fun _ => fun
  | [d1, d2, d3, d4, d5, d6, d7] => { results := [.lit (.bool false)], args := [d1, d2, d3, d4, d5, d6, d7] }
  | _ => none }
def FnBinaryGenAppendElementLayoutWrongFalsely : Prop := fnBinaryGenAppendElementLayoutRow.holds Try.pinned (OpenSpec.ofChange fnBinaryGenAppendElementLayoutWrong)

/-- 'zzlaws_internal_generate_b1.FnBinaryGenAppendElementTwiceOnOneDraw': WHATEVER THE INPUT: true; the input reads as it did. -/
def fnBinaryGenAppendElementTwiceOnOneDrawSpec : ChangeSpec := { name := "fnBinaryGenAppendElementTwiceOnOneDraw", fn := fun _ => fun
  | [d1, d2, d3, d4, d5, d6, d7, d8] => { results := [.lit (.bool true)], args := [d1, d2, d3, d4, d5, d6, d7, d8] }
  | _ => none }
def fnBinaryGenAppendElementTwiceOnOneDrawRow : OpenClaim := { program := "qxb6612690a", sum := "f5b6106646a031cbd38d3b88c5595e13424eb3e288fd5cffece6e8073ddabdff", func := "example.com/docloom/docloom/zzlaws_internal_generate_b1.FnBinaryGenAppendElementTwiceOnOneDraw", spec := "fnBinaryGenAppendElementTwiceOnOneDraw", unfollowed := true, recurses := true, named := ["encoding/binary.LittleEndian"], apart := false }
def FnBinaryGenAppendElementTwiceOnOneDrawSaid : Prop := fnBinaryGenAppendElementTwiceOnOneDrawRow.holds Try.pinned (OpenSpec.ofChange fnBinaryGenAppendElementTwiceOnOneDrawSpec)

/-- ITS FALSE NEIGHBOUR: 'it returns false'. Refute it at one input. -/
def fnBinaryGenAppendElementTwiceOnOneDrawWrong : ChangeSpec := { name := "fnBinaryGenAppendElementTwiceOnOneDraw", fn := fun _ => fun
  | [d1, d2, d3, d4, d5, d6, d7, d8] => { results := [.lit (.bool false)], args := [d1, d2, d3, d4, d5, d6, d7, d8] }
  | _ => none }
def FnBinaryGenAppendElementTwiceOnOneDrawWrongFalsely : Prop := fnBinaryGenAppendElementTwiceOnOneDrawRow.holds Try.pinned (OpenSpec.ofChange fnBinaryGenAppendElementTwiceOnOneDrawWrong)

end Rows
end Go.Proofs.Qxb6612690a
