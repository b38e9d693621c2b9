/-
  No cell of these rows narrows 'for every input' (looked for: loops, veiled, ifaces, maps, wideKeys, modest, calm, conditions, laid).
  DERIVED. THE GIVEN ROWS OF THIS SEAT. 3 by the template 'for every input the law returns true; each argument reads behind the call as it read before'; 0 by the template 'total and deterministic' (their statements: Qxb6603732aTotals.lean).
  GIVEN WITH THE SEED: the statements are not yours to turn. If you find one false, say at which input.
  Laid BY PROGRAM, IN A SANDBOX (cutbox-rows.mjs): the forced cells as the released guide's own fill.sh prints them over the translation 7dca06ee642086c8… (all of the seat's roots in one cut). By AI agents, Wed Nov 11 2026. No macro, syntax, notation, axiom, sorry.
-/
import Derived.Test.Qxb6603732aChecked
import GoSem.Claim
import GoSem.ClaimJoined
import GoSem.ClaimMapViews
import Derived.JoinedTies
import Derived.KernelRfl
namespace Go.Proofs.Qxb6603732a
/- THE CELL 'sum', in the pinned program and in every row, IS THE sha256 OF THE DUMP (.gsa) THAT Qxb6603732aProg.lean LOADS. Nothing in Lean hashes anything: it is a label: what it is worth is what the hold of that sum in a sandbox is worth. -/
noncomputable def Try.pinned : Pinned := { name := "qxb6603732a", sum := "7dca06ee642086c82f5ed67ea42f4d25df13369ea7757c3a9c8b48ad75fc9b1e", checked := Try.checked }
namespace Rows
def none {H : Type} : Left H := { results := [], args := [] }

/-- 'zzlaws_internal_analyze_b1.FnModrmLengthTable': WHATEVER THE INPUT: true; the input reads as it did. -/
def fnModrmLengthTableSpec : ChangeSpec := { name := "fnModrmLengthTable", fn := fun _ => fun
  | [d] => { results := [.lit (.bool true)], args := [d] }
  | _ => none }
def fnModrmLengthTableRow : OpenClaim := { program := "qxb6603732a", sum := "7dca06ee642086c82f5ed67ea42f4d25df13369ea7757c3a9c8b48ad75fc9b1e", func := "example.com/footprint-to-filter/footprint-to-filter/zzlaws_internal_analyze_b1.FnModrmLengthTable", spec := "fnModrmLengthTable", apart := false }
def FnModrmLengthTableSaid : Prop := fnModrmLengthTableRow.holds Try.pinned (OpenSpec.ofChange fnModrmLengthTableSpec)

/-- ITS FALSE NEIGHBOUR: 'it returns false'. Refute it at one input. -/
def fnModrmLengthTableWrong : ChangeSpec := { name := "fnModrmLengthTable", fn := fun _ => fun
  | [d] => { results := [.lit (.bool false)], args := [d] }
  | _ => none }
def FnModrmLengthTableWrongFalsely : Prop := fnModrmLengthTableRow.holds Try.pinned (OpenSpec.ofChange fnModrmLengthTableWrong)

/-- 'zzlaws_internal_analyze_b1.FnModrmLengthReadsTwoBytes': WHATEVER THE INPUT: true; the input reads as it did. -/
def fnModrmLengthReadsTwoBytesSpec : ChangeSpec := { name := "fnModrmLengthReadsTwoBytes", fn := fun _ => fun
  | [d1, d2] => { results := [.lit (.bool true)], args := [d1, d2] }
  | _ => none }
def fnModrmLengthReadsTwoBytesRow : OpenClaim := { program := "qxb6603732a", sum := "7dca06ee642086c82f5ed67ea42f4d25df13369ea7757c3a9c8b48ad75fc9b1e", func := "example.com/footprint-to-filter/footprint-to-filter/zzlaws_internal_analyze_b1.FnModrmLengthReadsTwoBytes", spec := "fnModrmLengthReadsTwoBytes", apart := false }
def FnModrmLengthReadsTwoBytesSaid : Prop := fnModrmLengthReadsTwoBytesRow.holds Try.pinned (OpenSpec.ofChange fnModrmLengthReadsTwoBytesSpec)

/-- ITS FALSE NEIGHBOUR: 'it returns false'. Refute it at one input. -/
def fnModrmLengthReadsTwoBytesWrong : ChangeSpec := { name := "fnModrmLengthReadsTwoBytes", fn := fun _ => fun
  | [d1, d2] => { results := [.lit (.bool false)], args := [d1, d2] }
  | _ => none }
def FnModrmLengthReadsTwoBytesWrongFalsely : Prop := fnModrmLengthReadsTwoBytesRow.holds Try.pinned (OpenSpec.ofChange fnModrmLengthReadsTwoBytesWrong)

/-- 'zzlaws_internal_analyze_b1.FnVexPrefixMapField': WHATEVER THE INPUT: true; the input reads as it did. -/
def fnVexPrefixMapFieldSpec : ChangeSpec := { name := "fnVexPrefixMapField", fn := fun _ => fun
  | [d1, d2] => { results := [.lit (.bool true)], args := [d1, d2] }
  | _ => none }
def fnVexPrefixMapFieldRow : OpenClaim := { program := "qxb6603732a", sum := "7dca06ee642086c82f5ed67ea42f4d25df13369ea7757c3a9c8b48ad75fc9b1e", func := "example.com/footprint-to-filter/footprint-to-filter/zzlaws_internal_analyze_b1.FnVexPrefixMapField", spec := "fnVexPrefixMapField", apart := false }
def FnVexPrefixMapFieldSaid : Prop := fnVexPrefixMapFieldRow.holds Try.pinned (OpenSpec.ofChange fnVexPrefixMapFieldSpec)

/-- ITS FALSE NEIGHBOUR: 'it returns false'. Refute it at one input. -/
def fnVexPrefixMapFieldWrong : ChangeSpec := { name := "fnVexPrefixMapField", fn := fun _ => fun
  | [d1, d2] => { results := [.lit (.bool false)], args := [d1, d2] }
  | _ => none }
def FnVexPrefixMapFieldWrongFalsely : Prop := fnVexPrefixMapFieldRow.holds Try.pinned (OpenSpec.ofChange fnVexPrefixMapFieldWrong)

end Rows
end Go.Proofs.Qxb6603732a
