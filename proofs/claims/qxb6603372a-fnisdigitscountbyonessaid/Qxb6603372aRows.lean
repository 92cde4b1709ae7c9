/-
  No cell of these rows narrows 'for every input' (looked for: loops, veiled, ifaces, maps, wideKeys, modest, calm, conditions, laid).
  DERIVED. THE GIVEN ROWS OF THIS SEAT. 3 by the template 'for every input the law returns true; each argument reads behind the call as it read before'; 0 by the template 'total and deterministic' (their statements: Qxb6603372aTotals.lean).
  GIVEN WITH THE SEED: the statements are not yours to turn. If you find one false, say at which input.
  Laid BY PROGRAM, IN A SANDBOX (cutbox-rows.mjs): the forced cells as the released guide's own fill.sh prints them over the translation ddf3df2ab88062dd… (all of the seat's roots in one cut). By AI agents, Wed Nov 11 2026. No macro, syntax, notation, axiom, sorry.
-/
import Derived.Test.Qxb6603372aChecked
import GoSem.Claim
import GoSem.ClaimJoined
import GoSem.ClaimMapViews
import Derived.JoinedTies
import Derived.KernelRfl
namespace Go.Proofs.Qxb6603372a
/- THE CELL 'sum', in the pinned program and in every row, IS THE sha256 OF THE DUMP (.gsa) THAT Qxb6603372aProg.lean LOADS. Nothing in Lean hashes anything: it is a label: what it is worth is what the hold of that sum in a sandbox is worth. -/
noncomputable def Try.pinned : Pinned := { name := "qxb6603372a", sum := "ddf3df2ab88062dd5c6b50b81a27f6eaae98780d44f6e4a2d9df72b376f95a48", checked := Try.checked }
namespace Rows
def none {H : Type} : Left H := { results := [], args := [] }

/-- 'zzlaws_root_b1.FnIsDigitsExact': WHATEVER THE INPUT: true; the input reads as it did. -/
def fnIsDigitsExactSpec : ChangeSpec := { name := "fnIsDigitsExact", fn := fun _ => fun
  | [d] => { results := [.lit (.bool true)], args := [d] }
  | _ => none }
def fnIsDigitsExactRow : OpenClaim := { program := "qxb6603372a", sum := "ddf3df2ab88062dd5c6b50b81a27f6eaae98780d44f6e4a2d9df72b376f95a48", func := "example.com/zhuanzhai/zhuanzhai/zzlaws_root_b1.FnIsDigitsExact", spec := "fnIsDigitsExact", apart := false }
def FnIsDigitsExactSaid : Prop := fnIsDigitsExactRow.holds Try.pinned (OpenSpec.ofChange fnIsDigitsExactSpec)

/-- ITS FALSE NEIGHBOUR: 'it returns false'. Refute it at one input. -/
def fnIsDigitsExactWrong : ChangeSpec := { name := "fnIsDigitsExact", fn := fun _ => fun
  | [d] => { results := [.lit (.bool false)], args := [d] }
  | _ => none }
def FnIsDigitsExactWrongFalsely : Prop := fnIsDigitsExactRow.holds Try.pinned (OpenSpec.ofChange fnIsDigitsExactWrong)

/-- 'zzlaws_root_b1.FnIsDigitsConcat': WHATEVER THE INPUT: true; the input reads as it did. -/
def fnIsDigitsConcatSpec : ChangeSpec := { name := "fnIsDigitsConcat", fn := fun _ => fun
  | [d1, d2] => { results := [.lit (.bool true)], args := [d1, d2] }
  | _ => none }
def fnIsDigitsConcatRow : OpenClaim := { program := "qxb6603372a", sum := "ddf3df2ab88062dd5c6b50b81a27f6eaae98780d44f6e4a2d9df72b376f95a48", func := "example.com/zhuanzhai/zhuanzhai/zzlaws_root_b1.FnIsDigitsConcat", spec := "fnIsDigitsConcat", apart := false }
def FnIsDigitsConcatSaid : Prop := fnIsDigitsConcatRow.holds Try.pinned (OpenSpec.ofChange fnIsDigitsConcatSpec)

/-- ITS FALSE NEIGHBOUR: 'it returns false'. Refute it at one input. -/
def fnIsDigitsConcatWrong : ChangeSpec := { name := "fnIsDigitsConcat", fn := fun _ => fun
  | [d1, d2] => { results := [.lit (.bool false)], args := [d1, d2] }
  | _ => none }
def FnIsDigitsConcatWrongFalsely : Prop := fnIsDigitsConcatRow.holds Try.pinned (OpenSpec.ofChange fnIsDigitsConcatWrong)

/-- 'zzlaws_root_b1.FnIsDigitsCountByOnes': WHATEVER THE INPUT: true; the input reads as it did. -/
def fnIsDigitsCountByOnesSpec : ChangeSpec := { name := "fnIsDigitsCountByOnes", fn := fun _ => fun
  | [d] => { results := [.lit (.bool true)], args := [d] }
  | _ => none }
def fnIsDigitsCountByOnesRow : OpenClaim := { program := "qxb6603372a", sum := "ddf3df2ab88062dd5c6b50b81a27f6eaae98780d44f6e4a2d9df72b376f95a48", func := "example.com/zhuanzhai/zhuanzhai/zzlaws_root_b1.FnIsDigitsCountByOnes", spec := "fnIsDigitsCountByOnes", apart := false }
def FnIsDigitsCountByOnesSaid : Prop := fnIsDigitsCountByOnesRow.holds Try.pinned (OpenSpec.ofChange fnIsDigitsCountByOnesSpec)

/-- ITS FALSE NEIGHBOUR: 'it returns false'. Refute it at one input. -/
def fnIsDigitsCountByOnesWrong : ChangeSpec := { name := "fnIsDigitsCountByOnes", fn := fun _ => fun
  | [d] => { results := [.lit (.bool false)], args := [d] }
  | _ => none }
def FnIsDigitsCountByOnesWrongFalsely : Prop := fnIsDigitsCountByOnesRow.holds Try.pinned (OpenSpec.ofChange fnIsDigitsCountByOnesWrong)

end Rows
end Go.Proofs.Qxb6603372a
