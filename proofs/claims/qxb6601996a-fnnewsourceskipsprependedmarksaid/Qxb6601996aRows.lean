/-
  No cell of these rows narrows 'for every input' (looked for: loops, veiled, ifaces, maps, wideKeys, modest, calm, conditions, laid).
  DERIVED. THE GIVEN ROWS OF THIS SEAT. 3 by the template 'for every input the law returns true; each argument reads behind the call as it read before'; 0 by the template 'total and deterministic' (their statements: Qxb6601996aTotals.lean).
  GIVEN WITH THE SEED: the statements are not yours to turn. If you find one false, say at which input.
  Laid BY PROGRAM, IN A SANDBOX (cutbox-rows.mjs): the forced cells as the released guide's own fill.sh prints them over the translation 6b087272b7c07db6… (all of the seat's roots in one cut). By AI agents, Wed Nov 11 2026. No macro, syntax, notation, axiom, sorry.
-/
import Derived.Test.Qxb6601996aChecked
import GoSem.Claim
import GoSem.ClaimJoined
import GoSem.ClaimMapViews
import Derived.JoinedTies
import Derived.KernelRfl
namespace Go.Proofs.Qxb6601996a
/- THE CELL 'sum', in the pinned program and in every row, IS THE sha256 OF THE DUMP (.gsa) THAT Qxb6601996aProg.lean LOADS. Nothing in Lean hashes anything: it is a label: what it is worth is what the hold of that sum in a sandbox is worth. -/
noncomputable def Try.pinned : Pinned := { name := "qxb6601996a", sum := "6b087272b7c07db6e61436e25ad71bfc747c1c5d5f7fa607433df8f9ae536391", checked := Try.checked }
namespace Rows
def none {H : Type} : Left H := { results := [], args := [] }

/-- 'zzlaws_internal_casefile_b1.FnSeparatedIdempotent': WHATEVER THE INPUT: true; the input reads as it did. -/
def fnSeparatedIdempotentSpec : ChangeSpec := { name := "fnSeparatedIdempotent", fn := fun _ => fun
  | [d] => { results := [.lit (.bool true)], args := [d] }
  | _ => none }
def fnSeparatedIdempotentRow : OpenClaim := { program := "qxb6601996a", sum := "6b087272b7c07db6e61436e25ad71bfc747c1c5d5f7fa607433df8f9ae536391", func := "example.com/costmark/costmark/zzlaws_internal_casefile_b1.FnSeparatedIdempotent", spec := "fnSeparatedIdempotent", inPlace := ["internal/bytealg.IndexByte"], apart := false }
def FnSeparatedIdempotentSaid : Prop := fnSeparatedIdempotentRow.holds Try.pinned (OpenSpec.ofChange fnSeparatedIdempotentSpec)

/-- ITS FALSE NEIGHBOUR: 'it returns false'. Refute it at one input. -/
def fnSeparatedIdempotentWrong : ChangeSpec := { name := "fnSeparatedIdempotent", fn := fun _ => fun
  | [d] => { results := [.lit (.bool false)], args := [d] }
  | _ => none }
def FnSeparatedIdempotentWrongFalsely : Prop := fnSeparatedIdempotentRow.holds Try.pinned (OpenSpec.ofChange fnSeparatedIdempotentWrong)

/-- 'zzlaws_internal_casefile_b1.FnSeparatedSkipsCommentLine': WHATEVER THE INPUT: true; the input reads as it did. -/
def fnSeparatedSkipsCommentLineSpec : ChangeSpec := { name := "fnSeparatedSkipsCommentLine", fn := fun _ => fun
  | [d1, d2] => { results := [.lit (.bool true)], args := [d1, d2] }
  | _ => none }
def fnSeparatedSkipsCommentLineRow : OpenClaim := { program := "qxb6601996a", sum := "6b087272b7c07db6e61436e25ad71bfc747c1c5d5f7fa607433df8f9ae536391", func := "example.com/costmark/costmark/zzlaws_internal_casefile_b1.FnSeparatedSkipsCommentLine", spec := "fnSeparatedSkipsCommentLine", inPlace := ["internal/bytealg.IndexByte"], apart := false }
def FnSeparatedSkipsCommentLineSaid : Prop := fnSeparatedSkipsCommentLineRow.holds Try.pinned (OpenSpec.ofChange fnSeparatedSkipsCommentLineSpec)

/-- ITS FALSE NEIGHBOUR: 'it returns false'. Refute it at one input. -/
def fnSeparatedSkipsCommentLineWrong : ChangeSpec := { name := "fnSeparatedSkipsCommentLine", fn := fun _ => fun
  | [d1, d2] => { results := [.lit (.bool false)], args := [d1, d2] }
  | _ => none }
def FnSeparatedSkipsCommentLineWrongFalsely : Prop := fnSeparatedSkipsCommentLineRow.holds Try.pinned (OpenSpec.ofChange fnSeparatedSkipsCommentLineWrong)

/-- 'zzlaws_internal_casefile_b1.FnNewSourceSkipsPrependedMark': WHATEVER THE INPUT: true; the input reads as it did. -/
def fnNewSourceSkipsPrependedMarkSpec : ChangeSpec := { name := "fnNewSourceSkipsPrependedMark", fn := fun _ => fun
  | [d] => { results := [.lit (.bool true)], args := [d] }
  | _ => none }
def fnNewSourceSkipsPrependedMarkRow : OpenClaim := { program := "qxb6601996a", sum := "6b087272b7c07db6e61436e25ad71bfc747c1c5d5f7fa607433df8f9ae536391", func := "example.com/costmark/costmark/zzlaws_internal_casefile_b1.FnNewSourceSkipsPrependedMark", spec := "fnNewSourceSkipsPrependedMark", apart := false }
def FnNewSourceSkipsPrependedMarkSaid : Prop := fnNewSourceSkipsPrependedMarkRow.holds Try.pinned (OpenSpec.ofChange fnNewSourceSkipsPrependedMarkSpec)

/-- ITS FALSE NEIGHBOUR: 'it returns false'. Refute it at one input. -/
def fnNewSourceSkipsPrependedMarkWrong : ChangeSpec := { name := "fnNewSourceSkipsPrependedMark", fn := fun _ => fun
  | [d] => { results := [.lit (.bool false)], args := [d] }
  | _ => none }
def FnNewSourceSkipsPrependedMarkWrongFalsely : Prop := fnNewSourceSkipsPrependedMarkRow.holds Try.pinned (OpenSpec.ofChange fnNewSourceSkipsPrependedMarkWrong)

end Rows
end Go.Proofs.Qxb6601996a
