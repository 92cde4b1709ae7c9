/-
  No cell of these rows narrows 'for every input' (looked for: loops, veiled, ifaces, maps, wideKeys, modest, calm, conditions, laid).
  DERIVED. THE GIVEN ROWS OF THIS SEAT. 5 by the template 'for every input the law returns true; each argument reads behind the call as it read before'; 0 by the template 'total and deterministic' (their statements: Qxb6603185aTotals.lean).
  GIVEN WITH THE SEED: the statements are not yours to turn. If you find one false, say at which input.
  Laid BY PROGRAM, IN A SANDBOX (cutbox-rows.mjs): the forced cells as the released guide's own fill.sh prints them over the translation 62a61071fa6bffe2… (all of the seat's roots in one cut). By AI agents, Wed Nov 11 2026. No macro, syntax, notation, axiom, sorry.
-/
import Derived.Test.Qxb6603185aChecked
import GoSem.Claim
import GoSem.ClaimJoined
import GoSem.ClaimMapViews
import Derived.JoinedTies
import Derived.KernelRfl
namespace Go.Proofs.Qxb6603185a
/- THE CELL 'sum', in the pinned program and in every row, IS THE sha256 OF THE DUMP (.gsa) THAT Qxb6603185aProg.lean LOADS. Nothing in Lean hashes anything: it is a label: what it is worth is what the hold of that sum in a sandbox is worth. -/
noncomputable def Try.pinned : Pinned := { name := "qxb6603185a", sum := "62a61071fa6bffe20c08005d0b64d7e1106fd5b073cd2daf449cb53a16934276", checked := Try.checked }
namespace Rows
def none {H : Type} : Left H := { results := [], args := [] }

/-- 'zzlaws_root_b1.FnClonePayloadsCopiesExactly': WHATEVER THE INPUT: true; the input reads as it did. -/
def fnClonePayloadsCopiesExactlySpec : ChangeSpec := { name := "fnClonePayloadsCopiesExactly", fn := fun _ => fun
  | [d] => { results := [.lit (.bool true)], args := [d] }
  | _ => none }
def fnClonePayloadsCopiesExactlyRow : OpenClaim := { program := "qxb6603185a", sum := "62a61071fa6bffe20c08005d0b64d7e1106fd5b073cd2daf449cb53a16934276", func := "example.com/spontane/spontane/zzlaws_root_b1.FnClonePayloadsCopiesExactly", spec := "fnClonePayloadsCopiesExactly", apart := false }
def FnClonePayloadsCopiesExactlySaid : Prop := fnClonePayloadsCopiesExactlyRow.holds Try.pinned (OpenSpec.ofChange fnClonePayloadsCopiesExactlySpec)

/-- ITS FALSE NEIGHBOUR: 'it returns false'. Refute it at one input. -/
def fnClonePayloadsCopiesExactlyWrong : ChangeSpec := { name := "fnClonePayloadsCopiesExactly", fn := fun _ => fun
  | [d] => { results := [.lit (.bool false)], args := [d] }
  | _ => none }
def FnClonePayloadsCopiesExactlyWrongFalsely : Prop := fnClonePayloadsCopiesExactlyRow.holds Try.pinned (OpenSpec.ofChange fnClonePayloadsCopiesExactlyWrong)

/-- 'zzlaws_root_b1.FnSeqsScriptLastWriteWins': WHATEVER THE INPUT: true; the input reads as it did. -/
def fnSeqsScriptLastWriteWinsSpec : ChangeSpec := { name := "fnSeqsScriptLastWriteWins", fn := fun _ => fun
  | [d1, d2] => { results := [.lit (.bool true)], args := [d1, d2] }
  | _ => none }
def fnSeqsScriptLastWriteWinsRow : OpenClaim := { program := "qxb6603185a", sum := "62a61071fa6bffe20c08005d0b64d7e1106fd5b073cd2daf449cb53a16934276", func := "example.com/spontane/spontane/zzlaws_root_b1.FnSeqsScriptLastWriteWins", spec := "fnSeqsScriptLastWriteWins", apart := false }
def FnSeqsScriptLastWriteWinsSaid : Prop := fnSeqsScriptLastWriteWinsRow.holds Try.pinned (OpenSpec.ofChange fnSeqsScriptLastWriteWinsSpec)

/-- ITS FALSE NEIGHBOUR: 'it returns false'. Refute it at one input. -/
def fnSeqsScriptLastWriteWinsWrong : ChangeSpec := { name := "fnSeqsScriptLastWriteWins", fn := fun _ => fun
  | [d1, d2] => { results := [.lit (.bool false)], args := [d1, d2] }
  | _ => none }
def FnSeqsScriptLastWriteWinsWrongFalsely : Prop := fnSeqsScriptLastWriteWinsRow.holds Try.pinned (OpenSpec.ofChange fnSeqsScriptLastWriteWinsWrong)

/-- 'zzlaws_root_b1.FnTallyAddCaseTable': WHATEVER THE INPUT: true; the input reads as it did. -/
def fnTallyAddCaseTableSpec : ChangeSpec := { name := "fnTallyAddCaseTable", fn := fun _ => fun
  | [d1, d2, d3, d4, d5, d6, d7, d8, d9] => { results := [.lit (.bool true)], args := [d1, d2, d3, d4, d5, d6, d7, d8, d9] }
  | _ => none }
def fnTallyAddCaseTableRow : OpenClaim := { program := "qxb6603185a", sum := "62a61071fa6bffe20c08005d0b64d7e1106fd5b073cd2daf449cb53a16934276", func := "example.com/spontane/spontane/zzlaws_root_b1.FnTallyAddCaseTable", spec := "fnTallyAddCaseTable", apart := false }
def FnTallyAddCaseTableSaid : Prop := fnTallyAddCaseTableRow.holds Try.pinned (OpenSpec.ofChange fnTallyAddCaseTableSpec)

/-- ITS FALSE NEIGHBOUR: 'it returns false'. Refute it at one input. -/
def fnTallyAddCaseTableWrong : ChangeSpec := { name := "fnTallyAddCaseTable", fn := fun _ => fun
  | [d1, d2, d3, d4, d5, d6, d7, d8, d9] => { results := [.lit (.bool false)], args := [d1, d2, d3, d4, d5, d6, d7, d8, d9] }
  | _ => none }
def FnTallyAddCaseTableWrongFalsely : Prop := fnTallyAddCaseTableRow.holds Try.pinned (OpenSpec.ofChange fnTallyAddCaseTableWrong)

/-- 'zzlaws_root_b1.FnTallyScriptFirstVoteModel': WHATEVER THE INPUT: true; the input reads as it did. -/
def fnTallyScriptFirstVoteModelSpec : ChangeSpec := { name := "fnTallyScriptFirstVoteModel", fn := fun _ => fun
  | [d] => { results := [.lit (.bool true)], args := [d] }
  | _ => none }
def fnTallyScriptFirstVoteModelRow : OpenClaim := { program := "qxb6603185a", sum := "62a61071fa6bffe20c08005d0b64d7e1106fd5b073cd2daf449cb53a16934276", func := "example.com/spontane/spontane/zzlaws_root_b1.FnTallyScriptFirstVoteModel", spec := "fnTallyScriptFirstVoteModel", apart := false }
def FnTallyScriptFirstVoteModelSaid : Prop := fnTallyScriptFirstVoteModelRow.holds Try.pinned (OpenSpec.ofChange fnTallyScriptFirstVoteModelSpec)

/-- ITS FALSE NEIGHBOUR: 'it returns false'. Refute it at one input. -/
def fnTallyScriptFirstVoteModelWrong : ChangeSpec := { name := "fnTallyScriptFirstVoteModel", fn := fun _ => fun
  | [d] => { results := [.lit (.bool false)], args := [d] }
  | _ => none }
def FnTallyScriptFirstVoteModelWrongFalsely : Prop := fnTallyScriptFirstVoteModelRow.holds Try.pinned (OpenSpec.ofChange fnTallyScriptFirstVoteModelWrong)

/-- 'zzlaws_root_b1.FnClonePayloadsFreshDisjoint': WHATEVER THE INPUT: true; the input reads as it did. -/
def fnClonePayloadsFreshDisjointSpec : ChangeSpec := { name := "fnClonePayloadsFreshDisjoint", fn := fun _ => fun
  | [d] => { results := [.lit (.bool true)], args := [d] }
  | _ => none }
def fnClonePayloadsFreshDisjointRow : OpenClaim := { program := "qxb6603185a", sum := "62a61071fa6bffe20c08005d0b64d7e1106fd5b073cd2daf449cb53a16934276", func := "example.com/spontane/spontane/zzlaws_root_b1.FnClonePayloadsFreshDisjoint", spec := "fnClonePayloadsFreshDisjoint", apart := false }
def FnClonePayloadsFreshDisjointSaid : Prop := fnClonePayloadsFreshDisjointRow.holds Try.pinned (OpenSpec.ofChange fnClonePayloadsFreshDisjointSpec)

/-- ITS FALSE NEIGHBOUR: 'it returns false'. Refute it at one input. -/
def fnClonePayloadsFreshDisjointWrong : ChangeSpec := { name := "fnClonePayloadsFreshDisjoint", fn := fun _ => fun
  | [d] => { results := [.lit (.bool false)], args := [d] }
  | _ => none }
def FnClonePayloadsFreshDisjointWrongFalsely : Prop := fnClonePayloadsFreshDisjointRow.holds Try.pinned (OpenSpec.ofChange fnClonePayloadsFreshDisjointWrong)

end Rows
end Go.Proofs.Qxb6603185a
