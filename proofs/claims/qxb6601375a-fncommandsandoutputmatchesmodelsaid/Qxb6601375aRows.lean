/-
  No cell of these rows narrows 'for every input' (looked for: loops, veiled, ifaces, maps, wideKeys, modest, calm, conditions, laid).
  DERIVED. THE GIVEN ROWS OF THIS SEAT. 4 by the template 'for every input the law returns true; each argument reads behind the call as it read before'; 0 by the template 'total and deterministic' (their statements: Qxb6601375aTotals.lean).
  GIVEN WITH THE SEED: the statements are not yours to turn. If you find one false, say at which input.
  Laid BY PROGRAM, IN A SANDBOX (cutbox-rows.mjs): the forced cells as the released guide's own fill.sh prints them over the translation f7487d3601cbc210… (all of the seat's roots in one cut). By AI agents, Wed Nov 11 2026. No macro, syntax, notation, axiom, sorry.
-/
import Derived.Test.Qxb6601375aChecked
import GoSem.Claim
import GoSem.ClaimJoined
import GoSem.ClaimMapViews
import Derived.JoinedTies
import Derived.KernelRfl
namespace Go.Proofs.Qxb6601375a
/- THE CELL 'sum', in the pinned program and in every row, IS THE sha256 OF THE DUMP (.gsa) THAT Qxb6601375aProg.lean LOADS. Nothing in Lean hashes anything: it is a label: what it is worth is what the hold of that sum in a sandbox is worth. -/
noncomputable def Try.pinned : Pinned := { name := "qxb6601375a", sum := "f7487d3601cbc210aa9aab623b4bbc49eb85db593d42abc9f041f7218b17b59c", checked := Try.checked }
namespace Rows
def none {H : Type} : Left H := { results := [], args := [] }

/-- 'zzlaws_internal_markdown_b1.FnBlocksMatchesModel': WHATEVER THE INPUT: true; the input reads as it did. -/
def fnBlocksMatchesModelSpec : ChangeSpec := { name := "fnBlocksMatchesModel", fn := fun _ => fun
  | [d] => { results := [.lit (.bool true)], args := [d] }
  | _ => none }
def fnBlocksMatchesModelRow : OpenClaim := { program := "qxb6601375a", sum := "f7487d3601cbc210aa9aab623b4bbc49eb85db593d42abc9f041f7218b17b59c", func := "example.com/sheaf/sheaf/zzlaws_internal_markdown_b1.FnBlocksMatchesModel", spec := "fnBlocksMatchesModel", inPlace := ["internal/bytealg.IndexByteString"], unfollowed := true, recurses := true, apart := false }
def FnBlocksMatchesModelSaid : Prop := fnBlocksMatchesModelRow.holds Try.pinned (OpenSpec.ofChange fnBlocksMatchesModelSpec)

/-- ITS FALSE NEIGHBOUR: 'it returns false'. Refute it at one input. -/
def fnBlocksMatchesModelWrong : ChangeSpec := { name := "fnBlocksMatchesModel", fn := fun _ => fun
  | [d] => { results := [.lit (.bool false)], args := [d] }
  | _ => none }
def FnBlocksMatchesModelWrongFalsely : Prop := fnBlocksMatchesModelRow.holds Try.pinned (OpenSpec.ofChange fnBlocksMatchesModelWrong)

/-- 'zzlaws_internal_markdown_b1.FnBlocksReadsBackWhatIsWritten': WHATEVER THE INPUT: true; the input reads as it did. -/
def fnBlocksReadsBackWhatIsWrittenSpec : ChangeSpec := { name := "fnBlocksReadsBackWhatIsWritten", fn := fun _ => fun
  | [d1, d2, d3] => { results := [.lit (.bool true)], args := [d1, d2, d3] }
  | _ => none }
def fnBlocksReadsBackWhatIsWrittenRow : OpenClaim := { program := "qxb6601375a", sum := "f7487d3601cbc210aa9aab623b4bbc49eb85db593d42abc9f041f7218b17b59c", func := "example.com/sheaf/sheaf/zzlaws_internal_markdown_b1.FnBlocksReadsBackWhatIsWritten", spec := "fnBlocksReadsBackWhatIsWritten", inPlace := ["internal/bytealg.IndexByteString"], unfollowed := true, recurses := true, apart := false }
def FnBlocksReadsBackWhatIsWrittenSaid : Prop := fnBlocksReadsBackWhatIsWrittenRow.holds Try.pinned (OpenSpec.ofChange fnBlocksReadsBackWhatIsWrittenSpec)

/-- ITS FALSE NEIGHBOUR: 'it returns false'. Refute it at one input. -/
def fnBlocksReadsBackWhatIsWrittenWrong : ChangeSpec := { name := "fnBlocksReadsBackWhatIsWritten", fn := fun _ => fun
  | [d1, d2, d3] => { results := [.lit (.bool false)], args := [d1, d2, d3] }
  | _ => none }
def FnBlocksReadsBackWhatIsWrittenWrongFalsely : Prop := fnBlocksReadsBackWhatIsWrittenRow.holds Try.pinned (OpenSpec.ofChange fnBlocksReadsBackWhatIsWrittenWrong)

/-- 'zzlaws_internal_markdown_b1.FnCommandsAndOutputMatchesModel': WHATEVER THE INPUT: true; the input reads as it did. -/
def fnCommandsAndOutputMatchesModelSpec : ChangeSpec := { name := "fnCommandsAndOutputMatchesModel", fn := fun _ => fun
  | [d1, d2, d3] => { results := [.lit (.bool true)], args := [d1, d2, d3] }
  | _ => none }
def fnCommandsAndOutputMatchesModelRow : OpenClaim := { program := "qxb6601375a", sum := "f7487d3601cbc210aa9aab623b4bbc49eb85db593d42abc9f041f7218b17b59c", func := "example.com/sheaf/sheaf/zzlaws_internal_markdown_b1.FnCommandsAndOutputMatchesModel", spec := "fnCommandsAndOutputMatchesModel", inPlace := ["internal/abi.NoEscape", "internal/bytealg.MakeNoZero"], apart := false }
def FnCommandsAndOutputMatchesModelSaid : Prop := fnCommandsAndOutputMatchesModelRow.holds Try.pinned (OpenSpec.ofChange fnCommandsAndOutputMatchesModelSpec)

/-- ITS FALSE NEIGHBOUR: 'it returns false'. Refute it at one input. -/
def fnCommandsAndOutputMatchesModelWrong : ChangeSpec := { name := "fnCommandsAndOutputMatchesModel", fn := fun _ => fun
  | [d1, d2, d3] => { results := [.lit (.bool false)], args := [d1, d2, d3] }
  | _ => none }
def FnCommandsAndOutputMatchesModelWrongFalsely : Prop := fnCommandsAndOutputMatchesModelRow.holds Try.pinned (OpenSpec.ofChange fnCommandsAndOutputMatchesModelWrong)

/-- 'zzlaws_internal_markdown_b1.FnCommandsAndOutputShorterPrefixStillFinds': WHATEVER THE INPUT: true; the input reads as it did. -/
def fnCommandsAndOutputShorterPrefixStillFindsSpec : ChangeSpec := { name := "fnCommandsAndOutputShorterPrefixStillFinds", fn := fun _ => fun
  | [d1, d2, d3, d4] => { results := [.lit (.bool true)], args := [d1, d2, d3, d4] }
  | _ => none }
def fnCommandsAndOutputShorterPrefixStillFindsRow : OpenClaim := { program := "qxb6601375a", sum := "f7487d3601cbc210aa9aab623b4bbc49eb85db593d42abc9f041f7218b17b59c", func := "example.com/sheaf/sheaf/zzlaws_internal_markdown_b1.FnCommandsAndOutputShorterPrefixStillFinds", spec := "fnCommandsAndOutputShorterPrefixStillFinds", inPlace := ["internal/abi.NoEscape", "internal/bytealg.MakeNoZero"], apart := false }
def FnCommandsAndOutputShorterPrefixStillFindsSaid : Prop := fnCommandsAndOutputShorterPrefixStillFindsRow.holds Try.pinned (OpenSpec.ofChange fnCommandsAndOutputShorterPrefixStillFindsSpec)

/-- ITS FALSE NEIGHBOUR: 'it returns false'. Refute it at one input. -/
def fnCommandsAndOutputShorterPrefixStillFindsWrong : ChangeSpec := { name := "fnCommandsAndOutputShorterPrefixStillFinds", fn := fun _ => fun
  | [d1, d2, d3, d4] => { results := [.lit (.bool false)], args := [d1, d2, d3, d4] }
  | _ => none }
def FnCommandsAndOutputShorterPrefixStillFindsWrongFalsely : Prop := fnCommandsAndOutputShorterPrefixStillFindsRow.holds Try.pinned (OpenSpec.ofChange fnCommandsAndOutputShorterPrefixStillFindsWrong)

end Rows
end Go.Proofs.Qxb6601375a
