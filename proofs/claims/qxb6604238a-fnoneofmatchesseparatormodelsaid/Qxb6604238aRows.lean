/-
  No cell of these rows narrows 'for every input' (looked for: loops, veiled, ifaces, maps, wideKeys, modest, calm, conditions, laid).
  DERIVED. THE GIVEN ROWS OF THIS SEAT. 4 by the template 'for every input the law returns true; each argument reads behind the call as it read before'; 0 by the template 'total and deterministic' (their statements: Qxb6604238aTotals.lean).
  GIVEN WITH THE SEED: the statements are not yours to turn. If you find one false, say at which input.
  Laid BY PROGRAM, IN A SANDBOX (cutbox-rows.mjs): the forced cells as the released guide's own fill.sh prints them over the translation c5924a7548cfb796… (all of the seat's roots in one cut). By AI agents, Wed Nov 11 2026. No macro, syntax, notation, axiom, sorry.
-/
import Derived.Test.Qxb6604238aChecked
import GoSem.Claim
import GoSem.ClaimJoined
import GoSem.ClaimMapViews
import Derived.JoinedTies
import Derived.KernelRfl
namespace Go.Proofs.Qxb6604238a
/- THE CELL 'sum', in the pinned program and in every row, IS THE sha256 OF THE DUMP (.gsa) THAT Qxb6604238aProg.lean LOADS. Nothing in Lean hashes anything: it is a label: what it is worth is what the hold of that sum in a sandbox is worth. -/
noncomputable def Try.pinned : Pinned := { name := "qxb6604238a", sum := "c5924a7548cfb796010fd8cbaae195e6788f7bd8c28a35bfe796d27f7f53c5d7", checked := Try.checked }
namespace Rows
def none {H : Type} : Left H := { results := [], args := [] }

/-- 'zzlaws_manifest_b1.FnIsJSONNumberMatchesAutomaton': WHATEVER THE INPUT: true; the input reads as it did. -/
def fnIsJSONNumberMatchesAutomatonSpec : ChangeSpec := { name := "fnIsJSONNumberMatchesAutomaton", fn := fun _ => fun
  | [d] => { results := [.lit (.bool true)], args := [d] }
  | _ => none }
def fnIsJSONNumberMatchesAutomatonRow : OpenClaim := { program := "qxb6604238a", sum := "c5924a7548cfb796010fd8cbaae195e6788f7bd8c28a35bfe796d27f7f53c5d7", func := "example.com/arbiter/arbiter/zzlaws_manifest_b1.FnIsJSONNumberMatchesAutomaton", spec := "fnIsJSONNumberMatchesAutomaton", unfollowed := true, recurses := true, apart := false }
def FnIsJSONNumberMatchesAutomatonSaid : Prop := fnIsJSONNumberMatchesAutomatonRow.holds Try.pinned (OpenSpec.ofChange fnIsJSONNumberMatchesAutomatonSpec)

/-- ITS FALSE NEIGHBOUR: 'it returns false'. Refute it at one input. -/
def fnIsJSONNumberMatchesAutomatonWrong : ChangeSpec := { name := "fnIsJSONNumberMatchesAutomaton", fn := fun _ => fun
  | [d] => { results := [.lit (.bool false)], args := [d] }
  | _ => none }
def FnIsJSONNumberMatchesAutomatonWrongFalsely : Prop := fnIsJSONNumberMatchesAutomatonRow.holds Try.pinned (OpenSpec.ofChange fnIsJSONNumberMatchesAutomatonWrong)

/-- 'zzlaws_manifest_b1.FnIsJSONNumberAcceptsWrittenNumbers': WHATEVER THE INPUT: true; the input reads as it did. -/
def fnIsJSONNumberAcceptsWrittenNumbersSpec : ChangeSpec := { name := "fnIsJSONNumberAcceptsWrittenNumbers", fn := fun _ => fun
  | [d1, d2, d3, d4, d5] => { results := [.lit (.bool true)], args := [d1, d2, d3, d4, d5] }
  | _ => none }
def fnIsJSONNumberAcceptsWrittenNumbersRow : OpenClaim := { program := "qxb6604238a", sum := "c5924a7548cfb796010fd8cbaae195e6788f7bd8c28a35bfe796d27f7f53c5d7", func := "example.com/arbiter/arbiter/zzlaws_manifest_b1.FnIsJSONNumberAcceptsWrittenNumbers", spec := "fnIsJSONNumberAcceptsWrittenNumbers", unfollowed := true, recurses := true, apart := false }
def FnIsJSONNumberAcceptsWrittenNumbersSaid : Prop := fnIsJSONNumberAcceptsWrittenNumbersRow.holds Try.pinned (OpenSpec.ofChange fnIsJSONNumberAcceptsWrittenNumbersSpec)

/-- ITS FALSE NEIGHBOUR: 'it returns false'. Refute it at one input. -/
def fnIsJSONNumberAcceptsWrittenNumbersWrong : ChangeSpec := { name := "fnIsJSONNumberAcceptsWrittenNumbers", fn := fun _ => fun
  | [d1, d2, d3, d4, d5] => { results := [.lit (.bool false)], args := [d1, d2, d3, d4, d5] }
  | _ => none }
def FnIsJSONNumberAcceptsWrittenNumbersWrongFalsely : Prop := fnIsJSONNumberAcceptsWrittenNumbersRow.holds Try.pinned (OpenSpec.ofChange fnIsJSONNumberAcceptsWrittenNumbersWrong)

/-- 'zzlaws_manifest_b1.FnOneOfMatchesSeparatorModel': WHATEVER THE INPUT: true; the input reads as it did. -/
def fnOneOfMatchesSeparatorModelSpec : ChangeSpec := { name := "fnOneOfMatchesSeparatorModel", fn := fun _ => fun
  | [d] => { results := [.lit (.bool true)], args := [d] }
  | _ => none }
def fnOneOfMatchesSeparatorModelRow : OpenClaim := { program := "qxb6604238a", sum := "c5924a7548cfb796010fd8cbaae195e6788f7bd8c28a35bfe796d27f7f53c5d7", func := "example.com/arbiter/arbiter/zzlaws_manifest_b1.FnOneOfMatchesSeparatorModel", spec := "fnOneOfMatchesSeparatorModel", inPlace := ["internal/abi.NoEscape", "internal/bytealg.MakeNoZero"], apart := false }
def FnOneOfMatchesSeparatorModelSaid : Prop := fnOneOfMatchesSeparatorModelRow.holds Try.pinned (OpenSpec.ofChange fnOneOfMatchesSeparatorModelSpec)

/-- ITS FALSE NEIGHBOUR: 'it returns false'. Refute it at one input. -/
def fnOneOfMatchesSeparatorModelWrong : ChangeSpec := { name := "fnOneOfMatchesSeparatorModel", fn := fun _ => fun
  | [d] => { results := [.lit (.bool false)], args := [d] }
  | _ => none }
def FnOneOfMatchesSeparatorModelWrongFalsely : Prop := fnOneOfMatchesSeparatorModelRow.holds Try.pinned (OpenSpec.ofChange fnOneOfMatchesSeparatorModelWrong)

/-- 'zzlaws_manifest_b1.FnOneOfReadsBack': WHATEVER THE INPUT: true; the input reads as it did. -/
def fnOneOfReadsBackSpec : ChangeSpec := { name := "fnOneOfReadsBack", fn := fun _ => fun
  | [d] => { results := [.lit (.bool true)], args := [d] }
  | _ => none }
def fnOneOfReadsBackRow : OpenClaim := { program := "qxb6604238a", sum := "c5924a7548cfb796010fd8cbaae195e6788f7bd8c28a35bfe796d27f7f53c5d7", func := "example.com/arbiter/arbiter/zzlaws_manifest_b1.FnOneOfReadsBack", spec := "fnOneOfReadsBack", inPlace := ["internal/abi.NoEscape", "internal/bytealg.MakeNoZero"], apart := false }
def FnOneOfReadsBackSaid : Prop := fnOneOfReadsBackRow.holds Try.pinned (OpenSpec.ofChange fnOneOfReadsBackSpec)

/-- ITS FALSE NEIGHBOUR: 'it returns false'. Refute it at one input. -/
def fnOneOfReadsBackWrong : ChangeSpec := { name := "fnOneOfReadsBack", fn := fun _ => fun
  | [d] => { results := [.lit (.bool false)], args := [d] }
  | _ => none }
def FnOneOfReadsBackWrongFalsely : Prop := fnOneOfReadsBackRow.holds Try.pinned (OpenSpec.ofChange fnOneOfReadsBackWrong)

end Rows
end Go.Proofs.Qxb6604238a
