/-
  No cell of these rows narrows 'for every input' (looked for: loops, veiled, ifaces, maps, wideKeys, modest, calm, conditions, laid).
  DERIVED. THE GIVEN ROWS OF THIS SEAT. 3 by the template 'for every input the law returns true; each argument reads behind the call as it read before'; 0 by the template 'total and deterministic' (their statements: Qxb6604214aTotals.lean).
  GIVEN WITH THE SEED: the statements are not yours to turn. If you find one false, say at which input.
  Laid BY PROGRAM, IN A SANDBOX (cutbox-rows.mjs): the forced cells as the released guide's own fill.sh prints them over the translation fa38fe93494b5a6f… (all of the seat's roots in one cut). By AI agents, Wed Nov 11 2026. No macro, syntax, notation, axiom, sorry.
-/
import Derived.Test.Qxb6604214aChecked
import GoSem.Claim
import GoSem.ClaimJoined
import GoSem.ClaimMapViews
import Derived.JoinedTies
import Derived.KernelRfl
namespace Go.Proofs.Qxb6604214a
/- THE CELL 'sum', in the pinned program and in every row, IS THE sha256 OF THE DUMP (.gsa) THAT Qxb6604214aProg.lean LOADS. Nothing in Lean hashes anything: it is a label: what it is worth is what the hold of that sum in a sandbox is worth. -/
noncomputable def Try.pinned : Pinned := { name := "qxb6604214a", sum := "fa38fe93494b5a6ff53e9c476a8e99d7fdb919437f3186a926465cba54c0dcc8", checked := Try.checked }
namespace Rows
def none {H : Type} : Left H := { results := [], args := [] }

/-- 'zzlaws_internal_server_b1.FnReadPageScriptKeepsBudget': WHATEVER THE INPUT: true; the input reads as it did. -/
def fnReadPageScriptKeepsBudgetSpec : ChangeSpec := { name := "fnReadPageScriptKeepsBudget", fn := fun _ => fun
  | [d] => { results := [.lit (.bool true)], args := [d] }
  | _ => none }
def fnReadPageScriptKeepsBudgetRow : OpenClaim := { program := "qxb6604214a", sum := "fa38fe93494b5a6ff53e9c476a8e99d7fdb919437f3186a926465cba54c0dcc8", func := "example.com/skeinlog/skeinlog/zzlaws_internal_server_b1.FnReadPageScriptKeepsBudget", spec := "fnReadPageScriptKeepsBudget", apart := false }
def FnReadPageScriptKeepsBudgetSaid : Prop := fnReadPageScriptKeepsBudgetRow.holds Try.pinned (OpenSpec.ofChange fnReadPageScriptKeepsBudgetSpec)

/-- ITS FALSE NEIGHBOUR: 'it returns false'. Refute it at one input. -/
def fnReadPageScriptKeepsBudgetWrong : ChangeSpec := { name := "fnReadPageScriptKeepsBudget", fn := fun _ => fun
  | [d] => { results := [.lit (.bool false)], args := [d] }
  | _ => none }
def FnReadPageScriptKeepsBudgetWrongFalsely : Prop := fnReadPageScriptKeepsBudgetRow.holds Try.pinned (OpenSpec.ofChange fnReadPageScriptKeepsBudgetWrong)

/-- 'zzlaws_internal_server_b1.FnOneReadIsLongestLegalRead': WHATEVER THE INPUT: true; the input reads as it did. -/
def fnOneReadIsLongestLegalReadSpec : ChangeSpec := { name := "fnOneReadIsLongestLegalRead", fn := fun _ => fun
  | [d] => { results := [.lit (.bool true)], args := [d] }
  | _ => none }
def fnOneReadIsLongestLegalReadRow : OpenClaim := { program := "qxb6604214a", sum := "fa38fe93494b5a6ff53e9c476a8e99d7fdb919437f3186a926465cba54c0dcc8", func := "example.com/skeinlog/skeinlog/zzlaws_internal_server_b1.FnOneReadIsLongestLegalRead", spec := "fnOneReadIsLongestLegalRead", apart := false }
def FnOneReadIsLongestLegalReadSaid : Prop := fnOneReadIsLongestLegalReadRow.holds Try.pinned (OpenSpec.ofChange fnOneReadIsLongestLegalReadSpec)

/-- ITS FALSE NEIGHBOUR: 'it returns false'. Refute it at one input. -/
def fnOneReadIsLongestLegalReadWrong : ChangeSpec := { name := "fnOneReadIsLongestLegalRead", fn := fun _ => fun
  | [d] => { results := [.lit (.bool false)], args := [d] }
  | _ => none }
def FnOneReadIsLongestLegalReadWrongFalsely : Prop := fnOneReadIsLongestLegalReadRow.holds Try.pinned (OpenSpec.ofChange fnOneReadIsLongestLegalReadWrong)

/-- 'zzlaws_internal_server_b1.FnOneReadSoundAndStopsOnlyWhereItMust': WHATEVER THE INPUT: true; the input reads as it did. -/
def fnOneReadSoundAndStopsOnlyWhereItMustSpec : ChangeSpec := { name := "fnOneReadSoundAndStopsOnlyWhereItMust", fn := fun _ => fun
  | [d] => { results := [.lit (.bool true)], args := [d] }
  | _ => none }
def fnOneReadSoundAndStopsOnlyWhereItMustRow : OpenClaim := { program := "qxb6604214a", sum := "fa38fe93494b5a6ff53e9c476a8e99d7fdb919437f3186a926465cba54c0dcc8", func := "example.com/skeinlog/skeinlog/zzlaws_internal_server_b1.FnOneReadSoundAndStopsOnlyWhereItMust", spec := "fnOneReadSoundAndStopsOnlyWhereItMust", apart := false }
def FnOneReadSoundAndStopsOnlyWhereItMustSaid : Prop := fnOneReadSoundAndStopsOnlyWhereItMustRow.holds Try.pinned (OpenSpec.ofChange fnOneReadSoundAndStopsOnlyWhereItMustSpec)

/-- ITS FALSE NEIGHBOUR: 'it returns false'. Refute it at one input. -/
def fnOneReadSoundAndStopsOnlyWhereItMustWrong : ChangeSpec := { name := "fnOneReadSoundAndStopsOnlyWhereItMust", fn := fun _ => fun
  | [d] => { results := [.lit (.bool false)], args := [d] }
  | _ => none }
def FnOneReadSoundAndStopsOnlyWhereItMustWrongFalsely : Prop := fnOneReadSoundAndStopsOnlyWhereItMustRow.holds Try.pinned (OpenSpec.ofChange fnOneReadSoundAndStopsOnlyWhereItMustWrong)

end Rows
end Go.Proofs.Qxb6604214a
