/-
  No cell of these rows narrows 'for every input' (looked for: loops, veiled, ifaces, maps, wideKeys, modest, calm, conditions, laid).
  DERIVED. THE GIVEN ROWS OF THIS SEAT. 3 by the template 'for every input the law returns true; each argument reads behind the call as it read before'; 0 by the template 'total and deterministic' (their statements: Qxb6616233aTotals.lean).
  GIVEN WITH THE SEED: the statements are not yours to turn. If you find one false, say at which input.
  Laid BY PROGRAM, IN A SANDBOX (cutbox-rows.mjs): the forced cells as the released guide's own fill.sh prints them over the translation 9296118277803b64… (all of the seat's roots in one cut). By AI agents, Wed Nov 11 2026. No macro, syntax, notation, axiom, sorry.
-/
import Derived.Test.Qxb6616233aChecked
import GoSem.Claim
import GoSem.ClaimJoined
import GoSem.ClaimMapViews
import Derived.JoinedTies
import Derived.KernelRfl
namespace Go.Proofs.Qxb6616233a
/- THE CELL 'sum', in the pinned program and in every row, IS THE sha256 OF THE DUMP (.gsa) THAT Qxb6616233aProg.lean LOADS. Nothing in Lean hashes anything: it is a label: what it is worth is what the hold of that sum in a sandbox is worth. -/
noncomputable def Try.pinned : Pinned := { name := "qxb6616233a", sum := "9296118277803b64efca7f652c2723548945937e1157e2885871625156efd84a", checked := Try.checked }
namespace Rows
def none {H : Type} : Left H := { results := [], args := [] }

/-- 'zzlaws_internal_sim_b1.FnQueuedShiftsWithEachCount': WHATEVER THE INPUT: true; the input reads as it did. -/
def fnQueuedShiftsWithEachCountSpec : ChangeSpec := { name := "fnQueuedShiftsWithEachCount", fn := fun _ => fun
  | [d1, d2, d3, d4] => { results := [.lit (.bool true)], args := [d1, d2, d3, d4] }
  | _ => none }
def fnQueuedShiftsWithEachCountRow : OpenClaim := { program := "qxb6616233a", sum := "9296118277803b64efca7f652c2723548945937e1157e2885871625156efd84a", func := "example.com/fairweir/fairweir/zzlaws_internal_sim_b1.FnQueuedShiftsWithEachCount", spec := "fnQueuedShiftsWithEachCount", apart := false }
def FnQueuedShiftsWithEachCountSaid : Prop := fnQueuedShiftsWithEachCountRow.holds Try.pinned (OpenSpec.ofChange fnQueuedShiftsWithEachCountSpec)

/-- ITS FALSE NEIGHBOUR: 'it returns false'. Refute it at one input. -/
def fnQueuedShiftsWithEachCountWrong : ChangeSpec := { name := "fnQueuedShiftsWithEachCount", fn := fun _ => fun
  | [d1, d2, d3, d4] => { results := [.lit (.bool false)], args := [d1, d2, d3, d4] }
  | _ => none }
def FnQueuedShiftsWithEachCountWrongFalsely : Prop := fnQueuedShiftsWithEachCountRow.holds Try.pinned (OpenSpec.ofChange fnQueuedShiftsWithEachCountWrong)

/-- 'zzlaws_internal_sim_b1.FnQueuedFollowsAScriptOfFates': WHATEVER THE INPUT: true; the input reads as it did. -/
def fnQueuedFollowsAScriptOfFatesSpec : ChangeSpec := { name := "fnQueuedFollowsAScriptOfFates", fn := fun _ => fun
  | [d1, d2, d3, d4] => { results := [.lit (.bool true)], args := [d1, d2, d3, d4] }
  | _ => none }
def fnQueuedFollowsAScriptOfFatesRow : OpenClaim := { program := "qxb6616233a", sum := "9296118277803b64efca7f652c2723548945937e1157e2885871625156efd84a", func := "example.com/fairweir/fairweir/zzlaws_internal_sim_b1.FnQueuedFollowsAScriptOfFates", spec := "fnQueuedFollowsAScriptOfFates", apart := false }
def FnQueuedFollowsAScriptOfFatesSaid : Prop := fnQueuedFollowsAScriptOfFatesRow.holds Try.pinned (OpenSpec.ofChange fnQueuedFollowsAScriptOfFatesSpec)

/-- ITS FALSE NEIGHBOUR: 'it returns false'. Refute it at one input. -/
def fnQueuedFollowsAScriptOfFatesWrong : ChangeSpec := { name := "fnQueuedFollowsAScriptOfFates", fn := fun _ => fun
  | [d1, d2, d3, d4] => { results := [.lit (.bool false)], args := [d1, d2, d3, d4] }
  | _ => none }
def FnQueuedFollowsAScriptOfFatesWrongFalsely : Prop := fnQueuedFollowsAScriptOfFatesRow.holds Try.pinned (OpenSpec.ofChange fnQueuedFollowsAScriptOfFatesWrong)

/-- 'zzlaws_internal_sim_b1.FnOriginOfAnswersEachRunAtBothEnds': WHATEVER THE INPUT: true; the input reads as it did. -/
def fnOriginOfAnswersEachRunAtBothEndsSpec : ChangeSpec := { name := "fnOriginOfAnswersEachRunAtBothEnds", fn := fun _ => fun
  | [d1, d2] => { results := [.lit (.bool true)], args := [d1, d2] }
  | _ => none }
def fnOriginOfAnswersEachRunAtBothEndsRow : OpenClaim := { program := "qxb6616233a", sum := "9296118277803b64efca7f652c2723548945937e1157e2885871625156efd84a", func := "example.com/fairweir/fairweir/zzlaws_internal_sim_b1.FnOriginOfAnswersEachRunAtBothEnds", spec := "fnOriginOfAnswersEachRunAtBothEnds", unfollowed := true, recurses := true, apart := false }
def FnOriginOfAnswersEachRunAtBothEndsSaid : Prop := fnOriginOfAnswersEachRunAtBothEndsRow.holds Try.pinned (OpenSpec.ofChange fnOriginOfAnswersEachRunAtBothEndsSpec)

/-- ITS FALSE NEIGHBOUR: 'it returns false'. Refute it at one input. -/
def fnOriginOfAnswersEachRunAtBothEndsWrong : ChangeSpec := { name := "fnOriginOfAnswersEachRunAtBothEnds", fn := fun _ => fun
  | [d1, d2] => { results := [.lit (.bool false)], args := [d1, d2] }
  | _ => none }
def FnOriginOfAnswersEachRunAtBothEndsWrongFalsely : Prop := fnOriginOfAnswersEachRunAtBothEndsRow.holds Try.pinned (OpenSpec.ofChange fnOriginOfAnswersEachRunAtBothEndsWrong)

end Rows
end Go.Proofs.Qxb6616233a
