/-
  No cell of these rows narrows 'for every input' (looked for: loops, veiled, ifaces, maps, wideKeys, modest, calm, conditions, laid).
  DERIVED. THE GIVEN ROWS OF THIS SEAT. 2 by the template 'for every input the law returns true; each argument reads behind the call as it read before'; 0 by the template 'total and deterministic' (their statements: Qxb6616194aTotals.lean).
  GIVEN WITH THE SEED: the statements are not yours to turn. If you find one false, say at which input.
  Laid BY PROGRAM, IN A SANDBOX (cutbox-rows.mjs): the forced cells as the released guide's own fill.sh prints them over the translation ac65afd00da09a56… (all of the seat's roots in one cut). By AI agents, Wed Nov 11 2026. No macro, syntax, notation, axiom, sorry.
-/
import Derived.Test.Qxb6616194aChecked
import GoSem.Claim
import GoSem.ClaimJoined
import GoSem.ClaimMapViews
import Derived.JoinedTies
import Derived.KernelRfl
namespace Go.Proofs.Qxb6616194a
/- THE CELL 'sum', in the pinned program and in every row, IS THE sha256 OF THE DUMP (.gsa) THAT Qxb6616194aProg.lean LOADS. Nothing in Lean hashes anything: it is a label: what it is worth is what the hold of that sum in a sandbox is worth. -/
noncomputable def Try.pinned : Pinned := { name := "qxb6616194a", sum := "ac65afd00da09a56c4430afdd0991bf3649b2a3272c03086eee25190f7d15136", checked := Try.checked }
namespace Rows
def none {H : Type} : Left H := { results := [], args := [] }

/-- 'zzlaws_internal_node_b1.FnFetchFirstFoundElseLast': WHATEVER THE INPUT: true; the input reads as it did. -/
def fnFetchFirstFoundElseLastSpec : ChangeSpec := { name := "fnFetchFirstFoundElseLast", fn := fun _ => fun
  | [d1, d2, d3] => { results := [.lit (.bool true)], args := [d1, d2, d3] }
  | _ => none }
def fnFetchFirstFoundElseLastRow : OpenClaim := { program := "qxb6616194a", sum := "ac65afd00da09a56c4430afdd0991bf3649b2a3272c03086eee25190f7d15136", func := "example.com/holdfast/holdfast/zzlaws_internal_node_b1.FnFetchFirstFoundElseLast", spec := "fnFetchFirstFoundElseLast", unfollowed := true, recurses := true, apart := false }
def FnFetchFirstFoundElseLastSaid : Prop := fnFetchFirstFoundElseLastRow.holds Try.pinned (OpenSpec.ofChange fnFetchFirstFoundElseLastSpec)

/-- ITS FALSE NEIGHBOUR: 'it returns false'. Refute it at one input. -/
def fnFetchFirstFoundElseLastWrong : ChangeSpec := { name := "fnFetchFirstFoundElseLast", fn := fun _ => fun
  | [d1, d2, d3] => { results := [.lit (.bool false)], args := [d1, d2, d3] }
  | _ => none }
def FnFetchFirstFoundElseLastWrongFalsely : Prop := fnFetchFirstFoundElseLastRow.holds Try.pinned (OpenSpec.ofChange fnFetchFirstFoundElseLastWrong)

/-- 'zzlaws_internal_node_b1.FnFetchCutAgreement': WHATEVER THE INPUT: true; the input reads as it did. -/
def fnFetchCutAgreementSpec : ChangeSpec := { name := "fnFetchCutAgreement", fn := fun _ => fun
  | [d1, d2, d3, d4] => { results := [.lit (.bool true)], args := [d1, d2, d3, d4] }
  | _ => none }
def fnFetchCutAgreementRow : OpenClaim := { program := "qxb6616194a", sum := "ac65afd00da09a56c4430afdd0991bf3649b2a3272c03086eee25190f7d15136", func := "example.com/holdfast/holdfast/zzlaws_internal_node_b1.FnFetchCutAgreement", spec := "fnFetchCutAgreement", unfollowed := true, recurses := true, apart := false }
def FnFetchCutAgreementSaid : Prop := fnFetchCutAgreementRow.holds Try.pinned (OpenSpec.ofChange fnFetchCutAgreementSpec)

/-- ITS FALSE NEIGHBOUR: 'it returns false'. Refute it at one input. -/
def fnFetchCutAgreementWrong : ChangeSpec := { name := "fnFetchCutAgreement", fn := fun _ => fun
  | [d1, d2, d3, d4] => { results := [.lit (.bool false)], args := [d1, d2, d3, d4] }
  | _ => none }
def FnFetchCutAgreementWrongFalsely : Prop := fnFetchCutAgreementRow.holds Try.pinned (OpenSpec.ofChange fnFetchCutAgreementWrong)

end Rows
end Go.Proofs.Qxb6616194a
