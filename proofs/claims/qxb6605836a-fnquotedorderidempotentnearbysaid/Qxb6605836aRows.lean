/-
  No cell of these rows narrows 'for every input' (looked for: loops, veiled, ifaces, maps, wideKeys, modest, calm, conditions, laid).
  DERIVED. THE GIVEN ROWS OF THIS SEAT. 1 by the template 'for every input the law returns true; each argument reads behind the call as it read before'; 0 by the template 'total and deterministic' (their statements: Qxb6605836aTotals.lean).
  GIVEN WITH THE SEED: the statements are not yours to turn. If you find one false, say at which input.
  Laid BY PROGRAM, IN A SANDBOX (cutbox-rows.mjs): the forced cells as the released guide's own fill.sh prints them over the translation 3a65d22d747e1f2d… (all of the seat's roots in one cut). By AI agents, Wed Nov 11 2026. No macro, syntax, notation, axiom, sorry.
-/
import Derived.Test.Qxb6605836aChecked
import GoSem.Claim
import GoSem.ClaimJoined
import GoSem.ClaimMapViews
import Derived.JoinedTies
import Derived.KernelRfl
namespace Go.Proofs.Qxb6605836a
/- THE CELL 'sum', in the pinned program and in every row, IS THE sha256 OF THE DUMP (.gsa) THAT Qxb6605836aProg.lean LOADS. Nothing in Lean hashes anything: it is a label: what it is worth is what the hold of that sum in a sandbox is worth. -/
noncomputable def Try.pinned : Pinned := { name := "qxb6605836a", sum := "3a65d22d747e1f2d8e38f089678655a759baf555e745f788e07c1097f3f463b6", checked := Try.checked }
namespace Rows
def none {H : Type} : Left H := { results := [], args := [] }

/-- 'zzlaws_root_b1.FnQuotedOrderIdempotentNearby': WHATEVER THE INPUT: true; the input reads as it did. -/
def fnQuotedOrderIdempotentNearbySpec : ChangeSpec := { name := "fnQuotedOrderIdempotentNearby", fn := fun _ => fun
  | [d1, d2] => { results := [.lit (.bool true)], args := [d1, d2] }
  | _ => none }
def fnQuotedOrderIdempotentNearbyRow : OpenClaim := { program := "qxb6605836a", sum := "3a65d22d747e1f2d8e38f089678655a759baf555e745f788e07c1097f3f463b6", func := "example.com/signpost/signpost/zzlaws_root_b1.FnQuotedOrderIdempotentNearby", spec := "fnQuotedOrderIdempotentNearby", apart := false }
def FnQuotedOrderIdempotentNearbySaid : Prop := fnQuotedOrderIdempotentNearbyRow.holds Try.pinned (OpenSpec.ofChange fnQuotedOrderIdempotentNearbySpec)

/-- ITS FALSE NEIGHBOUR: 'it returns false'. Refute it at one input. -/
def fnQuotedOrderIdempotentNearbyWrong : ChangeSpec := { name := "fnQuotedOrderIdempotentNearby", fn := fun _ => fun
  | [d1, d2] => { results := [.lit (.bool false)], args := [d1, d2] }
  | _ => none }
def FnQuotedOrderIdempotentNearbyWrongFalsely : Prop := fnQuotedOrderIdempotentNearbyRow.holds Try.pinned (OpenSpec.ofChange fnQuotedOrderIdempotentNearbyWrong)

end Rows
end Go.Proofs.Qxb6605836a
