/-
  No cell of these rows narrows 'for every input' (looked for: loops, veiled, ifaces, maps, wideKeys, modest, calm, conditions, laid).
  DERIVED. THE GIVEN ROWS OF THIS SEAT. 2 by the template 'for every input the law returns true; each argument reads behind the call as it read before'; 0 by the template 'total and deterministic' (their statements: Qxb6605874aTotals.lean).
  GIVEN WITH THE SEED: the statements are not yours to turn. If you find one false, say at which input.
  Laid BY PROGRAM, IN A SANDBOX (cutbox-rows.mjs): the forced cells as the released guide's own fill.sh prints them over the translation 6b5ad471d1dc4e1f… (all of the seat's roots in one cut). By AI agents, Wed Nov 11 2026. No macro, syntax, notation, axiom, sorry.
-/
import Derived.Test.Qxb6605874aChecked
import GoSem.Claim
import GoSem.ClaimJoined
import GoSem.ClaimMapViews
import Derived.JoinedTies
import Derived.KernelRfl
namespace Go.Proofs.Qxb6605874a
/- THE CELL 'sum', in the pinned program and in every row, IS THE sha256 OF THE DUMP (.gsa) THAT Qxb6605874aProg.lean LOADS. Nothing in Lean hashes anything: it is a label: what it is worth is what the hold of that sum in a sandbox is worth. -/
noncomputable def Try.pinned : Pinned := { name := "qxb6605874a", sum := "6b5ad471d1dc4e1f9eedaef831b87828fc921d238c07953ce0ab43029208dbe2", checked := Try.checked }
namespace Rows
def none {H : Type} : Left H := { results := [], args := [] }

/-- 'zzlaws_lock_b1.FnKeyTextIsTheKey': WHATEVER THE INPUT: true; the input reads as it did. -/
def fnKeyTextIsTheKeySpec : ChangeSpec := { name := "fnKeyTextIsTheKey", fn := fun _ => fun
  | [d] => { results := [.lit (.bool true)], args := [d] }
  | _ => none }
def fnKeyTextIsTheKeyRow : OpenClaim := { program := "qxb6605874a", sum := "6b5ad471d1dc4e1f9eedaef831b87828fc921d238c07953ce0ab43029208dbe2", func := "example.com/latchkey/latchkey/zzlaws_lock_b1.FnKeyTextIsTheKey", spec := "fnKeyTextIsTheKey", apart := false }
def FnKeyTextIsTheKeySaid : Prop := fnKeyTextIsTheKeyRow.holds Try.pinned (OpenSpec.ofChange fnKeyTextIsTheKeySpec)

/-- ITS FALSE NEIGHBOUR: 'it returns false'. Refute it at one input. -/
def fnKeyTextIsTheKeyWrong : ChangeSpec := { name := "fnKeyTextIsTheKey", fn := fun _ => fun
  | [d] => { results := [.lit (.bool false)], args := [d] }
  | _ => none }
def FnKeyTextIsTheKeyWrongFalsely : Prop := fnKeyTextIsTheKeyRow.holds Try.pinned (OpenSpec.ofChange fnKeyTextIsTheKeyWrong)

/-- 'zzlaws_lock_b1.FnKeyTextStandsInTheText': WHATEVER THE INPUT: true; the input reads as it did. -/
def fnKeyTextStandsInTheTextSpec : ChangeSpec := { name := "fnKeyTextStandsInTheText", fn := fun _ => fun
  | [d] => { results := [.lit (.bool true)], args := [d] }
  | _ => none }
def fnKeyTextStandsInTheTextRow : OpenClaim := { program := "qxb6605874a", sum := "6b5ad471d1dc4e1f9eedaef831b87828fc921d238c07953ce0ab43029208dbe2", func := "example.com/latchkey/latchkey/zzlaws_lock_b1.FnKeyTextStandsInTheText", spec := "fnKeyTextStandsInTheText", apart := false }
def FnKeyTextStandsInTheTextSaid : Prop := fnKeyTextStandsInTheTextRow.holds Try.pinned (OpenSpec.ofChange fnKeyTextStandsInTheTextSpec)

/-- ITS FALSE NEIGHBOUR: 'it returns false'. Refute it at one input. -/
def fnKeyTextStandsInTheTextWrong : ChangeSpec := { name := "fnKeyTextStandsInTheText", fn := fun _ => fun
  | [d] => { results := [.lit (.bool false)], args := [d] }
  | _ => none }
def FnKeyTextStandsInTheTextWrongFalsely : Prop := fnKeyTextStandsInTheTextRow.holds Try.pinned (OpenSpec.ofChange fnKeyTextStandsInTheTextWrong)

end Rows
end Go.Proofs.Qxb6605874a
