/-
  No cell of these rows narrows 'for every input' (looked for: loops, veiled, ifaces, maps, wideKeys, modest, calm, conditions, laid).
  DERIVED. THE GIVEN ROWS OF THIS SEAT. 7 by the template 'for every input the law returns true; each argument reads behind the call as it read before'; 0 by the template 'total and deterministic' (their statements: Qxb6615469aTotals.lean).
  GIVEN WITH THE SEED: the statements are not yours to turn. If you find one false, say at which input.
  Laid BY PROGRAM, IN A SANDBOX (cutbox-rows.mjs): the forced cells as the released guide's own fill.sh prints them over the translation 8748a62dcb2c2ec8… (all of the seat's roots in one cut). By AI agents, Wed Nov 11 2026. No macro, syntax, notation, axiom, sorry.
-/
import Derived.Test.Qxb6615469aChecked
import GoSem.Claim
import GoSem.ClaimJoined
import GoSem.ClaimMapViews
import Derived.JoinedTies
import Derived.KernelRfl
namespace Go.Proofs.Qxb6615469a
/- THE CELL 'sum', in the pinned program and in every row, IS THE sha256 OF THE DUMP (.gsa) THAT Qxb6615469aProg.lean LOADS. Nothing in Lean hashes anything: it is a label: what it is worth is what the hold of that sum in a sandbox is worth. -/
noncomputable def Try.pinned : Pinned := { name := "qxb6615469a", sum := "8748a62dcb2c2ec8c1b17e8991d2669903a0a2b647cfce7edd6d2a95e775fcc3", checked := Try.checked }
namespace Rows
def none {H : Type} : Left H := { results := [], args := [] }

/-- 'zzlaws_internal_protocol_b1.FnCstringIsLongestZeroFreePrefix': WHATEVER THE INPUT: true; the input reads as it did. -/
def fnCstringIsLongestZeroFreePrefixSpec : ChangeSpec := { name := "fnCstringIsLongestZeroFreePrefix", fn := fun _ => fun
  | [d1, d2] => { results := [.lit (.bool true)], args := [d1, d2] }
  | _ => none }
def fnCstringIsLongestZeroFreePrefixRow : OpenClaim := { program := "qxb6615469a", sum := "8748a62dcb2c2ec8c1b17e8991d2669903a0a2b647cfce7edd6d2a95e775fcc3", func := "example.com/leadline/leadline/zzlaws_internal_protocol_b1.FnCstringIsLongestZeroFreePrefix", spec := "fnCstringIsLongestZeroFreePrefix", apart := false }
def FnCstringIsLongestZeroFreePrefixSaid : Prop := fnCstringIsLongestZeroFreePrefixRow.holds Try.pinned (OpenSpec.ofChange fnCstringIsLongestZeroFreePrefixSpec)

/-- ITS FALSE NEIGHBOUR: 'it returns false'. Refute it at one input. -/
def fnCstringIsLongestZeroFreePrefixWrong : ChangeSpec := { name := "fnCstringIsLongestZeroFreePrefix", fn := fun _ => fun
  | [d1, d2] => { results := [.lit (.bool false)], args := [d1, d2] }
  | _ => none }
def FnCstringIsLongestZeroFreePrefixWrongFalsely : Prop := fnCstringIsLongestZeroFreePrefixRow.holds Try.pinned (OpenSpec.ofChange fnCstringIsLongestZeroFreePrefixWrong)

/-- 'zzlaws_internal_protocol_b1.FnCstringReadsBackAppendCString': WHATEVER THE INPUT: true; the input reads as it did. -/
def fnCstringReadsBackAppendCStringSpec : ChangeSpec := { name := "fnCstringReadsBackAppendCString", fn := fun _ => fun
  | [d1, d2, d3] => { results := [.lit (.bool true)], args := [d1, d2, d3] }
  | _ => none }
def fnCstringReadsBackAppendCStringRow : OpenClaim := { program := "qxb6615469a", sum := "8748a62dcb2c2ec8c1b17e8991d2669903a0a2b647cfce7edd6d2a95e775fcc3", func := "example.com/leadline/leadline/zzlaws_internal_protocol_b1.FnCstringReadsBackAppendCString", spec := "fnCstringReadsBackAppendCString", apart := false }
def FnCstringReadsBackAppendCStringSaid : Prop := fnCstringReadsBackAppendCStringRow.holds Try.pinned (OpenSpec.ofChange fnCstringReadsBackAppendCStringSpec)

/-- ITS FALSE NEIGHBOUR: 'it returns false'. Refute it at one input. -/
def fnCstringReadsBackAppendCStringWrong : ChangeSpec := { name := "fnCstringReadsBackAppendCString", fn := fun _ => fun
  | [d1, d2, d3] => { results := [.lit (.bool false)], args := [d1, d2, d3] }
  | _ => none }
def FnCstringReadsBackAppendCStringWrongFalsely : Prop := fnCstringReadsBackAppendCStringRow.holds Try.pinned (OpenSpec.ofChange fnCstringReadsBackAppendCStringWrong)

/-- 'zzlaws_internal_protocol_b1.FnAuthSwitchEncodeReadsBack': WHATEVER THE INPUT: true; the input reads as it did. -/
def fnAuthSwitchEncodeReadsBackSpec : ChangeSpec := { name := "fnAuthSwitchEncodeReadsBack", fn := fun _ => fun
  | [d1, d2] => { results := [.lit (.bool true)], args := [d1, d2] }
  | _ => none }
def fnAuthSwitchEncodeReadsBackRow : OpenClaim := { program := "qxb6615469a", sum := "8748a62dcb2c2ec8c1b17e8991d2669903a0a2b647cfce7edd6d2a95e775fcc3", func := "example.com/leadline/leadline/zzlaws_internal_protocol_b1.FnAuthSwitchEncodeReadsBack", spec := "fnAuthSwitchEncodeReadsBack", apart := false }
def FnAuthSwitchEncodeReadsBackSaid : Prop := fnAuthSwitchEncodeReadsBackRow.holds Try.pinned (OpenSpec.ofChange fnAuthSwitchEncodeReadsBackSpec)

/-- ITS FALSE NEIGHBOUR: 'it returns false'. Refute it at one input. -/
def fnAuthSwitchEncodeReadsBackWrong : ChangeSpec := { name := "fnAuthSwitchEncodeReadsBack", fn := fun _ => fun
  | [d1, d2] => { results := [.lit (.bool false)], args := [d1, d2] }
  | _ => none }
def FnAuthSwitchEncodeReadsBackWrongFalsely : Prop := fnAuthSwitchEncodeReadsBackRow.holds Try.pinned (OpenSpec.ofChange fnAuthSwitchEncodeReadsBackWrong)

/-- 'zzlaws_internal_protocol_b1.FnAuthSwitchIsEOFOnlyWhenShort': WHATEVER THE INPUT: true; the input reads as it did. -/
def fnAuthSwitchIsEOFOnlyWhenShortSpec : ChangeSpec := { name := "fnAuthSwitchIsEOFOnlyWhenShort", fn := fun _ => fun
  | [d1, d2, d3] => { results := [.lit (.bool true)], args := [d1, d2, d3] }
  | _ => none }
def fnAuthSwitchIsEOFOnlyWhenShortRow : OpenClaim := { program := "qxb6615469a", sum := "8748a62dcb2c2ec8c1b17e8991d2669903a0a2b647cfce7edd6d2a95e775fcc3", func := "example.com/leadline/leadline/zzlaws_internal_protocol_b1.FnAuthSwitchIsEOFOnlyWhenShort", spec := "fnAuthSwitchIsEOFOnlyWhenShort", apart := false }
def FnAuthSwitchIsEOFOnlyWhenShortSaid : Prop := fnAuthSwitchIsEOFOnlyWhenShortRow.holds Try.pinned (OpenSpec.ofChange fnAuthSwitchIsEOFOnlyWhenShortSpec)

/-- ITS FALSE NEIGHBOUR: 'it returns false'. Refute it at one input. -/
def fnAuthSwitchIsEOFOnlyWhenShortWrong : ChangeSpec := { name := "fnAuthSwitchIsEOFOnlyWhenShort", fn := fun _ => fun
  | [d1, d2, d3] => { results := [.lit (.bool false)], args := [d1, d2, d3] }
  | _ => none }
def FnAuthSwitchIsEOFOnlyWhenShortWrongFalsely : Prop := fnAuthSwitchIsEOFOnlyWhenShortRow.holds Try.pinned (OpenSpec.ofChange fnAuthSwitchIsEOFOnlyWhenShortWrong)

/-- 'zzlaws_internal_protocol_b1.FnIsEOFOnEOFPacketPrefixes': WHATEVER THE INPUT: true; the input reads as it did. -/
def fnIsEOFOnEOFPacketPrefixesSpec : ChangeSpec := { name := "fnIsEOFOnEOFPacketPrefixes", fn := fun _ => fun
  | [d1, d2, d3, d4] => { results := [.lit (.bool true)], args := [d1, d2, d3, d4] }
  | _ => none }
def fnIsEOFOnEOFPacketPrefixesRow : OpenClaim := { program := "qxb6615469a", sum := "8748a62dcb2c2ec8c1b17e8991d2669903a0a2b647cfce7edd6d2a95e775fcc3", func := "example.com/leadline/leadline/zzlaws_internal_protocol_b1.FnIsEOFOnEOFPacketPrefixes", spec := "fnIsEOFOnEOFPacketPrefixes", named := ["encoding/binary.LittleEndian"], apart := false }
def FnIsEOFOnEOFPacketPrefixesSaid : Prop := fnIsEOFOnEOFPacketPrefixesRow.holds Try.pinned (OpenSpec.ofChange fnIsEOFOnEOFPacketPrefixesSpec)

/-- ITS FALSE NEIGHBOUR: 'it returns false'. Refute it at one input. -/
def fnIsEOFOnEOFPacketPrefixesWrong : ChangeSpec := { name := "fnIsEOFOnEOFPacketPrefixes", fn := fun _ => fun
  | [d1, d2, d3, d4] => { results := [.lit (.bool false)], args := [d1, d2, d3, d4] }
  | _ => none }
def FnIsEOFOnEOFPacketPrefixesWrongFalsely : Prop := fnIsEOFOnEOFPacketPrefixesRow.holds Try.pinned (OpenSpec.ofChange fnIsEOFOnEOFPacketPrefixesWrong)

/-- 'zzlaws_internal_protocol_b1.FnStatementPreparedCutAgrees': WHATEVER THE INPUT: true; the input reads as it did. -/
def fnStatementPreparedCutAgreesSpec : ChangeSpec := { name := "fnStatementPreparedCutAgrees", fn := fun _ => fun
  | [d1, d2, d3, d4, d5] => { results := [.lit (.bool true)], args := [d1, d2, d3, d4, d5] }
  | _ => none }
def fnStatementPreparedCutAgreesRow : OpenClaim := { program := "qxb6615469a", sum := "8748a62dcb2c2ec8c1b17e8991d2669903a0a2b647cfce7edd6d2a95e775fcc3", func := "example.com/leadline/leadline/zzlaws_internal_protocol_b1.FnStatementPreparedCutAgrees", spec := "fnStatementPreparedCutAgrees", named := ["encoding/binary.LittleEndian"], apart := false }
def FnStatementPreparedCutAgreesSaid : Prop := fnStatementPreparedCutAgreesRow.holds Try.pinned (OpenSpec.ofChange fnStatementPreparedCutAgreesSpec)

/-- ITS FALSE NEIGHBOUR: 'it returns false'. Refute it at one input. -/
def fnStatementPreparedCutAgreesWrong : ChangeSpec := { name := "fnStatementPreparedCutAgrees", fn := fun _ => fun
  | [d1, d2, d3, d4, d5] => { results := [.lit (.bool false)], args := [d1, d2, d3, d4, d5] }
  | _ => none }
def FnStatementPreparedCutAgreesWrongFalsely : Prop := fnStatementPreparedCutAgreesRow.holds Try.pinned (OpenSpec.ofChange fnStatementPreparedCutAgreesWrong)

/-- 'zzlaws_internal_protocol_b1.FnStatementPreparedDefinitionsReadBack': WHATEVER THE INPUT: true; the input reads as it did. -/
def fnStatementPreparedDefinitionsReadBackSpec : ChangeSpec := { name := "fnStatementPreparedDefinitionsReadBack", fn := fun _ => fun
  | [d1, d2, d3, d4] => { results := [.lit (.bool true)], args := [d1, d2, d3, d4] }
  | _ => none }
def fnStatementPreparedDefinitionsReadBackRow : OpenClaim := { program := "qxb6615469a", sum := "8748a62dcb2c2ec8c1b17e8991d2669903a0a2b647cfce7edd6d2a95e775fcc3", func := "example.com/leadline/leadline/zzlaws_internal_protocol_b1.FnStatementPreparedDefinitionsReadBack", spec := "fnStatementPreparedDefinitionsReadBack", named := ["encoding/binary.LittleEndian"], apart := false }
def FnStatementPreparedDefinitionsReadBackSaid : Prop := fnStatementPreparedDefinitionsReadBackRow.holds Try.pinned (OpenSpec.ofChange fnStatementPreparedDefinitionsReadBackSpec)

/-- ITS FALSE NEIGHBOUR: 'it returns false'. Refute it at one input. -/
def fnStatementPreparedDefinitionsReadBackWrong : ChangeSpec := { name := "fnStatementPreparedDefinitionsReadBack", fn := fun _ => fun
  | [d1, d2, d3, d4] => { results := [.lit (.bool false)], args := [d1, d2, d3, d4] }
  | _ => none }
def FnStatementPreparedDefinitionsReadBackWrongFalsely : Prop := fnStatementPreparedDefinitionsReadBackRow.holds Try.pinned (OpenSpec.ofChange fnStatementPreparedDefinitionsReadBackWrong)

end Rows
end Go.Proofs.Qxb6615469a
