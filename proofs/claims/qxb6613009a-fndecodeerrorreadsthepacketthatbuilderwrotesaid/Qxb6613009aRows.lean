/-
  No cell of these rows narrows 'for every input' (looked for: loops, veiled, ifaces, maps, wideKeys, modest, calm, conditions, laid).
  DERIVED. THE GIVEN ROWS OF THIS SEAT. 5 by the template 'for every input the law returns true; each argument reads behind the call as it read before'; 0 by the template 'total and deterministic' (their statements: Qxb6613009aTotals.lean).
  GIVEN WITH THE SEED: the statements are not yours to turn. If you find one false, say at which input.
  Laid BY PROGRAM, IN A SANDBOX (cutbox-rows.mjs): the forced cells as the released guide's own fill.sh prints them over the translation c29b1a22f1af3f5b… (all of the seat's roots in one cut). By AI agents, Wed Nov 11 2026. No macro, syntax, notation, axiom, sorry.
-/
import Derived.Test.Qxb6613009aChecked
import GoSem.Claim
import GoSem.ClaimJoined
import GoSem.ClaimMapViews
import Derived.JoinedTies
import Derived.KernelRfl
namespace Go.Proofs.Qxb6613009a
/- THE CELL 'sum', in the pinned program and in every row, IS THE sha256 OF THE DUMP (.gsa) THAT Qxb6613009aProg.lean LOADS. Nothing in Lean hashes anything: it is a label: what it is worth is what the hold of that sum in a sandbox is worth. -/
noncomputable def Try.pinned : Pinned := { name := "qxb6613009a", sum := "c29b1a22f1af3f5b7bcd7e7daae14eb2eb6581e4f2307a123a42e475ff0bb747", checked := Try.checked }
namespace Rows
def none {H : Type} : Left H := { results := [], args := [] }

/-- 'zzlaws_internal_x11_xproto_b1.FnTextAppendsTheWordPaddedTextAtAnyCut': WHATEVER THE INPUT: true; the input reads as it did. -/
def fnTextAppendsTheWordPaddedTextAtAnyCutSpec : ChangeSpec := { name := "fnTextAppendsTheWordPaddedTextAtAnyCut", fn := fun _ => fun
  | [d1, d2] => { results := [.lit (.bool true)], args := [d1, d2] }
  | _ => none }
def fnTextAppendsTheWordPaddedTextAtAnyCutRow : OpenClaim := { program := "qxb6613009a", sum := "c29b1a22f1af3f5b7bcd7e7daae14eb2eb6581e4f2307a123a42e475ff0bb747", func := "example.com/handrail/handrail/zzlaws_internal_x11_xproto_b1.FnTextAppendsTheWordPaddedTextAtAnyCut", spec := "fnTextAppendsTheWordPaddedTextAtAnyCut", apart := false }
def FnTextAppendsTheWordPaddedTextAtAnyCutSaid : Prop := fnTextAppendsTheWordPaddedTextAtAnyCutRow.holds Try.pinned (OpenSpec.ofChange fnTextAppendsTheWordPaddedTextAtAnyCutSpec)

/-- ITS FALSE NEIGHBOUR: 'it returns false'. Refute it at one input. -/
def fnTextAppendsTheWordPaddedTextAtAnyCutWrong : ChangeSpec := { name := "fnTextAppendsTheWordPaddedTextAtAnyCut", fn := fun _ => fun
  | [d1, d2] => { results := [.lit (.bool false)], args := [d1, d2] }
  | _ => none }
def FnTextAppendsTheWordPaddedTextAtAnyCutWrongFalsely : Prop := fnTextAppendsTheWordPaddedTextAtAnyCutRow.holds Try.pinned (OpenSpec.ofChange fnTextAppendsTheWordPaddedTextAtAnyCutWrong)

/-- 'zzlaws_internal_x11_xproto_b1.FnTextPadsWithZerosUpToTheNextWord': WHATEVER THE INPUT: true; the input reads as it did. -/
def fnTextPadsWithZerosUpToTheNextWordSpec : ChangeSpec := { name := "fnTextPadsWithZerosUpToTheNextWord", fn := fun _ => fun
  | [d1, d2, d3] => { results := [.lit (.bool true)], args := [d1, d2, d3] }
  | _ => none }
def fnTextPadsWithZerosUpToTheNextWordRow : OpenClaim := { program := "qxb6613009a", sum := "c29b1a22f1af3f5b7bcd7e7daae14eb2eb6581e4f2307a123a42e475ff0bb747", func := "example.com/handrail/handrail/zzlaws_internal_x11_xproto_b1.FnTextPadsWithZerosUpToTheNextWord", spec := "fnTextPadsWithZerosUpToTheNextWord", apart := false }
def FnTextPadsWithZerosUpToTheNextWordSaid : Prop := fnTextPadsWithZerosUpToTheNextWordRow.holds Try.pinned (OpenSpec.ofChange fnTextPadsWithZerosUpToTheNextWordSpec)

/-- ITS FALSE NEIGHBOUR: 'it returns false'. Refute it at one input. -/
def fnTextPadsWithZerosUpToTheNextWordWrong : ChangeSpec := { name := "fnTextPadsWithZerosUpToTheNextWord", fn := fun _ => fun
  | [d1, d2, d3] => { results := [.lit (.bool false)], args := [d1, d2, d3] }
  | _ => none }
def FnTextPadsWithZerosUpToTheNextWordWrongFalsely : Prop := fnTextPadsWithZerosUpToTheNextWordRow.holds Try.pinned (OpenSpec.ofChange fnTextPadsWithZerosUpToTheNextWordWrong)

/-- 'zzlaws_internal_x11_xproto_b1.FnDecodeErrorReadsThePacketThatBuilderWrote': WHATEVER THE INPUT: true; the input reads as it did. -/
def fnDecodeErrorReadsThePacketThatBuilderWroteSpec : ChangeSpec := { name := "fnDecodeErrorReadsThePacketThatBuilderWrote", fn := fun _ => fun
  | [d1, d2, d3, d4, d5, d6] => { results := [.lit (.bool true)], args := [d1, d2, d3, d4, d5, d6] }
  | _ => none }
def fnDecodeErrorReadsThePacketThatBuilderWroteRow : OpenClaim := { program := "qxb6613009a", sum := "c29b1a22f1af3f5b7bcd7e7daae14eb2eb6581e4f2307a123a42e475ff0bb747", func := "example.com/handrail/handrail/zzlaws_internal_x11_xproto_b1.FnDecodeErrorReadsThePacketThatBuilderWrote", spec := "fnDecodeErrorReadsThePacketThatBuilderWrote", named := ["encoding/binary.LittleEndian"], apart := false }
def FnDecodeErrorReadsThePacketThatBuilderWroteSaid : Prop := fnDecodeErrorReadsThePacketThatBuilderWroteRow.holds Try.pinned (OpenSpec.ofChange fnDecodeErrorReadsThePacketThatBuilderWroteSpec)

/-- ITS FALSE NEIGHBOUR: 'it returns false'. Refute it at one input. -/
def fnDecodeErrorReadsThePacketThatBuilderWroteWrong : ChangeSpec := { name := "fnDecodeErrorReadsThePacketThatBuilderWrote", fn := fun _ => fun
  | [d1, d2, d3, d4, d5, d6] => { results := [.lit (.bool false)], args := [d1, d2, d3, d4, d5, d6] }
  | _ => none }
def FnDecodeErrorReadsThePacketThatBuilderWroteWrongFalsely : Prop := fnDecodeErrorReadsThePacketThatBuilderWroteRow.holds Try.pinned (OpenSpec.ofChange fnDecodeErrorReadsThePacketThatBuilderWroteWrong)

/-- 'zzlaws_internal_x11_xproto_b1.FnDecodeErrorFieldsRewrittenGiveBackTheirBytes': WHATEVER THE INPUT: true; the input reads as it did. -/
def fnDecodeErrorFieldsRewrittenGiveBackTheirBytesSpec : ChangeSpec := { name := "fnDecodeErrorFieldsRewrittenGiveBackTheirBytes", fn := fun _ => fun
  | [d] => { results := [.lit (.bool true)], args := [d] }
  | _ => none }
def fnDecodeErrorFieldsRewrittenGiveBackTheirBytesRow : OpenClaim := { program := "qxb6613009a", sum := "c29b1a22f1af3f5b7bcd7e7daae14eb2eb6581e4f2307a123a42e475ff0bb747", func := "example.com/handrail/handrail/zzlaws_internal_x11_xproto_b1.FnDecodeErrorFieldsRewrittenGiveBackTheirBytes", spec := "fnDecodeErrorFieldsRewrittenGiveBackTheirBytes", named := ["encoding/binary.LittleEndian"], apart := false }
def FnDecodeErrorFieldsRewrittenGiveBackTheirBytesSaid : Prop := fnDecodeErrorFieldsRewrittenGiveBackTheirBytesRow.holds Try.pinned (OpenSpec.ofChange fnDecodeErrorFieldsRewrittenGiveBackTheirBytesSpec)

/-- ITS FALSE NEIGHBOUR: 'it returns false'. Refute it at one input. -/
def fnDecodeErrorFieldsRewrittenGiveBackTheirBytesWrong : ChangeSpec := { name := "fnDecodeErrorFieldsRewrittenGiveBackTheirBytes", fn := fun _ => fun
  | [d] => { results := [.lit (.bool false)], args := [d] }
  | _ => none }
def FnDecodeErrorFieldsRewrittenGiveBackTheirBytesWrongFalsely : Prop := fnDecodeErrorFieldsRewrittenGiveBackTheirBytesRow.holds Try.pinned (OpenSpec.ofChange fnDecodeErrorFieldsRewrittenGiveBackTheirBytesWrong)

/-- 'zzlaws_internal_x11_xproto_b1.FnU32AppendsLittleEndianAtAnyCut': WHATEVER THE INPUT: true; the input reads as it did. -/
def fnU32AppendsLittleEndianAtAnyCutSpec : ChangeSpec := { name := "fnU32AppendsLittleEndianAtAnyCut", fn := fun _ => fun
  | [d1, d2] => { results := [.lit (.bool true)], args := [d1, d2] }
  | _ => none }
def fnU32AppendsLittleEndianAtAnyCutRow : OpenClaim := { program := "qxb6613009a", sum := "c29b1a22f1af3f5b7bcd7e7daae14eb2eb6581e4f2307a123a42e475ff0bb747", func := "example.com/handrail/handrail/zzlaws_internal_x11_xproto_b1.FnU32AppendsLittleEndianAtAnyCut", spec := "fnU32AppendsLittleEndianAtAnyCut", named := ["encoding/binary.LittleEndian"], apart := false }
def FnU32AppendsLittleEndianAtAnyCutSaid : Prop := fnU32AppendsLittleEndianAtAnyCutRow.holds Try.pinned (OpenSpec.ofChange fnU32AppendsLittleEndianAtAnyCutSpec)

/-- ITS FALSE NEIGHBOUR: 'it returns false'. Refute it at one input. -/
def fnU32AppendsLittleEndianAtAnyCutWrong : ChangeSpec := { name := "fnU32AppendsLittleEndianAtAnyCut", fn := fun _ => fun
  | [d1, d2] => { results := [.lit (.bool false)], args := [d1, d2] }
  | _ => none }
def FnU32AppendsLittleEndianAtAnyCutWrongFalsely : Prop := fnU32AppendsLittleEndianAtAnyCutRow.holds Try.pinned (OpenSpec.ofChange fnU32AppendsLittleEndianAtAnyCutWrong)

end Rows
end Go.Proofs.Qxb6613009a
