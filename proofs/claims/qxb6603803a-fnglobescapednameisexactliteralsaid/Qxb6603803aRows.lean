/-
  No cell of these rows narrows 'for every input' (looked for: loops, veiled, ifaces, maps, wideKeys, modest, calm, conditions, laid).
  DERIVED. THE GIVEN ROWS OF THIS SEAT. 7 by the template 'for every input the law returns true; each argument reads behind the call as it read before'; 0 by the template 'total and deterministic' (their statements: Qxb6603803aTotals.lean).
  GIVEN WITH THE SEED: the statements are not yours to turn. If you find one false, say at which input.
  Laid BY PROGRAM, IN A SANDBOX (cutbox-rows.mjs): the forced cells as the released guide's own fill.sh prints them over the translation b08db3acd7f55454… (all of the seat's roots in one cut). By AI agents, Wed Nov 11 2026. No macro, syntax, notation, axiom, sorry.
-/
import Derived.Test.Qxb6603803aChecked
import GoSem.Claim
import GoSem.ClaimJoined
import GoSem.ClaimMapViews
import Derived.JoinedTies
import Derived.KernelRfl
namespace Go.Proofs.Qxb6603803a
/- THE CELL 'sum', in the pinned program and in every row, IS THE sha256 OF THE DUMP (.gsa) THAT Qxb6603803aProg.lean LOADS. Nothing in Lean hashes anything: it is a label: what it is worth is what the hold of that sum in a sandbox is worth. -/
noncomputable def Try.pinned : Pinned := { name := "qxb6603803a", sum := "b08db3acd7f55454113ca64db8218f6cb5a50e43481e12f20916b2b39b869b4d", checked := Try.checked }
namespace Rows
def none {H : Type} : Left H := { results := [], args := [] }

/-- 'zzlaws_server_b1.FnGlobMatchesElementDP': WHATEVER THE INPUT: true; the input reads as it did. -/
def fnGlobMatchesElementDPSpec : ChangeSpec := { name := "fnGlobMatchesElementDP", fn := fun _ => fun
  | [d1, d2] => { results := [.lit (.bool true)], args := [d1, d2] }
  | _ => none }
def fnGlobMatchesElementDPRow : OpenClaim := { program := "qxb6603803a", sum := "b08db3acd7f55454113ca64db8218f6cb5a50e43481e12f20916b2b39b869b4d", func := "example.com/bulkwire/bulkwire/zzlaws_server_b1.FnGlobMatchesElementDP", spec := "fnGlobMatchesElementDP", apart := false }
def FnGlobMatchesElementDPSaid : Prop := fnGlobMatchesElementDPRow.holds Try.pinned (OpenSpec.ofChange fnGlobMatchesElementDPSpec)

/-- ITS FALSE NEIGHBOUR: 'it returns false'. Refute it at one input. -/
def fnGlobMatchesElementDPWrong : ChangeSpec := { name := "fnGlobMatchesElementDP", fn := fun _ => fun
  | [d1, d2] => { results := [.lit (.bool false)], args := [d1, d2] }
  | _ => none }
def FnGlobMatchesElementDPWrongFalsely : Prop := fnGlobMatchesElementDPRow.holds Try.pinned (OpenSpec.ofChange fnGlobMatchesElementDPWrong)

/-- 'zzlaws_server_b1.FnGlobEscapedNameIsExactLiteral': WHATEVER THE INPUT: true; the input reads as it did. -/
def fnGlobEscapedNameIsExactLiteralSpec : ChangeSpec := { name := "fnGlobEscapedNameIsExactLiteral", fn := fun _ => fun
  | [d1, d2] => { results := [.lit (.bool true)], args := [d1, d2] }
  | _ => none }
def fnGlobEscapedNameIsExactLiteralRow : OpenClaim := { program := "qxb6603803a", sum := "b08db3acd7f55454113ca64db8218f6cb5a50e43481e12f20916b2b39b869b4d", func := "example.com/bulkwire/bulkwire/zzlaws_server_b1.FnGlobEscapedNameIsExactLiteral", spec := "fnGlobEscapedNameIsExactLiteral", apart := false }
def FnGlobEscapedNameIsExactLiteralSaid : Prop := fnGlobEscapedNameIsExactLiteralRow.holds Try.pinned (OpenSpec.ofChange fnGlobEscapedNameIsExactLiteralSpec)

/-- ITS FALSE NEIGHBOUR: 'it returns false'. Refute it at one input. -/
def fnGlobEscapedNameIsExactLiteralWrong : ChangeSpec := { name := "fnGlobEscapedNameIsExactLiteral", fn := fun _ => fun
  | [d1, d2] => { results := [.lit (.bool false)], args := [d1, d2] }
  | _ => none }
def FnGlobEscapedNameIsExactLiteralWrongFalsely : Prop := fnGlobEscapedNameIsExactLiteralRow.holds Try.pinned (OpenSpec.ofChange fnGlobEscapedNameIsExactLiteralWrong)

/-- 'zzlaws_server_b1.FnSetMatchesMemberTable': WHATEVER THE INPUT: true; the input reads as it did. -/
def fnSetMatchesMemberTableSpec : ChangeSpec := { name := "fnSetMatchesMemberTable", fn := fun _ => fun
  | [d1, d2, d3] => { results := [.lit (.bool true)], args := [d1, d2, d3] }
  | _ => none }
def fnSetMatchesMemberTableRow : OpenClaim := { program := "qxb6603803a", sum := "b08db3acd7f55454113ca64db8218f6cb5a50e43481e12f20916b2b39b869b4d", func := "example.com/bulkwire/bulkwire/zzlaws_server_b1.FnSetMatchesMemberTable", spec := "fnSetMatchesMemberTable", apart := false }
def FnSetMatchesMemberTableSaid : Prop := fnSetMatchesMemberTableRow.holds Try.pinned (OpenSpec.ofChange fnSetMatchesMemberTableSpec)

/-- ITS FALSE NEIGHBOUR: 'it returns false'. Refute it at one input. -/
def fnSetMatchesMemberTableWrong : ChangeSpec := { name := "fnSetMatchesMemberTable", fn := fun _ => fun
  | [d1, d2, d3] => { results := [.lit (.bool false)], args := [d1, d2, d3] }
  | _ => none }
def FnSetMatchesMemberTableWrongFalsely : Prop := fnSetMatchesMemberTableRow.holds Try.pinned (OpenSpec.ofChange fnSetMatchesMemberTableWrong)

/-- 'zzlaws_server_b1.FnSetEndIgnoresByte': WHATEVER THE INPUT: true; the input reads as it did. -/
def fnSetEndIgnoresByteSpec : ChangeSpec := { name := "fnSetEndIgnoresByte", fn := fun _ => fun
  | [d1, d2, d3, d4] => { results := [.lit (.bool true)], args := [d1, d2, d3, d4] }
  | _ => none }
def fnSetEndIgnoresByteRow : OpenClaim := { program := "qxb6603803a", sum := "b08db3acd7f55454113ca64db8218f6cb5a50e43481e12f20916b2b39b869b4d", func := "example.com/bulkwire/bulkwire/zzlaws_server_b1.FnSetEndIgnoresByte", spec := "fnSetEndIgnoresByte", apart := false }
def FnSetEndIgnoresByteSaid : Prop := fnSetEndIgnoresByteRow.holds Try.pinned (OpenSpec.ofChange fnSetEndIgnoresByteSpec)

/-- ITS FALSE NEIGHBOUR: 'it returns false'. Refute it at one input. -/
def fnSetEndIgnoresByteWrong : ChangeSpec := { name := "fnSetEndIgnoresByte", fn := fun _ => fun
  | [d1, d2, d3, d4] => { results := [.lit (.bool false)], args := [d1, d2, d3, d4] }
  | _ => none }
def FnSetEndIgnoresByteWrongFalsely : Prop := fnSetEndIgnoresByteRow.holds Try.pinned (OpenSpec.ofChange fnSetEndIgnoresByteWrong)

/-- 'zzlaws_server_b1.FnSetCaretNegates': WHATEVER THE INPUT: true; the input reads as it did. -/
def fnSetCaretNegatesSpec : ChangeSpec := { name := "fnSetCaretNegates", fn := fun _ => fun
  | [d1, d2, d3] => { results := [.lit (.bool true)], args := [d1, d2, d3] }
  | _ => none }
def fnSetCaretNegatesRow : OpenClaim := { program := "qxb6603803a", sum := "b08db3acd7f55454113ca64db8218f6cb5a50e43481e12f20916b2b39b869b4d", func := "example.com/bulkwire/bulkwire/zzlaws_server_b1.FnSetCaretNegates", spec := "fnSetCaretNegates", apart := false }
def FnSetCaretNegatesSaid : Prop := fnSetCaretNegatesRow.holds Try.pinned (OpenSpec.ofChange fnSetCaretNegatesSpec)

/-- ITS FALSE NEIGHBOUR: 'it returns false'. Refute it at one input. -/
def fnSetCaretNegatesWrong : ChangeSpec := { name := "fnSetCaretNegates", fn := fun _ => fun
  | [d1, d2, d3] => { results := [.lit (.bool false)], args := [d1, d2, d3] }
  | _ => none }
def FnSetCaretNegatesWrongFalsely : Prop := fnSetCaretNegatesRow.holds Try.pinned (OpenSpec.ofChange fnSetCaretNegatesWrong)

/-- 'zzlaws_server_b1.FnByteMatchesElementTable': WHATEVER THE INPUT: true; the input reads as it did. -/
def fnByteMatchesElementTableSpec : ChangeSpec := { name := "fnByteMatchesElementTable", fn := fun _ => fun
  | [d1, d2, d3] => { results := [.lit (.bool true)], args := [d1, d2, d3] }
  | _ => none }
def fnByteMatchesElementTableRow : OpenClaim := { program := "qxb6603803a", sum := "b08db3acd7f55454113ca64db8218f6cb5a50e43481e12f20916b2b39b869b4d", func := "example.com/bulkwire/bulkwire/zzlaws_server_b1.FnByteMatchesElementTable", spec := "fnByteMatchesElementTable", apart := false }
def FnByteMatchesElementTableSaid : Prop := fnByteMatchesElementTableRow.holds Try.pinned (OpenSpec.ofChange fnByteMatchesElementTableSpec)

/-- ITS FALSE NEIGHBOUR: 'it returns false'. Refute it at one input. -/
def fnByteMatchesElementTableWrong : ChangeSpec := { name := "fnByteMatchesElementTable", fn := fun _ => fun
  | [d1, d2, d3] => { results := [.lit (.bool false)], args := [d1, d2, d3] }
  | _ => none }
def FnByteMatchesElementTableWrongFalsely : Prop := fnByteMatchesElementTableRow.holds Try.pinned (OpenSpec.ofChange fnByteMatchesElementTableWrong)

/-- 'zzlaws_server_b1.FnByteAgreesWithGlobOnOneByte': WHATEVER THE INPUT: true; the input reads as it did. -/
def fnByteAgreesWithGlobOnOneByteSpec : ChangeSpec := { name := "fnByteAgreesWithGlobOnOneByte", fn := fun _ => fun
  | [d1, d2, d3] => { results := [.lit (.bool true)], args := [d1, d2, d3] }
  | _ => none }
def fnByteAgreesWithGlobOnOneByteRow : OpenClaim := { program := "qxb6603803a", sum := "b08db3acd7f55454113ca64db8218f6cb5a50e43481e12f20916b2b39b869b4d", func := "example.com/bulkwire/bulkwire/zzlaws_server_b1.FnByteAgreesWithGlobOnOneByte", spec := "fnByteAgreesWithGlobOnOneByte", apart := false }
def FnByteAgreesWithGlobOnOneByteSaid : Prop := fnByteAgreesWithGlobOnOneByteRow.holds Try.pinned (OpenSpec.ofChange fnByteAgreesWithGlobOnOneByteSpec)

/-- ITS FALSE NEIGHBOUR: 'it returns false'. Refute it at one input. -/
def fnByteAgreesWithGlobOnOneByteWrong : ChangeSpec := { name := "fnByteAgreesWithGlobOnOneByte", fn := fun _ => fun
  | [d1, d2, d3] => { results := [.lit (.bool false)], args := [d1, d2, d3] }
  | _ => none }
def FnByteAgreesWithGlobOnOneByteWrongFalsely : Prop := fnByteAgreesWithGlobOnOneByteRow.holds Try.pinned (OpenSpec.ofChange fnByteAgreesWithGlobOnOneByteWrong)

end Rows
end Go.Proofs.Qxb6603803a
