/-
  No cell of these rows narrows 'for every input' (looked for: loops, veiled, ifaces, maps, wideKeys, modest, calm, conditions, laid).
  DERIVED. THE GIVEN ROWS OF THIS SEAT. 7 by the template 'for every input the law returns true; each argument reads behind the call as it read before'; 0 by the template 'total and deterministic' (their statements: Qxb6603740aTotals.lean).
  GIVEN WITH THE SEED: the statements are not yours to turn. If you find one false, say at which input.
  Laid BY PROGRAM, IN A SANDBOX (cutbox-rows.mjs): the forced cells as the released guide's own fill.sh prints them over the translation 6ab8b0b3c6fcb6dd… (all of the seat's roots in one cut). By AI agents, Wed Nov 11 2026. No macro, syntax, notation, axiom, sorry.
-/
import Derived.Test.Qxb6603740aChecked
import GoSem.Claim
import GoSem.ClaimJoined
import GoSem.ClaimMapViews
import Derived.JoinedTies
import Derived.KernelRfl
namespace Go.Proofs.Qxb6603740a
/- THE CELL 'sum', in the pinned program and in every row, IS THE sha256 OF THE DUMP (.gsa) THAT Qxb6603740aProg.lean LOADS. Nothing in Lean hashes anything: it is a label: what it is worth is what the hold of that sum in a sandbox is worth. -/
noncomputable def Try.pinned : Pinned := { name := "qxb6603740a", sum := "6ab8b0b3c6fcb6dd0134e70278ed38ac5e227c09c2988098f674c6d0dde00605", checked := Try.checked }
namespace Rows
def none {H : Type} : Left H := { results := [], args := [] }

/-- 'zzlaws_internal_dns_b1.FnLowerASCIIMatchesTable': WHATEVER THE INPUT: true; the input reads as it did. -/
def fnLowerASCIIMatchesTableSpec : ChangeSpec := { name := "fnLowerASCIIMatchesTable", fn := fun _ => fun
  | [d] => { results := [.lit (.bool true)], args := [d] }
  | _ => none }
def fnLowerASCIIMatchesTableRow : OpenClaim := { program := "qxb6603740a", sum := "6ab8b0b3c6fcb6dd0134e70278ed38ac5e227c09c2988098f674c6d0dde00605", func := "example.com/namewell/namewell/zzlaws_internal_dns_b1.FnLowerASCIIMatchesTable", spec := "fnLowerASCIIMatchesTable", apart := false }
def FnLowerASCIIMatchesTableSaid : Prop := fnLowerASCIIMatchesTableRow.holds Try.pinned (OpenSpec.ofChange fnLowerASCIIMatchesTableSpec)

/-- ITS FALSE NEIGHBOUR: 'it returns false'. Refute it at one input. -/
def fnLowerASCIIMatchesTableWrong : ChangeSpec := { name := "fnLowerASCIIMatchesTable", fn := fun _ => fun
  | [d] => { results := [.lit (.bool false)], args := [d] }
  | _ => none }
def FnLowerASCIIMatchesTableWrongFalsely : Prop := fnLowerASCIIMatchesTableRow.holds Try.pinned (OpenSpec.ofChange fnLowerASCIIMatchesTableWrong)

/-- 'zzlaws_internal_dns_b1.FnLowerASCIIIdempotentNeverUpper': WHATEVER THE INPUT: true; the input reads as it did. -/
def fnLowerASCIIIdempotentNeverUpperSpec : ChangeSpec := { name := "fnLowerASCIIIdempotentNeverUpper", fn := fun _ => fun
  | [d] => { results := [.lit (.bool true)], args := [d] }
  | _ => none }
def fnLowerASCIIIdempotentNeverUpperRow : OpenClaim := { program := "qxb6603740a", sum := "6ab8b0b3c6fcb6dd0134e70278ed38ac5e227c09c2988098f674c6d0dde00605", func := "example.com/namewell/namewell/zzlaws_internal_dns_b1.FnLowerASCIIIdempotentNeverUpper", spec := "fnLowerASCIIIdempotentNeverUpper", apart := false }
def FnLowerASCIIIdempotentNeverUpperSaid : Prop := fnLowerASCIIIdempotentNeverUpperRow.holds Try.pinned (OpenSpec.ofChange fnLowerASCIIIdempotentNeverUpperSpec)

/-- ITS FALSE NEIGHBOUR: 'it returns false'. Refute it at one input. -/
def fnLowerASCIIIdempotentNeverUpperWrong : ChangeSpec := { name := "fnLowerASCIIIdempotentNeverUpper", fn := fun _ => fun
  | [d] => { results := [.lit (.bool false)], args := [d] }
  | _ => none }
def FnLowerASCIIIdempotentNeverUpperWrongFalsely : Prop := fnLowerASCIIIdempotentNeverUpperRow.holds Try.pinned (OpenSpec.ofChange fnLowerASCIIIdempotentNeverUpperWrong)

/-- 'zzlaws_internal_dns_b1.FnLowerASCIIFoldsExactlyCasePartners': WHATEVER THE INPUT: true; the input reads as it did. -/
def fnLowerASCIIFoldsExactlyCasePartnersSpec : ChangeSpec := { name := "fnLowerASCIIFoldsExactlyCasePartners", fn := fun _ => fun
  | [d1, d2] => { results := [.lit (.bool true)], args := [d1, d2] }
  | _ => none }
def fnLowerASCIIFoldsExactlyCasePartnersRow : OpenClaim := { program := "qxb6603740a", sum := "6ab8b0b3c6fcb6dd0134e70278ed38ac5e227c09c2988098f674c6d0dde00605", func := "example.com/namewell/namewell/zzlaws_internal_dns_b1.FnLowerASCIIFoldsExactlyCasePartners", spec := "fnLowerASCIIFoldsExactlyCasePartners", apart := false }
def FnLowerASCIIFoldsExactlyCasePartnersSaid : Prop := fnLowerASCIIFoldsExactlyCasePartnersRow.holds Try.pinned (OpenSpec.ofChange fnLowerASCIIFoldsExactlyCasePartnersSpec)

/-- ITS FALSE NEIGHBOUR: 'it returns false'. Refute it at one input. -/
def fnLowerASCIIFoldsExactlyCasePartnersWrong : ChangeSpec := { name := "fnLowerASCIIFoldsExactlyCasePartners", fn := fun _ => fun
  | [d1, d2] => { results := [.lit (.bool false)], args := [d1, d2] }
  | _ => none }
def FnLowerASCIIFoldsExactlyCasePartnersWrongFalsely : Prop := fnLowerASCIIFoldsExactlyCasePartnersRow.holds Try.pinned (OpenSpec.ofChange fnLowerASCIIFoldsExactlyCasePartnersWrong)

/-- 'zzlaws_internal_dns_b1.FnNameEqualExact': WHATEVER THE INPUT: true; the input reads as it did. -/
def fnNameEqualExactSpec : ChangeSpec := { name := "fnNameEqualExact", fn := fun _ => fun
  | [d1, d2] => { results := [.lit (.bool true)], args := [d1, d2] }
  | _ => none }
def fnNameEqualExactRow : OpenClaim := { program := "qxb6603740a", sum := "6ab8b0b3c6fcb6dd0134e70278ed38ac5e227c09c2988098f674c6d0dde00605", func := "example.com/namewell/namewell/zzlaws_internal_dns_b1.FnNameEqualExact", spec := "fnNameEqualExact", apart := false }
def FnNameEqualExactSaid : Prop := fnNameEqualExactRow.holds Try.pinned (OpenSpec.ofChange fnNameEqualExactSpec)

/-- ITS FALSE NEIGHBOUR: 'it returns false'. Refute it at one input. -/
def fnNameEqualExactWrong : ChangeSpec := { name := "fnNameEqualExact", fn := fun _ => fun
  | [d1, d2] => { results := [.lit (.bool false)], args := [d1, d2] }
  | _ => none }
def FnNameEqualExactWrongFalsely : Prop := fnNameEqualExactRow.holds Try.pinned (OpenSpec.ofChange fnNameEqualExactWrong)

/-- 'zzlaws_internal_dns_b1.FnNameEqualEquivalence': WHATEVER THE INPUT: true; the input reads as it did. -/
def fnNameEqualEquivalenceSpec : ChangeSpec := { name := "fnNameEqualEquivalence", fn := fun _ => fun
  | [d1, d2, d3] => { results := [.lit (.bool true)], args := [d1, d2, d3] }
  | _ => none }
def fnNameEqualEquivalenceRow : OpenClaim := { program := "qxb6603740a", sum := "6ab8b0b3c6fcb6dd0134e70278ed38ac5e227c09c2988098f674c6d0dde00605", func := "example.com/namewell/namewell/zzlaws_internal_dns_b1.FnNameEqualEquivalence", spec := "fnNameEqualEquivalence", apart := false }
def FnNameEqualEquivalenceSaid : Prop := fnNameEqualEquivalenceRow.holds Try.pinned (OpenSpec.ofChange fnNameEqualEquivalenceSpec)

/-- ITS FALSE NEIGHBOUR: 'it returns false'. Refute it at one input. -/
def fnNameEqualEquivalenceWrong : ChangeSpec := { name := "fnNameEqualEquivalence", fn := fun _ => fun
  | [d1, d2, d3] => { results := [.lit (.bool false)], args := [d1, d2, d3] }
  | _ => none }
def FnNameEqualEquivalenceWrongFalsely : Prop := fnNameEqualEquivalenceRow.holds Try.pinned (OpenSpec.ofChange fnNameEqualEquivalenceWrong)

/-- 'zzlaws_internal_dns_b1.FnNameEqualCaseFlip': WHATEVER THE INPUT: true; the input reads as it did. -/
def fnNameEqualCaseFlipSpec : ChangeSpec := { name := "fnNameEqualCaseFlip", fn := fun _ => fun
  | [d1, d2, d3] => { results := [.lit (.bool true)], args := [d1, d2, d3] }
  | _ => none }
def fnNameEqualCaseFlipRow : OpenClaim := { program := "qxb6603740a", sum := "6ab8b0b3c6fcb6dd0134e70278ed38ac5e227c09c2988098f674c6d0dde00605", func := "example.com/namewell/namewell/zzlaws_internal_dns_b1.FnNameEqualCaseFlip", spec := "fnNameEqualCaseFlip", apart := false }
def FnNameEqualCaseFlipSaid : Prop := fnNameEqualCaseFlipRow.holds Try.pinned (OpenSpec.ofChange fnNameEqualCaseFlipSpec)

/-- ITS FALSE NEIGHBOUR: 'it returns false'. Refute it at one input. -/
def fnNameEqualCaseFlipWrong : ChangeSpec := { name := "fnNameEqualCaseFlip", fn := fun _ => fun
  | [d1, d2, d3] => { results := [.lit (.bool false)], args := [d1, d2, d3] }
  | _ => none }
def FnNameEqualCaseFlipWrongFalsely : Prop := fnNameEqualCaseFlipRow.holds Try.pinned (OpenSpec.ofChange fnNameEqualCaseFlipWrong)

/-- 'zzlaws_internal_dns_b1.FnReaderRemembersNeverForgets': WHATEVER THE INPUT: true; the input reads as it did. -/
def fnReaderRemembersNeverForgetsSpec : ChangeSpec := { name := "fnReaderRemembersNeverForgets", fn := fun _ => fun
  | [d1, d2, d3, d4, d5, d6, d7, d8] => { results := [.lit (.bool true)], args := [d1, d2, d3, d4, d5, d6, d7, d8] }
  | _ => none }
def fnReaderRemembersNeverForgetsRow : OpenClaim := { program := "qxb6603740a", sum := "6ab8b0b3c6fcb6dd0134e70278ed38ac5e227c09c2988098f674c6d0dde00605", func := "example.com/namewell/namewell/zzlaws_internal_dns_b1.FnReaderRemembersNeverForgets", spec := "fnReaderRemembersNeverForgets", apart := false }
def FnReaderRemembersNeverForgetsSaid : Prop := fnReaderRemembersNeverForgetsRow.holds Try.pinned (OpenSpec.ofChange fnReaderRemembersNeverForgetsSpec)

/-- ITS FALSE NEIGHBOUR: 'it returns false'. Refute it at one input. -/
def fnReaderRemembersNeverForgetsWrong : ChangeSpec := { name := "fnReaderRemembersNeverForgets", fn := fun _ => fun
  | [d1, d2, d3, d4, d5, d6, d7, d8] => { results := [.lit (.bool false)], args := [d1, d2, d3, d4, d5, d6, d7, d8] }
  | _ => none }
def FnReaderRemembersNeverForgetsWrongFalsely : Prop := fnReaderRemembersNeverForgetsRow.holds Try.pinned (OpenSpec.ofChange fnReaderRemembersNeverForgetsWrong)

end Rows
end Go.Proofs.Qxb6603740a
