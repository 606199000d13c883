/-
  No cell of these rows narrows 'for every input' (looked for: loops, veiled, ifaces, maps, wideKeys, modest, calm, conditions, laid).
  DERIVED. THE GIVEN ROWS OF THIS SEAT. 5 by the template 'for every input the law returns true; each argument reads behind the call as it read before'; 0 by the template 'total and deterministic' (their statements: Qxb6603968aTotals.lean).
  GIVEN WITH THE SEED: the statements are not yours to turn. If you find one false, say at which input.
  Laid BY PROGRAM, IN A SANDBOX (cutbox-rows.mjs): the forced cells as the released guide's own fill.sh prints them over the translation 4a498719bcd016a2… (all of the seat's roots in one cut). By AI agents, Wed Nov 11 2026. No macro, syntax, notation, axiom, sorry.
-/
import Derived.Test.Qxb6603968aChecked
import GoSem.Claim
import GoSem.ClaimJoined
import GoSem.ClaimMapViews
import Derived.JoinedTies
import Derived.KernelRfl
namespace Go.Proofs.Qxb6603968a
/- THE CELL 'sum', in the pinned program and in every row, IS THE sha256 OF THE DUMP (.gsa) THAT Qxb6603968aProg.lean LOADS. Nothing in Lean hashes anything: it is a label: what it is worth is what the hold of that sum in a sandbox is worth. -/
noncomputable def Try.pinned : Pinned := { name := "qxb6603968a", sum := "4a498719bcd016a2fca9e28f92b0da4d088c5f3d4b93558cee2334b60066339d", checked := Try.checked }
namespace Rows
def none {H : Type} : Left H := { results := [], args := [] }

/-- 'zzlaws_internal_workbook_b1.FnIsNumberExactlyCanonicalDecimalBelowTenToFifteen': WHATEVER THE INPUT: true; the input reads as it did. -/
def fnIsNumberExactlyCanonicalDecimalBelowTenToFifteenSpec : ChangeSpec := { name := "fnIsNumberExactlyCanonicalDecimalBelowTenToFifteen", fn := fun _ => fun
  | [d] => { results := [.lit (.bool true)], args := [d] }
  | _ => none }
def fnIsNumberExactlyCanonicalDecimalBelowTenToFifteenRow : OpenClaim := { program := "qxb6603968a", sum := "4a498719bcd016a2fca9e28f92b0da4d088c5f3d4b93558cee2334b60066339d", func := "example.com/peizhai-desk/peizhai-desk/zzlaws_internal_workbook_b1.FnIsNumberExactlyCanonicalDecimalBelowTenToFifteen", spec := "fnIsNumberExactlyCanonicalDecimalBelowTenToFifteen", apart := false }
def FnIsNumberExactlyCanonicalDecimalBelowTenToFifteenSaid : Prop := fnIsNumberExactlyCanonicalDecimalBelowTenToFifteenRow.holds Try.pinned (OpenSpec.ofChange fnIsNumberExactlyCanonicalDecimalBelowTenToFifteenSpec)

/-- ITS FALSE NEIGHBOUR: 'it returns false'. Refute it at one input. -/
def fnIsNumberExactlyCanonicalDecimalBelowTenToFifteenWrong : ChangeSpec := { name := "fnIsNumberExactlyCanonicalDecimalBelowTenToFifteen", fn := fun _ => fun
  | [d] => { results := [.lit (.bool false)], args := [d] }
  | _ => none }
def FnIsNumberExactlyCanonicalDecimalBelowTenToFifteenWrongFalsely : Prop := fnIsNumberExactlyCanonicalDecimalBelowTenToFifteenRow.holds Try.pinned (OpenSpec.ofChange fnIsNumberExactlyCanonicalDecimalBelowTenToFifteenWrong)

/-- 'zzlaws_internal_workbook_b1.FnIsNumberOfDecimalForm': WHATEVER THE INPUT: true; the input reads as it did. -/
def fnIsNumberOfDecimalFormSpec : ChangeSpec := { name := "fnIsNumberOfDecimalForm", fn := fun _ => fun
  | [d] => { results := [.lit (.bool true)], args := [d] }
  | _ => none }
def fnIsNumberOfDecimalFormRow : OpenClaim := { program := "qxb6603968a", sum := "4a498719bcd016a2fca9e28f92b0da4d088c5f3d4b93558cee2334b60066339d", func := "example.com/peizhai-desk/peizhai-desk/zzlaws_internal_workbook_b1.FnIsNumberOfDecimalForm", spec := "fnIsNumberOfDecimalForm", apart := false }
def FnIsNumberOfDecimalFormSaid : Prop := fnIsNumberOfDecimalFormRow.holds Try.pinned (OpenSpec.ofChange fnIsNumberOfDecimalFormSpec)

/-- ITS FALSE NEIGHBOUR: 'it returns false'. Refute it at one input. -/
def fnIsNumberOfDecimalFormWrong : ChangeSpec := { name := "fnIsNumberOfDecimalForm", fn := fun _ => fun
  | [d] => { results := [.lit (.bool false)], args := [d] }
  | _ => none }
def FnIsNumberOfDecimalFormWrongFalsely : Prop := fnIsNumberOfDecimalFormRow.holds Try.pinned (OpenSpec.ofChange fnIsNumberOfDecimalFormWrong)

/-- 'zzlaws_internal_workbook_b1.FnEscapedAtEveryCodeClosedOnlyByUnderscore': WHATEVER THE INPUT: true; the input reads as it did. -/
def fnEscapedAtEveryCodeClosedOnlyByUnderscoreSpec : ChangeSpec := { name := "fnEscapedAtEveryCodeClosedOnlyByUnderscore", fn := fun _ => fun
  | [d1, d2, d3, d4] => { results := [.lit (.bool true)], args := [d1, d2, d3, d4] }
  | _ => none }
def fnEscapedAtEveryCodeClosedOnlyByUnderscoreRow : OpenClaim := { program := "qxb6603968a", sum := "4a498719bcd016a2fca9e28f92b0da4d088c5f3d4b93558cee2334b60066339d", func := "example.com/peizhai-desk/peizhai-desk/zzlaws_internal_workbook_b1.FnEscapedAtEveryCodeClosedOnlyByUnderscore", spec := "fnEscapedAtEveryCodeClosedOnlyByUnderscore", apart := false }
def FnEscapedAtEveryCodeClosedOnlyByUnderscoreSaid : Prop := fnEscapedAtEveryCodeClosedOnlyByUnderscoreRow.holds Try.pinned (OpenSpec.ofChange fnEscapedAtEveryCodeClosedOnlyByUnderscoreSpec)

/-- ITS FALSE NEIGHBOUR: 'it returns false'. Refute it at one input. -/
def fnEscapedAtEveryCodeClosedOnlyByUnderscoreWrong : ChangeSpec := { name := "fnEscapedAtEveryCodeClosedOnlyByUnderscore", fn := fun _ => fun
  | [d1, d2, d3, d4] => { results := [.lit (.bool false)], args := [d1, d2, d3, d4] }
  | _ => none }
def FnEscapedAtEveryCodeClosedOnlyByUnderscoreWrongFalsely : Prop := fnEscapedAtEveryCodeClosedOnlyByUnderscoreRow.holds Try.pinned (OpenSpec.ofChange fnEscapedAtEveryCodeClosedOnlyByUnderscoreWrong)

/-- 'zzlaws_internal_workbook_b1.FnUtf16LenMatchesUTF8Decoder': WHATEVER THE INPUT: true; the input reads as it did. -/
def fnUtf16LenMatchesUTF8DecoderSpec : ChangeSpec := { name := "fnUtf16LenMatchesUTF8Decoder", fn := fun _ => fun
  | [d] => { results := [.lit (.bool true)], args := [d] }
  | _ => none }
def fnUtf16LenMatchesUTF8DecoderRow : OpenClaim := { program := "qxb6603968a", sum := "4a498719bcd016a2fca9e28f92b0da4d088c5f3d4b93558cee2334b60066339d", func := "example.com/peizhai-desk/peizhai-desk/zzlaws_internal_workbook_b1.FnUtf16LenMatchesUTF8Decoder", spec := "fnUtf16LenMatchesUTF8Decoder", apart := false }
def FnUtf16LenMatchesUTF8DecoderSaid : Prop := fnUtf16LenMatchesUTF8DecoderRow.holds Try.pinned (OpenSpec.ofChange fnUtf16LenMatchesUTF8DecoderSpec)

/-- ITS FALSE NEIGHBOUR: 'it returns false'. Refute it at one input. -/
def fnUtf16LenMatchesUTF8DecoderWrong : ChangeSpec := { name := "fnUtf16LenMatchesUTF8Decoder", fn := fun _ => fun
  | [d] => { results := [.lit (.bool false)], args := [d] }
  | _ => none }
def FnUtf16LenMatchesUTF8DecoderWrongFalsely : Prop := fnUtf16LenMatchesUTF8DecoderRow.holds Try.pinned (OpenSpec.ofChange fnUtf16LenMatchesUTF8DecoderWrong)

/-- 'zzlaws_internal_workbook_b1.FnUtf16LenBoundedByBytes': WHATEVER THE INPUT: true; the input reads as it did. -/
def fnUtf16LenBoundedByBytesSpec : ChangeSpec := { name := "fnUtf16LenBoundedByBytes", fn := fun _ => fun
  | [d] => { results := [.lit (.bool true)], args := [d] }
  | _ => none }
def fnUtf16LenBoundedByBytesRow : OpenClaim := { program := "qxb6603968a", sum := "4a498719bcd016a2fca9e28f92b0da4d088c5f3d4b93558cee2334b60066339d", func := "example.com/peizhai-desk/peizhai-desk/zzlaws_internal_workbook_b1.FnUtf16LenBoundedByBytes", spec := "fnUtf16LenBoundedByBytes", apart := false }
def FnUtf16LenBoundedByBytesSaid : Prop := fnUtf16LenBoundedByBytesRow.holds Try.pinned (OpenSpec.ofChange fnUtf16LenBoundedByBytesSpec)

/-- ITS FALSE NEIGHBOUR: 'it returns false'. Refute it at one input. -/
def fnUtf16LenBoundedByBytesWrong : ChangeSpec := { name := "fnUtf16LenBoundedByBytes", fn := fun _ => fun
  | [d] => { results := [.lit (.bool false)], args := [d] }
  | _ => none }
def FnUtf16LenBoundedByBytesWrongFalsely : Prop := fnUtf16LenBoundedByBytesRow.holds Try.pinned (OpenSpec.ofChange fnUtf16LenBoundedByBytesWrong)

end Rows
end Go.Proofs.Qxb6603968a
