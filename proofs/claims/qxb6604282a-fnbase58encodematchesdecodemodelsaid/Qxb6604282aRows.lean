/-
  No cell of these rows narrows 'for every input' (looked for: loops, veiled, ifaces, maps, wideKeys, modest, calm, conditions, laid).
  DERIVED. THE GIVEN ROWS OF THIS SEAT. 3 by the template 'for every input the law returns true; each argument reads behind the call as it read before'; 0 by the template 'total and deterministic' (their statements: Qxb6604282aTotals.lean).
  GIVEN WITH THE SEED: the statements are not yours to turn. If you find one false, say at which input.
  Laid BY PROGRAM, IN A SANDBOX (cutbox-rows.mjs): the forced cells as the released guide's own fill.sh prints them over the translation 4f39835bae8065ce… (all of the seat's roots in one cut). By AI agents, Wed Nov 11 2026. No macro, syntax, notation, axiom, sorry.
-/
import Derived.Test.Qxb6604282aChecked
import GoSem.Claim
import GoSem.ClaimJoined
import GoSem.ClaimMapViews
import Derived.JoinedTies
import Derived.KernelRfl
namespace Go.Proofs.Qxb6604282a
/- THE CELL 'sum', in the pinned program and in every row, IS THE sha256 OF THE DUMP (.gsa) THAT Qxb6604282aProg.lean LOADS. Nothing in Lean hashes anything: it is a label: what it is worth is what the hold of that sum in a sandbox is worth. -/
noncomputable def Try.pinned : Pinned := { name := "qxb6604282a", sum := "4f39835bae8065ce70aae481308bfbb089072cfd7a6063f5e63bd39be72771c7", checked := Try.checked }
namespace Rows
def none {H : Type} : Left H := { results := [], args := [] }

/-- 'zzlaws_cid_b1.FnBase58EncodeMatchesDecodeModel': WHATEVER THE INPUT: true; the input reads as it did. -/
def fnBase58EncodeMatchesDecodeModelSpec : ChangeSpec := { name := "fnBase58EncodeMatchesDecodeModel", fn := fun _ => fun
  | [d] => { results := [.lit (.bool true)], args := [d] }
  | _ => none }
def fnBase58EncodeMatchesDecodeModelRow : OpenClaim := { program := "qxb6604282a", sum := "4f39835bae8065ce70aae481308bfbb089072cfd7a6063f5e63bd39be72771c7", func := "example.com/dagscribe/dagscribe/zzlaws_cid_b1.FnBase58EncodeMatchesDecodeModel", spec := "fnBase58EncodeMatchesDecodeModel", apart := false }
def FnBase58EncodeMatchesDecodeModelSaid : Prop := fnBase58EncodeMatchesDecodeModelRow.holds Try.pinned (OpenSpec.ofChange fnBase58EncodeMatchesDecodeModelSpec)

/-- ITS FALSE NEIGHBOUR: 'it returns false'. Refute it at one input. -/
def fnBase58EncodeMatchesDecodeModelWrong : ChangeSpec := { name := "fnBase58EncodeMatchesDecodeModel", fn := fun _ => fun
  | [d] => { results := [.lit (.bool false)], args := [d] }
  | _ => none }
def FnBase58EncodeMatchesDecodeModelWrongFalsely : Prop := fnBase58EncodeMatchesDecodeModelRow.holds Try.pinned (OpenSpec.ofChange fnBase58EncodeMatchesDecodeModelWrong)

/-- 'zzlaws_cid_b1.FnBase58EncodeLengthBounds': WHATEVER THE INPUT: true; the input reads as it did. -/
def fnBase58EncodeLengthBoundsSpec : ChangeSpec := { name := "fnBase58EncodeLengthBounds", fn := fun _ => fun
  | [d] => { results := [.lit (.bool true)], args := [d] }
  | _ => none }
def fnBase58EncodeLengthBoundsRow : OpenClaim := { program := "qxb6604282a", sum := "4f39835bae8065ce70aae481308bfbb089072cfd7a6063f5e63bd39be72771c7", func := "example.com/dagscribe/dagscribe/zzlaws_cid_b1.FnBase58EncodeLengthBounds", spec := "fnBase58EncodeLengthBounds", apart := false }
def FnBase58EncodeLengthBoundsSaid : Prop := fnBase58EncodeLengthBoundsRow.holds Try.pinned (OpenSpec.ofChange fnBase58EncodeLengthBoundsSpec)

/-- ITS FALSE NEIGHBOUR: 'it returns false'. Refute it at one input. -/
def fnBase58EncodeLengthBoundsWrong : ChangeSpec := { name := "fnBase58EncodeLengthBounds", fn := fun _ => fun
  | [d] => { results := [.lit (.bool false)], args := [d] }
  | _ => none }
def FnBase58EncodeLengthBoundsWrongFalsely : Prop := fnBase58EncodeLengthBoundsRow.holds Try.pinned (OpenSpec.ofChange fnBase58EncodeLengthBoundsWrong)

/-- 'zzlaws_cid_b1.FnBase58EncodeLeadingZeroAddsOne': WHATEVER THE INPUT: true; the input reads as it did. -/
def fnBase58EncodeLeadingZeroAddsOneSpec : ChangeSpec := { name := "fnBase58EncodeLeadingZeroAddsOne", fn := fun _ => fun
  | [d] => { results := [.lit (.bool true)], args := [d] }
  | _ => none }
def fnBase58EncodeLeadingZeroAddsOneRow : OpenClaim := { program := "qxb6604282a", sum := "4f39835bae8065ce70aae481308bfbb089072cfd7a6063f5e63bd39be72771c7", func := "example.com/dagscribe/dagscribe/zzlaws_cid_b1.FnBase58EncodeLeadingZeroAddsOne", spec := "fnBase58EncodeLeadingZeroAddsOne", apart := false }
def FnBase58EncodeLeadingZeroAddsOneSaid : Prop := fnBase58EncodeLeadingZeroAddsOneRow.holds Try.pinned (OpenSpec.ofChange fnBase58EncodeLeadingZeroAddsOneSpec)

/-- ITS FALSE NEIGHBOUR: 'it returns false'. Refute it at one input. -/
def fnBase58EncodeLeadingZeroAddsOneWrong : ChangeSpec := { name := "fnBase58EncodeLeadingZeroAddsOne", fn := fun _ => fun
  | [d] => { results := [.lit (.bool false)], args := [d] }
  | _ => none }
def FnBase58EncodeLeadingZeroAddsOneWrongFalsely : Prop := fnBase58EncodeLeadingZeroAddsOneRow.holds Try.pinned (OpenSpec.ofChange fnBase58EncodeLeadingZeroAddsOneWrong)

end Rows
end Go.Proofs.Qxb6604282a
