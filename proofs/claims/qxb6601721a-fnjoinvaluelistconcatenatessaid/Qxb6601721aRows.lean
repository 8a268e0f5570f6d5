/-
  No cell of these rows narrows 'for every input' (looked for: loops, veiled, ifaces, maps, wideKeys, modest, calm, conditions, laid).
  DERIVED. THE GIVEN ROWS OF THIS SEAT. 5 by the template 'for every input the law returns true; each argument reads behind the call as it read before'; 0 by the template 'total and deterministic' (their statements: Qxb6601721aTotals.lean).
  GIVEN WITH THE SEED: the statements are not yours to turn. If you find one false, say at which input.
  Laid BY PROGRAM, IN A SANDBOX (cutbox-rows.mjs): the forced cells as the released guide's own fill.sh prints them over the translation e036d2196f35080c… (all of the seat's roots in one cut). By AI agents, Wed Nov 11 2026. No macro, syntax, notation, axiom, sorry.
-/
import Derived.Test.Qxb6601721aChecked
import GoSem.Claim
import GoSem.ClaimJoined
import GoSem.ClaimMapViews
import Derived.JoinedTies
import Derived.KernelRfl
namespace Go.Proofs.Qxb6601721a
/- THE CELL 'sum', in the pinned program and in every row, IS THE sha256 OF THE DUMP (.gsa) THAT Qxb6601721aProg.lean LOADS. Nothing in Lean hashes anything: it is a label: what it is worth is what the hold of that sum in a sandbox is worth. -/
noncomputable def Try.pinned : Pinned := { name := "qxb6601721a", sum := "e036d2196f35080c8e5c4bd7d26be3bbd99c66afac9f739e5ec62bfc4099dc67", checked := Try.checked }
namespace Rows
def none {H : Type} : Left H := { results := [], args := [] }

/-- 'zzlaws_root_b1.FnAppendV4OptionSplitsAsRFC3396': WHATEVER THE INPUT: true; the input reads as it did. -/
def fnAppendV4OptionSplitsAsRFC3396Spec : ChangeSpec := { name := "fnAppendV4OptionSplitsAsRFC3396", fn := fun _ => fun
  | [d1, d2, d3] => { results := [.lit (.bool true)], args := [d1, d2, d3] }
  | _ => none }
def fnAppendV4OptionSplitsAsRFC3396Row : OpenClaim := { program := "qxb6601721a", sum := "e036d2196f35080c8e5c4bd7d26be3bbd99c66afac9f739e5ec62bfc4099dc67", func := "example.com/waymark/waymark/zzlaws_root_b1.FnAppendV4OptionSplitsAsRFC3396", spec := "fnAppendV4OptionSplitsAsRFC3396", apart := false }
def FnAppendV4OptionSplitsAsRFC3396Said : Prop := fnAppendV4OptionSplitsAsRFC3396Row.holds Try.pinned (OpenSpec.ofChange fnAppendV4OptionSplitsAsRFC3396Spec)

/-- ITS FALSE NEIGHBOUR: 'it returns false'. Refute it at one input. -/
def fnAppendV4OptionSplitsAsRFC3396Wrong : ChangeSpec := { name := "fnAppendV4OptionSplitsAsRFC3396", fn := fun _ => fun
  | [d1, d2, d3] => { results := [.lit (.bool false)], args := [d1, d2, d3] }
  | _ => none }
def FnAppendV4OptionSplitsAsRFC3396WrongFalsely : Prop := fnAppendV4OptionSplitsAsRFC3396Row.holds Try.pinned (OpenSpec.ofChange fnAppendV4OptionSplitsAsRFC3396Wrong)

/-- 'zzlaws_root_b1.FnAppendV4OptionPrefixFree': WHATEVER THE INPUT: true; the input reads as it did. -/
def fnAppendV4OptionPrefixFreeSpec : ChangeSpec := { name := "fnAppendV4OptionPrefixFree", fn := fun _ => fun
  | [d1, d2, d3] => { results := [.lit (.bool true)], args := [d1, d2, d3] }
  | _ => none }
def fnAppendV4OptionPrefixFreeRow : OpenClaim := { program := "qxb6601721a", sum := "e036d2196f35080c8e5c4bd7d26be3bbd99c66afac9f739e5ec62bfc4099dc67", func := "example.com/waymark/waymark/zzlaws_root_b1.FnAppendV4OptionPrefixFree", spec := "fnAppendV4OptionPrefixFree", apart := false }
def FnAppendV4OptionPrefixFreeSaid : Prop := fnAppendV4OptionPrefixFreeRow.holds Try.pinned (OpenSpec.ofChange fnAppendV4OptionPrefixFreeSpec)

/-- ITS FALSE NEIGHBOUR: 'it returns false'. Refute it at one input. -/
def fnAppendV4OptionPrefixFreeWrong : ChangeSpec := { name := "fnAppendV4OptionPrefixFree", fn := fun _ => fun
  | [d1, d2, d3] => { results := [.lit (.bool false)], args := [d1, d2, d3] }
  | _ => none }
def FnAppendV4OptionPrefixFreeWrongFalsely : Prop := fnAppendV4OptionPrefixFreeRow.holds Try.pinned (OpenSpec.ofChange fnAppendV4OptionPrefixFreeWrong)

/-- 'zzlaws_root_b1.FnAppendV4OptionConcatAtFullChunks': WHATEVER THE INPUT: true; the input reads as it did. -/
def fnAppendV4OptionConcatAtFullChunksSpec : ChangeSpec := { name := "fnAppendV4OptionConcatAtFullChunks", fn := fun _ => fun
  | [d1, d2, d3, d4] => { results := [.lit (.bool true)], args := [d1, d2, d3, d4] }
  | _ => none }
def fnAppendV4OptionConcatAtFullChunksRow : OpenClaim := { program := "qxb6601721a", sum := "e036d2196f35080c8e5c4bd7d26be3bbd99c66afac9f739e5ec62bfc4099dc67", func := "example.com/waymark/waymark/zzlaws_root_b1.FnAppendV4OptionConcatAtFullChunks", spec := "fnAppendV4OptionConcatAtFullChunks", apart := false }
def FnAppendV4OptionConcatAtFullChunksSaid : Prop := fnAppendV4OptionConcatAtFullChunksRow.holds Try.pinned (OpenSpec.ofChange fnAppendV4OptionConcatAtFullChunksSpec)

/-- ITS FALSE NEIGHBOUR: 'it returns false'. Refute it at one input. -/
def fnAppendV4OptionConcatAtFullChunksWrong : ChangeSpec := { name := "fnAppendV4OptionConcatAtFullChunks", fn := fun _ => fun
  | [d1, d2, d3, d4] => { results := [.lit (.bool false)], args := [d1, d2, d3, d4] }
  | _ => none }
def FnAppendV4OptionConcatAtFullChunksWrongFalsely : Prop := fnAppendV4OptionConcatAtFullChunksRow.holds Try.pinned (OpenSpec.ofChange fnAppendV4OptionConcatAtFullChunksWrong)

/-- 'zzlaws_root_b1.FnJoinValueListDecodesBack': WHATEVER THE INPUT: true; the input reads as it did. -/
def fnJoinValueListDecodesBackSpec : ChangeSpec := { name := "fnJoinValueListDecodesBack", fn := fun _ => fun
  | [d] => { results := [.lit (.bool true)], args := [d] }
  | _ => none }
def fnJoinValueListDecodesBackRow : OpenClaim := { program := "qxb6601721a", sum := "e036d2196f35080c8e5c4bd7d26be3bbd99c66afac9f739e5ec62bfc4099dc67", func := "example.com/waymark/waymark/zzlaws_root_b1.FnJoinValueListDecodesBack", spec := "fnJoinValueListDecodesBack", apart := false }
def FnJoinValueListDecodesBackSaid : Prop := fnJoinValueListDecodesBackRow.holds Try.pinned (OpenSpec.ofChange fnJoinValueListDecodesBackSpec)

/-- ITS FALSE NEIGHBOUR: 'it returns false'. Refute it at one input. -/
def fnJoinValueListDecodesBackWrong : ChangeSpec := { name := "fnJoinValueListDecodesBack", fn := fun _ => fun
  | [d] => { results := [.lit (.bool false)], args := [d] }
  | _ => none }
def FnJoinValueListDecodesBackWrongFalsely : Prop := fnJoinValueListDecodesBackRow.holds Try.pinned (OpenSpec.ofChange fnJoinValueListDecodesBackWrong)

/-- 'zzlaws_root_b1.FnJoinValueListConcatenates': WHATEVER THE INPUT: true; the input reads as it did. -/
def fnJoinValueListConcatenatesSpec : ChangeSpec := { name := "fnJoinValueListConcatenates", fn := fun _ => fun
  | [d1, d2] => { results := [.lit (.bool true)], args := [d1, d2] }
  | _ => none }
def fnJoinValueListConcatenatesRow : OpenClaim := { program := "qxb6601721a", sum := "e036d2196f35080c8e5c4bd7d26be3bbd99c66afac9f739e5ec62bfc4099dc67", func := "example.com/waymark/waymark/zzlaws_root_b1.FnJoinValueListConcatenates", spec := "fnJoinValueListConcatenates", apart := false }
def FnJoinValueListConcatenatesSaid : Prop := fnJoinValueListConcatenatesRow.holds Try.pinned (OpenSpec.ofChange fnJoinValueListConcatenatesSpec)

/-- ITS FALSE NEIGHBOUR: 'it returns false'. Refute it at one input. -/
def fnJoinValueListConcatenatesWrong : ChangeSpec := { name := "fnJoinValueListConcatenates", fn := fun _ => fun
  | [d1, d2] => { results := [.lit (.bool false)], args := [d1, d2] }
  | _ => none }
def FnJoinValueListConcatenatesWrongFalsely : Prop := fnJoinValueListConcatenatesRow.holds Try.pinned (OpenSpec.ofChange fnJoinValueListConcatenatesWrong)

end Rows
end Go.Proofs.Qxb6601721a
