/-
  No cell of these rows narrows 'for every input' (looked for: loops, veiled, ifaces, maps, wideKeys, modest, calm, conditions, laid).
  DERIVED. THE GIVEN ROWS OF THIS SEAT. 9 by the template 'for every input the law returns true; each argument reads behind the call as it read before'; 0 by the template 'total and deterministic' (their statements: Qxb6602162aTotals.lean).
  GIVEN WITH THE SEED: the statements are not yours to turn. If you find one false, say at which input.
  Laid BY PROGRAM, IN A SANDBOX (cutbox-rows.mjs): the forced cells as the released guide's own fill.sh prints them over the translation c3e722d6f23f80ea… (all of the seat's roots in one cut). By AI agents, Wed Nov 11 2026. No macro, syntax, notation, axiom, sorry.
-/
import Derived.Test.Qxb6602162aChecked
import GoSem.Claim
import GoSem.ClaimJoined
import GoSem.ClaimMapViews
import Derived.JoinedTies
import Derived.KernelRfl
namespace Go.Proofs.Qxb6602162a
/- THE CELL 'sum', in the pinned program and in every row, IS THE sha256 OF THE DUMP (.gsa) THAT Qxb6602162aProg.lean LOADS. Nothing in Lean hashes anything: it is a label: what it is worth is what the hold of that sum in a sandbox is worth. -/
noncomputable def Try.pinned : Pinned := { name := "qxb6602162a", sum := "c3e722d6f23f80eabff6eb077762866727fe1152ce7aaf427ba4b4dd62d631aa", checked := Try.checked }
namespace Rows
def none {H : Type} : Left H := { results := [], args := [] }

/-- 'zzlaws_credit_b1.FnSwitchModeFrame': WHATEVER THE INPUT: true; the input reads as it did. -/
def fnSwitchModeFrameSpec : ChangeSpec := { name := "fnSwitchModeFrame", fn := fun _ => fun
  | [d1, d2] => { results := [.lit (.bool true)], args := [d1, d2] }
  | _ => none }
def fnSwitchModeFrameRow : OpenClaim := { program := "qxb6602162a", sum := "c3e722d6f23f80eabff6eb077762866727fe1152ce7aaf427ba4b4dd62d631aa", func := "example.com/tideline/tideline/zzlaws_credit_b1.FnSwitchModeFrame", spec := "fnSwitchModeFrame", apart := false }
def FnSwitchModeFrameSaid : Prop := fnSwitchModeFrameRow.holds Try.pinned (OpenSpec.ofChange fnSwitchModeFrameSpec)

/-- ITS FALSE NEIGHBOUR: 'it returns false'. Refute it at one input. -/
def fnSwitchModeFrameWrong : ChangeSpec := { name := "fnSwitchModeFrame", fn := fun _ => fun
  | [d1, d2] => { results := [.lit (.bool false)], args := [d1, d2] }
  | _ => none }
def FnSwitchModeFrameWrongFalsely : Prop := fnSwitchModeFrameRow.holds Try.pinned (OpenSpec.ofChange fnSwitchModeFrameWrong)

/-- 'zzlaws_credit_b1.FnSwitchModeConservesCredits': WHATEVER THE INPUT: true; the input reads as it did. -/
def fnSwitchModeConservesCreditsSpec : ChangeSpec := { name := "fnSwitchModeConservesCredits", fn := fun _ => fun
  | [d1, d2] => { results := [.lit (.bool true)], args := [d1, d2] }
  | _ => none }
def fnSwitchModeConservesCreditsRow : OpenClaim := { program := "qxb6602162a", sum := "c3e722d6f23f80eabff6eb077762866727fe1152ce7aaf427ba4b4dd62d631aa", func := "example.com/tideline/tideline/zzlaws_credit_b1.FnSwitchModeConservesCredits", spec := "fnSwitchModeConservesCredits", apart := false }
def FnSwitchModeConservesCreditsSaid : Prop := fnSwitchModeConservesCreditsRow.holds Try.pinned (OpenSpec.ofChange fnSwitchModeConservesCreditsSpec)

/-- ITS FALSE NEIGHBOUR: 'it returns false'. Refute it at one input. -/
def fnSwitchModeConservesCreditsWrong : ChangeSpec := { name := "fnSwitchModeConservesCredits", fn := fun _ => fun
  | [d1, d2] => { results := [.lit (.bool false)], args := [d1, d2] }
  | _ => none }
def FnSwitchModeConservesCreditsWrongFalsely : Prop := fnSwitchModeConservesCreditsRow.holds Try.pinned (OpenSpec.ofChange fnSwitchModeConservesCreditsWrong)

/-- 'zzlaws_credit_b1.FnStartFrame': WHATEVER THE INPUT: true; the input reads as it did. -/
def fnStartFrameSpec : ChangeSpec := { name := "fnStartFrame", fn := fun _ => fun
  | [d1, d2] => { results := [.lit (.bool true)], args := [d1, d2] }
  | _ => none }
def fnStartFrameRow : OpenClaim := { program := "qxb6602162a", sum := "c3e722d6f23f80eabff6eb077762866727fe1152ce7aaf427ba4b4dd62d631aa", func := "example.com/tideline/tideline/zzlaws_credit_b1.FnStartFrame", spec := "fnStartFrame", apart := false }
def FnStartFrameSaid : Prop := fnStartFrameRow.holds Try.pinned (OpenSpec.ofChange fnStartFrameSpec)

/-- ITS FALSE NEIGHBOUR: 'it returns false'. Refute it at one input. -/
def fnStartFrameWrong : ChangeSpec := { name := "fnStartFrame", fn := fun _ => fun
  | [d1, d2] => { results := [.lit (.bool false)], args := [d1, d2] }
  | _ => none }
def FnStartFrameWrongFalsely : Prop := fnStartFrameRow.holds Try.pinned (OpenSpec.ofChange fnStartFrameWrong)

/-- 'zzlaws_credit_b1.FnStartLongStopForgetsBalance': WHATEVER THE INPUT: true; the input reads as it did. -/
def fnStartLongStopForgetsBalanceSpec : ChangeSpec := { name := "fnStartLongStopForgetsBalance", fn := fun _ => fun
  | [d1, d2, d3, d4] => { results := [.lit (.bool true)], args := [d1, d2, d3, d4] }
  | _ => none }
def fnStartLongStopForgetsBalanceRow : OpenClaim := { program := "qxb6602162a", sum := "c3e722d6f23f80eabff6eb077762866727fe1152ce7aaf427ba4b4dd62d631aa", func := "example.com/tideline/tideline/zzlaws_credit_b1.FnStartLongStopForgetsBalance", spec := "fnStartLongStopForgetsBalance", apart := false }
def FnStartLongStopForgetsBalanceSaid : Prop := fnStartLongStopForgetsBalanceRow.holds Try.pinned (OpenSpec.ofChange fnStartLongStopForgetsBalanceSpec)

/-- ITS FALSE NEIGHBOUR: 'it returns false'. Refute it at one input. -/
def fnStartLongStopForgetsBalanceWrong : ChangeSpec := { name := "fnStartLongStopForgetsBalance", fn := fun _ => fun
  | [d1, d2, d3, d4] => { results := [.lit (.bool false)], args := [d1, d2, d3, d4] }
  | _ => none }
def FnStartLongStopForgetsBalanceWrongFalsely : Prop := fnStartLongStopForgetsBalanceRow.holds Try.pinned (OpenSpec.ofChange fnStartLongStopForgetsBalanceWrong)

/-- 'zzlaws_credit_b1.FnStartOnlyWhetherKeptMatters': WHATEVER THE INPUT: true; the input reads as it did. -/
def fnStartOnlyWhetherKeptMattersSpec : ChangeSpec := { name := "fnStartOnlyWhetherKeptMatters", fn := fun _ => fun
  | [d1, d2, d3] => { results := [.lit (.bool true)], args := [d1, d2, d3] }
  | _ => none }
def fnStartOnlyWhetherKeptMattersRow : OpenClaim := { program := "qxb6602162a", sum := "c3e722d6f23f80eabff6eb077762866727fe1152ce7aaf427ba4b4dd62d631aa", func := "example.com/tideline/tideline/zzlaws_credit_b1.FnStartOnlyWhetherKeptMatters", spec := "fnStartOnlyWhetherKeptMatters", apart := false }
def FnStartOnlyWhetherKeptMattersSaid : Prop := fnStartOnlyWhetherKeptMattersRow.holds Try.pinned (OpenSpec.ofChange fnStartOnlyWhetherKeptMattersSpec)

/-- ITS FALSE NEIGHBOUR: 'it returns false'. Refute it at one input. -/
def fnStartOnlyWhetherKeptMattersWrong : ChangeSpec := { name := "fnStartOnlyWhetherKeptMatters", fn := fun _ => fun
  | [d1, d2, d3] => { results := [.lit (.bool false)], args := [d1, d2, d3] }
  | _ => none }
def FnStartOnlyWhetherKeptMattersWrongFalsely : Prop := fnStartOnlyWhetherKeptMattersRow.holds Try.pinned (OpenSpec.ofChange fnStartOnlyWhetherKeptMattersWrong)

/-- 'zzlaws_credit_b1.FnReplayUnlimitedFrame': WHATEVER THE INPUT: true; the input reads as it did. -/
def fnReplayUnlimitedFrameSpec : ChangeSpec := { name := "fnReplayUnlimitedFrame", fn := fun _ => fun
  | [d1, d2, d3, d4, d5] => { results := [.lit (.bool true)], args := [d1, d2, d3, d4, d5] }
  | _ => none }
def fnReplayUnlimitedFrameRow : OpenClaim := { program := "qxb6602162a", sum := "c3e722d6f23f80eabff6eb077762866727fe1152ce7aaf427ba4b4dd62d631aa", func := "example.com/tideline/tideline/zzlaws_credit_b1.FnReplayUnlimitedFrame", spec := "fnReplayUnlimitedFrame", apart := false }
def FnReplayUnlimitedFrameSaid : Prop := fnReplayUnlimitedFrameRow.holds Try.pinned (OpenSpec.ofChange fnReplayUnlimitedFrameSpec)

/-- ITS FALSE NEIGHBOUR: 'it returns false'. Refute it at one input. -/
def fnReplayUnlimitedFrameWrong : ChangeSpec := { name := "fnReplayUnlimitedFrame", fn := fun _ => fun
  | [d1, d2, d3, d4, d5] => { results := [.lit (.bool false)], args := [d1, d2, d3, d4, d5] }
  | _ => none }
def FnReplayUnlimitedFrameWrongFalsely : Prop := fnReplayUnlimitedFrameRow.holds Try.pinned (OpenSpec.ofChange fnReplayUnlimitedFrameWrong)

/-- 'zzlaws_credit_b1.FnReplayUnlimitedDependsOnDifference': WHATEVER THE INPUT: true; the input reads as it did. -/
def fnReplayUnlimitedDependsOnDifferenceSpec : ChangeSpec := { name := "fnReplayUnlimitedDependsOnDifference", fn := fun _ => fun
  | [d1, d2, d3, d4, d5] => { results := [.lit (.bool true)], args := [d1, d2, d3, d4, d5] }
  | _ => none }
def fnReplayUnlimitedDependsOnDifferenceRow : OpenClaim := { program := "qxb6602162a", sum := "c3e722d6f23f80eabff6eb077762866727fe1152ce7aaf427ba4b4dd62d631aa", func := "example.com/tideline/tideline/zzlaws_credit_b1.FnReplayUnlimitedDependsOnDifference", spec := "fnReplayUnlimitedDependsOnDifference", apart := false }
def FnReplayUnlimitedDependsOnDifferenceSaid : Prop := fnReplayUnlimitedDependsOnDifferenceRow.holds Try.pinned (OpenSpec.ofChange fnReplayUnlimitedDependsOnDifferenceSpec)

/-- ITS FALSE NEIGHBOUR: 'it returns false'. Refute it at one input. -/
def fnReplayUnlimitedDependsOnDifferenceWrong : ChangeSpec := { name := "fnReplayUnlimitedDependsOnDifference", fn := fun _ => fun
  | [d1, d2, d3, d4, d5] => { results := [.lit (.bool false)], args := [d1, d2, d3, d4, d5] }
  | _ => none }
def FnReplayUnlimitedDependsOnDifferenceWrongFalsely : Prop := fnReplayUnlimitedDependsOnDifferenceRow.holds Try.pinned (OpenSpec.ofChange fnReplayUnlimitedDependsOnDifferenceWrong)

/-- 'zzlaws_credit_b1.FnReplayUnlimitedBounds': WHATEVER THE INPUT: true; the input reads as it did. -/
def fnReplayUnlimitedBoundsSpec : ChangeSpec := { name := "fnReplayUnlimitedBounds", fn := fun _ => fun
  | [d1, d2, d3] => { results := [.lit (.bool true)], args := [d1, d2, d3] }
  | _ => none }
def fnReplayUnlimitedBoundsRow : OpenClaim := { program := "qxb6602162a", sum := "c3e722d6f23f80eabff6eb077762866727fe1152ce7aaf427ba4b4dd62d631aa", func := "example.com/tideline/tideline/zzlaws_credit_b1.FnReplayUnlimitedBounds", spec := "fnReplayUnlimitedBounds", apart := false }
def FnReplayUnlimitedBoundsSaid : Prop := fnReplayUnlimitedBoundsRow.holds Try.pinned (OpenSpec.ofChange fnReplayUnlimitedBoundsSpec)

/-- ITS FALSE NEIGHBOUR: 'it returns false'. Refute it at one input. -/
def fnReplayUnlimitedBoundsWrong : ChangeSpec := { name := "fnReplayUnlimitedBounds", fn := fun _ => fun
  | [d1, d2, d3] => { results := [.lit (.bool false)], args := [d1, d2, d3] }
  | _ => none }
def FnReplayUnlimitedBoundsWrongFalsely : Prop := fnReplayUnlimitedBoundsRow.holds Try.pinned (OpenSpec.ofChange fnReplayUnlimitedBoundsWrong)

/-- 'zzlaws_credit_b1.FnReplayUnlimitedMonotoneInAsked': WHATEVER THE INPUT: true; the input reads as it did. -/
def fnReplayUnlimitedMonotoneInAskedSpec : ChangeSpec := { name := "fnReplayUnlimitedMonotoneInAsked", fn := fun _ => fun
  | [d1, d2, d3] => { results := [.lit (.bool true)], args := [d1, d2, d3] }
  | _ => none }
def fnReplayUnlimitedMonotoneInAskedRow : OpenClaim := { program := "qxb6602162a", sum := "c3e722d6f23f80eabff6eb077762866727fe1152ce7aaf427ba4b4dd62d631aa", func := "example.com/tideline/tideline/zzlaws_credit_b1.FnReplayUnlimitedMonotoneInAsked", spec := "fnReplayUnlimitedMonotoneInAsked", apart := false }
def FnReplayUnlimitedMonotoneInAskedSaid : Prop := fnReplayUnlimitedMonotoneInAskedRow.holds Try.pinned (OpenSpec.ofChange fnReplayUnlimitedMonotoneInAskedSpec)

/-- ITS FALSE NEIGHBOUR: 'it returns false'. Refute it at one input. -/
def fnReplayUnlimitedMonotoneInAskedWrong : ChangeSpec := { name := "fnReplayUnlimitedMonotoneInAsked", fn := fun _ => fun
  | [d1, d2, d3] => { results := [.lit (.bool false)], args := [d1, d2, d3] }
  | _ => none }
def FnReplayUnlimitedMonotoneInAskedWrongFalsely : Prop := fnReplayUnlimitedMonotoneInAskedRow.holds Try.pinned (OpenSpec.ofChange fnReplayUnlimitedMonotoneInAskedWrong)

end Rows
end Go.Proofs.Qxb6602162a
