/-
  The walk of b1SameLedger (15), where it answers true.
-/
import Derived.Test.Qxb6602162aSame
namespace Go.Proofs.Qxb6602162a
open Go.RowKit

set_option maxRecDepth 100000 in
set_option maxHeartbeats 1600000 in
theorem sameLedger_any (a b : Led) (w : World) (h : SameL a b) : Calls Try.prog 15 #[.agg a.cells, .agg b.cells] w fun e w' =>
    e = .returned (.bool true) ∧ Below w.heap.size w w' := by
  obtain ⟨h1, h2, h3, h4, h5, h6, h7, h8, h9, h10, ht⟩ := h
  have e1 : (a.mode == b.mode) = true := by simpa using h1
  have e2 : (a.keep == b.keep) = true := by simpa using h2
  have HT := hide ht
  clear h1 h2 ht
  go_enter Try.func15, Try.ntmps15
  go_wp2_with (first | (go_at_call 16; refine (sameF_any _ _ _).mono ?_; rintro e w' ⟨rfl, rfl⟩) | (go_at_call 27; refine (sameTotals_any a.tot b.tot _ (unhide HT)).mono ?_; rintro e w1 ⟨rfl, hb⟩))
  go_ret
  exact ⟨by simp, (((Below.refl _ _).alloc (Nat.le_refl _) _).alloc (by simp) _).trans (hb.mono (by simp; omega))⟩
end Go.Proofs.Qxb6602162a
