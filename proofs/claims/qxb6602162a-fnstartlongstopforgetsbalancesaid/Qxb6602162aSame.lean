/-
  The walks of b1SameTotals (27) and b1SameLedger (15), where they answer true.
-/
import Derived.Test.Qxb6602162aBase
namespace Go.Proofs.Qxb6602162a
open Go.RowKit

/-- Two totals, two ledgers that b1SameTotals, b1SameLedger hold for the same. -/
structure SameT (a b : Tot) : Prop where
  periods : a.periods = b.periods
  stopped : a.stopped = b.stopped
  lc : sameF a.lc b.lc = true
  er : sameF a.er b.er = true
  sp : sameF a.sp b.sp = true
  disc : sameF a.disc b.disc = true
  dem : sameF a.dem b.dem = true
  thr : sameF a.thr b.thr = true
  bal : sameF a.bal b.bal = true
  sur : sameF a.sur b.sur = true
  chg : sameF a.chg b.chg = true
  lost : sameF a.lost b.lost = true

structure SameL (a b : Led) : Prop where
  mode : a.mode = b.mode
  keep : a.keep = b.keep
  grant : sameF a.grant b.grant = true
  rate : sameF a.rate b.rate = true
  per : sameF a.per b.per = true
  full : sameF a.full b.full = true
  max : sameF a.max b.max = true
  launch : sameF a.launch b.launch = true
  earned : sameF a.earned b.earned = true
  surplus : sameF a.surplus b.surplus = true
  tot : SameT a.tot b.tot

set_option maxRecDepth 100000 in
set_option maxHeartbeats 1600000 in
theorem sameTotals_any (a b : Tot) (w : World) (h : SameT a b) : Calls Try.prog 27 #[.agg a.cells, .agg b.cells] w fun e w' =>
    e = .returned (.bool true) ∧ Below w.heap.size w w' := by
  obtain ⟨h1, h2, h3, h4, h5, h6, h7, h8, h9, h10, h11, h12⟩ := h
  have e1 : (a.periods == b.periods) = true := by simpa using h1
  have e2 : (a.stopped == b.stopped) = true := by simpa using h2
  clear h1 h2
  go_enter Try.func27, Try.ntmps27
  go_wp2_with (go_at_call 16; refine (sameF_any _ _ _).mono ?_; rintro e w' ⟨rfl, rfl⟩)
  go_ret
  exact ⟨by simp, ((Below.refl _ _).alloc (Nat.le_refl _) _).alloc (by simp) _⟩
end Go.Proofs.Qxb6602162a
