/-
  Shared words of this seat: a ledger's 22 cells; the float law of equality; first walks (b1SameF, b1ToTotals, b1FromTotals).
-/
import Derived.Test.Qxb6602162aRows
import Derived.WalkKit
import Derived.WalkSpells
import Derived.WalkLawsBesides
import Derived.Deep.QuietTactic
import Derived.BigQuiet
namespace Go.Proofs.Qxb6602162a
open Go.RowKit

/-- A store of a float is one cell's (the kit's laws name the other kinds). -/
theorem run_store_float {P : Program} (w : World) (a : Addr) (m : Mode) (k : FloatKind) (b : Nat) : (store a (.float k b) m).run P w = stored P w a (.float k b) m := run_store P w a _ m rfl
attribute [local go_sem] run_store_float

theorem hide {p : Prop} (h : p) : Hid p := h
theorem unhide {p : Prop} (h : Hid p) : p := h

/-- The totals: two counts, ten floats (their bits). -/
structure Tot where
  periods : Int
  lc : Nat
  er : Nat
  sp : Nat
  disc : Nat
  dem : Nat
  thr : Nat
  bal : Nat
  sur : Nat
  chg : Nat
  lost : Nat
  stopped : Int

/-- The ledger ahead of its totals. -/
structure Led where
  mode : Int
  grant : Nat
  keep : Int
  rate : Nat
  per : Nat
  full : Nat
  max : Nat
  launch : Nat
  earned : Nat
  surplus : Nat
  tot : Tot

abbrev F (b : Nat) : Value := .float .f64 b
abbrev I (n : Int) : Value := .int .i64 n

abbrev Tot.cells (t : Tot) : Array Value := #[I t.periods, F t.lc, F t.er, F t.sp, F t.disc, F t.dem, F t.thr, F t.bal, F t.sur, F t.chg, F t.lost, I t.stopped]
abbrev Led.cells (l : Led) : Array Value := #[I l.mode, F l.grant, I l.keep, F l.rate, F l.per, F l.full, F l.max, F l.launch, F l.earned, F l.surplus,
  I l.tot.periods, F l.tot.lc, F l.tot.er, F l.tot.sp, F l.tot.disc, F l.tot.dem, F l.tot.thr, F l.tot.bal, F l.tot.sur, F l.tot.chg, F l.tot.lost, I l.tot.stopped]

/-- b1SameF: equal as values, or both no numbers. -/
def sameF (a b : Nat) : Bool := (FloatKind.f64.format.order a b == some .eq) || ((FloatKind.f64.format.order a a != some .eq) && (FloatKind.f64.format.order b b != some .eq))

theorem sameF_self (a : Nat) : sameF a a = true := by
  unfold sameF
  cases h : (FloatKind.f64.format.order a a == some .eq) <;> simp [bne, h]

theorem sameF_any (a b : Nat) (w : World) : Calls Try.prog 16 #[F a, F b] w fun e w' => e = .returned (.bool (sameF a b)) ∧ w' = w := by
  unfold sameF
  go_enter Try.func16, Try.ntmps16
  go_wp2
  all_goals
    go_ret
    refine ⟨?_, rfl⟩
    simp [*]

set_option maxHeartbeats 400000 in
theorem toTotals_any (t : Tot) (w : World) : Calls Try.prog 22 #[.agg t.cells] w fun e w' => e = .returned (.agg t.cells) ∧ Below w.heap.size w w' := by
  go_enter Try.func22, Try.ntmps22
  go_wp2
  exact bodyPost_ret (v := .agg t.cells) (by simp [results, Try.results22, go_sem]) rfl ⟨rfl, ((Below.refl _ _).alloc (Nat.le_refl _) _).alloc (by simp) _⟩

set_option maxHeartbeats 400000 in
theorem fromTotals_any (t : Tot) (w : World) : Calls Try.prog 26 #[.agg t.cells] w fun e w' => e = .returned (.agg t.cells) ∧ Below w.heap.size w w' := by
  go_enter Try.func26, Try.ntmps26
  go_wp2
  exact bodyPost_ret (v := .agg t.cells) (by simp [results, Try.results26, go_sem]) rfl ⟨rfl, ((Below.refl _ _).alloc (Nat.le_refl _) _).alloc (by simp) _⟩
end Go.Proofs.Qxb6602162a
