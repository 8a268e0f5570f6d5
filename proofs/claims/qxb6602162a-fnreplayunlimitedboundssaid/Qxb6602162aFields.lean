/-
  The walk of ZZLedgerFields (25).
-/
import Derived.Test.Qxb6602162aMake
namespace Go.Proofs.Qxb6602162a
open Go.RowKit
attribute [local go_sem] run_store_float

set_option maxRecDepth 100000 in
set_option maxHeartbeats 1600000 in
theorem fields_any (l : Led) (p : Nat) (w : World) (h : Has w p l) : Calls Try.prog 25 #[.pointer (some ⟨p, 0, none⟩)] w fun e w' =>
    e = .returned (.tuple #[I l.mode, F l.grant, I l.keep, F l.rate, F l.per, F l.full, F l.max, F l.launch, F l.earned, F l.surplus, .agg l.tot.cells]) ∧ Below w.heap.size w w' := by
  have hS : Boxed l p w := Boxed.of_row h
  have hlt : p < w.heap.size := (Array.getElem?_eq_some_iff.1 h).1
  clear h
  go_enter Try.func25, Try.ntmps25
  go_wp2
  have hS1 : ∀ o, Boxed l p (w.alloc o).drew := fun o => Boxed.below hS ((Below.refl _ _).alloc (Nat.le_refl _) o).drew
  have HS1 := hide hS1
  clear hS1
  go_region_held3 (fun w' => Boxed l p w') (exact unhide HS1 _) (fail)
  clear HS1 hS
  go_wp2
  exact bodyPost_ret (v := .tuple #[I l.mode, F l.grant, I l.keep, F l.rate, F l.per, F l.full, F l.max, F l.launch, F l.earned, F l.surplus, .agg l.tot.cells]) (by simp [results, Try.results25, go_sem]) rfl ⟨rfl, ((Below.refl _ _).alloc (Nat.le_refl _) _).drew⟩
end Go.Proofs.Qxb6602162a
