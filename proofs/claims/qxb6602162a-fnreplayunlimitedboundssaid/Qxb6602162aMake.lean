/-
  The walks of ZZNewLedger (21) and b1Make (12).
-/
import Derived.Test.Qxb6602162aBase
import Derived.Deep.RegionHeld3
import Derived.Deep.MidRow
import Derived.Deep.DrawnRows
namespace Go.Proofs.Qxb6602162a
open Go.RowKit
attribute [local go_sem] run_store_float

/-- Block p holds the ledger l. -/
def Has (w : World) (p : Nat) (l : Led) : Prop := w.heap[p]? = some (.cells l.cells 52 (0, 0))

set_option maxHeartbeats 400000 in
theorem new_any (l : Led) (w : World) : Calls Try.prog 21 #[I l.mode, F l.grant, I l.keep, F l.rate, F l.per, F l.full, F l.max, F l.launch, F l.earned, F l.surplus, .agg l.tot.cells] w fun e w' =>
    ∃ p, e = .returned (.pointer (some ⟨p, 0, none⟩)) ∧ w.heap.size ≤ p ∧ Has w' p l ∧ Below w.heap.size w w' := by
  go_enter Try.func21, Try.ntmps21
  go_wp2
  go_ret
  refine ⟨w.heap.size + 1, rfl, by omega, ?_, ((Below.refl _ _).alloc (Nat.le_refl _) _).alloc (by simp) _⟩
  exact heap_alloc2_new w _ _

/-- The 22 cells of a ledger in block B, as a region's loads want them. -/
abbrev Boxed (l : Led) (B : Nat) (w : World) : Prop :=
  w.cell? ⟨B, 0, none⟩ = some (I l.mode) ∧ w.cell? ⟨B, 1, none⟩ = some (F l.grant) ∧ w.cell? ⟨B, 2, none⟩ = some (I l.keep) ∧ w.cell? ⟨B, 3, none⟩ = some (F l.rate) ∧ w.cell? ⟨B, 4, none⟩ = some (F l.per) ∧ w.cell? ⟨B, 5, none⟩ = some (F l.full) ∧ w.cell? ⟨B, 6, none⟩ = some (F l.max) ∧ w.cell? ⟨B, 7, none⟩ = some (F l.launch) ∧ w.cell? ⟨B, 8, none⟩ = some (F l.earned) ∧ w.cell? ⟨B, 9, none⟩ = some (F l.surplus) ∧ w.cell? ⟨B, 10, none⟩ = some (I l.tot.periods) ∧ w.cell? ⟨B, 11, none⟩ = some (F l.tot.lc) ∧ w.cell? ⟨B, 12, none⟩ = some (F l.tot.er) ∧ w.cell? ⟨B, 13, none⟩ = some (F l.tot.sp) ∧ w.cell? ⟨B, 14, none⟩ = some (F l.tot.disc) ∧ w.cell? ⟨B, 15, none⟩ = some (F l.tot.dem) ∧ w.cell? ⟨B, 16, none⟩ = some (F l.tot.thr) ∧ w.cell? ⟨B, 17, none⟩ = some (F l.tot.bal) ∧ w.cell? ⟨B, 18, none⟩ = some (F l.tot.sur) ∧ w.cell? ⟨B, 19, none⟩ = some (F l.tot.chg) ∧ w.cell? ⟨B, 20, none⟩ = some (F l.tot.lost) ∧ w.cell? ⟨B, 21, none⟩ = some (I l.tot.stopped)

theorem Boxed.of_row {l : Led} {B : Nat} {w : World} {t : TypeId} (h : w.heap[B]? = some (.cells l.cells t (0, 0))) : Boxed l B w := by
  have hc : ∀ j, w.cell? ⟨B, j, none⟩ = l.cells[j]? := fun j => cell_of_row w B j l.cells t (0, 0) h
  exact ⟨hc 0, hc 1, hc 2, hc 3, hc 4, hc 5, hc 6, hc 7, hc 8, hc 9, hc 10, hc 11, hc 12, hc 13, hc 14, hc 15, hc 16, hc 17, hc 18, hc 19, hc 20, hc 21⟩

theorem Boxed.below {l : Led} {B : Nat} {x y : World} (h : Boxed l B x) (b : Below x.heap.size x y) : Boxed l B y := by
  obtain ⟨h0, h1, h2, h3, h4, h5, h6, h7, h8, h9, h10, h11, h12, h13, h14, h15, h16, h17, h18, h19, h20, h21⟩ := h
  exact ⟨cell_later b h0, cell_later b h1, cell_later b h2, cell_later b h3, cell_later b h4, cell_later b h5, cell_later b h6, cell_later b h7, cell_later b h8, cell_later b h9, cell_later b h10, cell_later b h11, cell_later b h12, cell_later b h13, cell_later b h14, cell_later b h15, cell_later b h16, cell_later b h17, cell_later b h18, cell_later b h19, cell_later b h20, cell_later b h21⟩

theorem Boxed.drew {l : Led} {B : Nat} {x : World} (h : Boxed l B x) : Boxed l B x.drew := h

set_option maxRecDepth 100000 in
set_option maxHeartbeats 800000 in
theorem make_any (l : Led) (w : World) : Calls Try.prog 12 #[.agg l.cells] w fun e w' =>
    ∃ p, e = .returned (.pointer (some ⟨p, 0, none⟩)) ∧ w.heap.size ≤ p ∧ Has w' p l ∧ Below w.heap.size w w' := by
  go_enter Try.func12, Try.ntmps12
  go_wp2
  have hS0 : Boxed l w.heap.size (w.alloc (Obj.cells l.cells 26)) := Boxed.of_row (heap_alloc_new w _)
  have hb0 : Below w.heap.size w (w.alloc (Obj.cells l.cells 26)) := (Below.refl _ _).alloc (Nat.le_refl _) _
  generalize w.alloc (Obj.cells l.cells 26) = W at hS0 hb0 ⊢
  go_region_held3 (fun w' => Boxed l w.heap.size w') (first | exact Boxed.drew (by assumption) | exact Boxed.below (by assumption) (by assumption) | go_keep)
    (first
      | (go_at_call 22; refine (toTotals_any l.tot _).mono ?_; rintro e w1 ⟨rfl, hb1⟩)
      | (go_at_call 21; refine (new_any l _).mono ?_; rintro e w2 ⟨p, rfl, hp, hH, hb2⟩))
  have hp' : w.heap.size ≤ p := Nat.le_trans (Nat.le_trans hb0.size hb1.size) hp
  have hB : Below w.heap.size w w2 := (hb0.trans ((Below.refl _ _).drew.trans (hb1.mono hb0.size))).trans (hb2.mono (Nat.le_trans hb0.size hb1.size))
  clear hb0 hb1 hb2 hS0
  go_wp2
  go_ret
  exact ⟨p, rfl, hp', hH, hB⟩
end Go.Proofs.Qxb6602162a
