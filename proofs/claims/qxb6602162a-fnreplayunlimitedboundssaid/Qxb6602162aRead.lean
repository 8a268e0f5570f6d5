/-
  The walk of b1Read (14).
-/
import Derived.Test.Qxb6602162aFields
namespace Go.Proofs.Qxb6602162a
open Go.RowKit
attribute [local go_sem] run_store_float

abbrev zeroT : Tot := ⟨0, 0, 0, 0, 0, 0, 0, 0, 0, 0, 0, 0⟩
abbrev zeroL : Led := ⟨0, 0, 0, 0, 0, 0, 0, 0, 0, 0, zeroT⟩
theorem Try.size26 : (Try.prog.info? 26).map (·.size) = some 22 := by kernel_rfl
theorem Led.one (l : Led) : l.cells.all (·.oneCell') = true := by simp [Value.oneCell']

theorem below_setRow {B g : Nat} {a w : World} (h : Below B a w) (hg : B ≤ g) (cs : Array Value) : Below B a (w.setRow g cs) :=
  ⟨h.os, h.tape, h.output, by simpa using h.size, fun k hk => (setRow_other w g k cs (by omega)).trans (h.block k hk)⟩

set_option maxRecDepth 100000 in
set_option maxHeartbeats 1600000 in
theorem read_any (l : Led) (p : Nat) (w : World) (h : Has w p l) : Calls Try.prog 14 #[.pointer (some ⟨p, 0, none⟩)] w fun e w' =>
    e = .returned (.agg l.cells) ∧ Below w.heap.size w w' := by
  have hlt : p < w.heap.size := (Array.getElem?_eq_some_iff.1 h).1
  have H : Hid (∀ o, Has (w.alloc o) p l) := fun o => (Below.heap_alloc w o p hlt).trans h
  clear h hlt
  go_enter Try.func14, Try.ntmps14
  go_wp2_with fail
  refine (fields_any l p _ (unhide H _)).mono ?_
  rintro e w1 ⟨rfl, hb1⟩
  have hB1 : Hid (w1.heap[w.heap.size]? = some (.cells zeroL.cells 26 (0, 0))) := (hb1.block w.heap.size (by simp)).trans (heap_alloc_new w _)
  have hA1 : Hid (Below w.heap.size w w1) := ((Below.refl _ _).alloc (Nat.le_refl _) _).trans (hb1.mono (by simp))
  clear hb1
  go_wp2_with fail
  refine (fromTotals_any l.tot _).mono ?_
  rintro e w2 ⟨rfl, hb2⟩
  have hsz : w.heap.size < w1.heap.size := (Array.getElem?_eq_some_iff.1 (unhide hB1)).1
  have hB2 : Hid (w2.heap[w.heap.size]? = some (.cells zeroL.cells 26 (0, 0))) := ((hb2.block w.heap.size (by simp; omega)).trans (Below.heap_alloc w1 _ w.heap.size hsz)).trans (unhide hB1)
  have hA2 : Hid (Below w.heap.size w w2) := ((unhide hA1).alloc (by omega) _).trans (hb2.mono (by simp; omega))
  clear hb2 hA1 hB1
  go_wp2_with (refine wpList_store_row rfl 26 (.tmp 2) (.tmp 40) rfl w.heap.size l.cells rfl rfl 26 zeroL.cells (unhide hB2) Try.size26 rfl l.one ?_)
  exact bodyPost_ret (v := .agg l.cells) (results_cell_row Try.results14 _ _ w.heap.size 26 l.cells (0, 0) _ rfl (setRow_heap w2 w.heap.size zeroL.cells l.cells 26 (0, 0) (unhide hB2)) Try.underlying26 rfl Try.size26) rfl ⟨rfl, below_setRow (unhide hA2) (Nat.le_refl _) _⟩
end Go.Proofs.Qxb6602162a
