/-
  The walk of FnReplayUnlimitedBounds (10).
-/
import Derived.Test.Qxb6602162aBounds
import Derived.Test.Qxb6602162aRead
import Derived.Deep.WholeRow
namespace Go.Proofs.Qxb6602162a.replayBounds
open Go.RowKit
attribute [local go_sem] run_store_float run_fadd run_fsub

set_option maxRecDepth 100000 in
set_option maxHeartbeats 1000000 in
theorem walk_in (s : Led) (v a : Nat) (w : World) (hM : (FloatKind.f64.format.order s.max 0 == some .gt || FloatKind.f64.format.order s.max 0 == some .eq) = true) : Calls Try.prog 10 #[.agg s.cells, F v, F a] w fun e w' => e = .returned (.bool true) ∧ Below w.heap.size w w' := by
  go_enter Try.func10, Try.ntmps10
  go_wp2_with (refine wpList_load_row rfl 26 (.tmp 3) rfl w.heap.size rfl 26 s.cells (0, 0) _ (heap_alloc_new w _) Try.underlying26 rfl Try.size26 ?_)
  refine (make_any s _).mono ?_
  rintro e w1 ⟨p, rfl, hp, h1, b1⟩
  have hp' : w.heap.size < p := by simp at hp; omega
  have R1 : w1.heap[w.heap.size]? = some (.cells s.cells 26 (0, 0)) := (b1.block w.heap.size (by simp)).trans (heap_alloc_new w _)
  have B1 : Below w.heap.size w w1 := ((Below.refl _ _).alloc (Nat.le_refl _) _).trans (b1.mono (by simp))
  have hp1 : p < w1.heap.size := h1.lt
  have HR1 := hide R1
  have H1 : Hid (∀ o, Has (w1.alloc o) p s) := fun o => (Below.heap_alloc w1 o p hp1).trans h1
  clear R1 b1 hp h1
  go_wp2_with fail
  refine (zzreplay_any s p w1.heap.size v a _ (unhide H1 _) (heap_alloc_new w1 _) (by omega)).mono ?_
  rintro e w2 ⟨rfl, net, g, ch, hrep, h2, hP2, t2⟩
  have hz : w.heap.size < w1.heap.size := (Array.getElem?_eq_some_iff.1 (unhide HR1)).1
  have R2 : w2.heap[w.heap.size]? = some (.cells s.cells 26 (0, 0)) := ((t2.block w.heap.size (by simp; omega) (by omega) (by omega)).trans (Below.heap_alloc w1 _ _ hz)).trans (unhide HR1)
  have B2 : Below w.heap.size w w2 := (B1.alloc B1.size _).trans ⟨t2.os, t2.tape, t2.output, t2.size, fun k hk => t2.block k (by simp; omega) (by omega) (by omega)⟩
  have HB := hide (bounds hM hrep)
  have HR2 := hide R2
  have HP2 := hide hP2
  clear R2 HR1 H1 t2 B1 hrep hP2
  go_wp2_with fail
  refine (read_any g p _ h2).mono ?_
  rintro e w3 ⟨rfl, b3⟩
  have R3 : w3.heap[w.heap.size]? = some (.cells s.cells 26 (0, 0)) := (b3.block w.heap.size ((Array.getElem?_eq_some_iff.1 (unhide HR2)).1)).trans (unhide HR2)
  have hP3 : HasP w3 w1.heap.size (perCells v a g.earned g.surplus ch 0) := (b3.block w1.heap.size ((Array.getElem?_eq_some_iff.1 (unhide HP2)).1)).trans (unhide HP2)
  have B3 : Below w.heap.size w w3 := B2.trans (b3.mono B2.size)
  have hlt : w.heap.size < w3.heap.size := (Array.getElem?_eq_some_iff.1 R3).1
  have hlt1 : w1.heap.size < w3.heap.size := (Array.getElem?_eq_some_iff.1 hP3).1
  have c6 : w3.cell? ⟨w.heap.size, 6, none⟩ = some (F s.max) := cell_of_row w3 _ 6 s.cells 26 (0, 0) R3
  have c14 : w3.cell? ⟨w.heap.size, 14, none⟩ = some (F s.tot.disc) := cell_of_row w3 _ 14 s.cells 26 (0, 0) R3
  have p4 : w3.cell? ⟨w1.heap.size, 4, none⟩ = some (F ch) := hP3.cell 4
  obtain ⟨e0, em, s0, sm, both, ch0, disc, dm, cm⟩ := unhide HB
  clear R3 hP3 HR2 HP2 h2 b3 B2 HB hp1 hp' hz hM
  have hbth : ¬ FloatKind.f64.format.order g.earned 0 = some .eq → FloatKind.f64.format.order g.surplus 0 = some .eq := by
    intro h
    have h' : (FloatKind.f64.format.order g.earned 0 != some .eq) = true := by rw [bne_iff_ne]; exact h
    have := both.resolve_left (by rw [h']; simp)
    exact bne_eq_false_iff_eq.1 this
  have hdm : sameF g.tot.disc s.tot.disc = false → sameF g.earned s.max = true := fun h => dm.resolve_left (by rw [h]; simp)
  have hcm : FloatKind.f64.format.order ch 0 = some .gt → sameF g.surplus s.max = true := fun h => cm.resolve_left (by show ¬ (FloatKind.f64.format.order ch 0 == some .gt) = false; rw [h]; simp)
  clear both dm cm
  go_wp2_with (first
    | (refine wpList_store_row rfl 26 (.tmp 9) (.tmp 21) rfl w3.heap.size #[I g.mode, F g.grant, I g.keep, F g.rate, F g.per, F g.full, F g.max, F g.launch, F g.earned, F g.surplus, I g.tot.periods, F g.tot.lc, F g.tot.er, F g.tot.sp, F g.tot.disc, F g.tot.dem, F g.tot.thr, F g.tot.bal, F g.tot.sur, F g.tot.chg, F g.tot.lost, I g.tot.stopped] rfl rfl 26 zeroL.cells (heap_alloc_new w3 _) Try.size26 rfl g.one ?_; rw [World.setRow_alloc_new])
    | (go_at_call 16; refine (sameF_any _ _ _).mono ?_; rintro e w' ⟨rfl, rfl⟩))
  all_goals
    go_ret
    exact ⟨rfl, B3.alloc (by omega) _⟩

theorem walk (s : Led) (v a : Nat) (w : World) : Calls Try.prog 10 #[.agg s.cells, F v, F a] w fun e w' => e = .returned (.bool true) ∧ Below w.heap.size w w' := by
  cases hM : (FloatKind.f64.format.order s.max 0 == some .gt || FloatKind.f64.format.order s.max 0 == some .eq)
  · go_enter Try.func10, Try.ntmps10
    go_wp2
    go_ret
    exact ⟨rfl, (Below.refl _ _).alloc (Nat.le_refl _) _⟩
  · exact walk_in s v a w hM
end Go.Proofs.Qxb6602162a.replayBounds
