/-
  The walk of FnSwitchModeFrame (3).
-/
import Derived.Test.Qxb6602162aSwitch
import Derived.Test.Qxb6602162aRead
import Derived.Test.Qxb6602162aSameL
import Derived.Deep.WholeRow
namespace Go.Proofs.Qxb6602162a

theorem SameT.refl (a : Tot) : SameT a a := ⟨rfl, rfl, sameF_self _, sameF_self _, sameF_self _, sameF_self _, sameF_self _, sameF_self _, sameF_self _, sameF_self _, sameF_self _, sameF_self _⟩
theorem SameL.refl (a : Led) : SameL a a := ⟨rfl, rfl, sameF_self _, sameF_self _, sameF_self _, sameF_self _, sameF_self _, sameF_self _, sameF_self _, sameF_self _, SameT.refl _⟩
theorem sameF_alike {x y : Nat} (h : Alike x y) : sameF x y = true := by
  rcases h with rfl | ⟨hx, hy⟩
  · exact sameF_self _
  · unfold sameF
    rw [hx.left x, hy.left y]
    simp

theorem setRow_alloc_at (w : World) (c c' : Array Value) (t : TypeId) (k : Nat) (hk : k = w.heap.size) : (w.alloc (.cells c t)).setRow k c' = w.alloc (.cells c' t) := by
  subst hk
  exact World.setRow_alloc_new w c c' t

namespace switchFrame
open Go.RowKit
attribute [local go_sem] run_store_float run_fadd run_fsub

set_option maxRecDepth 100000 in
set_option maxHeartbeats 1600000 in
theorem walk_same (s : Led) (w : World) : Calls Try.prog 3 #[.agg s.cells, I s.mode] w fun e w' => e = .returned (.bool true) ∧ Below w.heap.size w w' := by
  go_enter Try.func3, Try.ntmps3
  go_wp2_with (refine wpList_load_row rfl 26 (.tmp 2) rfl w.heap.size rfl 26 s.cells (0, 0) _ (heap_alloc_new w _) Try.underlying26 rfl Try.size26 ?_)
  refine (make_any s _).mono ?_
  rintro e w1 ⟨p, rfl, hp, h1, b1⟩
  have hp' : w.heap.size < p := by simp at hp; omega
  have R1 : w1.heap[w.heap.size]? = some (.cells s.cells 26 (0, 0)) := (b1.block w.heap.size (by simp)).trans (heap_alloc_new w _)
  have B1 : Below w.heap.size w w1 := ((Below.refl _ _).alloc (Nat.le_refl _) _).trans (b1.mono (by simp))
  have HR1 := hide R1
  clear R1 b1 hp
  go_wp2_with fail
  refine (switch_same s p _ _ h1 rfl).mono ?_
  rintro e w2 ⟨rfl, h2, t2⟩
  have R2 : w2.heap[w.heap.size]? = some (.cells s.cells 26 (0, 0)) := (t2.block w.heap.size ((Array.getElem?_eq_some_iff.1 (unhide HR1)).1) (by simp; omega)).trans (unhide HR1)
  have B2 : Below w.heap.size w w2 := B1.grown t2 B1.size (fun k hk => by cases hk; omega)
  have HR2 := hide R2
  clear R2 HR1 h1 t2 B1
  go_wp2_with fail
  refine (read_any s p _ h2).mono ?_
  rintro e w3 ⟨rfl, b3⟩
  have R3 : w3.heap[w.heap.size]? = some (.cells s.cells 26 (0, 0)) := (b3.block w.heap.size ((Array.getElem?_eq_some_iff.1 (unhide HR2)).1)).trans (unhide HR2)
  have B3 : Below w.heap.size w w3 := B2.trans (b3.mono B2.size)
  have hlt : w.heap.size < w3.heap.size := (Array.getElem?_eq_some_iff.1 R3).1
  obtain ⟨c0, c1, c2, c3, c4, c5, c6, c7, c8, c9, c10, c11, c12, c13, c14, c15, c16, c17, c18, c19, c20, c21⟩ := Boxed.of_row R3
  have HR3 := hide R3
  clear R3 HR2 h2 b3 B2
  clear c1 c2 c3 c4 c5 c6 c7 c8 c9 c10 c11 c12 c13 c14 c15 c16 c17 c18 c19 c20 c21
  go_wp2_with (first
    | (refine wpList_store_row rfl 26 (.tmp 6) (.tmp 14) rfl w3.heap.size s.cells rfl rfl 26 zeroL.cells (heap_alloc_new w3 _) Try.size26 rfl s.one ?_; rw [World.setRow_alloc_new])
    | (refine wpList_load_row rfl 26 (.tmp 6) rfl w3.heap.size rfl 26 s.cells (0, 0) _ (heap_alloc_new w3 _) Try.underlying26 rfl Try.size26 ?_)
    | (refine wpList_load_row rfl 26 (.tmp 2) rfl w.heap.size rfl 26 s.cells (0, 0) _ ((Below.heap_alloc w3 _ _ hlt).trans (unhide HR3)) Try.underlying26 rfl Try.size26 ?_)
    | (go_at_call 15; refine (sameLedger_any s s _ (SameL.refl s)).mono ?_; rintro e w4 ⟨rfl, b4⟩))
  go_ret
  exact ⟨rfl, (B3.alloc (by omega) _).trans (b4.mono (by simp; omega))⟩

/-- What a switch to another mode leaves, as the law asks it. -/
structure Good (s : Led) (m : Int) (g : Led) : Prop where
  mode : g.mode = m
  same : SameL g { s with mode := g.mode, launch := g.launch, surplus := g.surplus, tot := { s.tot with lost := g.tot.lost, chg := g.tot.chg, bal := g.tot.bal, sur := g.tot.sur } }
  std : m = 0 → sameF g.launch s.launch = true ∧ sameF g.tot.lost s.tot.lost = true
  oth : ¬ m = 0 → sameF g.surplus s.surplus = true ∧ sameF g.tot.chg s.tot.chg = true
  bal : AddIs g.launch g.earned g.tot.bal
  sur : sameF g.tot.sur g.surplus = true

theorem switch_diff (s : Led) (p : Nat) (m : Int) (w : World) (h : Has w p s) (hm : ¬ m = s.mode) : Calls Try.prog 13 #[.pointer (some ⟨p, 0, none⟩), I m] w fun e w' =>
    e = .returned (.tuple #[]) ∧ ∃ g, Good s m g ∧ Has w' p g ∧ Turned p w w' := by
  by_cases hz : m = 0
  · subst hz
    refine (switch_std s p w h hm).mono ?_
    rintro e w' ⟨rfl, c, r, hr, h2, t2⟩
    exact ⟨rfl, { s with mode := 0, surplus := 0, tot := { s.tot with chg := c, bal := r, sur := 0 } }, ⟨rfl, SameL.refl _, fun _ => ⟨sameF_self s.launch, sameF_self s.tot.lost⟩, fun h => absurd rfl h, hr, sameF_self 0⟩, h2, t2⟩
  · refine (switch_other s p m w h hm hz).mono ?_
    rintro e w' ⟨rfl, c, r, hr, h2, t2⟩
    exact ⟨rfl, { s with mode := m, launch := 0, tot := { s.tot with lost := c, bal := r, sur := s.surplus } }, ⟨rfl, SameL.refl _, fun h => absurd h hz, fun _ => ⟨sameF_self s.surplus, sameF_self s.tot.chg⟩, hr, sameF_self s.surplus⟩, h2, t2⟩

set_option maxRecDepth 100000 in
set_option maxHeartbeats 3200000 in
theorem walk_diff (s : Led) (m : Int) (w : World) (hm : ¬ m = s.mode) : Calls Try.prog 3 #[.agg s.cells, I m] w fun e w' => e = .returned (.bool true) ∧ Below w.heap.size w w' := by
  go_enter Try.func3, Try.ntmps3
  go_wp2_with (refine wpList_load_row rfl 26 (.tmp 2) rfl w.heap.size rfl 26 s.cells (0, 0) _ (heap_alloc_new w _) Try.underlying26 rfl Try.size26 ?_)
  refine (make_any s _).mono ?_
  rintro e w1 ⟨p, rfl, hp, h1, b1⟩
  have hp' : w.heap.size < p := by simp at hp; omega
  have R1 : w1.heap[w.heap.size]? = some (.cells s.cells 26 (0, 0)) := (b1.block w.heap.size (by simp)).trans (heap_alloc_new w _)
  have B1 : Below w.heap.size w w1 := ((Below.refl _ _).alloc (Nat.le_refl _) _).trans (b1.mono (by simp))
  have HR1 := hide R1
  clear R1 b1 hp
  go_wp2_with fail
  refine (switch_diff s p _ _ h1 hm).mono ?_
  rintro e w2 ⟨rfl, g, hg, h2, t2⟩
  have R2 : w2.heap[w.heap.size]? = some (.cells s.cells 26 (0, 0)) := (t2.block w.heap.size ((Array.getElem?_eq_some_iff.1 (unhide HR1)).1) (by simp; omega)).trans (unhide HR1)
  have B2 : Below w.heap.size w w2 := B1.grown t2 B1.size (fun k hk => by cases hk; omega)
  have HR2 := hide R2
  clear R2 HR1 h1 t2 B1
  go_wp2_with fail
  refine (read_any g p _ h2).mono ?_
  rintro e w3 ⟨rfl, b3⟩
  have R3 : w3.heap[w.heap.size]? = some (.cells s.cells 26 (0, 0)) := (b3.block w.heap.size ((Array.getElem?_eq_some_iff.1 (unhide HR2)).1)).trans (unhide HR2)
  have B3 : Below w.heap.size w w3 := B2.trans (b3.mono B2.size)
  have hlt : w.heap.size < w3.heap.size := (Array.getElem?_eq_some_iff.1 R3).1
  obtain ⟨c0, c1, c2, c3, c4, c5, c6, c7, c8, c9, c10, c11, c12, c13, c14, c15, c16, c17, c18, c19, c20, c21⟩ := Boxed.of_row R3
  have HR3 := hide R3
  clear R3 HR2 h2 b3 B2
  clear c1 c2 c3 c4 c5 c6 c8 c10 c11 c12 c13 c14 c15 c16 c17 c18 c21
  have e0 : (m == s.mode) = false := by rw [beq_eq_false_iff_ne]; exact hm
  have e1 : (g.mode != m) = false := by rw [bne_eq_false_iff_eq]; exact hg.mode
  have e2 : sameF g.tot.sur g.surplus = true := hg.sur
  have e3 : ∀ t, sameF g.tot.bal (fres (FloatKind.f64.format.add g.launch g.earned) t) = true := fun t => sameF_alike (hg.bal.alike (fres_add _ _ t) (Alike.refl _))
  have HS := hide hg.same
  have HSTD := hide hg.std
  have HOTH := hide hg.oth
  clear hg hm
  go_wp2_with (first
    | (refine wpList_store_row rfl 26 (.tmp 6) (.tmp 14) rfl w3.heap.size #[I g.mode, F g.grant, I g.keep, F g.rate, F g.per, F g.full, F g.max, F g.launch, F g.earned, F g.surplus, I g.tot.periods, F g.tot.lc, F g.tot.er, F g.tot.sp, F g.tot.disc, F g.tot.dem, F g.tot.thr, F g.tot.bal, F g.tot.sur, F g.tot.chg, F g.tot.lost, I g.tot.stopped] rfl rfl 26 zeroL.cells (heap_alloc_new w3 _) Try.size26 rfl g.one ?_; rw [World.setRow_alloc_new])
    | (refine wpList_load_row rfl 26 (.tmp 2) rfl w.heap.size rfl 26 #[I s.mode, F s.grant, I s.keep, F s.rate, F s.per, F s.full, F s.max, F s.launch, F s.earned, F s.surplus, I s.tot.periods, F s.tot.lc, F s.tot.er, F s.tot.sp, F s.tot.disc, F s.tot.dem, F s.tot.thr, F s.tot.bal, F s.tot.sur, F s.tot.chg, F s.tot.lost, I s.tot.stopped] (0, 0) _ ((Below.heap_alloc w3 _ _ hlt).trans (unhide HR3)) Try.underlying26 rfl Try.size26 ?_)
    | (refine wpList_store_row rfl 26 (.tmp 7) (.tmp 26) rfl (w3.heap.size + 1) #[I s.mode, F s.grant, I s.keep, F s.rate, F s.per, F s.full, F s.max, F s.launch, F s.earned, F s.surplus, I s.tot.periods, F s.tot.lc, F s.tot.er, F s.tot.sp, F s.tot.disc, F s.tot.dem, F s.tot.thr, F s.tot.bal, F s.tot.sur, F s.tot.chg, F s.tot.lost, I s.tot.stopped] rfl rfl 26 zeroL.cells (heap_alloc2_new w3 _ _) Try.size26 rfl s.one ?_; rw [setRow_alloc_at _ _ _ _ _ (by simp)])
    | (refine wpList_load_row rfl 26 (.tmp 6) rfl w3.heap.size rfl 26 #[I g.mode, F g.grant, I g.keep, F g.rate, F g.per, F g.full, F g.max, F g.launch, F g.earned, F g.surplus, I g.tot.periods, F g.tot.lc, F g.tot.er, F g.tot.sp, F g.tot.disc, F g.tot.dem, F g.tot.thr, F g.tot.bal, F g.tot.sur, F g.tot.chg, F g.tot.lost, I g.tot.stopped] (0, 0) _ (heap_alloc2_old w3 _ _) Try.underlying26 rfl Try.size26 ?_)
    | (refine wpList_load_row rfl 26 (.tmp 7) rfl (w3.heap.size + 1) rfl 26 _ (0, 0) _ (heap_alloc2_new w3 _ _) Try.underlying26 rfl Try.size26 ?_))
  refine (sameLedger_any g _ _ (unhide HS)).mono ?_
  rintro e w4 ⟨rfl, b4⟩
  have R4 : w4.heap[w3.heap.size]? = some (.cells g.cells 26 (0, 0)) := (b4.block w3.heap.size (by simp; omega)).trans (heap_alloc2_old w3 _ _)
  have b34 : Below w3.heap.size w3 w4 := (((Below.refl _ _).alloc (Nat.le_refl _) _).alloc (by simp) _).trans (b4.mono (by simp; omega))
  have B4 : Below w.heap.size w w4 := B3.trans (b34.mono (by omega))
  have c7' := cell_later b34 c7
  have c9' := cell_later b34 c9
  have c19' := cell_later b34 c19
  have c20' := cell_later b34 c20
  obtain ⟨d0, d1, d2, d3, d4, d5, d6, d7, d8, d9, d10, d11, d12, d13, d14, d15, d16, d17, d18, d19, d20, d21⟩ := Boxed.of_row R4
  clear d0 d1 d2 d3 d4 d5 d6 d10 d11 d12 d13 d14 d15 d16 d21 c0 c7 c9 c19 c20 R4 b4 b34 HR3 HS B3 e0 e1
  by_cases hz : m = 0
  · obtain ⟨e4, e5⟩ := (unhide HSTD) hz
    have hz' : (m == 0) = true := by rw [beq_iff_eq]; exact hz
    clear hz HSTD HOTH
    go_wp2_with (go_at_call 16; refine (sameF_any _ _ _).mono ?_; rintro e w' ⟨rfl, rfl⟩)
    go_ret
    exact ⟨by simp, below_drewN B4 _⟩
  · obtain ⟨e4, e5⟩ := (unhide HOTH) hz
    have hz' : (m == 0) = false := by rw [beq_eq_false_iff_ne]; exact hz
    clear hz HSTD HOTH
    go_wp2_with (go_at_call 16; refine (sameF_any _ _ _).mono ?_; rintro e w' ⟨rfl, rfl⟩)
    go_ret
    exact ⟨by simp, below_drewN B4 _⟩

theorem walk (s : Led) (m : Int) (w : World) : Calls Try.prog 3 #[.agg s.cells, I m] w fun e w' => e = .returned (.bool true) ∧ Below w.heap.size w w' := by
  by_cases hm : m = s.mode
  · subst hm
    exact walk_same s w
  · exact walk_diff s m w hm
end switchFrame
end Go.Proofs.Qxb6602162a
