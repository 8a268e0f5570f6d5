/-
  The walk of FnStartFrame (5).
-/
import Derived.Test.Qxb6602162aStart
import Derived.Test.Qxb6602162aSwitchWalk
namespace Go.Proofs.Qxb6602162a.startFrame
open Go.RowKit
attribute [local go_sem] run_store_float run_fadd run_fsub

/-- What Start leaves, as the law asks it. -/
structure Good (s : Led) (n : Int) (g : Led) : Prop where
  stopped : g.tot.stopped = wrap64 (s.tot.stopped + n)
  same : SameL g { s with launch := g.launch, earned := g.earned, tot := { s.tot with stopped := g.tot.stopped, lost := g.tot.lost, lc := g.tot.lc, bal := g.tot.bal, sur := g.tot.sur } }
  bal : AddIs g.launch g.earned g.tot.bal
  sur : sameF g.tot.sur g.surplus = true
  kept : n ≤ s.keep → sameF g.earned s.earned = true ∧ sameF g.tot.lost s.tot.lost = true
  other : ¬ s.mode = 0 → sameF g.tot.lc s.tot.lc = true
  both : ¬ s.mode = 0 → n ≤ s.keep → sameF g.launch s.launch = true

theorem start_any (s : Led) (p : Nat) (n : Int) (w : World) (h : Has w p s) : Calls Try.prog 17 #[.pointer (some ⟨p, 0, none⟩), I n] w fun e w' =>
    e = .returned (.tuple #[]) ∧ ∃ g, Good s n g ∧ Has w' p g ∧ Turned p w w' := by
  by_cases hk : s.keep < n
  · by_cases hm : s.mode = 0
    · refine (start_long_std s p n w h hk hm).mono ?_
      rintro e w' ⟨rfl, lo, la, lc, r, _, _, hr, h2, t2⟩
      exact ⟨rfl, { s with launch := la, earned := 0, tot := { s.tot with lc := lc, lost := lo, bal := r, sur := s.surplus, stopped := wrap64 (s.tot.stopped + n) } }, ⟨rfl, SameL.refl _, hr, sameF_self s.surplus, fun h => absurd hk (by omega), fun h => absurd hm h, fun h => absurd hm h⟩, h2, t2⟩
    · refine (start_long_oth s p n w h hk hm).mono ?_
      rintro e w' ⟨rfl, lo, r, hr, h2, t2⟩
      exact ⟨rfl, { s with launch := 0, earned := 0, tot := { s.tot with lost := lo, bal := r, sur := s.surplus, stopped := wrap64 (s.tot.stopped + n) } }, ⟨rfl, SameL.refl _, hr, sameF_self s.surplus, fun h => absurd hk (by omega), fun _ => sameF_self s.tot.lc, fun _ h => absurd hk (by omega)⟩, h2, t2⟩
  · by_cases hm : s.mode = 0
    · refine (start_kept_std s p n w h hk hm).mono ?_
      rintro e w' ⟨rfl, la, lc, r, _, _, hr, h2, t2⟩
      exact ⟨rfl, { s with launch := la, tot := { s.tot with lc := lc, bal := r, sur := s.surplus, stopped := wrap64 (s.tot.stopped + n) } }, ⟨rfl, SameL.refl _, hr, sameF_self s.surplus, fun _ => ⟨sameF_self s.earned, sameF_self s.tot.lost⟩, fun h => absurd hm h, fun h => absurd hm h⟩, h2, t2⟩
    · refine (start_kept_oth s p n w h hk hm).mono ?_
      rintro e w' ⟨rfl, r, hr, h2, t2⟩
      exact ⟨rfl, { s with tot := { s.tot with bal := r, sur := s.surplus, stopped := wrap64 (s.tot.stopped + n) } }, ⟨rfl, SameL.refl _, hr, sameF_self s.surplus, fun _ => ⟨sameF_self s.earned, sameF_self s.tot.lost⟩, fun _ => sameF_self s.tot.lc, fun _ _ => sameF_self s.launch⟩, h2, t2⟩

theorem wrap_back (a n : Int) (h1 : -9223372036854775808 ≤ a) (h2 : a ≤ 9223372036854775807) : wrap64 (wrap64 (a + n) - n) = a := by
  have e : ∀ x : Int, wrap64 x = (x + 9223372036854775808) % 18446744073709551616 - 9223372036854775808 := fun x => by
    simp [wrap64]
  rw [e, e]
  omega

set_option maxRecDepth 100000 in
set_option maxHeartbeats 3200000 in
theorem walk (s : Led) (n : Int) (w : World) (hs : -9223372036854775808 ≤ s.tot.stopped ∧ s.tot.stopped ≤ 9223372036854775807) : Calls Try.prog 5 #[.agg s.cells, I n] w fun e w' => e = .returned (.bool true) ∧ Below w.heap.size w w' := by
  have HST := hide hs
  clear hs
  go_enter Try.func5, Try.ntmps5
  go_wp2_with (refine wpList_load_row rfl 26 (.tmp 2) rfl w.heap.size rfl 26 s.cells (0, 0) _ (heap_alloc_new w _) Try.underlying26 rfl Try.size26 ?_)
  refine (make_any s _).mono ?_
  rintro e w1 ⟨p, rfl, hp, h1, b1⟩
  have hp' : w.heap.size < p := by simp at hp; omega
  have R1 : w1.heap[w.heap.size]? = some (.cells s.cells 26 (0, 0)) := (b1.block w.heap.size (by simp)).trans (heap_alloc_new w _)
  have B1 : Below w.heap.size w w1 := ((Below.refl _ _).alloc (Nat.le_refl _) _).trans (b1.mono (by simp))
  have HR1 := hide R1
  clear R1 b1 hp
  go_wp2_with fail
  refine (start_any s p _ _ h1).mono ?_
  rintro e w2 ⟨rfl, g, hg, h2, t2⟩
  have R2 : w2.heap[w.heap.size]? = some (.cells s.cells 26 (0, 0)) := (t2.block w.heap.size ((Array.getElem?_eq_some_iff.1 (unhide HR1)).1) (by simp; omega)).trans (unhide HR1)
  have B2 : Below w.heap.size w w2 := B1.grown t2 B1.size (fun k hk => by cases hk; omega)
  have HR2 := hide R2
  clear R2 HR1 h1 t2 B1
  go_wp2_with fail
  refine (read_any g p _ h2).mono ?_
  rintro e w3 ⟨rfl, b3⟩
  have R3 : w3.heap[w.heap.size]? = some (.cells s.cells 26 (0, 0)) := (b3.block w.heap.size ((Array.getElem?_eq_some_iff.1 (unhide HR2)).1)).trans (unhide HR2)
  have B3 : Below w.heap.size w w3 := B2.trans (b3.mono B2.size)
  have hlt : w.heap.size < w3.heap.size := (Array.getElem?_eq_some_iff.1 R3).1
  obtain ⟨c0, c1, c2, c3, c4, c5, c6, c7, c8, c9, c10, c11, c12, c13, c14, c15, c16, c17, c18, c19, c20, c21⟩ := Boxed.of_row R3
  have HR3 := hide R3
  clear R3 HR2 h2 b3 B2
  clear c1 c3 c4 c5 c6 c9 c10 c12 c13 c14 c15 c16 c17 c18 c19
  have e1 : (wrap64 (g.tot.stopped - n) != s.tot.stopped) = false := by rw [bne_eq_false_iff_eq, hg.stopped]; exact wrap_back _ _ (unhide HST).1 (unhide HST).2
  have e2 : sameF g.tot.sur g.surplus = true := hg.sur
  have e3 : ∀ t, sameF g.tot.bal (fres (FloatKind.f64.format.add g.launch g.earned) t) = true := fun t => sameF_alike (hg.bal.alike (fres_add _ _ t) (Alike.refl _))
  have HS := hide hg.same
  have HK := hide hg.kept
  have HO := hide hg.other
  have HB := hide hg.both
  clear hg HST
  go_wp2_with (first
    | (refine wpList_store_row rfl 26 (.tmp 6) (.tmp 14) rfl w3.heap.size #[I g.mode, F g.grant, I g.keep, F g.rate, F g.per, F g.full, F g.max, F g.launch, F g.earned, F g.surplus, I g.tot.periods, F g.tot.lc, F g.tot.er, F g.tot.sp, F g.tot.disc, F g.tot.dem, F g.tot.thr, F g.tot.bal, F g.tot.sur, F g.tot.chg, F g.tot.lost, I g.tot.stopped] rfl rfl 26 zeroL.cells (heap_alloc_new w3 _) Try.size26 rfl g.one ?_; rw [World.setRow_alloc_new])
    | (refine wpList_load_row rfl 26 (.tmp 2) rfl w.heap.size rfl 26 #[I s.mode, F s.grant, I s.keep, F s.rate, F s.per, F s.full, F s.max, F s.launch, F s.earned, F s.surplus, I s.tot.periods, F s.tot.lc, F s.tot.er, F s.tot.sp, F s.tot.disc, F s.tot.dem, F s.tot.thr, F s.tot.bal, F s.tot.sur, F s.tot.chg, F s.tot.lost, I s.tot.stopped] (0, 0) _ ((Below.heap_alloc w3 _ _ hlt).trans (unhide HR3)) Try.underlying26 rfl Try.size26 ?_)
    | (refine wpList_store_row rfl 26 (.tmp 7) (.tmp 24) rfl (w3.heap.size + 1) #[I s.mode, F s.grant, I s.keep, F s.rate, F s.per, F s.full, F s.max, F s.launch, F s.earned, F s.surplus, I s.tot.periods, F s.tot.lc, F s.tot.er, F s.tot.sp, F s.tot.disc, F s.tot.dem, F s.tot.thr, F s.tot.bal, F s.tot.sur, F s.tot.chg, F s.tot.lost, I s.tot.stopped] rfl rfl 26 zeroL.cells (heap_alloc2_new w3 _ _) Try.size26 rfl s.one ?_; rw [setRow_alloc_at _ _ _ _ _ (by simp)])
    | (refine wpList_load_row rfl 26 (.tmp 6) rfl w3.heap.size rfl 26 #[I g.mode, F g.grant, I g.keep, F g.rate, F g.per, F g.full, F g.max, F g.launch, F g.earned, F g.surplus, I g.tot.periods, F g.tot.lc, F g.tot.er, F g.tot.sp, F g.tot.disc, F g.tot.dem, F g.tot.thr, F g.tot.bal, F g.tot.sur, F g.tot.chg, F g.tot.lost, I g.tot.stopped] (0, 0) _ (heap_alloc2_old w3 _ _) Try.underlying26 rfl Try.size26 ?_)
    | (refine wpList_load_row rfl 26 (.tmp 7) rfl (w3.heap.size + 1) rfl 26 _ (0, 0) _ (heap_alloc2_new w3 _ _) Try.underlying26 rfl Try.size26 ?_))
  refine (sameLedger_any g _ _ (unhide HS)).mono ?_
  rintro e w4 ⟨rfl, b4⟩
  have R4 : w4.heap[w3.heap.size]? = some (.cells g.cells 26 (0, 0)) := (b4.block w3.heap.size (by simp; omega)).trans (heap_alloc2_old w3 _ _)
  have b34 : Below w3.heap.size w3 w4 := (((Below.refl _ _).alloc (Nat.le_refl _) _).alloc (by simp) _).trans (b4.mono (by simp; omega))
  have B4 : Below w.heap.size w w4 := B3.trans (b34.mono (by omega))
  have c0' := cell_later b34 c0
  have c2' := cell_later b34 c2
  have c7' := cell_later b34 c7
  have c8' := cell_later b34 c8
  have c11' := cell_later b34 c11
  have c20' := cell_later b34 c20
  obtain ⟨d0, d1, d2, d3, d4, d5, d6, d7, d8, d9, d10, d11, d12, d13, d14, d15, d16, d17, d18, d19, d20, d21⟩ := Boxed.of_row R4
  clear d0 d1 d2 d3 d4 d5 d6 d10 d12 d13 d14 d15 d16 d19 d21 c0 c2 c7 c8 c11 c20 c21 R4 b4 b34 HR3 HS B3 e1
  by_cases hk : n ≤ s.keep
  · obtain ⟨e4, e5⟩ := (unhide HK) hk
    by_cases hm : s.mode = 0
    · have hm' : (s.mode != 0) = false := by rw [bne_eq_false_iff_eq]; exact hm
      clear hm HK HO HB
      go_wp2_with (go_at_call 16; refine (sameF_any _ _ _).mono ?_; rintro e w' ⟨rfl, rfl⟩)
      go_ret
      exact ⟨by simp, below_drewN B4 _⟩
    · have hm' : (s.mode != 0) = true := by rw [bne_iff_ne]; exact hm
      have e6 := (unhide HO) hm
      have e7 := (unhide HB) hm hk
      clear hm HK HO HB
      go_wp2_with (go_at_call 16; refine (sameF_any _ _ _).mono ?_; rintro e w' ⟨rfl, rfl⟩)
      go_ret
      exact ⟨by simp, below_drewN B4 _⟩
  · by_cases hm : s.mode = 0
    · have hm' : (s.mode != 0) = false := by rw [bne_eq_false_iff_eq]; exact hm
      clear hm HK HO HB
      go_wp2_with (go_at_call 16; refine (sameF_any _ _ _).mono ?_; rintro e w' ⟨rfl, rfl⟩)
      go_ret
      exact ⟨by simp, below_drewN B4 _⟩
    · have hm' : (s.mode != 0) = true := by rw [bne_iff_ne]; exact hm
      have e6 := (unhide HO) hm
      clear hm HK HO HB
      go_wp2_with (go_at_call 16; refine (sameF_any _ _ _).mono ?_; rintro e w' ⟨rfl, rfl⟩)
      go_ret
      exact ⟨by simp, below_drewN B4 _⟩
end Go.Proofs.Qxb6602162a.startFrame
