/-
  The walk of FnStartLongStopForgetsBalance (6).
-/
import Derived.Test.Qxb6602162aStart
import Derived.Test.Qxb6602162aSwitchWalk
namespace Go.Proofs.Qxb6602162a.startLong
open Go.RowKit
attribute [local go_sem] run_store_float run_fadd run_fsub

/-- What Start leaves after a long stop: the ledger but for the lost total. -/
structure Long (s : Led) (n : Int) (g : Led) : Prop where
  ex : ∃ lo la lc r, g = { s with launch := la, earned := 0, tot := { s.tot with lc := lc, lost := lo, bal := r, sur := s.surplus, stopped := wrap64 (s.tot.stopped + n) } } ∧ AddIs la 0 r ∧
    (s.mode = 0 → AddIs 0 s.grant la ∧ AddIs s.tot.lc s.grant lc) ∧ (¬ s.mode = 0 → la = 0 ∧ lc = s.tot.lc)

theorem start_long (s : Led) (p : Nat) (n : Int) (w : World) (h : Has w p s) (hk : s.keep < n) : Calls Try.prog 17 #[.pointer (some ⟨p, 0, none⟩), I n] w fun e w' =>
    e = .returned (.tuple #[]) ∧ ∃ g, Long s n g ∧ Has w' p g ∧ Turned p w w' := by
  by_cases hm : s.mode = 0
  · refine (start_long_std s p n w h hk hm).mono ?_
    rintro e w' ⟨rfl, lo, la, lc, r, h3, h4, hr, h2, t2⟩
    exact ⟨rfl, _, ⟨lo, la, lc, r, rfl, hr, fun _ => ⟨h3, h4⟩, fun h => absurd hm h⟩, h2, t2⟩
  · refine (start_long_oth s p n w h hk hm).mono ?_
    rintro e w' ⟨rfl, lo, r, hr, h2, t2⟩
    exact ⟨rfl, _, ⟨lo, 0, s.tot.lc, r, rfl, hr, fun h => absurd h hm, fun _ => ⟨rfl, rfl⟩⟩, h2, t2⟩

/-- Two ledgers that part in the balance held alone: behind a long stop they are the same, but for the lost total. -/
theorem long_same {s a b : Led} {n : Int} {l2 e2 : Nat} (ha : Long s n a) (hb : Long { s with launch := l2, earned := e2 } n b) :
    SameL { a with tot := { a.tot with lost := 0 } } { b with tot := { b.tot with lost := 0 } } := by
  obtain ⟨lo, la, lc, r, rfl, h1, h2, h3⟩ := ha
  obtain ⟨lo', la', lc', r', rfl, h1', h2', h3'⟩ := hb
  have ela : Alike la la' ∧ Alike lc lc' := by
    by_cases hm : s.mode = 0
    · exact ⟨(h2 hm).1.alike (h2' hm).1 (Alike.refl _), (h2 hm).2.alike (h2' hm).2 (Alike.refl _)⟩
    · rw [(h3 hm).1, (h3 hm).2, (h3' hm).1, (h3' hm).2]
      exact ⟨Alike.refl _, Alike.refl _⟩
  exact ⟨rfl, rfl, sameF_self _, sameF_self _, sameF_self _, sameF_self _, sameF_self _, sameF_alike ela.1, sameF_self _, sameF_self _,
    ⟨rfl, rfl, sameF_alike ela.2, sameF_self _, sameF_self _, sameF_self _, sameF_self _, sameF_self _, sameF_alike (h1.alike h1' ela.1), sameF_self _, sameF_self _, sameF_self _⟩⟩

set_option maxRecDepth 100000 in
set_option maxHeartbeats 3200000 in
theorem walk_long (s : Led) (l2 e2 : Nat) (n : Int) (w : World) (hk : s.keep < n) : Calls Try.prog 6 #[.agg s.cells, F l2, F e2, I n] w fun e w' => e = .returned (.bool true) ∧ Below w.heap.size w w' := by
  go_enter Try.func6, Try.ntmps6
  go_wp2_with (first
    | (refine wpList_load_row rfl 26 (.tmp 4) rfl w.heap.size rfl 26 #[I s.mode, F s.grant, I s.keep, F s.rate, F s.per, F s.full, F s.max, F s.launch, F s.earned, F s.surplus, I s.tot.periods, F s.tot.lc, F s.tot.er, F s.tot.sp, F s.tot.disc, F s.tot.dem, F s.tot.thr, F s.tot.bal, F s.tot.sur, F s.tot.chg, F s.tot.lost, I s.tot.stopped] (0, 0) _ (by first | exact heap_alloc_new w _ | exact heap_alloc2_old w _ _) Try.underlying26 rfl Try.size26 ?_)
    | (refine wpList_store_row rfl 26 (.tmp 9) (.tmp 18) rfl (w.heap.size + 1) #[I s.mode, F s.grant, I s.keep, F s.rate, F s.per, F s.full, F s.max, F s.launch, F s.earned, F s.surplus, I s.tot.periods, F s.tot.lc, F s.tot.er, F s.tot.sp, F s.tot.disc, F s.tot.dem, F s.tot.thr, F s.tot.bal, F s.tot.sur, F s.tot.chg, F s.tot.lost, I s.tot.stopped] rfl rfl 26 zeroL.cells (heap_alloc2_new w _ _) Try.size26 rfl s.one ?_; rw [setRow_alloc_at _ _ _ _ _ (by simp)]))
  obtain ⟨t, ht⟩ : ∃ t : Led, t = { s with launch := l2, earned := e2 } := ⟨_, rfl⟩
  have RT0 : ((w.alloc (Obj.cells s.cells 26)).alloc (Obj.cells t.cells 26)).heap[w.heap.size + 1]? = some (.cells t.cells 26 (0, 0)) := heap_alloc2_new w _ _
  have RT0' : ((w.alloc (Obj.cells s.cells 26)).alloc (Obj.cells
        #[I s.mode, F s.grant, I s.keep, F s.rate, F s.per, F s.full, F s.max, Value.float FloatKind.f64 l2,
          Value.float FloatKind.f64 e2, F s.surplus, I s.tot.periods, F s.tot.lc, F s.tot.er, F s.tot.sp, F s.tot.disc,
          F s.tot.dem, F s.tot.thr, F s.tot.bal, F s.tot.sur, F s.tot.chg, F s.tot.lost, I s.tot.stopped]
        26)) = ((w.alloc (Obj.cells s.cells 26)).alloc (Obj.cells t.cells 26)) := by subst ht; rfl
  rw [RT0']
  clear RT0'
  have B0 : Below w.heap.size w ((w.alloc (Obj.cells s.cells 26)).alloc (Obj.cells t.cells 26)) := ((Below.refl _ _).alloc (Nat.le_refl _) _).alloc (by simp) _
  have z0 : ((w.alloc (Obj.cells s.cells 26)).alloc (Obj.cells t.cells 26)).heap.size = w.heap.size + 2 := by simp
  have HT := hide ht
  clear ht
  generalize ((w.alloc (Obj.cells s.cells 26)).alloc (Obj.cells t.cells 26)) = W0 at *
  have HZ := hide z0
  clear z0
  refine (make_any s W0).mono ?_
  rintro e w1 ⟨p, rfl, hp, h1, b1⟩
  have RT1 : w1.heap[w.heap.size + 1]? = some (.cells t.cells 26 (0, 0)) := (b1.block (w.heap.size + 1) (by rw [unhide HZ]; omega)).trans RT0
  have B1 : Below w.heap.size w w1 := B0.trans (b1.mono B0.size)
  have hp0 : w.heap.size ≤ p := Nat.le_trans B0.size hp
  have HRT := hide RT1
  have H1 := hide h1
  clear RT0 RT1 b1 B0 hp h1
  go_wp2_with (refine wpList_load_row rfl 26 (.tmp 9) rfl (w.heap.size + 1) rfl 26 t.cells (0, 0) _ (unhide HRT) Try.underlying26 rfl Try.size26 ?_)
  refine (make_any t _).mono ?_
  rintro e w2 ⟨q, rfl, hq, h2, b2⟩
  have hpq : p < q := Nat.lt_of_lt_of_le (unhide H1).lt hq
  have hq0 : w.heap.size ≤ q := by omega
  have h1' : Has w2 p s := (b2.block p (unhide H1).lt).trans (unhide H1)
  have B2 : Below w.heap.size w w2 := B1.trans (b2.mono B1.size)
  have H2 := hide h2
  clear H1 HRT B1 b2 hq h2
  go_wp2_with fail
  refine (start_long s p n _ h1' hk).mono ?_
  rintro e w3 ⟨rfl, ga, lga, ha, t3⟩
  have hb3 : Has w3 q t := (t3.block q (unhide H2).lt (by simp; omega)).trans (unhide H2)
  have B3 : Below w.heap.size w w3 := B2.grown t3 B2.size (fun k hk => by cases hk; omega)
  have HLA := hide lga
  have HA := hide ha
  clear h1' H2 t3 B2 lga ha
  have hkt : t.keep < n := by rw [unhide HT]; exact hk
  go_wp2_with fail
  refine (start_long t q n _ hb3 hkt).mono ?_
  rintro e w4 ⟨rfl, gb, lgb, hb4, t4⟩
  have ha4 : Has w4 p ga := (t4.block p (unhide HA).lt (by simp; omega)).trans (unhide HA)
  have B4 : Below w.heap.size w w4 := B3.grown t4 B3.size (fun k hk => by cases hk; omega)
  rw [unhide HT] at lgb
  have HSAME := hide (long_same (unhide HLA) lgb)
  have HB := hide hb4
  clear hb3 HA t4 B3 lgb HLA hb4 hkt
  go_wp2_with fail
  refine (read_any ga p _ ha4).mono ?_
  rintro e w5 ⟨rfl, b5⟩
  have hb5 : Has w5 q gb := (b5.block q (unhide HB).lt).trans (unhide HB)
  have B5 : Below w.heap.size w w5 := B4.trans (b5.mono B4.size)
  have HB5 : Hid (∀ o, Has (w5.alloc o) q gb) := fun o => (Below.heap_alloc w5 o q hb5.lt).trans hb5
  clear HB ha4 b5 B4 hb5
  go_wp2_with (refine wpList_store_row rfl 26 (.tmp 12) (.tmp 34) rfl w5.heap.size ga.cells rfl rfl 26 zeroL.cells (heap_alloc_new w5 _) Try.size26 rfl ga.one ?_; rw [World.setRow_alloc_new])
  refine (read_any gb q _ (unhide HB5 _)).mono ?_
  rintro e w6 ⟨rfl, b6⟩
  have RA : w6.heap[w5.heap.size]? = some (.cells ga.cells 26 (0, 0)) := (b6.block w5.heap.size (by simp)).trans (heap_alloc_new w5 _)
  have h56 : w5.heap.size < w6.heap.size := (Array.getElem?_eq_some_iff.1 RA).1
  have ca20 : w6.cell? ⟨w5.heap.size, 20, none⟩ = some (F ga.tot.lost) := cell_of_row w6 _ 20 _ 26 (0, 0) RA
  have fa20 : w6.frozen? ⟨w5.heap.size, 20, none⟩ = false := frozen_of_row w6 _ 20 _ 26 RA
  have B6 : Below w.heap.size w w6 := (B5.alloc B5.size _).trans (b6.mono (by simp; have := B5.size; omega))
  have h5 : w.heap.size ≤ w5.heap.size := B5.size
  have zs : (w6.setCell ⟨w5.heap.size, 20, none⟩ (F 0)).heap.size = w6.heap.size := by simp [World.setCell]
  have RS : Hid (∀ o, ((w6.setCell ⟨w5.heap.size, 20, none⟩ (F 0)).alloc o).heap[w5.heap.size]? = some (.cells { ga with tot := { ga.tot with lost := 0 } }.cells 26 (0, 0))) := fun o =>
    (Below.heap_alloc _ o _ (by rw [zs]; exact h56)).trans (heap_setCell_same w6 w5.heap.size 20 ga.cells 26 (F 0) RA)
  have RS2 : Hid (∀ o, ((w6.setCell ⟨w5.heap.size, 20, none⟩ (F 0)).alloc o).heap[w6.heap.size]? = some o) := fun o => by
    have := heap_alloc_new (w6.setCell ⟨w5.heap.size, 20, none⟩ (F 0)) o
    rwa [zs] at this
  have BF : Hid (∀ o w7, Below ((w6.setCell ⟨w5.heap.size, 20, none⟩ (F 0)).alloc o).heap.size ((w6.setCell ⟨w5.heap.size, 20, none⟩ (F 0)).alloc o) w7 → Below w.heap.size w w7) := fun o w7 b7 =>
    ((B6.setCell (p := ⟨w5.heap.size, 20, none⟩) h5 (F 0)).alloc (by rw [zs]; exact B6.size) o).trans (b7.mono (by simp [zs]; have := B6.size; omega))
  clear zs
  clear RA b6 B5 HB5
  go_wp2_with (first
    | (refine wpList_store_row rfl 26 (.tmp 13) (.tmp 36) rfl w6.heap.size #[I gb.mode, F gb.grant, I gb.keep, F gb.rate, F gb.per, F gb.full, F gb.max, F gb.launch, F gb.earned, F gb.surplus, I gb.tot.periods, F gb.tot.lc, F gb.tot.er, F gb.tot.sp, F gb.tot.disc, F gb.tot.dem, F gb.tot.thr, F gb.tot.bal, F gb.tot.sur, F gb.tot.chg, F gb.tot.lost, I gb.tot.stopped] rfl rfl 26 zeroL.cells (heap_alloc_new w6 _) Try.size26 rfl gb.one ?_; rw [World.setRow_alloc_new])
    | (refine wpList_load_row rfl 26 (.tmp 12) rfl w5.heap.size rfl 26 (Led.cells { ga with tot := { ga.tot with lost := 0 } }) (0, 0) _ (unhide RS _) Try.underlying26 rfl Try.size26 ?_)
    | (refine wpList_load_row rfl 26 (.tmp 13) rfl w6.heap.size rfl 26 _ (0, 0) _ (unhide RS2 _) Try.underlying26 rfl Try.size26 ?_))
  refine (sameLedger_any _ _ _ (unhide HSAME)).mono ?_
  rintro e w7 ⟨rfl, b7⟩
  go_wp2
  go_ret
  exact ⟨rfl, unhide BF _ _ b7⟩

theorem walk (s : Led) (l2 e2 : Nat) (n : Int) (w : World) : Calls Try.prog 6 #[.agg s.cells, F l2, F e2, I n] w fun e w' => e = .returned (.bool true) ∧ Below w.heap.size w w' := by
  by_cases hk : s.keep < n
  · exact walk_long s l2 e2 n w hk
  · go_enter Try.func6, Try.ntmps6
    go_wp2
    go_ret
    exact ⟨rfl, (Below.refl _ _).alloc (Nat.le_refl _) _⟩
end Go.Proofs.Qxb6602162a.startLong
