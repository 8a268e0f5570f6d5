/-
  The walks of replayUnlimited (29) and ZZReplayUnlimited (19).
-/
import Derived.Test.Qxb6602162aAccrue
import Derived.Deep.RegionHeld3
namespace Go.Proofs.Qxb6602162a
open Go.RowKit

/-! ### Rules for min, max and the sign. -/
def fminv (x y t : Nat) : Nat := match FloatKind.f64.format.order x y with
  | none => (t % 2) * 2 ^ 63 + 0x7ff0000000000000 + 1 + (t / 2) % (2 ^ 52 - 1)
  | some .lt => x
  | some .gt => y
  | some .eq => if (FloatKind.f64.decode x).neg then x else y
def fmaxv (x y t : Nat) : Nat := match FloatKind.f64.format.order x y with
  | none => (t % 2) * 2 ^ 63 + 0x7ff0000000000000 + 1 + (t / 2) % (2 ^ 52 - 1)
  | some .lt => y
  | some .gt => x
  | some .eq => if (FloatKind.f64.decode x).neg then y else x
def fcd (x y : Nat) : Nat := match FloatKind.f64.format.order x y with | none => 1 | some _ => 0
theorem run_fmin {P : Program} (w : World) (ts : Array TypeId) (t : TypeId) (x y : Nat) : (Builtin.min_ ts t #[.float .f64 x, .float .f64 y]).run P w =
    .ok (.float .f64 (fminv x y (w.tape w.drawn (.nanMinMax .f64 false x y)))) (w.drewN (fcd x y)) := by
  unfold fminv fcd
  cases h : FloatKind.f64.format.order x y with
  | none => simp [Builtin.min_, Builtin.min2, h, Question.forced, Question.cut]; rfl
  | some o => cases o <;> simp [Builtin.min_, Builtin.min2, h, World.drewN]
theorem run_fmax {P : Program} (w : World) (ts : Array TypeId) (t : TypeId) (x y : Nat) : (Builtin.max_ ts t #[.float .f64 x, .float .f64 y]).run P w =
    .ok (.float .f64 (fmaxv x y (w.tape w.drawn (.nanMinMax .f64 true x y)))) (w.drewN (fcd x y)) := by
  unfold fmaxv fcd
  cases h : FloatKind.f64.format.order x y with
  | none => simp [Builtin.max_, Builtin.max2, h, Question.forced, Question.cut]; rfl
  | some o => cases o <;> simp [Builtin.max_, Builtin.max2, h, World.drewN]
theorem run_fneg {P : Program} (w : World) (b : Nat) : (Op.unary .neg (.float .f64 b)).run P w = .ok (.float .f64 (Op.negFloat .f64 b)) w := rfl
attribute [local go_sem] run_store_float run_fadd run_fsub run_fmin run_fmax run_fneg

/-- The period's six cells in block b. -/
def HasP (w : World) (b : Nat) (cs : Array Value) : Prop := w.heap[b]? = some (.cells cs 40 (0, 0))
abbrev perCells (a b c d e f : Nat) : Array Value := #[F a, F b, F c, F d, F e, F f]

theorem HasP.cell {w : World} {b : Nat} {cs : Array Value} (h : HasP w b cs) (j : Nat) : w.cell? ⟨b, j, none⟩ = cs[j]? := cell_of_row w b j cs 40 (0, 0) h
theorem HasP.free {w : World} {b : Nat} {cs : Array Value} (h : HasP w b cs) (j : Nat) : w.frozen? ⟨b, j, none⟩ = false := frozen_of_row w b j cs 40 h
theorem HasP.set {w : World} {b : Nat} {cs : Array Value} (h : HasP w b cs) (i : Nat) (v : Value) : HasP (w.setCell ⟨b, i, none⟩ v) b (cs.setIfInBounds i v) := heap_setCell_same w b i cs 40 v h
theorem HasP.drewN {w : World} {b : Nat} {cs : Array Value} (h : HasP w b cs) (n : Nat) : HasP (w.drewN n) b cs := h
theorem HasP.drew {w : World} {b : Nat} {cs : Array Value} (h : HasP w b cs) : HasP w.drew b cs := h
theorem HasP.far {w : World} {b p : Nat} {cs : Array Value} (h : HasP w b cs) (hne : p ≠ b) (i : Nat) (v : Value) : HasP (w.setCell ⟨p, i, none⟩ v) b cs := (Below.heap_setCell w ⟨p, i, none⟩ v b (fun e => hne e.symm)).trans h
theorem Has.far {w : World} {b p : Nat} {l : Led} (h : Has w p l) (hne : p ≠ b) (i : Nat) (v : Value) : Has (w.setCell ⟨b, i, none⟩ v) p l := (Below.heap_setCell w ⟨b, i, none⟩ v p hne).trans h

/-- Nothing has turned but blocks p and b. -/
structure Turned2 (p b : Nat) (w w' : World) : Prop where
  os : w'.os = w.os
  tape : w'.tape = w.tape
  output : w'.output = w.output
  size : w.heap.size ≤ w'.heap.size
  block : ∀ k, k < w.heap.size → k ≠ p → k ≠ b → w'.heap[k]? = w.heap[k]?
theorem Turned2.refl (p b : Nat) (w : World) : Turned2 p b w w := ⟨rfl, rfl, rfl, Nat.le_refl _, fun _ _ _ _ => rfl⟩
theorem Turned2.drewN {p b : Nat} {w w' : World} (h : Turned2 p b w w') (n : Nat) : Turned2 p b w (w'.drewN n) := ⟨h.os, h.tape, h.output, h.size, h.block⟩
theorem Turned2.drew {p b : Nat} {w w' : World} (h : Turned2 p b w w') : Turned2 p b w w'.drew := ⟨h.os, h.tape, h.output, h.size, h.block⟩
theorem Turned2.setp {p b : Nat} {w w' : World} (h : Turned2 p b w w') (i : Nat) (v : Value) : Turned2 p b w (w'.setCell ⟨p, i, none⟩ v) :=
  ⟨h.os, h.tape, h.output, by simpa [World.setCell] using h.size, fun k hk h1 h2 => (Below.heap_setCell w' ⟨p, i, none⟩ v k h1).trans (h.block k hk h1 h2)⟩
theorem Turned2.setb {p b : Nat} {w w' : World} (h : Turned2 p b w w') (i : Nat) (v : Value) : Turned2 p b w (w'.setCell ⟨b, i, none⟩ v) :=
  ⟨h.os, h.tape, h.output, by simpa [World.setCell] using h.size, fun k hk h1 h2 => (Below.heap_setCell w' ⟨b, i, none⟩ v k h2).trans (h.block k hk h1 h2)⟩
theorem Turned2.turned {p b : Nat} {w w' w'' : World} (h : Turned2 p b w w') (t : Turned p w' w'') : Turned2 p b w w'' :=
  ⟨t.os.trans h.os, t.tape.trans h.tape, t.output.trans h.output, Nat.le_trans h.size t.size, fun k hk h1 h2 => (t.block k (Nat.lt_of_lt_of_le hk h.size) (by simpa using h1)).trans (h.block k hk h1 h2)⟩

/-- Behind the store of the whole period. -/
theorem period_written {p b v a e s ch : Nat} {g : Led} {w W : World} (hne : p ≠ b) (h : Has W p g) (hP : HasP W b (perCells 0 0 0 0 0 0)) (t : Turned2 p b w W) :
    Has ((((((W.setCell ⟨b, 0, none⟩ (F v)).setCell ⟨b, 1, none⟩ (F a)).setCell ⟨b, 2, none⟩ (F e)).setCell ⟨b, 3, none⟩ (F s)).setCell ⟨b, 4, none⟩ (F ch)).setCell ⟨b, 5, none⟩ (F 0)).drew p g ∧
    HasP ((((((W.setCell ⟨b, 0, none⟩ (F v)).setCell ⟨b, 1, none⟩ (F a)).setCell ⟨b, 2, none⟩ (F e)).setCell ⟨b, 3, none⟩ (F s)).setCell ⟨b, 4, none⟩ (F ch)).setCell ⟨b, 5, none⟩ (F 0)).drew b (perCells v a e s ch 0) ∧
    Turned2 p b w ((((((W.setCell ⟨b, 0, none⟩ (F v)).setCell ⟨b, 1, none⟩ (F a)).setCell ⟨b, 2, none⟩ (F e)).setCell ⟨b, 3, none⟩ (F s)).setCell ⟨b, 4, none⟩ (F ch)).setCell ⟨b, 5, none⟩ (F 0)).drew := by
  refine ⟨?_, ?_, ?_⟩
  · exact ((((((h.far hne 0 (F v)).far hne 1 (F a)).far hne 2 (F e)).far hne 3 (F s)).far hne 4 (F ch)).far hne 5 (F 0)).drew
  · exact ((((((hP.set 0 (F v)).set 1 (F a)).set 2 (F e)).set 3 (F s)).set 4 (F ch)).set 5 (F 0)).drew
  · exact ((((((t.setb 0 (F v)).setb 1 (F a)).setb 2 (F e)).setb 3 (F s)).setb 4 (F ch)).setb 5 (F 0)).drew

/-- What an unlimited period leaves, and what it charges. -/
def Rep (l : Led) (net : Nat) (g : Led) (ch : Nat) : Prop :=
  (FloatKind.f64.format.order net 0 = some .gt ∧ ch = 0 ∧ Accrued { l with earned := 0, surplus := 0 } net g) ∨
  (FloatKind.f64.format.order net 0 = some .lt ∧ ∃ c t1 t2, SubIs (Op.negFloat .f64 net) l.max c ∧ ch = fmaxv c 0 t2 ∧ g = { l with earned := 0, surplus := fminv (Op.negFloat .f64 net) l.max t1 }) ∨
  (ch = 0 ∧ g = { l with earned := 0, surplus := 0 })

set_option maxRecDepth 100000 in
set_option maxHeartbeats 1600000 in
theorem replay_any (l : Led) (p b v a : Nat) (w : World) (h : Has w p l) (hP : HasP w b (perCells 0 0 0 0 0 0)) (hne : p ≠ b) : Calls Try.prog 29 #[.pointer (some ⟨p, 0, none⟩), .pointer (some ⟨b, 0, none⟩), F v, F a] w fun e w' =>
    e = .returned (.tuple #[]) ∧ ∃ net g ch, Rep l net g ch ∧ Has w' p g ∧ HasP w' b (perCells v a g.earned g.surplus ch 0) ∧ Turned2 p b w w' := by
  obtain ⟨c0, c1, c2, c3, c4, c5, c6, c7, c8, c9, c10, c11, c12, c13, c14, c15, c16, c17, c18, c19, c20, c21⟩ := h.boxed
  clear c0 c1 c2 c3 c5 c7 c10 c11 c12 c13 c14 c15 c16 c17 c18 c19 c20 c21
  have H := hide h
  have HPP := hide hP
  clear h hP
  have hne' : ¬ b = p := fun e => hne e.symm
  go_enter Try.func29, Try.ntmps29
  go_wp2
  go_region
  generalize fres (FloatKind.f64.format.sub l.earned l.surplus) (w.tape (w.drawn + 1) (.nanBits .f64 l.earned l.surplus)) = n1
  generalize fres (FloatKind.f64.format.add n1 l.per) (w.tape (w.drewN (1 + fdr (FloatKind.f64.format.sub l.earned l.surplus))).drawn (.nanBits .f64 n1 l.per)) = n2
  generalize fres (FloatKind.f64.format.sub n2 a) (w.tape (w.drewN (1 + fdr (FloatKind.f64.format.sub l.earned l.surplus) + fdr (FloatKind.f64.format.add n1 l.per))).drawn (.nanBits .f64 n2 a)) = net
  generalize 1 + fdr (FloatKind.f64.format.sub l.earned l.surplus) + fdr (FloatKind.f64.format.add n1 l.per) + fdr (FloatKind.f64.format.sub n2 a) = k
  have H0 : Has (w.drewN k) p l := (unhide H).drewN k
  have P0 : HasP (w.drewN k) b (perCells 0 0 0 0 0 0) := (unhide HPP).drewN k
  have T0 : Turned2 p b w (w.drewN k) := (Turned2.refl p b w).drewN k
  clear c4 c6 c8 c9 H HPP
  generalize w.drewN k = W0 at H0 P0 T0 ⊢
  obtain ⟨d0, d1, d2, d3, d4, d5, d6, d7, d8, d9, d10, d11, d12, d13, d14, d15, d16, d17, d18, d19, d20, d21⟩ := H0.boxed
  have f8 := H0.free 8
  have f9 := H0.free 9
  clear d0 d1 d2 d3 d4 d5 d7 d10 d11 d12 d13 d14 d15 d16 d17 d18 d19 d20 d21
  have HH := hide H0
  have HP := hide P0
  clear H0 P0
  by_cases hg : FloatKind.f64.format.order net 0 = some .gt
  · have hb : (FloatKind.f64.format.order net 0 == some .gt) = true := by rw [hg]; rfl
    have HG := hide hg
    clear hg
    go_wp2_with fail
    refine (accrue_any _ p net _ (((unhide HH).set 8 (F 0) (l' := { l with earned := 0 }) rfl).set 9 (F 0) (l' := { l with earned := 0, surplus := 0 }) rfl)).mono ?_
    rintro e W ⟨rfl, g, hacc, h2, t2⟩
    have H1 := hide h2
    have P1 : Hid (HasP W b (perCells 0 0 0 0 0 0)) := (t2.block b ((Array.getElem?_eq_some_iff.1 (((unhide HP).far hne 8 (F 0)).far hne 9 (F 0))).1) (by simpa using hne')).trans (((unhide HP).far hne 8 (F 0)).far hne 9 (F 0))
    have T1 := ((T0.setp 8 (F 0)).setp 9 (F 0)).turned t2
    have HACC := hide hacc
    clear HH HP T0 d6 d8 d9 f8 f9 hb h2 t2 hacc
    go_wp2
    obtain ⟨x0, x1, x2, x3, x4, x5, x6, x7, x8, x9, x10, x11, x12, x13, x14, x15, x16, x17, x18, x19, x20, x21⟩ := (unhide H1).boxed
    clear x0 x1 x2 x3 x4 x5 x6 x7 x10 x11 x12 x13 x14 x15 x16 x17 x18 x19 x20 x21
    have q0 := (unhide P1).cell 0
    have q1 := (unhide P1).cell 1
    have q2 := (unhide P1).cell 2
    have q3 := (unhide P1).cell 3
    have q4 := (unhide P1).cell 4
    have q5 := (unhide P1).cell 5
    have g0 := (unhide P1).free 0
    have g1 := (unhide P1).free 1
    have g2 := (unhide P1).free 2
    have g3 := (unhide P1).free 3
    have g4 := (unhide P1).free 4
    have g5 := (unhide P1).free 5
    go_region_held3 (fun w' => w'.cell? ⟨p, 8, none⟩ = some (F g.earned) ∧ w'.cell? ⟨p, 9, none⟩ = some (F g.surplus)) (go_keep) (fail)
    go_end0
    exact ⟨rfl, net, g, 0, .inl ⟨unhide HG, rfl, unhide HACC⟩, period_written hne (unhide H1) (unhide P1) T1⟩
  · have hb : (FloatKind.f64.format.order net 0 == some .gt) = false := by rw [beq_eq_false_iff_ne]; exact hg
    clear hg
    by_cases hl : FloatKind.f64.format.order net 0 = some .lt
    · have hb2 : (FloatKind.f64.format.order net 0 == some .lt) = true := by rw [hl]; rfl
      have HL := hide hl
      clear hl
      go_wp2
      generalize W0.tape W0.drawn (.nanMinMax .f64 false (Op.negFloat .f64 net) l.max) = t1
      have C := fres_sub (Op.negFloat .f64 net) l.max (W0.tape (((W0.setCell ⟨p, 8, none⟩ (.float .f64 0)).setCell ⟨p, 9, none⟩ (.float .f64 0)).drewN (fcd (Op.negFloat .f64 net) l.max)).drawn (.nanBits .f64 (Op.negFloat .f64 net) l.max))
      generalize fres (FloatKind.f64.format.sub (Op.negFloat .f64 net) l.max) (W0.tape (((W0.setCell ⟨p, 8, none⟩ (.float .f64 0)).setCell ⟨p, 9, none⟩ (.float .f64 0)).drewN (fcd (Op.negFloat .f64 net) l.max)).drawn (.nanBits .f64 (Op.negFloat .f64 net) l.max)) = c at C ⊢
      generalize W0.tape (((((W0.setCell ⟨p, 8, none⟩ (.float .f64 0)).setCell ⟨p, 9, none⟩ (.float .f64 0)).drewN (fcd (Op.negFloat .f64 net) l.max)).setCell ⟨p, 9, none⟩ (.float .f64 (fminv (Op.negFloat .f64 net) l.max t1))).drewN (fdr (FloatKind.f64.format.sub (Op.negFloat .f64 net) l.max))).drawn (.nanMinMax .f64 true c 0) = t2
      generalize fcd (Op.negFloat .f64 net) l.max = k1
      generalize fdr (FloatKind.f64.format.sub (Op.negFloat .f64 net) l.max) + fcd c 0 = k2
      generalize hfm : fminv (Op.negFloat .f64 net) l.max t1 = fm
      generalize hch : fmaxv c 0 t2 = ch
      have HC := hide C
      have HFM := hide hfm
      have HCH := hide hch
      clear C hfm hch hb hb2
      have H1 := hide (((((((unhide HH).set 8 (F 0) (l' := { l with earned := 0 }) rfl).set 9 (F 0) (l' := { l with earned := 0, surplus := 0 }) rfl).drewN k1).set 9 (F fm) (l' := { l with earned := 0, surplus := fm }) rfl)).drewN k2)
      have P1 := hide (((((unhide HP).far hne 8 (F 0)).far hne 9 (F 0)).drewN k1).far hne 9 (F fm) |>.drewN k2)
      have T1 := ((((T0.setp 8 (F 0)).setp 9 (F 0)).drewN k1).setp 9 (F fm)).drewN k2
      clear HH HP T0 d6 d8 d9 f8 f9
      generalize ((((W0.setCell ⟨p, 8, none⟩ (F 0)).setCell ⟨p, 9, none⟩ (F 0)).drewN k1).setCell ⟨p, 9, none⟩ (F fm)).drewN k2 = W at H1 P1 T1 ⊢
      obtain ⟨x0, x1, x2, x3, x4, x5, x6, x7, x8, x9, x10, x11, x12, x13, x14, x15, x16, x17, x18, x19, x20, x21⟩ := (unhide H1).boxed
      clear x0 x1 x2 x3 x4 x5 x6 x7 x10 x11 x12 x13 x14 x15 x16 x17 x18 x19 x20 x21
      have q0 := (unhide P1).cell 0
      have q1 := (unhide P1).cell 1
      have q2 := (unhide P1).cell 2
      have q3 := (unhide P1).cell 3
      have q4 := (unhide P1).cell 4
      have q5 := (unhide P1).cell 5
      have g0 := (unhide P1).free 0
      have g1 := (unhide P1).free 1
      have g2 := (unhide P1).free 2
      have g3 := (unhide P1).free 3
      have g4 := (unhide P1).free 4
      have g5 := (unhide P1).free 5
      go_region_held3 (fun w' => w'.cell? ⟨p, 8, none⟩ = some (F 0) ∧ w'.cell? ⟨p, 9, none⟩ = some (F fm)) (go_keep) (fail)
      go_end0
      exact ⟨rfl, net, { l with earned := 0, surplus := fm }, ch, .inr (.inl ⟨unhide HL, c, t1, t2, unhide HC, (unhide HCH).symm, by rw [unhide HFM]⟩), period_written hne (unhide H1) (unhide P1) T1⟩
    · have hb2 : (FloatKind.f64.format.order net 0 == some .lt) = false := by rw [beq_eq_false_iff_ne]; exact hl
      clear hl
      go_wp2
      have H1 := hide (((unhide HH).set 8 (F 0) (l' := { l with earned := 0 }) rfl).set 9 (F 0) (l' := { l with earned := 0, surplus := 0 }) rfl)
      have P1 := hide (((unhide HP).far hne 8 (F 0)).far hne 9 (F 0))
      have T1 := (T0.setp 8 (F 0)).setp 9 (F 0)
      clear HH HP T0 d6 d8 d9 f8 f9
      generalize ((W0.setCell ⟨p, 8, none⟩ (F 0)).setCell ⟨p, 9, none⟩ (F 0)) = W at H1 P1 T1 ⊢
      obtain ⟨x0, x1, x2, x3, x4, x5, x6, x7, x8, x9, x10, x11, x12, x13, x14, x15, x16, x17, x18, x19, x20, x21⟩ := (unhide H1).boxed
      clear x0 x1 x2 x3 x4 x5 x6 x7 x10 x11 x12 x13 x14 x15 x16 x17 x18 x19 x20 x21
      have q0 := (unhide P1).cell 0
      have q1 := (unhide P1).cell 1
      have q2 := (unhide P1).cell 2
      have q3 := (unhide P1).cell 3
      have q4 := (unhide P1).cell 4
      have q5 := (unhide P1).cell 5
      have g0 := (unhide P1).free 0
      have g1 := (unhide P1).free 1
      have g2 := (unhide P1).free 2
      have g3 := (unhide P1).free 3
      have g4 := (unhide P1).free 4
      have g5 := (unhide P1).free 5
      go_region_held3 (fun w' => w'.cell? ⟨p, 8, none⟩ = some (F 0) ∧ w'.cell? ⟨p, 9, none⟩ = some (F 0)) (go_keep) (fail)
      go_end0
      exact ⟨rfl, net, { l with earned := 0, surplus := 0 }, 0, .inr (.inr ⟨rfl, rfl⟩), period_written hne (unhide H1) (unhide P1) T1⟩

/-- ZZReplayUnlimited hands it on. -/
theorem zzreplay_any (l : Led) (p b v a : Nat) (w : World) (h : Has w p l) (hP : HasP w b (perCells 0 0 0 0 0 0)) (hne : p ≠ b) : Calls Try.prog 19 #[.pointer (some ⟨p, 0, none⟩), .pointer (some ⟨b, 0, none⟩), F v, F a] w fun e w' =>
    e = .returned (.tuple #[]) ∧ ∃ net g ch, Rep l net g ch ∧ Has w' p g ∧ HasP w' b (perCells v a g.earned g.surplus ch 0) ∧ Turned2 p b w w' := by
  have H := hide (replay_any l p b v a w h hP hne)
  clear h hP hne
  go_enter Try.func19, Try.ntmps19
  go_wp2_with fail
  refine (unhide H).mono ?_
  rintro e w' ⟨rfl, h⟩
  go_wp2
  go_end0
  exact ⟨rfl, h⟩
end Go.Proofs.Qxb6602162a
