/-
  The walks of the ledger's small methods: settle (24), charge (23), lose (28).
-/
import Derived.Test.Qxb6602162aMake
import Derived.Test.Qxb6602162aFloat
import Derived.BigRegion
import Derived.RegionTactic
namespace Go.Proofs.Qxb6602162a
open Go.RowKit
attribute [local go_sem] run_store_float run_fadd run_fsub

theorem Has.boxed {w : World} {p : Nat} {l : Led} (h : Has w p l) : Boxed l p w := Boxed.of_row h
theorem Has.free {w : World} {p : Nat} {l : Led} (h : Has w p l) (j : Nat) : w.frozen? ⟨p, j, none⟩ = false := frozen_of_row w p j l.cells 52 h
theorem Has.lt {w : World} {p : Nat} {l : Led} (h : Has w p l) : p < w.heap.size := (Array.getElem?_eq_some_iff.1 h).1
theorem Has.set {w : World} {p : Nat} {l l' : Led} (h : Has w p l) (i : Nat) (v : Value) (e : l.cells.setIfInBounds i v = l'.cells) : Has (w.setCell ⟨p, i, none⟩ v) p l' := by
  unfold Has
  rw [heap_setCell_same w p i l.cells 52 v h, e]
theorem Has.drewN {w : World} {p : Nat} {l : Led} (h : Has w p l) (n : Nat) : Has (w.drewN n) p l := h
theorem Has.drew {w : World} {p : Nat} {l : Led} (h : Has w p l) : Has w.drew p l := h

/-- From w to w' nothing has turned but block p. -/
def Turned (p : Nat) (w w' : World) : Prop := w.grownBy w' (some p)
theorem Turned.refl (p : Nat) (w : World) : Turned p w w := World.grownBy.refl _ _
theorem Turned.drewN {p : Nat} {w w' : World} (h : Turned p w w') (n : Nat) : Turned p w (w'.drewN n) := ⟨h.os, h.tape, h.output, h.size, h.block⟩
theorem Turned.drew {p : Nat} {w w' : World} (h : Turned p w w') : Turned p w w'.drew := ⟨h.os, h.tape, h.output, h.size, h.block⟩
theorem Turned.set {p : Nat} {w w' : World} (h : Turned p w w') (i : Nat) (v : Value) : Turned p w (w'.setCell ⟨p, i, none⟩ v) :=
  ⟨h.os, h.tape, h.output, by simpa [World.setCell] using h.size, fun k hk hne => (Below.heap_setCell w' ⟨p, i, none⟩ v k (fun e => hne (by rw [e]))).trans (h.block k hk hne)⟩
theorem Turned.trans {p : Nat} {a b c : World} (h : Turned p a b) (k : Turned p b c) : Turned p a c :=
  ⟨k.os.trans h.os, k.tape.trans h.tape, k.output.trans h.output, Nat.le_trans h.size k.size, fun i hi hne => (k.block i (Nat.lt_of_lt_of_le hi h.size) hne).trans (h.block i hi hne)⟩

set_option maxRecDepth 100000 in
set_option maxHeartbeats 800000 in
theorem settle_any (l : Led) (p : Nat) (w : World) (h : Has w p l) : Calls Try.prog 24 #[.pointer (some ⟨p, 0, none⟩)] w fun e w' =>
    e = .returned (.tuple #[]) ∧ ∃ r, AddIs l.launch l.earned r ∧ Has w' p { l with tot := { l.tot with bal := r, sur := l.surplus } } ∧ Turned p w w' := by
  obtain ⟨c0, c1, c2, c3, c4, c5, c6, c7, c8, c9, c10, c11, c12, c13, c14, c15, c16, c17, c18, c19, c20, c21⟩ := h.boxed
  have f17 := h.free 17
  have f18 := h.free 18
  clear c0 c1 c2 c3 c4 c5 c6 c10 c11 c12 c13 c14 c15 c16 c19 c20 c21
  have H := hide h
  clear h
  go_enter Try.func24, Try.ntmps24
  go_wp2
  go_region
  have A := fres_add l.launch l.earned (w.tape (w.drawn + 1) (.nanBits .f64 l.launch l.earned))
  generalize fres (FloatKind.f64.format.add l.launch l.earned) (w.tape (w.drawn + 1) (.nanBits .f64 l.launch l.earned)) = r at A ⊢
  have HA := hide A
  clear A
  generalize 1 + fdr (FloatKind.f64.format.add l.launch l.earned) = d
  go_wp2
  go_end0
  exact ⟨rfl, r, unhide HA, (((unhide H).drewN d).set 17 (F r) (l' := { l with tot := { l.tot with bal := r } }) rfl).set 18 (F l.surplus) rfl, (((Turned.refl p w).drewN d).set 17 _).set 18 _⟩

set_option maxRecDepth 100000 in
set_option maxHeartbeats 800000 in
theorem charge_any (l : Led) (p : Nat) (w : World) (h : Has w p l) : Calls Try.prog 23 #[.pointer (some ⟨p, 0, none⟩)] w fun e w' =>
    e = .returned (.tuple #[]) ∧ ∃ r, AddIs l.tot.chg l.surplus r ∧ Has w' p { l with surplus := 0, tot := { l.tot with chg := r } } ∧ Turned p w w' := by
  obtain ⟨c0, c1, c2, c3, c4, c5, c6, c7, c8, c9, c10, c11, c12, c13, c14, c15, c16, c17, c18, c19, c20, c21⟩ := h.boxed
  have f9 := h.free 9
  have f19 := h.free 19
  clear c0 c1 c2 c3 c4 c5 c6 c7 c8 c10 c11 c12 c13 c14 c15 c16 c17 c18 c20 c21
  have H := hide h
  clear h
  go_enter Try.func23, Try.ntmps23
  go_wp2
  go_region
  have A := fres_add l.tot.chg l.surplus (w.tape (w.drawn + 1) (.nanBits .f64 l.tot.chg l.surplus))
  generalize fres (FloatKind.f64.format.add l.tot.chg l.surplus) (w.tape (w.drawn + 1) (.nanBits .f64 l.tot.chg l.surplus)) = r at A ⊢
  have HA := hide A
  clear A
  generalize 1 + fdr (FloatKind.f64.format.add l.tot.chg l.surplus) = d
  go_wp2
  go_end0
  exact ⟨rfl, r, unhide HA, (((unhide H).drewN d).set 19 (F r) (l' := { l with tot := { l.tot with chg := r } }) rfl).set 9 (F 0) rfl, (((Turned.refl p w).drewN d).set 19 _).set 9 _⟩

set_option maxRecDepth 100000 in
set_option maxHeartbeats 800000 in
theorem lose_any (l : Led) (p : Nat) (w : World) (h : Has w p l) : Calls Try.prog 28 #[.pointer (some ⟨p, 0, none⟩)] w fun e w' =>
    e = .returned (.tuple #[]) ∧ ∃ r, Has w' p { l with launch := 0, earned := 0, tot := { l.tot with lost := r } } ∧ Turned p w w' := by
  obtain ⟨c0, c1, c2, c3, c4, c5, c6, c7, c8, c9, c10, c11, c12, c13, c14, c15, c16, c17, c18, c19, c20, c21⟩ := h.boxed
  have f7 := h.free 7
  have f8 := h.free 8
  have f20 := h.free 20
  clear c0 c1 c2 c3 c4 c5 c6 c9 c10 c11 c12 c13 c14 c15 c16 c17 c18 c19 c21
  have H := hide h
  clear h
  go_enter Try.func28, Try.ntmps28
  go_wp2
  go_region
  generalize fres (FloatKind.f64.format.add l.launch l.earned) (w.tape (w.drawn + 1) (.nanBits .f64 l.launch l.earned)) = s
  generalize fres (FloatKind.f64.format.add l.tot.lost s) (w.tape (w.drewN (1 + fdr (FloatKind.f64.format.add l.launch l.earned))).drawn (.nanBits .f64 l.tot.lost s)) = r
  generalize 1 + fdr (FloatKind.f64.format.add l.launch l.earned) + fdr (FloatKind.f64.format.add l.tot.lost s) = d
  go_wp2
  go_end0
  exact ⟨rfl, r, ((((unhide H).drewN d).set 20 (F r) (l' := { l with tot := { l.tot with lost := r } }) rfl).set 7 (F 0) (l' := { l with launch := 0, tot := { l.tot with lost := r } }) rfl).set 8 (F 0) rfl, ((((Turned.refl p w).drewN d).set 20 _).set 7 _).set 8 _⟩
end Go.Proofs.Qxb6602162a
