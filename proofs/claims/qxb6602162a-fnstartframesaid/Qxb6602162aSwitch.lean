/-
  The walk of SwitchMode (13).
-/
import Derived.Test.Qxb6602162aOps
namespace Go.Proofs.Qxb6602162a
open Go.RowKit
attribute [local go_sem] run_store_float run_fadd run_fsub

/-- A switch to the mode that stands. -/
theorem switch_same (l : Led) (p : Nat) (m : Int) (w : World) (h : Has w p l) (hm : m = l.mode) : Calls Try.prog 13 #[.pointer (some ⟨p, 0, none⟩), I m] w fun e w' =>
    e = .returned (.tuple #[]) ∧ Has w' p l ∧ Turned p w w' := by
  subst hm
  obtain ⟨c0, c1, c2, c3, c4, c5, c6, c7, c8, c9, c10, c11, c12, c13, c14, c15, c16, c17, c18, c19, c20, c21⟩ := h.boxed
  clear c1 c2 c3 c4 c5 c6 c7 c8 c9 c10 c11 c12 c13 c14 c15 c16 c17 c18 c19 c20 c21
  have H := hide h
  clear h
  go_enter Try.func13, Try.ntmps13
  go_wp2
  exact bodyPost_ret (v := .tuple #[]) (by simp [results, Try.results13]) rfl ⟨rfl, unhide H, Turned.refl _ _⟩

set_option maxRecDepth 100000 in
set_option maxHeartbeats 800000 in
/-- A switch to Standard. -/
theorem switch_std (l : Led) (p : Nat) (w : World) (h : Has w p l) (hm : ¬ (0 : Int) = l.mode) : Calls Try.prog 13 #[.pointer (some ⟨p, 0, none⟩), I 0] w fun e w' =>
    e = .returned (.tuple #[]) ∧ ∃ c r, AddIs l.launch l.earned r ∧ Has w' p { l with mode := 0, surplus := 0, tot := { l.tot with chg := c, bal := r, sur := 0 } } ∧ Turned p w w' := by
  obtain ⟨c0, c1, c2, c3, c4, c5, c6, c7, c8, c9, c10, c11, c12, c13, c14, c15, c16, c17, c18, c19, c20, c21⟩ := h.boxed
  clear c1 c2 c3 c4 c5 c6 c7 c8 c9 c10 c11 c12 c13 c14 c15 c16 c17 c18 c19 c20 c21
  have hb : ((0 : Int) == l.mode) = false := by rw [beq_eq_false_iff_ne]; exact hm
  have H := hide h
  clear h hm
  go_enter Try.func13, Try.ntmps13
  go_wp2_with fail
  refine (charge_any l p _ (unhide H)).mono ?_
  rintro e w1 ⟨rfl, c, _, h1, t1⟩
  have b1 := h1.boxed.1
  have f1 := h1.free 0
  have H1 := hide h1
  clear h1 c0 hb
  go_wp2_with fail
  refine (settle_any _ p _ ((unhide H1).set 0 (I 0) (l' := { l with mode := 0, surplus := 0, tot := { l.tot with chg := c } }) rfl)).mono ?_
  rintro e w2 ⟨rfl, r, hr, h2, t2⟩
  have T2 := (t1.set 0 (I 0)).trans t2
  have HR := hide hr
  have H2 := hide h2
  clear hr h2 t1 t2 b1 f1
  go_wp2
  go_end0
  exact ⟨rfl, c, r, unhide HR, unhide H2, T2⟩

set_option maxRecDepth 100000 in
set_option maxHeartbeats 800000 in
/-- A switch to any other mode. -/
theorem switch_other (l : Led) (p : Nat) (m : Int) (w : World) (h : Has w p l) (hm : ¬ m = l.mode) (hz : ¬ m = 0) : Calls Try.prog 13 #[.pointer (some ⟨p, 0, none⟩), I m] w fun e w' =>
    e = .returned (.tuple #[]) ∧ ∃ c r, AddIs 0 l.earned r ∧ Has w' p { l with mode := m, launch := 0, tot := { l.tot with lost := c, bal := r, sur := l.surplus } } ∧ Turned p w w' := by
  obtain ⟨c0, c1, c2, c3, c4, c5, c6, c7, c8, c9, c10, c11, c12, c13, c14, c15, c16, c17, c18, c19, c20, c21⟩ := h.boxed
  have f0 := h.free 0
  have f7 := h.free 7
  have f20 := h.free 20
  clear c1 c2 c3 c4 c5 c6 c8 c9 c10 c11 c12 c13 c14 c15 c16 c17 c18 c19 c21
  have hb : (m == l.mode) = false := by rw [beq_eq_false_iff_ne]; exact hm
  have hb2 : (m == 0) = false := by rw [beq_eq_false_iff_ne]; exact hz
  have H := hide h
  clear h hm hz
  go_enter Try.func13, Try.ntmps13
  go_wp2
  go_region
  generalize fres (FloatKind.f64.format.add l.tot.lost l.launch) (w.tape (w.drawn + 1) (.nanBits .f64 l.tot.lost l.launch)) = c
  generalize 1 + fdr (FloatKind.f64.format.add l.tot.lost l.launch) = d
  go_wp2_with fail
  refine (settle_any _ p _ (((((unhide H).drewN d).set 20 (F c) (l' := { l with tot := { l.tot with lost := c } }) rfl).set 7 (F 0) (l' := { l with launch := 0, tot := { l.tot with lost := c } }) rfl).set 0 (I m) (l' := { l with mode := m, launch := 0, tot := { l.tot with lost := c } }) rfl)).mono ?_
  rintro e w2 ⟨rfl, r, hr, h2, t2⟩
  have T2 := (((((Turned.refl p w).drewN d).set 20 (F c)).set 7 (F 0)).set 0 (I m)).trans t2
  have HR := hide hr
  have H2 := hide h2
  clear hr h2 t2
  go_wp2
  go_end0
  exact ⟨rfl, c, r, unhide HR, unhide H2, T2⟩
end Go.Proofs.Qxb6602162a
