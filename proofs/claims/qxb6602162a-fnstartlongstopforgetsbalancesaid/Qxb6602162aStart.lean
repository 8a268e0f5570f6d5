/-
  The walk of Start (17), in its four ways.
-/
import Derived.Test.Qxb6602162aOps
namespace Go.Proofs.Qxb6602162a
open Go.RowKit
attribute [local go_sem] run_store_float run_fadd run_fsub

set_option maxRecDepth 100000 in
set_option maxHeartbeats 1600000 in
theorem start_long_oth (l : Led) (p : Nat) (n : Int) (w : World) (h : Has w p l) (hk : l.keep < n) (hm : ¬ l.mode = 0) : Calls Try.prog 17 #[.pointer (some ⟨p, 0, none⟩), I n] w fun e w' =>
    e = .returned (.tuple #[]) ∧ ∃ lo r, AddIs 0 0 r ∧ Has w' p { l with launch := 0, earned := 0, tot := { l.tot with lost := lo, bal := r, sur := l.surplus, stopped := wrap64 (l.tot.stopped + n) } } ∧ Turned p w w' := by
  obtain ⟨c0, c1, c2, c3, c4, c5, c6, c7, c8, c9, c10, c11, c12, c13, c14, c15, c16, c17, c18, c19, c20, c21⟩ := h.boxed
  have f21 := h.free 21
  have f7 := h.free 7
  have f11 := h.free 11
  clear c3 c4 c5 c6 c8 c9 c10 c12 c13 c14 c15 c16 c17 c18 c19 c20
  have hb : (l.mode == 0) = false := by rw [beq_eq_false_iff_ne]; exact hm
  have H := hide (h.set 21 (I (wrap64 (l.tot.stopped + n))) (l' := { l with tot := { l.tot with stopped := wrap64 (l.tot.stopped + n) } }) rfl)
  clear h hm
  go_enter Try.func17, Try.ntmps17
  go_wp2_with fail
  refine (lose_any _ p _ (unhide H)).mono ?_
  rintro e w1 ⟨rfl, lo, h1, t1⟩
  have T := ((Turned.refl p w).set 21 (I (wrap64 (l.tot.stopped + n)))).trans t1
  obtain ⟨d0, d1, d2, d3, d4, d5, d6, d7, d8, d9, d10, d11, d12, d13, d14, d15, d16, d17, d18, d19, d20, d21⟩ := h1.boxed
  have g7 := h1.free 7
  have g11 := h1.free 11
  clear d2 d3 d4 d5 d6 d8 d9 d10 d12 d13 d14 d15 d16 d17 d18 d19 d20 d21 t1 c0 c1 c2 c7 c11 c21 f7 f11 f21 H
  have H := hide h1
  clear h1
  go_wp2_with fail
  refine (settle_any _ p _ (unhide H)).mono ?_
  rintro e w2 ⟨rfl, r, hr, h2, t2⟩
  have T2 := T.trans t2
  have HR := hide hr
  have H2 := hide h2
  clear hr h2 t2 T
  go_wp2
  go_end0
  exact ⟨rfl, lo, r, unhide HR, unhide H2, T2⟩

set_option maxRecDepth 100000 in
set_option maxHeartbeats 1600000 in
theorem start_long_std (l : Led) (p : Nat) (n : Int) (w : World) (h : Has w p l) (hk : l.keep < n) (hm : l.mode = 0) : Calls Try.prog 17 #[.pointer (some ⟨p, 0, none⟩), I n] w fun e w' =>
    e = .returned (.tuple #[]) ∧ ∃ lo la lc r, AddIs 0 l.grant la ∧ AddIs l.tot.lc l.grant lc ∧ AddIs la 0 r ∧ Has w' p { l with launch := la, earned := 0, tot := { l.tot with lc := lc, lost := lo, bal := r, sur := l.surplus, stopped := wrap64 (l.tot.stopped + n) } } ∧ Turned p w w' := by
  obtain ⟨c0, c1, c2, c3, c4, c5, c6, c7, c8, c9, c10, c11, c12, c13, c14, c15, c16, c17, c18, c19, c20, c21⟩ := h.boxed
  have f21 := h.free 21
  have f7 := h.free 7
  have f11 := h.free 11
  clear c3 c4 c5 c6 c8 c9 c10 c12 c13 c14 c15 c16 c17 c18 c19 c20
  have hb : (l.mode == 0) = true := by rw [beq_iff_eq]; exact hm
  have H := hide (h.set 21 (I (wrap64 (l.tot.stopped + n))) (l' := { l with tot := { l.tot with stopped := wrap64 (l.tot.stopped + n) } }) rfl)
  clear h hm
  go_enter Try.func17, Try.ntmps17
  go_wp2_with fail
  refine (lose_any _ p _ (unhide H)).mono ?_
  rintro e w1 ⟨rfl, lo, h1, t1⟩
  have T := ((Turned.refl p w).set 21 (I (wrap64 (l.tot.stopped + n)))).trans t1
  obtain ⟨d0, d1, d2, d3, d4, d5, d6, d7, d8, d9, d10, d11, d12, d13, d14, d15, d16, d17, d18, d19, d20, d21⟩ := h1.boxed
  have g7 := h1.free 7
  have g11 := h1.free 11
  clear d2 d3 d4 d5 d6 d8 d9 d10 d12 d13 d14 d15 d16 d17 d18 d19 d20 d21 t1 c0 c1 c2 c7 c11 c21 f7 f11 f21 H
  have H := hide h1
  clear h1
  go_wp2
  go_region
  have A := fres_add 0 l.grant (w1.tape (w1.drawn + 1) (.nanBits .f64 0 l.grant))
  generalize fres (FloatKind.f64.format.add 0 l.grant) (w1.tape (w1.drawn + 1) (.nanBits .f64 0 l.grant)) = la at A ⊢
  generalize 1 + fdr (FloatKind.f64.format.add 0 l.grant) = d
  have HA := hide A
  clear A
  go_wp2
  go_region
  have A2 := fres_add l.tot.lc l.grant (w1.tape ((w1.drewN d).drawn + 1) (.nanBits .f64 l.tot.lc l.grant))
  generalize fres (FloatKind.f64.format.add l.tot.lc l.grant) (w1.tape ((w1.drewN d).drawn + 1) (.nanBits .f64 l.tot.lc l.grant)) = lc at A2 ⊢
  generalize 1 + fdr (FloatKind.f64.format.add l.tot.lc l.grant) = d2
  have HA2 := hide A2
  clear A2
  go_wp2_with fail
  refine (settle_any _ p _ (((((unhide H).drewN d).set 7 (F la) (l' := { l with launch := la, earned := 0, tot := { l.tot with lost := lo, stopped := wrap64 (l.tot.stopped + n) } }) rfl).drewN d2).set 11 (F lc) (l' := { l with launch := la, earned := 0, tot := { l.tot with lc := lc, lost := lo, stopped := wrap64 (l.tot.stopped + n) } }) rfl)).mono ?_
  rintro e w2 ⟨rfl, r, hr, h2, t2⟩
  have T2 := ((((T.drewN d).set 7 (F la)).drewN d2).set 11 (F lc)).trans t2
  have HR := hide hr
  have H2 := hide h2
  clear hr h2 t2 T
  go_wp2
  go_end0
  exact ⟨rfl, lo, la, lc, r, unhide HA, unhide HA2, unhide HR, unhide H2, T2⟩

set_option maxRecDepth 100000 in
set_option maxHeartbeats 1600000 in
theorem start_kept_oth (l : Led) (p : Nat) (n : Int) (w : World) (h : Has w p l) (hk : ¬ l.keep < n) (hm : ¬ l.mode = 0) : Calls Try.prog 17 #[.pointer (some ⟨p, 0, none⟩), I n] w fun e w' =>
    e = .returned (.tuple #[]) ∧ ∃ r, AddIs l.launch l.earned r ∧ Has w' p { l with tot := { l.tot with bal := r, sur := l.surplus, stopped := wrap64 (l.tot.stopped + n) } } ∧ Turned p w w' := by
  obtain ⟨c0, c1, c2, c3, c4, c5, c6, c7, c8, c9, c10, c11, c12, c13, c14, c15, c16, c17, c18, c19, c20, c21⟩ := h.boxed
  have f21 := h.free 21
  have f7 := h.free 7
  have f11 := h.free 11
  clear c3 c4 c5 c6 c8 c9 c10 c12 c13 c14 c15 c16 c17 c18 c19 c20
  have hb : (l.mode == 0) = false := by rw [beq_eq_false_iff_ne]; exact hm
  have H := hide (h.set 21 (I (wrap64 (l.tot.stopped + n))) (l' := { l with tot := { l.tot with stopped := wrap64 (l.tot.stopped + n) } }) rfl)
  clear h hm
  go_enter Try.func17, Try.ntmps17
  have T := (Turned.refl p w).set 21 (I (wrap64 (l.tot.stopped + n)))
  go_wp2_with fail
  refine (settle_any _ p _ (unhide H)).mono ?_
  rintro e w2 ⟨rfl, r, hr, h2, t2⟩
  have T2 := T.trans t2
  have HR := hide hr
  have H2 := hide h2
  clear hr h2 t2 T
  go_wp2
  go_end0
  exact ⟨rfl, r, unhide HR, unhide H2, T2⟩

set_option maxRecDepth 100000 in
set_option maxHeartbeats 1600000 in
theorem start_kept_std (l : Led) (p : Nat) (n : Int) (w : World) (h : Has w p l) (hk : ¬ l.keep < n) (hm : l.mode = 0) : Calls Try.prog 17 #[.pointer (some ⟨p, 0, none⟩), I n] w fun e w' =>
    e = .returned (.tuple #[]) ∧ ∃ la lc r, AddIs l.launch l.grant la ∧ AddIs l.tot.lc l.grant lc ∧ AddIs la l.earned r ∧ Has w' p { l with launch := la, tot := { l.tot with lc := lc, bal := r, sur := l.surplus, stopped := wrap64 (l.tot.stopped + n) } } ∧ Turned p w w' := by
  obtain ⟨c0, c1, c2, c3, c4, c5, c6, c7, c8, c9, c10, c11, c12, c13, c14, c15, c16, c17, c18, c19, c20, c21⟩ := h.boxed
  have f21 := h.free 21
  have f7 := h.free 7
  have f11 := h.free 11
  clear c3 c4 c5 c6 c8 c9 c10 c12 c13 c14 c15 c16 c17 c18 c19 c20
  have hb : (l.mode == 0) = true := by rw [beq_iff_eq]; exact hm
  have H := hide (h.set 21 (I (wrap64 (l.tot.stopped + n))) (l' := { l with tot := { l.tot with stopped := wrap64 (l.tot.stopped + n) } }) rfl)
  clear h hm
  go_enter Try.func17, Try.ntmps17
  have T := (Turned.refl p w).set 21 (I (wrap64 (l.tot.stopped + n)))
  go_wp2
  go_region
  have A := fres_add l.launch l.grant (w.tape (w.drawn + 1) (.nanBits .f64 l.launch l.grant))
  generalize fres (FloatKind.f64.format.add l.launch l.grant) (w.tape (w.drawn + 1) (.nanBits .f64 l.launch l.grant)) = la at A ⊢
  generalize 1 + fdr (FloatKind.f64.format.add l.launch l.grant) = d
  have HA := hide A
  clear A
  go_wp2
  go_region
  have A2 := fres_add l.tot.lc l.grant (w.tape (((w.setCell ⟨p, 21, none⟩ (.int .i64 (wrap64 (l.tot.stopped + n)))).drewN d).drawn + 1) (.nanBits .f64 l.tot.lc l.grant))
  generalize fres (FloatKind.f64.format.add l.tot.lc l.grant) (w.tape (((w.setCell ⟨p, 21, none⟩ (.int .i64 (wrap64 (l.tot.stopped + n)))).drewN d).drawn + 1) (.nanBits .f64 l.tot.lc l.grant)) = lc at A2 ⊢
  generalize 1 + fdr (FloatKind.f64.format.add l.tot.lc l.grant) = d2
  have HA2 := hide A2
  clear A2
  go_wp2_with fail
  refine (settle_any _ p _ (((((unhide H).drewN d).set 7 (F la) (l' := { l with launch := la, tot := { l.tot with stopped := wrap64 (l.tot.stopped + n) } }) rfl).drewN d2).set 11 (F lc) (l' := { l with launch := la, tot := { l.tot with lc := lc, stopped := wrap64 (l.tot.stopped + n) } }) rfl)).mono ?_
  rintro e w2 ⟨rfl, r, hr, h2, t2⟩
  have T2 := ((((T.drewN d).set 7 (F la)).drewN d2).set 11 (F lc)).trans t2
  have HR := hide hr
  have H2 := hide h2
  clear hr h2 t2 T
  go_wp2
  go_end0
  exact ⟨rfl, la, lc, r, unhide HA, unhide HA2, unhide HR, unhide H2, T2⟩

end Go.Proofs.Qxb6602162a
