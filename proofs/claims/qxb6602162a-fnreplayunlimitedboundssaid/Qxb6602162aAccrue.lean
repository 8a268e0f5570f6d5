/-
  The walk of accrue (30).
-/
import Derived.Test.Qxb6602162aOps
namespace Go.Proofs.Qxb6602162a
open Go.RowKit
attribute [local go_sem] run_store_float run_fadd run_fsub

/-- What accrue leaves. -/
def Accrued (l : Led) (v : Nat) (g : Led) : Prop := ∃ e, AddIs l.earned v e ∧
  ((FloatKind.f64.format.order e l.max = some .gt ∧ ∃ x d, SubIs e l.max x ∧ AddIs l.tot.disc x d ∧ g = { l with earned := l.max, tot := { l.tot with disc := d } }) ∨
   (¬ FloatKind.f64.format.order e l.max = some .gt ∧ g = { l with earned := e }))

set_option maxRecDepth 100000 in
set_option maxHeartbeats 800000 in
theorem accrue_any (l : Led) (p v : Nat) (w : World) (h : Has w p l) : Calls Try.prog 30 #[.pointer (some ⟨p, 0, none⟩), F v] w fun e w' =>
    e = .returned (.tuple #[]) ∧ ∃ g, Accrued l v g ∧ Has w' p g ∧ Turned p w w' := by
  obtain ⟨c0, c1, c2, c3, c4, c5, c6, c7, c8, c9, c10, c11, c12, c13, c14, c15, c16, c17, c18, c19, c20, c21⟩ := h.boxed
  have f8 := h.free 8
  have f14 := h.free 14
  clear c0 c1 c2 c3 c4 c5 c7 c9 c10 c11 c12 c13 c15 c16 c17 c18 c19 c20 c21
  have H := hide h
  clear h
  go_enter Try.func30, Try.ntmps30
  go_wp2
  have A := fres_add l.earned v (w.tape w.drawn (.nanBits .f64 l.earned v))
  generalize fres (FloatKind.f64.format.add l.earned v) (w.tape w.drawn (.nanBits .f64 l.earned v)) = e at A ⊢
  generalize fdr (FloatKind.f64.format.add l.earned v) = d
  have H1 : Has ((w.drewN d).setCell ⟨p, 8, none⟩ (F e)) p { l with earned := e } := ((unhide H).drewN d).set 8 (F e) rfl
  have T1 : Turned p w ((w.drewN d).setCell ⟨p, 8, none⟩ (F e)) := ((Turned.refl p w).drewN d).set 8 (F e)
  clear H c6 c8 c14 f8 f14
  generalize ((w.drewN d).setCell ⟨p, 8, none⟩ (F e)) = W at H1 T1 ⊢
  obtain ⟨d0, d1, d2, d3, d4, d5, d6, d7, d8, d9, d10, d11, d12, d13, d14, d15, d16, d17, d18, d19, d20, d21⟩ := H1.boxed
  have f8 := H1.free 8
  have f14 := H1.free 14
  clear d0 d1 d2 d3 d4 d5 d7 d9 d10 d11 d12 d13 d15 d16 d17 d18 d19 d20 d21
  have HA := hide A
  have HH := hide H1
  clear A H1
  by_cases hg : FloatKind.f64.format.order e l.max = some .gt
  · have hb : (FloatKind.f64.format.order e l.max == some .gt) = true := by rw [hg]; rfl
    have HG := hide hg
    clear hg
    go_region
    go_wp2
    go_region
    have X := fres_sub e l.max (W.tape (W.drawn + 1 + 1) (.nanBits .f64 e l.max))
    generalize fres (FloatKind.f64.format.sub e l.max) (W.tape (W.drawn + 1 + 1) (.nanBits .f64 e l.max)) = x at X ⊢
    have D := fres_add l.tot.disc x (W.tape (W.drewN (1 + (1 + fdr (FloatKind.f64.format.sub e l.max)))).drawn (.nanBits .f64 l.tot.disc x))
    generalize fres (FloatKind.f64.format.add l.tot.disc x) (W.tape (W.drewN (1 + (1 + fdr (FloatKind.f64.format.sub e l.max)))).drawn (.nanBits .f64 l.tot.disc x)) = r at D ⊢
    generalize 1 + (1 + fdr (FloatKind.f64.format.sub e l.max)) + fdr (FloatKind.f64.format.add l.tot.disc x) = k
    have HX := hide X
    have HD := hide D
    clear X D
    go_wp2
    go_end0
    exact ⟨rfl, _, ⟨e, unhide HA, .inl ⟨unhide HG, x, r, unhide HX, unhide HD, rfl⟩⟩, (((unhide HH).drewN k).set 14 (F r) (l' := { l with earned := e, tot := { l.tot with disc := r } }) rfl).set 8 (F l.max) rfl, ((T1.drewN k).set 14 _).set 8 _⟩
  · have hb : (FloatKind.f64.format.order e l.max == some .gt) = false := by rw [beq_eq_false_iff_ne]; exact hg
    have HG := hide hg
    clear hg
    go_region
    go_wp2
    go_end0
    exact ⟨rfl, _, ⟨e, unhide HA, .inr ⟨unhide HG, rfl⟩⟩, (unhide HH).drew, T1.drew⟩
end Go.Proofs.Qxb6602162a
