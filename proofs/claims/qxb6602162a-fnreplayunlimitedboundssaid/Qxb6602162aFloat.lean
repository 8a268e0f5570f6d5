/-
  Floats by their bits: what '+' and '-' give where the operation is valid, and that all else is no number; the rules by which the walk runs them.
-/
import Derived.WalkKit
import Derived.WalkLawsBesides
import Derived.Deep.Draws
namespace Go.Proofs.Qxb6602162a
open Go.RowKit

/-- Is it a NaN? -/
def NaN (x : Nat) : Prop := ∃ s t, FloatKind.f64.format.read x = .nan s t

theorem e_sign : FloatKind.f64.format.signWeight = 9223372036854775808 := by rfl
theorem e_bin : FloatKind.f64.format.binade = 4503599627370496 := by rfl
theorem e_inf : FloatKind.f64.format.infRung = 9218868437227405312 := by rfl

theorem nan_of_cut (t : Nat) : NaN ((t % 2) * 2 ^ 63 + 0x7ff0000000000000 + 1 + (t / 2) % (2 ^ 52 - 1)) := by
  have h1 : (t / 2) % (2 ^ 52 - 1) < 2 ^ 52 - 1 := Nat.mod_lt _ (by decide)
  have h2 : t % 2 < 2 := Nat.mod_lt _ (by decide)
  generalize (t / 2) % (2 ^ 52 - 1) = u at h1 ⊢
  generalize t % 2 = v at h2 ⊢
  unfold NaN Ieee.Format.read
  rw [e_sign, e_bin, e_inf]
  have e : (v * 2 ^ 63 + 0x7ff0000000000000 + 1 + u) % 9223372036854775808 = 0x7ff0000000000000 + 1 + u := by omega
  simp only [e]
  rw [if_neg (by omega), if_neg (by omega), if_neg (by omega)]
  exact ⟨_, _, rfl⟩

theorem nan_bits (x y t : Nat) : NaN ((Question.nanBits .f64 x y).cut t) := nan_of_cut t
theorem nan_minmax (b : Bool) (x y t : Nat) : NaN ((Question.nanMinMax .f64 b x y).cut t) := nan_of_cut t

theorem NaN.left {x : Nat} (h : NaN x) (y : Nat) : FloatKind.f64.format.order x y = none := by
  obtain ⟨s, t, h⟩ := h
  unfold Ieee.Format.order
  rw [h]
  rfl
theorem NaN.right {x : Nat} (h : NaN x) (y : Nat) : FloatKind.f64.format.order y x = none := by
  obtain ⟨s, t, h⟩ := h
  unfold Ieee.Format.order
  rw [h]
  cases FloatKind.f64.format.read y <;> rfl
theorem NaN.add_left {x : Nat} (h : NaN x) (y : Nat) : FloatKind.f64.format.add x y = none := by
  obtain ⟨s, t, h⟩ := h
  unfold Ieee.Format.add
  rw [h]
  rfl

/-- r is what x + y gives (x - y): its bits where the operation is valid, else some NaN. -/
def AddIs (x y r : Nat) : Prop := FloatKind.f64.format.add x y = some r ∨ (FloatKind.f64.format.add x y = none ∧ NaN r)
def SubIs (x y r : Nat) : Prop := FloatKind.f64.format.sub x y = some r ∨ (FloatKind.f64.format.sub x y = none ∧ NaN r)

/-- The same bits, or both NaN. -/
def Alike (x y : Nat) : Prop := x = y ∨ (NaN x ∧ NaN y)
theorem Alike.refl (x : Nat) : Alike x x := .inl rfl

theorem AddIs.alike {x x' y r r' : Nat} (h : AddIs x y r) (h' : AddIs x' y r') (e : Alike x x') : Alike r r' := by
  rcases e with rfl | ⟨n, n'⟩
  · rcases h with h | ⟨h, hn⟩ <;> rcases h' with h' | ⟨h', hn'⟩
    · rw [h] at h'; exact .inl (Option.some.inj h')
    · rw [h] at h'; cases h'
    · rw [h] at h'; cases h'
    · exact .inr ⟨hn, hn'⟩
  · rcases h with h | ⟨_, hn⟩
    · rw [n.add_left] at h; cases h
    · rcases h' with h' | ⟨_, hn'⟩
      · rw [n'.add_left] at h'; cases h'
      · exact .inr ⟨hn, hn'⟩

/-! ### The walk's rules. The draw that a NaN wants is 0 or 1 draws more. -/
def fres (v : Option Nat) (t : Nat) : Nat := match v with | some r => r | none => (t % 2) * 2 ^ 63 + 0x7ff0000000000000 + 1 + (t / 2) % (2 ^ 52 - 1)
def fdr (v : Option Nat) : Nat := match v with | some _ => 0 | none => 1
theorem fres_add (x y t : Nat) : AddIs x y (fres (FloatKind.f64.format.add x y) t) := by
  unfold AddIs fres
  cases FloatKind.f64.format.add x y with
  | some r => exact .inl rfl
  | none => exact .inr ⟨rfl, nan_of_cut t⟩
theorem fres_sub (x y t : Nat) : SubIs x y (fres (FloatKind.f64.format.sub x y) t) := by
  unfold SubIs fres
  cases FloatKind.f64.format.sub x y with
  | some r => exact .inl rfl
  | none => exact .inr ⟨rfl, nan_of_cut t⟩

theorem run_fadd {P : Program} (w : World) (t : TypeId) (x y : Nat) : (binOp .add t (.float .f64 x) (.float .f64 y)).run P w =
    .ok (.float .f64 (fres (FloatKind.f64.format.add x y) (w.tape w.drawn (.nanBits .f64 x y)))) (w.drewN (fdr (FloatKind.f64.format.add x y))) := by
  unfold fres fdr
  cases h : FloatKind.f64.format.add x y with
  | some r => simp [binOp, Op.floatArith, h, World.drewN]
  | none => simp [binOp, Op.floatArith, h, Question.forced, Question.cut]; rfl
theorem run_fsub {P : Program} (w : World) (t : TypeId) (x y : Nat) : (binOp .sub t (.float .f64 x) (.float .f64 y)).run P w =
    .ok (.float .f64 (fres (FloatKind.f64.format.sub x y) (w.tape w.drawn (.nanBits .f64 x y)))) (w.drewN (fdr (FloatKind.f64.format.sub x y))) := by
  unfold fres fdr
  cases h : FloatKind.f64.format.sub x y with
  | some r => simp [binOp, Op.floatArith, h, World.drewN]
  | none => simp [binOp, Op.floatArith, h, Question.forced, Question.cut]; rfl
end Go.Proofs.Qxb6602162a
