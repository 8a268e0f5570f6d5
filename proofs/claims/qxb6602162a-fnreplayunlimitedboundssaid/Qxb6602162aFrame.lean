/-
  From the reading of an argument of type CreditB1Ledger to its 22 cells.
-/
import Derived.Test.Qxb6602162aBase
import Derived.ProofKit
import Derived.OpenShut
import Derived.ShutString
import Derived.ChangeOld
import Derived.Below
namespace Go.Proofs.Qxb6602162a
open Go.ChangeShapes Go.WideShapes Go.ChangeAt Go.RowKit

theorem own : ownKnob Try.prog.godebug = none := by kernel_rfl
theorem laidOut : laidOutB Try.prog = true := by kernel_rfl
theorem Try.cellTypes26 : Try.prog.cellTypes Try.prog.depth 26 = some [3, 22, 3, 22, 22, 22, 22, 22, 22, 22, 3, 22, 22, 22, 22, 22, 22, 22, 22, 22, 22, 3] := by kernel_rfl
theorem Try.cells26 : Try.prog.cellsOf 26 = 22 := by kernel_rfl

theorem uncons {α : Type} {n : Nat} {l : List α} (h : l.length = n + 1) : ∃ a t, l = a :: t ∧ t.length = n := by
  cases l with
  | nil => simp at h
  | cons a t => exact ⟨a, t, rfl, by simpa using h⟩

theorem cell_int {w : World} {r : Reach} {b : Nat} {v : Value} (h : Cell.okWide Try.prog w r b 3 v) : ∃ n, v = .int .i64 n ∧ (-9223372036854775808 ≤ n ∧ n ≤ 9223372036854775807) := by
  unfold Cell.okWide at h
  rw [Try.underlying3] at h
  cases v <;> simp [Cell.ok, Try.underlying3] at h
  obtain ⟨rfl, h1, h2⟩ := h
  exact ⟨_, rfl, h1, h2⟩
theorem cell_float {w : World} {r : Reach} {b : Nat} {v : Value} (h : Cell.okWide Try.prog w r b 22 v) : ∃ n, v = .float .f64 n := by
  unfold Cell.okWide at h
  rw [Try.underlying22] at h
  cases v <;> simp [Cell.ok, Try.underlying22] at h
  obtain ⟨rfl, h1⟩ := h
  exact ⟨_, rfl⟩

set_option maxRecDepth 100000 in
theorem open_led {w : World} {r : Reach} {b : Nat} {v : Value} (h : Value.okWide Try.prog w r b 26 v) : ∃ s : Led, v = .agg s.cells ∧ (-9223372036854775808 ≤ s.tot.stopped ∧ s.tot.stopped ≤ 9223372036854775807) := by
  unfold Value.okWide at h
  rw [Try.underlying26] at h
  obtain ⟨cs, rfl, hsz, ts, hts, _, hc⟩ := h
  rw [Try.cellTypes26] at hts
  cases hts
  rw [Try.cells26] at hsz
  obtain ⟨l⟩ := cs
  replace hsz : l.length = 22 := by simpa using hsz
  obtain ⟨a0, l0, rfl, h0⟩ := uncons hsz
  obtain ⟨a1, l1, rfl, h1⟩ := uncons h0
  obtain ⟨a2, l2, rfl, h2⟩ := uncons h1
  obtain ⟨a3, l3, rfl, h3⟩ := uncons h2
  obtain ⟨a4, l4, rfl, h4⟩ := uncons h3
  obtain ⟨a5, l5, rfl, h5⟩ := uncons h4
  obtain ⟨a6, l6, rfl, h6⟩ := uncons h5
  obtain ⟨a7, l7, rfl, h7⟩ := uncons h6
  obtain ⟨a8, l8, rfl, h8⟩ := uncons h7
  obtain ⟨a9, l9, rfl, h9⟩ := uncons h8
  obtain ⟨a10, l10, rfl, h10⟩ := uncons h9
  obtain ⟨a11, l11, rfl, h11⟩ := uncons h10
  obtain ⟨a12, l12, rfl, h12⟩ := uncons h11
  obtain ⟨a13, l13, rfl, h13⟩ := uncons h12
  obtain ⟨a14, l14, rfl, h14⟩ := uncons h13
  obtain ⟨a15, l15, rfl, h15⟩ := uncons h14
  obtain ⟨a16, l16, rfl, h16⟩ := uncons h15
  obtain ⟨a17, l17, rfl, h17⟩ := uncons h16
  obtain ⟨a18, l18, rfl, h18⟩ := uncons h17
  obtain ⟨a19, l19, rfl, h19⟩ := uncons h18
  obtain ⟨a20, l20, rfl, h20⟩ := uncons h19
  obtain ⟨a21, l21, rfl, h21⟩ := uncons h20
  obtain rfl := List.eq_nil_of_length_eq_zero h21
  clear hsz h0 h1 h2 h3 h4 h5 h6 h7 h8 h9 h10 h11 h12 h13 h14 h15 h16 h17 h18 h19 h20 h21
  obtain ⟨u0, e0, k0⟩ := hc 0 a0 rfl
  cases e0
  obtain ⟨x0, rfl, r0⟩ := cell_int k0
  obtain ⟨u1, e1, k1⟩ := hc 1 a1 rfl
  cases e1
  obtain ⟨x1, rfl⟩ := cell_float k1
  obtain ⟨u2, e2, k2⟩ := hc 2 a2 rfl
  cases e2
  obtain ⟨x2, rfl, r2⟩ := cell_int k2
  obtain ⟨u3, e3, k3⟩ := hc 3 a3 rfl
  cases e3
  obtain ⟨x3, rfl⟩ := cell_float k3
  obtain ⟨u4, e4, k4⟩ := hc 4 a4 rfl
  cases e4
  obtain ⟨x4, rfl⟩ := cell_float k4
  obtain ⟨u5, e5, k5⟩ := hc 5 a5 rfl
  cases e5
  obtain ⟨x5, rfl⟩ := cell_float k5
  obtain ⟨u6, e6, k6⟩ := hc 6 a6 rfl
  cases e6
  obtain ⟨x6, rfl⟩ := cell_float k6
  obtain ⟨u7, e7, k7⟩ := hc 7 a7 rfl
  cases e7
  obtain ⟨x7, rfl⟩ := cell_float k7
  obtain ⟨u8, e8, k8⟩ := hc 8 a8 rfl
  cases e8
  obtain ⟨x8, rfl⟩ := cell_float k8
  obtain ⟨u9, e9, k9⟩ := hc 9 a9 rfl
  cases e9
  obtain ⟨x9, rfl⟩ := cell_float k9
  obtain ⟨u10, e10, k10⟩ := hc 10 a10 rfl
  cases e10
  obtain ⟨x10, rfl, r10⟩ := cell_int k10
  obtain ⟨u11, e11, k11⟩ := hc 11 a11 rfl
  cases e11
  obtain ⟨x11, rfl⟩ := cell_float k11
  obtain ⟨u12, e12, k12⟩ := hc 12 a12 rfl
  cases e12
  obtain ⟨x12, rfl⟩ := cell_float k12
  obtain ⟨u13, e13, k13⟩ := hc 13 a13 rfl
  cases e13
  obtain ⟨x13, rfl⟩ := cell_float k13
  obtain ⟨u14, e14, k14⟩ := hc 14 a14 rfl
  cases e14
  obtain ⟨x14, rfl⟩ := cell_float k14
  obtain ⟨u15, e15, k15⟩ := hc 15 a15 rfl
  cases e15
  obtain ⟨x15, rfl⟩ := cell_float k15
  obtain ⟨u16, e16, k16⟩ := hc 16 a16 rfl
  cases e16
  obtain ⟨x16, rfl⟩ := cell_float k16
  obtain ⟨u17, e17, k17⟩ := hc 17 a17 rfl
  cases e17
  obtain ⟨x17, rfl⟩ := cell_float k17
  obtain ⟨u18, e18, k18⟩ := hc 18 a18 rfl
  cases e18
  obtain ⟨x18, rfl⟩ := cell_float k18
  obtain ⟨u19, e19, k19⟩ := hc 19 a19 rfl
  cases e19
  obtain ⟨x19, rfl⟩ := cell_float k19
  obtain ⟨u20, e20, k20⟩ := hc 20 a20 rfl
  cases e20
  obtain ⟨x20, rfl⟩ := cell_float k20
  obtain ⟨u21, e21, k21⟩ := hc 21 a21 rfl
  cases e21
  obtain ⟨x21, rfl, r21⟩ := cell_int k21
  exact ⟨⟨x0, x1, x2, x3, x4, x5, x6, x7, x8, x9, ⟨x10, x11, x12, x13, x14, x15, x16, x17, x18, x19, x20, x21⟩⟩, rfl, r21⟩
end Go.Proofs.Qxb6602162a
