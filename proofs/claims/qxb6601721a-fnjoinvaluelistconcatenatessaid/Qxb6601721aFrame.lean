/-
  From the reading of an argument of type [][]byte to 'RdI'.
-/
import Derived.Test.Qxb6601721aItems
import Derived.Deep.Matrix
import Derived.ProofKit
import Derived.OpenShut
import Derived.ShutString
import Derived.ChangeOld
namespace Go.Proofs.Qxb6601721a
open Go.ChangeShapes Go.WideShapes Go.ChangeAt Go.RowKit

theorem own : ownKnob Try.prog.godebug = none := by kernel_rfl
theorem laidOut : laidOutB Try.prog = true := by kernel_rfl

theorem rdi_open {H : Type} {enc : TypeId × Value → H} {W : World} {a : Option Addr} {len cap : Nat} {d : DataW H} {ps : List MemPlace}
    (h : DataW.Trod enc Try.prog W 0 (fun _ => true) true 28 (.slice a len cap) d ps) : ∃ items, RdI W (.slice a len cap) items := by
  obtain ⟨fuel, hf⟩ := h
  rcases Go.Deep.open_int_rows Try.underlying28 Try.underlying22 Try.underlying5 (by kernel_rfl) (by kernel_rfl) hf with ⟨hcs, _⟩ | ⟨x, l, c, A, L, C, Z, hcs, _, hl, hm, _, hx⟩
  · simp [Value.cells] at hcs
    obtain ⟨rfl, rfl, rfl⟩ := hcs
    exact ⟨[], none, 0, rfl, by simp [maxLen], fun j hj => by simp at hj⟩
  · simp [Value.cells] at hcs
    obtain ⟨rfl, rfl, rfl⟩ := hcs
    refine ⟨(List.range len).map fun r => (Z r).take (L r), some x, cap, by simp, by simp; omega, fun j hj => ?_⟩
    have hj' : j < len := by simpa using hj
    obtain ⟨b, o, spot⟩ := x
    have hspot : spot = none := by simpa [Addr.add] using World.cell?_spot (hx 0 (by omega)).1
    subst hspot
    obtain ⟨h1, h2, h3, h4, _, h6, h7⟩ := hx j (by omega)
    rw [Addr.add_lit] at h1
    refine ⟨b, o, _, rfl, h1, ?_⟩
    have e : ((List.range len).map fun r => (Z r).take (L r)).getD j [] = (Z j).take (L j) := by simp [List.getD, hj']
    rw [e]
    have hlen : ((Z j).take (L j)).length = L j := by simp; omega
    cases hA : A j with
    | none =>
      have hC := h6 hA
      have hL : L j = 0 := by omega
      rw [hL, hC]
      exact .inl ⟨rfl, rfl⟩
    | some y =>
      refine .inr ⟨y, C j, by rw [hlen], by omega, h3, fun i hi => ?_⟩
      rw [(h7 y hA).2 i (by omega)]
      simp [List.getD, show i < L j by omega]
end Go.Proofs.Qxb6601721a
