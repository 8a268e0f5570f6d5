/-
  The walk of cloneItems (16).
-/
import Derived.Test.Qxb6601721aClone
import Derived.Test.Qxb6601721aItems
namespace Go.Proofs.Qxb6601721a
open Go.RowKit

theorem Try.info22 : (Try.prog.info? 22).map (fun i => (i.zero, i.size, i.bytes)) = some (some (.slice none 0 0), 1, 24) := by kernel_rfl

/-- The new outer row after k rounds: block B, its first k cells lead to copies. -/
structure Part (W : World) (items : List (List Int)) (k : Nat) (vs : List Value) (w : World) : Prop where
  len : vs.length = items.length
  row : w.ownsRow W.heap.size 22 1 (.slice (some ⟨W.heap.size, 0, none⟩) items.length items.length) items.length vs
  done : ∀ j, j < k → Own w (W.heap.size + 1) (vs.getD j undef) (items.getD j [])
  old : Below W.heap.size W w

theorem Part.next {W w w1 : World} {items : List (List Int)} {k : Nat} {vs : List Value} {v' : Value} (h : Part W items k vs w) (hk : k < items.length) (ho : Own w1 w.heap.size v' (items.getD k [])) (hb : Below w.heap.size w w1) :
    Part W items (k + 1) (vs.set k v') (w1.setCell ⟨W.heap.size, k, none⟩ v') := by
  have hlt : W.heap.size < w.heap.size := ((h.row.lt W.heap.size rfl).2)
  have row1 : w1.ownsRow W.heap.size 22 1 (.slice (some ⟨W.heap.size, 0, none⟩) items.length items.length) items.length vs :=
    World.ownsRow.kept h.row (row := none) ⟨hb.os, hb.tape, hb.output, hb.size, fun k hk _ => hb.block k hk⟩ (.inr (by simp [Value.ownBlock]))
  refine ⟨by rw [List.length_set, h.len], (row1.stored k v').1, fun j hj => ?_, (h.old.trans (hb.mono h.old.size)).setCell (Nat.le_refl _) v'⟩
  have at1 : Own w1 (W.heap.size + 1) ((vs.set k v').getD j undef) (items.getD j []) := by
    by_cases e : j = k
    · subst e
      have : (vs.set j v').getD j undef = v' := by simp [List.getD, h.len, hk]
      rw [this]
      exact ho.mono (by omega)
    · have : (vs.set k v').getD j undef = vs.getD j undef := by simp [List.getD, show ¬ k = j from fun h => e h.symm]
      rw [this]
      exact (h.done j (by omega)).below hb
  exact ownsRow_setCell_below at1 (by simp) v'

theorem Part.cell {W w : World} {items : List (List Int)} {k : Nat} {vs : List Value} (h : Part W items k vs w) (j : Nat) (hj : j < items.length) : w.cell? ⟨W.heap.size, j, none⟩ = some (vs.getD j undef) := by
  rw [h.row.cellAt j (by omega)]
  have hl : j < vs.length := by rw [h.len]; exact hj
  simp [List.getD, hl]

theorem Part.rdi {W w : World} {items : List (List Int)} {vs : List Value} (h : Part W items items.length vs w) (hm : items.length ≤ maxLen) : RdI w (.slice (some ⟨W.heap.size, 0, none⟩) items.length items.length) items :=
  ⟨_, _, rfl, hm, fun j hj => ⟨W.heap.size, 0, vs.getD j undef, rfl, by rw [Nat.zero_add]; exact h.cell j hj, (h.done j hj).rd⟩⟩

set_option maxHeartbeats 400000 in
theorem cloneItems_any (v : Value) (items : List (List Int)) (w : World) (h : RdI w v items) (hn : items.length ≤ 1048576) (hz : szTo items items.length ≤ 1048576) :
    Calls Try.prog 16 #[v] w fun e w' => ∃ v', e = .returned v' ∧ RdI w' v' items ∧ Below w.heap.size w w' := by
  obtain ⟨i0, hi, hz0, hz1, hz2⟩ := info_parts Try.info22
  have q28 : ∀ (w : World) (a : Option Addr) (n c : Nat), (binOp .eql 28 (.slice a n c) (.slice none 0 0)).run Try.prog w = .ok (.bool a.isNone) w := fun w a n c => Lib.run_eql_slice_nil w 28 22 a n c 0 0 Try.underlying28
  obtain ⟨ao, cap, rfl, hm, hc⟩ := h
  cases ao with
  | none =>
    have hl : items = [] := by
      cases items with
      | nil => rfl
      | cons a l => obtain ⟨g, o, u, h, _⟩ := hc 0 (by simp); cases h
    subst hl
    go_enter Try.func16, Try.ntmps16
    go_wp2
    go_ret
    exact ⟨_, rfl, ⟨none, 0, rfl, by simp [maxLen], fun j hj => by simp at hj⟩, Below.refl _ _⟩
  | some x =>
    have hrd := fun k (hk : k < items.length) => hc k hk
    clear hc
    have HC := hide hrd
    clear hrd
    go_enter Try.func16, Try.ntmps16
    go_wp2_with (at_make; refine wpList_make_full _ rfl _ _ 28 rfl w.heap.size 22 i0 (.slice none 0 0) 1 Try.underlying28 hi hz0 hz1 _ _ _ _ items.length rfl rfl (by omega) (by omega) ?b2 ?b3 (Nat.le_refl _) ?_)
    case b2 => rw [hz2]; omega
    case b3 => unfold maxLen; omega
    intro w0 hown0 hgrow0
    have P0 : ∃ vs, Part w items 0 vs w0 := by
      refine ⟨_, ?_, hown0, fun j hj => by omega, (Below.refl _ _).grown hgrow0 (Nat.le_refl _) (fun k h => by cases h)⟩
      have := hown0.1; omega
    clear hown0 hgrow0
    go_wp2
    go_loopw [4] (fun i wr => ∃ (k : Nat) (vs : List Value), k ≤ items.length ∧ i = .int .i64 k ∧ Part w items k vs wr) (fun i _ => items.length - (intOf i).toNat)
    case atStart => obtain ⟨vs, h⟩ := P0; exact ⟨0, vs, Nat.zero_le _, rfl, h⟩
    case round =>
      obtain ⟨k, vs, hk, rfl, hP⟩ := hrel
      clear P0
      by_cases hlt : k < items.length
      · obtain ⟨g, o, u, hx, hcell, hrd⟩ := (unhide HC) k hlt
        cases hx
        have c1 := cell_later hP.old hcell
        have r1 := hrd.below hP.old
        have hlen : (items.getD k []).length ≤ 1048576 := Nat.le_trans (Nat.le_trans (Nat.le_add_left _ _) (item_le items hlt)) hz
        clear hcell hrd
        go_wp2_with fail
        refine (clone_any _ (items.getD k []) _ r1 hlen).mono ?_
        rintro e w1 ⟨v', rfl, ho, hb⟩
        have hN := hP.next hlt ho hb
        have hcell := cell_later hb (hP.cell k hlt)
        have hfz : w1.frozen? ⟨w.heap.size, k, none⟩ = false := by
          rw [hb.frozen (p := ⟨w.heap.size, k, none⟩) (hP.row.lt w.heap.size rfl).2]
          exact hP.row.frozenAt k
        obtain ⟨av, cv, rfl, _, _, _⟩ := ho.form
        clear hP ho hb r1 c1 hlen
        generalize (items.getD k []).length = ln at hN ⊢
        go_wp2
        go_roundw
        case rel => exact ⟨k + 1, _, by omega, by go_num, hN⟩
        case measure => simp [intOf]; omega
      · have hke : k = items.length := by omega
        rw [hke] at hP
        have hR := hP.rdi hm
        have hB := hP.old
        clear hke hP
        go_wp2
        go_ret
        exact ⟨_, rfl, hR, hB⟩
end Go.Proofs.Qxb6601721a
