/-
  A slice of byte slices that can be read; the walks of the guards (14, 15) over it.
-/
import Derived.Test.Qxb6601721aBase
import Derived.Test.Qxb6601721aJoinPlain
namespace Go.Proofs.Qxb6601721a
open Go.RowKit

/-- v is a slice of byte slices that reads 'items' in w. -/
def RdI (w : World) (v : Value) (items : List (List Int)) : Prop :=
  ∃ (ao : Option Addr) (cap : Nat), v = .slice ao items.length cap ∧ items.length ≤ maxLen ∧
    ∀ j, j < items.length → ∃ (g o : Nat) (u : Value), ao = some ⟨g, o, none⟩ ∧ w.cell? ⟨g, o + j, none⟩ = some u ∧ Rd w u (items.getD j [])

theorem RdI.below {w w' : World} {v : Value} {items : List (List Int)} (h : RdI w v items) (b : Below w.heap.size w w') : RdI w' v items := by
  obtain ⟨ao, cap, e, hm, hc⟩ := h
  refine ⟨ao, cap, e, hm, fun j hj => ?_⟩
  obtain ⟨g, o, u, h1, h2, h3⟩ := hc j hj
  exact ⟨g, o, u, h1, cell_later b h2, h3.below b⟩

theorem Rd.form {w : World} {u : Value} {xs : List Int} (h : Rd w u xs) :
    ∃ ao cap, u = .slice ao xs.length cap ∧ xs.length ≤ 9223372036854775807 ∧ ∀ j, j < xs.length → ∃ g o, ao = some ⟨g, o, none⟩ ∧ w.cell? ⟨g, o + j, none⟩ = some (.int .u8 (xs.getD j 0)) := by
  rcases h with ⟨rfl, rfl⟩ | ⟨x, cap, rfl, hl, hm, hc⟩
  · exact ⟨none, 0, rfl, by simp, fun j hj => by simp at hj⟩
  · refine ⟨some x, cap, rfl, by unfold maxLen at hm; omega, fun j hj => ?_⟩
    obtain ⟨b, o, spot⟩ := x
    have hspot : spot = none := by simpa [Addr.add] using World.cell?_spot (hc 0 (by omega))
    subst hspot
    refine ⟨b, o, rfl, ?_⟩
    have := hc j hj
    rwa [Addr.add_lit] at this

/-- What a guard answers: where it says true, the lengths sum to at most 1<<20. -/
def Guarded (items : List (List Int)) (w : World) (e : Ending) (w' : World) : Prop := ∃ b : Bool, e = .returned (.bool b) ∧ w' = w ∧ (b = true → items.length + szTo items items.length ≤ 1048576)
/-- What nestedSize answers. -/
def Sized (w : World) (e : Ending) (w' : World) : Prop := ∃ t : Nat, e = .returned (.int .i64 t) ∧ w' = w ∧ t ≤ 4194304

set_option maxHeartbeats 400000 in
theorem size14_any (v : Value) (items : List (List Int)) (w : World) (h : RdI w v items) :
    Calls Try.prog 14 #[v] w (Guarded items w) := by
  obtain ⟨ao, cap, rfl, hm, hc⟩ := h
  unfold maxLen at hm
  by_cases hn : items.length ≤ 1048576
  · go_enter Try.func14, Try.ntmps14
    go_wp2
    go_loop [3, 4] (fun n i => ∃ k : Nat, k ≤ items.length ∧ i = .int .i64 k ∧ n = .int .i64 ((items.length + szTo items k : Nat) : Int) ∧ items.length + szTo items k ≤ 1048576) (fun _ i => items.length - (intOf i).toNat)
    case atStart => exact ⟨0, Nat.zero_le _, rfl, rfl, by simpa [szTo] using hn⟩
    case round =>
      obtain ⟨k, hk, rfl, rfl, hs⟩ := hrel
      by_cases hlt : k < items.length
      · obtain ⟨g, o, u, rfl, hcell, hrd⟩ := hc k hlt
        have HS : Hid (szTo items (k + 1) = szTo items k + (items.getD k []).length) := rfl
        generalize items.getD k [] = it at hrd HS
        obtain ⟨au, cu, rfl, hl, _⟩ := hrd.form
        clear hrd hc
        by_cases h1 : it.length ≤ 1048576
        · by_cases h2 : items.length + szTo items k + it.length ≤ 1048576
          · go_wp2
            go_round
            case rel => exact ⟨k + 1, by omega, by go_num, by rw [HS.out]; go_num, by rw [HS.out]; omega⟩
            case measure => simp [intOf]; omega
          · go_wp2
            go_ret
            exact ⟨false, rfl, rfl, by simp⟩
        · go_wp2
          go_ret
          exact ⟨false, rfl, rfl, by simp⟩
      · have hs2 : items.length + szTo items items.length ≤ 1048576 := by rwa [show k = items.length by omega] at hs
        clear hc
        go_wp2
        go_ret
        exact ⟨true, rfl, rfl, fun _ => hs2⟩
  · go_enter Try.func14, Try.ntmps14
    go_wp2
    go_ret
    exact ⟨false, rfl, rfl, by simp⟩

set_option maxHeartbeats 400000 in
theorem nested_any (v : Value) (items : List (List Int)) (w : World) (h : RdI w v items) (hn : items.length ≤ 65536) (hz : szTo items items.length ≤ 1048576) :
    Calls Try.prog 15 #[v] w (Sized w) := by
  obtain ⟨ao, cap, rfl, hm, hc⟩ := h
  clear hm
  go_enter Try.func15, Try.ntmps15
  go_wp2
  go_loop [3, 4] (fun n i => ∃ k : Nat, k ≤ items.length ∧ i = .int .i64 k ∧ n = .int .i64 ((items.length * 24 + szTo items k : Nat) : Int)) (fun _ i => items.length - (intOf i).toNat)
  case atStart => exact ⟨0, Nat.zero_le _, rfl, by simp [szTo]⟩
  case round =>
    obtain ⟨k, hk, rfl, rfl⟩ := hrel
    have hsk := szTo_le items hk
    by_cases hlt : k < items.length
    · obtain ⟨g, o, u, rfl, hcell, hrd⟩ := hc k hlt
      have HS : Hid (szTo items (k + 1) = szTo items k + (items.getD k []).length) := rfl
      have hit := item_le items hlt
      generalize items.getD k [] = it at hrd HS hit
      obtain ⟨au, cu, rfl, hl, _⟩ := hrd.form
      clear hrd hc
      by_cases h2 : items.length * 24 + szTo items k + it.length ≤ 1048576
      · go_wp2
        go_round
        case rel => exact ⟨k + 1, by omega, by go_num, by rw [HS.out]; go_num⟩
        case measure => simp [intOf]; omega
      · go_wp2
        go_ret
        exact ⟨items.length * 24 + szTo items k + it.length, by simp, rfl, by omega⟩
    · clear hc
      go_wp2
      go_ret
      exact ⟨items.length * 24 + szTo items k, rfl, rfl, by omega⟩
end Go.Proofs.Qxb6601721a
