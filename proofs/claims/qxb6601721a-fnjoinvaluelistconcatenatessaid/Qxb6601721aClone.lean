/-
  The walk of cloneBytes (function 9).
-/
import Derived.Test.Qxb6601721aBase
namespace Go.Proofs.Qxb6601721a
open Go.RowKit

/-- What stands in the new row after k rounds. -/
def cloned (xs : List Int) (k : Nat) : List Int := xs.take k ++ List.replicate (xs.length - k) 0

theorem cloned_len (xs : List Int) (k : Nat) (h : k ≤ xs.length) : (cloned xs k).length = xs.length := by simp [cloned]; omega
theorem cloned_zero (xs : List Int) : cloned xs 0 = List.replicate xs.length 0 := by simp [cloned]
theorem cloned_all (xs : List Int) : cloned xs xs.length = xs := by simp [cloned]
theorem cloned_step (xs : List Int) (k : Nat) (h : k < xs.length) : (bys (cloned xs k)).set k (.int .u8 (xs.getD k 0)) = bys (cloned xs (k + 1)) := by
  unfold cloned bys
  rw [← List.map_set]
  congr 1
  have e1 : xs.take (k + 1) = xs.take k ++ [xs.getD k 0] := by
    rw [List.take_succ_eq_append_getElem h]; simp [List.getD, h]
  have e2 : List.replicate (xs.length - k) (0 : Int) = 0 :: List.replicate (xs.length - (k + 1)) 0 := by
    rw [show xs.length - k = (xs.length - (k + 1)) + 1 by omega, List.replicate_succ]
  have e3 : k = (xs.take k).length := by simp; omega
  rw [e1, e2, List.append_assoc]
  rw [List.set_append_right _ _ (by omega), show k - (xs.take k).length = 0 by omega]
  rfl

set_option maxHeartbeats 400000 in
theorem clone_any (v : Value) (xs : List Int) (w : World) (h : Rd w v xs) (hs : xs.length ≤ 1048576) :
    Calls Try.prog 9 #[v] w fun e w' => ∃ v', e = .returned v' ∧ Own w' w.heap.size v' xs ∧ Below w.heap.size w w' := by
  obtain ⟨i0, hi, hz0, hz1, hz2⟩ := info_parts Try.info5
  have q22 : ∀ (w : World) (a : Option Addr) (n c : Nat), (binOp .eql 22 (.slice a n c) (.slice none 0 0)).run Try.prog w = .ok (.bool a.isNone) w := fun w a n c => Lib.run_eql_slice_nil w 22 5 a n c 0 0 Try.underlying22
  rcases h with ⟨rfl, rfl⟩ | ⟨x, cap, rfl, hl, hm, hc⟩
  · go_enter Try.func9, Try.ntmps9
    go_wp2
    go_ret
    exact ⟨_, rfl, World.ownsRow_nil _ _ _ _, Below.refl _ _⟩
  · go_enter Try.func9, Try.ntmps9
    go_wp2_with (at_make; refine wpList_make_full _ rfl _ _ 22 rfl w.heap.size 5 i0 (.int .u8 0) 1 Try.underlying22 hi hz0 hz1 _ _ _ _ xs.length rfl rfl (by omega) (by omega) ?b2 ?b3 (Nat.le_refl _) ?_)
    case b2 => rw [hz2]; omega
    case b3 => unfold maxLen; omega
    intro w0 hown0 hgrow0
    have hown1 : w0.ownsRow w.heap.size 5 1 (.slice (some ⟨w.heap.size, 0, none⟩) xs.length xs.length) xs.length (bys (cloned xs 0)) := by
      rw [cloned_zero]; simpa [bys, toList_madeCells_one] using hown0
    clear hown0
    go_wp2
    go_loopw [4] (fun i wr => ∃ k : Nat, k ≤ xs.length ∧ i = .int .i64 k ∧ wr.ownsRow w.heap.size 5 1 (.slice (some ⟨w.heap.size, 0, none⟩) xs.length xs.length) xs.length (bys (cloned xs k)) ∧ Below w.heap.size w wr)
      (fun i _ => xs.length - (intOf i).toNat)
    case atStart => exact ⟨0, Nat.zero_le _, rfl, hown1, (Below.refl _ _).grown hgrow0 (Nat.le_refl _) (fun k h => by cases h)⟩
    case round =>
      obtain ⟨k, hk, rfl, hown, hgrow⟩ := hrel
      clear hown1 hgrow0
      by_cases hlt : k < xs.length
      · have hck := cell_later hgrow (hc k hlt)
        have hfz := hown.frozenAt k
        obtain ⟨u, hcd⟩ : ∃ u, wr.cell? ⟨w.heap.size, k, none⟩ = some u := by
          rw [hown.cellAt k (by omega)]
          exact ⟨_, List.getElem?_eq_getElem (by rw [hown.1]; omega)⟩
        have R := hown.stored k (.int .u8 (xs.getD k 0))
        have R1 := R.1
        rw [cloned_step xs k hlt] at R1
        have R2 := hgrow.setCell (p := ⟨w.heap.size, k, none⟩) (Nat.le_refl _) (.int .u8 (xs.getD k 0))
        clear hown hgrow R
        generalize xs.getD k 0 = c at hck R1 R2
        go_wp2
        go_roundw
        case rel => exact ⟨k + 1, by omega, by go_num, R1, R2⟩
        case measure => simp [intOf]; omega
      · obtain rfl : k = xs.length := by omega
        rw [cloned_all] at hown
        go_wp2
        go_ret
        exact ⟨_, rfl, hown, hgrow⟩
end Go.Proofs.Qxb6601721a
