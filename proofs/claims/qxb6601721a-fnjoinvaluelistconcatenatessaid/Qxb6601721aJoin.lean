/-
  The walks of joinValueList (20) and ZZjoinValueList (17).
-/
import Derived.Test.Qxb6601721aItems
namespace Go.Proofs.Qxb6601721a
open Go.RowKit

theorem one_cell (w : World) (a : Int) : ∀ x, some (⟨w.heap.size, 0, none⟩ : Addr) = some x → ∀ j, j < [a].length → (w.alloc (.cells #[.int .u8 a] 5)).cell? (x.add j) = some (.int .u8 ([a].getD j 0)) := by
  intro x hx j hj
  cases hx
  match j, hj with
  | 0, _ => exact cell_one_new w _ 5 0 _ rfl

/-- The value is nil just where nothing has been written. -/
def NilAs (v : Value) (l : List Int) : Prop := v = .slice none 0 0 ↔ l = []
theorem NilAs.app {v' : Value} {l : List Int} {c : Int} (h : ¬ v' = .slice none 0 0) : NilAs v' (l ++ [c]) := by
  unfold NilAs
  simp [h]

set_option maxHeartbeats 1000000 in
set_option maxRecDepth 100000 in
theorem join_any (v : Value) (items : List (List Int)) (w : World) (h : RdI w v items) (hn : items.length ≤ 1048576) (hz : szTo items items.length ≤ 1048576) :
    Calls Try.prog 20 #[v] w fun e w' => ∃ v', e = .returned v' ∧ Own w' w.heap.size v' (joinTo items items.length) ∧ NilAs v' (joinTo items items.length) ∧ Below w.heap.size w w' := by
  obtain ⟨ao, cap, rfl, hm, hc⟩ := h
  unfold maxLen at hm
  have HC := hide hc
  clear hc
  go_enter Try.func20, Try.ntmps20
  go_wp2
  go_loopw [3, 10] (fun b i wr => ∃ k : Nat, k ≤ items.length ∧ i = .int .i64 k ∧ Own wr w.heap.size b (joinTo items k) ∧ NilAs b (joinTo items k) ∧ Grew w none wr b) (fun _ i _ => items.length - (intOf i).toNat)
  case atStart => exact ⟨0, Nat.zero_le _, rfl, World.ownsRow_nil _ _ _ _, by simp [NilAs, joinTo], Grew.start w (.slice none 0 0)⟩
  case round =>
    obtain ⟨k, hk, rfl, hO, hN, hG⟩ := hrel
    by_cases hlt : k < items.length
    · obtain ⟨g, o, u, rfl, hcell0, hrd⟩ := (unhide HC) k hlt
      have hB : Below w.heap.size w wr := (Below.refl _ _).grown hG.grown (Nat.le_refl _) (fun k h => by cases h)
      have hcell := cell_later hB hcell0
      have hit := item_le items hlt
      have HMS := hide (mid_succ items k)
      have HMA := hide (mid_all items k)
      have HML : Hid (∀ p, p ≤ (items.getD k []).length → (mid items k p).length ≤ 16777216) := fun p hp => by have := mid_len items k p hp; omega
      have HM0 := hide (mid_zero items k)
      generalize items.getD k [] = it at hrd hit HMS HMA HML
      obtain ⟨au, cu, rfl, hl, hci⟩ := hrd.form
      have HI := hide hci
      have hm0 := (unhide HML) 0 (Nat.zero_le _)
      clear hcell0 hrd hci hB
      by_cases hk0 : k = 0
      · have hO1 : Own wr w.heap.size u3 (mid items k 0) := by rw [unhide HM0]; simpa [sep, hk0] using hO
        have hN1 : NilAs u3 (mid items k 0) := by rw [unhide HM0]; simpa [sep, hk0] using hN
        have hG1 := hG
        have hk1 : decide (0 < k) = false := decide_eq_false (by omega)
        clear hO hN hG hk0
        go_wp2
        go_loopw [3, 22] (fun b i wr => ∃ p : Nat, p ≤ it.length ∧ i = .int .i64 p ∧ Own wr w.heap.size b (mid items k p) ∧ NilAs b (mid items k p) ∧ Grew w none wr b) (fun _ i _ => it.length - (intOf i).toNat)
        case atStart => exact ⟨0, Nat.zero_le _, rfl, hO1, hN1, hG1⟩
        case round =>
          clear hO1 hN1 hG1
          obtain ⟨p, hp, rfl, hO, hN, hG⟩ := hrel
          have hB : Below w.heap.size w wr := (Below.refl _ _).grown hG.grown (Nat.le_refl _) (fun k h => by cases h)
          by_cases hlt2 : p < it.length
          · obtain ⟨gi, oi, rfl, hci0⟩ := (unhide HI) p hlt2
            have hci := cell_later hB hci0
            have hml := (unhide HML) (p + 1) hlt2
            have HS : Hid (mid items k (p + 1) = mid items k p ++ esc (it.getD p 0)) := (unhide HMS) p hlt2
            clear hci0 hB
            generalize it.getD p 0 = c at hci HS
            by_cases hc1 : c = 44 ∨ c = 92
            · have HE : Hid (mid items k p ++ [92] ++ [c] = mid items k (p + 1)) := by
                unfold Hid; rw [HS.out]; simp [esc, hc1]
              obtain ⟨L, hL⟩ : ∃ L, mid items k p ++ [92] = L := ⟨_, rfl⟩
              have EL := hide hL
              have EE : Hid (L ++ [c] = mid items k (p + 1)) := by rw [← hL]; exact HE
              have hLl : L.length ≤ 16777216 := by have := congrArg List.length (unhide EE); rw [List.length_append] at this; simp at this; omega
              clear HE hL HS
              rcases hc1 with hc1 | hc1
              all_goals
                subst hc1
                go_wp2_with (at_builtin; refine wpList_app rfl (.tmp 32) (.tmp 33) rfl w none w.heap.size _ _ rfl (hO.alloc _) (hG.alloc _) (Nat.le_refl _) (some ⟨wr.heap.size, 0, none⟩) 1 1 [92] rfl rfl (by intro h; cases h) (one_cell _ _) L (unhide EL) hLl ?_)
                intro v1 w1 hO1 hG1 hn1
                have hN1 := hide hn1
                clear hn1 hO hG hN EL
                go_wp2_with (at_builtin; refine wpList_app rfl (.tmp 35) (.tmp 37) rfl w none w.heap.size _ _ rfl (hO1.alloc _) (hG1.alloc _) (Nat.le_refl _) (some ⟨w1.heap.size, 0, none⟩) 1 1 [_] rfl rfl (by intro h; cases h) (one_cell _ _) _ (unhide EE) hml ?_)
                intro v2 w2 hO2 hG2 hn2
                have hN2 : NilAs v2 (mid items k (p + 1)) := by rw [← unhide EE]; exact NilAs.app hn2
                clear hn2 EE hO1 hG1 hN1
                go_wp2
                go_roundw
                case rel => exact ⟨p + 1, by omega, by go_num, hO2, hN2, hG2⟩
                case measure => simp [intOf]; omega
            · have EE : Hid (mid items k p ++ [c] = mid items k (p + 1)) := by
                unfold Hid; rw [HS.out]; simp [esc, hc1]
              have hb1 : (c == 44) = false := by rw [beq_eq_false_iff_ne]; omega
              have hb2 : (c == 92) = false := by rw [beq_eq_false_iff_ne]; omega
              clear HS hc1
              go_wp2_with (at_builtin; refine wpList_app rfl (.tmp 35) (.tmp 37) rfl w none w.heap.size _ _ rfl (hO.alloc _) (hG.alloc _) (Nat.le_refl _) (some ⟨wr.heap.size, 0, none⟩) 1 1 [c] rfl rfl (by intro h; cases h) (one_cell _ _) _ (unhide EE) hml ?_)
              intro v2 w2 hO2 hG2 hn2
              have hN2 : NilAs v2 (mid items k (p + 1)) := by rw [← unhide EE]; exact NilAs.app hn2
              clear hn2 EE hO hG hN
              go_wp2
              go_roundw
              case rel => exact ⟨p + 1, by omega, by go_num, hO2, hN2, hG2⟩
              case measure => simp [intOf]; omega
          · have hpe : p = it.length := by omega
            rw [hpe, unhide HMA] at hO hN
            clear hpe hB
            go_wp2
            go_roundw
            case rel => exact ⟨k + 1, by omega, by go_num, hO, hN, hG⟩
            case measure => simp [intOf]; omega
      · have EL : Hid (joinTo items k ++ [44] = mid items k 0) := by unfold Hid; rw [unhide HM0]; simp [sep, hk0]
        have hk1 : 0 < k := by omega
        clear hk0
        go_wp2_with (at_builtin; refine wpList_app rfl (.tmp 17) (.tmp 18) rfl w none w.heap.size _ _ rfl (hO.alloc _) (hG.alloc _) (Nat.le_refl _) (some ⟨wr.heap.size, 0, none⟩) 1 1 [44] rfl rfl (by intro h; cases h) (one_cell _ _) _ (unhide EL) hm0 ?_)
        intro v1 w1 hO1 hG1 hn1
        have hN1 : NilAs v1 (mid items k 0) := by rw [← unhide EL]; exact NilAs.app hn1
        clear hn1 EL hO hG hN
        go_wp2
        go_loopw [3, 22] (fun b i wr => ∃ p : Nat, p ≤ it.length ∧ i = .int .i64 p ∧ Own wr w.heap.size b (mid items k p) ∧ NilAs b (mid items k p) ∧ Grew w none wr b) (fun _ i _ => it.length - (intOf i).toNat)
        case atStart => exact ⟨0, Nat.zero_le _, rfl, hO1, hN1, hG1⟩
        case round =>
          clear hO1 hN1 hG1
          obtain ⟨p, hp, rfl, hO, hN, hG⟩ := hrel
          have hB : Below w.heap.size w wr := (Below.refl _ _).grown hG.grown (Nat.le_refl _) (fun k h => by cases h)
          by_cases hlt2 : p < it.length
          · obtain ⟨gi, oi, rfl, hci0⟩ := (unhide HI) p hlt2
            have hci := cell_later hB hci0
            have hml := (unhide HML) (p + 1) hlt2
            have HS : Hid (mid items k (p + 1) = mid items k p ++ esc (it.getD p 0)) := (unhide HMS) p hlt2
            clear hci0 hB
            generalize it.getD p 0 = c at hci HS
            by_cases hc1 : c = 44 ∨ c = 92
            · have HE : Hid (mid items k p ++ [92] ++ [c] = mid items k (p + 1)) := by
                unfold Hid; rw [HS.out]; simp [esc, hc1]
              obtain ⟨L, hL⟩ : ∃ L, mid items k p ++ [92] = L := ⟨_, rfl⟩
              have EL := hide hL
              have EE : Hid (L ++ [c] = mid items k (p + 1)) := by rw [← hL]; exact HE
              have hLl : L.length ≤ 16777216 := by have := congrArg List.length (unhide EE); rw [List.length_append] at this; simp at this; omega
              clear HE hL HS
              rcases hc1 with hc1 | hc1
              all_goals
                subst hc1
                go_wp2_with (at_builtin; refine wpList_app rfl (.tmp 32) (.tmp 33) rfl w none w.heap.size _ _ rfl (hO.alloc _) (hG.alloc _) (Nat.le_refl _) (some ⟨wr.heap.size, 0, none⟩) 1 1 [92] rfl rfl (by intro h; cases h) (one_cell _ _) L (unhide EL) hLl ?_)
                intro v1 w1 hO1 hG1 hn1
                have hN1 := hide hn1
                clear hn1 hO hG hN EL
                go_wp2_with (at_builtin; refine wpList_app rfl (.tmp 35) (.tmp 37) rfl w none w.heap.size _ _ rfl (hO1.alloc _) (hG1.alloc _) (Nat.le_refl _) (some ⟨w1.heap.size, 0, none⟩) 1 1 [_] rfl rfl (by intro h; cases h) (one_cell _ _) _ (unhide EE) hml ?_)
                intro v2 w2 hO2 hG2 hn2
                have hN2 : NilAs v2 (mid items k (p + 1)) := by rw [← unhide EE]; exact NilAs.app hn2
                clear hn2 EE hO1 hG1 hN1
                go_wp2
                go_roundw
                case rel => exact ⟨p + 1, by omega, by go_num, hO2, hN2, hG2⟩
                case measure => simp [intOf]; omega
            · have EE : Hid (mid items k p ++ [c] = mid items k (p + 1)) := by
                unfold Hid; rw [HS.out]; simp [esc, hc1]
              have hb1 : (c == 44) = false := by rw [beq_eq_false_iff_ne]; omega
              have hb2 : (c == 92) = false := by rw [beq_eq_false_iff_ne]; omega
              clear HS hc1
              go_wp2_with (at_builtin; refine wpList_app rfl (.tmp 35) (.tmp 37) rfl w none w.heap.size _ _ rfl (hO.alloc _) (hG.alloc _) (Nat.le_refl _) (some ⟨wr.heap.size, 0, none⟩) 1 1 [c] rfl rfl (by intro h; cases h) (one_cell _ _) _ (unhide EE) hml ?_)
              intro v2 w2 hO2 hG2 hn2
              have hN2 : NilAs v2 (mid items k (p + 1)) := by rw [← unhide EE]; exact NilAs.app hn2
              clear hn2 EE hO hG hN
              go_wp2
              go_roundw
              case rel => exact ⟨p + 1, by omega, by go_num, hO2, hN2, hG2⟩
              case measure => simp [intOf]; omega
          · have hpe : p = it.length := by omega
            rw [hpe, unhide HMA] at hO hN
            clear hpe hB
            go_wp2
            go_roundw
            case rel => exact ⟨k + 1, by omega, by go_num, hO, hN, hG⟩
            case measure => simp [intOf]; omega
    · have hke : k = items.length := by omega
      rw [hke] at hO hN
      have hB : Below w.heap.size w wr := (Below.refl _ _).grown hG.grown (Nat.le_refl _) (fun k h => by cases h)
      clear hke hG
      go_wp2
      go_ret
      exact ⟨_, rfl, hO, hN, hB⟩
end Go.Proofs.Qxb6601721a
