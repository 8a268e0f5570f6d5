/-
  The walk of FnJoinValueListDecodesBack (6).
-/
import Derived.Test.Qxb6601721aCloneItems
import Derived.Test.Qxb6601721aZZJoin
namespace Go.Proofs.Qxb6601721a.decode
open Go.RowKit

theorem nil_case {ao : Option Addr} {cap : Nat} {J : List Int} (hN : NilAs (.slice ao J.length cap) J) (hc : ∀ j, j < J.length → ∃ g, ao = some (⟨g, 0, none⟩ : Addr)) :
    (ao = none ∧ J = []) ∨ ∃ g, ao = some ⟨g, 0, none⟩ ∧ 0 < J.length := by
  cases J with
  | nil => exact .inl ⟨by simpa using (Value.slice.inj (hN.2 rfl)).1, rfl⟩
  | cons c l =>
    obtain ⟨g, rfl⟩ := hc 0 (by simp)
    exact .inr ⟨g, rfl, by simp⟩

set_option maxHeartbeats 1000000 in
set_option maxRecDepth 100000 in
theorem walk (v : Value) (items : List (List Int)) (w : World) (h : RdI w v items) :
    Calls Try.prog 6 #[v] w fun e w' => e = .returned (.bool true) ∧ Below w.heap.size w w' := by
  have q22 : ∀ (w : World) (a : Option Addr) (n c : Nat), (binOp .eql 22 (.slice a n c) (.slice none 0 0)).run Try.prog w = .ok (.bool a.isNone) w := fun w a n c => Lib.run_eql_slice_nil w 22 5 a n c 0 0 Try.underlying22
  have h0 := h
  obtain ⟨ao, cap, rfl, hm, _⟩ := h0
  unfold maxLen at hm
  go_enter Try.func6, Try.ntmps6
  go_wp2_with fail
  refine (size14_any _ items _ h).mono ?_
  rintro e w' ⟨b, rfl, rfl, hb⟩
  cases b
  · go_wp2
    go_ret
    exact ⟨rfl, Below.refl _ _⟩
  have hs := hb rfl
  clear hb
  by_cases hn : items.length ≤ 65536
  · go_wp2_with fail
    refine (nested_any _ items _ h hn (by omega)).mono ?_
    rintro e w1 ⟨t, rfl, rfl, ht⟩
    by_cases ht2 : t ≤ 1048576
    · go_wp2_with fail
      refine (cloneItems_any _ items _ h (by omega) (by omega)).mono ?_
      rintro e w2 ⟨v2, rfl, R2, B2⟩
      go_wp2_with fail
      refine (zzjoin_any _ items _ R2 (by omega) (by omega)).mono ?_
      rintro e w3 ⟨v3, rfl, O3, N3, B3⟩
      have R3 := R2.below B3
      have BB : Below w1.heap.size w1 w3 := B2.trans (B3.mono B2.size)
      obtain ⟨a2, c2, rfl, _, hc2⟩ := R3
      obtain ⟨a3, c3, rfl, _, _, hc3⟩ := O3.form
      have hnt := nil_case N3 (fun j hj => (hc3 j hj).elim fun g h => ⟨g, h.1⟩)
      have hJ := joinTo_len items items.length
      have hsc := scan items
      have hJ0 : items.length = 0 → joinTo items items.length = [] := fun h => by rw [h]; rfl
      have HSC : Hid (∀ k p, k < items.length → p ≤ (items.getD k []).length → _) := fun k p => hsc k p items.length
      clear h R2 O3 N3 B2 B3 hsc ht ht2
      generalize joinTo items items.length = J at *
      have hJl : J.length ≤ 4194304 := by omega
      clear hJ hs
      rcases hnt with ⟨rfl, rfl⟩ | ⟨g3, rfl, hJp⟩
      · rcases Nat.eq_zero_or_pos items.length with hz0 | hpos
        · have hb0 : ((items.length : Int) == 0) = true := by rw [beq_iff_eq]; omega
          clear hJ0 HSC hz0
          go_wp2
          go_ret
          exact ⟨rfl, BB⟩
        · have hb0 : ((items.length : Int) == 0) = false := by rw [beq_eq_false_iff_ne]; omega
          have hS := (unhide HSC) 0 0 hpos (Nat.zero_le _)
          obtain ⟨g, o, u, rfl, hcell, hrd⟩ := hc2 0 hpos
          obtain ⟨au, cu, rfl, hl, hci⟩ := hrd.form
          rw [Nat.add_zero] at hcell
          generalize items.getD 0 [] = it at *
          have hfin : (it.length : Int) ≤ 0 ∧ (items.length : Int) ≤ 1 ∧ (1 : Int) ≤ items.length := by
            rcases hS with ⟨_, _, _, _, h5, _⟩ | ⟨_, _, _, _, h5, _⟩ | ⟨_, _, _, h5, _⟩ | ⟨h1, h2, h3⟩
            · simp at h5
            · simp at h5
            · simp at h5
            · omega
          have hb1 : ((0 : Int) == (items.length : Int) - 1) = true := by rw [beq_iff_eq]; omega
          have hb2 : ((0 : Int) == (it.length : Int)) = true := by rw [beq_iff_eq]; omega
          clear hJ0 HSC hS hrd hci hc2 hc3
          go_wp2
          refine wp_loop_rounds 1 ?_
          rw [rounds_succ]
          go_wp2
          go_ret
          exact ⟨rfl, BB⟩
      · have hpos : 0 < items.length := by
          rcases Nat.eq_zero_or_pos items.length with hz0 | hpos
          · rw [hJ0 hz0] at hJp; simp at hJp
          · exact hpos
        have hb0 : ((items.length : Int) == 0) = false := by rw [beq_eq_false_iff_ne]; omega
        have hb1 : ((J.length : Int) == 0) = false := by rw [beq_eq_false_iff_ne]; omega
        have HC2 := hide hc2
        have HC3 : Hid (∀ j, j < J.length → w3.cell? ⟨g3, j, none⟩ = some (.int .u8 (J.getD j 0))) := by
          intro j hj
          obtain ⟨g, e, h⟩ := hc3 j hj
          cases e
          exact h
        clear hJ0 hc2 hc3
        go_wp2
        go_loop [4, 5, 6] (fun sk sp si => ∃ k p : Nat, k < items.length ∧ p ≤ (items.getD k []).length ∧ sk = .int .i64 k ∧ sp = .int .i64 p ∧ si = .int .i64 ((mid items k p).length : Nat)) (fun _ _ si => J.length - (intOf si).toNat)
        case atStart => exact ⟨0, 0, hpos, Nat.zero_le _, rfl, rfl, by simp [mid, joinTo, sep, escs]⟩
        case round =>
          obtain ⟨k, p, hk, hp, rfl, rfl, rfl⟩ := hrel
          have hS := (unhide HSC) k p hk hp
          obtain ⟨g, o, u, rfl, hcell, hrd⟩ := (unhide HC2) k hk
          obtain ⟨au, cu, rfl, hl, hci⟩ := hrd.form
          obtain ⟨it, hit⟩ : ∃ it, items.getD k [] = it := ⟨_, rfl⟩
          rw [hit] at hS hcell hl hci hp
          clear hrd
          have HIT := hide hit
          have HCI := hide hci
          clear hit hci
          generalize (mid items k p).length = M at hS ⊢
          rcases hS with ⟨h1, h2, h3, h4, h5, h6⟩ | ⟨h1, h2, h2', h3, h5, h6⟩ | ⟨h1, h2, h3, h5, h6⟩ | ⟨h1, h2, h3⟩
          · have hcM := (unhide HC3) M (by omega)
            have hcM1 := (unhide HC3) (M + 1) (by omega)
            obtain ⟨gi, oi, rfl, hcp⟩ := (unhide HCI) p h1
            rw [h3] at hcM
            rw [h4] at hcM1
            generalize it.getD p 0 = c at hcM1 hcp h2
            have H6 := hide h6
            clear h6 h3 h4
            rcases h2 with h2 | h2
            all_goals
              subst h2
              go_wp2
              go_round
              case rel => exact ⟨k, p + 1, hk, by rw [unhide HIT]; omega, rfl, by go_num, by rw [unhide H6]; go_num⟩
              case measure => simp [intOf]; omega
          · have hcM := (unhide HC3) M (by omega)
            obtain ⟨gi, oi, rfl, hcp⟩ := (unhide HCI) p h1
            rw [h3] at hcM
            generalize it.getD p 0 = c at hcM hcp h2 h2'
            have hb3 : (c == 44) = false := by rw [beq_eq_false_iff_ne]; exact h2
            have hb4 : (c == 92) = false := by rw [beq_eq_false_iff_ne]; exact h2'
            have H6 := hide h6
            clear h6 h3 h2 h2'
            go_wp2
            go_round
            case rel => exact ⟨k, p + 1, hk, by rw [unhide HIT]; omega, rfl, by go_num, by rw [unhide H6]; go_num⟩
            case measure => simp [intOf]; omega
          · have hcM := (unhide HC3) M (by omega)
            rw [h3] at hcM
            have hb3 : ((p : Int) != (it.length : Int)) = false := by rw [bne_eq_false_iff_eq]; omega
            have H6 := hide h6
            clear h6 h3 h1
            go_wp2
            go_round
            case rel => exact ⟨k + 1, 0, h2, Nat.zero_le _, by go_num, rfl, by rw [unhide H6]; go_num⟩
            case measure => simp [intOf]; omega
          · have hb3 : ((k : Int) == (items.length : Int) - 1) = true := by rw [beq_iff_eq]; omega
            have hb4 : ((p : Int) == (it.length : Int)) = true := by rw [beq_iff_eq]; omega
            have h4 : J.length ≤ M := by omega
            clear h3 h1 h2
            go_wp2
            go_ret
            exact ⟨rfl, BB⟩
    · go_wp2
      go_ret
      exact ⟨rfl, Below.refl _ _⟩
  · go_wp2
    go_ret
    exact ⟨rfl, Below.refl _ _⟩
end Go.Proofs.Qxb6601721a.decode
