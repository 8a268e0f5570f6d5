/-
  The guard on the total length of two slices of byte slices (function 18).
-/
import Derived.Test.Qxb6601721aItems
namespace Go.Proofs.Qxb6601721a
open Go.RowKit

/-- What the guard answers: where it says true, all lengths sum to at most 1<<20. -/
def Guarded2 (ps qs : List (List Int)) (w : World) (e : Ending) (w' : World) : Prop :=
  ∃ b : Bool, e = .returned (.bool b) ∧ w' = w ∧ (b = true → ps.length + szTo ps ps.length + qs.length + szTo qs qs.length ≤ 1048576)

set_option maxHeartbeats 1000000 in
theorem size18_any (va vb : Value) (ps qs : List (List Int)) (w : World) (ha : RdI w va ps) (hb : RdI w vb qs) :
    Calls Try.prog 18 #[va, vb] w (Guarded2 ps qs w) := by
  obtain ⟨ao, ca, rfl, hma, hca⟩ := ha
  obtain ⟨bo, cb, rfl, hmb, hcb⟩ := hb
  unfold maxLen at hma hmb
  have HA := hide hca
  have HB := hide hcb
  clear hca hcb
  by_cases hn : ps.length ≤ 1048576
  · go_enter Try.func18, Try.ntmps18
    go_wp2
    go_loop [5, 6] (fun n i => ∃ k : Nat, k ≤ ps.length ∧ i = .int .i64 k ∧ n = .int .i64 ((ps.length + szTo ps k : Nat) : Int) ∧ ps.length + szTo ps k ≤ 1048576) (fun _ i => ps.length - (intOf i).toNat)
    case atStart => exact ⟨0, Nat.zero_le _, rfl, rfl, by simpa [szTo] using hn⟩
    case round =>
      obtain ⟨k, hk, rfl, rfl, hs⟩ := hrel
      by_cases hlt : k < ps.length
      · obtain ⟨g, o, u, rfl, hcell, hrd⟩ := (unhide HA) k hlt
        have HS : Hid (szTo ps (k + 1) = szTo ps k + (ps.getD k []).length) := rfl
        generalize ps.getD k [] = it at hrd HS
        obtain ⟨au, cu, rfl, hl, _⟩ := hrd.form
        clear hrd
        by_cases h1 : it.length ≤ 1048576
        · by_cases h2 : ps.length + szTo ps k + it.length ≤ 1048576
          · go_wp2
            go_round
            case rel => exact ⟨k + 1, by omega, by go_num, by rw [HS.out]; go_num, by rw [HS.out]; omega⟩
            case measure => simp [intOf]; omega
          · go_wp2
            go_ret
            exact ⟨false, rfl, rfl, by simp⟩
        · go_wp2
          go_ret
          exact ⟨false, rfl, rfl, by simp⟩
      · have hke : Hid (k = ps.length) := by unfold Hid; omega
        generalize hT : ps.length + szTo ps k = T at hs ⊢
        have HT := hide hT
        clear hT
        by_cases hnb : qs.length ≤ 1048576
        · by_cases hnb2 : T + qs.length ≤ 1048576
          · go_wp2
            go_loop [5, 7] (fun n i => ∃ m : Nat, m ≤ qs.length ∧ i = .int .i64 m ∧ n = .int .i64 ((T + qs.length + szTo qs m : Nat) : Int) ∧ T + qs.length + szTo qs m ≤ 1048576) (fun _ i => qs.length - (intOf i).toNat)
            case atStart => exact ⟨0, Nat.zero_le _, rfl, by simp [szTo], by simpa [szTo] using hnb2⟩
            case round =>
              obtain ⟨m, hm, rfl, rfl, hs2⟩ := hrel
              by_cases hlt2 : m < qs.length
              · obtain ⟨g, o, u, rfl, hcell, hrd⟩ := (unhide HB) m hlt2
                have HS : Hid (szTo qs (m + 1) = szTo qs m + (qs.getD m []).length) := rfl
                generalize qs.getD m [] = it at hrd HS
                obtain ⟨au, cu, rfl, hl, _⟩ := hrd.form
                clear hrd
                by_cases h1 : it.length ≤ 1048576
                · by_cases h2 : T + qs.length + szTo qs m + it.length ≤ 1048576
                  · go_wp2
                    go_round
                    case rel => exact ⟨m + 1, by omega, by go_num, by rw [HS.out]; go_num, by rw [HS.out]; omega⟩
                    case measure => simp [intOf]; omega
                  · go_wp2
                    go_ret
                    exact ⟨false, rfl, rfl, by simp⟩
                · go_wp2
                  go_ret
                  exact ⟨false, rfl, rfl, by simp⟩
              · have hfin : ps.length + szTo ps ps.length + qs.length + szTo qs qs.length ≤ 1048576 := by
                  have h1 := unhide HT
                  rw [hke.out] at h1
                  rw [show m = qs.length by omega] at hs2
                  omega
                have HF := hide hfin
                clear hfin
                go_wp2
                go_ret
                exact ⟨true, rfl, rfl, fun _ => unhide HF⟩
          · go_wp2
            go_ret
            exact ⟨false, rfl, rfl, by simp⟩
        · go_wp2
          go_ret
          exact ⟨false, rfl, rfl, by simp⟩
  · go_enter Try.func18, Try.ntmps18
    go_wp2
    go_ret
    exact ⟨false, rfl, rfl, by simp⟩
end Go.Proofs.Qxb6601721a
