/-
  The walk of FnJoinValueListConcatenates (7).
-/
import Derived.Test.Qxb6601721aPlain
import Derived.Test.Qxb6601721aCloneItems
import Derived.Test.Qxb6601721aZZJoin
import Derived.Test.Qxb6601721aSize18
namespace Go.Proofs.Qxb6601721a.concat
open Go.RowKit

/-- The new outer row after k stores: its first k cells lead to old byte slices. -/
structure Fill (W : World) (items : List (List Int)) (k : Nat) (vs : List Value) (w : World) : Prop where
  len : vs.length = items.length
  row : w.ownsRow W.heap.size 22 1 (.slice (some ⟨W.heap.size, 0, none⟩) items.length items.length) items.length vs
  done : ∀ j, j < k → Rd W (vs.getD j undef) (items.getD j [])
  old : Below W.heap.size W w

theorem Fill.next {W w : World} {items : List (List Int)} {k : Nat} {vs : List Value} {u : Value} (h : Fill W items k vs w) (hk : k < items.length) (hu : Rd W u (items.getD k [])) :
    Fill W items (k + 1) (vs.set k u) (w.setCell ⟨W.heap.size, k, none⟩ u) := by
  refine ⟨by rw [List.length_set, h.len], (h.row.stored k u).1, fun j hj => ?_, h.old.setCell (Nat.le_refl _) u⟩
  by_cases e : j = k
  · subst e
    have : (vs.set j u).getD j undef = u := by simp [List.getD, h.len, hk]
    rw [this]
    exact hu
  · have : (vs.set k u).getD j undef = vs.getD j undef := by simp [List.getD, show ¬ k = j from fun h => e h.symm]
    rw [this]
    exact h.done j (by omega)

theorem Fill.cell {W w : World} {items : List (List Int)} {k : Nat} {vs : List Value} (h : Fill W items k vs w) (j : Nat) (hj : j < items.length) : w.cell? ⟨W.heap.size, j, none⟩ = some (vs.getD j undef) := by
  rw [h.row.cellAt j (by omega)]
  have hl : j < vs.length := by rw [h.len]; exact hj
  simp [List.getD, hl]

theorem Fill.rdi {W w : World} {items : List (List Int)} {vs : List Value} (h : Fill W items items.length vs w) (hm : items.length ≤ maxLen) : RdI w (.slice (some ⟨W.heap.size, 0, none⟩) items.length items.length) items :=
  ⟨_, _, rfl, hm, fun j hj => ⟨W.heap.size, 0, vs.getD j undef, rfl, by rw [Nat.zero_add]; exact h.cell j hj, (h.done j hj).below h.old⟩⟩

theorem getD_left (a b : List (List Int)) (k : Nat) (h : k < a.length) : (a ++ b).getD k [] = a.getD k [] := by simp [List.getD, List.getElem?_append_left h]
theorem getD_right (a b : List (List Int)) (k : Nat) : (a ++ b).getD (a.length + k) [] = b.getD k [] := by simp [List.getD, List.getElem?_append_right]

set_option maxHeartbeats 2000000 in
set_option maxRecDepth 100000 in
theorem walk (va vb : Value) (ps qs : List (List Int)) (w : World) (ha : RdI w va ps) (hb : RdI w vb qs) :
    Calls Try.prog 7 #[va, vb] w fun e w' => e = .returned (.bool true) ∧ Below w.heap.size w w' := by
  obtain ⟨i0, hi, hz0, hz1, hz2⟩ := info_parts Try.info22
  have ha0 := ha
  have hb0 := hb
  obtain ⟨ao, ca, rfl, hma, _⟩ := ha0
  obtain ⟨bo, cb, rfl, hmb, _⟩ := hb0
  unfold maxLen at hma hmb
  go_enter Try.func7, Try.ntmps7
  go_wp2_with fail
  refine (size18_any _ _ ps qs _ ha hb).mono ?_
  rintro e w' ⟨b, rfl, rfl, hbb⟩
  cases b
  · go_wp2
    go_ret
    exact ⟨rfl, Below.refl _ _⟩
  have hs := hbb rfl
  clear hbb
  by_cases hna : ps.length ≤ 65536 ∧ qs.length ≤ 65536
  · obtain ⟨hna, hnb⟩ := hna
    go_wp2_with fail
    refine (nested_any _ ps _ ha hna (by omega)).mono ?_
    rintro e w1 ⟨t, rfl, rfl, ht⟩
    go_wp2_with fail
    refine (nested_any _ qs _ hb hnb (by omega)).mono ?_
    rintro e w1' ⟨t', rfl, rfl, ht'⟩
    by_cases ht2 : t ≤ 1048576 ∧ t' ≤ 1048576 ∧ t + t' ≤ 1048576
    · obtain ⟨hta, htb, htc⟩ := ht2
      by_cases hpos : 0 < ps.length ∧ 0 < qs.length
      · obtain ⟨hpa, hpb⟩ := hpos
        have hq1 : ((ps.length : Int) == 0) = false := by rw [beq_eq_false_iff_ne]; omega
        have hq2 : ((qs.length : Int) == 0) = false := by rw [beq_eq_false_iff_ne]; omega
        go_wp2_with fail
        refine (cloneItems_any _ ps _ ha (by omega) (by omega)).mono ?_
        rintro e w2 ⟨v2, rfl, Ra, B2⟩
        have hb2 := hb.below B2
        go_wp2_with fail
        refine (cloneItems_any _ qs _ hb2 (by omega) (by omega)).mono ?_
        rintro e w3 ⟨v3, rfl, Rb, B3⟩
        have Ra3 := Ra.below B3
        have BB3 : Below w1'.heap.size w1' w3 := B2.trans (B3.mono B2.size)
        clear Ra ha hb hb2 B2 B3
        have Ra0 := Ra3
        have Rb0 := Rb
        obtain ⟨a2, c2, rfl, _, hca⟩ := Ra0
        obtain ⟨a3, c3, rfl, _, hcb⟩ := Rb0
        have HA := hide hca
        have HB := hide hcb
        clear hca hcb
        have HRA := hide Ra3
        have HRB := hide Rb
        clear Ra3 Rb
        go_wp2_with (at_make; refine wpList_make_full _ rfl _ _ 28 rfl w3.heap.size 22 i0 (.slice none 0 0) 1 Try.underlying28 hi hz0 hz1 _ _ _ _ (ps.length + qs.length) rfl rfl (by omega) (by omega) ?b2 ?b3 (Nat.le_refl _) ?_)
        case b2 => rw [hz2]; omega
        case b3 => unfold maxLen; omega
        intro w4 hown0 hgrow0
        have P0 : ∃ vs, Fill w3 (ps ++ qs) 0 vs w4 := by
          rw [← List.length_append] at hown0
          refine ⟨_, ?_, hown0, fun j hj => by omega, (Below.refl _ _).grown hgrow0 (Nat.le_refl _) (fun k h => by cases h)⟩
          have := hown0.1; omega
        clear hown0 hgrow0
        have hlen : (ps ++ qs).length = ps.length + qs.length := List.length_append
        have HLEN := hide hlen
        clear hlen
        go_wp2
        go_loopw [8] (fun i wr => ∃ (k : Nat) (vs : List Value), k ≤ ps.length ∧ i = .int .i64 k ∧ Fill w3 (ps ++ qs) k vs wr) (fun i _ => ps.length - (intOf i).toNat)
        case atStart => obtain ⟨vs, h⟩ := P0; exact ⟨0, vs, Nat.zero_le _, rfl, h⟩
        case round =>
          obtain ⟨k, vs, hk, rfl, hP⟩ := hrel
          clear P0
          by_cases hlt : k < ps.length
          · obtain ⟨g, o, u, rfl, hcell0, hrd⟩ := (unhide HA) k hlt
            have hcell := cell_later hP.old hcell0
            have hN := hP.next (u := u) (by rw [unhide HLEN]; omega) (by rw [getD_left ps qs k hlt]; exact hrd)
            have hdst := hP.cell k (by rw [unhide HLEN]; omega)
            have hfz := hP.row.frozenAt k
            obtain ⟨au, cu, rfl, _, _⟩ := hrd.form
            generalize (ps.getD k []).length = ln at hN hcell
            clear hcell0 hrd hP
            go_wp2
            go_roundw
            case rel => exact ⟨k + 1, _, by omega, by go_num, hN⟩
            case measure => simp [intOf]; omega
          · have hke : k = ps.length := by omega
            rw [hke] at hP
            clear hke
            have HP := hide hP
            clear hP
            go_wp2
            go_loopw [9] (fun i wr => ∃ (m : Nat) (vs : List Value), m ≤ qs.length ∧ i = .int .i64 m ∧ Fill w3 (ps ++ qs) (ps.length + m) vs wr) (fun i _ => qs.length - (intOf i).toNat)
            case atStart => exact ⟨0, vs, Nat.zero_le _, rfl, unhide HP⟩
            case round =>
              clear HP vs
              obtain ⟨m, vs, hm, rfl, hP⟩ := hrel
              by_cases hlt2 : m < qs.length
              · obtain ⟨g, o, u, rfl, hcell0, hrd⟩ := (unhide HB) m hlt2
                have hcell := cell_later hP.old hcell0
                have hN := hP.next (u := u) (by rw [unhide HLEN]; omega) (by rw [getD_right ps qs m]; exact hrd)
                have hdst := hP.cell (ps.length + m) (by rw [unhide HLEN]; omega)
                have hfz := hP.row.frozenAt (ps.length + m)
                obtain ⟨au, cu, rfl, _, _⟩ := hrd.form
                generalize (qs.getD m []).length = ln at hN hcell
                clear hcell0 hrd hP
                go_wp2
                go_roundw
                case rel => exact ⟨m + 1, _, by omega, by go_num, hN⟩
                case measure => simp [intOf]; omega
              · have hme : ps.length + m = (ps ++ qs).length := by rw [unhide HLEN]; omega
                rw [hme] at hP
                have Rab := hP.rdi (by rw [unhide HLEN]; unfold maxLen; omega)
                have BB4 := BB3.trans (hP.old.mono BB3.size)
                have Ra4 := (unhide HRA).below hP.old
                have Rb4 := (unhide HRB).below hP.old
                clear hme hP
                rw [unhide HLEN] at Rab
                have hzab : szTo (ps ++ qs) (ps ++ qs).length ≤ 1048576 := by rw [unhide HLEN, szTo_both]; omega
                have hnab : (ps ++ qs).length ≤ 1048576 := by rw [unhide HLEN]; omega
                have HJ := hide (join_append ps qs hpa hpb)
                have hJa := joinTo_len ps ps.length
                have hJb := joinTo_len qs qs.length
                go_wp2_with fail
                refine (zzjoin_any _ (ps ++ qs) _ Rab hnab hzab).mono ?_
                rintro e w5 ⟨v5, rfl, O5, _, B5⟩
                have Ra5 := Ra4.below B5
                have Rb5 := Rb4.below B5
                rw [unhide HJ] at O5
                go_wp2_with fail
                refine (zzjoin_any _ ps _ Ra5 (by omega) (by omega)).mono ?_
                rintro e w6 ⟨v6, rfl, O6, _, B6⟩
                have Rb6 := Rb5.below B6
                have O56 := O5.below B6
                go_wp2_with fail
                refine (zzjoin_any _ qs _ Rb6 (by omega) (by omega)).mono ?_
                rintro e w7 ⟨v7, rfl, O7, _, B7⟩
                have O57 := O56.below B7
                have O67 := O6.below B7
                have BB7 : Below w1'.heap.size w1' w7 := ((BB4.trans (B5.mono BB4.size)).trans (B6.mono (Nat.le_trans BB4.size B5.size))).trans (B7.mono (Nat.le_trans (Nat.le_trans BB4.size B5.size) B6.size))
                clear BB3 BB4 Rab Ra4 Rb4 Ra5 Rb5 Rb6 B5 B6 B7 O5 O6 O56 HJ HRA HRB HA HB hzab hnab HLEN
                generalize joinTo ps ps.length = xs at *
                generalize joinTo qs qs.length = ys at *
                obtain ⟨aw, cw, rfl, _, _, hw0⟩ := O57.form
                obtain ⟨al, cl, rfl, _, _, hwl⟩ := O67.form
                obtain ⟨ar, cr, rfl, _, _, hwr⟩ := O7.form
                clear O57 O67 O7
                have hxl : xs.length ≤ 4194304 := by omega
                have hyl : ys.length ≤ 4194304 := by omega
                have hlen2 : (xs ++ 44 :: ys).length = xs.length + 1 + ys.length := by simp; omega
                rw [hlen2] at hw0 ⊢
                clear hJa hJb hlen2
                have hw1 : ∀ j, j < xs.length → ∃ g, aw = some ⟨g, 0, none⟩ ∧ w7.cell? ⟨g, j, none⟩ = some (.int .u8 (xs.getD j 0)) := by
                  intro j hj
                  obtain ⟨g, h1, h2⟩ := hw0 j (by omega)
                  refine ⟨g, h1, ?_⟩
                  rw [h2]
                  simp [List.getD, List.getElem?_append_left hj]
                have hwm : ∃ g, aw = some ⟨g, 0, none⟩ ∧ w7.cell? ⟨g, xs.length, none⟩ = some (.int .u8 44) := by
                  obtain ⟨g, h1, h2⟩ := hw0 xs.length (by omega)
                  refine ⟨g, h1, ?_⟩
                  rw [h2]
                  simp [List.getD]
                have hw2 : ∀ j, j < ys.length → ∃ g, aw = some ⟨g, 0, none⟩ ∧ w7.cell? ⟨g, xs.length + 1 + j, none⟩ = some (.int .u8 (ys.getD j 0)) := by
                  intro j hj
                  obtain ⟨g, h1, h2⟩ := hw0 (xs.length + 1 + j) (by omega)
                  refine ⟨g, h1, ?_⟩
                  rw [h2, Nat.add_assoc, getD_mid xs (44 :: ys) _ rfl, Nat.add_comm 1 j]
                  simp [List.getD]
                clear hw0
                obtain ⟨gw, rfl, hcm⟩ := hwm
                have HW1 := hide hw1
                have HW2 := hide hw2
                have HWL := hide hwl
                have HWR := hide hwr
                clear hw1 hw2 hwl hwr
                go_wp2
                go_loopw [13] (fun i wr => ∃ k : Nat, k ≤ xs.length ∧ i = .int .i64 k ∧ Alk w7 wr) (fun i _ => xs.length - (intOf i).toNat)
                case atStart => exact ⟨0, Nat.zero_le _, rfl, Alk.refl _⟩
                case round =>
                  obtain ⟨k, hk1, rfl, halk⟩ := hrel
                  by_cases hlt3 : k < xs.length
                  · obtain ⟨g', e', cw1⟩ := (unhide HW1) k hlt3
                    cases e'
                    obtain ⟨gl, rfl, cl1⟩ := (unhide HWL) k hlt3
                    have cw2 := halk.cellS cw1
                    have cl2 := halk.cellS cl1
                    clear cw1 cl1 hcm
                    generalize xs.getD k 0 = c at cw2 cl2
                    go_wp2
                    go_quiet (fail)
                    go_wp2
                    go_roundw
                    case rel => exact ⟨k + 1, by omega, by go_num, (halk.drewN _)⟩
                    case measure => simp [intOf]; omega
                  · have hcm2 := halk.cellS hcm
                    go_wp2
                    go_loopw [14] (fun j wr => ∃ t : Nat, t ≤ ys.length ∧ j = .int .i64 t ∧ Alk w7 wr) (fun j _ => ys.length - (intOf j).toNat)
                    case atStart => exact ⟨0, Nat.zero_le _, rfl, halk⟩
                    case round =>
                      clear halk hcm2 hcm
                      obtain ⟨t, ht1, rfl, halk⟩ := hrel
                      by_cases hlt4 : t < ys.length
                      · obtain ⟨g', e', cw1⟩ := (unhide HW2) t hlt4
                        cases e'
                        obtain ⟨gr, rfl, cr1⟩ := (unhide HWR) t hlt4
                        have cw2 := halk.cellS cw1
                        have cr2 := halk.cellS cr1
                        clear cw1 cr1
                        generalize ys.getD t 0 = c at cw2 cr2
                        go_wp2
                        go_quiet (fail)
                        go_wp2
                        go_roundw
                        case rel => exact ⟨t + 1, by omega, by go_num, (halk.drewN _)⟩
                        case measure => simp [intOf]; omega
                      · go_wp2
                        go_ret
                        exact ⟨rfl, halk.below BB7⟩
      · rcases Nat.eq_zero_or_pos ps.length with h0 | h0
        · have hq1 : ((ps.length : Int) == 0) = true := by rw [beq_iff_eq]; omega
          clear h0 hpos
          go_wp2
          go_ret
          exact ⟨rfl, Below.refl _ _⟩
        · have hq1 : ((ps.length : Int) == 0) = false := by rw [beq_eq_false_iff_ne]; omega
          have hq2 : ((qs.length : Int) == 0) = true := by rw [beq_iff_eq]; omega
          clear hpos
          go_wp2
          go_ret
          exact ⟨rfl, Below.refl _ _⟩
    · go_wp2
      all_goals
        go_ret
        exact ⟨rfl, Below.refl _ _⟩
  · go_wp2
    all_goals
      go_ret
      exact ⟨rfl, Below.refl _ _⟩
end Go.Proofs.Qxb6601721a.concat
