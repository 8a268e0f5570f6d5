/-
  The walk of FnAppendV4OptionPrefixFree (function 4).
-/
import Derived.Test.Qxb6601721aClone
import Derived.Test.Qxb6601721aOpt
import Derived.Test.Qxb6601721aSize
namespace Go.Proofs.Qxb6601721a.prefixFree
open Go.RowKit

set_option maxHeartbeats 1000000 in
set_option maxRecDepth 100000 in
theorem walk (a0 : Option Addr) (len0 cap0 : Nat) (z0 : List Int) (a1 : Int) (a2 : Option Addr) (len2 cap2 : Nat) (z2 : List Int) (w : World) (w0 : IsRow .u8 w a0 len0 cap0 z0) (_w1 : (Lit.int .u8 a1).wf = true) (w2 : IsRow .u8 w a2 len2 cap2 z2) :
    Calls Try.prog 4 #[.slice a0 len0 cap0, .int .u8 a1, .slice a2 len2 cap2] w fun e w' => e = .returned (.bool true) ∧ Below w.heap.size w w' := by
  obtain ⟨xs, r0, e0, m0⟩ := w0.rd
  obtain ⟨ys, r2, e2, m2⟩ := w2.rd
  clear w0 _w1 w2 z0 z2
  by_cases hsz : len0 + len2 ≤ 1048576
  · have E0 := hide e0
    have E2 := hide e2
    clear e0 e2
    go_enter Try.func4, Try.ntmps4
    go_wp2_with fail
    refine (size11_yes _ _ _ _ _ _ _ _ hsz).mono ?_
    rintro e w' ⟨rfl, rfl⟩
    go_wp2_with fail
    refine (clone_any _ xs _ r0 (by have := unhide E0; omega)).mono ?_
    rintro e w1 ⟨vb, rfl, ob1, bel1⟩
    have r2' := r2.below bel1
    go_wp2_with fail
    refine (clone_any _ ys _ r2' (by have := unhide E2; omega)).mono ?_
    rintro e w2 ⟨vd, rfl, od2, bel2⟩
    have ob2 := ob1.below bel2
    go_wp2_with fail
    refine (clone_any _ xs _ ob2.rd (by have := unhide E0; omega)).mono ?_
    rintro e w3 ⟨vk, rfl, ok3, bel3⟩
    have ob3 := ob2.below bel3
    have od3 := od2.below bel3
    have bel13 : Below w'.heap.size w' w3 := (bel1.trans (bel2.mono bel1.size)).trans (bel3.mono (Nat.le_trans bel1.size bel2.size))
    go_wp2_with fail
    refine (zzopt_any _ _ _ _ xs a1 ys _ ob3 od3 (own_apart ob1 od2) (by have := unhide E0; omega) (by have := unhide E2; omega) bel13.size).mono ?_
    rintro e w4 ⟨vw, rfl, ow4, g4⟩
    have od4 := od3.kept g4.grown (own_apart ob1 od2)
    have ok4 := ok3.kept g4.grown (own_apart ob2 ok3)
    have bel4 : Below w'.heap.size w' w4 := bel13.grown g4.grown bel13.size (fun k hk => (ob1.lt k hk).1)
    go_wp2_with fail
    refine (zzopt_any w4.heap.size _ _ _ [] a1 ys _ (World.ownsRow_nil _ _ _ _) od4 (by cases vd.ownBlock <;> simp [Value.ownBlock]) (by simp) (by have := unhide E2; omega) (Nat.le_refl _)).mono ?_
    rintro e w5 ⟨va, rfl, oa5, g5⟩
    have ow5 := ow4.kept g5.grown (by cases vw.ownBlock <;> simp [Value.ownBlock])
    have ok5 := ok4.kept g5.grown (by cases vk.ownBlock <;> simp [Value.ownBlock])
    have bel5 : Below w'.heap.size w' w5 := bel4.grown g5.grown bel4.size (fun k hk => by cases hk)
    rw [List.nil_append] at oa5
    have hos : (optAll a1 ys).length ≤ 4194304 := by have := unhide E2; rw [optAll_len]; have := last_le ys.length; omega
    have hxl : xs.length ≤ 1048576 := by have := unhide E0; omega
    generalize optAll a1 ys = os at *
    clear ob1 ob2 ob3 od2 od3 od4 ok3 ok4 ow4 g4 g5 r0 r2 r2' bel1 bel2 bel3 bel13 bel4
    obtain ⟨aw, cw, rfl, _, _, hw0⟩ := ow5.form
    obtain ⟨ak, ck, rfl, _, _, hk⟩ := ok5.form
    obtain ⟨aa, ca, rfl, _, _, ha⟩ := oa5.form
    clear ow5 ok5 oa5
    have hw1 : ∀ j, j < xs.length → ∃ g, aw = some ⟨g, 0, none⟩ ∧ w5.cell? ⟨g, j, none⟩ = some (.int .u8 (xs.getD j 0)) := by
      intro j hj
      obtain ⟨g, h1, h2⟩ := hw0 j (by simp; omega)
      refine ⟨g, h1, ?_⟩
      rw [h2]
      simp [List.getD, List.getElem?_append_left hj]
    have hw2 : ∀ j, j < os.length → ∃ g, aw = some ⟨g, 0, none⟩ ∧ w5.cell? ⟨g, xs.length + j, none⟩ = some (.int .u8 (os.getD j 0)) := by
      intro j hj
      obtain ⟨g, h1, h2⟩ := hw0 (xs.length + j) (by simp; omega)
      refine ⟨g, h1, ?_⟩
      rw [h2, getD_mid xs os _ rfl]
    clear hw0
    rw [List.length_append]
    go_wp2
    go_loopw [10] (fun i wr => ∃ k : Nat, k ≤ xs.length ∧ i = .int .i64 k ∧ Alk w5 wr) (fun i _ => xs.length - (intOf i).toNat)
    case atStart => exact ⟨0, Nat.zero_le _, rfl, Alk.refl _⟩
    case round =>
      obtain ⟨k, hk1, rfl, halk⟩ := hrel
      by_cases hlt : k < xs.length
      · obtain ⟨gw, rfl, cw1⟩ := hw1 k hlt
        obtain ⟨gk, rfl, ck1⟩ := hk k hlt
        have cw2 := halk.cellS cw1
        have ck2 := halk.cellS ck1
        clear cw1 ck1 hw1 hw2 hk ha
        generalize xs.getD k 0 = c at cw2 ck2
        go_wp2
        go_quiet (fail)
        go_wp2
        go_roundw
        case rel => exact ⟨k + 1, by omega, by go_num, (halk.drewN _)⟩
        case measure => simp [intOf]; omega
      · go_wp2
        go_loopw [11] (fun j wr => ∃ t : Nat, t ≤ os.length ∧ j = .int .i64 t ∧ Alk w5 wr) (fun j _ => os.length - (intOf j).toNat)
        case atStart => exact ⟨0, Nat.zero_le _, rfl, halk⟩
        case round =>
          clear halk
          obtain ⟨t, ht1, rfl, halk⟩ := hrel
          by_cases hlt2 : t < os.length
          · obtain ⟨gw, rfl, cw1⟩ := hw2 t hlt2
            obtain ⟨ga, rfl, ca1⟩ := ha t hlt2
            have cw2 := halk.cellS cw1
            have ca2 := halk.cellS ca1
            clear cw1 ca1 hw1 hw2 hk ha
            generalize os.getD t 0 = c at cw2 ca2
            go_wp2
            go_quiet (fail)
            go_wp2
            go_roundw
            case rel => exact ⟨t + 1, by omega, by go_num, (halk.drewN _)⟩
            case measure => simp [intOf]; omega
          · go_wp2
            go_ret
            exact ⟨rfl, halk.below bel5⟩
  · go_enter Try.func4, Try.ntmps4
    go_wp2_with fail
    refine (size11_no _ _ _ _ _ _ _ _ m0 m2 hsz).mono ?_
    rintro e w' ⟨rfl, rfl⟩
    go_wp2
    go_ret
    exact ⟨rfl, Below.refl _ _⟩
end Go.Proofs.Qxb6601721a.prefixFree
