/-
  The walk of FnAppendV4OptionSplitsAsRFC3396 (function 3).
-/
import Derived.Test.Qxb6601721aClone
import Derived.Test.Qxb6601721aOpt
import Derived.Test.Qxb6601721aSize
namespace Go.Proofs.Qxb6601721a.splits
open Go.RowKit

/-- Where the reader stands: at the head of option r, or at the end. -/
def At (nx ny q N r pos idx : Nat) : Prop := (r ≤ q ∧ pos = nx + 257 * r ∧ idx = 255 * r) ∨ (r = q + 1 ∧ pos = N ∧ idx = ny)

/-- What stands at the head of option r. -/
theorem step {w4 : World} {aw ad : Option Addr} {xs ys : List Int} {a1 : Int} {q N r : Nat}
    (hw0 : ∀ j, j < N → ∃ g, aw = some ⟨g, 0, none⟩ ∧ w4.cell? ⟨g, j, none⟩ = some (.int .u8 ((xs ++ optAll a1 ys).getD j 0)))
    (hd : ∀ j, j < ys.length → ∃ g, ad = some ⟨g, 0, none⟩ ∧ w4.cell? ⟨g, j, none⟩ = some (.int .u8 (ys.getD j 0)))
    (c1 : ∀ r, r ≤ q → (xs ++ optAll a1 ys).getD (xs.length + 257 * r) 0 = a1)
    (c2 : ∀ r, r ≤ q → (xs ++ optAll a1 ys).getD (xs.length + 257 * r + 1) 0 = ((min (ys.length - 255 * r) 255 : Nat) : Int))
    (c3 : ∀ r, r ≤ q → ∀ t, t < min (ys.length - 255 * r) 255 → (xs ++ optAll a1 ys).getD (xs.length + 257 * r + 2 + t) 0 = ys.getD (255 * r + t) 0)
    (hN : xs.length + (257 * q + 2 + (ys.length - 255 * q)) = N) (hq1 : 255 * q ≤ ys.length) (hq2 : ys.length - 255 * q ≤ 255) (hq3 : 0 < ys.length → 0 < ys.length - 255 * q) (hrq : r ≤ q)
    {pos idx : Nat} (hp : pos = xs.length + 257 * r) (hi : idx = 255 * r) :
    ∃ m gw : Nat, aw = some ⟨gw, 0, none⟩ ∧ w4.cell? ⟨gw, pos, none⟩ = some (.int .u8 a1) ∧ w4.cell? ⟨gw, pos + 1, none⟩ = some (.int .u8 (m : Int)) ∧
      (∀ t, t < m → w4.cell? ⟨gw, pos + 2 + t, none⟩ = some (.int .u8 (ys.getD (idx + t) 0))) ∧
      (∀ t, t < m → ∃ g, ad = some ⟨g, 0, none⟩ ∧ w4.cell? ⟨g, idx + t, none⟩ = some (.int .u8 (ys.getD (idx + t) 0))) ∧
      m ≤ 255 ∧ pos + 2 + m ≤ N ∧ idx + m ≤ ys.length ∧ Hid (At xs.length ys.length q N (r + 1) (pos + 2 + m) (idx + m)) ∧
      ((N ≤ pos + 2 + m ∧ (m ≤ 0 ∧ ys.length ≤ 0 ∨ 1 ≤ m)) ∨ (255 ≤ m ∧ pos + 2 + m < N)) := by
  subst hp; subst hi
  have hr1 : 257 * r ≤ 257 * q := Nat.mul_le_mul_left _ hrq
  have hr2 : 255 * r ≤ 255 * q := Nat.mul_le_mul_left _ hrq
  obtain ⟨gw, rfl, h0⟩ := hw0 (xs.length + 257 * r) (by omega)
  have cells : ∀ j, j < N → w4.cell? ⟨gw, j, none⟩ = some (.int .u8 ((xs ++ optAll a1 ys).getD j 0)) := by
    intro j hj
    obtain ⟨g, e, h⟩ := hw0 j hj
    cases e
    exact h
  by_cases e : r = q
  · subst e
    refine ⟨ys.length - 255 * r, gw, rfl, ?_, ?_, fun t ht => ?_, fun t ht => hd _ (by omega), by omega, by omega, by omega, .inr ⟨rfl, by omega, by omega⟩, .inl ⟨by omega, ?_⟩⟩
    · rw [cells _ (by omega), c1 r hrq]
    · rw [cells _ (by omega), c2 r hrq, Nat.min_eq_left hq2]
    · rw [cells _ (by omega), c3 r hrq t (by omega)]
    · omega
  · refine ⟨255, gw, rfl, ?_, ?_, fun t ht => ?_, fun t ht => hd _ (by omega), by omega, by omega, by omega, .inl ⟨by omega, by omega, by omega⟩, .inr ⟨by omega, by omega⟩⟩
    · rw [cells _ (by omega), c1 r hrq]
    · rw [cells _ (by omega), c2 r hrq, Nat.min_eq_right (by omega)]
    · rw [cells _ (by omega), c3 r hrq t (by omega)]

set_option maxHeartbeats 2000000 in
set_option maxRecDepth 100000 in
theorem walk (a0 : Option Addr) (len0 cap0 : Nat) (z0 : List Int) (a1 : Int) (a2 : Option Addr) (len2 cap2 : Nat) (z2 : List Int) (w : World) (w0 : IsRow .u8 w a0 len0 cap0 z0) (_w1 : (Lit.int .u8 a1).wf = true) (w2 : IsRow .u8 w a2 len2 cap2 z2) :
    Calls Try.prog 3 #[.slice a0 len0 cap0, .int .u8 a1, .slice a2 len2 cap2] w fun e w' => e = .returned (.bool true) ∧ Below w.heap.size w w' := by
  obtain ⟨xs, r0, e0, m0⟩ := w0.rd
  obtain ⟨ys, r2, e2, m2⟩ := w2.rd
  clear w0 _w1 w2 z0 z2
  by_cases hsz : len0 + len2 ≤ 1048576
  · have E0 := hide e0
    have E2 := hide e2
    clear e0 e2
    go_enter Try.func3, Try.ntmps3
    go_wp2_with fail
    refine (size8_yes _ _ _ _ _ _ _ _ hsz).mono ?_
    rintro e w' ⟨rfl, rfl⟩
    go_wp2_with fail
    refine (clone_any _ xs _ r0 (by have := unhide E0; omega)).mono ?_
    rintro e w1 ⟨vb, rfl, ob1, bel1⟩
    have r2' := r2.below bel1
    go_wp2_with fail
    refine (clone_any _ ys _ r2' (by have := unhide E2; omega)).mono ?_
    rintro e w2 ⟨vd, rfl, od2, bel2⟩
    have ob2 := ob1.below bel2
    go_wp2_with fail
    refine (clone_any _ xs _ ob2.rd (by have := unhide E0; omega)).mono ?_
    rintro e w3 ⟨vk, rfl, ok3, bel3⟩
    have ob3 := ob2.below bel3
    have od3 := od2.below bel3
    have bel13 : Below w'.heap.size w' w3 := (bel1.trans (bel2.mono bel1.size)).trans (bel3.mono (Nat.le_trans bel1.size bel2.size))
    go_wp2_with fail
    refine (zzopt_any _ _ _ _ xs a1 ys _ ob3 od3 (own_apart ob1 od2) (by have := unhide E0; omega) (by have := unhide E2; omega) bel13.size).mono ?_
    rintro e w4 ⟨vw, rfl, ow4, g4⟩
    have od4 := od3.kept g4.grown (own_apart ob1 od2)
    have ok4 := ok3.kept g4.grown (own_apart ob2 ok3)
    have bel4 : Below w'.heap.size w' w4 := bel13.grown g4.grown bel13.size (fun k hk => (ob1.lt k hk).1)
    clear ob1 ob2 ob3 od2 od3 ok3 g4 r0 r2 r2' bel1 bel2 bel3 bel13
    have hxl : xs.length ≤ 1048576 := by have := unhide E0; omega
    have hyl : ys.length ≤ 1048576 := by have := unhide E2; omega
    clear hsz E0 E2 m0 m2
    have hN := optAll_len a1 ys
    have hq1 := last_le ys.length
    have hq2 := last_ge ys.length
    have hq3 := last_pos ys.length
    obtain ⟨aw, cw, rfl, _, _, hw0⟩ := ow4.form
    obtain ⟨ak, ck, rfl, _, _, hk⟩ := ok4.form
    obtain ⟨ad, cd, rfl, _, _, hd⟩ := od4.form
    clear ow4 ok4 od4
    have c1 := at_code xs a1 ys
    have c2 := at_count xs a1 ys
    have c3 := at_octet xs a1 ys
    obtain ⟨q, hq⟩ : ∃ q, q = lastOpt ys.length := ⟨_, rfl⟩
    rw [← hq] at hN hq1 hq2 hq3 c1 c2 c3
    clear hq
    rw [List.length_append, hN]
    rw [List.length_append, hN] at hw0
    obtain ⟨N, hNN⟩ : ∃ N, xs.length + (257 * q + 2 + (ys.length - 255 * q)) = N := ⟨_, rfl⟩
    rw [hNN]
    rw [hNN] at hw0
    have hk0 : ∀ j, j < xs.length → ∃ g, aw = some ⟨g, 0, none⟩ ∧ w4.cell? ⟨g, j, none⟩ = some (.int .u8 (xs.getD j 0)) := by
      intro j hj
      obtain ⟨g, h1, h2⟩ := hw0 j (by omega)
      refine ⟨g, h1, ?_⟩
      rw [h2]
      simp [List.getD, List.getElem?_append_left hj]
    have HN : Hid (xs.length + (257 * q + 2 + (ys.length - 255 * q)) = N) := hNN
    have hNl : xs.length + 2 ≤ N := by omega
    have hNb : N ≤ 4194304 := by omega
    clear hN hNN
    have C1 := hide c1
    have C2 := hide c2
    have C3 := hide c3
    clear c1 c2 c3
    go_wp2
    go_loopw [9] (fun i wr => ∃ k : Nat, k ≤ xs.length ∧ i = .int .i64 k ∧ Alk w4 wr) (fun i _ => xs.length - (intOf i).toNat)
    case atStart => exact ⟨0, Nat.zero_le _, rfl, Alk.refl _⟩
    case round =>
      obtain ⟨k, hk1, rfl, halk⟩ := hrel
      by_cases hlt : k < xs.length
      · obtain ⟨gw, rfl, cw1⟩ := hk0 k hlt
        obtain ⟨gk, rfl, ck1⟩ := hk k hlt
        have cw2 := halk.cellS cw1
        have ck2 := halk.cellS ck1
        clear cw1 ck1 hw0 hk0 hk hd
        generalize xs.getD k 0 = c at cw2 ck2
        go_wp2
        go_quiet (fail)
        go_wp2
        go_roundw
        case rel => exact ⟨k + 1, by omega, by go_num, (halk.drewN _)⟩
        case measure => simp [intOf]; omega
      · clear hk hk0
        go_wp2
        go_loopw [10, 11, 12] (fun p i c wr => ∃ r pos idx : Nat, At xs.length ys.length q N r pos idx ∧ p = .int .i64 pos ∧ i = .int .i64 idx ∧ c = .int .i64 r ∧ Alk w4 wr) (fun p _ _ _ => N - (intOf p).toNat)
        case atStart => exact ⟨0, xs.length, 0, .inl ⟨Nat.zero_le _, by omega, by omega⟩, rfl, rfl, rfl, halk⟩
        case round =>
          clear halk
          obtain ⟨r, pos, idx, hat, rfl, rfl, rfl, halk⟩ := hrel
          rcases hat with ⟨hrq, hp, hi⟩ | ⟨hrq, hp, hi⟩
          · obtain ⟨m, gw, rfl, cA, cB, hO, hD, hm1, hm2, hm3, hat', hcase⟩ := step hw0 hd (unhide C1) (unhide C2) (unhide C3) (unhide HN) hq1 hq2 hq3 hrq hp hi
            have cA' := halk.cellS cA
            have cB' := halk.cellS cB
            have hrN : r ≤ 4194304 := by omega
            clear hp hi C1 C2 C3 HN hq1 hq2 hq3 hw0 hd cA cB
            rcases hcase with ⟨hl, ⟨hm0, hy0⟩ | hm0⟩ | ⟨hl, hm0⟩
            · have hb1 : ((pos : Int) + 2 + (m : Int) == (N : Int)) = true := by rw [beq_iff_eq]; omega
              have hb2 : ((m : Int) == 0) = true := by rw [beq_iff_eq]; omega
              have hb3 : ((ys.length : Int) != 0) = false := by rw [bne_eq_false_iff_eq]; omega
              go_wp2
              refine wp_loop_rounds 1 ?_
              rw [rounds_succ]
              have hat2 := hat'
              clear hO hD hat'
              go_wp2
              go_roundw
              case rel => exact ⟨r + 1, pos + 2 + m, idx + m, unhide hat2, by go_num, by go_num, by go_num, halk⟩
              case measure => simp [intOf]; omega
            · have hb1 : ((pos : Int) + 2 + (m : Int) == (N : Int)) = true := by rw [beq_iff_eq]; omega
              have hb2 : ((m : Int) == 0) = false := by rw [beq_eq_false_iff_ne]; omega
              go_wp2
              go_loopw [15] (fun i wr => ∃ t : Nat, t ≤ m ∧ i = .int .i64 t ∧ Alk w4 wr) (fun i _ => m - (intOf i).toNat)
              case atStart => exact ⟨0, Nat.zero_le _, rfl, halk⟩
              case round =>
                clear halk cA' cB'
                obtain ⟨t, ht1, rfl, halk⟩ := hrel
                by_cases hlt2 : t < m
                · have cO := halk.cellS (hO t hlt2)
                  obtain ⟨gd, rfl, cD1⟩ := hD t hlt2
                  have cD := halk.cellS cD1
                  clear hO hD cD1
                  generalize ys.getD (idx + t) 0 = c at cO cD
                  go_wp2
                  go_quiet (fail)
                  go_wp2
                  go_roundw
                  case rel => exact ⟨t + 1, by omega, by go_num, (halk.drewN _)⟩
                  case measure => simp [intOf]; omega
                · have hat2 := hat'
                  clear hO hD hat'
                  go_wp2
                  go_roundw
                  case rel => exact ⟨r + 1, pos + 2 + m, idx + m, unhide hat2, by go_num, by go_num, by go_num, halk⟩
                  case measure => simp [intOf]; omega
            · have hb1 : ((pos : Int) + 2 + (m : Int) == (N : Int)) = false := by rw [beq_eq_false_iff_ne]; omega
              have hb2 : ((m : Int) != 255) = false := by rw [bne_eq_false_iff_eq]; omega
              go_wp2
              go_loopw [15] (fun i wr => ∃ t : Nat, t ≤ m ∧ i = .int .i64 t ∧ Alk w4 wr) (fun i _ => m - (intOf i).toNat)
              case atStart => exact ⟨0, Nat.zero_le _, rfl, halk⟩
              case round =>
                clear halk cA' cB'
                obtain ⟨t, ht1, rfl, halk⟩ := hrel
                by_cases hlt2 : t < m
                · have cO := halk.cellS (hO t hlt2)
                  obtain ⟨gd, rfl, cD1⟩ := hD t hlt2
                  have cD := halk.cellS cD1
                  clear hO hD cD1
                  generalize ys.getD (idx + t) 0 = c at cO cD
                  go_wp2
                  go_quiet (fail)
                  go_wp2
                  go_roundw
                  case rel => exact ⟨t + 1, by omega, by go_num, (halk.drewN _)⟩
                  case measure => simp [intOf]; omega
                · have hat2 := hat'
                  clear hO hD hat'
                  go_wp2
                  go_roundw
                  case rel => exact ⟨r + 1, pos + 2 + m, idx + m, unhide hat2, by go_num, by go_num, by go_num, halk⟩
                  case measure => simp [intOf]; omega
          · subst hrq; subst hp; subst hi
            go_wp2
            go_ret
            exact ⟨rfl, halk.below bel4⟩
  · go_enter Try.func3, Try.ntmps3
    go_wp2_with fail
    refine (size8_no _ _ _ _ _ _ _ _ m0 m2 hsz).mono ?_
    rintro e w' ⟨rfl, rfl⟩
    go_wp2
    go_ret
    exact ⟨rfl, Below.refl _ _⟩
end Go.Proofs.Qxb6601721a.splits
