/-
  The walks of appendV4Option (function 19) and ZZappendV4Option (10).
-/
import Derived.Test.Qxb6601721aBase
import Derived.Test.Qxb6601721aPlain
namespace Go.Proofs.Qxb6601721a
open Go.RowKit

theorem opts_next (xs : List Int) (code : Int) (ys : List Int) (r m : Nat) (hm : m = min (ys.length - 255 * r) 255) (c : Int) (hc : c = (m : Int)) :
    (xs ++ opts code ys r ++ [code, c]) ++ (ys.drop (255 * r)).take 255 = xs ++ opts code ys (r + 1) := by
  subst hm; subst hc
  simp [opts, opt1]

theorem two_cells (w : World) (a b : Int) : ∀ x, some (⟨w.heap.size, 0, none⟩ : Addr) = some x → ∀ j, j < [a, b].length → (w.alloc (.cells #[.int .u8 a, .int .u8 b] 5)).cell? (x.add j) = some (.int .u8 ([a, b].getD j 0)) := by
  intro x hx j hj
  cases hx
  match j, hj with
  | 0, _ => exact cell_two_new w _ _ 5 0 _ rfl
  | 1, _ => exact cell_two_new w _ _ 5 1 _ rfl

theorem data_cells {w : World} {g n r : Nat} {ys : List Int} (hn : ys.length = n) (hd : ∀ j, j < n → w.cell? ⟨g, j, none⟩ = some (.int .u8 (ys.getD j 0))) :
    ∀ b, some (⟨g, 255 * r, none⟩ : Addr) = some b → ∀ j, j < ((ys.drop (255 * r)).take 255).length → w.cell? (b.add j) = some (.int .u8 (((ys.drop (255 * r)).take 255).getD j 0)) := by
  intro b hb j hj
  cases hb
  subst hn
  simp at hj
  rw [Addr.add_lit, hd (255 * r + j) (by omega)]
  simp only [List.getD, List.getElem?_take, List.getElem?_drop]
  rw [if_pos (by omega)]

set_option maxHeartbeats 400000 in
set_option maxRecDepth 100000 in
theorem opt_some (base : Nat) (vb : Value) (xs : List Int) (code : Int) (g n cap : Nat) (ys : List Int) (w : World) (hn : ys.length = n)
    (hb : Own w base vb xs) (hnc : n ≤ cap) (_hcm : cap ≤ maxLen) (hd : ∀ j, j < n → w.cell? ⟨g, j, none⟩ = some (.int .u8 (ys.getD j 0))) (hne : some g ≠ vb.ownBlock) 
    (hx : xs.length ≤ 1048576) (hy : n ≤ 1048576) (hB : base ≤ w.heap.size) :
    Calls Try.prog 19 #[vb, .int .u8 code, .slice (some ⟨g, 0, none⟩) n cap] w fun e w' => ∃ v', e = .returned v' ∧
      Own w' base v' (xs ++ optAll code ys) ∧ Grew w vb.ownBlock w' v' := by
  unfold maxLen at _hcm
  have HN : Hid (ys.length = n) := hn
  clear hn
  go_enter Try.func19, Try.ntmps19
  go_wp2
  go_loopw [0, 2] (fun b d wr => ∃ r : Nat, (r = 0 ∨ 255 * r < n) ∧ d = .slice (some ⟨g, 255 * r, none⟩) (n - 255 * r) (cap - 255 * r) ∧ 
      Own wr base b (xs ++ opts code ys r) ∧ Grew w vb.ownBlock wr b)
    (fun _ d _ => match d with | .slice _ l _ => l | _ => 0)
  case atStart => exact ⟨0, .inl rfl, rfl, by simpa [opts] using hb, Grew.start _ _⟩
  case round =>
    obtain ⟨r, hr, rfl, hown, hG⟩ := hrel
    have hol : xs.length + 257 * r ≤ 4194304 := by omega
    have HO : Hid ((xs ++ opts code ys r).length = xs.length + 257 * r) := by
      have := HN.out; unfold Hid; rw [List.length_append, opts_len code ys r (by omega)]
    by_cases hlast : n - 255 * r ≤ 255
    · have HL : Hid (r = lastOpt n) := (last_iff n r hr).1 hlast
      have E := opts_next xs code ys r (n - 255 * r) (by rw [HN.out]; omega) _ rfl
      obtain ⟨L, hL⟩ : ∃ L, xs ++ opts code ys r ++ [code, ((n - 255 * r : Nat) : Int)] = L := ⟨_, rfl⟩
      rw [hL] at E
      have EL := hide hL
      have EE := hide E
      clear E hL
      go_wp2_with (at_builtin; refine wpList_app rfl (.tmp 11) (.tmp 15) rfl w vb.ownBlock base _ _ rfl (hown.alloc _) (hG.alloc _) hB (some ⟨wr.heap.size, 0, none⟩) 2 2 [code, ((n - 255 * r : Nat) : Int)] rfl rfl (by intro h; cases h) (two_cells _ _ _) L (unhide EL) ?c3 ?_)
      case c3 => rw [← unhide EL, List.length_append, HO.out]; simp; omega
      intro v1 w1 hown1 hG1 _
      have hd1 := data_cells (r := r) HN.out (fun j hj => hG1.grown.cell (hd j hj) hne)
      go_wp2_with (at_builtin; refine wpList_app rfl (.tmp 17) (.tmp 20) rfl w vb.ownBlock base _ _ rfl hown1 hG1 hB (some ⟨g, 255 * r, none⟩) (n - 255 * r) (cap - 255 * r) ((ys.drop (255 * r)).take 255) rfl (by have := HN.out; simp; omega) (by intro h; cases h) hd1 _ (unhide EE) ?d3 ?_)
      case d3 => rw [← unhide EE, ← unhide EL, List.length_append, List.length_append, HO.out]; simp; omega
      intro v2 w2 hown2 hG2 _
      clear hown hown1 hG hG1 hd1 EE EL
      have e : optAll code ys = opts code ys (r + 1) := by unfold optAll; rw [HN.out, ← HL.out]
      rw [← e] at hown2
      clear e
      go_wp2
      all_goals
        go_ret
        exact ⟨_, rfl, hown2, hG2⟩
    · have E := opts_next xs code ys r 255 (by rw [HN.out]; omega) _ rfl
      have hlast' : 255 < n - 255 * r := by omega
      clear hlast
      obtain ⟨L, hL⟩ : ∃ L, xs ++ opts code ys r ++ [code, ((255 : Nat) : Int)] = L := ⟨_, rfl⟩
      rw [hL] at E
      have EL := hide hL
      have EE := hide E
      clear E hL
      go_wp2_with (at_builtin; refine wpList_app rfl (.tmp 11) (.tmp 15) rfl w vb.ownBlock base _ _ rfl (hown.alloc _) (hG.alloc _) hB (some ⟨wr.heap.size, 0, none⟩) 2 2 [code, ((255 : Nat) : Int)] rfl rfl (by intro h; cases h) (two_cells _ _ _) L (unhide EL) ?c3 ?_)
      case c3 => rw [← unhide EL, List.length_append, HO.out]; simp; omega
      intro v1 w1 hown1 hG1 _
      have hd1 := data_cells (r := r) HN.out (fun j hj => hG1.grown.cell (hd j hj) hne)
      go_wp2_with (at_builtin; refine wpList_app rfl (.tmp 17) (.tmp 20) rfl w vb.ownBlock base _ _ rfl hown1 hG1 hB (some ⟨g, 255 * r, none⟩) 255 (cap - 255 * r) ((ys.drop (255 * r)).take 255) rfl (by have := HN.out; simp; omega) (by intro h; cases h) hd1 _ (unhide EE) ?d3 ?_)
      case d3 => rw [← unhide EE, ← unhide EL, List.length_append, List.length_append, HO.out]; simp; omega
      intro v2 w2 hown2 hG2 _
      clear hown hown1 hG hG1 hd1 EE EL
      go_wp2
      go_roundw
      case rel => exact ⟨r + 1, .inr (by omega), by rw [show 255 * (r + 1) = 255 * r + 255 by omega, Nat.sub_sub, Nat.sub_sub], hown2, hG2⟩
      case measure => show n - 255 * r - 255 < n - 255 * r; omega

set_option maxHeartbeats 400000 in
set_option maxRecDepth 100000 in
theorem opt_nil (base : Nat) (vb : Value) (xs : List Int) (code : Int) (w : World)
    (hb : Own w base vb xs) (hx : xs.length ≤ 1048576) (hB : base ≤ w.heap.size) :
    Calls Try.prog 19 #[vb, .int .u8 code, .slice none 0 0] w fun e w' => ∃ v', e = .returned v' ∧
      Own w' base v' (xs ++ optAll code []) ∧ Grew w vb.ownBlock w' v' := by
  have e : optAll code [] = [code, 0] := rfl
  rw [e]
  clear e
  obtain ⟨L, hL⟩ : ∃ L, xs ++ [code, 0] = L := ⟨_, rfl⟩
  have hl : L.length ≤ 1048578 := by rw [← hL]; simp; omega
  rw [hL]
  have EL := hide hL
  clear hL
  go_enter Try.func19, Try.ntmps19
  go_wp2
  refine wp_loop_rounds 1 ?_
  rw [rounds_succ]
  go_wp2_with (at_builtin; refine wpList_app rfl (.tmp 11) (.tmp 15) rfl w vb.ownBlock base _ _ rfl (hb.alloc _) ((Grew.start w vb).alloc _) hB (some ⟨w.heap.size, 0, none⟩) 2 2 [code, 0] rfl rfl (by intro h; cases h) (two_cells _ _ _) L (unhide EL) ?c3 ?_)
  case c3 => omega
  intro v1 w1 hown1 hG1 _
  go_wp2_with (at_builtin; refine wpList_app rfl (.tmp 17) (.tmp 20) rfl w vb.ownBlock base _ _ rfl hown1 hG1 hB none 0 0 [] rfl rfl (fun _ => ⟨rfl, rfl⟩) (by intro b hb; cases hb) L (List.append_nil _) ?d3 ?_)
  case d3 => omega
  intro v2 w2 hown2 hG2 _
  clear hown1 hG1
  go_wp2
  all_goals
    go_ret
    exact ⟨_, rfl, hown2, hG2⟩

/-- appendV4Option. -/
theorem opt_any (base base' : Nat) (vb vd : Value) (xs : List Int) (code : Int) (ys : List Int) (w : World)
    (hb : Own w base vb xs) (hd : Own w base' vd ys) (hne : vd.ownBlock = none ∨ vd.ownBlock ≠ vb.ownBlock)
    (hx : xs.length ≤ 1048576) (hy : ys.length ≤ 1048576) (hB : base ≤ w.heap.size) :
    Calls Try.prog 19 #[vb, .int .u8 code, vd] w fun e w' => ∃ v', e = .returned v' ∧
      Own w' base v' (xs ++ optAll code ys) ∧ Grew w vb.ownBlock w' v' := by
  rcases hd.2 with ⟨rfl, h0⟩ | ⟨g, cap, cur, rfl, _, hg, hnc, hcm, hcs, ht⟩
  · obtain rfl : ys = [] := List.eq_nil_of_length_eq_zero h0
    exact opt_nil base vb xs code w hb hx hB
  · refine opt_some base vb xs code g ys.length cap ys w rfl hb hnc hcm (fun j hj => ?_) (by simpa [Value.ownBlock] using hne) hx hy hB
    have := World.ownsRow.cells hd (g := g) rfl j (.int .u8 (ys.getD j 0)) (by simp [bys, hj])
    rwa [Addr.add_lit, Nat.zero_add] at this

/-- ZZappendV4Option hands it on. -/
theorem zzopt_any (base base' : Nat) (vb vd : Value) (xs : List Int) (code : Int) (ys : List Int) (w : World)
    (hb : Own w base vb xs) (hd : Own w base' vd ys) (hne : vd.ownBlock = none ∨ vd.ownBlock ≠ vb.ownBlock)
    (hx : xs.length ≤ 1048576) (hy : ys.length ≤ 1048576) (hB : base ≤ w.heap.size) :
    Calls Try.prog 10 #[vb, .int .u8 code, vd] w fun e w' => ∃ v', e = .returned v' ∧
      Own w' base v' (xs ++ optAll code ys) ∧ Grew w vb.ownBlock w' v' := by
  have H := hide (opt_any base base' vb vd xs code ys w hb hd hne hx hy hB)
  clear hb hd hne
  go_enter Try.func10, Try.ntmps10
  go_wp2_with fail
  refine (unhide H).mono ?_
  rintro e w' ⟨v', rfl, h1, h2⟩
  go_wp2
  go_ret
  exact ⟨_, rfl, h1, h2⟩
end Go.Proofs.Qxb6601721a
