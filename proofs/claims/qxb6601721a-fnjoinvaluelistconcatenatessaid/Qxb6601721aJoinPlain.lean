/-
  Plain lists: what joinValueList writes. No Go in sight.
-/
namespace Go.Proofs.Qxb6601721a

/-- One octet, escaped. -/
def esc (c : Int) : List Int := if c = 44 ∨ c = 92 then [92, c] else [c]
/-- An item's octets, escaped. -/
def escs (l : List Int) : List Int := l.flatMap esc
/-- The comma ahead of item k. -/
def sep (k : Nat) : List Int := if k = 0 then [] else [44]
/-- The first k items, joined. -/
def joinTo (items : List (List Int)) : Nat → List Int
  | 0 => []
  | k + 1 => joinTo items k ++ sep k ++ escs (items.getD k [])
/-- How many octets the first k items hold. -/
def szTo (items : List (List Int)) : Nat → Nat
  | 0 => 0
  | k + 1 => szTo items k + (items.getD k []).length

/-- What has been written when p octets of item k are done. -/
def mid (items : List (List Int)) (k p : Nat) : List Int := joinTo items k ++ sep k ++ escs ((items.getD k []).take p)

theorem esc_len (c : Int) : (esc c).length ≤ 2 ∧ 1 ≤ (esc c).length := by unfold esc; split <;> simp
theorem escs_len : ∀ l : List Int, (escs l).length ≤ 2 * l.length
  | [] => by simp [escs]
  | c :: l => by
    have h1 := (esc_len c).1
    have h2 := escs_len l
    simp only [escs, List.flatMap_cons, List.length_append, List.length_cons] at h2 ⊢
    omega
theorem sep_len (k : Nat) : (sep k).length ≤ 1 := by unfold sep; split <;> simp
theorem joinTo_len (items : List (List Int)) : ∀ k, (joinTo items k).length ≤ 2 * szTo items k + k
  | 0 => by simp [joinTo]
  | k + 1 => by
    have h1 := joinTo_len items k
    have h2 := escs_len (items.getD k [])
    have h3 := sep_len k
    simp only [joinTo, szTo, List.length_append]
    omega
theorem szTo_mono (items : List (List Int)) (k : Nat) : ∀ d, szTo items k ≤ szTo items (k + d)
  | 0 => Nat.le_refl _
  | d + 1 => Nat.le_trans (szTo_mono items k d) (by show _ ≤ szTo items (k + d) + _; omega)
theorem szTo_le (items : List (List Int)) {k n : Nat} (h : k ≤ n) : szTo items k ≤ szTo items n := by
  have := szTo_mono items k (n - k)
  rwa [show k + (n - k) = n by omega] at this
theorem item_le (items : List (List Int)) {k n : Nat} (h : k < n) : szTo items k + (items.getD k []).length ≤ szTo items n := szTo_le items (k := k + 1) h

theorem mid_zero (items : List (List Int)) (k : Nat) : mid items k 0 = joinTo items k ++ sep k := by simp [mid, escs]
theorem mid_all (items : List (List Int)) (k : Nat) : mid items k (items.getD k []).length = joinTo items (k + 1) := by simp [mid, joinTo]
theorem escs_snoc (l : List Int) (c : Int) : escs (l ++ [c]) = escs l ++ esc c := by simp [escs]
theorem take_next (l : List Int) (p : Nat) (h : p < l.length) : l.take (p + 1) = l.take p ++ [l.getD p 0] := by
  rw [List.take_succ_eq_append_getElem h]; simp [List.getD, h]
theorem mid_succ (items : List (List Int)) (k p : Nat) (h : p < (items.getD k []).length) : mid items k (p + 1) = mid items k p ++ esc ((items.getD k []).getD p 0) := by
  unfold mid
  rw [take_next _ p h, escs_snoc, List.append_assoc, List.append_assoc, List.append_assoc]
theorem mid_len (items : List (List Int)) (k p : Nat) (hp : p ≤ (items.getD k []).length) : (mid items k p).length ≤ 2 * (szTo items k + (items.getD k []).length) + k + 1 := by
  have h1 := joinTo_len items k
  have h2 := escs_len ((items.getD k []).take p)
  have h3 := sep_len k
  have h4 : ((items.getD k []).take p).length ≤ (items.getD k []).length := by rw [List.length_take]; omega
  simp only [mid, List.length_append]
  omega

/-- What is written at (k, p) lies at the head of the whole. -/
theorem mid_item (items : List (List Int)) (k p : Nat) (_hp : p ≤ (items.getD k []).length) : ∃ rest, joinTo items (k + 1) = mid items k p ++ rest := by
  refine ⟨escs ((items.getD k []).drop p), ?_⟩
  have : escs (items.getD k []) = escs ((items.getD k []).take p) ++ escs ((items.getD k []).drop p) := by
    unfold escs
    rw [← List.flatMap_append, List.take_append_drop]
  simp only [mid, joinTo]
  rw [this, List.append_assoc, List.append_assoc, List.append_assoc]
theorem joinTo_head (items : List (List Int)) (k : Nat) : ∀ d, ∃ rest, joinTo items (k + d) = joinTo items k ++ rest
  | 0 => ⟨[], by simp⟩
  | d + 1 => by
    obtain ⟨rest, h⟩ := joinTo_head items k d
    exact ⟨rest ++ sep (k + d) ++ escs (items.getD (k + d) []), by show joinTo items (k + d) ++ _ ++ _ = _; rw [h]; simp⟩
theorem mid_head (items : List (List Int)) (k p n : Nat) (hk : k < n) (hp : p ≤ (items.getD k []).length) : ∃ rest, joinTo items n = mid items k p ++ rest := by
  obtain ⟨r1, h1⟩ := mid_item items k p hp
  obtain ⟨r2, h2⟩ := joinTo_head items (k + 1) (n - (k + 1))
  rw [show k + 1 + (n - (k + 1)) = n by omega] at h2
  exact ⟨r1 ++ r2, by rw [h2, h1, List.append_assoc]⟩

theorem getD_tail (A B : List Int) (t : Nat) : (A ++ B).getD (A.length + t) 0 = B.getD t 0 := by simp [List.getD, List.getElem?_append_right]

/-- The reader's four cases. -/
theorem scan (items : List (List Int)) (k p n : Nat) (hk : k < n) (hp : p ≤ (items.getD k []).length) :
    (p < (items.getD k []).length ∧ ((items.getD k []).getD p 0 = 44 ∨ (items.getD k []).getD p 0 = 92) ∧ (joinTo items n).getD (mid items k p).length 0 = 92 ∧ (joinTo items n).getD ((mid items k p).length + 1) 0 = (items.getD k []).getD p 0 ∧ (mid items k p).length + 2 ≤ (joinTo items n).length ∧ (mid items k (p + 1)).length = (mid items k p).length + 2) ∨
    (p < (items.getD k []).length ∧ (items.getD k []).getD p 0 ≠ 44 ∧ (items.getD k []).getD p 0 ≠ 92 ∧ (joinTo items n).getD (mid items k p).length 0 = (items.getD k []).getD p 0 ∧ (mid items k p).length + 1 ≤ (joinTo items n).length ∧ (mid items k (p + 1)).length = (mid items k p).length + 1) ∨
    (p = (items.getD k []).length ∧ k + 1 < n ∧ (joinTo items n).getD (mid items k p).length 0 = 44 ∧ (mid items k p).length + 1 ≤ (joinTo items n).length ∧ (mid items (k + 1) 0).length = (mid items k p).length + 1) ∨
    (p = (items.getD k []).length ∧ k + 1 = n ∧ (mid items k p).length = (joinTo items n).length) := by
  by_cases h : p < (items.getD k []).length
  · obtain ⟨rest, hr⟩ := mid_head items k (p + 1) n hk (by omega)
    have hs := mid_succ items k p h
    rw [hs, List.append_assoc] at hr
    by_cases hc : (items.getD k []).getD p 0 = 44 ∨ (items.getD k []).getD p 0 = 92
    · have he : esc ((items.getD k []).getD p 0) = [92, (items.getD k []).getD p 0] := by unfold esc; rw [if_pos hc]
      rw [he] at hr hs
      refine .inl ⟨h, hc, ?_, ?_, ?_, ?_⟩
      · rw [hr]; simp
      · rw [hr, getD_tail]; simp
      · rw [hr]; simp
      · rw [hs]; simp
    · have he : esc ((items.getD k []).getD p 0) = [(items.getD k []).getD p 0] := by unfold esc; rw [if_neg hc]
      rw [he] at hr hs
      refine .inr (.inl ⟨h, fun e => hc (.inl e), fun e => hc (.inr e), ?_, ?_, ?_⟩)
      · rw [hr]; simp
      · rw [hr]; simp
      · rw [hs]; simp
  · have hp' : p = (items.getD k []).length := by omega
    by_cases hn : k + 1 < n
    · obtain ⟨rest, hr⟩ := mid_head items (k + 1) 0 n hn (Nat.zero_le _)
      have e1 : mid items (k + 1) 0 = mid items k p ++ [44] := by rw [mid_zero, hp', mid_all]; simp [sep]
      rw [e1, List.append_assoc] at hr
      refine .inr (.inr (.inl ⟨hp', hn, ?_, ?_, ?_⟩))
      · rw [hr]; simp
      · rw [hr]; simp
      · rw [e1]; simp
    · have : k + 1 = n := by omega
      refine .inr (.inr (.inr ⟨hp', this, ?_⟩))
      rw [hp', mid_all, this]

/-- Two lists laid end to end. -/
theorem joinTo_left (a b : List (List Int)) : ∀ k, k ≤ a.length → joinTo (a ++ b) k = joinTo a k
  | 0, _ => rfl
  | k + 1, h => by
    have e : (a ++ b).getD k [] = a.getD k [] := by simp [List.getD, List.getElem?_append_left (show k < a.length by omega)]
    simp only [joinTo, joinTo_left a b k (by omega), e]
theorem joinTo_both (a b : List (List Int)) (ha : 0 < a.length) : ∀ j, joinTo (a ++ b) (a.length + (j + 1)) = joinTo a a.length ++ 44 :: joinTo b (j + 1)
  | 0 => by
    have e : (a ++ b).getD a.length [] = b.getD 0 [] := by simp [List.getD, List.getElem?_append_right]
    show joinTo (a ++ b) a.length ++ sep a.length ++ escs ((a ++ b).getD a.length []) = _
    rw [joinTo_left a b _ (Nat.le_refl _), e]
    simp [joinTo, sep, show a.length ≠ 0 by omega]
  | j + 1 => by
    have e : (a ++ b).getD (a.length + (j + 1)) [] = b.getD (j + 1) [] := by simp [List.getD, List.getElem?_append_right]
    show joinTo (a ++ b) (a.length + (j + 1)) ++ sep (a.length + (j + 1)) ++ escs ((a ++ b).getD (a.length + (j + 1)) []) = _
    rw [joinTo_both a b ha j, e]
    show _ = joinTo a a.length ++ 44 :: (joinTo b (j + 1) ++ sep (j + 1) ++ escs (b.getD (j + 1) []))
    simp [sep]
theorem join_append (a b : List (List Int)) (ha : 0 < a.length) (hb : 0 < b.length) : joinTo (a ++ b) (a ++ b).length = joinTo a a.length ++ 44 :: joinTo b b.length := by
  have := joinTo_both a b ha (b.length - 1)
  rw [show b.length - 1 + 1 = b.length by omega] at this
  rw [List.length_append, this]
theorem szTo_left (a b : List (List Int)) : ∀ k, k ≤ a.length → szTo (a ++ b) k = szTo a k
  | 0, _ => rfl
  | k + 1, h => by
    have e : (a ++ b).getD k [] = a.getD k [] := by simp [List.getD, List.getElem?_append_left (show k < a.length by omega)]
    simp only [szTo, szTo_left a b k (by omega), e]
theorem szTo_both (a b : List (List Int)) : ∀ j, szTo (a ++ b) (a.length + j) = szTo a a.length + szTo b j
  | 0 => by simpa [szTo] using szTo_left a b _ (Nat.le_refl _)
  | j + 1 => by
    have e : (a ++ b).getD (a.length + j) [] = b.getD j [] := by simp [List.getD, List.getElem?_append_right]
    show szTo (a ++ b) (a.length + j) + ((a ++ b).getD (a.length + j) []).length = _
    rw [szTo_both a b j, e]
    show _ = szTo a a.length + (szTo b j + (b.getD j []).length)
    omega

end Go.Proofs.Qxb6601721a
