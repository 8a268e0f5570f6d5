/-
  Plain lists: what appendV4Option writes behind b. No Go in sight.
-/
namespace Go.Proofs.Qxb6601721a

/-- The option of round r: the code, the length, the octets. -/
def opt1 (code : Int) (ys : List Int) (r : Nat) : List Int := code :: ((min (ys.length - 255 * r) 255 : Nat) : Int) :: (ys.drop (255 * r)).take 255

/-- The first r options. -/
def opts (code : Int) (ys : List Int) : Nat → List Int
  | 0 => []
  | r + 1 => opts code ys r ++ opt1 code ys r

/-- The number of the last option. -/
def lastOpt (n : Nat) : Nat := (n - 1) / 255

/-- All of them. -/
def optAll (code : Int) (ys : List Int) : List Int := opts code ys (lastOpt ys.length + 1)

theorem opt1_len (code : Int) (ys : List Int) (r : Nat) : (opt1 code ys r).length = 2 + min (ys.length - 255 * r) 255 := by
  simp [opt1]; omega

theorem opts_len (code : Int) (ys : List Int) : ∀ r, 255 * r ≤ ys.length → (opts code ys r).length = 257 * r
  | 0, _ => rfl
  | r + 1, h => by
    have := opts_len code ys r (by omega)
    simp [opts, opt1_len, this]; omega

theorem last_le (n : Nat) : 255 * lastOpt n ≤ n := by unfold lastOpt; omega
theorem last_ge (n : Nat) : n - 255 * lastOpt n ≤ 255 := by unfold lastOpt; omega
theorem last_pos (n : Nat) (h : 0 < n) : 0 < n - 255 * lastOpt n := by unfold lastOpt; omega
theorem last_iff (n r : Nat) (h : r = 0 ∨ 255 * r < n) : n - 255 * r ≤ 255 ↔ r = lastOpt n := by unfold lastOpt; omega
theorem not_last (n r : Nat) (h : 255 < n - 255 * r) : r < lastOpt n := by unfold lastOpt; omega

theorem optAll_len (code : Int) (ys : List Int) : (optAll code ys).length = 257 * lastOpt ys.length + 2 + (ys.length - 255 * lastOpt ys.length) := by
  have h1 := last_le ys.length
  have h2 := last_ge ys.length
  have h3 := opts_len code ys (lastOpt ys.length) h1
  simp [optAll, opts, opt1_len, h3]; omega

/-- The r-th option lies in the whole behind the first r. -/
theorem opts_split (code : Int) (ys : List Int) (r : Nat) : ∀ q, r < q → ∃ rest, opts code ys q = opts code ys r ++ (opt1 code ys r ++ rest)
  | 0, h => by omega
  | q + 1, h => by
    by_cases e : r = q
    · subst e; exact ⟨[], by simp [opts]⟩
    · obtain ⟨rest, hr⟩ := opts_split code ys r q (by omega)
      exact ⟨rest ++ opt1 code ys q, by simp [opts, hr]⟩

theorem optAll_split (code : Int) (ys : List Int) (r : Nat) (h : r ≤ lastOpt ys.length) : ∃ rest, optAll code ys = opts code ys r ++ (opt1 code ys r ++ rest) :=
  opts_split code ys r _ (by omega)

theorem getD_mid (A B : List Int) (n : Nat) (h : A.length = n) (t : Nat) : (A ++ B).getD (n + t) 0 = B.getD t 0 := by
  subst h
  simp [List.getD, List.getElem?_append_right]

theorem at_code (xs : List Int) (code : Int) (ys : List Int) (r : Nat) (h : r ≤ lastOpt ys.length) : (xs ++ optAll code ys).getD (xs.length + 257 * r) 0 = code := by
  obtain ⟨rest, e⟩ := optAll_split code ys r h
  have hl := opts_len code ys r (by have := last_le ys.length; have : 255 * r ≤ 255 * lastOpt ys.length := Nat.mul_le_mul_left _ h; omega)
  rw [e, getD_mid xs _ _ rfl]
  have := getD_mid (opts code ys r) (opt1 code ys r ++ rest) _ hl 0
  simpa [opt1] using this

theorem at_count (xs : List Int) (code : Int) (ys : List Int) (r : Nat) (h : r ≤ lastOpt ys.length) : (xs ++ optAll code ys).getD (xs.length + 257 * r + 1) 0 = ((min (ys.length - 255 * r) 255 : Nat) : Int) := by
  obtain ⟨rest, e⟩ := optAll_split code ys r h
  have hl := opts_len code ys r (by have := last_le ys.length; have : 255 * r ≤ 255 * lastOpt ys.length := Nat.mul_le_mul_left _ h; omega)
  rw [e, Nat.add_assoc, getD_mid xs _ _ rfl]
  have := getD_mid (opts code ys r) (opt1 code ys r ++ rest) _ hl 1
  simpa [opt1] using this

theorem at_octet (xs : List Int) (code : Int) (ys : List Int) (r : Nat) (h : r ≤ lastOpt ys.length) (t : Nat) (ht : t < min (ys.length - 255 * r) 255) :
    (xs ++ optAll code ys).getD (xs.length + 257 * r + 2 + t) 0 = ys.getD (255 * r + t) 0 := by
  obtain ⟨rest, e⟩ := optAll_split code ys r h
  have hl := opts_len code ys r (by have := last_le ys.length; have : 255 * r ≤ 255 * lastOpt ys.length := Nat.mul_le_mul_left _ h; omega)
  rw [e, show xs.length + 257 * r + 2 + t = xs.length + (257 * r + (2 + t)) by omega, getD_mid xs _ _ rfl, getD_mid (opts code ys r) _ _ hl]
  have h1 : 2 + t = t + 1 + 1 := by omega
  rw [h1]
  simp only [opt1, List.cons_append, List.getD_cons_succ]
  have h2 : t < ((ys.drop (255 * r)).take 255).length := by simp; omega
  simp only [List.getD]
  rw [List.getElem?_append_left h2, List.getElem?_take, if_pos (by omega), List.getElem?_drop]

end Go.Proofs.Qxb6601721a
