/-
  Rounding of doubles: 'nearest' lies between the words between which the exact number lies. Plain arithmetic over the model's Ieee core; no Go in sight.
-/
import Ieee.Arith
namespace Go.Proofs.Qxb6602162a.Round
open Ieee

theorem e_sign : double.signWeight = 9223372036854775808 := by rfl
theorem e_bin : double.binade = 4503599627370496 := by rfl
theorem e_inf : double.infRung = 9218868437227405312 := by rfl
theorem e_least : double.leastPlace = -1074 := by rfl
theorem e_frac : double.fractionBits = 52 := by rfl

/-- A finite rung r: its magnitude is kr r * 2 ^ er r units of the least place. -/
def er (r : Nat) : Nat := r / 4503599627370496 - 1
def kr (r : Nat) : Nat := if r < 4503599627370496 then r else 4503599627370496 + r % 4503599627370496
def V (r : Nat) : Nat := kr r * 2 ^ er r

theorem rung_eq (r : Nat) : r = er r * 4503599627370496 + kr r := by unfold er kr; split <;> omega
theorem kr_lt (r : Nat) : kr r < 9007199254740992 := by unfold kr; split <;> omega
theorem kr_ge (r : Nat) (h : 0 < er r) : 4503599627370496 ≤ kr r := by
  unfold er at h
  unfold kr
  split <;> omega

theorem pow_split {a b : Nat} (h : a ≤ b) : 2 ^ b = 2 ^ (b - a) * 2 ^ a := by
  rw [← Nat.pow_add]
  congr 1
  omega
theorem pow_pos (a : Nat) : 0 < 2 ^ a := Nat.pow_pos (by decide)

/-- Two numbers k * 2 ^ e with k of at most 53 digits, the second normal: the greater exponent wins. -/
theorem lt_of_exp {k k' e e' : Nat} (hk : k < 9007199254740992) (hk' : 4503599627370496 ≤ k') (h : e < e') : k * 2 ^ e < k' * 2 ^ e' := by
  have h1 : k * 2 ^ e < 9007199254740992 * 2 ^ e := Nat.mul_lt_mul_of_pos_right hk (pow_pos e)
  have h2 : 9007199254740992 * 2 ^ e = 4503599627370496 * 2 ^ (e + 1) := by rw [Nat.pow_succ]; omega
  have h3 : 2 ^ (e + 1) ≤ 2 ^ e' := Nat.pow_le_pow_right (by decide) h
  have h4 : 4503599627370496 * 2 ^ (e + 1) ≤ k' * 2 ^ e' := Nat.mul_le_mul hk' h3
  omega

theorem V_mono {r r' : Nat} (h : r ≤ r') : V r ≤ V r' := by
  have h1 := rung_eq r
  have h2 := rung_eq r'
  have h3 := kr_lt r
  have h4 := kr_lt r'
  unfold V
  rcases Nat.lt_trichotomy (er r) (er r') with he | he | he
  · exact Nat.le_of_lt (lt_of_exp h3 (kr_ge r' (by omega)) he)
  · rw [he]
    exact Nat.mul_le_mul_right _ (by rw [he] at h1; omega)
  · exfalso
    have := kr_ge r (by omega)
    have : er r' + 1 ≤ er r := he
    have : (er r' + 1) * 4503599627370496 ≤ er r * 4503599627370496 := Nat.mul_le_mul_right _ this
    omega

/-- A rounding of Y to a 53-digit number at exponent e lies on the right side of every rung. -/
theorem rung_between {Y e kept : Nat} (hlo : e = 0 ∨ 4503599627370496 * 2 ^ e ≤ Y) (hhi : Y < 9007199254740992 * 2 ^ e)
    (h1 : ∀ k, k * 2 ^ e ≤ Y → k ≤ kept) (h2 : ∀ k, Y ≤ k * 2 ^ e → kept ≤ k) :
    (∀ r, V r ≤ Y → r ≤ e * 4503599627370496 + kept) ∧ (∀ r, Y ≤ V r → e * 4503599627370496 + kept ≤ r) := by
  have hb : kept ≤ 9007199254740992 := h2 _ (Nat.le_of_lt hhi)
  have hl : 0 < e → 4503599627370496 ≤ kept := fun he => h1 _ (by omega)
  constructor
  · intro r hr
    have e1 := rung_eq r
    have e2 := kr_lt r
    unfold V at hr
    rcases Nat.lt_trichotomy (er r) e with he | he | he
    · have := hl (by omega)
      have : (er r + 1) * 4503599627370496 ≤ e * 4503599627370496 := Nat.mul_le_mul_right _ he
      omega
    · have := h1 (kr r) (by rw [← he]; exact hr)
      rw [he] at e1
      omega
    · exfalso
      have h3 := kr_ge r (by omega)
      have h4 : 2 ^ (e + 1) ≤ 2 ^ er r := Nat.pow_le_pow_right (by decide) he
      have h5 : 4503599627370496 * 2 ^ (e + 1) ≤ kr r * 2 ^ er r := Nat.mul_le_mul h3 h4
      have h6 : 9007199254740992 * 2 ^ e = 4503599627370496 * 2 ^ (e + 1) := by rw [Nat.pow_succ]; omega
      omega
  · intro r hr
    have e1 := rung_eq r
    have e2 := kr_lt r
    unfold V at hr
    rcases Nat.lt_trichotomy (er r) e with he | he | he
    · exfalso
      rcases hlo with h | h
      · omega
      · have h3 : kr r * 2 ^ er r < 4503599627370496 * 2 ^ e := lt_of_exp e2 (Nat.le_refl _) he
        omega
    · have := h2 (kr r) (by rw [← he]; exact hr)
      rw [he] at e1
      omega
    · have h3 := kr_ge r (by omega)
      have : (e + 1) * 4503599627370496 ≤ er r * 4503599627370496 := Nat.mul_le_mul_right _ he
      omega

/-- 'cut' to the nearest lies between the whole numbers between which the quotient lies. -/
theorem cut_between (neg : Bool) (n drop : Nat) (hd : drop ≤ n.log2 + 2) :
    (∀ k, k * 2 ^ drop ≤ n → k ≤ Toward.even.cut neg n drop) ∧ (∀ k, n ≤ k * 2 ^ drop → Toward.even.cut neg n drop ≤ k) := by
  have hg : 1 <<< min drop (n.log2 + 2) = 2 ^ drop := by rw [Nat.min_eq_left hd, Nat.shiftLeft_eq, Nat.one_mul]
  unfold Toward.cut
  rw [hg]
  simp only
  have hp := pow_pos drop
  generalize 2 ^ drop = g at hp ⊢
  have hdm := Nat.div_add_mod n g
  have hml := Nat.mod_lt n hp
  generalize hq : n / g = low at *
  generalize n % g = rest at *
  constructor
  · intro k hk
    have : k ≤ low := by rw [← hq]; exact (Nat.le_div_iff_mul_le hp).2 hk
    omega
  · intro k hk
    by_cases hr : rest = 0
    · have hm : (decide (g < 2 * rest) || (g == 2 * rest && low % 2 == 1)) = false := by
        subst hr
        simp
        omega
      rw [hm]
      simp only [Bool.toNat_false, Nat.add_zero]
      have : g * low ≤ g * k := by rw [Nat.mul_comm g k]; omega
      exact Nat.le_of_mul_le_mul_left this hp
    · have h1 : low < k := by
        have : g * low < g * k := by rw [Nat.mul_comm g k]; omega
        exact Nat.lt_of_mul_lt_mul_left this
      have h2 : (decide (g < 2 * rest) || (g == 2 * rest && low % 2 == 1)).toNat ≤ 1 := Bool.toNat_le _
      omega

/-- THE ROUNDING: the word of 'mag' units of 2 ^ (c - 1074). -/
theorem near_spec (s : Bool) (mag c : Nat) : ∃ R, double.nearest s mag (-1074 + (c : Int)) = double.word s (min R double.infRung) ∧
    (∀ r, V r ≤ mag * 2 ^ c → r ≤ R) ∧ (∀ r, mag * 2 ^ c ≤ V r → R ≤ r) := by
  by_cases h0 : mag = 0
  · subst h0
    refine ⟨0, by simp [Format.nearest], fun r hr => ?_, fun r _ => Nat.zero_le _⟩
    have e1 := rung_eq r
    have h2 : kr r = 0 := by
      unfold V at hr
      have := pow_pos (er r)
      rcases Nat.eq_zero_or_pos (kr r) with h | h
      · exact h
      · have := Nat.mul_pos h this
        omega
    rcases Nat.eq_zero_or_pos (er r) with h | h
    · rw [h] at e1; omega
    · have := kr_ge r h; omega
  · have hlo : 2 ^ mag.log2 ≤ mag := Nat.log2_self_le h0
    have hhi : mag < 2 ^ (mag.log2 + 1) := Nat.lt_log2_self
    generalize hl : mag.log2 = l at hlo hhi
    have hY1 : 2 ^ (c + l) ≤ mag * 2 ^ c := by rw [Nat.pow_add, Nat.mul_comm]; exact Nat.mul_le_mul_right _ hlo
    have hY2 : mag * 2 ^ c < 2 ^ (c + l + 1) := by
      rw [show c + l + 1 = (l + 1) + c by omega, Nat.pow_add]
      exact Nat.mul_lt_mul_of_pos_right hhi (pow_pos c)
    have hlast : max (-1074 + (c : Int) + (l : Int) - 52) (-1074) = -1074 + ((c + l - 52 : Nat) : Int) := by omega
    have hcut := cut_between s (mag <<< (c - (c + l - 52))) ((c + l - 52) - c) (by
      rw [Nat.shiftLeft_eq]
      rcases Nat.lt_or_ge 52 l with h | h
      · rw [show c - (c + l - 52) = 0 by omega, Nat.pow_zero, Nat.mul_one, hl]; omega
      · omega)
    refine ⟨(c + l - 52) * 4503599627370496 + Toward.even.cut s (mag <<< (c - (c + l - 52))) ((c + l - 52) - c), ?_, ?_⟩
    · unfold Format.nearest
      rw [if_neg h0, e_frac, e_least, e_bin, hl]
      simp only
      rw [show ((52 : Nat) : Int) = 52 from rfl, hlast]
      rw [show ((-1074 : Int) + (c : Int) - (-1074 + ((c + l - 52 : Nat) : Int))).toNat = c - (c + l - 52) by omega,
        show ((-1074 : Int) + ((c + l - 52 : Nat) : Int) - (-1074 + (c : Int))).toNat = (c + l - 52) - c by omega,
        show ((-1074 : Int) + ((c + l - 52 : Nat) : Int) - -1074).toNat = c + l - 52 by omega]
    · generalize Toward.even.cut s (mag <<< (c - (c + l - 52))) ((c + l - 52) - c) = kept at hcut ⊢
      rw [Nat.shiftLeft_eq] at hcut
      have hrel : ∀ k, k * 2 ^ (c + l - 52) * 2 ^ (c + l - 52 - c) = k * 2 ^ (c + l - 52 - c) * 2 ^ (c + l - 52) := fun k => by rw [Nat.mul_right_comm]
      have hN : mag * 2 ^ (c - (c + l - 52)) * 2 ^ (c + l - 52) = mag * 2 ^ c * 2 ^ (c + l - 52 - c) := by
        rw [Nat.mul_assoc, Nat.mul_assoc, ← Nat.pow_add, ← Nat.pow_add]
        congr 2
        omega
      have p1 := pow_pos (c + l - 52)
      have p2 := pow_pos (c + l - 52 - c)
      refine rung_between ?_ ?_ (fun k hk => hcut.1 k ?_) (fun k hk => hcut.2 k ?_)
      · rcases Nat.lt_or_ge 52 (c + l) with h | h
        · right
          have : 4503599627370496 * 2 ^ (c + l - 52) = 2 ^ (c + l) := by
            rw [show (4503599627370496 : Nat) = 2 ^ 52 from rfl, ← Nat.pow_add]; congr 1; omega
          omega
        · left; omega
      · rcases Nat.lt_or_ge 52 (c + l) with h | h
        · have : 9007199254740992 * 2 ^ (c + l - 52) = 2 ^ (c + l + 1) := by
            rw [show (9007199254740992 : Nat) = 2 ^ 53 from rfl, ← Nat.pow_add]; congr 1; omega
          omega
        · have : 2 ^ (c + l + 1) ≤ 2 ^ 53 := Nat.pow_le_pow_right (by decide) (by omega)
          rw [show c + l - 52 = 0 by omega, Nat.pow_zero, Nat.mul_one]
          have : (2 : Nat) ^ 53 = 9007199254740992 := rfl
          omega
      · have := Nat.mul_le_mul_right (2 ^ (c + l - 52 - c)) hk
        rw [hrel, ← hN] at this
        exact Nat.le_of_mul_le_mul_right this p1
      · have := Nat.mul_le_mul_right (2 ^ (c + l - 52 - c)) hk
        rw [hrel, ← hN] at this
        exact Nat.le_of_mul_le_mul_right this p1

end Go.Proofs.Qxb6602162a.Round
