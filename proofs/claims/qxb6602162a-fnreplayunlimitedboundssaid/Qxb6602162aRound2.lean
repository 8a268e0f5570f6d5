/-
  What the bounds of an unlimited period want of doubles: comparisons of rounded sums. Plain.
-/
import Derived.Test.Qxb6602162aRound
namespace Go.Proofs.Qxb6602162a.Round
open Ieee

theorem cmp_lt (x y : Int) : compare x y = .lt ↔ x < y := by
  show compareOfLessAndEq x y = .lt ↔ x < y
  unfold compareOfLessAndEq
  split
  · simp_all
  · split <;> simp_all
theorem cmp_gt (x y : Int) : compare x y = .gt ↔ y < x := by
  show compareOfLessAndEq x y = .gt ↔ y < x
  unfold compareOfLessAndEq
  split
  · simp; omega
  · split
    · simp; omega
    · simp; omega
theorem cmp_eq (x y : Int) : compare x y = .eq ↔ x = y := by
  show compareOfLessAndEq x y = .eq ↔ x = y
  unfold compareOfLessAndEq
  split
  · simp; omega
  · split
    · simp_all
    · simp_all

theorem read_fin (s : Bool) (r : Nat) (h : r < double.infRung) : double.read (double.word s r) = .number s (kr r) (-1074 + (er r : Int)) := by
  rw [e_inf] at h
  have e1 : double.word s r / 9223372036854775808 % 2 = if s then 1 else 0 := by
    unfold Format.word
    rw [e_sign]
    cases s <;> simp <;> omega
  have e2 : double.word s r % 9223372036854775808 = r := by
    unfold Format.word
    rw [e_sign]
    cases s <;> simp <;> omega
  have e3 : (double.word s r / 9223372036854775808 % 2 == 1) = s := by rw [e1]; cases s <;> rfl
  unfold Format.read
  rw [e_sign, e_bin, e_inf, e_least]
  simp only [e2, e3]
  unfold kr er
  by_cases hb : r < 4503599627370496
  · rw [if_pos hb, if_pos hb]
    congr 1
    have : r / 4503599627370496 - 1 = 0 := by omega
    rw [this]
    rfl
  · rw [if_neg hb, if_pos h, if_neg hb]
theorem read_inf (s : Bool) : double.read (double.word s double.infRung) = .infinity s := by
  cases s <;> rfl

theorem read_cases (x : Nat) : (∃ s r, r < double.infRung ∧ double.read x = .number s (kr r) (-1074 + (er r : Int))) ∨ (∃ s, double.read x = .infinity s) ∨ (∃ s t, double.read x = .nan s t) := by
  unfold Format.read
  rw [e_sign, e_bin, e_inf, e_least]
  simp only
  generalize (x / 9223372036854775808 % 2 == 1) = s
  generalize x % 9223372036854775808 = r
  by_cases hb : r < 4503599627370496
  · rw [if_pos hb]
    refine .inl ⟨s, r, by omega, ?_⟩
    unfold kr er
    rw [if_pos hb]
    congr 1
    have : r / 4503599627370496 - 1 = 0 := by omega
    rw [this]
    rfl
  · rw [if_neg hb]
    by_cases hi : r < 9218868437227405312
    · rw [if_pos hi]
      refine .inl ⟨s, r, hi, ?_⟩
      unfold kr er
      rw [if_neg hb]
    · rw [if_neg hi]
      by_cases he : r = 9218868437227405312
      · rw [if_pos he]; exact .inr (.inl ⟨s, rfl⟩)
      · rw [if_neg he]; exact .inr (.inr ⟨s, _, rfl⟩)

/-- A signed whole number. -/
def sv (s : Bool) (v : Nat) : Int := if s then -(v : Int) else (v : Int)
theorem sv_nonneg (v : Nat) : 0 ≤ sv false v := by unfold sv; simp
theorem sv_nonpos (v : Nat) : sv true v ≤ 0 := by unfold sv; simp
theorem signed_sv (s : Bool) (m u : Nat) : signed s m u = sv s (m * 2 ^ u) := by unfold signed sv; rw [Nat.shiftLeft_eq]
theorem sv_scale (s : Bool) (m a c : Nat) (h : c ≤ a) : sv s (m * 2 ^ (a - c)) * ((2 ^ c : Nat) : Int) = sv s (m * 2 ^ a) := by
  have : m * 2 ^ a = m * 2 ^ (a - c) * 2 ^ c := by rw [Nat.mul_assoc, ← pow_split h]
  rw [this]
  unfold sv
  cases s
  · simp
  · simp [Int.neg_mul]
theorem cpos (c : Nat) : (0 : Int) < ((2 ^ c : Nat) : Int) := by exact_mod_cast pow_pos c

theorem order_num (s t : Bool) (m n a b : Nat) : Datum.order (.number s m (-1074 + (a : Int))) (.number t n (-1074 + (b : Int))) =
    some (compare (sv s (m * 2 ^ (a - min a b))) (sv t (n * 2 ^ (b - min a b)))) := by
  unfold Datum.order
  simp only
  have e1 : ((-1074 : Int) + a - min (-1074 + (a : Int)) (-1074 + b)).toNat = a - min a b := by omega
  have e2 : ((-1074 : Int) + b - min (-1074 + (a : Int)) (-1074 + b)).toNat = b - min a b := by omega
  rw [e1, e2, signed_sv, signed_sv]

theorem order_num_not_lt {s t : Bool} {m n a b : Nat} (h : sv t (n * 2 ^ b) ≤ sv s (m * 2 ^ a)) : Datum.order (.number s m (-1074 + (a : Int))) (.number t n (-1074 + (b : Int))) ≠ some .lt := by
  rw [order_num]
  intro e
  have e' := (cmp_lt _ _).1 (Option.some.inj e)
  have := Int.mul_lt_mul_of_pos_right e' (cpos (min a b))
  rw [sv_scale _ _ _ _ (Nat.min_le_left a b), sv_scale _ _ _ _ (Nat.min_le_right a b)] at this
  omega

theorem read_zero : double.read 0 = .number false 0 (-1074 + ((0 : Nat) : Int)) := by rfl

/-- How a number stands to 0 is its sign. -/
theorem order_zero (s : Bool) (m a : Nat) : Datum.order (.number s m (-1074 + (a : Int))) (.number false 0 (-1074 + ((0 : Nat) : Int))) = some (compare (sv s (m * 2 ^ a)) 0) := by
  rw [order_num]
  simp [sv]

theorem swap_num (s t : Bool) (m n a b : Nat) : Datum.order (.number t n (-1074 + (b : Int))) (.number s m (-1074 + (a : Int))) = (Datum.order (.number s m (-1074 + (a : Int))) (.number t n (-1074 + (b : Int)))).map Ordering.swap := by
  rw [order_num, order_num, Nat.min_comm b a]
  generalize sv s _ = x
  generalize sv t _ = y
  simp only [Option.map_some, Option.some.injEq]
  rcases Int.lt_trichotomy x y with h | h | h
  · rw [(cmp_lt x y).2 h, (cmp_gt y x).2 h]; rfl
  · rw [(cmp_eq x y).2 h, (cmp_eq y x).2 h.symm]; rfl
  · rw [(cmp_gt x y).2 h, (cmp_lt y x).2 h]; rfl

theorem order_swap (x y : Nat) : double.order y x = (double.order x y).map Ordering.swap := by
  unfold Format.order
  rcases read_cases x with ⟨s, r, _, hx⟩ | ⟨s, hx⟩ | ⟨s, t, hx⟩ <;> rcases read_cases y with ⟨s', r', _, hy⟩ | ⟨s', hy⟩ | ⟨s', t', hy⟩ <;> rw [hx, hy]
  · exact swap_num _ _ _ _ _ _
  · cases s' <;> rfl
  · rfl
  · cases s <;> rfl
  · cases s <;> cases s' <;> rfl
  · rfl
  · rfl
  · rfl
  · rfl

theorem order_self (x : Nat) (h : ∀ s t, double.read x ≠ .nan s t) : double.order x x = some .eq := by
  unfold Format.order
  rcases read_cases x with ⟨s, r, _, hx⟩ | ⟨s, hx⟩ | ⟨s, t, hx⟩
  · rw [hx, order_num, (cmp_eq _ _).2 rfl]
  · rw [hx]; cases s <;> rfl
  · exact absurd hx (h s t)

/-- Two that are no NaN stand to each other in one of three ways. -/
theorem order_some (x y : Nat) (h : ∀ s t, double.read x ≠ .nan s t) (h' : ∀ s t, double.read y ≠ .nan s t) : ∃ o, double.order x y = some o := by
  unfold Format.order
  rcases read_cases x with ⟨s, r, _, hx⟩ | ⟨s, hx⟩ | ⟨s, t, hx⟩ <;> rcases read_cases y with ⟨s', r', _, hy⟩ | ⟨s', hy⟩ | ⟨s', t', hy⟩
  · rw [hx, hy, order_num]; exact ⟨_, rfl⟩
  · rw [hx, hy]; exact ⟨_, rfl⟩
  · exact absurd hy (h' _ _)
  · rw [hx, hy]; exact ⟨_, rfl⟩
  · rw [hx, hy]; exact ⟨_, rfl⟩
  · exact absurd hy (h' _ _)
  · exact absurd hx (h _ _)
  · exact absurd hx (h _ _)
  · exact absurd hx (h _ _)
theorem not_nan_left {x y : Nat} {o : Ordering} (h : double.order x y = some o) : ∀ s t, double.read x ≠ .nan s t := by
  intro s t e
  unfold Format.order at h
  rw [e] at h
  cases h
theorem not_nan_right {x y : Nat} {o : Ordering} (h : double.order x y = some o) : ∀ s t, double.read y ≠ .nan s t := by
  intro s t e
  unfold Format.order at h
  rw [e] at h
  cases hx : double.read x <;> rw [hx] at h <;> cases h

/-- A word of sign s and a rung up to infinity. -/
theorem word_read (s : Bool) (R : Nat) : (∃ r, r < double.infRung ∧ r ≤ R ∧ double.read (double.word s (min R double.infRung)) = .number s (kr r) (-1074 + (er r : Int)) ∧ (r = R)) ∨
    (double.infRung ≤ R ∧ double.read (double.word s (min R double.infRung)) = .infinity s) := by
  by_cases h : R < double.infRung
  · rw [Nat.min_eq_left (Nat.le_of_lt h)]
    exact .inl ⟨R, h, Nat.le_refl _, read_fin s R h, rfl⟩
  · rw [Nat.min_eq_right (by omega)]
    exact .inr ⟨by omega, read_inf s⟩

theorem word_pos (R : Nat) : double.order (double.word false (min R double.infRung)) 0 = some .gt ∨ double.order (double.word false (min R double.infRung)) 0 = some .eq := by
  unfold Format.order
  rw [read_zero]
  rcases word_read false R with ⟨r, _, _, h, _⟩ | ⟨_, h⟩
  · rw [h, order_zero]
    rcases Int.lt_trichotomy (sv false (kr r * 2 ^ er r)) 0 with h | h | h
    · have := sv_nonneg (kr r * 2 ^ er r); omega
    · right; rw [(cmp_eq _ _).2 h]
    · left; rw [(cmp_gt _ _).2 h]
  · rw [h]; left; rfl
theorem word_neg (R : Nat) : double.order (double.word true (min R double.infRung)) 0 ≠ some .gt := by
  unfold Format.order
  rw [read_zero]
  rcases word_read true R with ⟨r, _, _, h, _⟩ | ⟨_, h⟩
  · rw [h, order_zero]
    intro e
    have := (cmp_gt _ _).1 (Option.some.inj e)
    have := sv_nonpos (kr r * 2 ^ er r)
    omega
  · rw [h]; intro e; cases e
theorem word_zero (s : Bool) : double.order (double.word s (min 0 double.infRung)) 0 ≠ some .gt := by
  cases s
  · intro e; cases e
  · exact word_neg 0

/-! ### Sums -/
/-- The sum of two numbers: its total at the common place. -/
theorem sum_num (s t : Bool) (m n a b : Nat) : Datum.sum (.number s m (-1074 + (a : Int))) (.number t n (-1074 + (b : Int))) =
    some (.number (if sv s (m * 2 ^ (a - min a b)) + sv t (n * 2 ^ (b - min a b)) = 0 then s && t else decide (sv s (m * 2 ^ (a - min a b)) + sv t (n * 2 ^ (b - min a b)) < 0))
      (sv s (m * 2 ^ (a - min a b)) + sv t (n * 2 ^ (b - min a b))).natAbs (-1074 + ((min a b : Nat) : Int))) := by
  unfold Datum.sum
  simp only
  have e1 : ((-1074 : Int) + a - min (-1074 + (a : Int)) (-1074 + b)).toNat = a - min a b := by omega
  have e2 : ((-1074 : Int) + b - min (-1074 + (a : Int)) (-1074 + b)).toNat = b - min a b := by omega
  have e3 : min ((-1074 : Int) + a) (-1074 + b) = -1074 + ((min a b : Nat) : Int) := by omega
  rw [e1, e2, signed_sv, signed_sv, e3]

/-- What a total comes to: the word of its sign, rounded. -/
theorem write_total (s : Bool) (T : Int) (c : Nat) : ∃ R, double.write (.number s T.natAbs (-1074 + (c : Int))) = double.word s (min R double.infRung) ∧
    (∀ r, V r ≤ T.natAbs * 2 ^ c → r ≤ R) ∧ (∀ r, T.natAbs * 2 ^ c ≤ V r → R ≤ r) := near_spec s T.natAbs c

theorem sv_opp (t : Bool) (v : Nat) : sv (!t) v = -sv t v := by unfold sv; cases t <;> simp

theorem read_write_inf (s : Bool) : double.write (.infinity s) = double.word s (min double.infRung double.infRung) := by cases s <;> rfl

/-- A difference that rounds to more than nothing is a difference of a greater and a lesser. -/
theorem sub_gt {u m c : Nat} (h : double.sub u m = some c) (hc : double.order c 0 = some .gt) : double.order u m = some .gt := by
  unfold Format.sub at h
  unfold Format.order
  rcases read_cases u with ⟨s, r, _, hx⟩ | ⟨s, hx⟩ | ⟨s, t, hx⟩ <;> rcases read_cases m with ⟨s', r', _, hy⟩ | ⟨s', hy⟩ | ⟨s', t', hy⟩ <;> rw [hx, hy] at h <;> rw [hx, hy]
  · show Datum.order _ _ = _
    rw [order_num]
    simp only [Datum.opposite] at h
    rw [sum_num, sv_opp] at h
    simp only [Option.map_some, Option.some.injEq] at h
    generalize sv s (kr r * 2 ^ (er r - min (er r) (er r'))) = x at h ⊢
    generalize sv s' (kr r' * 2 ^ (er r' - min (er r) (er r'))) = y at h ⊢
    rcases Int.lt_trichotomy x y with hxy | hxy | hxy
    · exfalso
      rw [if_neg (by omega), decide_eq_true (by omega)] at h
      obtain ⟨R, hR, _⟩ := write_total true (x + -y) (min (er r) (er r'))
      rw [hR] at h
      rw [← h] at hc
      exact word_neg R hc
    · exfalso
      have e0 : x + -y = 0 := by omega
      rw [if_pos e0, e0] at h
      obtain ⟨R, hR, _, hR2⟩ := write_total (s && !s') 0 (min (er r) (er r'))
      have : R = 0 := by have := hR2 0 (by simp); omega
      rw [hR, this] at h
      rw [← h] at hc
      exact word_zero _ hc
    · rw [(cmp_gt _ _).2 hxy]
  · cases s'
    · exfalso
      simp only [Datum.opposite, Datum.sum, Option.map_some, Option.some.injEq] at h
      rw [read_write_inf] at h
      rw [← h] at hc
      exact word_neg _ hc
    · rfl
  · cases h
  · cases s
    · rfl
    · exfalso
      simp only [Datum.opposite, Datum.sum, Option.map_some, Option.some.injEq] at h
      rw [read_write_inf] at h
      rw [← h] at hc
      exact word_neg _ hc
  · cases s <;> cases s'
    · cases h
    · rfl
    · exfalso
      simp only [Datum.opposite, Datum.sum, Bool.not_false, if_true, Option.map_some, Option.some.injEq] at h
      rw [read_write_inf] at h
      rw [← h] at hc
      exact word_neg _ hc
    · cases h
  · cases h
  · cases h
  · cases h
  · cases h

/-- Nothing and more than nothing: a sum that is no less than nothing. -/
theorem zero_add_pos {n : Nat} (h : double.order n 0 = some .gt) : ∃ e, double.add 0 n = some e ∧ (double.order e 0 = some .gt ∨ double.order e 0 = some .eq) := by
  unfold Format.order at h
  unfold Format.add
  rw [read_zero] at h ⊢
  rcases read_cases n with ⟨s, r, _, hx⟩ | ⟨s, hx⟩ | ⟨s, t, hx⟩ <;> rw [hx] at h ⊢
  · rw [order_zero] at h
    have hp := (cmp_gt _ _).1 (Option.some.inj h)
    cases s
    · rw [sum_num]
      simp only [Option.map_some, Option.some.injEq, Nat.zero_min, Nat.sub_zero, Nat.zero_mul]
      have e0 : sv false 0 = 0 := rfl
      rw [e0, Int.zero_add, if_neg (by omega), decide_eq_false (by omega)]
      obtain ⟨R, hR, _⟩ := write_total false (sv false (kr r * 2 ^ er r)) 0
      exact ⟨_, rfl, by rw [hR]; exact word_pos R⟩
    · have := sv_nonpos (kr r * 2 ^ er r); omega
  · cases s
    · refine ⟨_, rfl, ?_⟩
      rw [read_write_inf]
      exact word_pos _
    · cases h
  · cases h

/-- The greater less the lesser: a word without a sign. -/
theorem sub_pos {e m : Nat} (h : double.order e m = some .gt) : ∃ R, double.sub e m = some (double.word false (min R double.infRung)) := by
  unfold Format.order at h
  unfold Format.sub
  rcases read_cases e with ⟨s, r, _, hx⟩ | ⟨s, hx⟩ | ⟨s, t, hx⟩ <;> rcases read_cases m with ⟨s', r', _, hy⟩ | ⟨s', hy⟩ | ⟨s', t', hy⟩ <;> rw [hx, hy] at h <;> rw [hx, hy]
  · rw [order_num] at h
    have hp := (cmp_gt _ _).1 (Option.some.inj h)
    simp only [Datum.opposite]
    rw [sum_num, sv_opp]
    simp only [Option.map_some]
    rw [if_neg (by omega), decide_eq_false (by omega)]
    obtain ⟨R, hR, _⟩ := write_total false (sv s (kr r * 2 ^ (er r - min (er r) (er r'))) + -sv s' (kr r' * 2 ^ (er r' - min (er r) (er r')))) (min (er r) (er r'))
    exact ⟨R, by rw [hR]⟩
  · cases s'
    · cases h
    · exact ⟨double.infRung, by simp only [Datum.opposite, Datum.sum, Option.map_some, Bool.not_true]; rw [read_write_inf]⟩
  · cases h
  · cases s
    · exact ⟨double.infRung, by simp only [Datum.opposite, Datum.sum, Option.map_some]; rw [read_write_inf]⟩
    · cases h
  · cases s <;> cases s'
    · cases h
    · exact ⟨double.infRung, by simp only [Datum.opposite, Datum.sum, Bool.not_true, if_true, Option.map_some]; rw [read_write_inf]⟩
    · cases h
    · cases h
  · cases h
  · cases h
  · cases h
  · cases h

/-- WHAT IS ADDED HAS NO SIGN: the sum is no less than it was. -/
theorem add_ge {d R d' : Nat} (h : double.add d (double.word false (min R double.infRung)) = some d') : double.order d' d ≠ some .lt := by
  unfold Format.add at h
  unfold Format.order
  rcases read_cases d with ⟨s, r, hr, hx⟩ | ⟨s, hx⟩ | ⟨s, t, hx⟩
  · rcases word_read false R with ⟨q, _, _, hq, _⟩ | ⟨_, hq⟩
    · rw [hx, hq, sum_num] at h
      simp only [Option.map_some, Option.some.injEq] at h
      have hD : sv s (kr r * 2 ^ (er r - min (er r) (er q))) * ((2 ^ min (er r) (er q) : Nat) : Int) = sv s (V r) := sv_scale _ _ _ _ (Nat.min_le_left _ _)
      have hX := sv_nonneg (kr q * 2 ^ (er q - min (er r) (er q)))
      have hDs : (s = false → 0 ≤ sv s (kr r * 2 ^ (er r - min (er r) (er q)))) ∧ (s = true → sv s (kr r * 2 ^ (er r - min (er r) (er q))) ≤ 0) := by
        cases s
        · exact ⟨fun _ => sv_nonneg _, fun h => by cases h⟩
        · exact ⟨fun h => (by cases h), fun _ => sv_nonpos _⟩
      generalize sv s (kr r * 2 ^ (er r - min (er r) (er q))) = Dv at h hD hDs
      generalize sv false (kr q * 2 ^ (er q - min (er r) (er q))) = Xv at h hX
      have hc := pow_pos (min (er r) (er q))
      generalize min (er r) (er q) = c at h hD hc
      by_cases hneg : Dv + Xv < 0
      · rw [if_neg (by omega), decide_eq_true hneg] at h
        obtain ⟨R', hR', _, h2⟩ := write_total true (Dv + Xv) c
        have hs : s = true := by
          cases s
          · have := hDs.1 rfl; omega
          · rfl
        subst hs
        have hV : (V r : Int) = -(Dv * ((2 ^ c : Nat) : Int)) := by rw [hD]; unfold sv; simp
        have hle : (Dv + Xv).natAbs * 2 ^ c ≤ V r := by
          have h3 : ((Dv + Xv).natAbs : Int) ≤ -Dv := by omega
          have h4 : ((Dv + Xv).natAbs : Int) * ((2 ^ c : Nat) : Int) ≤ -Dv * ((2 ^ c : Nat) : Int) := Int.mul_le_mul_of_nonneg_right h3 (by omega)
          have h5 : -Dv * ((2 ^ c : Nat) : Int) = (V r : Int) := by rw [hV, Int.neg_mul]
          rw [h5] at h4
          exact_mod_cast h4
        have hRr := h2 r hle
        rw [hR', Nat.min_eq_left (by omega)] at h
        rw [← h, read_fin true R' (by omega), hx]
        refine order_num_not_lt ?_
        have : V R' ≤ V r := V_mono hRr
        unfold sv
        unfold V at this
        simp only [if_true]
        omega
      · have hsg : (if Dv + Xv = 0 then (s && false) else decide (Dv + Xv < 0)) = false := by
          split
          · simp
          · exact decide_eq_false hneg
        rw [hsg] at h
        obtain ⟨R', hR', h1, _⟩ := write_total false (Dv + Xv) c
        rw [hR'] at h
        rw [← h, hx]
        rcases word_read false R' with ⟨q', hq1, _, hq', rfl⟩ | ⟨_, hq'⟩
        · rw [hq']
          refine order_num_not_lt ?_
          cases s
          · have h0 := hDs.1 rfl
            have hV : (V r : Int) = Dv * ((2 ^ c : Nat) : Int) := by rw [hD]; unfold sv; simp
            have hle : V r ≤ (Dv + Xv).natAbs * 2 ^ c := by
              have h3 : Dv ≤ ((Dv + Xv).natAbs : Int) := by omega
              have h4 : Dv * ((2 ^ c : Nat) : Int) ≤ ((Dv + Xv).natAbs : Int) * ((2 ^ c : Nat) : Int) := Int.mul_le_mul_of_nonneg_right h3 (by omega)
              rw [← hV] at h4
              exact_mod_cast h4
            have : V r ≤ V q' := V_mono (h1 r hle)
            unfold sv
            unfold V at this
            simp only [Bool.false_eq_true, if_false]
            omega
          · have := sv_nonneg (kr q' * 2 ^ er q')
            have := sv_nonpos (kr r * 2 ^ er r)
            omega
        · rw [hq']
          intro e
          cases e
    · rw [hx, hq] at h
      simp only [Datum.sum, Option.map_some, Option.some.injEq] at h
      rw [← h, read_write_inf, hx]
      rcases word_read false double.infRung with ⟨q', hq1, _, hq', rfl⟩ | ⟨_, hq'⟩
      · omega
      · rw [hq']; intro e; cases e
  · rcases word_read false R with ⟨q, _, _, hq, _⟩ | ⟨_, hq⟩
    · rw [hx, hq] at h
      simp only [Datum.sum, Option.map_some, Option.some.injEq] at h
      rw [← h, read_write_inf, hx]
      rcases word_read s double.infRung with ⟨q', hq1, _, hq', rfl⟩ | ⟨_, hq'⟩
      · omega
      · rw [hq']; cases s <;> (intro e; cases e)
    · rw [hx, hq] at h
      cases s
      · simp only [Datum.sum, if_true, Option.map_some, Option.some.injEq] at h
        rw [← h, read_write_inf, hx]
        rcases word_read false double.infRung with ⟨q', hq1, _, hq', rfl⟩ | ⟨_, hq'⟩
        · omega
        · rw [hq']; intro e; cases e
      · cases h
  · rw [hx] at h
    cases h

/-- The sign turned. -/
theorem neg_read (x : Nat) : double.read (x ^^^ 2 ^ 63) = (double.read x).opposite := by
  have e1 : (x ^^^ 2 ^ 63) % 9223372036854775808 = x % 9223372036854775808 := by
    have := @Nat.xor_mod_two_pow x (2 ^ 63) 63
    rw [show (2 : Nat) ^ 63 = 9223372036854775808 from rfl] at this ⊢
    rw [this, Nat.mod_self, Nat.xor_zero]
  have e2 : ((x ^^^ 2 ^ 63) / 9223372036854775808 % 2 == 1) = !(x / 9223372036854775808 % 2 == 1) := by
    have h1 : (x ^^^ 2 ^ 63) / 2 ^ 63 = x / 2 ^ 63 ^^^ 1 := by
      rw [Nat.xor_div_two_pow, Nat.div_self (pow_pos 63)]
    rw [show (2 : Nat) ^ 63 = 9223372036854775808 from rfl] at h1 ⊢
    rw [h1]
    generalize x / 9223372036854775808 = y
    have hy := @Nat.xor_mod_two_eq_one y 1
    rcases Nat.mod_two_eq_zero_or_one y with h | h
    · have : (y ^^^ 1) % 2 = 1 := hy.2 (by omega)
      rw [this, h]
      rfl
    · have : ¬ (y ^^^ 1) % 2 = 1 := fun e => (hy.1 e) (by omega)
      have : (y ^^^ 1) % 2 = 0 := by omega
      rw [this, h]
      rfl
  unfold Format.read
  rw [e_sign, e_bin, e_inf]
  simp only [e1, e2]
  split
  · rfl
  · split
    · rfl
    · split
      · rfl
      · rfl

theorem neg_gt {x : Nat} (h : double.order x 0 = some .lt) : double.order (x ^^^ 2 ^ 63) 0 = some .gt := by
  unfold Format.order at h ⊢
  rw [neg_read, read_zero] at *
  rcases read_cases x with ⟨s, r, _, hx⟩ | ⟨s, hx⟩ | ⟨s, t, hx⟩ <;> rw [hx] at h ⊢
  · rw [order_zero] at h
    simp only [Datum.opposite]
    rw [order_zero, sv_opp]
    have := (cmp_lt _ _).1 (Option.some.inj h)
    rw [(cmp_gt _ _).2 (by omega)]
  · cases s
    · cases h
    · rfl
  · cases h

end Go.Proofs.Qxb6602162a.Round
