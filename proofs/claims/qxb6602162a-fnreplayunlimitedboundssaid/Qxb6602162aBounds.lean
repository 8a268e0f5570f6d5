/-
  What an unlimited period leaves lies within the bounds: plain, out of the rounding lemmas.
-/
import Derived.Test.Qxb6602162aReplay
import Derived.Test.Qxb6602162aRound2
namespace Go.Proofs.Qxb6602162a

/-- How two floats stand to each other. -/
abbrev O (x y : Nat) : Option Ordering := FloatKind.f64.format.order x y

theorem O_double (x y : Nat) : O x y = Ieee.double.order x y := rfl
theorem ge_of {x y : Nat} (h : O x y = some .gt ∨ O x y = some .eq) : (O x y == some .gt || O x y == some .eq) = true := by rcases h with h | h <;> rw [h] <;> rfl
theorem le_of {x y : Nat} (h : O x y = some .lt ∨ O x y = some .eq) : (O x y == some .lt || O x y == some .eq) = true := by rcases h with h | h <;> rw [h] <;> rfl
theorem O_zero : O 0 0 = some .eq := by rfl
theorem not_lt_of {x y : Nat} (h : O x y ≠ some .lt) : (O x y == some .lt) = false := by rw [beq_eq_false_iff_ne]; exact h
theorem not_gt_of {x y : Nat} (h : O x y ≠ some .gt) : (O x y == some .gt) = false := by rw [beq_eq_false_iff_ne]; exact h

theorem self_not_lt (x : Nat) : O x x ≠ some .lt := by
  rw [O_double]
  intro h
  have := Round.order_self x (Round.not_nan_left h)
  rw [this] at h
  cases h
theorem self_eq {x y : Nat} {o : Ordering} (h : O x y = some o) : O x x = some .eq := Round.order_self x (Round.not_nan_left h)

/-- What the law asks of a period. -/
structure Bd (l g : Led) (ch : Nat) : Prop where
  e0 : (O g.earned 0 == some .gt || O g.earned 0 == some .eq) = true
  em : (O g.earned l.max == some .lt || O g.earned l.max == some .eq) = true
  s0 : (O g.surplus 0 == some .gt || O g.surplus 0 == some .eq) = true
  sm : (O g.surplus l.max == some .lt || O g.surplus l.max == some .eq) = true
  both : (O g.earned 0 != some .eq) = false ∨ (O g.surplus 0 != some .eq) = false
  ch0 : (O ch 0 == some .lt) = false
  disc : (O g.tot.disc l.tot.disc == some .lt) = false
  dm : sameF g.tot.disc l.tot.disc = true ∨ sameF g.earned l.max = true
  cm : (O ch 0 == some .gt) = false ∨ sameF g.surplus l.max = true

theorem zero_ne : (O 0 0 != some .eq) = false := by rw [O_zero]; rfl
theorem zero_ge : (O 0 0 == some .gt || O 0 0 == some .eq) = true := ge_of (.inr O_zero)
theorem zero_lt : (O 0 0 == some .lt) = false := by rw [O_zero]; rfl
theorem zero_gt : (O 0 0 == some .gt) = false := by rw [O_zero]; rfl

theorem bounds {l g : Led} {net ch : Nat} (hM : (O l.max 0 == some .gt || O l.max 0 == some .eq) = true) (h : Rep l net g ch) : Bd l g ch := by
  have hM' : O l.max 0 = some .gt ∨ O l.max 0 = some .eq := by simpa using hM
  have hMM : O l.max l.max = some .eq := by rcases hM' with h | h <;> exact self_eq h
  have hMn : ∀ s t, Ieee.double.read l.max ≠ .nan s t := by rcases hM' with h | h <;> exact Round.not_nan_left h
  have h0M : (O 0 l.max == some .lt || O 0 l.max == some .eq) = true := by
    refine le_of ?_
    have := Round.order_swap l.max 0
    rcases hM' with h | h
    · left; rw [O_double, this, ← O_double, h]; rfl
    · right; rw [O_double, this, ← O_double, h]; rfl
  have hMMle : (O l.max l.max == some .lt || O l.max l.max == some .eq) = true := le_of (.inr hMM)
  rcases h with ⟨hg, rfl, e, he, hacc⟩ | ⟨hl, c, t1, t2, hc, rfl, rfl⟩ | ⟨rfl, rfl⟩
  · obtain ⟨e', h1, h2⟩ := Round.zero_add_pos hg
    have hee : e = e' := by
      rcases he with he | ⟨he, _⟩
      · have : some e = some e' := he.symm.trans h1
        exact Option.some.inj this
      · have : none = some e' := he.symm.trans h1
        cases this
    subst hee
    have h2' : O e 0 = some .gt ∨ O e 0 = some .eq := h2
    have hen : ∀ s t, Ieee.double.read e ≠ .nan s t := by rcases h2' with h | h <;> exact Round.not_nan_left h
    rcases hacc with ⟨hgt, x, d, hx, hd, rfl⟩ | ⟨hng, rfl⟩
    · refine ⟨hM, hMMle, zero_ge, h0M, .inr zero_ne, zero_lt, not_lt_of ?_, .inr (sameF_self _), .inl zero_gt⟩
      obtain ⟨R, hR⟩ := Round.sub_pos hgt
      have hxx : x = Ieee.double.word false (min R Ieee.double.infRung) := by
        rcases hx with hx | ⟨hx, _⟩
        · have : some x = some _ := hx.symm.trans hR
          exact Option.some.inj this
        · have : none = some _ := hx.symm.trans hR
          cases this
      subst hxx
      rcases hd with hd | ⟨_, hn⟩
      · exact Round.add_ge hd
      · have : O d l.tot.disc = none := hn.left _
        show O d l.tot.disc ≠ _
        rw [this]
        intro h
        cases h
    · refine ⟨ge_of h2', le_of ?_, zero_ge, h0M, .inr zero_ne, zero_lt, not_lt_of (self_not_lt _), .inl (sameF_self _), .inl zero_gt⟩
      obtain ⟨o, ho⟩ := Round.order_some e l.max hen hMn
      have ho' : O e l.max = some o := ho
      have hng' : ¬ O e l.max = some .gt := hng
      show O e l.max = _ ∨ O e l.max = _
      cases o
      · exact .inl ho'
      · exact .inr ho'
      · exact absurd ho' hng'
  · have hN : O (Op.negFloat .f64 net) 0 = some .gt := Round.neg_gt hl
    generalize Op.negFloat .f64 net = N at hN hc ⊢
    obtain ⟨o, ho⟩ := Round.order_some N l.max (Round.not_nan_left hN) hMn
    have ho' : O N l.max = some o := ho
    have hN' : (O N 0 == some .gt || O N 0 == some .eq) = true := ge_of (.inl hN)
    have hfm : ∃ fm, fminv N l.max t1 = fm ∧ (O fm 0 == some .gt || O fm 0 == some .eq) = true ∧ (O fm l.max == some .lt || O fm l.max == some .eq) = true ∧ (O N l.max = some .gt → fm = l.max) := by
      refine ⟨_, rfl, ?_⟩
      unfold fminv
      show (_ ∧ _ ∧ _)
      have ho'' : FloatKind.f64.format.order N l.max = some o := ho'
      rw [ho'']
      cases o
      · exact ⟨hN', le_of (.inl ho'), fun h => by rw [ho'] at h; cases h⟩
      · simp only
        split
        · exact ⟨hN', le_of (.inr ho'), fun h => by rw [ho'] at h; cases h⟩
        · exact ⟨hM, hMMle, fun _ => rfl⟩
      · exact ⟨hM, hMMle, fun _ => rfl⟩
    obtain ⟨fm, hfe, f0, fM, fgt⟩ := hfm
    rw [hfe]
    have hch : (O (fmaxv c 0 t2) 0 == some .lt) = false ∧ ((O (fmaxv c 0 t2) 0 == some .gt) = false ∨ sameF fm l.max = true) := by
      unfold fmaxv
      cases hco : FloatKind.f64.format.order c 0 with
      | none =>
        have := (nan_of_cut t2).left 0
        simp only
        show (FloatKind.f64.format.order _ 0 == some .lt) = false ∧ ((FloatKind.f64.format.order _ 0 == some .gt) = false ∨ _)
        rw [this]
        exact ⟨rfl, .inl rfl⟩
      | some o =>
        have hco' : O c 0 = some o := hco
        cases o
        · exact ⟨zero_lt, .inl zero_gt⟩
        · simp only
          split
          · exact ⟨zero_lt, .inl zero_gt⟩
          · exact ⟨by rw [hco']; rfl, .inl (by rw [hco']; rfl)⟩
        · refine ⟨by rw [hco']; rfl, .inr ?_⟩
          rcases hc with hc | ⟨_, hn⟩
          · rw [fgt (Round.sub_gt hc hco')]
            exact sameF_self _
          · have := hn.left 0
            rw [this] at hco
            cases hco
    exact ⟨zero_ge, h0M, f0, fM, .inl zero_ne, hch.1, not_lt_of (self_not_lt _), .inl (sameF_self _), hch.2⟩
  · exact ⟨zero_ge, h0M, zero_ge, h0M, .inl zero_ne, zero_lt, not_lt_of (self_not_lt _), .inl (sameF_self _), .inl zero_gt⟩
end Go.Proofs.Qxb6602162a
