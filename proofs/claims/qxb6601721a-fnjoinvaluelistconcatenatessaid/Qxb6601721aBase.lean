/-
  Shared words of this seat: a readable slice of bytes ('Rd'), the law on append with one limb more (where the new row lies), and the walk of cloneBytes.
-/
import Derived.Test.Qxb6601721aRows
import Derived.WalkKit
import Derived.WalkSpells
import Derived.WalkLawsBesides
import Derived.ArgAppend
import Derived.Laws.OwnMore
import Derived.Deep.QuietTactic
import Derived.BigQuiet
namespace Go.Proofs.Qxb6601721a
open Go.RowKit

theorem Try.info5 : (Try.prog.info? 5).map (fun i => (i.zero, i.size, i.bytes)) = some (some (.int .u8 0), 1, 1) := by kernel_rfl

theorem hide {p : Prop} (h : p) : Hid p := h
theorem unhide {p : Prop} (h : Hid p) : p := h

/-- The bytes of a list, as cells. -/
abbrev bys (xs : List Int) : List Value := xs.map (Value.int .u8)

/-- v is a slice of bytes that reads xs in w: nil and empty, or behind an address whose cells hold xs. -/
def Rd (w : World) (v : Value) (xs : List Int) : Prop :=
  (v = .slice none 0 0 ∧ xs = []) ∨
  ∃ x cap, v = .slice (some x) xs.length cap ∧ xs.length ≤ cap ∧ cap ≤ maxLen ∧ ∀ i, i < xs.length → w.cell? (x.add i) = some (.int .u8 (xs.getD i 0))

/-- What the frame of a proof hands over of a slice of integers that came in. -/
def IsRow (k : IntKind) (w : World) (a : Option Addr) (len cap : Nat) (zs : List Int) : Prop :=
  (a = none ∧ len = 0 ∧ cap = 0 ∧ zs = []) ∨
  ∃ x, a = some x ∧ len ≤ cap ∧ cap ≤ maxLen ∧ zs.length = cap ∧ (∀ i, i < zs.length → w.cell? (x.add i) = some (.int k (zs.getD i 0))) ∧ ∀ n ∈ zs, (Lit.int k n).wf = true

theorem IsRow.rd {w : World} {a : Option Addr} {len cap : Nat} {zs : List Int} (h : IsRow .u8 w a len cap zs) : ∃ xs, Rd w (.slice a len cap) xs ∧ xs.length = len ∧ len ≤ 9223372036854775807 := by
  refine ⟨zs.take len, ?_⟩
  rcases h with ⟨rfl, rfl, rfl, rfl⟩ | ⟨x, rfl, h1, h2, h3, h4, _⟩
  · exact ⟨.inl ⟨rfl, rfl⟩, rfl, by omega⟩
  · have hl : (zs.take len).length = len := by simp; omega
    refine ⟨.inr ⟨x, cap, by rw [hl], by omega, h2, fun i hi => ?_⟩, hl, by unfold maxLen at h2; omega⟩
    rw [h4 i (by omega)]
    simp [List.getD, show i < len by omega]

/-- The same world but for draws. -/
def Alk (w wr : World) : Prop := ∃ d, wr = w.drewN d
theorem Alk.refl (w : World) : Alk w w := ⟨0, rfl⟩
theorem Alk.drewN {w wr : World} (h : Alk w wr) (n : Nat) : Alk w (wr.drewN n) := by
  obtain ⟨d, rfl⟩ := h
  exact ⟨d + n, by simp⟩
theorem Alk.drew {w wr : World} (h : Alk w wr) : Alk w wr.drew := by
  obtain ⟨d, rfl⟩ := h
  exact ⟨d + 1, rfl⟩
theorem Alk.cell {w wr : World} (h : Alk w wr) (a : Addr) : wr.cell? a = w.cell? a := by
  obtain ⟨d, rfl⟩ := h
  rfl
theorem Alk.cellS {w wr : World} (h : Alk w wr) {a : Addr} {v : Value} (hc : w.cell? a = some v) : wr.cell? a = some v := (h.cell a).trans hc
theorem Alk.below {w wr a : World} {B : Nat} (h : Alk w wr) (hb : Below B a w) : Below B a wr := by
  obtain ⟨d, rfl⟩ := h
  exact ⟨hb.os, hb.tape, hb.output, hb.size, hb.block⟩

theorem Rd.below {w w' : World} {v : Value} {xs : List Int} (h : Rd w v xs) (b : Below w.heap.size w w') : Rd w' v xs := by
  rcases h with h | ⟨x, cap, e, h1, h2, h3⟩
  · exact .inl h
  · exact .inr ⟨x, cap, e, h1, h2, fun i hi => cell_later b (h3 i hi)⟩

theorem Rd.of_own {w : World} {base : Nat} {v : Value} {n : Nat} {xs : List Int} (h : w.ownsRow base 5 1 v n (bys xs)) : Rd w v xs ∧ n = xs.length := by
  have hn : xs.length = n := by have := h.1; simpa using this
  subst hn
  refine ⟨?_, rfl⟩
  rcases h.2 with ⟨rfl, h0⟩ | ⟨g, cap, cur, rfl, hb, hg, hnc, hcm, hcs, ht⟩
  · exact .inl ⟨rfl, List.eq_nil_of_length_eq_zero h0⟩
  · refine .inr ⟨⟨g, 0, none⟩, cap, rfl, hnc, hcm, fun i hi => ?_⟩
    have := h.cells (g := g) rfl i (.int .u8 (xs.getD i 0)) (by simp [bys, hi])
    exact this

/-- append onto a row of the call's own: 'run_append_own' and, besides, where the value behind it lies: in the row that it had, or in a new block. -/
theorem run_append_where {P : Program} (w : World) (base : Nat) (t ty e : TypeId) (i : TypeInfo) (z : Value) (size bytes : Nat) (ht : P.underlying t = some (.slice e)) (hi : P.info? e = some i) (hz : i.zero = some z)
    (hsize : i.size = size) (hby : i.bytes = bytes) (hzs : z.cells.size = size) (hsz : 0 < size)
    (v : Value) (n : Nat) (xs : List Value) (hown : w.ownsRow base e size v n xs)
    (a : Addr) (m c : Nat) (news : List Value) (hl : news.length = m * size) (hnews : ∀ j u, news[j]? = some u → w.cell? (a.add j) = some u) (h1 : ∀ u ∈ news, u.oneCell' = true)
    (h63 : n + m ≤ maxLen) (hbytes : (n + m) * bytes ≤ 140737488355328) (hbase : base ≤ w.heap.size) :
    ∃ v' w', (Builtin.append_ #[t, t] ty #[v, .slice (some a) m c]).run P w = .ok v' w' ∧ w'.ownsRow base e size v' (n + m) (xs ++ news) ∧ w.grownBy w' v.ownBlock ∧
      (v' = .slice none 0 0 ↔ v = .slice none 0 0 ∧ m = 0) ∧ (∀ k, v'.ownBlock = some k → v.ownBlock = some k ∨ w.heap.size ≤ k) := by
  obtain ⟨v', w', hr, h2, h3, h4⟩ := run_append_own (P := P) w base t ty e i z size bytes ht hi hz hsize hby hzs hsz v n xs hown a m c news hl hnews h1 h63 hbytes hbase
  refine ⟨v', w', hr, h2, h3, h4, fun k hk => ?_⟩
  have same : ∀ v2 w2, (Builtin.append_ #[t, t] ty #[v, .slice (some a) m c]).run P w = .ok v2 w2 → v2 = v' ∧ w2 = w' := by
    intro v2 w2 h
    rw [hr] at h
    simpa [eq_comm] using h
  rcases hown.2 with ⟨rfl, rfl⟩ | ⟨g, cap, cur, rfl, hbg, hg, hnc, hcm, hcs, htake⟩
  · have hx : xs = [] := List.eq_nil_of_length_eq_zero (by simpa using hown.1)
    subst hx
    obtain ⟨v2, w2, hr2, h22, _⟩ := run_append_own (P := P) w w.heap.size t ty e i z size bytes ht hi hz hsize hby hzs hsz (.slice none 0 0) 0 [] (World.ownsRow_nil w _ e size) a m c news hl hnews h1 h63 hbytes (Nat.le_refl _)
    obtain ⟨rfl, rfl⟩ := same _ _ hr2
    exact .inr (h22.lt k hk).1
  · by_cases hroom : n + m ≤ cap
    · obtain ⟨w2, hr2, _⟩ := run_append_fits (P := P) w base t ty e i size ht hi hsize g n cap xs hown a m c news hl hnews h1 hroom
      obtain ⟨rfl, rfl⟩ := same _ _ hr2
      exact .inl hk
    · obtain ⟨v2, w2, hr2, h22, _⟩ := run_append_arg_grows (P := P) w t ty e i z size bytes ht hi hz hsize hby hzs hsz ⟨g, 0, none⟩ n cap xs hown.1 (hown.cells (g := g) rfl) a m c news hl hnews (by omega) h63 hbytes
      obtain ⟨rfl, rfl⟩ := same _ _ hr2
      exact .inr (h22.lt k hk).1

/-- The same for the walk; the source's address may be none where nothing is appended. -/
theorem wpList_append_where {P : Program} {w : World} {ops : Array Oper} {rest : List Oper} {o : Oper} {a : Act} {Q : Exit → Act → World → Prop} (hgd : o.guard = none) (s x : Operand) (t : TypeId)
    (ho : o.op = .call { callee := .builtin .append, args := #[s, x], argTypes := #[t, t] })
    (base : Nat) (e : TypeId) (i : TypeInfo) (z : Value) (size bytes : Nat) (ht : P.underlying t = some (.slice e)) (hi : P.info? e = some i) (hz : i.zero = some z)
    (hsize : i.size = size) (hby : i.bytes = bytes) (hzs : z.cells.size = size) (hsz : 0 < size)
    (v : Value) (n : Nat) (xs : List Value) (hs : a.eval s = v) (hown : w.ownsRow base e size v n xs)
    (ad : Option Addr) (m c : Nat) (news : List Value) (hx : a.eval x = .slice ad m c) (hl : news.length = m * size) (hnone : ad = none → m = 0 ∧ c = 0) (hnews : ∀ b, ad = some b → ∀ j u, news[j]? = some u → w.cell? (b.add j) = some u) (h1 : ∀ u ∈ news, u.oneCell' = true)
    (h63 : n + m ≤ maxLen) (hbytes : (n + m) * bytes ≤ 140737488355328) (hbase : base ≤ w.heap.size)
    (h : ∀ v' w', w'.ownsRow base e size v' (n + m) (xs ++ news) → w.grownBy w' v.ownBlock → (v' = .slice none 0 0 ↔ v = .slice none 0 0 ∧ m = 0) → (∀ k, v'.ownBlock = some k → v.ownBlock = some k ∨ w.heap.size ≤ k) → wpList P ops Q rest (a.put o.dst v') w') :
    wpList P ops Q (o :: rest) a w := by
  cases ad with
  | none =>
    obtain ⟨rfl, rfl⟩ := hnone rfl
    obtain rfl : news = [] := List.eq_nil_of_length_eq_zero (by simpa using hl)
    refine wpList_plain hgd fun K hK => ?_
    have hrun := run_append_owned_none (P := P) (w := w) base t o.type e i size ht hi v n xs hown
    unfold Oper.wp
    simp [execOp, ho, resolve, invoke, builtin, hs, hx, hrun, Result.andThen]
    exact hK _ _ (h v w (by simpa using hown) (World.grownBy.refl _ _) (by simp) (fun k hk => .inl hk))
  | some b =>
    refine wpList_plain hgd fun K hK => ?_
    obtain ⟨v', w', hr, h2, h3, h4, h5⟩ := run_append_where (P := P) w base t o.type e i z size bytes ht hi hz hsize hby hzs hsz v n xs hown b m c news hl (hnews b rfl) h1 h63 hbytes hbase
    unfold Oper.wp execOp
    simp only [ho, resolve, invoke, builtin, Sem.run_bind, Sem.run_pure, Result.andThen_ok, List.map_toArray, List.map_cons, List.map_nil, hs, hx, hr]
    exact hK _ _ (h v' w' h2 h3 h4 h5)

theorem grown_alloc {w wr : World} {row : Option Nat} (h : w.grownBy wr row) (o : Obj) : w.grownBy (wr.alloc o) row :=
  ⟨h.os, h.tape, h.output, Nat.le_trans h.size (by simp), fun k hk hne => (Below.heap_alloc wr o k (Nat.lt_of_lt_of_le hk h.size)).trans (h.block k hk hne)⟩

/-- One append more: what has been written lies in the row that was handed in, or in new blocks. -/
theorem grown_next {w wr w' : World} {row : Option Nat} {b v' : Value} (h : w.grownBy wr row) (hw : ∀ k, b.ownBlock = some k → row = some k ∨ w.heap.size ≤ k)
    (g : wr.grownBy w' b.ownBlock) (wh : ∀ k, v'.ownBlock = some k → b.ownBlock = some k ∨ wr.heap.size ≤ k) :
    w.grownBy w' row ∧ (∀ k, v'.ownBlock = some k → row = some k ∨ w.heap.size ≤ k) := by
  refine ⟨⟨g.os.trans h.os, g.tape.trans h.tape, g.output.trans h.output, Nat.le_trans h.size g.size, fun k hk hne => ?_⟩, fun k hk => ?_⟩
  · refine (g.block k (Nat.lt_of_lt_of_le hk h.size) (fun e => ?_)).trans (h.block k hk hne)
    rcases hw k e.symm with e' | e'
    · exact hne e'.symm
    · omega
  · rcases wh k hk with e | e
    · exact hw k e
    · exact .inr (Nat.le_trans h.size e)

/-- v owns the bytes xs (Laws/AppendOwn's 'ownsRow' at bytes; a plain name, so that the walk does not look into it). -/
def Own (w : World) (base : Nat) (v : Value) (xs : List Int) : Prop := w.ownsRow base 5 1 v xs.length (bys xs)

/-- From W on nothing has turned but the row 'row' and new blocks; the value v lies in that row or in a new block. -/
structure Grew (W : World) (row : Option Nat) (w : World) (v : Value) : Prop where
  grown : W.grownBy w row
  lies : ∀ k, v.ownBlock = some k → row = some k ∨ W.heap.size ≤ k

theorem Grew.start (w : World) (v : Value) : Grew w v.ownBlock w v := ⟨World.grownBy.refl _ _, fun _ h => .inl h⟩
theorem Grew.alloc {W w : World} {row : Option Nat} {v : Value} (h : Grew W row w v) (o : Obj) : Grew W row (w.alloc o) v := ⟨grown_alloc h.grown o, h.lies⟩
theorem Own.alloc {w : World} {base : Nat} {v : Value} {xs : List Int} (h : Own w base v xs) (o : Obj) : Own (w.alloc o) base v xs := World.ownsRow.alloc h o
theorem Own.rd {w : World} {base : Nat} {v : Value} {xs : List Int} (h : Own w base v xs) : Rd w v xs := (Rd.of_own h).1

theorem Own.form {w : World} {base : Nat} {v : Value} {xs : List Int} (h : Own w base v xs) :
    ∃ ao cap, v = .slice ao xs.length cap ∧ xs.length ≤ cap ∧ cap ≤ maxLen ∧ ∀ j, j < xs.length → ∃ g, ao = some ⟨g, 0, none⟩ ∧ w.cell? ⟨g, j, none⟩ = some (.int .u8 (xs.getD j 0)) := by
  rcases h.2 with ⟨rfl, h0⟩ | ⟨g, cap, cur, rfl, _, hg, hnc, hcm, hcs, ht⟩
  · exact ⟨none, 0, by rw [h0], by omega, by unfold maxLen; omega, fun j hj => by omega⟩
  · refine ⟨_, cap, rfl, hnc, hcm, fun j hj => ⟨g, rfl, ?_⟩⟩
    have := World.ownsRow.cells h (g := g) rfl j (.int .u8 (xs.getD j 0)) (by simp [bys, hj])
    rwa [Addr.add_lit, Nat.zero_add] at this

/-- A row that is none of what was written stays. -/
theorem Own.kept {w w' : World} {base : Nat} {v : Value} {xs : List Int} (h : Own w base v xs) {row : Option Nat} (g : w.grownBy w' row) (hne : v.ownBlock = none ∨ v.ownBlock ≠ row) : Own w' base v xs := World.ownsRow.kept h g hne
theorem Own.below {w w' : World} {base : Nat} {v : Value} {xs : List Int} (h : Own w base v xs) (b : Below w.heap.size w w') : Own w' base v xs :=
  World.ownsRow.kept h (row := none) ⟨b.os, b.tape, b.output, b.size, fun k hk _ => b.block k hk⟩ (by cases hv : v.ownBlock <;> simp)
theorem Own.lt {w : World} {base : Nat} {v : Value} {xs : List Int} (h : Own w base v xs) : ∀ k, v.ownBlock = some k → base ≤ k ∧ k < w.heap.size := World.ownsRow.lt h
theorem Own.mono {w : World} {base base' : Nat} {v : Value} {xs : List Int} (h : Own w base v xs) (hb : base' ≤ base) : Own w base' v xs := by
  refine ⟨h.1, ?_⟩
  rcases h.2 with h' | ⟨g, cap, cur, e, b, rest⟩
  · exact .inl h'
  · exact .inr ⟨g, cap, cur, e, Nat.le_trans hb b, rest⟩
/-- Two rows, the second's blocks behind the first's world. -/
theorem own_apart {w w' : World} {base : Nat} {v v' : Value} {xs xs' : List Int} (h : Own w base v xs) (h' : Own w' w.heap.size v' xs') : v'.ownBlock = none ∨ v'.ownBlock ≠ v.ownBlock := by
  cases hv : v'.ownBlock with
  | none => exact .inl rfl
  | some k =>
    refine .inr fun e => ?_
    have h1 := (h'.lt k hv).1
    have h2 := (h.lt k e.symm).2
    omega

/-- append at bytes, for the walk. -/
theorem wpList_app {w : World} {ops : Array Oper} {rest : List Oper} {o : Oper} {a : Act} {Q : Exit → Act → World → Prop} (hgd : o.guard = none) (s x : Operand)
    (ho : o.op = .call { callee := .builtin .append, args := #[s, x], argTypes := #[22, 22] })
    (W : World) (row : Option Nat) (base : Nat) (v : Value) (xs : List Int) (hs : a.eval s = v) (hown : Own w base v xs) (hG : Grew W row w v) (hbase : base ≤ W.heap.size)
    (ad : Option Addr) (m c : Nat) (ys : List Int) (hx : a.eval x = .slice ad m c) (hm : ys.length = m) (hnone : ad = none → m = 0 ∧ c = 0) (hys : ∀ b, ad = some b → ∀ j, j < ys.length → w.cell? (b.add j) = some (.int .u8 (ys.getD j 0)))
    (zs : List Int) (hz : xs ++ ys = zs) (hb : zs.length ≤ 16777216)
    (h : ∀ v' w', Own w' base v' zs → Grew W row w' v' → (v' = .slice none 0 0 ↔ v = .slice none 0 0 ∧ m = 0) → wpList Try.prog ops Q rest (a.put o.dst v') w') :
    wpList Try.prog ops Q (o :: rest) a w := by
  obtain ⟨i0, hi, hz0, hz1, hz2⟩ := info_parts Try.info5
  have hl : xs.length + m = zs.length := by rw [← hz, List.length_append, hm]
  refine wpList_append_where hgd s x 22 ho base 5 i0 (.int .u8 0) 1 1 Try.underlying22 hi hz0 hz1 hz2 rfl (by decide) v xs.length (bys xs) hs hown ad m c (bys ys) hx (by simpa [bys] using hm) hnone ?_ (ints_oneCell _ _) (by unfold maxLen; omega) (by omega) (Nat.le_trans hbase hG.grown.size) ?_
  · intro b hb j u hu
    have hj : j < ys.length := by have := (List.getElem?_eq_some_iff.1 hu).1; simpa [bys] using this
    rw [hys b hb j hj]
    simpa [bys, List.getD, hj] using hu
  · intro v' w' h1 h2 h3 h4
    obtain ⟨g1, g2⟩ := grown_next hG.grown hG.lies h2 h4
    refine h v' w' ?_ ⟨g1, g2⟩ h3
    unfold Own
    rw [← hl, ← hz]
    simpa [bys] using h1

end Go.Proofs.Qxb6601721a
