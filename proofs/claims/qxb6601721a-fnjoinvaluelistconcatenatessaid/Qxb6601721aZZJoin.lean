/-
  The walk of ZZjoinValueList (17).
-/
import Derived.Test.Qxb6601721aJoin
namespace Go.Proofs.Qxb6601721a
open Go.RowKit

theorem zzjoin_any (v : Value) (items : List (List Int)) (w : World) (h : RdI w v items) (hn : items.length ≤ 1048576) (hz : szTo items items.length ≤ 1048576) :
    Calls Try.prog 17 #[v] w fun e w' => ∃ v', e = .returned v' ∧ Own w' w.heap.size v' (joinTo items items.length) ∧ NilAs v' (joinTo items items.length) ∧ Below w.heap.size w w' := by
  have H := hide (join_any v items w h hn hz)
  clear h hn hz
  go_enter Try.func17, Try.ntmps17
  go_wp2_with fail
  refine (unhide H).mono ?_
  rintro e w' ⟨v', rfl, h1, h2, h3⟩
  go_wp2
  go_ret
  exact ⟨_, rfl, h1, h2, h3⟩
end Go.Proofs.Qxb6601721a
