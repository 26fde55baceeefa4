import Derived.Test.Qxb6603212aMemA
import Derived.ProofKit
namespace Go.Proofs.Qxb6603212a.Mem
open Go.ChangeShapes Go.WideShapes Go.ChangeAt Go.RowKit

theorem rd_of_row (x : Addr) (len : Nat) (zs : List Int) (w : World) (hl : len ≤ zs.length) (h : ∀ i, i < zs.length → w.cell? (x.add i) = some (.int .u8 (zs.getD i 0))) : Rd w (some x) len (zs.take len) := by
  refine ⟨by simp; omega, ?_⟩
  by_cases h0 : len = 0
  · exact .inl h0
  · obtain ⟨b, off, spot⟩ := x
    have hspot : spot = none := by simpa [Addr.add] using World.cell?_spot (h 0 (by omega))
    subst hspot
    refine .inr ⟨b, off, rfl, World.block_lt_of_cell? _ _ (h 0 (by omega)), fun j hj => ?_⟩
    rw [← add_plain, h j (by omega), List.getD, List.getD, List.getElem?_take_of_lt hj]
end Go.Proofs.Qxb6603212a.Mem
