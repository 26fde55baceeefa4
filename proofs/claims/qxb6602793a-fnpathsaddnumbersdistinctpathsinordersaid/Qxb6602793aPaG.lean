import Derived.Test.Qxb6602793aPaF
import Derived.BigRegion
namespace Go.Proofs.Qxb6602793a.Pa
open Go.RowKit Go.Proofs.Qxb6602793a.Mem Go.WideMaps Go.Maps

/-! THE STATE OF A Paths IN MEMORY -/

/-- A block of ours: the Paths, a row of nodes, a map. -/
def Ours (w : World) (k : Nat) : Prop := (∃ cs t fr, w.heap[k]? = some (Obj.cells cs t fr) ∧ (t = 42 ∨ t = 52)) ∨ ∃ es cl, w.heap[k]? = some (Obj.map es cl)

/-- Blocks below B are as they were, and so are the rows of other things than ours. -/
def Keep (B : Nat) (w w' : World) : Prop :=
  Below B w w' ∧ ∀ (b : Nat) cs t fr, w.heap[b]? = some (Obj.cells cs t fr) → t ≠ 42 → t ≠ 52 → w'.heap[b]? = some (Obj.cells cs t fr)
/-- The maps are as they were. -/
def MapsKept (w w' : World) : Prop := ∀ (b : Nat) es cl, w.heap[b]? = some (Obj.map es cl) → w'.heap[b]? = some (Obj.map es cl)

theorem Keep.refl (B : Nat) (w : World) : Keep B w w := ⟨Below.refl _ _, fun _ _ _ _ h _ _ => h⟩
theorem Keep.trans {B : Nat} {a b c : World} (h : Keep B a b) (k : Keep B b c) : Keep B a c :=
  ⟨h.1.trans k.1, fun x cs t fr hx h1 h2 => k.2 x cs t fr (h.2 x cs t fr hx h1 h2) h1 h2⟩
theorem lt_of_heap {w : World} {b : Nat} {o : Obj} (h : w.heap[b]? = some o) : b < w.heap.size := (Array.getElem?_eq_some_iff.1 h).1
theorem Keep.grown {B : Nat} {a w w' : World} {row : Option Nat} (h : Keep B a w) (hg : w.grownBy w' row) (hB : B ≤ w.heap.size) (hr : ∀ k, row = some k → B ≤ k ∧ Ours w k) : Keep B a w' := by
  refine ⟨h.1.grown hg hB (fun k hk => (hr k hk).1), fun b cs t fr hb h1 h2 => ?_⟩
  have hb2 := h.2 b cs t fr hb h1 h2
  rw [hg.block b (lt_of_heap hb2) (fun e => ?_)]
  · exact hb2
  · rcases (hr b e.symm).2 with ⟨cs', t', fr', g1, g2⟩ | ⟨es, cl, g1⟩
    · rw [hb2] at g1
      cases g1
      rcases g2 with g2 | g2
      · exact h1 g2
      · exact h2 g2
    · rw [hb2] at g1; cases g1
theorem MapsKept.refl (w : World) : MapsKept w w := fun _ _ _ h => h
theorem MapsKept.trans {a b c : World} (h : MapsKept a b) (k : MapsKept b c) : MapsKept a c := fun x es cl hx => k x es cl (h x es cl hx)
theorem MapsKept.grown {a w w' : World} {row : Option Nat} (h : MapsKept a w) (hg : w.grownBy w' row) (hr : ∀ k, row = some k → ∃ cs t fr, w.heap[k]? = some (Obj.cells cs t fr)) : MapsKept a w' := by
  intro b es cl hb
  have hb2 := h b es cl hb
  rw [hg.block b (lt_of_heap hb2) (fun e => ?_)]
  · exact hb2
  · obtain ⟨cs, t, fr, g⟩ := hr b e.symm
    rw [hb2] at g; cases g
theorem setCell_grown (w : World) (a : Addr) (u : Value) : w.grownBy (w.setCell a u) (some a.block) :=
  ⟨rfl, rfl, rfl, by simp, fun k _ hk => heap_setCell_other w a k u (fun e => hk (by simp [e]))⟩
theorem drew_grown (w : World) : w.grownBy w.drew none := ⟨rfl, rfl, rfl, Nat.le_refl _, fun _ _ _ => rfl⟩
theorem drewN_grown (w : World) (d : Nat) : w.grownBy (w.drewN d) none := ⟨rfl, rfl, rfl, Nat.le_refl _, fun _ _ _ => rfl⟩

/-- The Paths and its nodes. -/
structure Co (w : World) (B Pb g cap N : Nat) (T : Nat → Nd) (pr : Nat → Int) (n d : Int) : Prop where
  hp : w.heap[Pb]? = some (Obj.cells #[.slice (some ⟨g, 0, none⟩) N cap, .int .i64 n, .int .i64 d] 42 (0, 0))
  hB : B ≤ Pb
  row : NRow w B g cap N T pr

structure St (w : World) (B Pb g cap N : Nat) (T : Nat → Nd) (pr : Nat → Int) (kids : Nat → List Nat) (n d : Int) : Prop where
  co : Co w B Pb g cap N T pr n d
  maps : ∀ k, k < N → ∀ b, (T k).bf = some b → B ≤ b ∧ MapFor w b N T (kids k)
  apart : ∀ k k' b, k < N → k' < N → (T k).bf = some b → (T k').bf = some b → k = k'
  small : ∀ k, k < N → (T k).first.length ≤ 1048576 ∧ (flat (T k).rest).length ≤ 1048576

section
variable {w w' : World} {B Pb g cap N : Nat} {T T' : Nat → Nd} {pr pr' : Nat → Int} {kids : Nat → List Nat} {n d : Int}

theorem Co.cell0 (h : Co w B Pb g cap N T pr n d) : w.cell? ⟨Pb, 0, none⟩ = some (.slice (some ⟨g, 0, none⟩) N cap) := by
  rw [cell_of_row w Pb 0 _ _ _ h.hp]; rfl
theorem Co.cell1 (h : Co w B Pb g cap N T pr n d) : w.cell? ⟨Pb, 1, none⟩ = some (.int .i64 n) := by
  rw [cell_of_row w Pb 1 _ _ _ h.hp]; rfl
theorem Co.cell2 (h : Co w B Pb g cap N T pr n d) : w.cell? ⟨Pb, 2, none⟩ = some (.int .i64 d) := by
  rw [cell_of_row w Pb 2 _ _ _ h.hp]; rfl
theorem Co.frozenP (h : Co w B Pb g cap N T pr n d) (j : Nat) : w.frozen? ⟨Pb, j, none⟩ = false := frozen_of_row w Pb j _ _ h.hp
theorem NRow.heap (h : NRow w B g cap N T pr) : ∃ cs, w.heap[g]? = some (Obj.cells cs 52 (0, 0)) ∧ B ≤ g := by
  rcases h.2 with ⟨h', _⟩ | ⟨g', cap', cur, h', hb, hg, _⟩
  · simp at h'
  · simp only [Value.slice.injEq, Option.some.injEq, Addr.mk.injEq, and_true, true_and] at h'
    obtain ⟨rfl, rfl⟩ := h'
    exact ⟨cur, hg, hb⟩
theorem Co.ne (h : Co w B Pb g cap N T pr n d) : g ≠ Pb := by
  intro e
  obtain ⟨cs, hg, _⟩ := h.row.heap
  have h2 := h.hp
  rw [← e, hg] at h2
  cases h2
theorem Co.oursP (h : Co w B Pb g cap N T pr n d) : Ours w Pb := .inl ⟨_, _, _, h.hp, .inl rfl⟩
theorem Co.oursG (h : Co w B Pb g cap N T pr n d) : Ours w g := by
  obtain ⟨cs, hg, _⟩ := h.row.heap
  exact .inl ⟨_, _, _, hg, .inr rfl⟩
theorem Co.BG (h : Co w B Pb g cap N T pr n d) : B ≤ g := by
  obtain ⟨cs, _, hb⟩ := h.row.heap
  exact hb
theorem Co.ltP (h : Co w B Pb g cap N T pr n d) : Pb < w.heap.size := lt_of_heap h.hp
theorem Co.ltG (h : Co w B Pb g cap N T pr n d) : g < w.heap.size := by
  obtain ⟨cs, hg, _⟩ := h.row.heap
  exact lt_of_heap hg
theorem Co.leB (h : Co w B Pb g cap N T pr n d) : B ≤ w.heap.size := Nat.le_of_lt (Nat.lt_of_le_of_lt h.hB h.ltP)

/-- Ours alone count. -/
theorem Co.kept {row : Option Nat} (h : Co w B Pb g cap N T pr n d) (hg : w.grownBy w' row) (h1 : some Pb ≠ row) (h2 : some g ≠ row) : Co w' B Pb g cap N T pr n d :=
  ⟨by rw [hg.block Pb h.ltP h1]; exact h.hp, h.hB, World.ownsRow.kept h.row hg (.inr h2)⟩
theorem Co.setNode (h : Co w B Pb g cap N T pr n d) {k f : Nat} {v : Value} (hk : k < N) (hf : f < 7) (ho : ∀ j, j < N → j ≠ k → ndCells (T' j) (pr' j) = ndCells (T j) (pr j)) (hv : ndCells (T' k) (pr' k) = (ndCells (T k) (pr k)).set f v) :
    Co (w.setCell ⟨g, k * 7 + f, none⟩ v) B Pb g cap N T' pr' n d := by
  have h2 := (World.ownsRow.stored h.row (k * 7 + f) v).1
  rw [rowOf_set hk hf ho hv] at h2
  exact ⟨by rw [heap_setCell_other w _ Pb v (fun e => h.ne e.symm)]; exact h.hp, h.hB, h2⟩
theorem Co.setP (h : Co w B Pb g cap N T pr n d) {j : Nat} {v : Value} {g' cap' : Nat} {n' d' : Int} (hrow : NRow w B g' cap' N T pr)
    (he : (#[.slice (some ⟨g, 0, none⟩) N cap, .int .i64 n, .int .i64 d] : Array Value).setIfInBounds j v = #[.slice (some ⟨g', 0, none⟩) N cap', .int .i64 n', .int .i64 d']) : Co (w.setCell ⟨Pb, j, none⟩ v) B Pb g' cap' N T pr n' d' := by
  obtain ⟨cs, hg, _⟩ := hrow.heap
  have hne : g' ≠ Pb := by
    intro e
    have h2 := h.hp
    rw [← e, hg] at h2
    cases h2
  refine ⟨?_, h.hB, World.ownsRow.kept hrow (setCell_grown w _ v) (.inr (by simp [Value.ownBlock, hne]))⟩
  rw [heap_setCell_same w Pb j _ _ v h.hp, he]
end

def AppG (ats : Array TypeId) (ty : TypeId) (args : Array Value) : Sem Value := Builtin.append_ ats ty args
theorem appG (ats : Array TypeId) (ty : TypeId) (args : Array Value) : Builtin.append_ ats ty args = AppG ats ty args := rfl

theorem info52 : (Try.prog.info? 52).map (fun i => (i.zero, i.size, i.bytes)) = some (some (.agg #[.string ⟨#[]⟩, .string ⟨#[]⟩, .int .i64 0, .int .i64 0, .int .i64 0, .int .i64 0, .map none]), 7, 72) := by kernel_rfl

end Go.Proofs.Qxb6602793a.Pa
