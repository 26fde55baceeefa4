import Derived.Test.Qxb6602793aPaG
import Derived.Deep.MidRow
import Derived.Deep.RegionHeld3
namespace Go.Proofs.Qxb6602793a.Pa
open Go.RowKit Go.Proofs.Qxb6602793a.Mem Go.WideMaps Go.Maps

def St52 (p v : Value) : Sem Unit := Instr.storeAt 52 p v
theorem st52 (p v : Value) : Instr.storeAt 52 p v = St52 p v := rfl
theorem st52_new (w : World) (a b : ByteArray) (x y z u : Int) (m : Option Nat) : (St52 (.pointer (some ⟨w.heap.size, 0, none⟩)) (.agg #[.string a, .string b, .int .i64 x, .int .i64 y, .int .i64 z, .int .i64 u, .map m])).run Try.prog
    (w.alloc (Obj.cells #[.string ⟨#[]⟩, .string ⟨#[]⟩, .int .i64 0, .int .i64 0, .int .i64 0, .int .i64 0, .map none] 52)) = .ok () (w.alloc (Obj.cells #[.string a, .string b, .int .i64 x, .int .i64 y, .int .i64 z, .int .i64 u, .map m] 52)) := by
  unfold St52
  go_simp
attribute [local go_sem ↓] appG st52

theorem flat_split {l : List Item} {t : Nat} {hd nm : List UInt8} (h : l[t]? = some (hd, nm)) : flat l = flat (l.take t) ++ (hd ++ (nm ++ flat (l.drop (t + 1)))) := by
  have h2 := drop_split h
  have h3 : flat l = flat (l.take t ++ (hd, nm) :: l.drop (t + 1)) := by rw [← h2]
  rw [h3, flat_append]
  rfl
theorem extract_tail (s : ByteArray) (a b : List UInt8) (h : s.data.toList = a ++ b) : s.extract a.length s.size = ⟨b.toArray⟩ := by
  apply ByteArray.ext
  apply Array.ext'
  rw [Lib.extract_data, h, Lib.size_eq, h]
  simp
theorem extract_head (s : ByteArray) (a b : List UInt8) (h : s.data.toList = a ++ b) : s.extract 0 a.length = ⟨a.toArray⟩ := by
  apply ByteArray.ext
  apply Array.ext'
  rw [Lib.extract_data, h]
  simp

def tailNd (T : Nat → Nd) (i t : Nat) (nm : Name) : Nd := { first := nm, rest := (T i).rest.drop (t + 1), path := (T i).path, child := (T i).child, next := 0, bf := (T i).bf }

theorem row_put (T : Nat → Nd) (pr : Nat → Int) (N : Nat) (nd : Nd) (x : Int) : rowOf (upd T N nd) (upd pr N x) (N + 1) = rowOf T pr N ++ ndCells nd x := by
  rw [rowOf_succ, upd_same, upd_same, rowOf_congr (T := T) (pr := pr)]
  intro k hk
  rw [upd_ne _ _ (by omega), upd_ne _ _ (by omega)]

/-- What holds on the way: the Paths, its nodes, what was kept since w0, a variable in block L. -/
structure Mid (w0 w : World) (B Pb g cap N : Nat) (T : Nat → Nd) (pr : Nat → Int) (n d : Int) (L : Nat) (cs : Array Value) : Prop where
  co : Co w B Pb g cap N T pr n d
  keep : Keep B w0 w
  maps : MapsKept w0 w
  hL : w.heap[L]? = some (Obj.cells cs 52 (0, 0))
  gL : g ≠ L
theorem Mid.loc {w0 w : World} {B Pb g cap N : Nat} {T : Nat → Nd} {pr : Nat → Int} {n d : Int} {L : Nat} {cs : Array Value} (h : Mid w0 w B Pb g cap N T pr n d L cs) (j : Nat) : w.cell? ⟨L, j, none⟩ = cs[j]? := cell_of_row w L j _ _ _ h.hL
theorem Mid.pL {w0 w : World} {B Pb g cap N : Nat} {T : Nat → Nd} {pr : Nat → Int} {n d : Int} {L : Nat} {cs : Array Value} (h : Mid w0 w B Pb g cap N T pr n d L cs) : Pb ≠ L := by
  intro e
  have h1 := h.co.hp
  rw [e, h.hL] at h1
  cases h1
theorem Mid.setNode {w0 w : World} {B Pb g cap N : Nat} {T T' : Nat → Nd} {pr pr' : Nat → Int} {n d : Int} {L : Nat} {cs : Array Value} (h : Mid w0 w B Pb g cap N T pr n d L cs) {k f : Nat} {v : Value} (hk : k < N) (hf : f < 7)
    (ho : ∀ j, j < N → j ≠ k → ndCells (T' j) (pr' j) = ndCells (T j) (pr j)) (hv : ndCells (T' k) (pr' k) = (ndCells (T k) (pr k)).set f v) : Mid w0 (w.setCell ⟨g, k * 7 + f, none⟩ v) B Pb g cap N T' pr' n d L cs := by
  obtain ⟨cg, hg, _⟩ := h.co.row.heap
  refine ⟨h.co.setNode hk hf ho hv, h.keep.grown (setCell_grown w _ v) h.co.leB ?_, h.maps.grown (setCell_grown w _ v) ?_, ?_, h.gL⟩
  · intro x hx
    cases hx
    exact ⟨h.co.BG, h.co.oursG⟩
  · intro x hx
    cases hx
    exact ⟨_, _, _, hg⟩
  · rw [heap_setCell_other w _ L v (fun e => h.gL e.symm)]; exact h.hL
section
variable {w0 w w' : World} {B Pb g cap N : Nat} {T : Nat → Nd} {pr : Nat → Int} {n d : Int} {L : Nat} {cs : Array Value}
theorem Mid.step (h : Mid w0 w B Pb g cap N T pr n d L cs) {k : Nat} (f : Nat) (v : Value) (nd : Nd) (x : Int) (hk : k < N) (hf : f < 7) (hv : ndCells nd x = (ndCells (T k) (pr k)).set f v) : Mid w0 (w.setCell ⟨g, k * 7 + f, none⟩ v) B Pb g cap N (upd T k nd) (upd pr k x) n d L cs :=
  h.setNode hk hf (fun j _ hj => by rw [upd_ne _ _ hj, upd_ne _ _ hj]) (by rw [upd_same, upd_same]; exact hv)
theorem upd_upd {α : Type} (f : Nat → α) (k : Nat) (a b : α) : upd (upd f k a) k b = upd f k b := by
  funext j
  unfold upd
  split <;> rfl
theorem Mid.put (h : Mid w0 w B Pb g cap N T pr n d L cs) {k : Nat} (nd : Nd) (x : Int) (hk : k < N) : Mid w0 (w.setCells g (k * 7) (ndCells nd x)) B Pb g cap N (upd T k nd) (upd pr k x) n d L cs := by
  have h0 := h.step 0 (.string ⟨nd.first.toArray⟩) { T k with first := nd.first } (pr k) hk (by decide) rfl
  have h1 := h0.step 1 (.string ⟨(flat nd.rest).toArray⟩) { T k with first := nd.first, rest := nd.rest } (pr k) hk (by decide) (by rw [upd_same, upd_same]; rfl)
  rw [upd_upd, upd_upd] at h1
  have h2 := h1.step 2 (.int .i64 x) { T k with first := nd.first, rest := nd.rest } x hk (by decide) (by rw [upd_same, upd_same]; rfl)
  rw [upd_upd, upd_upd] at h2
  have h3 := h2.step 3 (.int .i64 nd.path) { T k with first := nd.first, rest := nd.rest, path := nd.path } x hk (by decide) (by rw [upd_same, upd_same]; rfl)
  rw [upd_upd, upd_upd] at h3
  have h4 := h3.step 4 (.int .i64 (nd.child : Int)) { T k with first := nd.first, rest := nd.rest, path := nd.path, child := nd.child } x hk (by decide) (by rw [upd_same, upd_same]; rfl)
  rw [upd_upd, upd_upd] at h4
  have h5 := h4.step 5 (.int .i64 (nd.next : Int)) { T k with first := nd.first, rest := nd.rest, path := nd.path, child := nd.child, next := nd.next } x hk (by decide) (by rw [upd_same, upd_same]; rfl)
  rw [upd_upd, upd_upd] at h5
  have h6 := h5.step 6 (.map nd.bf) nd x hk (by decide) (by rw [upd_same, upd_same]; rfl)
  rw [upd_upd, upd_upd] at h6
  exact h6
theorem Mid.grown (h : Mid w0 w B Pb g cap N T pr n d L cs) (hg : w.grownBy w' none) : Mid w0 w' B Pb g cap N T pr n d L cs :=
  ⟨h.co.kept hg (by simp) (by simp), h.keep.grown hg h.co.leB (fun k hk => by cases hk), h.maps.grown hg (fun k hk => by cases hk), by rw [hg.block L (lt_of_heap h.hL) (by simp)]; exact h.hL, h.gL⟩
end

theorem co_append {wX w2 w3 : World} {B Pb g cap g2 cap2 N N' : Nat} {T T' : Nat → Nd} {pr pr' : Nat → Int} {n d : Int} (hco : Co wX B Pb g cap N T pr n d) (h2 : wX.grownBy w2 (some g)) (hrow : NRow w2 B g2 cap2 N' T' pr')
    (h3 : w3 = w2.setCell ⟨Pb, 0, none⟩ (.slice (some ⟨g2, 0, none⟩) N' cap2)) : Co w3 B Pb g2 cap2 N' T' pr' n d ∧ Keep B wX w3 ∧ MapsKept wX w3 := by
  obtain ⟨cg, hg, hgB⟩ := hrow.heap
  obtain ⟨cg0, hg0, hgB0⟩ := hco.row.heap
  have hp2 : w2.heap[Pb]? = some (Obj.cells #[.slice (some ⟨g, 0, none⟩) N cap, .int .i64 n, .int .i64 d] 42 (0, 0)) := by
    rw [h2.block Pb hco.ltP (by simpa using hco.ne.symm)]; exact hco.hp
  have hne : g2 ≠ Pb := by
    intro e
    rw [e, hp2] at hg
    cases hg
  have hg3 := setCell_grown w2 ⟨Pb, 0, none⟩ (.slice (some ⟨g2, 0, none⟩) N' cap2)
  subst h3
  refine ⟨⟨?_, hco.hB, World.ownsRow.kept hrow hg3 (.inr (by simp [Value.ownBlock, hne]))⟩, ?_, ?_⟩
  · rw [heap_setCell_same w2 Pb 0 _ _ _ hp2]; rfl
  · refine Keep.grown (Keep.grown (Keep.refl B wX) h2 hco.leB ?_) hg3 (Nat.le_trans hco.leB h2.size) ?_
    · intro k hk; cases hk; exact ⟨hco.BG, hco.oursG⟩
    · intro k hk; cases hk; exact ⟨hco.hB, .inl ⟨_, _, _, hp2, .inl rfl⟩⟩
  · refine MapsKept.grown (MapsKept.grown (MapsKept.refl wX) h2 ?_) hg3 ?_
    · intro k hk; cases hk; exact ⟨_, _, _, hg0⟩
    · intro k hk; cases hk; exact ⟨_, _, _, hp2⟩

theorem mid_start {w w1 wX w2 w3 : World} {B Pb g cap g2 cap2 N L : Nat} {T T' : Nat → Nd} {pr pr' : Nat → Int} {n d : Int} {cs : Array Value} (hco : Co w B Pb g cap N T pr n d) (hL : L = w.heap.size) (h1 : w.grownBy w1 none) (hb1 : w1.heap[w.heap.size]? = some (Obj.cells cs 52 (0, 0))) (hX : w1.grownBy wX none) (h2 : wX.grownBy w2 (some g))
    (hrow : NRow w2 B g2 cap2 (N + 1) T' pr') (hat : g = g2 ∨ g2 = wX.heap.size) (h3 : w3 = w2.setCell ⟨Pb, 0, none⟩ (.slice (some ⟨g2, 0, none⟩) (N + 1) cap2)) : Mid w w3 B Pb g2 cap2 (N + 1) T' pr' n d L cs := by
  subst hL
  have hcoX : Co wX B Pb g cap N T pr n d := (hco.kept h1 (by simp) (by simp)).kept hX (by simp) (by simp)
  obtain ⟨hc3, hk3, hm3⟩ := co_append hcoX h2 hrow h3
  have hlt1 := lt_of_heap hb1
  have hgl := hco.ltG
  have hpl := hco.ltP
  have hkX : Keep B w wX := Keep.grown (Keep.grown (Keep.refl B w) h1 hco.leB (fun k hk => by cases hk)) hX (Nat.le_trans hco.leB h1.size) (fun k hk => by cases hk)
  have hmX : MapsKept w wX := MapsKept.grown (MapsKept.grown (MapsKept.refl w) h1 (fun k hk => by cases hk)) hX (fun k hk => by cases hk)
  have hbX : wX.heap[w.heap.size]? = some (Obj.cells cs 52 (0, 0)) := by rw [hX.block _ hlt1 (by simp)]; exact hb1
  have hb2 : w2.heap[w.heap.size]? = some (Obj.cells cs 52 (0, 0)) := by
    rw [h2.block _ (lt_of_heap hbX) (by simp; omega)]; exact hbX
  refine ⟨hc3, hkX.trans hk3, hmX.trans hm3, ?_, ?_⟩
  · rw [h3, heap_setCell_other w2 _ _ _ (by simp; omega)]; exact hb2
  · have := hX.size
    rcases hat with e | e <;> omega

def headNd (T : Nat → Nd) (i t N : Nat) : Nd := { first := (T i).first, rest := (T i).rest.take t, path := -1, child := N, next := (T i).next, bf := none }

def SplitRet (w w' : World) (B Pb N i t : Nat) (T : Nat → Nd) (kids : Nat → List Nat) (n d : Int) (y : Item) (e : Ending) : Prop :=
  e = .returned (.tuple #[]) ∧ Keep B w w' ∧ ∃ g cap pr, St w' B Pb g cap (N + 1) (splitT N T i t y) pr (splitKids N kids i) n d

theorem split_done {w w' : World} {B Pb g cap g2 cap2 N i t : Nat} {T : Nat → Nd} {pr pr' : Nat → Int} {base : Nat → List Name} {kids : Nat → List Nat} {n d : Int} {hd nm : List UInt8} {L : Nat} {cs : Array Value} (h : St w B Pb g cap N T pr kids n d) (htree : Tree N T base kids) (hi : i < N) (hy : (T i).rest[t]? = some (hd, nm))
    (hm : Mid w w' B Pb g2 cap2 (N + 1) (upd (upd T N (tailNd T i t nm)) i (headNd T i t N)) pr' n d L cs) : St w' B Pb g2 cap2 (N + 1) (splitT N T i t (hd, nm)) pr' (splitKids N kids i) n d := by
  have hT : upd (upd T N (tailNd T i t nm)) i (headNd T i t N) = splitT N T i t (hd, nm) := rfl
  rw [hT] at hm
  have hfirst : ∀ k, k < N → (splitT N T i t (hd, nm) k).first = (T k).first := fun k hk => by
    by_cases e : k = i
    · subst e; rw [splitT_i]
    · rw [splitT_o e (by omega)]
  have hkN : splitKids N kids i N = kids i := by unfold splitKids; rw [upd_ne _ _ (by omega), upd_same]
  have hko : ∀ k, k ≠ i → k ≠ N → splitKids N kids i k = kids k := fun k h1 h2 => by unfold splitKids; rw [upd_ne _ _ h1, upd_ne _ _ h2]
  have hmap : ∀ k, k < N → ∀ b, (T k).bf = some b → B ≤ b ∧ MapFor w' b (N + 1) (splitT N T i t (hd, nm)) (kids k) := fun k hk b hb => by
    obtain ⟨h1, h2⟩ := h.maps k hk b hb
    exact ⟨h1, (h2.at (fun es cl hx => hm.maps b es cl hx)).congr (Nat.le_succ _) (fun c hc => hfirst c (htree.kid k hk c hc).2.1)⟩
  have hlen := flat_split hy
  have hsm := h.small i hi
  rw [hlen] at hsm
  simp only [List.length_append] at hsm
  refine ⟨hm.co, ?_, ?_, ?_⟩
  · intro k hk b hb
    by_cases e : k = i
    · subst e; rw [splitT_i] at hb; cases hb
    · by_cases e2 : k = N
      · subst e2
        rw [splitT_N hi] at hb
        rw [hkN]
        exact hmap i hi b hb
      · rw [splitT_o e e2] at hb
        rw [hko k e e2]
        exact hmap k (by omega) b hb
  · have key : ∀ k b, k < N + 1 → (splitT N T i t (hd, nm) k).bf = some b → k ≠ i ∧ ∃ k', k' < N ∧ (T k').bf = some b ∧ ((k = N ∧ k' = i) ∨ (k ≠ N ∧ k' = k)) := fun k b hk hb => by
      by_cases e : k = i
      · subst e; rw [splitT_i] at hb; cases hb
      · by_cases e2 : k = N
        · subst e2
          rw [splitT_N hi] at hb
          exact ⟨e, i, hi, hb, .inl ⟨rfl, rfl⟩⟩
        · rw [splitT_o e e2] at hb
          exact ⟨e, k, by omega, hb, .inr ⟨e2, rfl⟩⟩
    intro k k2 b hk hk2 hb hb2
    obtain ⟨a1, x, a2, a3, a4⟩ := key k b hk hb
    obtain ⟨c1, y, c2, c3, c4⟩ := key k2 b hk2 hb2
    have := h.apart x y b a2 c2 a3 c3
    omega
  · intro k hk
    by_cases e : k = i
    · subst e
      rw [splitT_i]
      exact ⟨(h.small k hi).1, by show (flat ((T k).rest.take t)).length ≤ _; omega⟩
    · by_cases e2 : k = N
      · subst e2
        rw [splitT_N hi]
        exact ⟨by show nm.length ≤ _; omega, by show (flat ((T i).rest.drop (t + 1))).length ≤ _; omega⟩
      · rw [splitT_o e e2]
        exact h.small k (by omega)

set_option maxRecDepth 100000 in
set_option maxHeartbeats 400000 in
theorem split_spec {w : World} {B Pb g cap N i t : Nat} {T : Nat → Nd} {pr : Nat → Int} {base : Nat → List Name} {kids : Nat → List Nat} {n d : Int} {hd nm : List UInt8} (h : St w B Pb g cap N T pr kids n d) (htree : Tree N T base kids) (hi : i < N) (hy : (T i).rest[t]? = some (hd, nm)) (hN : N ≤ 100000) :
    Calls Try.prog 33 #[.pointer (some ⟨Pb, 0, none⟩), .int .i64 (i : Int), .int .i64 ((flat ((T i).rest.take t)).length : Int)] w fun e w' => SplitRet w w' B Pb N i t T kids n d (hd, nm) e := by
  obtain ⟨i0, hi0, hz0, hz1, hz2⟩ := info_parts info52
  obtain ⟨s, hs⟩ : ∃ s : ByteArray, s = ⟨(flat (T i).rest).toArray⟩ := ⟨_, rfl⟩
  have hsl : s.data.toList = flat (T i).rest := by rw [hs]
  have hsz : s.size ≤ 1048576 := by rw [hs, str_size]; exact (h.small i hi).2
  have hOK := htree.ok i hi (hd, nm) (List.mem_of_getElem? hy)
  have hlies : Lies s.data.toList (flat ((T i).rest.take t)) hd nm (flat ((T i).rest.drop (t + 1))) := ⟨by rw [hsl]; exact flat_split hy, hOK.1, hOK.2⟩
  obtain ⟨pl, hpl⟩ : ∃ pl, pl = flat ((T i).rest.take t) := ⟨_, rfl⟩
  obtain ⟨s1, hs1⟩ : ∃ s1 : ByteArray, s1 = ⟨(flat ((T i).rest.drop (t + 1))).toArray⟩ := ⟨_, rfl⟩
  obtain ⟨s2, hs2⟩ : ∃ s2 : ByteArray, s2 = ⟨(flat ((T i).rest.take t)).toArray⟩ := ⟨_, rfl⟩
  have hx1 : s.extract (pl.length + hd.length + nm.length) s.size = s1 := by
    have := extract_tail s (pl ++ (hd ++ nm)) (flat ((T i).rest.drop (t + 1))) (by rw [hlies.1, hpl]; simp)
    rw [hs1, ← this]
    congr 1
    simp; omega
  have hx2 : s.extract 0 pl.length = s2 := by
    have := extract_head s pl (hd ++ (nm ++ flat ((T i).rest.drop (t + 1)))) (by rw [hlies.1, hpl])
    rw [this, hs2, hpl]
  have hle : pl.length + hd.length + nm.length ≤ s.size := by
    rw [Lib.size_eq, hlies.1, ← hpl]; simp; omega
  rw [← hpl] at hlies ⊢
  have hcp := h.co.cell0
  have c0 : w.cell? ⟨g, i * 7, none⟩ = some (.string ⟨(T i).first.toArray⟩) := h.co.row.cell 0 hi (by decide)
  have c1 : w.cell? ⟨g, i * 7 + 1, none⟩ = some (.string s) := by rw [hs]; exact h.co.row.cell 1 hi (by decide)
  have c2 : w.cell? ⟨g, i * 7 + 2, none⟩ = some (.int .i64 (pr i)) := h.co.row.cell 2 hi (by decide)
  have c3 : w.cell? ⟨g, i * 7 + 3, none⟩ = some (.int .i64 (T i).path) := h.co.row.cell 3 hi (by decide)
  have c4 : w.cell? ⟨g, i * 7 + 4, none⟩ = some (.int .i64 ((T i).child : Int)) := h.co.row.cell 4 hi (by decide)
  have c5 : w.cell? ⟨g, i * 7 + 5, none⟩ = some (.int .i64 ((T i).next : Int)) := h.co.row.cell 5 hi (by decide)
  have c6 : w.cell? ⟨g, i * 7 + 6, none⟩ = some (.map (T i).bf) := h.co.row.cell 6 hi (by decide)
  have HS : Hid (St w B Pb g cap N T pr kids n d) := h
  have HT : Hid (Tree N T base kids) := htree
  have HY : Hid ((T i).rest[t]? = some (hd, nm)) := hy
  have HL : Hid (Lies s.data.toList pl hd nm (flat ((T i).rest.drop (t + 1)))) := hlies
  have Hs : Hid (s = ⟨(flat (T i).rest).toArray⟩) := hs
  have Hs1 : Hid (s1 = ⟨(flat ((T i).rest.drop (t + 1))).toArray⟩) := hs1
  have Hs2 : Hid (s2 = ⟨(flat ((T i).rest.take t)).toArray⟩) := hs2
  have Hpl : Hid (pl = flat ((T i).rest.take t)) := hpl
  clear h htree hy hlies hs hs1 hs2 hpl hsl hOK
  obtain ⟨o, ho⟩ : ∃ o, o = pl.length := ⟨_, rfl⟩
  obtain ⟨af, haf⟩ : ∃ af, af = pl.length + hd.length + nm.length := ⟨_, rfl⟩
  have HC := nameAt_str s pl hd nm (flat ((T i).rest.drop (t + 1)))
  rw [← haf, ← ho] at HC
  rw [← haf] at hx1 hle
  rw [← ho] at hx2 ⊢
  have Ho : Hid (o = pl.length) := ho
  have Haf : Hid (af = pl.length + hd.length + nm.length) := haf
  have HC' : Hid (∀ w : World, Calls Try.prog 31 #[.string s, .int .i64 (o : Int)] w fun e w' => NameRet w w' nm af e) := fun w => HC w HL.out hsz
  have hoa : o ≤ af := by omega
  have hiN : (i : Int) < (N : Int) := by omega
  clear ho haf HC
  have hst0 := st52_new w ⟨(T i).first.toArray⟩ s (pr i) (T i).path ((T i).child : Int) ((T i).next : Int) (T i).bf
  go_enter Try.func33, Try.ntmps33
  go_wp2_with fail
  refine (HC'.out _).mono ?_
  rintro e w1 ⟨rfl, hw1⟩
  clear hst0
  have b1 : w1.heap[w.heap.size]? = some (Obj.cells #[.string ⟨(T i).first.toArray⟩, .string s, .int .i64 (pr i), .int .i64 (T i).path, .int .i64 ((T i).child : Int), .int .i64 ((T i).next : Int), .map (T i).bf] 52 (0, 0)) := by
    rw [← hw1]; exact heap_alloc_new w _
  have hg1 : w.grownBy w1 none := by rw [← hw1]; exact World.grownBy_alloc w _ _
  have Hco1 : Hid (Co w1 B Pb g cap N T pr n d) := HS.out.co.kept hg1 (by simp) (by simp)
  have Hg1 : Hid (w.grownBy w1 none) := hg1
  have d0 : w1.cell? ⟨w.heap.size, 0, none⟩ = some (.string ⟨(T i).first.toArray⟩) := by rw [cell_of_row w1 _ _ _ _ _ b1]; rfl
  have d1 : w1.cell? ⟨w.heap.size, 1, none⟩ = some (.string s) := by rw [cell_of_row w1 _ _ _ _ _ b1]; rfl
  have d2 : w1.cell? ⟨w.heap.size, 2, none⟩ = some (.int .i64 (pr i)) := by rw [cell_of_row w1 _ _ _ _ _ b1]; rfl
  have d3 : w1.cell? ⟨w.heap.size, 3, none⟩ = some (.int .i64 (T i).path) := by rw [cell_of_row w1 _ _ _ _ _ b1]; rfl
  have d4 : w1.cell? ⟨w.heap.size, 4, none⟩ = some (.int .i64 ((T i).child : Int)) := by rw [cell_of_row w1 _ _ _ _ _ b1]; rfl
  have d5 : w1.cell? ⟨w.heap.size, 5, none⟩ = some (.int .i64 ((T i).next : Int)) := by rw [cell_of_row w1 _ _ _ _ _ b1]; rfl
  have d6 : w1.cell? ⟨w.heap.size, 6, none⟩ = some (.map (T i).bf) := by rw [cell_of_row w1 _ _ _ _ _ b1]; rfl
  have hcp1 := Hco1.out.cell0
  have HB1 : Hid (w1.heap[w.heap.size]? = some (Obj.cells #[.string ⟨(T i).first.toArray⟩, .string s, .int .i64 (pr i), .int .i64 (T i).path, .int .i64 ((T i).child : Int), .int .i64 ((T i).next : Int), .map (T i).bf] 52 (0, 0))) := b1
  obtain ⟨L, hL⟩ : ∃ L, L = w.heap.size := ⟨_, rfl⟩
  have HL0 : Hid (L = w.heap.size) := hL
  rw [← hL] at d0 d1 d2 d3 d4 d5 d6 ⊢
  clear hL hw1 b1 hg1 c0 c1 c2 c3 c4 c5 c6 hcp
  obtain ⟨wX, hwX⟩ : ∃ wX, wX = w1.alloc (Obj.cells #[.string ⟨nm.toArray⟩, .string s1, .int .i64 (i : Int), .int .i64 (T i).path, .int .i64 ((T i).child : Int), .int .i64 0, .map (T i).bf] 52) := ⟨_, rfl⟩
  have HgX : Hid (w1.grownBy wX none) := by rw [hwX]; exact World.grownBy_alloc w1 _ _
  have hnewX : wX.heap[w1.heap.size]? = some (Obj.cells #[.string ⟨nm.toArray⟩, .string s1, .int .i64 (i : Int), .int .i64 (T i).path, .int .i64 ((T i).child : Int), .int .i64 0, .map (T i).bf] 52 (0, 0)) := by
    rw [hwX]; exact heap_alloc_new w1 _
  have HcoX : Hid (Co wX B Pb g cap N T pr n d) := Hco1.out.kept HgX.out (by simp) (by simp)
  have hcpX := HcoX.out.cell0
  obtain ⟨g2, cap2, w2, hrun, hown2, hgrow2, hat2, hlt2⟩ := run_append_lies (P := Try.prog) wX.drew 40 40 B 52 i0 _ 7 72 Try.underlying40 hi0 hz0 hz1 hz2 rfl (by decide) _ N _ HcoX.out.row
    ⟨w1.heap.size, 0, none⟩ 1 1 [.string ⟨nm.toArray⟩, .string s1, .int .i64 (i : Int), .int .i64 (T i).path, .int .i64 ((T i).child : Int), .int .i64 0, .map (T i).bf] rfl (World.news_of_block hnewX) (by simp [Value.oneCell']) (by decide) (by unfold maxLen; omega) (by omega) HcoX.out.leB (wX.heap.size) rfl
  have hrun' : (AppG #[40, 40] 40 #[.slice (some ⟨g, 0, none⟩) N cap, .slice (some ⟨w1.heap.size, 0, none⟩) 1 1]).run Try.prog wX.drew = .ok (.slice (some ⟨g2, 0, none⟩) (N + 1) cap2) w2 := hrun
  rw [hwX] at hrun' hcpX
  clear hrun
  have Hgrow2 : Hid (wX.grownBy w2 (some g)) := ⟨hgrow2.os, hgrow2.tape, hgrow2.output, hgrow2.size, hgrow2.block⟩
  have HwX : Hid (wX = w1.alloc (Obj.cells #[.string ⟨nm.toArray⟩, .string s1, .int .i64 (i : Int), .int .i64 (T i).path, .int .i64 ((T i).child : Int), .int .i64 0, .map (T i).bf] 52)) := hwX
  have Hown2 : Hid (w2.ownsRow B 52 7 (.slice (some ⟨g2, 0, none⟩) (N + 1) cap2) (N + 1) (rowOf T pr N ++ [.string ⟨nm.toArray⟩, .string s1, .int .i64 (i : Int), .int .i64 (T i).path, .int .i64 ((T i).child : Int), .int .i64 0, .map (T i).bf])) := hown2
  have Hat2 : Hid (g = g2 ∨ g2 = wX.heap.size) := by
    rcases hat2 with e | e
    · left; simpa [Value.ownBlock] using e
    · exact .inr e
  have hPb2 : w2.heap[Pb]? = some (Obj.cells #[.slice (some ⟨g, 0, none⟩) N cap, .int .i64 n, .int .i64 d] 42 (0, 0)) := by
    rw [Hgrow2.out.block Pb HcoX.out.ltP (by simpa using HcoX.out.ne.symm)]; exact HcoX.out.hp
  have hcp2 : w2.cell? ⟨Pb, 0, none⟩ = some (.slice (some ⟨g, 0, none⟩) N cap) := by rw [cell_of_row w2 Pb 0 _ _ _ hPb2]; rfl
  have hfr2 : w2.frozen? ⟨Pb, 0, none⟩ = false := frozen_of_row w2 Pb 0 _ _ hPb2
  have HPb2 : Hid (w2.heap[Pb]? = some (Obj.cells #[.slice (some ⟨g, 0, none⟩) N cap, .int .i64 n, .int .i64 d] 42 (0, 0))) := hPb2
  clear hwX hnewX hown2 hgrow2 hat2 hlt2 hPb2
  go_wp2_with fail
  go_region
  have HTN : Hid (ndCells (tailNd T i t nm) (i : Int) = [.string ⟨nm.toArray⟩, .string s1, .int .i64 (i : Int), .int .i64 (T i).path, .int .i64 ((T i).child : Int), .int .i64 0, .map (T i).bf]) := by
    rw [Hs1.out]; rfl
  obtain ⟨w3, hw3⟩ : ∃ w3, w3 = w2.setCell ⟨Pb, 0, none⟩ (.slice (some ⟨g2, 0, none⟩) (N + 1) cap2) := ⟨_, rfl⟩
  have Hrow2 : Hid (NRow w2 B g2 cap2 (N + 1) (upd T N (tailNd T i t nm)) (upd pr N (i : Int))) := by
    have h9 := Hown2.out
    rw [← HTN.out, ← row_put] at h9
    exact h9
  have Hfact : Hid (Mid w w3 B Pb g2 cap2 (N + 1) (upd T N (tailNd T i t nm)) (upd pr N (i : Int)) n d L #[.string ⟨(T i).first.toArray⟩, .string s, .int .i64 (pr i), .int .i64 (T i).path, .int .i64 ((T i).child : Int), .int .i64 ((T i).next : Int), .map (T i).bf]) :=
    mid_start HS.out.co HL0.out Hg1.out HB1.out HgX.out Hgrow2.out Hrow2.out Hat2.out hw3
  rw [← hw3]
  clear hw3 hrun' hcpX hcp2 hfr2 hcp1 d0 d1 d2 d3 d4 d5 d6
  have b4 := Hfact.out.loc 4
  simp only [List.getElem?_toArray, List.getElem?_cons_succ, List.getElem?_cons_zero] at b4
  go_wp2
  go_loopw [10] (fun cv wr => ∃ (c : Nat) (pr' : Nat → Int) (k2 : List Nat), cv = .int .i64 (c : Int) ∧ Ch N T c k2 ∧ Mid w wr B Pb g2 cap2 (N + 1) (upd T N (tailNd T i t nm)) pr' n d L #[.string ⟨(T i).first.toArray⟩, .string s, .int .i64 (pr i), .int .i64 (T i).path, .int .i64 ((T i).child : Int), .int .i64 ((T i).next : Int), .map (T i).bf]) (fun cv _ => chLen N T (intOf cv).toNat)
  case atStart => exact ⟨(T i).child, _, kids i, rfl, ⟨HT.out.chain i hi, fun k hk => ⟨(HT.out.kid i hi k hk).1, (HT.out.kid i hi k hk).2.1⟩⟩, Hfact.out⟩
  case round =>
    obtain ⟨c, pr', k2, rfl, hch, hmid⟩ := hrel
    have HCh : Hid (Ch N T c k2) := hch
    have HM : Hid (Mid w wr B Pb g2 cap2 (N + 1) (upd T N (tailNd T i t nm)) pr' n d L #[.string ⟨(T i).first.toArray⟩, .string s, .int .i64 (pr i), .int .i64 (T i).path, .int .i64 ((T i).child : Int), .int .i64 ((T i).next : Int), .map (T i).bf]) := hmid
    clear hch hmid b4
    have hcp := HM.out.co.cell0
    by_cases h0 : c = 0
    · subst h0
      have d0 : wr.cell? ⟨L, 0, none⟩ = some (.string ⟨(T i).first.toArray⟩) := HM.out.loc 0
      have d1 : wr.cell? ⟨L, 1, none⟩ = some (.string s) := HM.out.loc 1
      have d5 : wr.cell? ⟨L, 5, none⟩ = some (.int .i64 ((T i).next : Int)) := HM.out.loc 5
      have d2 : wr.cell? ⟨L, 2, none⟩ = some (.int .i64 (pr i)) := HM.out.loc 2
      have hos : o ≤ s.size := by omega
      have hiN1 : (i : Int) < (N : Int) + 1 := by omega
      have hi00 : (0 : Int) ≤ (i : Int) := by omega
      have hth : wr.drew.there g2 (i * 7) 7 := fun j hj => ⟨by
        have h8 := HM.out.co.row.cell j (k := i) (by omega) hj
        show (wr.cell? ⟨g2, i * 7 + j, none⟩).isSome = true
        rw [h8, List.getElem?_eq_getElem (by rw [ndCells_len]; exact hj)]; rfl, HM.out.co.row.frozen (i * 7 + j)⟩
      have hsr := run_storeAt_mid (P := Try.prog) wr.drew g2 (i * 7) 52 #[.string ⟨(T i).first.toArray⟩, .string s2, .int .i64 (pr i), .int .i64 (-1), .int .i64 (N : Int), .int .i64 ((T i).next : Int), .map none] hth (by rw [hi0]; simp [hz1]) (by simp [Value.oneCell'])
      obtain ⟨w4, hw4⟩ : ∃ w4, w4 = wr.drew.setCells g2 (i * 7) [.string ⟨(T i).first.toArray⟩, .string s2, .int .i64 (pr i), .int .i64 (-1), .int .i64 (N : Int), .int .i64 ((T i).next : Int), .map none] := ⟨_, rfl⟩
      have hsr' : (St52 (.pointer (some ⟨g2, i * 7, none⟩)) (.agg #[.string ⟨(T i).first.toArray⟩, .string s2, .int .i64 (pr i), .int .i64 (-1), .int .i64 (N : Int), .int .i64 ((T i).next : Int), .map none])).run Try.prog wr.drew = .ok () w4 := by rw [hw4]; exact hsr
      have Hmid4 : Hid (Mid w w4 B Pb g2 cap2 (N + 1) (upd (upd T N (tailNd T i t nm)) i (headNd T i t N)) (upd pr' i (pr i)) n d L #[.string ⟨(T i).first.toArray⟩, .string s, .int .i64 (pr i), .int .i64 (T i).path, .int .i64 ((T i).child : Int), .int .i64 ((T i).next : Int), .map (T i).bf]) := by
        rw [hw4, Hs2.out]
        exact (HM.out.grown (drew_grown wr)).put (headNd T i t N) (pr i) (by omega)
      have e0 : w4.cell? ⟨L, 0, none⟩ = some (.string ⟨(T i).first.toArray⟩) := Hmid4.out.loc 0
      have e1 : w4.cell? ⟨L, 1, none⟩ = some (.string s) := Hmid4.out.loc 1
      have e2 : w4.cell? ⟨L, 2, none⟩ = some (.int .i64 (pr i)) := Hmid4.out.loc 2
      have e5 : w4.cell? ⟨L, 5, none⟩ = some (.int .i64 ((T i).next : Int)) := Hmid4.out.loc 5
      have ecp := Hmid4.out.co.cell0
      clear hth hsr hw4 hx1 hle
      go_wp2
      go_region_held3 (fun w' => w'.cell? ⟨Pb, 0, none⟩ = some (.slice (some ⟨g2, 0, none⟩) (N + 1) cap2) ∧ w'.cell? ⟨L, 0, none⟩ = some (.string ⟨(T i).first.toArray⟩) ∧ w'.cell? ⟨L, 1, none⟩ = some (.string s) ∧ w'.cell? ⟨L, 2, none⟩ = some (.int .i64 (pr i)) ∧ w'.cell? ⟨L, 5, none⟩ = some (.int .i64 ((T i).next : Int))) (go_keep) (fail)
      go_wp2
      go_end0
      exact ⟨rfl, Hmid4.out.keep, g2, cap2, _, split_done HS.out HT.out hi HY.out Hmid4.out⟩
    · obtain ⟨l', hl', hch', hcp', hcN⟩ := HCh.out.cons h0
      have Hl : Hid (k2 = c :: l') := hl'
      have HC2 : Hid (Ch N T (T c).next l') := hch'
      have g2c : wr.cell? ⟨g2, c * 7 + 2, none⟩ = some (.int .i64 (pr' c)) := by rw [HM.out.co.row.cell 2 (k := c) (by omega) (by decide), upd_ne _ _ (by omega)]; rfl
      have g2f := HM.out.co.row.frozen (c * 7 + 2)
      have Hm2 : Hid (Mid w (wr.setCell ⟨g2, c * 7 + 2, none⟩ (.int .i64 (N : Int))) B Pb g2 cap2 (N + 1) (upd T N (tailNd T i t nm)) (upd pr' c (N : Int)) n d L #[.string ⟨(T i).first.toArray⟩, .string s, .int .i64 (pr i), .int .i64 (T i).path, .int .i64 ((T i).child : Int), .int .i64 ((T i).next : Int), .map (T i).bf]) :=
        HM.out.setNode (k := c) (f := 2) (by omega) (by decide) (fun j _ hj => by rw [upd_ne pr' _ hj]) (by rw [upd_same]; rfl)
      have k0 := Hm2.out.co.cell0
      have k5 : (wr.setCell ⟨g2, c * 7 + 2, none⟩ (.int .i64 (N : Int))).cell? ⟨g2, c * 7 + 5, none⟩ = some (.int .i64 ((T c).next : Int)) := by rw [Hm2.out.co.row.cell 5 (k := c) (by omega) (by decide), upd_ne T _ (by omega)]; rfl
      have hcN1 : (c : Int) < (N : Int) + 1 := by omega
      clear hl' hch' hx1 hx2 hle
      go_wp2
      go_roundw
      case rel => exact ⟨(T c).next, _, l', rfl, HC2.out, Hm2.out⟩
      case measure =>
        simp only [intOf, Int.toNat_natCast]
        rw [chLen_eq HC2.out, chLen_eq HCh.out, Hl.out]
        simp
end Go.Proofs.Qxb6602793a.Pa
