import Derived.Test.Qxb6602793aPaH
namespace Go.Proofs.Qxb6602793a.Pa
open Go.RowKit Go.Proofs.Qxb6602793a.Mem Go.WideMaps Go.Maps

/-- The Paths and its nodes, and what was kept since w0. -/
structure Md (w0 w : World) (B Pb g cap N : Nat) (T : Nat → Nd) (pr : Nat → Int) (n d : Int) : Prop where
  co : Co w B Pb g cap N T pr n d
  keep : Keep B w0 w
  maps : MapsKept w0 w
  size : w0.heap.size ≤ w.heap.size

theorem run_makeMap50 (n : Int) (w : World) : (Instr.makeMap 50 (some (.int .i64 n))).run Try.prog w = .ok (.map (some w.heap.size)) (w.alloc (.map #[] 0)) := by
  simp [Instr.makeMap, run_underlying Try.underlying50, asInt, asIntOf, Result.andThen]

theorem MapsKept.new {a w w' : World} {row : Option Nat} (h : MapsKept a w) (hg : w.grownBy w' row) (hr : ∀ k, row = some k → a.heap.size ≤ k) : MapsKept a w' := by
  intro b es cl hb
  have hb2 := h b es cl hb
  have hlt := lt_of_heap hb
  rw [hg.block b (lt_of_heap hb2) (fun e => ?_)]
  · exact hb2
  · have := hr b e.symm; omega

section
variable {w0 w w' : World} {B Pb g cap N : Nat} {T T' : Nat → Nd} {pr pr' : Nat → Int} {n d : Int}
theorem Md.setNode (h : Md w0 w B Pb g cap N T pr n d) {k f : Nat} {v : Value} (hk : k < N) (hf : f < 7)
    (ho : ∀ j, j < N → j ≠ k → ndCells (T' j) (pr' j) = ndCells (T j) (pr j)) (hv : ndCells (T' k) (pr' k) = (ndCells (T k) (pr k)).set f v) : Md w0 (w.setCell ⟨g, k * 7 + f, none⟩ v) B Pb g cap N T' pr' n d := by
  obtain ⟨cg, hg, _⟩ := h.co.row.heap
  refine ⟨h.co.setNode hk hf ho hv, h.keep.grown (setCell_grown w _ v) h.co.leB ?_, h.maps.grown (setCell_grown w _ v) ?_, Nat.le_trans h.size (setCell_grown w _ v).size⟩
  · intro x hx
    cases hx
    exact ⟨h.co.BG, h.co.oursG⟩
  · intro x hx
    cases hx
    exact ⟨_, _, _, hg⟩
theorem Md.grown (h : Md w0 w B Pb g cap N T pr n d) (hg : w.grownBy w' none) : Md w0 w' B Pb g cap N T pr n d :=
  ⟨h.co.kept hg (by simp) (by simp), h.keep.grown hg h.co.leB (fun k hk => by cases hk), h.maps.grown hg (fun k hk => by cases hk), Nat.le_trans h.size hg.size⟩
/-- A map that was made since is written. -/
theorem Md.newMap (h : Md w0 w B Pb g cap N T pr n d) {b : Nat} {es : Array MapEntry} {cl : Nat} (hg : w.grownBy w' (some b)) (hb : w.heap[b]? = some (Obj.map es cl)) (hn : w0.heap.size ≤ b) (hB : B ≤ b) : Md w0 w' B Pb g cap N T pr n d := by
  obtain ⟨cg, hgg, _⟩ := h.co.row.heap
  refine ⟨h.co.kept hg ?_ ?_, h.keep.grown hg h.co.leB (fun k hk => ?_), h.maps.new hg (fun k hk => by cases hk; exact hn), Nat.le_trans h.size hg.size⟩
  · intro e
    have e2 : Pb = b := by simpa using e
    have h2 := h.co.hp
    rw [e2, hb] at h2; cases h2
  · intro e
    have e2 : g = b := by simpa using e
    rw [e2, hb] at hgg; cases hgg
  · cases hk
    exact ⟨hB, .inr ⟨_, _, hb⟩⟩
end

def childNd (T : Nat → Nd) (i : Nat) (x : Name) (r : List Item) : Nd := { first := x, rest := r, path := -1, child := 0, next := (T i).child, bf := none }

def AddRet (w w' : World) (B Pb N i : Nat) (T : Nat → Nd) (kids : Nat → List Nat) (n d : Int) (x : Name) (r : List Item) (e : Ending) : Prop :=
  e = .returned (.int .i64 (N : Int)) ∧ Keep B w w' ∧ ∃ g cap pr T', (∀ k, Like (T' k) (addT N T i x r k)) ∧ (∀ k, (T' k).path = (addT N T i x r k).path) ∧ St w' B Pb g cap (N + 1) T' pr (addKids N kids i) n d

theorem add_done {w w' : World} {B Pb g cap g2 cap2 N i : Nat} {T T' : Nat → Nd} {pr pr' : Nat → Int} {base : Nat → List Name} {kids : Nat → List Nat} {n d : Int} {x : Name} {r : List Item} (h : St w B Pb g cap N T pr kids n d) (htree : Tree N T base kids) (hi : i < N)
    (hco : Co w' B Pb g2 cap2 (N + 1) T' pr' n d) (hlike : ∀ k, Like (T' k) (addT N T i x r k)) (hbf : ∀ k, k ≠ i → (T' k).bf = (addT N T i x r k).bf)
    (hoth : ∀ k, k < N → k ≠ i → ∀ b, (T k).bf = some b → ∀ es cl, w.heap[b]? = some (Obj.map es cl) → w'.heap[b]? = some (Obj.map es cl))
    (hown : ∀ b, (T' i).bf = some b → B ≤ b ∧ MapFor w' b (N + 1) T' (N :: kids i) ∧ ∀ k, k < N → k ≠ i → (T k).bf ≠ some b)
    (hx : x.length ≤ 1048576) (hr : (flat r).length ≤ 1048576) : St w' B Pb g2 cap2 (N + 1) T' pr' (addKids N kids i) n d := by
  have hki : addKids N kids i i = N :: kids i := upd_same _ _ _
  have hko : ∀ k, k ≠ i → k ≠ N → addKids N kids i k = kids k := fun k h1 h2 => by unfold addKids; rw [upd_ne _ _ h1, upd_ne _ _ h2]
  have hb : ∀ k b, k < N + 1 → k ≠ i → (T' k).bf = some b → k < N ∧ k ≠ N ∧ (T k).bf = some b := fun k b hk hki hb => by
    rw [hbf k hki] at hb
    by_cases e : k = N
    · subst e; rw [addT_N hi] at hb; cases hb
    · rw [addT_o hki e] at hb
      exact ⟨by omega, e, hb⟩
  refine ⟨hco, ?_, ?_, ?_⟩
  · intro k hk b hkb
    by_cases e : k = i
    · subst e
      rw [hki]
      exact ⟨(hown b hkb).1, (hown b hkb).2.1⟩
    · obtain ⟨h1, h2, h3⟩ := hb k b hk e hkb
      obtain ⟨h4, h5⟩ := h.maps k h1 b h3
      rw [hko k e h2]
      refine ⟨h4, (h5.at (hoth k h1 e b h3)).congr (Nat.le_succ _) (fun c hc => ?_)⟩
      have := (htree.kid k h1 c hc).2.1
      rw [(hlike c).1, addT_first (by omega)]
  · intro k k2 b hk hk2 hkb hkb2
    by_cases e : k = i
    · by_cases e2 : k2 = i
      · omega
      · subst e
        obtain ⟨h1, h2, h3⟩ := hb k2 b hk2 e2 hkb2
        exact absurd h3 ((hown b hkb).2.2 k2 h1 e2)
    · obtain ⟨h1, h2, h3⟩ := hb k b hk e hkb
      by_cases e2 : k2 = i
      · subst e2
        exact absurd h3 ((hown b hkb2).2.2 k h1 e)
      · obtain ⟨g1, g2, g3⟩ := hb k2 b hk2 e2 hkb2
        exact h.apart k k2 b h1 g1 h3 g3
  · intro k hk
    rw [(hlike k).1, (hlike k).2.1]
    by_cases e : k = N
    · subst e; rw [addT_N hi]; exact ⟨hx, hr⟩
    · rw [addT_first e, addT_rest e]; exact h.small k (by omega)
theorem like_refl (T : Nat → Nd) : ∀ k, Like (T k) (T k) := fun _ => ⟨rfl, rfl, rfl, rfl⟩

def bfT (T : Nat → Nd) (i H : Nat) : Nat → Nd := upd T i { T i with bf := some H }
theorem bf_like (T : Nat → Nd) (i H : Nat) : ∀ k, Like (bfT T i H k) (T k) := by
  intro k
  unfold bfT
  by_cases e : k = i
  · subst e; rw [upd_same]; exact ⟨rfl, rfl, rfl, rfl⟩
  · rw [upd_ne _ _ e]; exact ⟨rfl, rfl, rfl, rfl⟩
theorem bf_path (T : Nat → Nd) (i H k : Nat) : (bfT T i H k).path = (T k).path := by
  unfold bfT
  by_cases e : k = i
  · subst e; rw [upd_same]
  · rw [upd_ne _ _ e]

attribute [local go_sem ↓] appG

set_option maxRecDepth 100000 in
set_option maxHeartbeats 1000000 in
theorem addChild_spec {w : World} {B Pb g cap N i : Nat} {T : Nat → Nd} {pr : Nat → Int} {base : Nat → List Name} {kids : Nat → List Nat} {n d : Int} {hd x : List UInt8} {r : List Item} (s : ByteArray) (hs : s.data.toList = flat ((hd, x) :: r)) (h : St w B Pb g cap N T pr kids n d) (htree : Tree N T base kids) (hi : i < N) (hOK : OKL ((hd, x) :: r)) (hsz : s.size ≤ 1048576) (hN : N ≤ 100000) :
    Calls Try.prog 34 #[.pointer (some ⟨Pb, 0, none⟩), .int .i64 (i : Int), .string s] w fun e w' => AddRet w w' B Pb N i T kids n d x r e := by
  obtain ⟨i0, hi0, hz0, hz1, hz2⟩ := info_parts info52
  have hI := hOK (hd, x) List.mem_cons_self
  have hsl : s.data.toList = hd ++ (x ++ flat r) := hs
  have HC := nameAt_str s [] hd x (flat r) w ⟨by rw [hsl]; rfl, hI.1, hI.2⟩ hsz
  obtain ⟨af, haf⟩ : ∃ af, af = hd.length + x.length := ⟨_, rfl⟩
  have haf2 : ([] : List UInt8).length + hd.length + x.length = af := by rw [haf]; simp
  rw [haf2] at HC
  have HC' : Hid (Calls Try.prog 31 #[.string s, .int .i64 0] w fun e w' => NameRet w w' x af e) := HC
  obtain ⟨s1, hs1⟩ : ∃ s1 : ByteArray, s1 = ⟨(flat r).toArray⟩ := ⟨_, rfl⟩
  have hx1 : s.extract af s.size = s1 := by
    have := extract_tail s (hd ++ x) (flat r) (by rw [hsl]; simp)
    rw [hs1, ← this, haf]
    congr 1
    simp
  have hle : af ≤ s.size := by rw [Lib.size_eq, hsl, haf]; simp
  have Hrl : Hid ((flat r).length ≤ 1048576 ∧ x.length ≤ 1048576) := by
    have := hsz
    rw [Lib.size_eq, hsl] at this
    simp only [List.length_append] at this
    exact ⟨by omega, by omega⟩
  have hcp := h.co.cell0
  have c4 : w.cell? ⟨g, i * 7 + 4, none⟩ = some (.int .i64 ((T i).child : Int)) := h.co.row.cell 4 hi (by decide)
  obtain ⟨wX, hwX⟩ : ∃ wX, wX = w.alloc (Obj.cells #[.string ⟨x.toArray⟩, .string s1, .int .i64 (i : Int), .int .i64 (-1), .int .i64 0, .int .i64 ((T i).child : Int), .map none] 52) := ⟨_, rfl⟩
  have HgX : Hid (w.grownBy wX none) := by rw [hwX]; exact World.grownBy_alloc w _ _
  have hnewX : wX.heap[w.heap.size]? = some (Obj.cells #[.string ⟨x.toArray⟩, .string s1, .int .i64 (i : Int), .int .i64 (-1), .int .i64 0, .int .i64 ((T i).child : Int), .map none] 52 (0, 0)) := by
    rw [hwX]; exact heap_alloc_new w _
  have HcoX : Hid (Co wX B Pb g cap N T pr n d) := h.co.kept HgX.out (by simp) (by simp)
  have hcpX := HcoX.out.cell0
  obtain ⟨g2, cap2, w2, hrun, hown2, hgrow2, hat2, hlt2⟩ := run_append_lies (P := Try.prog) wX.drew 40 40 B 52 i0 _ 7 72 Try.underlying40 hi0 hz0 hz1 hz2 rfl (by decide) _ N _ HcoX.out.row
    ⟨w.heap.size, 0, none⟩ 1 1 [.string ⟨x.toArray⟩, .string s1, .int .i64 (i : Int), .int .i64 (-1), .int .i64 0, .int .i64 ((T i).child : Int), .map none] rfl (World.news_of_block hnewX) (by simp [Value.oneCell']) (by decide) (by unfold maxLen; omega) (by omega) HcoX.out.leB (wX.heap.size) rfl
  have hrun' : (AppG #[40, 40] 40 #[.slice (some ⟨g, 0, none⟩) N cap, .slice (some ⟨w.heap.size, 0, none⟩) 1 1]).run Try.prog wX.drew = .ok (.slice (some ⟨g2, 0, none⟩) (N + 1) cap2) w2 := hrun
  have c4X : wX.cell? ⟨g, i * 7 + 4, none⟩ = some (.int .i64 ((T i).child : Int)) := HcoX.out.row.cell 4 hi (by decide)
  have Hgrow2 : Hid (wX.grownBy w2 (some g)) := ⟨hgrow2.os, hgrow2.tape, hgrow2.output, hgrow2.size, hgrow2.block⟩
  have Hrow2 : Hid (NRow w2 B g2 cap2 (N + 1) (upd T N (childNd T i x r)) (upd pr N (i : Int))) := by
    have h9 : w2.ownsRow B 52 7 (.slice (some ⟨g2, 0, none⟩) (N + 1) cap2) (N + 1) (rowOf T pr N ++ ndCells (childNd T i x r) (i : Int)) := by rw [hs1] at hown2; exact hown2
    rw [← row_put] at h9
    exact h9
  have hPb2 : w2.heap[Pb]? = some (Obj.cells #[.slice (some ⟨g, 0, none⟩) N cap, .int .i64 n, .int .i64 d] 42 (0, 0)) := by
    rw [Hgrow2.out.block Pb HcoX.out.ltP (by simpa using HcoX.out.ne.symm)]; exact HcoX.out.hp
  have hcp2 : w2.cell? ⟨Pb, 0, none⟩ = some (.slice (some ⟨g, 0, none⟩) N cap) := by rw [cell_of_row w2 Pb 0 _ _ _ hPb2]; rfl
  have hfr2 : w2.frozen? ⟨Pb, 0, none⟩ = false := frozen_of_row w2 Pb 0 _ _ hPb2
  have Hsize2 : Hid (w.heap.size ≤ w2.heap.size) := Nat.le_trans HgX.out.size Hgrow2.out.size
  rw [hwX] at hrun' hcpX c4X
  have HS : Hid (St w B Pb g cap N T pr kids n d) := h
  have HT : Hid (Tree N T base kids) := htree
  have HOKL : Hid (OKL ((hd, x) :: r)) := hOK
  have hiN : (i : Int) < (N : Int) := by omega
  have hi00 : (0 : Int) ≤ (i : Int) := by omega
  clear h htree hs hsl hI haf haf2 HC hs1 hwX hnewX hrun hown2 hgrow2 hat2 hlt2 hPb2 hOK
  go_enter Try.func34, Try.ntmps34
  go_wp2_with fail
  refine HC'.out.mono ?_
  rintro e w1 ⟨rfl, rfl⟩
  go_wp2_with fail
  go_region
  obtain ⟨w3, hw3⟩ : ∃ w3, w3 = w2.setCell ⟨Pb, 0, none⟩ (.slice (some ⟨g2, 0, none⟩) (N + 1) cap2) := ⟨_, rfl⟩
  have Hm3 : Hid (Md w w3 B Pb g2 cap2 (N + 1) (upd T N (childNd T i x r)) (upd pr N (i : Int)) n d) := by
    obtain ⟨a1, a2, a3⟩ := co_append HcoX.out Hgrow2.out Hrow2.out hw3
    have a4 := setCell_grown w2 ⟨Pb, 0, none⟩ (.slice (some ⟨g2, 0, none⟩) (N + 1) cap2)
    rw [← hw3] at a4
    exact ⟨a1, (Keep.grown (Keep.refl B w) HgX.out HS.out.co.leB (fun k hk => by cases hk)).trans a2, (MapsKept.grown (MapsKept.refl w) HgX.out (fun k hk => by cases hk)).trans a3, Nat.le_trans Hsize2.out a4.size⟩
  rw [← hw3]
  clear hw3 hrun' hcpX c4X hcp2 hfr2 hcp c4
  have hcp3 := Hm3.out.co.cell0
  have c43 : w3.cell? ⟨g2, i * 7 + 4, none⟩ = some (.int .i64 ((T i).child : Int)) := by rw [Hm3.out.co.row.cell 4 (k := i) (by omega) (by decide), upd_ne T _ (by omega)]; rfl
  have z43 := Hm3.out.co.row.frozen (i * 7 + 4)
  have Hm4 : Hid (Md w (w3.setCell ⟨g2, i * 7 + 4, none⟩ (.int .i64 (N : Int))) B Pb g2 cap2 (N + 1) (addT N T i x r) (upd pr N (i : Int)) n d) :=
    Hm3.out.setNode (k := i) (f := 4) (by omega) (by decide) (fun j _ hj => by unfold addT; rw [upd_ne _ _ hj]; rfl) (by unfold addT; rw [upd_same, upd_ne T _ (by omega)]; rfl)
  have c64 : (w3.setCell ⟨g2, i * 7 + 4, none⟩ (.int .i64 (N : Int))).cell? ⟨g2, i * 7 + 6, none⟩ = some (.map (T i).bf) := by rw [Hm4.out.co.row.cell 6 (k := i) (by omega) (by decide), addT_i]; rfl
  have hiN1 : (i : Int) < (N : Int) + 1 := by omega
  have q50 := fun (m : Option Nat) (w : World) => run_neq_map_nil (P := Try.prog) w 50 9 3 m Try.underlying50
  cases hbf : (T i).bf with
  | some mb =>
    rw [hbf] at c64
    obtain ⟨hBmb, hmf⟩ := HS.out.maps i hi mb hbf
    have hmf4 : MapFor (w3.setCell ⟨g2, i * 7 + 4, none⟩ (.int .i64 (N : Int))) mb N T (kids i) := hmf.at (fun es cl hx => Hm4.out.maps mb es cl hx)
    obtain ⟨w5, hrun5, hmf5, hg5⟩ := hmf4.put (T' := addT N T i x r) (x := x) (c := N) (by omega) Hrl.out.2 (by omega) (fun k hk => addT_first (by have := (HT.out.kid i hi k hk).2.1; omega)) (by rw [addT_N hi])
    have HF : Hid (AddRet w w5 B Pb N i T kids n d x r (.returned (.int .i64 (N : Int)))) := by
      obtain ⟨es, cl, hmb⟩ := hmf4.isMap
      obtain ⟨es0, cl0, hmb0⟩ := hmf.isMap
      have hm4 := Hm4.out
      obtain ⟨cg, hgg, _⟩ := hm4.co.row.heap
      have e1 : some Pb ≠ some mb := by
        intro e
        have e2 : Pb = mb := by simpa using e
        have h2 := hm4.co.hp
        rw [e2, hmb] at h2; cases h2
      have e2 : some g2 ≠ some mb := by
        intro e
        have e2 : g2 = mb := by simpa using e
        have h3 := hmb
        rw [← e2, hgg] at h3; cases h3
      refine ⟨rfl, hm4.keep.grown hg5 hm4.co.leB (fun k hk => by cases hk; exact ⟨hBmb, .inr ⟨_, _, hmb⟩⟩), g2, cap2, _, addT N T i x r, like_refl _, fun _ => rfl, add_done HS.out HT.out hi (hm4.co.kept hg5 e1 e2) (like_refl _) (fun _ _ => rfl) ?_ ?_ Hrl.out.2 Hrl.out.1⟩
      · intro k hk hki b hb es2 cl2 hx2
        have hne : b ≠ mb := by
          intro e
          subst e
          exact hki (HS.out.apart k i b hk hi hb hbf)
        have h4 := hm4.maps b es2 cl2 hx2
        rw [hg5.block b (lt_of_heap h4) (by simpa using hne)]
        exact h4
      · intro b hb
        rw [addT_i] at hb
        have e3 : b = mb := by
          have : (T i).bf = some b := hb
          rw [hbf] at this
          exact (Option.some.inj this).symm
        subst e3
        exact ⟨hBmb, hmf5, fun k hk hki hkb => hki (HS.out.apart k i b hk hi hkb hbf)⟩
    clear hmf hmf4 hmf5 hg5 hbf
    go_wp2
    go_ret
    exact HF.out
  | none =>
    rw [hbf] at c64
    have Hbf : Hid ((T i).bf = none) := hbf
    clear hbf
    have k44 : (w3.setCell ⟨g2, i * 7 + 4, none⟩ (.int .i64 (N : Int))).cell? ⟨g2, i * 7 + 4, none⟩ = some (.int .i64 (N : Int)) := by rw [Hm4.out.co.row.cell 4 (k := i) (by omega) (by decide), addT_i]; rfl
    obtain ⟨ks, hks⟩ : ∃ ks, ks = N :: kids i := ⟨_, rfl⟩
    have Hks : Hid (ks = N :: kids i) := hks
    have hkl : ks.length ≤ 100001 := by rw [hks]; have := HT.out.len i hi; simp; omega
    have HCh0 : Hid (Ch (N + 1) (addT N T i x r) N ks) := by
      rw [hks]
      refine ⟨⟨rfl, ?_⟩, ?_⟩
      · rw [addT_N hi]
        exact Chain.congr (fun c hc => addT_next (by have := (HT.out.kid i hi c hc).2.1; omega)) (HT.out.chain i hi)
      · intro k hk
        rw [List.mem_cons] at hk
        rcases hk with rfl | hk
        · exact ⟨by have := HT.out.pos; omega, Nat.lt_succ_self _⟩
        · have := HT.out.kid i hi k hk
          exact ⟨this.1, by omega⟩
    clear hks
    go_wp2
    go_loopw [11, 12] (fun nv cv wr => ∃ (c : Nat) (k1 k2 : List Nat), nv = .int .i64 (k1.length : Int) ∧ cv = .int .i64 (c : Int) ∧ ks = k1 ++ k2 ∧ Ch (N + 1) (addT N T i x r) c k2 ∧ Md w wr B Pb g2 cap2 (N + 1) (addT N T i x r) (upd pr N (i : Int)) n d) (fun _ cv _ => chLen (N + 1) (addT N T i x r) (intOf cv).toNat)
    case atStart => exact ⟨N, [], ks, rfl, rfl, rfl, HCh0.out, Hm4.out⟩
    case round =>
      obtain ⟨c, k1, k2, rfl, rfl, hkk, hch, hmd⟩ := hrel
      have Hkk : Hid (ks = k1 ++ k2) := hkk
      have HCh : Hid (Ch (N + 1) (addT N T i x r) c k2) := hch
      have HM : Hid (Md w wr B Pb g2 cap2 (N + 1) (addT N T i x r) (upd pr N (i : Int)) n d) := hmd
      have hk1 : k1.length ≤ 100001 := by have h8 := congrArg List.length hkk; rw [List.length_append] at h8; omega
      have hcpr := HM.out.co.cell0
      clear hkk hch hmd hcp3 c43 z43 c64 k44
      obtain ⟨m, hm⟩ : ∃ m, m = k1.length := ⟨_, rfl⟩
      rw [← hm] at hk1 ⊢
      have Hm : Hid (m = k1.length) := hm
      clear hm
      by_cases h0 : c = 0
      · subst h0
        have Hall : Hid (ks = k1) := by rw [Hkk.out, HCh.out.nil, List.append_nil]; exact rfl
        by_cases h8 : m ≤ 8
        · have h8' : ¬ (8 : Int) < (m : Int) := by omega
          go_wp2
          go_ret
          refine ⟨rfl, HM.out.keep, g2, cap2, _, addT N T i x r, like_refl _, fun _ => rfl, add_done HS.out HT.out hi HM.out.co (like_refl _) (fun _ _ => rfl) ?_ ?_ Hrl.out.2 Hrl.out.1⟩
          · intro k hk hki b hb es2 cl2 hx2
            exact HM.out.maps b es2 cl2 hx2
          · intro b hb
            rw [addT_i] at hb
            have hb2 : (T i).bf = some b := hb
            rw [Hbf.out] at hb2
            cases hb2
        · have h8' : (8 : Int) < (m : Int) := by omega
          have hmm := run_makeMap50
          have hgA : wr.grownBy (wr.alloc (.map #[] 0)) none := World.grownBy_alloc wr _ _
          have hmA : Md w (wr.alloc (.map #[] 0)) B Pb g2 cap2 (N + 1) (addT N T i x r) (upd pr N (i : Int)) n d := HM.out.grown hgA
          have a6 : (wr.alloc (.map #[] 0)).cell? ⟨g2, i * 7 + 6, none⟩ = some (.map none) := by rw [hmA.co.row.cell 6 (k := i) (by omega) (by decide), addT_i, ← Hbf.out]; rfl
          have z6 := hmA.co.row.frozen (i * 7 + 6)
          obtain ⟨H, hH⟩ : ∃ H, H = wr.heap.size := ⟨_, rfl⟩
          have hmB : Md w ((wr.alloc (.map #[] 0)).setCell ⟨g2, i * 7 + 6, none⟩ (.map (some H))) B Pb g2 cap2 (N + 1) (bfT (addT N T i x r) i H) (upd pr N (i : Int)) n d :=
            hmA.setNode (k := i) (f := 6) (by omega) (by decide) (fun j _ hj => by unfold bfT; rw [upd_ne _ _ hj]) (by unfold bfT; rw [upd_same]; rfl)
          have hfB : MapFor ((wr.alloc (.map #[] 0)).setCell ⟨g2, i * 7 + 6, none⟩ (.map (some H))) H 0 (bfT (addT N T i x r) i H) [] := by
            rw [hH]
            refine (MapFor.made wr _).at (fun es cl hx => ?_)
            rw [heap_setCell_other _ _ _ _ (by have := HM.out.co.ltG; simp; omega)]
            exact hx
          have b4 : ((wr.alloc (.map #[] 0)).setCell ⟨g2, i * 7 + 6, none⟩ (.map (some H))).cell? ⟨g2, i * 7 + 4, none⟩ = some (.int .i64 (N : Int)) := by rw [hmB.co.row.cell 4 (k := i) (by omega) (by decide)]; unfold bfT; rw [upd_same, addT_i]; rfl
          have HmB : Hid (Md w ((wr.alloc (.map #[] 0)).setCell ⟨g2, i * 7 + 6, none⟩ (.map (some H))) B Pb g2 cap2 (N + 1) (bfT (addT N T i x r) i H) (upd pr N (i : Int)) n d) := hmB
          have HfB : Hid (MapFor ((wr.alloc (.map #[] 0)).setCell ⟨g2, i * 7 + 6, none⟩ (.map (some H))) H 0 (bfT (addT N T i x r) i H) []) := hfB
          have HChB : Hid (Ch (N + 1) (bfT (addT N T i x r) i H) N ks) := ⟨Chain.congr (fun c _ => (bf_like _ _ _ c).2.2.2) HCh0.out.1, HCh0.out.2⟩
          have HwH : Hid (w.heap.size ≤ H) := by rw [hH]; exact HM.out.size
          have HBH : Hid (B ≤ H) := by rw [hH]; exact HM.out.co.leB
          rw [hH] at b4
          have Heq : Hid (H = wr.heap.size) := hH
          clear hgA hmA hmB hfB hH hcpr
          go_wp2
          rw [← Heq.out]
          go_loopw [13] (fun cv wq => ∃ (c : Nat) (j1 j2 : List Nat), cv = .int .i64 (c : Int) ∧ ks = j1 ++ j2 ∧ Ch (N + 1) (bfT (addT N T i x r) i H) c j2 ∧ Md w wq B Pb g2 cap2 (N + 1) (bfT (addT N T i x r) i H) (upd pr N (i : Int)) n d ∧ MapFor wq H j1.length (bfT (addT N T i x r) i H) j1.reverse) (fun cv _ => chLen (N + 1) (bfT (addT N T i x r) i H) (intOf cv).toNat)
          case atStart => exact ⟨N, [], ks, rfl, rfl, HChB.out, HmB.out, HfB.out⟩
          case round =>
            obtain ⟨c, j1, j2, rfl, hjj, hch, hmd, hmf⟩ := hrel
            have Hjj : Hid (ks = j1 ++ j2) := hjj
            have HChc : Hid (Ch (N + 1) (bfT (addT N T i x r) i H) c j2) := hch
            have HMc : Hid (Md w wr B Pb g2 cap2 (N + 1) (bfT (addT N T i x r) i H) (upd pr N (i : Int)) n d) := hmd
            have HFc : Hid (MapFor wr H j1.length (bfT (addT N T i x r) i H) j1.reverse) := hmf
            have hj1 : j1.length ≤ ks.length := by have h9 := congrArg List.length hjj; rw [List.length_append] at h9; omega
            clear hjj hch hmd hmf a6 z6 b4
            by_cases h0 : c = 0
            · subst h0
              go_wp2
              go_ret
              have hall : ks = j1 := by rw [Hjj.out, HChc.out.nil, List.append_nil]
              have hmf := (HFc.out.congr (n' := N + 1) (T' := bfT (addT N T i x r) i H) (by rw [← hall, Hks.out]; have := HT.out.len i hi; simp; omega) (fun _ _ => rfl)).swap (ks' := N :: kids i) (fun k => by rw [← hall, Hks.out, List.mem_reverse])
              refine ⟨rfl, HMc.out.keep, g2, cap2, _, _, bf_like _ _ _, bf_path _ _ _, add_done HS.out HT.out hi HMc.out.co (bf_like _ _ _) (fun k hk => by unfold bfT; rw [upd_ne _ _ hk]) ?_ ?_ Hrl.out.2 Hrl.out.1⟩
              · intro k hk hki b hb es2 cl2 hx2
                exact HMc.out.maps b es2 cl2 hx2
              · intro b hb
                have e3 : b = H := by
                  unfold bfT at hb
                  rw [upd_same] at hb
                  exact (Option.some.inj hb).symm
                subst e3
                refine ⟨HBH.out, hmf, fun k hk hki hkb => ?_⟩
                obtain ⟨es3, cl3, h3⟩ := (HS.out.maps k hk b hkb).2.isMap
                have h4 := lt_of_heap h3
                have h5 := HwH.out
                omega
            · obtain ⟨l', hl', hch', hcp', hcN⟩ := HChc.out.cons h0
              have Hl : Hid (j2 = c :: l') := hl'
              have HC2 : Hid (Ch (N + 1) (bfT (addT N T i x r) i H) (bfT (addT N T i x r) i H c).next l') := hch'
              have hcN1 : (c : Int) < (N : Int) + 1 := by omega
              have hc00 : (0 : Int) ≤ (c : Int) := by omega
              have u0 := HMc.out.co.cell0
              have u6 : wr.cell? ⟨g2, i * 7 + 6, none⟩ = some (.map (some H)) := by rw [HMc.out.co.row.cell 6 (k := i) (by omega) (by decide)]; unfold bfT; rw [upd_same]; rfl
              have uf : wr.cell? ⟨g2, c * 7, none⟩ = some (.string ⟨(bfT (addT N T i x r) i H c).first.toArray⟩) := HMc.out.co.row.cell 0 hcN (by decide)
              have hfl : (bfT (addT N T i x r) i H c).first.length ≤ 1048576 := by
                rw [(bf_like _ _ _ c).1]
                by_cases e : c = N
                · subst e; rw [addT_N hi]; exact Hrl.out.2
                · rw [addT_first e]; exact (HS.out.small c (by omega)).1
              have hfd : MapFor wr.drew H j1.length (bfT (addT N T i x r) i H) j1.reverse := HFc.out
              obtain ⟨es3, cl3, h3⟩ := hfd.isMap
              obtain ⟨w7, hrun7, hmf7, hg7⟩ := hfd.put (T' := bfT (addT N T i x r) i H) (c := c) (by omega) hfl (by omega) (fun _ _ => rfl) rfl
              have HM7 : Hid (Md w w7 B Pb g2 cap2 (N + 1) (bfT (addT N T i x r) i H) (upd pr N (i : Int)) n d) := (HMc.out.grown (drew_grown wr)).newMap hg7 h3 HwH.out HBH.out
              have HF7 : Hid (MapFor w7 H (j1.length + 1) (bfT (addT N T i x r) i H) (c :: j1.reverse)) := hmf7
              have v0 := HM7.out.co.cell0
              have v5 : w7.cell? ⟨g2, c * 7 + 5, none⟩ = some (.int .i64 ((bfT (addT N T i x r) i H c).next : Int)) := HM7.out.co.row.cell 5 hcN (by decide)
              clear hl' hch' hfd hmf7 hg7 h3 hfl
              go_wp2
              go_region
              go_wp2
              go_roundw
              case rel => exact ⟨_, j1 ++ [c], l', rfl, by rw [Hjj.out, Hl.out]; simp, HC2.out, HM7.out, by rw [List.length_append, List.reverse_append]; exact HF7.out⟩
              case measure =>
                simp only [intOf, Int.toNat_natCast]
                rw [chLen_eq HC2.out, chLen_eq HChc.out, Hl.out]
                simp
      · obtain ⟨l', hl', hch', hcp', hcN⟩ := HCh.out.cons h0
        have Hl : Hid (k2 = c :: l') := hl'
        have HC2 : Hid (Ch (N + 1) (addT N T i x r) (addT N T i x r c).next l') := hch'
        have g5 : wr.cell? ⟨g2, c * 7 + 5, none⟩ = some (.int .i64 ((addT N T i x r c).next : Int)) := HM.out.co.row.cell 5 hcN (by decide)
        have hcN1 : (c : Int) < (N : Int) + 1 := by omega
        clear hl' hch'
        go_wp2
        go_roundw
        case rel => exact ⟨_, k1 ++ [c], l', by rw [List.length_append, ← Hm.out]; go_num, rfl, by rw [Hkk.out, Hl.out]; simp, HC2.out, HM.out⟩
        case measure =>
          simp only [intOf, Int.toNat_natCast]
          rw [chLen_eq HC2.out, chLen_eq HCh.out, Hl.out]
          simp
end Go.Proofs.Qxb6602793a.Pa
