import Derived.Test.Qxb6602793aPaA
namespace Go.Proofs.Qxb6602793a.Pa

/-! THE TREE OF THE PATHS, plain: no Go in sight. -/

abbrev Name := List UInt8
structure Nd where
  first : Name
  rest : List Item
  path : Int
  child : Nat
  next : Nat
  bf : Option Nat

def upd {α : Type} (f : Nat → α) (k : Nat) (v : α) : Nat → α := fun j => if j = k then v else f j
theorem upd_same {α : Type} (f : Nat → α) (k : Nat) (v : α) : upd f k v k = v := if_pos rfl
theorem upd_ne {α : Type} (f : Nat → α) {k j : Nat} (v : α) (h : j ≠ k) : upd f k v j = f j := if_neg h

/-- The names down to node k, through t of the names of its rest. -/
def sq (T : Nat → Nd) (base : Nat → List Name) (k t : Nat) : List Name := base k ++ (if k = 0 then [] else (T k).first :: (names (T k).rest).take t)
def fin (T : Nat → Nd) (base : Nat → List Name) (k : Nat) : List Name := sq T base k (T k).rest.length

/-- The list of children from c on. -/
def Chain (T : Nat → Nd) : Nat → List Nat → Prop
  | c, [] => c = 0
  | c, x :: l => c = x ∧ Chain T (T x).next l

structure Tree (N : Nat) (T : Nat → Nd) (base : Nat → List Name) (kids : Nat → List Nat) : Prop where
  pos : 0 < N
  rootb : base 0 = []
  rootr : (T 0).rest = []
  ok : ∀ k, k < N → OKL (T k).rest
  chain : ∀ k, k < N → Chain T (T k).child (kids k)
  kid : ∀ p, p < N → ∀ k, k ∈ kids p → 0 < k ∧ k < N ∧ base k = fin T base p
  len : ∀ p, p < N → (kids p).length ≤ N
  par : ∀ k, k < N → 0 < k → ∃ p, p < N ∧ k ∈ kids p
  uniq : ∀ k t k' t', k < N → k' < N → t ≤ (T k).rest.length → t' ≤ (T k').rest.length → sq T base k t = sq T base k' t' → k = k' ∧ t = t'

/-- Some place of the tree stands for q. -/
def Cov (N : Nat) (T : Nat → Nd) (base : Nat → List Name) (q : List Name) : Prop := ∃ k t, k < N ∧ t ≤ (T k).rest.length ∧ sq T base k t = q

structure Nums (N : Nat) (T : Nat → Nd) (base : Nat → List Name) (seen : List (List Name)) : Prop where
  val : ∀ k, k < N → (T k).path = -1 ∨ ∃ d : Nat, (T k).path = (d : Int) ∧ seen[d]? = some (fin T base k)
  all : ∀ d : Nat, d < seen.length → ∃ k, k < N ∧ (T k).path = (d : Int)
  nodup : seen.Nodup

/-! ### Places -/
theorem take_succ_get {α : Type} {l : List α} {t : Nat} {x : α} (h : l[t]? = some x) : l.take (t + 1) = l.take t ++ [x] := by
  obtain ⟨hk, he⟩ := List.getElem?_eq_some_iff.1 h
  rw [← he, List.take_append_getElem hk]

theorem sq_succ {T : Nat → Nd} {base : Nat → List Name} {k t : Nat} {x : Item} (hk : k ≠ 0) (h : (T k).rest[t]? = some x) : sq T base k (t + 1) = sq T base k t ++ [x.2] := by
  have h2 : (names (T k).rest)[t]? = some x.2 := by simp [names, h]
  simp only [sq, if_neg hk, take_succ_get h2, List.append_assoc, List.cons_append]
theorem sq_zero {T : Nat → Nd} {base : Nat → List Name} {k : Nat} (hk : k ≠ 0) : sq T base k 0 = base k ++ [(T k).first] := by
  simp [sq, hk]

section
variable {N : Nat} {T : Nat → Nd} {base : Nat → List Name} {kids : Nat → List Nat}

theorem Tree.sq_root (h : Tree N T base kids) : sq T base 0 0 = [] := by simp [sq, h.rootb]

/-- Where the last step to a place came from. -/
theorem Tree.back (h : Tree N T base kids) {k t : Nat} {q : List Name} {x : Name} (hk : k < N) (ht : t ≤ (T k).rest.length) (he : sq T base k t = q ++ [x]) :
    (∃ t' y, t = t' + 1 ∧ k ≠ 0 ∧ (T k).rest[t']? = some y ∧ y.2 = x ∧ sq T base k t' = q) ∨ (t = 0 ∧ k ≠ 0 ∧ (T k).first = x ∧ ∃ p, p < N ∧ k ∈ kids p ∧ fin T base p = q) := by
  have hk0 : k ≠ 0 := by
    intro e
    subst e
    simp [sq, h.rootb] at he
  cases t with
  | succ t' =>
    left
    obtain ⟨y, hy⟩ : ∃ y, (T k).rest[t']? = some y := ⟨_, List.getElem?_eq_getElem (by omega)⟩
    rw [sq_succ hk0 hy] at he
    have h2 := List.append_inj' he rfl
    refine ⟨t', y, rfl, hk0, hy, ?_, h2.1⟩
    simpa using h2.2
  | zero =>
    right
    rw [sq_zero hk0] at he
    have h2 := List.append_inj' he rfl
    obtain ⟨p, hp, hkp⟩ := h.par k hk (by omega)
    refine ⟨rfl, hk0, by simpa using h2.2, p, hp, hkp, ?_⟩
    rw [← (h.kid p hp k hkp).2.2]
    exact h2.1

theorem Tree.cov_prefix (h : Tree N T base kids) : ∀ (l : List Name) {q : List Name}, Cov N T base (q ++ l) → Cov N T base q := by
  intro l
  induction l with
  | nil => intro q hq; simpa using hq
  | cons x l ih =>
    intro q hq
    have h1 : Cov N T base (q ++ [x]) := ih (by simpa using hq)
    obtain ⟨k, t, hk, ht, he⟩ := h1
    rcases h.back hk ht he with ⟨t', y, rfl, _, _, _, h5⟩ | ⟨_, _, _, p, hp, _, h5⟩
    · exact ⟨k, t', hk, by omega, h5⟩
    · exact ⟨p, _, hp, Nat.le_refl _, h5⟩

/-- Inside a node the next name is the only way on. -/
theorem Tree.stop_in (h : Tree N T base kids) {k t : Nat} {y : Item} {x : Name} (hk : k < N) (hy : (T k).rest[t]? = some y) (hx : y.2 ≠ x) : ¬ Cov N T base (sq T base k t ++ [x]) := by
  have ht : t < (T k).rest.length := (List.getElem?_eq_some_iff.1 hy).1
  rintro ⟨k2, t2, hk2, ht2, he⟩
  rcases h.back hk2 ht2 he with ⟨t', z, rfl, _, h3, h4, h5⟩ | ⟨_, _, _, p, hp, _, h5⟩
  · obtain ⟨rfl, rfl⟩ := h.uniq _ _ _ _ hk2 hk (by omega) (by omega) h5
    rw [hy] at h3
    cases h3
    exact hx h4
  · have := h.uniq _ _ _ _ hp hk (Nat.le_refl _) (by omega) h5
    obtain ⟨rfl, h6⟩ := this
    omega
theorem Tree.stop_end (h : Tree N T base kids) {k : Nat} {x : Name} (hk : k < N) (hx : ∀ c, c ∈ kids k → (T c).first ≠ x) : ¬ Cov N T base (fin T base k ++ [x]) := by
  rintro ⟨k2, t2, hk2, ht2, he⟩
  rcases h.back hk2 ht2 he with ⟨t', z, rfl, _, h3, h4, h5⟩ | ⟨_, _, h3, p, hp, hkp, h5⟩
  · obtain ⟨rfl, h6⟩ := h.uniq _ _ _ _ hk2 hk (by omega) (Nat.le_refl _) h5
    have := (List.getElem?_eq_some_iff.1 h3).1
    omega
  · obtain ⟨rfl, _⟩ := h.uniq _ _ _ _ hp hk (Nat.le_refl _) (Nat.le_refl _) h5
    exact hx k2 hkp h3
theorem Tree.down (h : Tree N T base kids) {k c : Nat} (hk : k < N) (hc : c ∈ kids k) : c < N ∧ 0 < c ∧ sq T base c 0 = fin T base k ++ [(T c).first] := by
  obtain ⟨h1, h2, h3⟩ := h.kid k hk c hc
  exact ⟨h2, h1, by rw [sq_zero (by omega), h3]⟩
end

/-! ### The chain -/
theorem Chain.congr {T T' : Nat → Nd} : ∀ {l : List Nat} {c : Nat}, (∀ k, k ∈ l → (T' k).next = (T k).next) → Chain T c l → Chain T' c l
  | [], _, _, h => h
  | x :: l, c, he, h => ⟨h.1, by
      have h2 := he x List.mem_cons_self
      rw [h2]
      exact Chain.congr (fun k hk => he k (List.mem_cons_of_mem _ hk)) h.2⟩

/-! ### split -/
def splitT (N : Nat) (T : Nat → Nd) (i t : Nat) (y : Item) : Nat → Nd :=
  upd (upd T N { first := y.2, rest := (T i).rest.drop (t + 1), path := (T i).path, child := (T i).child, next := 0, bf := (T i).bf })
    i { first := (T i).first, rest := (T i).rest.take t, path := -1, child := N, next := (T i).next, bf := none }
def splitBase (N : Nat) (T : Nat → Nd) (base : Nat → List Name) (i t : Nat) : Nat → List Name := upd base N (sq T base i t)
def splitKids (N : Nat) (kids : Nat → List Nat) (i : Nat) : Nat → List Nat := upd (upd kids N (kids i)) i [N]

section
variable {N : Nat} {T : Nat → Nd} {base : Nat → List Name} {kids : Nat → List Nat} {seen : List (List Name)} {i t : Nat} {y : Item}

theorem splitT_i : splitT N T i t y i = { first := (T i).first, rest := (T i).rest.take t, path := -1, child := N, next := (T i).next, bf := none } := upd_same _ _ _
theorem splitT_N (hi : i < N) : splitT N T i t y N = { first := y.2, rest := (T i).rest.drop (t + 1), path := (T i).path, child := (T i).child, next := 0, bf := (T i).bf } := by
  unfold splitT
  rw [upd_ne _ _ (by omega), upd_same]
theorem splitT_o {k : Nat} (h1 : k ≠ i) (h2 : k ≠ N) : splitT N T i t y k = T k := by
  unfold splitT
  rw [upd_ne _ _ h1, upd_ne _ _ h2]

theorem drop_split {α : Type} {l : List α} {t : Nat} {y : α} (h : l[t]? = some y) : l = l.take t ++ y :: l.drop (t + 1) := by
  obtain ⟨hk, he⟩ := List.getElem?_eq_some_iff.1 h
  rw [← he, ← List.drop_eq_getElem_cons hk, List.take_append_drop]

/-- The new places are the old ones. -/
theorem split_sq (h : Tree N T base kids) (hi : i < N) (hy : (T i).rest[t]? = some y) {k s : Nat} (hk : k < N + 1) (hs : s ≤ (splitT N T i t y k).rest.length) :
    ∃ k' s', k' < N ∧ s' ≤ (T k').rest.length ∧ sq (splitT N T i t y) (splitBase N T base i t) k s = sq T base k' s' ∧ ((k ≠ N ∧ k' = k ∧ s' = s ∧ (k = i → s' ≤ t)) ∨ (k = N ∧ k' = i ∧ s' = t + 1 + s)) := by
  have ht : t < (T i).rest.length := (List.getElem?_eq_some_iff.1 hy).1
  have hi0 : i ≠ 0 := by
    intro e
    subst e
    rw [h.rootr] at ht
    simp at ht
  by_cases hkN : k = N
  · subst hkN
    rw [splitT_N hi] at hs
    simp only [List.length_drop] at hs
    refine ⟨i, t + 1 + s, hi, by omega, ?_, .inr ⟨rfl, rfl, rfl⟩⟩
    have hN0 : k ≠ 0 := by have := h.pos; omega
    have e1 : sq (splitT k T i t y) (splitBase k T base i t) k s = sq T base i t ++ (y.2 :: (names ((T i).rest.drop (t + 1))).take s) := by
      rw [sq, splitT_N hi, if_neg hN0, splitBase, upd_same]
    rw [e1]
    simp only [sq, if_neg hi0]
    have h3 : names (T i).rest = (names (T i).rest).take t ++ y.2 :: names ((T i).rest.drop (t + 1)) := by
      have h4 := drop_split hy
      have h5 : names (T i).rest = names ((T i).rest.take t ++ y :: (T i).rest.drop (t + 1)) := by rw [← h4]
      have h6 : (names (T i).rest).take t = names ((T i).rest.take t) := by simp [names, List.map_take]
      rw [h6, h5]
      simp [names]
    have hl : ((names (T i).rest).take t).length = t := by simp [names]; omega
    have e2 : (names (T i).rest).take (t + 1 + s) = (names (T i).rest).take t ++ y.2 :: (names ((T i).rest.drop (t + 1))).take s := by
      conv => lhs; rw [h3]
      rw [List.take_append, hl]
      have e3 : t + 1 + s - t = s + 1 := by omega
      rw [e3, List.take_succ_cons, List.take_of_length_le (by omega)]
    rw [e2]
    simp
  · have hk' : k < N := by omega
    by_cases hki : k = i
    · subst hki
      rw [splitT_i] at hs
      simp only [List.length_take] at hs
      refine ⟨k, s, hk', by omega, ?_, .inl ⟨hkN, rfl, rfl, fun _ => by omega⟩⟩
      simp only [sq, splitT_i, splitBase, upd_ne _ _ hkN, if_neg hi0, names, List.map_take, List.take_take]
      rw [Nat.min_eq_left (by omega)]
    · rw [splitT_o hki hkN] at hs
      refine ⟨k, s, hk', hs, ?_, .inl ⟨hkN, rfl, rfl, fun e => absurd e hki⟩⟩
      simp only [sq, splitT_o hki hkN, splitBase, upd_ne _ _ hkN]

theorem split_fin_o {k : Nat} (hk : k < N) (hki : k ≠ i) : fin (splitT N T i t y) (splitBase N T base i t) k = fin T base k := by
  have hkN : k ≠ N := by omega
  simp only [fin, sq, splitT_o hki hkN, splitBase, upd_ne _ _ hkN]
theorem split_fin_i (hi : i < N) (hi0 : i ≠ 0) : fin (splitT N T i t y) (splitBase N T base i t) i = sq T base i t := by
  have hkN : i ≠ N := by omega
  simp only [fin, sq, splitT_i, splitBase, upd_ne _ _ hkN, if_neg hi0]
  rw [List.take_of_length_le (by simp [names])]
  simp [names, List.map_take]
theorem split_fin_N (h : Tree N T base kids) (hi : i < N) (hy : (T i).rest[t]? = some y) : fin (splitT N T i t y) (splitBase N T base i t) N = fin T base i := by
  have ht : t < (T i).rest.length := (List.getElem?_eq_some_iff.1 hy).1
  obtain ⟨k', s', h1, h2, h3, h4⟩ := split_sq h hi hy (k := N) (Nat.lt_succ_self _) (Nat.le_refl _)
  rcases h4 with ⟨h4, _⟩ | ⟨_, rfl, rfl⟩
  · exact absurd rfl h4
  · rw [fin, h3, fin]
    congr 1
    rw [splitT_N hi]
    simp only [List.length_drop]
    omega

theorem Tree.split (h : Tree N T base kids) (hi : i < N) (hy : (T i).rest[t]? = some y) : Tree (N + 1) (splitT N T i t y) (splitBase N T base i t) (splitKids N kids i) := by
  have ht : t < (T i).rest.length := (List.getElem?_eq_some_iff.1 hy).1
  have hi0 : i ≠ 0 := by
    intro e
    subst e
    rw [h.rootr] at ht
    simp at ht
  have hN0 : 0 < N := h.pos
  have hkN : splitKids N kids i N = kids i := by unfold splitKids; rw [upd_ne _ _ (by omega), upd_same]
  have hki : splitKids N kids i i = [N] := upd_same _ _ _
  have hko : ∀ k, k ≠ i → k ≠ N → splitKids N kids i k = kids k := fun k h1 h2 => by unfold splitKids; rw [upd_ne _ _ h1, upd_ne _ _ h2]
  have hnext : ∀ k, k < N → (splitT N T i t y k).next = (T k).next := fun k hk => by
    by_cases e : k = i
    · subst e; rw [splitT_i]
    · rw [splitT_o e (by omega)]
  have hcov : ∀ k, k < N + 1 → k = i ∨ k = N ∨ (k ≠ i ∧ k ≠ N ∧ k < N) := fun k hk => by
    by_cases e : k = i
    · exact .inl e
    · by_cases e2 : k = N
      · exact .inr (.inl e2)
      · exact .inr (.inr ⟨e, e2, by omega⟩)
  refine ⟨Nat.succ_pos _, ?_, ?_, ?_, ?_, ?_, ?_, ?_, ?_⟩
  · rw [splitBase, upd_ne _ _ (by omega)]; exact h.rootb
  · rw [splitT_o (by omega) (by omega)]; exact h.rootr
  · intro k hk
    rcases hcov k hk with rfl | rfl | ⟨h1, h2, h3⟩
    · rw [splitT_i]; exact fun p hp => h.ok k hi p (List.mem_of_mem_take hp)
    · rw [splitT_N hi]; exact fun p hp => h.ok i hi p (List.mem_of_mem_drop hp)
    · rw [splitT_o h1 h2]; exact h.ok k h3
  · intro k hk
    rcases hcov k hk with rfl | rfl | ⟨h1, h2, h3⟩
    · rw [hki, splitT_i]
      exact ⟨rfl, by rw [splitT_N hi]; rfl⟩
    · rw [hkN, splitT_N hi]
      exact Chain.congr (fun c hc => hnext c (h.kid i hi c hc).2.1) (h.chain i hi)
    · rw [hko k h1 h2, splitT_o h1 h2]
      exact Chain.congr (fun c hc => hnext c (h.kid k h3 c hc).2.1) (h.chain k h3)
  · intro p hp k hk
    rcases hcov p hp with rfl | rfl | ⟨h1, h2, h3⟩
    · rw [hki] at hk
      simp only [List.mem_singleton] at hk
      subst hk
      exact ⟨hN0, Nat.lt_succ_self _, by rw [split_fin_i hi hi0, splitBase, upd_same]⟩
    · rw [hkN] at hk
      obtain ⟨g1, g2, g3⟩ := h.kid i hi k hk
      exact ⟨g1, by omega, by rw [split_fin_N h hi hy, splitBase, upd_ne _ _ (by omega), g3]⟩
    · rw [hko p h1 h2] at hk
      obtain ⟨g1, g2, g3⟩ := h.kid p h3 k hk
      exact ⟨g1, by omega, by rw [split_fin_o h3 h1, splitBase, upd_ne _ _ (by omega), g3]⟩
  · intro p hp
    rcases hcov p hp with rfl | rfl | ⟨h1, h2, h3⟩
    · rw [hki]; simp
    · rw [hkN]; have := h.len i hi; omega
    · rw [hko p h1 h2]; have := h.len p h3; omega
  · intro k hk hk0
    by_cases e : k = N
    · subst e
      exact ⟨i, by omega, by rw [hki]; simp⟩
    · obtain ⟨p, hp, hkp⟩ := h.par k (by omega) hk0
      by_cases e2 : p = i
      · subst e2
        exact ⟨N, by omega, by rw [hkN]; exact hkp⟩
      · exact ⟨p, by omega, by rw [hko p e2 (by omega)]; exact hkp⟩
  · intro k s k2 s2 hk hk2 hs hs2 he
    obtain ⟨a, b, ha, hb, e1, c1⟩ := split_sq h hi hy hk hs
    obtain ⟨a2, b2, ha2, hb2, e2, c2⟩ := split_sq h hi hy hk2 hs2
    rw [e1, e2] at he
    obtain ⟨rfl, rfl⟩ := h.uniq _ _ _ _ ha ha2 hb hb2 he
    rcases c1 with ⟨d1, d2, d3, d4⟩ | ⟨d1, d2, d3⟩ <;> rcases c2 with ⟨f1, f2, f3, f4⟩ | ⟨f1, f2, f3⟩
    · exact ⟨by omega, by omega⟩
    · have := d4 (by omega); omega
    · have := f4 (by omega); omega
    · exact ⟨by omega, by omega⟩

theorem Cov.unsplit (h : Tree N T base kids) (hi : i < N) (hy : (T i).rest[t]? = some y) {q : List Name} (hc : Cov (N + 1) (splitT N T i t y) (splitBase N T base i t) q) : Cov N T base q := by
  obtain ⟨k, s, hk, hs, he⟩ := hc
  obtain ⟨a, b, ha, hb, e1, _⟩ := split_sq h hi hy hk hs
  exact ⟨a, b, ha, hb, by rw [← e1, he]⟩

theorem Nums.split (hn : Nums N T base seen) (h : Tree N T base kids) (hi : i < N) (hy : (T i).rest[t]? = some y) : Nums (N + 1) (splitT N T i t y) (splitBase N T base i t) seen := by
  refine ⟨?_, ?_, hn.nodup⟩
  · intro k hk
    by_cases e : k = i
    · subst e; rw [splitT_i]; exact .inl rfl
    · by_cases e2 : k = N
      · subst e2
        rw [splitT_N hi, split_fin_N h hi hy]
        exact hn.val i hi
      · rw [splitT_o e e2, split_fin_o (by omega) e]
        exact hn.val k (by omega)
  · intro d hd
    obtain ⟨k, hk, hp⟩ := hn.all d hd
    by_cases e : k = i
    · subst e
      exact ⟨N, Nat.lt_succ_self _, by rw [splitT_N hi]; exact hp⟩
    · exact ⟨k, by omega, by rw [splitT_o e (by omega)]; exact hp⟩
end

/-! ### addChild -/
def addT (N : Nat) (T : Nat → Nd) (i : Nat) (x : Name) (r : List Item) : Nat → Nd :=
  upd (upd T N { first := x, rest := r, path := -1, child := 0, next := (T i).child, bf := none })
    i { first := (T i).first, rest := (T i).rest, path := (T i).path, child := N, next := (T i).next, bf := (T i).bf }
def addBase (N : Nat) (T : Nat → Nd) (base : Nat → List Name) (i : Nat) : Nat → List Name := upd base N (fin T base i)
def addKids (N : Nat) (kids : Nat → List Nat) (i : Nat) : Nat → List Nat := upd (upd kids N []) i (N :: kids i)

section
variable {N : Nat} {T : Nat → Nd} {base : Nat → List Name} {kids : Nat → List Nat} {seen : List (List Name)} {i : Nat} {x : Name} {r : List Item}

theorem addT_i : addT N T i x r i = { first := (T i).first, rest := (T i).rest, path := (T i).path, child := N, next := (T i).next, bf := (T i).bf } := upd_same _ _ _
theorem addT_N (hi : i < N) : addT N T i x r N = { first := x, rest := r, path := -1, child := 0, next := (T i).child, bf := none } := by
  unfold addT
  rw [upd_ne _ _ (by omega), upd_same]
theorem addT_o {k : Nat} (h1 : k ≠ i) (h2 : k ≠ N) : addT N T i x r k = T k := by
  unfold addT
  rw [upd_ne _ _ h1, upd_ne _ _ h2]
theorem addT_rest {k : Nat} (h2 : k ≠ N) : (addT N T i x r k).rest = (T k).rest := by
  by_cases e : k = i
  · subst e; rw [addT_i]
  · rw [addT_o e h2]
theorem addT_first {k : Nat} (h2 : k ≠ N) : (addT N T i x r k).first = (T k).first := by
  by_cases e : k = i
  · subst e; rw [addT_i]
  · rw [addT_o e h2]
theorem addT_path {k : Nat} (h2 : k ≠ N) : (addT N T i x r k).path = (T k).path := by
  by_cases e : k = i
  · subst e; rw [addT_i]
  · rw [addT_o e h2]
theorem addT_next {k : Nat} (h2 : k ≠ N) : (addT N T i x r k).next = (T k).next := by
  by_cases e : k = i
  · subst e; rw [addT_i]
  · rw [addT_o e h2]
theorem add_sq {k : Nat} (hk : k ≠ N) (s : Nat) : sq (addT N T i x r) (addBase N T base i) k s = sq T base k s := by
  simp only [sq, addT_rest hk, addT_first hk, addBase, upd_ne _ _ hk]
theorem add_fin {k : Nat} (hk : k ≠ N) : fin (addT N T i x r) (addBase N T base i) k = fin T base k := by
  rw [fin, addT_rest hk, add_sq hk, fin]
theorem add_sq_N (h : Tree N T base kids) (hi : i < N) (s : Nat) : sq (addT N T i x r) (addBase N T base i) N s = fin T base i ++ ([x] ++ (names r).take s) := by
  have := h.pos
  simp only [sq, addT_N hi, addBase, upd_same]
  rw [if_neg (by omega)]
  rfl
theorem add_fin_N (h : Tree N T base kids) (hi : i < N) : fin (addT N T i x r) (addBase N T base i) N = fin T base i ++ ([x] ++ names r) := by
  rw [fin, addT_N hi, add_sq_N h hi, List.take_of_length_le (by simp [names])]

theorem Tree.add (h : Tree N T base kids) (hi : i < N) (hr : OKL r) (hx : ¬ Cov N T base (fin T base i ++ [x])) : Tree (N + 1) (addT N T i x r) (addBase N T base i) (addKids N kids i) := by
  have hN0 : 0 < N := h.pos
  have hkN : addKids N kids i N = [] := by unfold addKids; rw [upd_ne _ _ (by omega), upd_same]
  have hki : addKids N kids i i = N :: kids i := upd_same _ _ _
  have hko : ∀ k, k ≠ i → k ≠ N → addKids N kids i k = kids k := fun k h1 h2 => by unfold addKids; rw [upd_ne _ _ h1, upd_ne _ _ h2]
  have hcov : ∀ k, k < N + 1 → k = i ∨ k = N ∨ (k ≠ i ∧ k ≠ N ∧ k < N) := fun k hk => by
    by_cases e : k = i
    · exact .inl e
    · by_cases e2 : k = N
      · exact .inr (.inl e2)
      · exact .inr (.inr ⟨e, e2, by omega⟩)
  refine ⟨Nat.succ_pos _, ?_, ?_, ?_, ?_, ?_, ?_, ?_, ?_⟩
  · rw [addBase, upd_ne _ _ (by omega)]; exact h.rootb
  · rw [addT_rest (by omega)]; exact h.rootr
  · intro k hk
    by_cases e : k = N
    · subst e; rw [addT_N hi]; exact hr
    · rw [addT_rest e]; exact h.ok k (by omega)
  · intro k hk
    rcases hcov k hk with rfl | rfl | ⟨h1, h2, h3⟩
    · rw [hki, addT_i]
      refine ⟨rfl, ?_⟩
      rw [addT_N hi]
      exact Chain.congr (fun c hc => addT_next (by have := (h.kid k hi c hc).2.1; omega)) (h.chain k hi)
    · rw [hkN, addT_N hi]; rfl
    · rw [hko k h1 h2, addT_o h1 h2]
      exact Chain.congr (fun c hc => addT_next (by have := (h.kid k h3 c hc).2.1; omega)) (h.chain k h3)
  · intro p hp k hk
    rcases hcov p hp with rfl | rfl | ⟨h1, h2, h3⟩
    · rw [hki, List.mem_cons] at hk
      rw [add_fin (by omega)]
      rcases hk with rfl | hk
      · exact ⟨hN0, Nat.lt_succ_self _, by rw [addBase, upd_same]⟩
      · obtain ⟨g1, g2, g3⟩ := h.kid p hi k hk
        exact ⟨g1, by omega, by rw [addBase, upd_ne _ _ (by omega), g3]⟩
    · rw [hkN] at hk
      cases hk
    · rw [hko p h1 h2] at hk
      obtain ⟨g1, g2, g3⟩ := h.kid p h3 k hk
      exact ⟨g1, by omega, by rw [add_fin h2, addBase, upd_ne _ _ (by omega), g3]⟩
  · intro p hp
    rcases hcov p hp with rfl | rfl | ⟨h1, h2, h3⟩
    · rw [hki]; have := h.len p hi; simp; omega
    · rw [hkN]; simp
    · rw [hko p h1 h2]; have := h.len p h3; omega
  · intro k hk hk0
    by_cases e : k = N
    · subst e
      exact ⟨i, by omega, by rw [hki]; simp⟩
    · obtain ⟨p, hp, hkp⟩ := h.par k (by omega) hk0
      by_cases e2 : p = i
      · subst e2
        exact ⟨p, by omega, by rw [hki]; exact List.mem_cons_of_mem _ hkp⟩
      · exact ⟨p, by omega, by rw [hko p e2 (by omega)]; exact hkp⟩
  · intro k s k2 s2 hk hk2 hs hs2 he
    have hno : ∀ k s s', k < N → s ≤ (T k).rest.length → sq T base k s ≠ fin T base i ++ ([x] ++ (names r).take s') := by
      intro k s s' hk hs he
      refine hx (h.cov_prefix ((names r).take s') ⟨k, s, hk, hs, ?_⟩)
      rw [he]; simp
    by_cases e : k = N
    · by_cases e2 : k2 = N
      · subst e
        subst e2
        rw [addT_N hi] at hs hs2
        rw [add_sq_N h hi, add_sq_N h hi] at he
        have hl := congrArg List.length he
        simp [names] at hl
        simp only at hs hs2
        exact ⟨rfl, by omega⟩
      · subst e
        rw [add_sq_N h hi, add_sq e2] at he
        rw [addT_rest e2] at hs2
        exact absurd he.symm (hno k2 s2 s (by omega) hs2)
    · by_cases e2 : k2 = N
      · subst e2
        rw [add_sq_N h hi, add_sq e] at he
        rw [addT_rest e] at hs
        exact absurd he (hno k s s2 (by omega) hs)
      · rw [add_sq e, add_sq e2] at he
        rw [addT_rest e] at hs
        rw [addT_rest e2] at hs2
        exact h.uniq _ _ _ _ (by omega) (by omega) hs hs2 he

theorem Nums.add (hn : Nums N T base seen) (hi : i < N) : Nums (N + 1) (addT N T i x r) (addBase N T base i) seen := by
  refine ⟨?_, ?_, hn.nodup⟩
  · intro k hk
    by_cases e2 : k = N
    · subst e2
      rw [addT_N hi]
      exact .inl rfl
    · rw [addT_path e2, add_fin e2]
      exact hn.val k (by omega)
  · intro d hd
    obtain ⟨k, hk, hp⟩ := hn.all d hd
    exact ⟨k, by omega, by rw [addT_path (by omega)]; exact hp⟩
end

/-! ### Numbers, and turns that the tree does not see -/
/-- Two nodes alike but for their number and their map. -/
def Like (a b : Nd) : Prop := a.first = b.first ∧ a.rest = b.rest ∧ a.child = b.child ∧ a.next = b.next

section
variable {N : Nat} {T T' : Nat → Nd} {base : Nat → List Name} {kids : Nat → List Nat} {seen : List (List Name)}
theorem like_sq (hl : ∀ k, Like (T' k) (T k)) (k s : Nat) : sq T' base k s = sq T base k s := by
  simp only [sq, (hl k).1, (hl k).2.1]
theorem like_fin (hl : ∀ k, Like (T' k) (T k)) (k : Nat) : fin T' base k = fin T base k := by
  rw [fin, fin, like_sq hl, (hl k).2.1]
theorem Tree.like (h : Tree N T base kids) (hl : ∀ k, Like (T' k) (T k)) : Tree N T' base kids := by
  refine ⟨h.pos, h.rootb, by rw [(hl 0).2.1]; exact h.rootr, fun k hk => by rw [(hl k).2.1]; exact h.ok k hk, ?_, ?_, h.len, h.par, ?_⟩
  · intro k hk
    rw [(hl k).2.2.1]
    exact Chain.congr (fun c _ => (hl c).2.2.2) (h.chain k hk)
  · intro p hp k hk
    rw [like_fin hl]
    exact h.kid p hp k hk
  · intro k t k2 t2 hk hk2 ht ht2 he
    rw [like_sq hl, like_sq hl] at he
    rw [(hl k).2.1] at ht
    rw [(hl k2).2.1] at ht2
    exact h.uniq _ _ _ _ hk hk2 ht ht2 he
theorem Nums.like (h : Nums N T base seen) (hl : ∀ k, Like (T' k) (T k)) (hp : ∀ k, (T' k).path = (T k).path) : Nums N T' base seen := by
  refine ⟨?_, ?_, h.nodup⟩
  · intro k hk
    rw [hp, like_fin hl]; exact h.val k hk
  · intro d hd
    obtain ⟨k, hk, e⟩ := h.all d hd
    exact ⟨k, hk, by rw [hp]; exact e⟩

/-- A node without a number: its names have not been seen. -/
theorem Nums.fresh (hn : Nums N T base seen) (h : Tree N T base kids) {at' : Nat} (ha : at' < N) (hp : (T at').path = -1) : fin T base at' ∉ seen := by
  intro hm
  obtain ⟨d, hd, he⟩ := List.getElem_of_mem hm
  obtain ⟨k, hk, hpk⟩ := hn.all d hd
  rcases hn.val k hk with h1 | ⟨d', h1, h2⟩
  · rw [hpk] at h1; omega
  · have e : d' = d := by rw [hpk] at h1; omega
    subst e
    rw [List.getElem?_eq_getElem hd, he] at h2
    have h3 := Option.some.inj h2
    obtain ⟨rfl, _⟩ := h.uniq _ _ _ _ ha hk (Nat.le_refl _) (Nat.le_refl _) h3
    rw [hp] at hpk; omega
def numT (T : Nat → Nd) (k : Nat) (n : Nat) : Nat → Nd := upd T k { T k with path := (n : Int) }
theorem num_like (T : Nat → Nd) (k n : Nat) : ∀ j, Like (numT T k n j) (T j) := by
  intro j
  unfold numT
  by_cases e : j = k
  · subst e; rw [upd_same]; exact ⟨rfl, rfl, rfl, rfl⟩
  · rw [upd_ne _ _ e]; exact ⟨rfl, rfl, rfl, rfl⟩
theorem Nums.num (hn : Nums N T base seen) (h : Tree N T base kids) {at' : Nat} (ha : at' < N) (hp : (T at').path = -1) :
    Nums N (numT T at' seen.length) base (seen ++ [fin T base at']) := by
  refine ⟨?_, ?_, ?_⟩
  · intro k hk
    rw [like_fin (num_like T at' seen.length)]
    by_cases e : k = at'
    · subst e
      right
      exact ⟨seen.length, by rw [numT, upd_same], by simp⟩
    · rw [numT, upd_ne _ _ e]
      rcases hn.val k hk with h1 | ⟨d, h1, h2⟩
      · exact .inl h1
      · exact .inr ⟨d, h1, by rw [List.getElem?_append_left (List.getElem?_eq_some_iff.1 h2).1]; exact h2⟩
  · intro d hd
    simp at hd
    by_cases e : d = seen.length
    · subst e
      exact ⟨at', ha, by rw [numT, upd_same]⟩
    · obtain ⟨k, hk, hpk⟩ := hn.all d (by omega)
      refine ⟨k, hk, ?_⟩
      have : k ≠ at' := by
        intro e2; subst e2; rw [hp] at hpk; omega
      rw [numT, upd_ne _ _ this]; exact hpk
  · rw [List.nodup_append]
    refine ⟨hn.nodup, by simp, ?_⟩
    intro a ha2 b hb
    simp at hb
    subst hb
    intro e
    subst e
    exact hn.fresh h ha hp ha2
end

/-- The tree of one node. -/
def rootT : Nat → Nd := fun _ => { first := [], rest := [], path := -1, child := 0, next := 0, bf := none }
theorem tree_root : Tree 1 rootT (fun _ => []) (fun _ => []) := by
  refine ⟨Nat.one_pos, rfl, rfl, (fun k _ p hp => by cases hp), (fun k _ => rfl), (fun p _ k hk => by cases hk), (fun p _ => by simp), (fun k hk hk0 => by omega), ?_⟩
  intro k t k2 t2 hk hk2 ht ht2 _
  have h1 : (rootT k).rest.length = 0 := rfl
  have h2 : (rootT k2).rest.length = 0 := rfl
  omega
theorem nums_root : Nums 1 rootT (fun _ => []) [] := ⟨(fun k _ => .inl rfl), (fun d hd => by simp at hd), by simp⟩

end Go.Proofs.Qxb6602793a.Pa
