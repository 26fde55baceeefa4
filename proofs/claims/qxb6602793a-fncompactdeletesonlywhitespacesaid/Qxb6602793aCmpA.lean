namespace Go.Proofs.Qxb6602793a.Cmp

/-! THE PLAIN PART: what Compact leaves of a list of bytes. No Go in sight. -/

def sp (c : Int) : Bool := c == 32 || c == 9 || c == 10 || c == 13
/-- 0: outside strings; 1: in a string; 2: in a string, behind a backslash. -/
def nx (st : Nat) (c : Int) : Nat :=
  if st = 0 then (if c = 34 then 1 else 0) else if st = 1 then (if c = 34 then 0 else if c = 92 then 2 else 1) else 1
def kp (st : Nat) (c : Int) : Bool := !(st == 0 && sp c)

/-- The state ahead of byte k. -/
def S (zs : List Int) : Nat → Nat
  | 0 => 0
  | k + 1 => nx (S zs k) (zs.getD k 0)
/-- What is kept of the first k bytes. -/
def O (zs : List Int) : Nat → List Int
  | 0 => []
  | k + 1 => if kp (S zs k) (zs.getD k 0) then O zs k ++ [zs.getD k 0] else O zs k

theorem O_le (zs : List Int) : ∀ k, (O zs k).length ≤ k
  | 0 => Nat.le_refl _
  | k + 1 => by
    have := O_le zs k
    unfold O
    split
    · simp; omega
    · omega

theorem O_kept {zs : List Int} {k : Nat} (h : kp (S zs k) (zs.getD k 0) = true) : O zs (k + 1) = O zs k ++ [zs.getD k 0] := by
  simp only [O, h, if_true]
theorem O_struck {zs : List Int} {k : Nat} (h : kp (S zs k) (zs.getD k 0) = false) : O zs (k + 1) = O zs k := by
  simp only [O, h]; rfl

theorem O_pre (zs : List Int) (k : Nat) : ∀ m, ∃ T, O zs (k + m) = O zs k ++ T
  | 0 => ⟨[], by simp⟩
  | m + 1 => by
    obtain ⟨T, hT⟩ := O_pre zs k m
    cases h : kp (S zs (k + m)) (zs.getD (k + m) 0)
    · exact ⟨T, (O_struck h).trans hT⟩
    · exact ⟨T ++ [zs.getD (k + m) 0], (O_kept h).trans (by rw [hT, List.append_assoc])⟩

theorem S_succ (zs : List Int) (k : Nat) : S zs (k + 1) = nx (S zs k) (zs.getD k 0) := rfl

theorem kp_in {st : Nat} {c : Int} (h : st ≠ 0) : kp st c = true := by
  have : (st == 0) = false := by simpa using h
  simp [kp, this]

theorem kp_nsp {st : Nat} {c : Int} (h : sp c = false) : kp st c = true := by simp [kp, h]
theorem kp_sp {c : Int} (h : sp c = true) : kp 0 c = false := by simp [kp, h]
theorem nx_sp {c : Int} (h : sp c = true) : nx 0 c = 0 := by
  have h' : c ≠ 34 := by intro e; rw [e] at h; exact absurd h (by decide)
  simp [nx, h']

/-! Behind a byte that is struck stands, in what is kept, no white space. -/
theorem O_next (zs : List Int) : ∀ (d i : Nat), S zs i = 0 → ∃ T, O zs (i + d) = O zs i ++ T ∧ ∀ c r, T = c :: r → sp c = false
  | 0, i, _ => ⟨[], by simp, fun c r h => by cases h⟩
  | d + 1, i, hS => by
    have e : i + (d + 1) = (i + 1) + d := by omega
    rw [e]
    cases hs : sp (zs.getD i 0)
    · have hk : kp (S zs i) (zs.getD i 0) = true := kp_nsp hs
      obtain ⟨T, hT⟩ := O_pre zs (i + 1) d
      refine ⟨zs.getD i 0 :: T, by rw [hT, O_kept hk, List.append_assoc]; rfl, fun c r h => ?_⟩
      injection h with h1 _
      rw [← h1]; exact hs
    · have hk : kp (S zs i) (zs.getD i 0) = false := by rw [hS]; exact kp_sp hs
      have hn : S zs (i + 1) = 0 := by
        rw [S_succ, hS]
        exact nx_sp hs
      obtain ⟨T, hT, hc⟩ := O_next zs d (i + 1) hn
      exact ⟨T, by rw [hT, O_struck hk], hc⟩

/-! A row whose head has been written over by o. -/
def Cn (o zs : List Int) : List Int := o ++ zs.drop o.length
theorem Cn_len {o zs : List Int} (h : o.length ≤ zs.length) : (Cn o zs).length = zs.length := by
  simp [Cn]; omega
theorem Cn_at {o zs : List Int} {j : Nat} (h : o.length ≤ j) : (Cn o zs).getD j 0 = zs.getD j 0 := by
  simp only [Cn, List.getD, List.getElem?_append_right h, List.getElem?_drop]
  congr 2
  omega
theorem Cn_head {o zs : List Int} {j : Nat} (h : j < o.length) : (Cn o zs).getD j 0 = o.getD j 0 := by
  simp only [Cn, List.getD, List.getElem?_append_left h]
theorem Cn_put {o zs : List Int} (x : Int) (h : o.length < zs.length) : (Cn o zs).set o.length x = Cn (o ++ [x]) zs := by
  simp only [Cn, List.length_append, List.length_singleton]
  rw [List.set_append_right _ _ (Nat.le_refl _), Nat.sub_self, List.drop_eq_getElem_cons h, List.set_cons_zero, List.append_assoc]
  rfl
theorem Cn_all {o zs : List Int} (h : o.length = zs.length) : Cn o zs = o := by
  simp [Cn, h]
theorem Cn_nil (zs : List Int) : Cn [] zs = zs := by simp [Cn]

end Go.Proofs.Qxb6602793a.Cmp
