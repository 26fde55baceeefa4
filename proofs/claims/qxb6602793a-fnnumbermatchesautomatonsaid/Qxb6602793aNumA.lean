namespace Go.Proofs.Qxb6602793a.Num

/-! THE PLAIN PART: a JSON number read by 'number' and by the automaton. No Go in sight. -/

def isd (c : Int) : Bool := decide (48 ≤ c) && decide (c ≤ 57)
def atb (zs : List Int) (i : Nat) (c : Int) : Bool := decide (i < zs.length) && (zs.getD i 0 == c)
def dg (zs : List Int) (i : Nat) : Nat := i + ((zs.drop i).takeWhile isd).length

theorem dg_step {zs : List Int} {i : Nat} (h : i < zs.length) (hd : isd (zs.getD i 0) = true) : dg zs i = dg zs (i + 1) := by
  have e : zs.getD i 0 = zs[i] := by rw [List.getD, List.getElem?_eq_getElem h]; rfl
  rw [e] at hd
  unfold dg
  rw [List.drop_eq_getElem_cons h, List.takeWhile_cons_of_pos hd]
  simp; omega
theorem dg_stop {zs : List Int} {i : Nat} (h : i < zs.length) (hd : isd (zs.getD i 0) = false) : dg zs i = i := by
  have e : zs.getD i 0 = zs[i] := by rw [List.getD, List.getElem?_eq_getElem h]; rfl
  rw [e] at hd
  unfold dg
  rw [List.drop_eq_getElem_cons h, List.takeWhile_cons_of_neg (by rw [hd]; decide)]
  simp
theorem dg_end {zs : List Int} {i : Nat} (h : zs.length ≤ i) : dg zs i = i := by
  unfold dg
  rw [List.drop_eq_nil_of_le h]; rfl
theorem dg_le {zs : List Int} (i : Nat) (h : i ≤ zs.length) : dg zs i ≤ zs.length := by
  have h1 : ((zs.drop i).takeWhile isd).length ≤ (zs.drop i).length := List.Sublist.length_le (List.takeWhile_sublist _)
  unfold dg
  simp at h1
  omega
theorem dg_ge (zs : List Int) (i : Nat) : i ≤ dg zs i := by unfold dg; omega

/-- The automaton's table. -/
def nstep (st c : Int) : Int :=
  if st = 0 then (if c = 45 then 1 else if c = 48 then 2 else if isd c then 3 else -1)
  else if st = 1 then (if c = 48 then 2 else if isd c then 3 else -1)
  else if st = 2 then (if c = 46 then 4 else if c = 101 ∨ c = 69 then 6 else -1)
  else if st = 3 then (if isd c then 3 else if c = 46 then 4 else if c = 101 ∨ c = 69 then 6 else -1)
  else if st = 4 then (if isd c then 5 else -1)
  else if st = 5 then (if isd c then 5 else if c = 101 ∨ c = 69 then 6 else -1)
  else if st = 6 then (if c = 43 ∨ c = 45 then 7 else if isd c then 8 else -1)
  else if st = 7 ∨ st = 8 then (if isd c then 8 else -1)
  else -1
def nacc (st : Int) : Bool := st == 2 || st == 3 || st == 5 || st == 8

/-- The automaton's state behind k bytes from i on. -/
def stt (zs : List Int) (i : Nat) : Nat → Int
  | 0 => 0
  | k + 1 => nstep (stt zs i k) (zs.getD (i + k) 0)

/-- From i it has read up to p and is in state s. -/
def At (zs : List Int) (i p : Nat) (s : Int) : Prop :=
  i ≤ p ∧ (p = i ∨ p ≤ zs.length) ∧ stt zs i (p - i) = s ∧ ∀ k, k ≤ p - i → 0 ≤ stt zs i k
/-- .. and there it stops. -/
def End (zs : List Int) (i p : Nat) (s : Int) : Prop :=
  At zs i p s ∧ (zs.length ≤ p ∨ nstep s (zs.getD p 0) < 0)

theorem at_start (zs : List Int) (i : Nat) : At zs i i 0 :=
  ⟨Nat.le_refl _, .inl rfl, by rw [Nat.sub_self]; rfl, fun k hk => by
    have : k = 0 := by omega
    subst this; exact Int.le_refl _⟩
theorem stt_succ {zs : List Int} {i p : Nat} (h : i ≤ p) : stt zs i (p + 1 - i) = nstep (stt zs i (p - i)) (zs.getD p 0) := by
  have e : p + 1 - i = (p - i) + 1 := by omega
  have e2 : i + (p - i) = p := by omega
  rw [e]
  show nstep _ (zs.getD (i + (p - i)) 0) = _
  rw [e2]
theorem at_step {zs : List Int} {i p : Nat} {s t : Int} (h : At zs i p s) (hp : p < zs.length) (ht : nstep s (zs.getD p 0) = t) (h0 : 0 ≤ t) : At zs i (p + 1) t := by
  obtain ⟨h1, h2, h3, h4⟩ := h
  have e : stt zs i (p + 1 - i) = t := by rw [stt_succ h1, h3, ht]
  refine ⟨by omega, .inr hp, e, fun k hk => ?_⟩
  by_cases hk' : k ≤ p - i
  · exact h4 k hk'
  · have : k = p + 1 - i := by omega
    rw [this, e]; exact h0
theorem end_one {zs : List Int} {i p q : Nat} {s t : Int} (h : End zs i p s) (k : End zs i q t) : ¬ p < q := by
  intro hlt
  obtain ⟨⟨h1, h2, h3, h4⟩, h5⟩ := h
  obtain ⟨⟨k1, k2, k3, k4⟩, k5⟩ := k
  have hq : q ≤ zs.length := by omega
  rcases h5 with h5 | h5
  · omega
  · have := k4 (p + 1 - i) (by omega)
    rw [stt_succ h1, h3] at this
    omega
theorem end_same {zs : List Int} {i p q : Nat} {s t : Int} (h : End zs i p s) (k : End zs i q t) : p = q ∧ s = t := by
  have e : p = q := by
    have := end_one h k
    have := end_one k h
    omega
  subst e
  exact ⟨rfl, by rw [← h.1.2.2.1, ← k.1.2.2.1]⟩

/-- A state that digits keep. -/
theorem at_digits {zs : List Int} {i : Nat} {s : Int} (hs : ∀ c, isd c = true → nstep s c = s) (h0 : 0 ≤ s) : ∀ (d p : Nat), zs.length - p ≤ d → At zs i p s → At zs i (dg zs p) s
  | 0, p, hd, h => by rw [dg_end (by omega)]; exact h
  | d + 1, p, hd, h => by
    by_cases hp : p < zs.length
    · cases hc : isd (zs.getD p 0)
      · rw [dg_stop hp hc]; exact h
      · rw [dg_step hp hc]
        exact at_digits hs h0 d (p + 1) (by omega) (at_step h hp (hs _ hc) h0)
    · rw [dg_end (by omega)]; exact h
/-- Behind digits stands no digit. -/
theorem dg_no (zs : List Int) : ∀ (d p : Nat), zs.length - p ≤ d → dg zs p < zs.length → isd (zs.getD (dg zs p) 0) = false
  | 0, p, hd, h => by rw [dg_end (by omega)] at h; omega
  | d + 1, p, hd, h => by
    by_cases hp : p < zs.length
    · cases hc : isd (zs.getD p 0)
      · rw [dg_stop hp hc]; exact hc
      · rw [dg_step hp hc] at h ⊢
        exact dg_no zs d (p + 1) (by omega) h
    · rw [dg_end (by omega)] at h; omega

/-! What 'number' computes -/
def expo (zs : List Int) (i : Nat) : Nat × Bool :=
  if atb zs i 101 || atb zs i 69 then
    let k := if atb zs (i + 1) 43 || atb zs (i + 1) 45 then i + 1 + 1 else i + 1
    (dg zs k, decide (k < dg zs k))
  else (i, true)
def frac (zs : List Int) (i : Nat) : Nat × Bool :=
  if atb zs i 46 then (if dg zs (i + 1) = i + 1 then (i + 1, false) else expo zs (dg zs (i + 1))) else expo zs i
def sgn (zs : List Int) (i : Nat) : Nat := if atb zs i 45 then i + 1 else i
def num (zs : List Int) (i : Nat) : Nat × Bool :=
  if atb zs (sgn zs i) 48 then frac zs (sgn zs i + 1)
  else if sgn zs i < dg zs (sgn zs i) then frac zs (dg zs (sgn zs i)) else (sgn zs i, false)

/-- Its answer is where the automaton stops, and whether it accepts there. -/
def Ans (zs : List Int) (i : Nat) (r : Nat × Bool) : Prop := ∃ s, End zs i r.1 s ∧ r.2 = nacc s

theorem atb_yes {zs : List Int} {i : Nat} {c : Int} (h : atb zs i c = true) : i < zs.length ∧ zs.getD i 0 = c := by
  unfold atb at h
  rw [Bool.and_eq_true] at h
  exact ⟨of_decide_eq_true h.1, beq_iff_eq.1 h.2⟩
theorem atb_no {zs : List Int} {i : Nat} {c : Int} (h : atb zs i c = false) (hi : i < zs.length) : zs.getD i 0 ≠ c := by
  intro e
  unfold atb at h
  rw [decide_eq_true hi, e] at h
  simp at h

theorem digits_end {zs : List Int} {i p : Nat} {s : Int} (hs : ∀ c, isd c = true → nstep s c = s) (hn : ∀ c, isd c = false → nstep s c < 0) (h0 : 0 ≤ s) (h : At zs i p s) : End zs i (dg zs p) s := by
  refine ⟨at_digits hs h0 _ p (Nat.le_refl _) h, ?_⟩
  by_cases e : dg zs p < zs.length
  · exact .inr (hn _ (dg_no zs _ p (Nat.le_refl _) e))
  · exact .inl (by omega)

theorem n8 (c : Int) (h : isd c = true) : nstep 8 c = 8 := by simp [nstep, h]
theorem n8' (c : Int) (h : isd c = false) : nstep 8 c < 0 := by simp [nstep, h]
theorem n7 (c : Int) (h : isd c = true) : nstep 7 c = 8 := by simp [nstep, h]
theorem n7' (c : Int) (h : isd c = false) : nstep 7 c < 0 := by simp [nstep, h]
theorem n5 (c : Int) (h : isd c = true) : nstep 5 c = 5 := by simp [nstep, h]
theorem n3 (c : Int) (h : isd c = true) : nstep 3 c = 3 := by simp [nstep, h]
theorem n6 (c : Int) (h : isd c = true) : nstep 6 c = 8 := by
  have h1 : ¬ (c = 43 ∨ c = 45) := by
    rintro (rfl | rfl) <;> exact absurd h (by decide)
  simp [nstep, h, h1]

theorem q6 {c : Int} (h1 : c ≠ 43) (h2 : c ≠ 45) (h : isd c = false) : nstep 6 c < 0 := by simp [nstep, h, h1, h2]
theorem q67 {c : Int} (h : c = 43 ∨ c = 45) : nstep 6 c = 7 := by rcases h with rfl | rfl <;> decide
theorem q2 {c : Int} (h1 : c ≠ 46) (h2 : c ≠ 101) (h3 : c ≠ 69) : nstep 2 c < 0 := by simp [nstep, h1, h2, h3]
theorem q3 {c : Int} (h1 : c ≠ 46) (h2 : c ≠ 101) (h3 : c ≠ 69) (h : isd c = false) : nstep 3 c < 0 := by simp [nstep, h1, h2, h3, h]
theorem q4 {c : Int} (h : isd c = false) : nstep 4 c < 0 := by simp [nstep, h]
theorem q45 {c : Int} (h : isd c = true) : nstep 4 c = 5 := by simp [nstep, h]
theorem q5 {c : Int} (h2 : c ≠ 101) (h3 : c ≠ 69) (h : isd c = false) : nstep 5 c < 0 := by simp [nstep, h2, h3, h]
theorem q0 {c : Int} (h1 : c ≠ 45) (h2 : c ≠ 48) (h : isd c = false) : nstep 0 c < 0 := by simp [nstep, h1, h2, h]
theorem q1 {c : Int} (h2 : c ≠ 48) (h : isd c = false) : nstep 1 c < 0 := by simp [nstep, h2, h]
theorem q03 {c : Int} (h1 : c ≠ 45) (h2 : c ≠ 48) (h : isd c = true) : nstep 0 c = 3 := by simp [nstep, h1, h2, h]
theorem q13 {c : Int} (h2 : c ≠ 48) (h : isd c = true) : nstep 1 c = 3 := by simp [nstep, h2, h]

/-- digits behind a state from which a digit leads to 8: what 'number' answers there. -/
theorem exp_digits {zs : List Int} {i p : Nat} {s : Int} (hs : s = 6 ∨ s = 7) (h : At zs i p s) (hno : s = 6 → p < zs.length → zs.getD p 0 ≠ 43 ∧ zs.getD p 0 ≠ 45) : Ans zs i (dg zs p, decide (p < dg zs p)) := by
  by_cases hp : p < zs.length
  · cases hc : isd (zs.getD p 0)
    · rw [dg_stop hp hc]
      refine ⟨s, ⟨h, .inr ?_⟩, ?_⟩
      · rcases hs with rfl | rfl
        · obtain ⟨h1, h2⟩ := hno rfl hp
          exact q6 h1 h2 hc
        · exact n7' _ hc
      · simp; rcases hs with rfl | rfl <;> rfl
    · have h8 : At zs i (p + 1) 8 := at_step h hp (by rcases hs with rfl | rfl; exact n6 _ hc; exact n7 _ hc) (by decide)
      have hE := digits_end n8 n8' (by decide) h8
      rw [← dg_step hp hc] at hE
      refine ⟨8, hE, ?_⟩
      have : p < dg zs p := by rw [dg_step hp hc]; have := dg_ge zs (p + 1); omega
      simp [this, nacc]
  · rw [dg_end (by omega)]
    refine ⟨s, ⟨h, .inl (by omega)⟩, ?_⟩
    simp; rcases hs with rfl | rfl <;> rfl

theorem expo_ans {zs : List Int} {i p : Nat} {s : Int} (h : At zs i p s) (hacc : nacc s = true) (hE : ∀ c, c = 101 ∨ c = 69 → nstep s c = 6) (hN : p < zs.length → zs.getD p 0 ≠ 101 → zs.getD p 0 ≠ 69 → nstep s (zs.getD p 0) < 0) : Ans zs i (expo zs p) := by
  unfold expo
  cases h1 : atb zs p 101 || atb zs p 69
  · rw [Bool.or_eq_false_iff] at h1
    refine ⟨s, ⟨h, ?_⟩, by simp [hacc]⟩
    by_cases hp : p < zs.length
    · exact .inr (hN hp (atb_no h1.1 hp) (atb_no h1.2 hp))
    · exact .inl (by simp; omega)
  · have hp : p < zs.length ∧ (zs.getD p 0 = 101 ∨ zs.getD p 0 = 69) := by
      rw [Bool.or_eq_true] at h1
      rcases h1 with h1 | h1
      · exact ⟨(atb_yes h1).1, .inl (atb_yes h1).2⟩
      · exact ⟨(atb_yes h1).1, .inr (atb_yes h1).2⟩
    have h6 : At zs i (p + 1) 6 := at_step h hp.1 (hE _ hp.2) (by decide)
    simp only [if_true]
    cases h2 : atb zs (p + 1) 43 || atb zs (p + 1) 45
    · rw [Bool.or_eq_false_iff] at h2
      simp only [Bool.false_eq_true, if_false]
      exact exp_digits (.inl rfl) h6 (fun _ hq => ⟨atb_no h2.1 hq, atb_no h2.2 hq⟩)
    · have hq : p + 1 < zs.length ∧ (zs.getD (p + 1) 0 = 43 ∨ zs.getD (p + 1) 0 = 45) := by
        rw [Bool.or_eq_true] at h2
        rcases h2 with h2 | h2
        · exact ⟨(atb_yes h2).1, .inl (atb_yes h2).2⟩
        · exact ⟨(atb_yes h2).1, .inr (atb_yes h2).2⟩
      simp only [if_true]
      have h7 : At zs i (p + 1 + 1) 7 := at_step h6 hq.1 (q67 hq.2) (by decide)
      exact exp_digits (.inr rfl) h7 (fun e => by cases e)

theorem frac_ans {zs : List Int} {i p : Nat} {s : Int} (hs : s = 2 ∨ s = 3) (h : At zs i p s) (hd : s = 3 → p < zs.length → isd (zs.getD p 0) = false) : Ans zs i (frac zs p) := by
  unfold frac
  have hacc : nacc s = true := by rcases hs with rfl | rfl <;> rfl
  have hE : ∀ c, c = 101 ∨ c = 69 → nstep s c = 6 := by
    intro c hc
    rcases hs with rfl | rfl <;> rcases hc with rfl | rfl <;> decide
  cases h1 : atb zs p 46
  · simp only [Bool.false_eq_true, if_false]
    refine expo_ans h hacc hE (fun hp h2 h3 => ?_)
    have h4 := atb_no h1 hp
    rcases hs with rfl | rfl
    · exact q2 h4 h2 h3
    · exact q3 h4 h2 h3 (hd rfl hp)
  · obtain ⟨hp, hc⟩ := atb_yes h1
    have h4 : At zs i (p + 1) 4 := at_step h hp (by rw [hc]; rcases hs with rfl | rfl <;> decide) (by decide)
    simp only [if_true]
    by_cases hq : p + 1 < zs.length
    · cases hdg : isd (zs.getD (p + 1) 0)
      · rw [dg_stop hq hdg, if_pos rfl]
        exact ⟨4, ⟨h4, .inr (q4 hdg)⟩, rfl⟩
      · have h5 : At zs i (p + 1 + 1) 5 := at_step h4 hq (q45 hdg) (by decide)
        have hge := dg_ge zs (p + 1 + 1)
        rw [dg_step hq hdg, if_neg (by omega)]
        have h5' := at_digits n5 (by decide) _ _ (Nat.le_refl _) h5
        refine expo_ans h5' rfl (fun c hc => by rcases hc with rfl | rfl <;> decide) (fun hp' h2 h3 => ?_)
        exact q5 h2 h3 (dg_no zs _ (p + 1 + 1) (Nat.le_refl _) hp')
    · rw [dg_end (by omega), if_pos rfl]
      exact ⟨4, ⟨h4, .inl (by omega)⟩, rfl⟩

theorem num_ans (zs : List Int) (i : Nat) : Ans zs i (num zs i) := by
  have hsg : (sgn zs i = i ∧ At zs i (sgn zs i) 0 ∧ (i < zs.length → zs.getD i 0 ≠ 45)) ∨ At zs i (sgn zs i) 1 := by
    unfold sgn
    cases h1 : atb zs i 45
    · exact .inl ⟨rfl, at_start zs i, fun hi => atb_no h1 hi⟩
    · obtain ⟨hp, hc⟩ := atb_yes h1
      exact .inr (at_step (at_start zs i) hp (by rw [hc]; decide) (by decide))
  unfold num
  generalize sgn zs i = p at *
  obtain ⟨s, hs, hA, hN⟩ : ∃ s : Int, (s = 0 ∨ s = 1) ∧ At zs i p s ∧ (s = 0 → p < zs.length → zs.getD p 0 ≠ 45) := by
    rcases hsg with ⟨e, h1, h2⟩ | h1
    · subst e; exact ⟨0, .inl rfl, h1, fun _ => h2⟩
    · exact ⟨1, .inr rfl, h1, fun e => by cases e⟩
  cases h0 : atb zs p 48
  · simp only [Bool.false_eq_true, if_false]
    by_cases hp : p < zs.length
    · have hz := atb_no h0 hp
      cases hc : isd (zs.getD p 0)
      · rw [dg_stop hp hc, if_neg (by omega)]
        refine ⟨s, ⟨hA, .inr ?_⟩, by rcases hs with rfl | rfl <;> rfl⟩
        rcases hs with rfl | rfl
        · exact q0 (hN rfl hp) hz hc
        · exact q1 hz hc
      · have hge := dg_ge zs (p + 1)
        have h3 : At zs i (p + 1) 3 := at_step hA hp (by
          rcases hs with rfl | rfl
          · exact q03 (hN rfl hp) hz hc
          · exact q13 hz hc) (by decide)
        rw [dg_step hp hc, if_pos (by omega)]
        exact frac_ans (.inr rfl) (at_digits n3 (by decide) _ _ (Nat.le_refl _) h3) (fun _ hl => dg_no zs _ (p + 1) (Nat.le_refl _) hl)
    · rw [dg_end (by omega), if_neg (by omega)]
      exact ⟨s, ⟨hA, .inl (by omega)⟩, by rcases hs with rfl | rfl <;> rfl⟩
  · obtain ⟨hp, hc⟩ := atb_yes h0
    simp only [if_true]
    exact frac_ans (.inl rfl) (at_step hA hp (by rw [hc]; rcases hs with rfl | rfl <;> decide) (by decide)) (fun e => by cases e)

end Go.Proofs.Qxb6602793a.Num
