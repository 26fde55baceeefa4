namespace Go.Proofs.Qxb6603212a.Sc

/-! THE PLAIN PART: a JSON number read by 'number' and by the automaton. No Go in sight. -/

def isd (c : Int) : Bool := decide (48 ≤ c) && decide (c ≤ 57)
def atb (zs : List Int) (i : Nat) (c : Int) : Bool := decide (i < zs.length) && (zs.getD i 0 == c)
def dg (zs : List Int) (i : Nat) : Nat := i + ((zs.drop i).takeWhile isd).length

theorem dg_step {zs : List Int} {i : Nat} (h : i < zs.length) (hd : isd (zs.getD i 0) = true) : dg zs i = dg zs (i + 1) := by
  have e : zs.getD i 0 = zs[i] := by rw [List.getD, List.getElem?_eq_getElem h]; rfl
  rw [e] at hd
  unfold dg
  rw [List.drop_eq_getElem_cons h, List.takeWhile_cons_of_pos hd]
  simp; omega
theorem dg_stop {zs : List Int} {i : Nat} (h : i < zs.length) (hd : isd (zs.getD i 0) = false) : dg zs i = i := by
  have e : zs.getD i 0 = zs[i] := by rw [List.getD, List.getElem?_eq_getElem h]; rfl
  rw [e] at hd
  unfold dg
  rw [List.drop_eq_getElem_cons h, List.takeWhile_cons_of_neg (by rw [hd]; decide)]
  simp
theorem dg_end {zs : List Int} {i : Nat} (h : zs.length ≤ i) : dg zs i = i := by
  unfold dg
  rw [List.drop_eq_nil_of_le h]; rfl
theorem dg_le {zs : List Int} (i : Nat) (h : i ≤ zs.length) : dg zs i ≤ zs.length := by
  have h1 : ((zs.drop i).takeWhile isd).length ≤ (zs.drop i).length := List.Sublist.length_le (List.takeWhile_sublist _)
  unfold dg
  simp at h1
  omega
theorem dg_ge (zs : List Int) (i : Nat) : i ≤ dg zs i := by unfold dg; omega

/-- The automaton's table. -/
def sstep (st c : Int) : Int :=
  if st = 0 then (if c = 45 then 1 else if c = 48 then 2 else if isd c then 3 else if c = 116 then 9 else if c = 102 then 12 else if c = 110 then 16 else -1)
  else if st = 1 then (if c = 48 then 2 else if isd c then 3 else -1)
  else if st = 2 then (if c = 46 then 4 else if c = 101 ∨ c = 69 then 6 else -1)
  else if st = 3 then (if isd c then 3 else if c = 46 then 4 else if c = 101 ∨ c = 69 then 6 else -1)
  else if st = 4 then (if isd c then 5 else -1)
  else if st = 5 then (if isd c then 5 else if c = 101 ∨ c = 69 then 6 else -1)
  else if st = 6 then (if c = 43 ∨ c = 45 then 7 else if isd c then 8 else -1)
  else if st = 7 then (if isd c then 8 else -1)
  else if st = 8 then (if isd c then 8 else -1)
  else if st = 9 then (if c = 114 then 10 else -1)
  else if st = 10 then (if c = 117 then 11 else -1)
  else if st = 11 then (if c = 101 then 19 else -1)
  else if st = 12 then (if c = 97 then 13 else -1)
  else if st = 13 then (if c = 108 then 14 else -1)
  else if st = 14 then (if c = 115 then 15 else -1)
  else if st = 15 then (if c = 101 then 19 else -1)
  else if st = 16 then (if c = 117 then 17 else -1)
  else if st = 17 then (if c = 108 then 18 else -1)
  else if st = 18 then (if c = 108 then 19 else -1)
  else -1
def sacc (st : Int) : Bool := st == 2 || st == 3 || st == 5 || st == 8 || st == 19

/-- The automaton's state behind k bytes from i on. -/
def stt (zs : List Int) (i : Nat) : Nat → Int
  | 0 => 0
  | k + 1 => sstep (stt zs i k) (zs.getD (i + k) 0)

/-- From i it has read up to p and is in state s. -/
def At (zs : List Int) (i p : Nat) (s : Int) : Prop :=
  i ≤ p ∧ (p = i ∨ p ≤ zs.length) ∧ stt zs i (p - i) = s ∧ ∀ k, k ≤ p - i → 0 ≤ stt zs i k
/-- .. and there it stops. -/
def End (zs : List Int) (i p : Nat) (s : Int) : Prop :=
  At zs i p s ∧ (zs.length ≤ p ∨ sstep s (zs.getD p 0) < 0)

theorem at_start (zs : List Int) (i : Nat) : At zs i i 0 :=
  ⟨Nat.le_refl _, .inl rfl, by rw [Nat.sub_self]; rfl, fun k hk => by
    have : k = 0 := by omega
    subst this; exact Int.le_refl _⟩
theorem stt_succ {zs : List Int} {i p : Nat} (h : i ≤ p) : stt zs i (p + 1 - i) = sstep (stt zs i (p - i)) (zs.getD p 0) := by
  have e : p + 1 - i = (p - i) + 1 := by omega
  have e2 : i + (p - i) = p := by omega
  rw [e]
  show sstep _ (zs.getD (i + (p - i)) 0) = _
  rw [e2]
theorem at_step {zs : List Int} {i p : Nat} {s t : Int} (h : At zs i p s) (hp : p < zs.length) (ht : sstep s (zs.getD p 0) = t) (h0 : 0 ≤ t) : At zs i (p + 1) t := by
  obtain ⟨h1, h2, h3, h4⟩ := h
  have e : stt zs i (p + 1 - i) = t := by rw [stt_succ h1, h3, ht]
  refine ⟨by omega, .inr hp, e, fun k hk => ?_⟩
  by_cases hk' : k ≤ p - i
  · exact h4 k hk'
  · have : k = p + 1 - i := by omega
    rw [this, e]; exact h0
theorem end_one {zs : List Int} {i p q : Nat} {s t : Int} (h : End zs i p s) (k : End zs i q t) : ¬ p < q := by
  intro hlt
  obtain ⟨⟨h1, h2, h3, h4⟩, h5⟩ := h
  obtain ⟨⟨k1, k2, k3, k4⟩, k5⟩ := k
  have hq : q ≤ zs.length := by omega
  rcases h5 with h5 | h5
  · omega
  · have := k4 (p + 1 - i) (by omega)
    rw [stt_succ h1, h3] at this
    omega
theorem end_same {zs : List Int} {i p q : Nat} {s t : Int} (h : End zs i p s) (k : End zs i q t) : p = q ∧ s = t := by
  have e : p = q := by
    have := end_one h k
    have := end_one k h
    omega
  subst e
  exact ⟨rfl, by rw [← h.1.2.2.1, ← k.1.2.2.1]⟩

/-- A state that digits keep. -/
theorem at_digits {zs : List Int} {i : Nat} {s : Int} (hs : ∀ c, isd c = true → sstep s c = s) (h0 : 0 ≤ s) : ∀ (d p : Nat), zs.length - p ≤ d → At zs i p s → At zs i (dg zs p) s
  | 0, p, hd, h => by rw [dg_end (by omega)]; exact h
  | d + 1, p, hd, h => by
    by_cases hp : p < zs.length
    · cases hc : isd (zs.getD p 0)
      · rw [dg_stop hp hc]; exact h
      · rw [dg_step hp hc]
        exact at_digits hs h0 d (p + 1) (by omega) (at_step h hp (hs _ hc) h0)
    · rw [dg_end (by omega)]; exact h
/-- Behind digits stands no digit. -/
theorem dg_no (zs : List Int) : ∀ (d p : Nat), zs.length - p ≤ d → dg zs p < zs.length → isd (zs.getD (dg zs p) 0) = false
  | 0, p, hd, h => by rw [dg_end (by omega)] at h; omega
  | d + 1, p, hd, h => by
    by_cases hp : p < zs.length
    · cases hc : isd (zs.getD p 0)
      · rw [dg_stop hp hc]; exact hc
      · rw [dg_step hp hc] at h ⊢
        exact dg_no zs d (p + 1) (by omega) h
    · rw [dg_end (by omega)] at h; omega

/-! What scalarEnd computes -/
def dgb (zs : List Int) (i : Nat) : Bool := decide (i < zs.length) && isd (zs.getD i 0)
def expo (zs : List Int) (i : Nat) : Nat :=
  if atb zs i 101 || atb zs i 69 then
    let k := if atb zs (i + 1) 43 || atb zs (i + 1) 45 then i + 1 + 1 else i + 1
    if dgb zs k then dg zs k else min (k + 1) zs.length
  else i
def frac (zs : List Int) (i : Nat) : Nat :=
  if atb zs i 46 then (if dgb zs (i + 1) then expo zs (dg zs (i + 1)) else min (i + 1 + 1) zs.length) else expo zs i
def sgn (zs : List Int) (i : Nat) : Nat := if zs.getD i 0 = 45 then i + 1 else i
def num (zs : List Int) (i : Nat) : Nat :=
  if atb zs (sgn zs i) 48 then frac zs (sgn zs i + 1)
  else if dgb zs (sgn zs i) then frac zs (dg zs (sgn zs i)) else min (sgn zs i + 1) zs.length
/-- What literalEnd computes: l is still to be met from p on. -/
def lit (zs : List Int) : Nat → List Int → Nat
  | p, [] => p
  | p, c :: r => if p = zs.length then zs.length else if zs.getD p 0 = c then lit zs (p + 1) r else p + 1
def sce (zs : List Int) (i : Nat) : Nat :=
  if zs.getD i 0 = 116 then lit zs i [116, 114, 117, 101]
  else if zs.getD i 0 = 102 then lit zs i [102, 97, 108, 115, 101]
  else if zs.getD i 0 = 110 then lit zs i [110, 117, 108, 108]
  else num zs i

/-- What the model answers where the automaton stops at p in state s. -/
def res (zs : List Int) (p : Nat) (s : Int) : Nat := if zs.length ≤ p then zs.length else if sacc s then p else p + 1
/-- r is what the model answers. -/
def Ans (zs : List Int) (i r : Nat) : Prop := ∃ p s, End zs i p s ∧ p ≤ zs.length ∧ r = res zs p s

theorem res_no {zs : List Int} {p : Nat} {s : Int} (h : sacc s = false) : res zs p s = min (p + 1) zs.length := by
  unfold res
  rw [h]
  split
  · omega
  · simp; omega
theorem res_yes {zs : List Int} {p : Nat} {s : Int} (h : sacc s = true) (hp : p ≤ zs.length) : res zs p s = p := by
  unfold res
  rw [h]
  split
  · omega
  · rfl

theorem atb_yes {zs : List Int} {i : Nat} {c : Int} (h : atb zs i c = true) : i < zs.length ∧ zs.getD i 0 = c := by
  unfold atb at h
  rw [Bool.and_eq_true] at h
  exact ⟨of_decide_eq_true h.1, beq_iff_eq.1 h.2⟩
theorem atb_no {zs : List Int} {i : Nat} {c : Int} (h : atb zs i c = false) (hi : i < zs.length) : zs.getD i 0 ≠ c := by
  intro e
  unfold atb at h
  rw [decide_eq_true hi, e] at h
  simp at h
theorem dgb_yes {zs : List Int} {i : Nat} (h : dgb zs i = true) : i < zs.length ∧ isd (zs.getD i 0) = true := by
  unfold dgb at h
  rw [Bool.and_eq_true] at h
  exact ⟨of_decide_eq_true h.1, h.2⟩
theorem dgb_no {zs : List Int} {i : Nat} (h : dgb zs i = false) (hi : i < zs.length) : isd (zs.getD i 0) = false := by
  unfold dgb at h
  rw [decide_eq_true hi, Bool.true_and] at h
  exact h

theorem end_here {zs : List Int} {i p : Nat} {s : Int} (h : At zs i p s) (hn : p < zs.length → sstep s (zs.getD p 0) < 0) : End zs i p s := by
  refine ⟨h, ?_⟩
  by_cases e : p < zs.length
  · exact .inr (hn e)
  · exact .inl (by omega)
theorem ans_no {zs : List Int} {i p : Nat} {s : Int} (h : At zs i p s) (hp : p ≤ zs.length) (ha : sacc s = false) (hn : p < zs.length → sstep s (zs.getD p 0) < 0) : Ans zs i (min (p + 1) zs.length) :=
  ⟨p, s, end_here h hn, hp, (res_no ha).symm⟩
theorem ans_yes {zs : List Int} {i p : Nat} {s : Int} (h : At zs i p s) (hp : p ≤ zs.length) (ha : sacc s = true) (hn : p < zs.length → sstep s (zs.getD p 0) < 0) : Ans zs i p :=
  ⟨p, s, end_here h hn, hp, (res_yes ha hp).symm⟩

theorem n8 (c : Int) (h : isd c = true) : sstep 8 c = 8 := by simp [sstep, h]
theorem n8' (c : Int) (h : isd c = false) : sstep 8 c < 0 := by simp [sstep, h]
theorem n7 (c : Int) (h : isd c = true) : sstep 7 c = 8 := by simp [sstep, h]
theorem n7' (c : Int) (h : isd c = false) : sstep 7 c < 0 := by simp [sstep, h]
theorem n5 (c : Int) (h : isd c = true) : sstep 5 c = 5 := by simp [sstep, h]
theorem n3 (c : Int) (h : isd c = true) : sstep 3 c = 3 := by simp [sstep, h]
theorem n6 (c : Int) (h : isd c = true) : sstep 6 c = 8 := by
  have h1 : ¬ (c = 43 ∨ c = 45) := by
    rintro (rfl | rfl) <;> exact absurd h (by decide)
  simp [sstep, h, h1]
theorem q6 {c : Int} (h1 : c ≠ 43) (h2 : c ≠ 45) (h : isd c = false) : sstep 6 c < 0 := by simp [sstep, h, h1, h2]
theorem q67 {c : Int} (h : c = 43 ∨ c = 45) : sstep 6 c = 7 := by rcases h with rfl | rfl <;> decide
theorem q2 {c : Int} (h1 : c ≠ 46) (h2 : c ≠ 101) (h3 : c ≠ 69) : sstep 2 c < 0 := by simp [sstep, h1, h2, h3]
theorem q3 {c : Int} (h1 : c ≠ 46) (h2 : c ≠ 101) (h3 : c ≠ 69) (h : isd c = false) : sstep 3 c < 0 := by simp [sstep, h1, h2, h3, h]
theorem q4 {c : Int} (h : isd c = false) : sstep 4 c < 0 := by simp [sstep, h]
theorem q45 {c : Int} (h : isd c = true) : sstep 4 c = 5 := by simp [sstep, h]
theorem q5 {c : Int} (h2 : c ≠ 101) (h3 : c ≠ 69) (h : isd c = false) : sstep 5 c < 0 := by simp [sstep, h2, h3, h]
theorem q0 {c : Int} (h1 : c ≠ 45) (h2 : c ≠ 48) (h : isd c = false) (ht : c ≠ 116) (hf : c ≠ 102) (hn : c ≠ 110) : sstep 0 c < 0 := by simp [sstep, h1, h2, h, ht, hf, hn]
theorem q1 {c : Int} (h2 : c ≠ 48) (h : isd c = false) : sstep 1 c < 0 := by simp [sstep, h2, h]
theorem q03 {c : Int} (h1 : c ≠ 45) (h2 : c ≠ 48) (h : isd c = true) : sstep 0 c = 3 := by simp [sstep, h1, h2, h]
theorem q13 {c : Int} (h2 : c ≠ 48) (h : isd c = true) : sstep 1 c = 3 := by simp [sstep, h2, h]

/-- digits behind a state from which a digit leads to 8 -/
theorem exp_digits {zs : List Int} {i p : Nat} {s : Int} (hs : s = 6 ∨ s = 7) (h : At zs i p s) (hp : p ≤ zs.length) (hno : s = 6 → p < zs.length → zs.getD p 0 ≠ 43 ∧ zs.getD p 0 ≠ 45) : Ans zs i (if dgb zs p then dg zs p else min (p + 1) zs.length) := by
  cases hd : dgb zs p
  · refine ans_no h hp (by rcases hs with rfl | rfl <;> rfl) (fun hl => ?_)
    have hc := dgb_no hd hl
    rcases hs with rfl | rfl
    · obtain ⟨h1, h2⟩ := hno rfl hl
      exact q6 h1 h2 hc
    · exact n7' _ hc
  · obtain ⟨hl, hc⟩ := dgb_yes hd
    have h8 : At zs i (p + 1) 8 := at_step h hl (by rcases hs with rfl | rfl; exact n6 _ hc; exact n7 _ hc) (by decide)
    have h8' := at_digits n8 (by decide) _ _ (Nat.le_refl _) h8
    rw [if_pos rfl, dg_step hl hc]
    exact ans_yes h8' (dg_le _ (by omega)) rfl (fun hq => n8' _ (dg_no zs _ (p + 1) (Nat.le_refl _) hq))

theorem expo_ans {zs : List Int} {i p : Nat} {s : Int} (h : At zs i p s) (hpn : p ≤ zs.length) (hacc : sacc s = true) (hE : ∀ c, c = 101 ∨ c = 69 → sstep s c = 6) (hN : p < zs.length → zs.getD p 0 ≠ 101 → zs.getD p 0 ≠ 69 → sstep s (zs.getD p 0) < 0) : Ans zs i (expo zs p) := by
  unfold expo
  cases h1 : atb zs p 101 || atb zs p 69
  · rw [Bool.or_eq_false_iff] at h1
    exact ans_yes h hpn hacc (fun hp => hN hp (atb_no h1.1 hp) (atb_no h1.2 hp))
  · have hp : p < zs.length ∧ (zs.getD p 0 = 101 ∨ zs.getD p 0 = 69) := by
      rw [Bool.or_eq_true] at h1
      rcases h1 with h1 | h1
      · exact ⟨(atb_yes h1).1, .inl (atb_yes h1).2⟩
      · exact ⟨(atb_yes h1).1, .inr (atb_yes h1).2⟩
    have h6 : At zs i (p + 1) 6 := at_step h hp.1 (hE _ hp.2) (by decide)
    simp only [if_true]
    cases h2 : atb zs (p + 1) 43 || atb zs (p + 1) 45
    · rw [Bool.or_eq_false_iff] at h2
      simp only [Bool.false_eq_true, if_false]
      exact exp_digits (.inl rfl) h6 (by omega) (fun _ hq => ⟨atb_no h2.1 hq, atb_no h2.2 hq⟩)
    · have hq : p + 1 < zs.length ∧ (zs.getD (p + 1) 0 = 43 ∨ zs.getD (p + 1) 0 = 45) := by
        rw [Bool.or_eq_true] at h2
        rcases h2 with h2 | h2
        · exact ⟨(atb_yes h2).1, .inl (atb_yes h2).2⟩
        · exact ⟨(atb_yes h2).1, .inr (atb_yes h2).2⟩
      simp only [if_true]
      have h7 : At zs i (p + 1 + 1) 7 := at_step h6 hq.1 (q67 hq.2) (by decide)
      exact exp_digits (.inr rfl) h7 (by omega) (fun e => by cases e)

theorem frac_ans {zs : List Int} {i p : Nat} {s : Int} (hs : s = 2 ∨ s = 3) (h : At zs i p s) (hpn : p ≤ zs.length) (hd : s = 3 → p < zs.length → isd (zs.getD p 0) = false) : Ans zs i (frac zs p) := by
  unfold frac
  have hacc : sacc s = true := by rcases hs with rfl | rfl <;> rfl
  have hE : ∀ c, c = 101 ∨ c = 69 → sstep s c = 6 := by
    intro c hc
    rcases hs with rfl | rfl <;> rcases hc with rfl | rfl <;> decide
  cases h1 : atb zs p 46
  · simp only [Bool.false_eq_true, if_false]
    refine expo_ans h hpn hacc hE (fun hp h2 h3 => ?_)
    have h4 := atb_no h1 hp
    rcases hs with rfl | rfl
    · exact q2 h4 h2 h3
    · exact q3 h4 h2 h3 (hd rfl hp)
  · obtain ⟨hp, hc⟩ := atb_yes h1
    have h4 : At zs i (p + 1) 4 := at_step h hp (by rw [hc]; rcases hs with rfl | rfl <;> decide) (by decide)
    simp only [if_true]
    cases hdg : dgb zs (p + 1)
    · exact ans_no h4 (by omega) rfl (fun hq => q4 (dgb_no hdg hq))
    · obtain ⟨hq, hc2⟩ := dgb_yes hdg
      have h5 : At zs i (p + 1 + 1) 5 := at_step h4 hq (q45 hc2) (by decide)
      rw [if_pos rfl, dg_step hq hc2]
      refine expo_ans (at_digits n5 (by decide) _ _ (Nat.le_refl _) h5) (dg_le _ (by omega)) rfl (fun c hc => by rcases hc with rfl | rfl <;> decide) (fun hp' h2 h3 => ?_)
      exact q5 h2 h3 (dg_no zs _ (p + 1 + 1) (Nat.le_refl _) hp')

theorem num_ans (zs : List Int) (i : Nat) (hi : i < zs.length) (ht : zs.getD i 0 ≠ 116) (hf : zs.getD i 0 ≠ 102) (hn : zs.getD i 0 ≠ 110) : Ans zs i (num zs i) := by
  have hsg : (sgn zs i = i ∧ At zs i (sgn zs i) 0 ∧ zs.getD i 0 ≠ 45) ∨ (At zs i (sgn zs i) 1 ∧ sgn zs i = i + 1) := by
    unfold sgn
    by_cases h1 : zs.getD i 0 = 45
    · rw [if_pos h1]
      exact .inr ⟨at_step (at_start zs i) hi (by rw [h1]; decide) (by decide), rfl⟩
    · rw [if_neg h1]
      exact .inl ⟨rfl, at_start zs i, h1⟩
  unfold num
  generalize sgn zs i = p at *
  obtain ⟨s, hs, hA, hN, hpl⟩ : ∃ s : Int, (s = 0 ∨ s = 1) ∧ At zs i p s ∧ (s = 0 → zs.getD p 0 ≠ 45 ∧ zs.getD p 0 ≠ 116 ∧ zs.getD p 0 ≠ 102 ∧ zs.getD p 0 ≠ 110) ∧ p ≤ zs.length := by
    rcases hsg with ⟨e, h1, h2⟩ | ⟨h1, h2⟩
    · subst e; exact ⟨0, .inl rfl, h1, fun _ => ⟨h2, ht, hf, hn⟩, by omega⟩
    · exact ⟨1, .inr rfl, h1, fun e => (by cases e), by omega⟩
  cases h0 : atb zs p 48
  · simp only [Bool.false_eq_true, if_false]
    cases hdg : dgb zs p
    · refine ans_no hA hpl (by rcases hs with rfl | rfl <;> rfl) (fun hp => ?_)
      have hz := atb_no h0 hp
      have hc := dgb_no hdg hp
      rcases hs with rfl | rfl
      · obtain ⟨n1, n2, n3, n4⟩ := hN rfl
        exact q0 n1 hz hc n2 n3 n4
      · exact q1 hz hc
    · obtain ⟨hp, hc⟩ := dgb_yes hdg
      have hz := atb_no h0 hp
      have h3 : At zs i (p + 1) 3 := at_step hA hp (by
        rcases hs with rfl | rfl
        · exact q03 (hN rfl).1 hz hc
        · exact q13 hz hc) (by decide)
      rw [if_pos rfl, dg_step hp hc]
      exact frac_ans (.inr rfl) (at_digits n3 (by decide) _ _ (Nat.le_refl _) h3) (dg_le _ (by omega)) (fun _ hl => dg_no zs _ (p + 1) (Nat.le_refl _) hl)
  · obtain ⟨hp, hc⟩ := atb_yes h0
    simp only [if_true]
    exact frac_ans (.inl rfl) (at_step hA hp (by rw [hc]; rcases hs with rfl | rfl <;> decide) (by decide)) (by omega) (fun e => by cases e)

/-- the states of a word that is still to be met -/
def chain : Int → List Int → Prop
  | s, [] => s = 19
  | s, c :: r => sacc s = false ∧ 0 ≤ sstep s c ∧ (∀ d, d ≠ c → sstep s d < 0) ∧ chain (sstep s c) r

theorem lit_ans {zs : List Int} {i : Nat} : ∀ (l : List Int) (p : Nat) (s : Int), At zs i p s → p ≤ zs.length → chain s l → Ans zs i (lit zs p l)
  | [], p, s, h, hp, hc => by
    have e : s = 19 := hc
    subst e
    exact ans_yes h hp rfl (fun _ => by simp [sstep])
  | c :: r, p, s, h, hp, hc => by
    obtain ⟨h1, h2, h3, h4⟩ := hc
    unfold lit
    by_cases e : p = zs.length
    · rw [if_pos e]
      have := ans_no h hp h1 (fun hl => by omega)
      rw [show min (p + 1) zs.length = zs.length by omega] at this
      exact this
    · rw [if_neg e]
      by_cases ec : zs.getD p 0 = c
      · rw [if_pos ec]
        exact lit_ans r (p + 1) _ (at_step h (by omega) (by rw [ec]) h2) (by omega) h4
      · rw [if_neg ec]
        have := ans_no h hp h1 (fun _ => h3 _ ec)
        rw [show min (p + 1) zs.length = p + 1 by omega] at this
        exact this

theorem one9 (d : Int) (h : d ≠ 114) : sstep 9 d < 0 := by simp [sstep, h]
theorem one10 (d : Int) (h : d ≠ 117) : sstep 10 d < 0 := by simp [sstep, h]
theorem one11 (d : Int) (h : d ≠ 101) : sstep 11 d < 0 := by simp [sstep, h]
theorem one12 (d : Int) (h : d ≠ 97) : sstep 12 d < 0 := by simp [sstep, h]
theorem one13 (d : Int) (h : d ≠ 108) : sstep 13 d < 0 := by simp [sstep, h]
theorem one14 (d : Int) (h : d ≠ 115) : sstep 14 d < 0 := by simp [sstep, h]
theorem one15 (d : Int) (h : d ≠ 101) : sstep 15 d < 0 := by simp [sstep, h]
theorem one16 (d : Int) (h : d ≠ 117) : sstep 16 d < 0 := by simp [sstep, h]
theorem one17 (d : Int) (h : d ≠ 108) : sstep 17 d < 0 := by simp [sstep, h]
theorem one18 (d : Int) (h : d ≠ 108) : sstep 18 d < 0 := by simp [sstep, h]

theorem lit_first {zs : List Int} {i : Nat} {c : Int} {r : List Int} (hi : i < zs.length) (h : zs.getD i 0 = c) : lit zs i (c :: r) = lit zs (i + 1) r := by
  conv => lhs; unfold lit
  rw [if_neg (by omega), if_pos h]

theorem sce_ans (zs : List Int) (i : Nat) (hi : i < zs.length) : Ans zs i (sce zs i) := by
  unfold sce
  by_cases ht : zs.getD i 0 = 116
  · rw [if_pos ht, lit_first hi ht]
    exact lit_ans _ _ 9 (at_step (at_start zs i) hi (by rw [ht]; decide) (by decide)) (by omega) ⟨rfl, by decide, one9, rfl, by decide, one10, rfl, by decide, one11, rfl⟩
  rw [if_neg ht]
  by_cases hf : zs.getD i 0 = 102
  · rw [if_pos hf, lit_first hi hf]
    exact lit_ans _ _ 12 (at_step (at_start zs i) hi (by rw [hf]; decide) (by decide)) (by omega) ⟨rfl, by decide, one12, rfl, by decide, one13, rfl, by decide, one14, rfl, by decide, one15, rfl⟩
  rw [if_neg hf]
  by_cases hn : zs.getD i 0 = 110
  · rw [if_pos hn, lit_first hi hn]
    exact lit_ans _ _ 16 (at_step (at_start zs i) hi (by rw [hn]; decide) (by decide)) (by omega) ⟨rfl, by decide, one16, rfl, by decide, one17, rfl, by decide, one18, rfl⟩
  rw [if_neg hn]
  exact num_ans zs i hi ht hf hn

/-- What the model answers is what scalarEnd answers. -/
theorem same_ans {zs : List Int} {i p : Nat} {s : Int} (hi : i < zs.length) (h : End zs i p s) : res zs p s = sce zs i := by
  obtain ⟨q, t, h1, _, h2⟩ := sce_ans zs i hi
  obtain ⟨rfl, rfl⟩ := end_same h1 h
  exact h2.symm

end Go.Proofs.Qxb6603212a.Sc
