namespace Go.Proofs.Qxb6602793a.Pa

/-! THE PLAIN PART: how a Path writes its names. No Go in sight. -/

/-- The value of a header: seven bits a byte, the least first. -/
def hvl : List UInt8 → Nat
  | [] => 0
  | c :: r => c.toNat % 128 + 128 * hvl r
/-- A header: up to three bytes from 128 on, then one below. -/
def Hdr (h : List UInt8) : Prop := ∃ a c, h = a ++ [c] ∧ (∀ x ∈ a, 128 ≤ x.toNat) ∧ c.toNat < 128 ∧ a.length ≤ 3

/-- A name with its header. -/
abbrev Item := List UInt8 × List UInt8
def OKI (p : Item) : Prop := Hdr p.1 ∧ p.2.length = hvl p.1
def OKL (l : List Item) : Prop := ∀ p ∈ l, OKI p
def flat : List Item → List UInt8
  | [] => []
  | p :: r => p.1 ++ (p.2 ++ flat r)
def names (l : List Item) : List (List UInt8) := l.map (·.2)

theorem flat_append : ∀ a b : List Item, flat (a ++ b) = flat a ++ flat b
  | [], b => rfl
  | p :: r, b => by simp [flat, flat_append r b]
theorem names_append (a b : List Item) : names (a ++ b) = names a ++ names b := by simp [names]
theorem hdr_pos {h : List UInt8} (hh : Hdr h) : 0 < h.length := by
  obtain ⟨a, c, rfl, _⟩ := hh
  simp
theorem hdr_len {h : List UInt8} (hh : Hdr h) : h.length ≤ 4 := by
  obtain ⟨a, c, rfl, _, _, hl⟩ := hh
  simp; omega

theorem hvl_append : ∀ (a b : List UInt8), hvl (a ++ b) = hvl a + 128 ^ a.length * hvl b
  | [], b => by simp [hvl]
  | c :: r, b => by
    simp only [List.cons_append, hvl, hvl_append r b, List.length_cons, Nat.pow_succ]
    rw [Nat.mul_add, ← Nat.mul_assoc, Nat.mul_comm 128 (128 ^ r.length)]
    omega
theorem hvl_lt : ∀ a : List UInt8, hvl a < 128 ^ a.length
  | [] => by simp [hvl]
  | c :: r => by
    have := hvl_lt r
    simp only [hvl, List.length_cons, Nat.pow_succ]
    have h2 : c.toNat % 128 < 128 := Nat.mod_lt _ (by decide)
    omega

end Go.Proofs.Qxb6602793a.Pa
