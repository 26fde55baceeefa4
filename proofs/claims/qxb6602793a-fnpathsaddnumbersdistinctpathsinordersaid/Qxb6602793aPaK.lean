import Derived.Test.Qxb6602793aPaJ
namespace Go.Proofs.Qxb6602793a.Pa
open Go.RowKit Go.Proofs.Qxb6602793a.Mem Go.WideMaps Go.Maps

/-! THE LAW's HELPERS -/

/-- A slice of n slices of bytes. -/
def ByteRows (w : World) (B : Nat) (a : Option Addr) (n : Nat) (A : Nat → Option Addr) (C : Nat → Nat) (us : Nat → List UInt8) : Prop :=
  (n = 0 ∨ ∃ b off, a = some ⟨b, off, none⟩ ∧ b < B ∧ ∀ k, k < n → w.cell? ⟨b, off + k, none⟩ = some (.slice (A k) (us k).length (C k))) ∧
  ∀ k, k < n → (A k = none → C k = 0) ∧ (us k).length ≤ C k ∧ PathIn w B (A k) (us k)

theorem PathIn.below {w w' : World} {B : Nat} {a : Option Addr} {us : List UInt8} (h : PathIn w B a us) (hb : Below B w w') : PathIn w' B a us := by
  rcases h with e | ⟨b, off, h1, h2, h3⟩
  · exact .inl e
  · exact .inr ⟨b, off, h1, h2, fun j x hx => (hb.cell (by exact h2)).trans (h3 j x hx)⟩
theorem PathIn.mono {w : World} {B B' : Nat} {a : Option Addr} {us : List UInt8} (h : PathIn w B a us) (hb : B ≤ B') : PathIn w B' a us := by
  rcases h with e | ⟨b, off, h1, h2, h3⟩
  · exact .inl e
  · exact .inr ⟨b, off, h1, by omega, h3⟩
theorem ByteRows.below {w w' : World} {B : Nat} {a : Option Addr} {n : Nat} {A : Nat → Option Addr} {C : Nat → Nat} {us : Nat → List UInt8} (h : ByteRows w B a n A C us) (hb : Below B w w') : ByteRows w' B a n A C us := by
  refine ⟨?_, fun k hk => ⟨(h.2 k hk).1, (h.2 k hk).2.1, (h.2 k hk).2.2.below hb⟩⟩
  rcases h.1 with e | ⟨b, off, h1, h2, h3⟩
  · exact .inl e
  · exact .inr ⟨b, off, h1, h2, fun k hk => (hb.cell (by exact h2)).trans (h3 k hk)⟩
theorem ByteRows.at {w : World} {B : Nat} {a : Option Addr} {n : Nat} {A : Nat → Option Addr} {C : Nat → Nat} {us : Nat → List UInt8} (h : ByteRows w B a n A C us) {k : Nat} (hk : k < n) :
    ∃ b off, a = some ⟨b, off, none⟩ ∧ b < B ∧ w.cell? ⟨b, off + k, none⟩ = some (.slice (A k) (us k).length (C k)) := by
  rcases h.1 with e | ⟨b, off, h1, h2, h3⟩
  · omega
  · exact ⟨b, off, h1, h2, h3 k hk⟩

def ZRet (w w' : World) (n : Nat) (us : Nat → List UInt8) (e : Ending) : Prop :=
  ∃ b, e = .returned (.bool b) ∧ w = w' ∧ (b = true → n ≤ 1048576 ∧ ∀ k, k < n → (us k).length ≤ 1048576)

set_option maxRecDepth 100000 in
set_option maxHeartbeats 400000 in
theorem zz_spec (a : Option Addr) (n cap : Nat) {w : World} {B : Nat} {A : Nat → Option Addr} {C : Nat → Nat} {us : Nat → List UInt8} (h : ByteRows w B a n A C us) :
    Calls Try.prog 23 #[.slice a n cap] w fun e w' => ZRet w w' n us e := by
  have HR : Hid (ByteRows w B a n A C us) := h
  clear h
  by_cases hn : n ≤ 1048576
  · go_enter Try.func23, Try.ntmps23
    go_wp2
    go_loop [3, 4] (fun zv iv => ∃ z k : Nat, z ≤ 1048576 ∧ k ≤ n ∧ zv = .int .i64 (z : Int) ∧ iv = .int .i64 (k : Int) ∧ ∀ j, j < k → (us j).length ≤ 1048576) (fun _ iv => n - (intOf iv).toNat)
    case atStart => exact ⟨n, 0, hn, Nat.zero_le _, rfl, rfl, (fun j hj => by omega)⟩
    case round =>
      obtain ⟨z, k, hz, hk, rfl, rfl, hall⟩ := hrel
      have HA : Hid (∀ j, j < k → (us j).length ≤ 1048576) := hall
      clear hall
      by_cases hlt : k < n
      · obtain ⟨b, off, rfl, hbB, hc⟩ := HR.out.at hlt
        obtain ⟨u, hu⟩ : ∃ u, u = (us k).length := ⟨_, rfl⟩
        rw [← hu] at hc
        have Hu : Hid (u = (us k).length) := hu
        clear hu
        by_cases hu1 : u ≤ 1048576
        · by_cases hu2 : z + u ≤ 1048576
          · go_wp2
            go_round
            case rel =>
              refine ⟨z + u, k + 1, hu2, by omega, by go_num, by go_num, fun j hj => ?_⟩
              by_cases e : j = k
              · subst e; rw [← Hu.out]; exact hu1
              · exact HA.out j (by omega)
            case measure => simp [intOf]; omega
          · go_wp2
            go_ret
            exact ⟨false, rfl, rfl, fun h => by cases h⟩
        · go_wp2
          go_ret
          exact ⟨false, rfl, rfl, fun h => by cases h⟩
      · have e : k = n := by omega
        subst e
        go_wp2
        go_ret
        exact ⟨true, rfl, rfl, fun _ => ⟨hn, HA.out⟩⟩
  · go_enter Try.func23, Try.ntmps23
    go_wp2
    go_ret
    exact ⟨false, rfl, rfl, fun h => by cases h⟩

/-- A slice of strings that is read. -/
def StrRd (w : World) (v : Value) (l : List Name) : Prop :=
  ∃ a cap, v = .slice a l.length cap ∧ (l = [] ∨ ∃ b, a = some ⟨b, 0, none⟩ ∧ ∀ j x, l[j]? = some x → w.cell? ⟨b, j, none⟩ = some (.string ⟨x.toArray⟩))

theorem strRd_of {w : World} {base : Nat} {v : Value} {l : List Name} (h : w.ownsRow base 9 1 v l.length (strs l)) : StrRd w v l := by
  rcases h.2 with ⟨rfl, h0⟩ | ⟨g, cap, cur, rfl, hb, hg, hrest⟩
  · have e : l = [] := List.length_eq_zero_iff.1 h0
    subst e
    exact ⟨none, 0, rfl, .inl rfl⟩
  · refine ⟨_, _, rfl, .inr ⟨g, rfl, fun j x hx => ?_⟩⟩
    have hlt : j < l.length := (List.getElem?_eq_some_iff.1 hx).1
    rw [World.ownsRow.cellAt h j (by omega)]
    simp [strs, hx]

def SRet (w w' : World) (b : Bool) (e : Ending) : Prop := e = .returned (.bool b) ∧ ∃ m, w' = w.drewN m

set_option maxRecDepth 100000 in
set_option maxHeartbeats 400000 in
theorem same_spec {w : World} {v1 v2 : Value} {l1 l2 : List Name} (h1 : StrRd w v1 l1) (h2 : StrRd w v2 l2) (hn : l1.length ≤ 1048576) :
    Calls Try.prog 26 #[v1, v2] w fun e w' => e = .returned (.bool (decide (l1 = l2))) ∧ ∃ m, w' = w.drewN m := by
  obtain ⟨a1, c1, rfl, r1⟩ := h1
  obtain ⟨a2, c2, rfl, r2⟩ := h2
  obtain ⟨n, hnn⟩ : ∃ n, n = l1.length := ⟨_, rfl⟩
  obtain ⟨n2, hn2⟩ : ∃ n2, n2 = l2.length := ⟨_, rfl⟩
  obtain ⟨bb, hbb⟩ : ∃ bb, bb = decide (l1 = l2) := ⟨_, rfl⟩
  rw [← hnn, ← hn2, ← hbb]
  rw [← hnn] at hn
  have Hn : Hid (n = l1.length) := hnn
  have Hn2 : Hid (n2 = l2.length) := hn2
  have Hbb : Hid (bb = decide (l1 = l2)) := hbb
  have H1 : Hid (l1 = [] ∨ ∃ b, a1 = some ⟨b, 0, none⟩ ∧ ∀ j x, l1[j]? = some x → w.cell? ⟨b, j, none⟩ = some (.string ⟨x.toArray⟩)) := r1
  have H2 : Hid (l2 = [] ∨ ∃ b, a2 = some ⟨b, 0, none⟩ ∧ ∀ j x, l2[j]? = some x → w.cell? ⟨b, j, none⟩ = some (.string ⟨x.toArray⟩)) := r2
  clear r1 r2 hnn hn2 hbb
  by_cases he : n = n2
  · subst he
    have hnn' : ((n : Int) != (n : Int)) = false := by simp
    go_enter Try.func26, Try.ntmps26
    go_wp2
    go_loopw [5] (fun kv wr => ∃ k d : Nat, k ≤ n ∧ kv = .int .i64 (k : Int) ∧ wr = w.drewN d ∧ l1.take k = l2.take k) (fun kv _ => n - (intOf kv).toNat)
    case atStart => exact ⟨0, 0, Nat.zero_le _, rfl, rfl, rfl⟩
    case round =>
      obtain ⟨k, d, hk, rfl, rfl, heq⟩ := hrel
      have Heq : Hid (l1.take k = l2.take k) := heq
      clear heq
      by_cases hlt : k < n
      · have hk1 : k < l1.length := by rw [← Hn.out]; exact hlt
        have hk2 : k < l2.length := by rw [← Hn2.out]; exact hlt
        obtain ⟨x, hx⟩ : ∃ x, l1[k]? = some x := ⟨_, List.getElem?_eq_getElem hk1⟩
        obtain ⟨y, hy⟩ : ∃ y, l2[k]? = some y := ⟨_, List.getElem?_eq_getElem hk2⟩
        rcases H1.out with e | ⟨b1, rfl, q1⟩
        · rw [e] at hk1; simp at hk1
        rcases H2.out with e | ⟨b2, rfl, q2⟩
        · rw [e] at hk2; simp at hk2
        have p1 := q1 k x hx
        have p2 := q2 k y hy
        have Hx : Hid (l1[k]? = some x) := hx
        have Hy : Hid (l2[k]? = some y) := hy
        have hkn : (k : Int) < (n : Int) := by omega
        clear q1 q2 hx hy hk1 hk2
        by_cases hxy : x = y
        · subst hxy
          go_wp2
          go_quiet (fail)
          go_wp2
          go_roundw
          case rel => exact ⟨k + 1, _, by omega, by go_num, rfl, by rw [take_succ_get Hx.out, take_succ_get Hy.out, Heq.out]⟩
          case measure => simp [intOf]; omega
        · have hne : (x != y) = true := by simpa using hxy
          have hne2 : (x == y) = false := by simpa using hxy
          have hb : bb = false := by
            rw [Hbb.out]
            refine decide_eq_false (fun e => hxy ?_)
            have := Hx.out
            rw [e, Hy.out] at this
            exact (Option.some.inj this).symm
          subst hb
          clear hxy
          go_wp2
          go_quiet (fail)
          go_wp2
          go_ret
          exact ⟨rfl, d + nq, by rw [World.drewN_drewN]⟩
      · have hb : bb = true := by
          rw [Hbb.out]
          refine decide_eq_true ?_
          have := Heq.out
          rw [List.take_of_length_le (by have := Hn.out; omega), List.take_of_length_le (by have := Hn2.out; omega)] at this
          exact this
        subst hb
        go_wp2
        go_ret
        exact ⟨rfl, _, rfl⟩
  · have hb : bb = false := by
      rw [Hbb.out]
      refine decide_eq_false (fun e => he ?_)
      rw [Hn.out, Hn2.out, e]
    subst hb
    have hne : ((n : Int) != (n2 : Int)) = true := by simp; omega
    go_enter Try.func26, Try.ntmps26
    go_wp2
    go_ret
    exact ⟨rfl, 0, rfl⟩
end Go.Proofs.Qxb6602793a.Pa
