import Derived.Test.Qxb6602641aNnpD
namespace Go.Proofs.Qxb6602641a.Nnp
open Go.RowKit

theorem build_any (a0 a1 : Option Addr) (l0 c0 l1 c1 : Nat) (ss : List ByteArray) (zs : List Int) (w : World) (h0 : RdS w a0 l0 ss) (h1 : RdI w a1 l1 zs) (hn0 : a0 = none → l0 = 0 ∧ c0 = 0) (hl0 : l0 ≤ 65536) (hl1 : l1 ≤ 65536) :
    Calls Try.prog 16 #[.slice a0 l0 c0, .slice a1 l1 c1] w fun e w' => Built w w' e := by
  cases a0 with
  | none => obtain ⟨rfl, rfl⟩ := hn0 rfl; exact build_nil a1 l1 c1 w
  | some x => exact build_some x a1 l0 c0 l1 c1 ss zs w h0 h1 hl0 hl1

def Done (w w' : World) (e : Ending) : Prop := e = .returned (.bool true) ∧ Below w.heap.size w w'

/-- What the law's own loop has seen of the beginnings of s that are longer than k. -/
def Seen (V : ByteArray → Int) (K : ByteArray → Bool) (s : ByteArray) (r : Int) (k : Nat) (a m : Bool) : Prop :=
  ∀ j, k < j → j < s.size → K (s.extract 0 j) = true → a = true ∧ (r = V (s.extract 0 j) → m = true)
theorem seen_miss {V : ByteArray → Int} {K : ByteArray → Bool} {s : ByteArray} {r : Int} {k : Nat} {a m : Bool} (hK : K (s.extract 0 k) = false) (h : Seen V K s r k a m) : Seen V K s r (k - 1) a m := by
  intro j h1 h2 h3
  by_cases e : j = k
  · subst e; rw [hK] at h3; cases h3
  · exact h j (by omega) h2 h3
theorem seen_other {V : ByteArray → Int} {K : ByteArray → Bool} {s : ByteArray} {r : Int} {k : Nat} {a m : Bool} (hv : (V (s.extract 0 k) == r) = false) (h : Seen V K s r k a m) : Seen V K s r (k - 1) true m := by
  intro j h1 h2 h3
  refine ⟨rfl, fun h4 => ?_⟩
  by_cases e : j = k
  · subst e; rw [h4] at hv; simp at hv
  · exact (h j (by omega) h2 h3).2 h4
theorem seen_end {V : ByteArray → Int} {K : ByteArray → Bool} {s : ByteArray} {r : Int} {k : Nat} {a m : Bool} (hk : ¬ 1 ≤ k) (h : Seen V K s r k a m)
    (hf : r = 0 ∨ ∃ k, 1 ≤ k ∧ k < s.size ∧ K (s.extract 0 k) = true ∧ r = V (s.extract 0 k)) : (a = false → (r == 0) = true) ∧ ((r == 0) = false → m = true) := by
  rcases hf with hf | ⟨j, h1, h2, h3, h4⟩
  · subst hf; exact ⟨fun _ => rfl, fun h => by cases h⟩
  · obtain ⟨e1, e2⟩ := h j (by omega) h2 h3
    exact ⟨fun e => (by rw [e1] at e; cases e), fun _ => e2 h4⟩

set_option maxHeartbeats 400000 in
theorem law_walk (a0 a1 : Option Addr) (l0 c0 l1 c1 : Nat) (ss : List ByteArray) (zs : List Int) (s : ByteArray) (w : World) (h0 : RdS w a0 l0 ss) (h1 : RdI w a1 l1 zs) (hn0 : a0 = none → l0 = 0 ∧ c0 = 0) (hl0 : l0 ≤ maxLen) (_hl1 : l1 ≤ maxLen) (_hs : s.size ≤ maxLen) :
    Calls Try.prog 6 #[.slice a0 l0 c0, .slice a1 l1 c1, .string s] w fun e w' => Done w w' e := by
  have H0 : Hid (RdS w a0 l0 ss) := h0
  have H1 : Hid (RdI w a1 l1 zs) := h1
  have HN : Hid (a0 = none → l0 = 0 ∧ c0 = 0) := hn0
  have HL : Hid (l0 ≤ maxLen) := hl0
  clear h0 h1 hn0 hl0 _hl1 _hs
  go_enter Try.func6, Try.ntmps6
  go_wp2_with fail
  refine (zzBytes_any a0 a1 l0 c0 l1 c1 s ss _ H0.out HL.out).mono ?_
  rintro e w' ⟨⟨b, rfl, -⟩, rfl⟩
  cases b
  · go_wp2_with fail
    go_ret
    exact ⟨rfl, Below.refl _ _⟩
  go_wp2_with fail
  all_goals try (go_ret; exact ⟨rfl, Below.refl _ _⟩)
  have hb0 : l0 ≤ 65536 := by omega
  have hb1 : l1 ≤ 65536 := by omega
  have hss : s.size ≤ 4096 := by omega
  refine (zzLinesBytes_any a0 a1 l0 c0 l1 c1 ss _ H0.out HL.out).mono ?_
  rintro e w' ⟨⟨x, rfl, -⟩, rfl⟩
  go_wp2_with fail
  · go_ret
    exact ⟨rfl, Below.refl _ _⟩
  refine (wellBracketed_any s _ hss).mono ?_
  rintro e w' ⟨⟨b, rfl, hwb⟩, rfl⟩
  cases b
  · go_wp2_with fail
    go_ret
    exact ⟨rfl, Below.refl _ _⟩
  have HW : Hid (WB s) := hwb rfl
  clear hwb
  go_wp2_with fail
  refine (build_any a0 a1 l0 c0 l1 c1 ss zs _ H0.out H1.out HN.out hb0 hb1).mono ?_
  rintro e w1 ⟨m, V, K, rfl, hL, hbel⟩
  have HLook : Hid (Look w1 m V K) := hL
  have HB : Hid (Below w'.heap.size w' w1) := hbel
  clear hL hbel
  go_wp2_with fail
  refine (zzLineOf_any m V K s _ hss HW.out HLook.out).mono ?_
  rintro e w2 ⟨⟨r, rfl, hr⟩, rfl⟩
  have HR : Hid (LinePost V K s r) := hr
  clear hr
  have hlook := HLook.out s hss
  by_cases hz : s.size = 0
  · have he := isEmpty_of s hz
    have hr0 : r = 0 := HR.out.1 hz
    subst hr0
    clear hz
    go_wp2
    go_ret
    exact ⟨rfl, HB.out⟩
  have he := notEmpty_of s hz
  cases hK : K s
  · have HF : Hid (r = 0 ∨ ∃ k, 1 ≤ k ∧ k < s.size ∧ K (s.extract 0 k) = true ∧ r = V (s.extract 0 k)) := HR.out.2.2 hK
    go_wp2
    go_loop [11, 12, 13] (fun ak mt i => ∃ k : Nat, ∃ a m : Bool, k < s.size ∧ i = .int .i64 k ∧ ak = .bool a ∧ mt = .bool m ∧ Seen V K s r k a m) (fun _ _ i => (intOf i).toNat)
    case atStart => exact ⟨s.size - 1, false, false, by omega, by go_num, rfl, rfl, fun j h1 h2 => by omega⟩
    case round =>
      obtain ⟨k, a, mt, hk, rfl, rfl, rfl, hseen⟩ := hrel
      have HS : Hid (Seen V K s r k a mt) := hseen
      clear hseen hlook
      by_cases hk1 : 1 ≤ k
      · have hl2 := HLook.out (s.extract 0 k) (by simp [ByteArray.size_extract]; omega)
        cases hKk : K (s.extract 0 k)
        · go_wp2
          go_round
          case rel => exact ⟨k - 1, a, mt, by omega, by go_num, rfl, rfl, seen_miss hKk HS.out⟩
          case measure => simp [intOf]; omega
        · cases hvr : (V (s.extract 0 k) == r)
          · go_wp2
            go_round
            case rel => exact ⟨k - 1, true, mt, by omega, by go_num, rfl, rfl, seen_other hvr HS.out⟩
            case measure => simp [intOf]; omega
          · go_wp2
            go_round
            case rel => exact ⟨k - 1, true, true, by omega, by go_num, rfl, rfl, fun _ _ _ _ => ⟨rfl, fun _ => rfl⟩⟩
            case measure => simp [intOf]; omega
      · obtain ⟨f1, f2⟩ := seen_end hk1 HS.out HF.out
        cases a
        · have f3 := f1 rfl
          clear f1 f2
          go_wp2
          go_ret
          exact ⟨rfl, HB.out⟩
        · cases h0 : (r == 0)
          · have f3 := f2 h0
            subst f3
            clear f1 f2
            go_wp2
            go_ret
            exact ⟨rfl, HB.out⟩
          · clear f1 f2
            go_wp2
            go_ret
            exact ⟨rfl, HB.out⟩
  · have hv : r = V s := HR.out.2.1 (by omega) hK
    have hvb : (r == V s) = true := by simp [hv]
    clear hv
    go_wp2
    go_ret
    exact ⟨rfl, HB.out⟩
end Go.Proofs.Qxb6602641a.Nnp
