import Derived.Test.Qxb6602793aCmpC
import Derived.Lib.Builder
namespace Go.Proofs.Qxb6602793a.Cmp
open Go.RowKit Go.Proofs.Qxb6602793a.Mem

set_option maxHeartbeats 400000 in
theorem compact_nil (w : World) : Calls Try.prog 13 #[.slice none 0 0] w fun e w' => e = .returned (.slice none 0 0) ∧ w = w' := by
  go_enter Try.func13, Try.ntmps13
  go_wp2
  refine wp_loop_rounds 1 ?_
  rw [rounds_succ]
  go_wp2
  refine wp_loop_rounds 1 ?_
  rw [rounds_succ]
  go_wp2
  go_ret
  exact ⟨rfl, rfl⟩

theorem getD_left {a b : List Int} {k : Nat} (h : k < a.length) : (a ++ b).getD k 0 = a.getD k 0 := by
  simp only [List.getD, List.getElem?_append_left h]

theorem getD_right {a b : List Int} {k : Nat} (h : a.length ≤ k) : (a ++ b).getD k 0 = b.getD (k - a.length) 0 := by
  simp only [List.getD, List.getElem?_append_right h]
theorem getD_rep {x : Int} {p k : Nat} (h : k < p) : (List.replicate p x).getD k 0 = x := by
  simp [List.getD, h]

theorem ptr_same (a : Addr) (w : World) : (binOp .neq 27 (.pointer (some a)) (.pointer (some a))).run Try.prog w = .ok (.bool false) w := by
  obtain ⟨i0, hi, hz0, hz1, hz2⟩ := info_parts info5
  exact Lib.run_neq_ptr_same w a Try.underlying27 hi

def Done (w w' : World) (e : Ending) : Prop := e = .returned (.bool true) ∧ Below w.heap.size w w'

set_option maxRecDepth 100000 in
set_option maxHeartbeats 1000000 in
theorem law3_nil (w : World) : Calls Try.prog 3 #[.slice none 0 0] w fun e w' => Done w w' e := by
  go_enter Try.func3, Try.ntmps3
  go_wp2_with (go_at_call 10; go_in)
  refine (clone_nil _).mono ?_
  rintro e w1 ⟨rfl, rfl⟩
  go_wp2_with fail
  refine (model_any none 0 0 [] _ ⟨rfl, .inl rfl⟩ (by omega)).mono ?_
  rintro e w2 ⟨hb, ⟨v, rfl⟩ | ⟨_, rfl, hrow⟩⟩
  · have HB : Hid (Below w1.heap.size w1 w2) := hb
    clear hb
    go_wp2_with fail
    go_ret
    exact ⟨rfl, HB.out⟩
  · have HB : Hid (Below w1.heap.size w1 w2) := hb
    clear hb hrow
    have eO : (O [] 0).length = 0 := rfl
    rw [eO]
    go_wp2_with fail
    refine (compact_nil _).mono ?_
    rintro e w3 ⟨rfl, rfl⟩
    go_wp2_with fail
    refine wp_loop_rounds 1 ?_
    rw [rounds_succ]
    go_wp2_with fail
    refine wp_loop_rounds 1 ?_
    rw [rounds_succ]
    go_wp2_with fail
    go_quiet (fail)
    go_wp2
    go_ret
    exact ⟨rfl, below_drewN HB.out _⟩

set_option maxRecDepth 100000 in
set_option maxHeartbeats 1000000 in
theorem law3_some (x : Addr) (n cap : Nat) (zs : List Int) (w : World) (h : Rd w (some x) n zs) : Calls Try.prog 3 #[.slice (some x) n cap] w fun e w' => Done w w' e := by
  have HR : Hid (Rd w (some x) n zs) := h
  clear h
  by_cases hn : n ≤ 1048576
  · go_enter Try.func3, Try.ntmps3
    go_wp2_with (go_at_call 10; go_in)
    refine (clone_some x n cap zs _ HR.out hn).mono ?_
    rintro e w1 ⟨rfl, hrow, hbel⟩
    obtain ⟨g, hg⟩ : ∃ g, g = w.heap.size := ⟨_, rfl⟩
    rw [← hg] at hrow ⊢
    have Hg : Hid (g = w.heap.size) := hg
    have Hrow : Hid (Row w1 g n n zs) := hrow
    have Hbel : Hid (Below w.heap.size w w1) := hbel
    clear hrow hbel hg
    go_wp2_with fail
    refine (model_any _ n n zs _ Hrow.out.rd hn).mono ?_
    rintro e w2 ⟨hb, ⟨v, rfl⟩ | ⟨hS, rfl, hrow2⟩⟩
    · have HB : Hid (Below w1.heap.size w1 w2) := hb
      clear hb
      go_wp2_with fail
      go_ret
      exact ⟨rfl, Hbel.out.trans (HB.out.mono Hbel.out.size)⟩
    · have HB : Hid (Below w.heap.size w w2) := Hbel.out.trans (hb.mono Hbel.out.size)
      obtain ⟨g2, hg2⟩ : ∃ g2, g2 = w1.heap.size := ⟨_, rfl⟩
      obtain ⟨o, ho⟩ : ∃ o, o = O zs n := ⟨_, rfl⟩
      obtain ⟨m, hm⟩ : ∃ m, m = (O zs n).length := ⟨_, rfl⟩
      have hmn := O_le zs n
      rw [← hm] at hmn
      rw [← hm, ← hg2] at hrow2 ⊢
      have hgg : g < g2 := by rw [hg2]; exact Hrow.out.lt
      have Hrow2 : Hid (Row w2 g2 m n (O zs n)) := hrow2
      have HrowV : Hid (Row w2 g n n zs) := Hrow.out.below hb (by rw [← hg2]; exact hgg)
      have HS : Hid (S zs n ≠ 2) := hS
      have Hm : Hid (m = (O zs n).length) := hm
      clear hb hrow2 hg2 ho o hm hS
      go_wp2_with fail
      refine (compact_any g n zs _ HrowV.out hn HS.out).mono ?_
      rintro e w3 ⟨rfl, hrow3, hgr3⟩
      rw [← Hm.out] at hrow3 ⊢
      have Hrow3 : Hid (Row w3 g n n (O zs n ++ List.replicate (n - m) 32)) := hrow3
      have Hwant : Hid (Row w3 g2 m n (O zs n)) := Hrow2.out.kept hgr3 (by simp; omega)
      have HB3 : Hid (Below w.heap.size w w3) := HB.out.grown hgr3 HB.out.size (fun k hk => by cases hk; rw [Hg.out]; exact Nat.le_refl _)
      clear hrow3 hgr3
      have hmm : ((m : Int) != (m : Int)) = false := by simp
      go_wp2_with fail
      go_loopw [6] (fun kv wr => ∃ k d : Nat, k ≤ m ∧ kv = .int .i64 k ∧ wr = w3.drewN d) (fun kv _ => m - (intOf kv).toNat)
      case atStart => exact ⟨0, 0, Nat.zero_le _, rfl, rfl⟩
      case round =>
        obtain ⟨k, d, hk, rfl, rfl⟩ := hrel
        by_cases hkm : k < m
        · obtain ⟨c, hc⟩ : ∃ c, c = (O zs n).getD k 0 := ⟨_, rfl⟩
          have hc1 : w3.cell? ⟨g, k, none⟩ = some (.int .u8 c) := by rw [Hrow3.out.cell (by omega), hc, getD_left (by rw [← Hm.out]; exact hkm)]
          have hc2 : w3.cell? ⟨g2, k, none⟩ = some (.int .u8 c) := by rw [Hwant.out.cell hkm, hc]
          have hcc : (c != c) = false := by simp
          have hkn : (k : Int) < (n : Int) := by omega
          have hkm' : (k : Int) < (m : Int) := by omega
          clear hc
          go_wp2_with fail
          go_quiet (fail)
          go_wp2
          go_roundw
          case rel => exact ⟨k + 1, _, by omega, by go_num, rfl⟩
          case measure => simp [intOf]; omega
        · have e : m = k := by omega
          subst e
          go_wp2_with fail
          go_loop [7] (fun kv => ∃ k : Nat, m ≤ k ∧ k ≤ n ∧ kv = .int .i64 k) (fun kv => n - (intOf kv).toNat)
          case atStart => exact ⟨m, Nat.le_refl _, hmn, rfl⟩
          case round =>
            obtain ⟨k, hmk, hkn, rfl⟩ := hrel
            by_cases hkl : k < n
            · have hc3 : w3.cell? ⟨g, k, none⟩ = some (.int .u8 32) := by
                rw [Hrow3.out.cell hkl, getD_right (by rw [← Hm.out]; exact hmk), getD_rep (by rw [← Hm.out]; omega)]
              go_wp2
              go_round
              case rel => exact ⟨k + 1, by omega, by omega, by go_num⟩
              case measure => simp [intOf]; omega
            · by_cases hm0 : 0 < m
              · have hd : decide ((0 : Int) < (m : Int)) = true := by simp; omega
                have hm1 : (0 : Int) < (m : Int) := by omega
                have hn1 : 0 < n := by omega
                have hptr := ptr_same
                go_wp2_with fail
                go_quiet (fail)
                go_wp2
                go_ret
                exact ⟨rfl, below_drewN (below_drewN HB3.out _) _⟩
              · have hd : decide ((0 : Int) < (m : Int)) = false := by simp; omega
                go_wp2_with fail
                go_quiet (fail)
                go_wp2
                go_ret
                exact ⟨rfl, below_drewN (below_drewN HB3.out _) _⟩
  · go_enter Try.func3, Try.ntmps3
    go_wp2_with (go_at_call 10; go_in)
    all_goals
      go_ret
      exact ⟨rfl, Below.refl _ _⟩
end Go.Proofs.Qxb6602793a.Cmp
