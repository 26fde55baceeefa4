import Derived.Test.Qxb6602793aNumB
namespace Go.Proofs.Qxb6602793a.Num
open Go.RowKit Go.Proofs.Qxb6602793a.Mem

theorem ret_int {k : IntKind} {a b : Int} (h : a = b) : Ending.returned (.int k a) = .returned (.int k b) := by rw [h]

set_option maxRecDepth 100000 in
set_option maxHeartbeats 1000000 in
theorem step_any (st c : Int) (w : World) (h0 : 0 ≤ st) (h8 : st ≤ 8) : Calls Try.prog 18 #[.int .i64 st, .int .u8 c] w fun e w' => e = .returned (.int .i64 (nstep st c)) ∧ w = w' := by
  rcases (show st = 0 ∨ st = 1 ∨ st = 2 ∨ st = 3 ∨ st = 4 ∨ st = 5 ∨ st = 6 ∨ st = 7 ∨ st = 8 by omega) with rfl | rfl | rfl | rfl | rfl | rfl | rfl | rfl | rfl
  all_goals
    clear h0 h8
    go_enter Try.func18, Try.ntmps18
    go_wp2
    all_goals
      go_ret
      refine ⟨ret_int ?_, rfl⟩
      simp_all [nstep, isd] <;> omega

theorem zzNumber_any (a : Option Addr) (n cap : Nat) (zs : List Int) (i : Nat) (w : World) (h : Rd w a n zs) (hn : n ≤ 1048576) (hi : i ≤ 9223372036854775807) :
    Calls Try.prog 19 #[.slice a n cap, .int .i64 i] w fun e w' => NumRet (num zs i) e ∧ w = w' := by
  have HR : Hid (Rd w a n zs) := h
  clear h
  go_enter Try.func19, Try.ntmps19
  go_wp2_with fail
  refine (number_any a n cap zs i _ HR.out hn hi).mono ?_
  rintro e w' ⟨hr, rfl⟩
  unfold NumRet at hr
  subst hr
  go_wp2
  go_ret2
  exact ⟨rfl, rfl⟩

/-- A copy, nil or not: what it reads as. -/
def Copied (w w' : World) (n : Nat) (zs : List Int) (e : Ending) : Prop :=
  ∃ a, e = .returned (.slice a n n) ∧ Rd w' a n zs ∧ Below w.heap.size w w'
theorem copy_any (a : Option Addr) (n cap : Nat) (zs : List Int) (w : World) (h : Rd w a n zs) (h0 : a = none → n = 0 ∧ cap = 0) (hn : n ≤ 1048576) :
    Calls Try.prog 11 #[.slice a n cap] w fun e w' => Copied w w' n zs e := by
  cases a with
  | none =>
    obtain ⟨rfl, rfl⟩ := h0 rfl
    refine (clone_nil w).mono ?_
    rintro e w' ⟨rfl, rfl⟩
    exact ⟨none, rfl, h, Below.refl _ _⟩
  | some x =>
    refine (clone_some x n cap zs w h hn).mono ?_
    rintro e w' ⟨rfl, hrow, hb⟩
    exact ⟨_, rfl, hrow.rd, hb⟩

theorem nstep_le (st c : Int) : nstep st c ≤ 8 := by
  unfold nstep
  repeat' split
  all_goals decide

theorem fin_eq {zs : List Int} {i p : Nat} {s : Int} (h : End zs i p s) : num zs i = (p, nacc s) := by
  obtain ⟨s', h1, h2⟩ := num_ans zs i
  obtain ⟨e1, e2⟩ := end_same h1 h
  subst e2
  exact Prod.ext e1 h2

def Done (w w' : World) (e : Ending) : Prop := e = .returned (.bool true) ∧ Below w.heap.size w w'

set_option maxRecDepth 100000 in
set_option maxHeartbeats 1000000 in
theorem law6 (a : Option Addr) (n cap : Nat) (zs : List Int) (x : Int) (w : World) (h : Rd w a n zs) (h0 : a = none → n = 0 ∧ cap = 0) (hx : x ≤ 9223372036854775807) :
    Calls Try.prog 6 #[.slice a n cap, .int .i64 x] w fun e w' => Done w w' e := by
  have HR : Hid (Rd w a n zs) := h
  have Hlen : Hid (zs.length = n) := h.1
  have H0 : Hid (a = none → n = 0 ∧ cap = 0) := h0
  clear h h0
  by_cases hn : n ≤ 1048576
  · by_cases hx0 : 0 ≤ x
    · obtain ⟨i, rfl⟩ := Int.eq_ofNat_of_zero_le hx0
      have hi : i ≤ 9223372036854775807 := by omega
      clear hx0 hx
      go_enter Try.func6, Try.ntmps6
      go_wp2_with (go_at_call 17; go_in)
      refine (copy_any a n cap zs _ HR.out H0.out hn).mono ?_
      rintro e w1 ⟨a1, rfl, hrd, hb⟩
      have HB : Hid (Below w.heap.size w w1) := hb
      have HR1 : Hid (Rd w1 a1 n zs) := hrd
      clear hb hrd
      go_wp2_with fail
      go_loop [5, 6] (fun sv pv => ∃ s : Int, ∃ p : Nat, sv = .int .i64 s ∧ pv = .int .i64 p ∧ p ≤ 9223372036854775807 ∧ 0 ≤ s ∧ s ≤ 8 ∧ At zs i p s) (fun _ pv => n - (intOf pv).toNat)
      case atStart => exact ⟨0, i, rfl, rfl, hi, by decide, by decide, at_start zs i⟩
      case round =>
        obtain ⟨s, p, rfl, rfl, hp, hs0, hs8, hat⟩ := hrel
        have HA : Hid (At zs i p s) := hat
        clear hat
        by_cases hpn : p < n
        · obtain ⟨b, off, rfl, hb, hc⟩ := HR1.out.at hpn
          obtain ⟨c, hcd⟩ : ∃ c, c = zs.getD p 0 := ⟨_, rfl⟩
          rw [← hcd] at hc
          obtain ⟨t, ht⟩ : ∃ t, t = nstep s c := ⟨_, rfl⟩
          have Ht : Hid (t = nstep s c) := ht
          have Hc : Hid (c = zs.getD p 0) := hcd
          have ht8 : t ≤ 8 := by rw [ht]; exact nstep_le s c
          clear ht hcd
          go_wp2_with fail
          refine (step_any s c _ hs0 hs8).mono ?_
          rintro e w' ⟨rfl, rfl⟩
          rw [← Ht.out]
          by_cases ht0 : t < 0
          · have HN : Hid (num zs i = (p, nacc s)) := fin_eq ⟨HA.out, .inr (by rw [← Hc.out, ← Ht.out]; exact ht0)⟩
            go_wp2_with fail
            refine (zzNumber_any _ n n zs i _ HR1.out hn hi).mono ?_
            rintro e w' ⟨hr, rfl⟩
            unfold NumRet at hr
            rw [HN.out] at hr
            subst hr
            have hpp : ((p : Int) == (p : Int)) = true := by simp
            go_wp2_with fail
            refine (accepts_any s _).mono ?_
            rintro e w' ⟨rfl, rfl⟩
            have hbb : (nacc s == nacc s) = true := by simp
            go_wp2
            go_ret
            exact ⟨rfl, HB.out⟩
          · have HA1 : Hid (At zs i (p + 1) t) := at_step HA.out (by rw [Hlen.out]; exact hpn) (by rw [← Hc.out]; exact Ht.out.symm) (by omega)
            go_wp2
            go_round
            case rel => exact ⟨t, p + 1, rfl, by go_num, by omega, by omega, ht8, HA1.out⟩
            case measure => simp [intOf]; omega
        · have HN : Hid (num zs i = (p, nacc s)) := fin_eq ⟨HA.out, .inl (by rw [Hlen.out]; omega)⟩
          go_wp2_with fail
          refine (zzNumber_any _ n n zs i _ HR1.out hn hi).mono ?_
          rintro e w' ⟨hr, rfl⟩
          unfold NumRet at hr
          rw [HN.out] at hr
          subst hr
          have hpp : ((p : Int) == (p : Int)) = true := by simp
          go_wp2_with fail
          refine (accepts_any s _).mono ?_
          rintro e w' ⟨rfl, rfl⟩
          have hbb : (nacc s == nacc s) = true := by simp
          go_wp2
          go_ret
          exact ⟨rfl, HB.out⟩
    · go_enter Try.func6, Try.ntmps6
      go_wp2_with (go_at_call 17; go_in)
      all_goals
        go_ret
        exact ⟨rfl, Below.refl _ _⟩
  · go_enter Try.func6, Try.ntmps6
    go_wp2_with (go_at_call 17; go_in)
    all_goals
      go_ret
      exact ⟨rfl, Below.refl _ _⟩
end Go.Proofs.Qxb6602793a.Num
