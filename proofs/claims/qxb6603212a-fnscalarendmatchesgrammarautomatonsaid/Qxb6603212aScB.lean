import Derived.Test.Qxb6603212aMemA
import Derived.Test.Qxb6603212aScA
import Derived.Deep.DeepCutAuto
namespace Go.Proofs.Qxb6603212a.Sc
open Go.RowKit Go.Proofs.Qxb6603212a.Mem

theorem ret_int {k : IntKind} {a b : Int} (h : a = b) : Ending.returned (.int k a) = .returned (.int k b) := by rw [h]

theorem isDigit_any (c : Int) (w : World) : Calls Try.prog 32 #[.int .u8 c] w fun e w' => e = .returned (.bool (isd c)) ∧ w = w' := by
  go_enter Try.func32, Try.ntmps32
  go_wp2
  all_goals
    go_ret
    refine ⟨?_, rfl⟩
    simp_all [isd] <;> omega
theorem lawDigit_any (c : Int) (w : World) : Calls Try.prog 34 #[.int .u8 c] w fun e w' => e = .returned (.bool (isd c)) ∧ w = w' := by
  go_enter Try.func34, Try.ntmps34
  go_wp2
  all_goals
    go_ret
    refine ⟨?_, rfl⟩
    simp_all [isd] <;> omega

theorem accepts_any (s : Int) (w : World) : Calls Try.prog 28 #[.int .i64 s] w fun e w' => e = .returned (.bool (sacc s)) ∧ w = w' := by
  go_enter Try.func28, Try.ntmps28
  go_wp2
  all_goals
    go_ret
    refine ⟨?_, rfl⟩
    simp_all [sacc]

set_option maxHeartbeats 400000 in
theorem digits_any (a : Option Addr) (n cap : Nat) (zs : List Int) (i : Nat) (w : World) (h : Rd w a n zs) (hn : n ≤ 1048576) :
    Calls Try.prog 33 #[.slice a n cap, .int .i64 i] w fun e w' => e = .returned (.int .i64 (dg zs i)) ∧ w = w' := by
  have Hlen : Hid (zs.length = n) := h.1
  have HR : Hid (Rd w a n zs) := h
  clear h
  go_enter Try.func33, Try.ntmps33
  go_wp2
  go_loop [1] (fun iv => ∃ k : Nat, iv = .int .i64 k ∧ dg zs i = dg zs k) (fun iv => n - (intOf iv).toNat)
  case atStart => exact ⟨i, rfl, rfl⟩
  case round =>
    obtain ⟨k, rfl, hk⟩ := hrel
    have Hk : Hid (dg zs i = dg zs k) := hk
    clear hk
    by_cases hkn : k < n
    · obtain ⟨b, off, rfl, hb, hc⟩ := HR.out.at hkn
      obtain ⟨d, hd⟩ : ∃ d, d = zs.getD k 0 := ⟨_, rfl⟩
      rw [← hd] at hc
      have Hd : Hid (d = zs.getD k 0) := hd
      clear hd
      cases hdi : isd d
      · go_wp2_with (go_at_call 32; refine (isDigit_any d _).mono ?_; rintro e w' ⟨rfl, rfl⟩)
        go_ret
        exact ⟨by rw [Hk.out, dg_stop (by rw [Hlen.out]; exact hkn) (by rw [← Hd.out]; exact hdi)]; rfl, rfl⟩
      · go_wp2_with (go_at_call 32; refine (isDigit_any d _).mono ?_; rintro e w' ⟨rfl, rfl⟩)
        go_round
        case rel => exact ⟨k + 1, by go_num, by rw [Hk.out, dg_step (by rw [Hlen.out]; exact hkn) (by rw [← Hd.out]; exact hdi)]⟩
        case measure => simp [intOf]; omega
    · go_wp2
      go_ret
      exact ⟨by rw [Hk.out, dg_end (by rw [Hlen.out]; omega)]; rfl, rfl⟩
theorem digits_int (a : Option Addr) (n cap : Nat) (zs : List Int) (x : Int) (i : Nat) (w : World) (h : Rd w a n zs) (hn : n ≤ 1048576) (hx : x = (i : Int)) :
    Calls Try.prog 33 #[.slice a n cap, .int .i64 x] w fun e w' => e = .returned (.int .i64 (dg zs i)) ∧ w = w' := by
  subst hx; exact digits_any a n cap zs i w h hn

set_option maxRecDepth 100000 in
set_option maxHeartbeats 2000000 in
theorem step_any (st c : Int) (w : World) (h0 : 0 ≤ st) (h19 : st ≤ 19) : Calls Try.prog 27 #[.int .i64 st, .int .u8 c] w fun e w' => e = .returned (.int .i64 (sstep st c)) ∧ w = w' := by
  rcases (show st = 0 ∨ st = 1 ∨ st = 2 ∨ st = 3 ∨ st = 4 ∨ st = 5 ∨ st = 6 ∨ st = 7 ∨ st = 8 ∨ st = 9 ∨ st = 10 ∨ st = 11 ∨ st = 12 ∨ st = 13 ∨ st = 14 ∨ st = 15 ∨ st = 16 ∨ st = 17 ∨ st = 18 ∨ st = 19 by omega) with rfl | rfl | rfl | rfl | rfl | rfl | rfl | rfl | rfl | rfl | rfl | rfl | rfl | rfl | rfl | rfl | rfl | rfl | rfl | rfl
  all_goals
    clear h0 h19
    cases hd : isd c
    all_goals
      go_enter Try.func27, Try.ntmps27
      go_wp2_with (go_at_call 34; refine (lawDigit_any c _).mono ?_; rintro e w' ⟨rfl, rfl⟩)
      all_goals
        go_ret
        refine ⟨ret_int ?_, rfl⟩
        first | (simp_all [sstep, isd]; done) | (simp_all [sstep, isd]; omega) | trace_state
end Go.Proofs.Qxb6603212a.Sc
