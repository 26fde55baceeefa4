import Derived.Test.Qxb6602793aMemA
import Derived.Test.Qxb6602793aNumA
import Derived.Deep.DeepCutAuto
namespace Go.Proofs.Qxb6602793a.Num
open Go.RowKit Go.Proofs.Qxb6602793a.Mem

theorem isDigit_any (c : Int) (w : World) : Calls Try.prog 37 #[.int .u8 c] w fun e w' => e = .returned (.bool (isd c)) ∧ w = w' := by
  go_enter Try.func37, Try.ntmps37
  go_wp2
  all_goals
    go_ret
    refine ⟨?_, rfl⟩
    simp_all [isd] <;> omega

theorem accepts_any (s : Int) (w : World) : Calls Try.prog 20 #[.int .i64 s] w fun e w' => e = .returned (.bool (nacc s)) ∧ w = w' := by
  go_enter Try.func20, Try.ntmps20
  go_wp2
  all_goals
    go_ret
    refine ⟨?_, rfl⟩
    simp_all [nacc]

theorem atb_out {zs : List Int} {i : Nat} {c : Int} (h : ¬ i < zs.length) : atb zs i c = false := by simp [atb]; omega
theorem atb_in {zs : List Int} {i : Nat} {c : Int} (h : i < zs.length) : atb zs i c = (zs.getD i 0 == c) := by
  unfold atb; rw [decide_eq_true h, Bool.true_and]

set_option maxHeartbeats 400000 in
theorem at_any (a : Option Addr) (n cap : Nat) (zs : List Int) (i : Nat) (c : Int) (w : World) (h : Rd w a n zs) :
    Calls Try.prog 35 #[.slice a n cap, .int .i64 i, .int .u8 c] w fun e w' => e = .returned (.bool (atb zs i c)) ∧ w = w' := by
  by_cases hin : i < n
  · have HA : Hid (atb zs i c = (zs.getD i 0 == c)) := atb_in (by rw [h.1]; exact hin)
    obtain ⟨b, off, rfl, hb, hc⟩ := h.at hin
    obtain ⟨d, hd⟩ : ∃ d, d = zs.getD i 0 := ⟨_, rfl⟩
    rw [← hd] at hc HA
    clear hd h
    go_enter Try.func35, Try.ntmps35
    go_wp2
    go_ret
    exact ⟨by rw [HA.out]; rfl, rfl⟩
  · have HA : Hid (atb zs i c = false) := atb_out (by rw [h.1]; exact hin)
    clear h
    go_enter Try.func35, Try.ntmps35
    go_wp2
    go_ret
    exact ⟨by rw [HA.out]; rfl, rfl⟩

set_option maxHeartbeats 400000 in
theorem digits_any (a : Option Addr) (n cap : Nat) (zs : List Int) (i : Nat) (w : World) (h : Rd w a n zs) (hn : n ≤ 1048576) :
    Calls Try.prog 36 #[.slice a n cap, .int .i64 i] w fun e w' => e = .returned (.int .i64 (dg zs i)) ∧ w = w' := by
  have Hlen : Hid (zs.length = n) := h.1
  have HR : Hid (Rd w a n zs) := h
  clear h
  go_enter Try.func36, Try.ntmps36
  go_wp2
  go_loop [1] (fun iv => ∃ k : Nat, iv = .int .i64 k ∧ dg zs i = dg zs k) (fun iv => n - (intOf iv).toNat)
  case atStart => exact ⟨i, rfl, rfl⟩
  case round =>
    obtain ⟨k, rfl, hk⟩ := hrel
    have Hk : Hid (dg zs i = dg zs k) := hk
    clear hk
    by_cases hkn : k < n
    · obtain ⟨b, off, rfl, hb, hc⟩ := HR.out.at hkn
      obtain ⟨d, hd⟩ : ∃ d, d = zs.getD k 0 := ⟨_, rfl⟩
      rw [← hd] at hc
      have Hd : Hid (d = zs.getD k 0) := hd
      clear hd
      cases hdi : isd d
      · go_wp2_with (go_at_call 37; refine (isDigit_any d _).mono ?_; rintro e w' ⟨rfl, rfl⟩)
        go_ret
        exact ⟨by rw [Hk.out, dg_stop (by rw [Hlen.out]; exact hkn) (by rw [← Hd.out]; exact hdi)]; rfl, rfl⟩
      · go_wp2_with (go_at_call 37; refine (isDigit_any d _).mono ?_; rintro e w' ⟨rfl, rfl⟩)
        go_round
        case rel => exact ⟨k + 1, by go_num, by rw [Hk.out, dg_step (by rw [Hlen.out]; exact hkn) (by rw [← Hd.out]; exact hdi)]⟩
        case measure => simp [intOf]; omega
    · go_wp2
      go_ret
      exact ⟨by rw [Hk.out, dg_end (by rw [Hlen.out]; omega)]; rfl, rfl⟩

theorem at_int (a : Option Addr) (n cap : Nat) (zs : List Int) (x : Int) (i : Nat) (c : Int) (w : World) (h : Rd w a n zs) (hx : x = (i : Int)) :
    Calls Try.prog 35 #[.slice a n cap, .int .i64 x, .int .u8 c] w fun e w' => e = .returned (.bool (atb zs i c)) ∧ w = w' := by
  subst hx; exact at_any a n cap zs i c w h
theorem digits_int (a : Option Addr) (n cap : Nat) (zs : List Int) (x : Int) (i : Nat) (w : World) (h : Rd w a n zs) (hn : n ≤ 1048576) (hx : x = (i : Int)) :
    Calls Try.prog 36 #[.slice a n cap, .int .i64 x] w fun e w' => e = .returned (.int .i64 (dg zs i)) ∧ w = w' := by
  subst hx; exact digits_any a n cap zs i w h hn

theorem ret_pair {d : Nat} {x y : Int} {b : Bool} (h : b = true ↔ x < y) : Ending.returned (.tuple #[.int .i64 d, .bool (decide (x < y))]) = .returned (.tuple #[.int .i64 d, .bool b]) := by
  have e : decide (x < y) = b := by
    cases b
    · exact decide_eq_false (fun h' => by have := h.2 h'; cases this)
    · exact decide_eq_true (h.1 rfl)
  rw [e]
def NumRet (r : Nat × Bool) (e : Ending) : Prop := e = .returned (.tuple #[.int .i64 r.1, .bool r.2])

theorem sgn_le (zs : List Int) (i n : Nat) {p : Nat} (Hlen : Hid (zs.length = n)) (hn : n ≤ 1048576) (hi : i ≤ 9223372036854775807) (hp : p = sgn zs i) : p ≤ 9223372036854775807 := by
  subst hp
  unfold sgn
  have hl := Hlen.out
  cases hA : atb zs i 45
  · exact hi
  · have := (atb_yes hA).1
    show i + 1 ≤ _
    omega
theorem dg_lt_le {zs : List Int} {n p : Nat} (Hlen : Hid (zs.length = n)) (h : p < dg zs p) : dg zs p ≤ n := by
  have hl := Hlen.out
  by_cases e : p ≤ zs.length
  · have := dg_le p e; omega
  · rw [dg_end (by omega)] at h; omega

set_option maxRecDepth 100000 in
set_option maxHeartbeats 1000000 in
theorem number_any (a : Option Addr) (n cap : Nat) (zs : List Int) (i : Nat) (w : World) (h : Rd w a n zs) (hn : n ≤ 1048576) (hi : i ≤ 9223372036854775807) :
    Calls Try.prog 28 #[.slice a n cap, .int .i64 i] w fun e w' => NumRet (num zs i) e ∧ w = w' := by
  have Hlen : Hid (zs.length = n) := h.1
  have HR : Hid (Rd w a n zs) := h
  clear h
  go_enter Try.func28, Try.ntmps28
  go_upto_if 11 with (go_at_call 35; refine (at_int _ _ _ zs _ i _ _ HR.out rfl).mono ?_; rintro e w' ⟨rfl, rfl⟩)
  go_cut [1] (fun s1 wx => s1 = .int .i64 (sgn zs i) ∧ w = wx)
  case first =>
    cases hA : atb zs i 45
    · have HS : Hid (sgn zs i = i) := by unfold sgn; rw [hA]; rfl
      go_wp2
      go_meet
      case rel => exact ⟨by rw [HS.out], rfl⟩
    · have HS : Hid (sgn zs i = i + 1) := by unfold sgn; rw [hA]; rfl
      have hlt : i < n := by have := (atb_yes hA).1; rw [Hlen.out] at this; exact this
      go_wp2
      go_meet
      case rel => exact ⟨by rw [HS.out]; go_num, rfl⟩
  case rest =>
    obtain ⟨rfl, rfl⟩ := hcut
    obtain ⟨p, hp⟩ : ∃ p, p = sgn zs i := ⟨_, rfl⟩
    rw [← hp]
    have HP : Hid (p = sgn zs i) := hp
    have hpb : p ≤ 9223372036854775807 := sgn_le zs i n Hlen hn hi hp
    clear hp
    go_upto_if 16 with (go_at_call 35; refine (at_int _ _ _ zs _ p _ _ HR.out rfl).mono ?_; rintro e w' ⟨rfl, rfl⟩)
    go_cut [1] (fun s1 wx => ∃ q : Nat, s1 = .int .i64 q ∧ w = wx ∧ q ≤ n ∧ num zs i = frac zs q)
    case first =>
      cases hA : atb zs p 48
      · by_cases hd : p < dg zs p
        · have HN : Hid (num zs i = frac zs (dg zs p)) := by unfold num; rw [← HP.out, hA, if_neg (by decide), if_pos hd]; exact rfl
          have hdn : dg zs p ≤ n := dg_lt_le Hlen hd
          obtain ⟨q, hq⟩ : ∃ q, q = dg zs p := ⟨_, rfl⟩
          rw [← hq] at hd hdn
          have Hq : Hid (q = dg zs p) := hq
          clear hq
          go_wp2_with fail
          refine (digits_int _ _ _ zs _ p _ HR.out hn rfl).mono ?_
          rintro e w' ⟨rfl, rfl⟩
          rw [← Hq.out]
          go_wp2
          go_meet
          case rel => exact ⟨q, rfl, rfl, hdn, by rw [Hq.out]; exact HN.out⟩
        · have HN : Hid (num zs i = (p, false)) := by unfold num; rw [← HP.out, hA, if_neg (by decide), if_neg hd]; exact rfl
          obtain ⟨q, hq⟩ : ∃ q, q = dg zs p := ⟨_, rfl⟩
          rw [← hq] at hd
          have Hq : Hid (q = dg zs p) := hq
          clear hq
          go_wp2_with fail
          refine (digits_int _ _ _ zs _ p _ HR.out hn rfl).mono ?_
          rintro e w' ⟨rfl, rfl⟩
          rw [← Hq.out]
          go_wp2
          go_ret2
          exact ⟨by unfold NumRet; rw [HN.out]; rfl, rfl⟩
      · have hlt : p < n := by have := (atb_yes hA).1; rw [Hlen.out] at this; exact this
        have HN : Hid (num zs i = frac zs (p + 1)) := by unfold num; rw [← HP.out, hA, if_pos rfl]; exact rfl
        go_wp2
        go_meet
        case rel => exact ⟨p + 1, by go_num, rfl, by omega, HN.out⟩
    case rest =>
      obtain ⟨q, rfl, rfl, hqn, hN⟩ := hcut
      have HN : Hid (num zs i = frac zs q) := hN
      clear hN HP hpb p
      go_upto_if 29 with (go_at_call 35; refine (at_int _ _ _ zs _ q _ _ HR.out rfl).mono ?_; rintro e w' ⟨rfl, rfl⟩)
      go_cut [1] (fun s1 wx => ∃ r : Nat, s1 = .int .i64 r ∧ w = wx ∧ r ≤ n ∧ num zs i = expo zs r)
      case first =>
        cases hA : atb zs q 46
        · have HM : Hid (num zs i = expo zs q) := by rw [HN.out]; unfold frac; rw [hA]; rfl
          go_wp2
          go_meet
          case rel => exact ⟨q, rfl, rfl, hqn, HM.out⟩
        · have hlt : q < n := by have := (atb_yes hA).1; rw [Hlen.out] at this; exact this
          have hge := dg_ge zs (q + 1)
          have hle : dg zs (q + 1) ≤ n := by have := dg_le (zs := zs) (q + 1) (by rw [Hlen.out]; omega); rw [Hlen.out] at this; exact this
          obtain ⟨r, hr⟩ : ∃ r, r = dg zs (q + 1) := ⟨_, rfl⟩
          rw [← hr] at hge hle
          have Hr : Hid (r = dg zs (q + 1)) := hr
          clear hr
          by_cases hd : r = q + 1
          · have HM : Hid (num zs i = (q + 1, false)) := by rw [HN.out]; unfold frac; rw [hA, if_pos rfl, ← Hr.out, if_pos hd]; exact rfl
            subst hd
            go_wp2_with fail
            refine (digits_int _ _ _ zs _ (q + 1) _ HR.out hn (by omega)).mono ?_
            rintro e w' ⟨rfl, rfl⟩
            rw [← Hr.out]
            have hb : (((q + 1 : Nat) : Int) == (q : Int) + 1) = true := by simp
            go_wp2
            go_ret2
            exact ⟨by unfold NumRet; rw [HM.out]; rfl, rfl⟩
          · have HM : Hid (num zs i = expo zs r) := by rw [HN.out]; unfold frac; rw [hA, if_pos rfl, ← Hr.out, if_neg hd]; exact rfl
            go_wp2_with fail
            refine (digits_int _ _ _ zs _ (q + 1) _ HR.out hn (by omega)).mono ?_
            rintro e w' ⟨rfl, rfl⟩
            rw [← Hr.out]
            have hb : ((r : Int) == (q : Int) + 1) = false := by rw [beq_eq_false_iff_ne]; omega
            go_wp2
            go_meet
            case rel => exact ⟨r, rfl, rfl, hle, HM.out⟩
      case rest =>
        obtain ⟨r, rfl, rfl, hrn, hM⟩ := hcut
        have HM : Hid (num zs i = expo zs r) := hM
        clear hM HN hqn q
        have hcase : (atb zs r 101 = false ∧ atb zs r 69 = false ∧ Hid (num zs i = (r, true))) ∨
            ((atb zs r 101 = true ∨ (atb zs r 101 = false ∧ atb zs r 69 = true)) ∧ r < n ∧ Hid (num zs i = (let k := if atb zs (r + 1) 43 || atb zs (r + 1) 45 then r + 1 + 1 else r + 1; (dg zs k, decide (k < dg zs k))))) := by
          cases h1 : atb zs r 101
          · cases h2 : atb zs r 69
            · exact .inl ⟨rfl, rfl, by rw [HM.out]; unfold expo; rw [h1, h2]; exact rfl⟩
            · refine .inr ⟨.inr ⟨rfl, rfl⟩, by have := (atb_yes h2).1; rw [Hlen.out] at this; exact this, ?_⟩
              rw [HM.out]; unfold expo; rw [h1, h2]; exact rfl
          · refine .inr ⟨.inl rfl, by have := (atb_yes h1).1; rw [Hlen.out] at this; exact this, ?_⟩
            rw [HM.out]; unfold expo; rw [h1]; exact rfl
        rcases hcase with ⟨h1, h2, HN⟩ | ⟨h1, hlt, HN⟩
        · go_wp2_with fail
          refine (at_int _ _ _ zs _ r _ _ HR.out rfl).mono ?_
          rintro e w' ⟨rfl, rfl⟩
          go_wp2_with fail
          refine (at_int _ _ _ zs _ r _ _ HR.out rfl).mono ?_
          rintro e w' ⟨rfl, rfl⟩
          go_wp2
          go_ret2
          exact ⟨by unfold NumRet; rw [HN.out]; rfl, rfl⟩
        · go_upto_region 14 with fail
          go_cut [1, 47] (fun s1 s47 wx => s1 = .int .i64 r ∧ s47 = .bool true ∧ w = wx)
          case first =>
            rcases h1 with h1 | ⟨h1, h2⟩
            · go_wp2_with fail
              refine (at_int _ _ _ zs _ r _ _ HR.out rfl).mono ?_
              rintro e w' ⟨rfl, rfl⟩
              go_wp2
              go_meet
              case rel => exact ⟨rfl, rfl, rfl⟩
            · go_wp2_with fail
              refine (at_int _ _ _ zs _ r _ _ HR.out rfl).mono ?_
              rintro e w' ⟨rfl, rfl⟩
              go_wp2_with fail
              refine (at_int _ _ _ zs _ r _ _ HR.out rfl).mono ?_
              rintro e w' ⟨rfl, rfl⟩
              go_wp2
              go_meet
              case rel => exact ⟨rfl, rfl, rfl⟩
          case rest =>
            obtain ⟨rfl, rfl, rfl⟩ := hcut
            go_upto_region 16 with fail
            go_cut [1, 57] (fun s1 s57 wx => s1 = .int .i64 ((r : Int) + 1) ∧ s57 = .bool (atb zs (r + 1) 43 || atb zs (r + 1) 45) ∧ w = wx)
            case first =>
              cases h3 : atb zs (r + 1) 43
              · go_wp2_with fail
                refine (at_int _ _ _ zs _ (r + 1) _ _ HR.out (by omega)).mono ?_
                rintro e w' ⟨rfl, rfl⟩
                go_wp2_with fail
                refine (at_int _ _ _ zs _ (r + 1) _ _ HR.out (by omega)).mono ?_
                rintro e w' ⟨rfl, rfl⟩
                go_wp2
                go_meet
                case rel => exact ⟨rfl, by rw [h3]; rfl, rfl⟩
              · go_wp2_with fail
                refine (at_int _ _ _ zs _ (r + 1) _ _ HR.out (by omega)).mono ?_
                rintro e w' ⟨rfl, rfl⟩
                go_wp2
                go_meet
                case rel => exact ⟨rfl, by rw [h3]; rfl, rfl⟩
            case rest =>
              obtain ⟨rfl, rfl, rfl⟩ := hcut
              clear h1
              obtain ⟨b, hb⟩ : ∃ b, b = (atb zs (r + 1) 43 || atb zs (r + 1) 45) := ⟨_, rfl⟩
              rw [← hb] at HN ⊢
              clear hb
              obtain ⟨k, hk, hkn⟩ : ∃ k : Nat, k = (if b then r + 1 + 1 else r + 1) ∧ k ≤ r + 2 := by cases b <;> exact ⟨_, rfl, by simp⟩
              obtain ⟨d, hd⟩ : ∃ d, d = dg zs k := ⟨_, rfl⟩
              have HN2 : Hid (num zs i = (d, decide (k < d))) := by rw [HN.out, ← hk, hd]; exact rfl
              have Hd : Hid (d = dg zs k) := hd
              clear HN hd
              cases b
              · simp only [Bool.false_eq_true, if_false] at hk
                subst hk
                go_wp2_with fail
                refine (digits_int _ _ _ zs _ (r + 1) _ HR.out hn (by omega)).mono ?_
                rintro e w' ⟨rfl, rfl⟩
                rw [← Hd.out]
                go_wp2
                go_ret2
                exact ⟨by unfold NumRet; rw [HN2.out]; exact ret_pair (by rw [decide_eq_true_iff]; omega), rfl⟩
              · simp only [if_true] at hk
                subst hk
                go_wp2_with fail
                refine (digits_int _ _ _ zs _ (r + 1 + 1) _ HR.out hn (by omega)).mono ?_
                rintro e w' ⟨rfl, rfl⟩
                rw [← Hd.out]
                go_wp2
                go_ret2
                exact ⟨by unfold NumRet; rw [HN2.out]; exact ret_pair (by rw [decide_eq_true_iff]; omega), rfl⟩
end Go.Proofs.Qxb6602793a.Num
