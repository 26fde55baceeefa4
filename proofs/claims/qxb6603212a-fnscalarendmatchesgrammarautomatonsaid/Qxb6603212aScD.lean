import Derived.Test.Qxb6603212aScC
import Derived.Deep.CutBlock
namespace Go.Proofs.Qxb6603212a.Sc
open Go.RowKit Go.Proofs.Qxb6603212a.Mem

theorem atb_in {zs : List Int} {i : Nat} {c : Int} (h : i < zs.length) : atb zs i c = (zs.getD i 0 == c) := by
  unfold atb; rw [decide_eq_true h, Bool.true_and]
theorem atb_out {zs : List Int} {i : Nat} {c : Int} (h : ¬ i < zs.length) : atb zs i c = false := by simp [atb]; omega
theorem dgb_in {zs : List Int} {i : Nat} (h : i < zs.length) : dgb zs i = isd (zs.getD i 0) := by
  unfold dgb; rw [decide_eq_true h, Bool.true_and]
theorem dgb_out {zs : List Int} {i : Nat} (h : ¬ i < zs.length) : dgb zs i = false := by simp [dgb]; omega

theorem _root_.Go.Proofs.Qxb6603212a.Mem.Rd.cellAt {w : World} {b off n : Nat} {zs : List Int} (h : Rd w (some ⟨b, off, none⟩) n zs) {k : Nat} (hk : k < n) : w.cell? ⟨b, off + k, none⟩ = some (.int .u8 (zs.getD k 0)) := by
  obtain ⟨b', off', e, _, hc⟩ := h.at hk
  cases e
  exact hc

set_option maxRecDepth 100000 in
set_option maxHeartbeats 1000000 in
theorem scalar_num (b off n cap : Nat) (zs : List Int) (i : Nat) (w : World) (h : Rd w (some ⟨b, off, none⟩) n zs) (hn : n ≤ 1048576) (hi : i < n) (c : Int) (hcd : c = zs.getD i 0) (ht : (c == 116) = false) (hf : (c == 102) = false) (hnn : (c == 110) = false) :
    Calls Try.prog 26 #[.slice (some ⟨b, off, none⟩) n cap, .int .i64 i] w fun e w' => Ret w w' (num zs i) e := by
  have Hlen : Hid (zs.length = n) := h.1
  have HR : Hid (Rd w (some ⟨b, off, none⟩) n zs) := h
  have hc : w.cell? ⟨b, off + i, none⟩ = some (.int .u8 c) := by
    rw [hcd]
    obtain ⟨b', off', e, _, hc⟩ := h.at hi
    cases e
    exact hc
  have Hc : Hid (c = zs.getD i 0) := hcd
  clear h hcd
  go_enter Try.func26, Try.ntmps26
  go_upto_if 30 with fail
  go_cut [5] (fun s5 wx => s5 = .int .i64 (sgn zs i) ∧ w = wx)
  case first =>
    cases hq : (c == 45)
    · have HS : Hid (sgn zs i = i) := by unfold sgn; rw [← Hc.out, if_neg (by simpa using hq)]; exact rfl
      go_wp2
      go_meet
      case rel => exact ⟨by rw [HS.out], rfl⟩
    · have HS : Hid (sgn zs i = i + 1) := by unfold sgn; rw [← Hc.out, if_pos (by simpa using hq)]; exact rfl
      go_wp2
      go_meet
      case rel => exact ⟨by rw [HS.out]; go_num, rfl⟩
  case rest =>
    obtain ⟨rfl, rfl⟩ := hcut
    obtain ⟨p, hp⟩ : ∃ p, p = sgn zs i := ⟨_, rfl⟩
    rw [← hp]
    have HP : Hid (p = sgn zs i) := hp
    have hpn : p ≤ n := by rw [hp]; unfold sgn; split <;> omega
    clear hp ht hf hnn hc Hc
    go_upto_block 1 with fail
    go_cut [5] (fun s5 wx => ∃ q : Nat, s5 = .int .i64 q ∧ w = wx ∧ q ≤ n ∧ num zs i = frac zs q)
    case first =>
      by_cases hlt : p < n
      · obtain ⟨d, hd⟩ : ∃ d, d = zs.getD p 0 := ⟨_, rfl⟩
        have hcd := HR.out.cellAt hlt
        rw [← hd] at hcd
        have HA : Hid (atb zs p 48 = (d == 48)) := by rw [hd]; exact atb_in (by rw [Hlen.out]; exact hlt)
        have HD : Hid (dgb zs p = isd d) := by rw [hd]; exact dgb_in (by rw [Hlen.out]; exact hlt)
        clear hd
        cases h48 : (d == 48)
        · cases hdi : isd d
          · have HN : Hid (num zs i = min (p + 1) n) := by unfold num; rw [← HP.out, HA.out, h48, HD.out, hdi, Hlen.out]; exact rfl
            go_wp2_with (go_at_call 32; refine (isDigit_any d _).mono ?_; rintro e w' ⟨rfl, rfl⟩)
            go_ret
            exact ⟨by rw [HN.out]; exact ret_int (by omega), 0, rfl⟩
          · have HN : Hid (num zs i = frac zs (dg zs p)) := by unfold num; rw [← HP.out, HA.out, h48, HD.out, hdi]; exact rfl
            have hle : dg zs p ≤ n := by have := dg_le (zs := zs) p (by rw [Hlen.out]; omega); rw [Hlen.out] at this; exact this
            go_wp2_with (go_at_call 32; refine (isDigit_any d _).mono ?_; rintro e w' ⟨rfl, rfl⟩)
            refine (digits_int _ _ _ zs _ p _ HR.out hn rfl).mono ?_
            rintro e w' ⟨rfl, rfl⟩
            go_wp2
            go_meet
            case rel => exact ⟨dg zs p, rfl, rfl, hle, HN.out⟩
        · have HN : Hid (num zs i = frac zs (p + 1)) := by unfold num; rw [← HP.out, HA.out, h48]; exact rfl
          go_wp2
          go_meet
          case rel => exact ⟨p + 1, by go_num, rfl, by omega, HN.out⟩
      · have HN : Hid (num zs i = min (p + 1) n) := by
          unfold num; rw [← HP.out, atb_out (by rw [Hlen.out]; exact hlt), dgb_out (by rw [Hlen.out]; exact hlt), Hlen.out]; exact rfl
        go_wp2
        go_ret
        exact ⟨by rw [HN.out]; exact ret_int (by omega), 0, rfl⟩
    case rest =>
      obtain ⟨q, rfl, rfl, hqn, hN⟩ := hcut
      have HN : Hid (num zs i = frac zs q) := hN
      clear hN HP hpn p
      go_upto_region 16 with fail
      go_cut [5, 77] (fun s5 s77 wx => s5 = .int .i64 q ∧ s77 = .bool (atb zs q 46) ∧ w = wx)
      case first =>
        by_cases hlt : q < n
        · have HA : Hid (atb zs q 46 = (zs.getD q 0 == 46)) := atb_in (by rw [Hlen.out]; exact hlt)
          obtain ⟨d, hd⟩ : ∃ d, d = zs.getD q 0 := ⟨_, rfl⟩
          have hcd := HR.out.cellAt hlt
          rw [← hd] at hcd HA
          clear hd
          go_wp2
          go_meet
          case rel => exact ⟨rfl, by rw [HA.out], rfl⟩
        · have HA : Hid (atb zs q 46 = false) := atb_out (by rw [Hlen.out]; exact hlt)
          go_wp2
          go_meet
          case rel => exact ⟨rfl, by rw [HA.out], rfl⟩
      case rest =>
        obtain ⟨rfl, rfl, rfl⟩ := hcut
        go_upto_if 77 with fail
        go_cut [5] (fun s5 wx => ∃ r : Nat, s5 = .int .i64 r ∧ w = wx ∧ r ≤ n ∧ num zs i = expo zs r)
        case first =>
          cases hA : atb zs q 46
          · have HM : Hid (num zs i = expo zs q) := by rw [HN.out]; unfold frac; rw [hA]; exact rfl
            go_wp2
            go_meet
            case rel => exact ⟨q, rfl, rfl, hqn, HM.out⟩
          · have hlt : q < n := by have := (atb_yes hA).1; rw [Hlen.out] at this; exact this
            by_cases hq1 : q + 1 < n
            · obtain ⟨d, hd⟩ : ∃ d, d = zs.getD (q + 1) 0 := ⟨_, rfl⟩
              have hcd := HR.out.cellAt hq1
              rw [← hd] at hcd
              have HD : Hid (dgb zs (q + 1) = isd d) := by rw [hd]; exact dgb_in (by rw [Hlen.out]; exact hq1)
              have bq : ((q : Int) + 1 == (n : Int)) = false := by rw [beq_eq_false_iff_ne]; omega
              clear hd
              cases hdi : isd d
              · have HM : Hid (num zs i = min (q + 1 + 1) n) := by rw [HN.out]; unfold frac; rw [hA, HD.out, hdi, Hlen.out]; exact rfl
                go_wp2_with (go_at_call 32; refine (isDigit_any d _).mono ?_; rintro e w' ⟨rfl, rfl⟩)
                go_ret
                exact ⟨by rw [HM.out]; exact ret_int (by omega), 0, rfl⟩
              · have HM : Hid (num zs i = expo zs (dg zs (q + 1))) := by rw [HN.out]; unfold frac; rw [hA, HD.out, hdi]; exact rfl
                have hle : dg zs (q + 1) ≤ n := by have := dg_le (zs := zs) (q + 1) (by rw [Hlen.out]; omega); rw [Hlen.out] at this; exact this
                go_wp2_with (go_at_call 32; refine (isDigit_any d _).mono ?_; rintro e w' ⟨rfl, rfl⟩)
                refine (digits_int _ _ _ zs _ (q + 1) _ HR.out hn (by omega)).mono ?_
                rintro e w' ⟨rfl, rfl⟩
                go_wp2
                go_meet
                case rel => exact ⟨dg zs (q + 1), rfl, rfl, hle, HM.out⟩
            · have HM : Hid (num zs i = min (q + 1 + 1) n) := by rw [HN.out]; unfold frac; rw [hA, dgb_out (by rw [Hlen.out]; exact hq1), Hlen.out]; exact rfl
              have bq : ((q : Int) + 1 == (n : Int)) = true := by rw [beq_iff_eq]; omega
              go_wp2
              go_ret
              exact ⟨by rw [HM.out]; exact ret_int (by omega), 0, rfl⟩
        case rest =>
          obtain ⟨r, rfl, rfl, hrn, hM⟩ := hcut
          have HM : Hid (num zs i = expo zs r) := hM
          clear hM HN hqn q
          go_upto_region 21 with fail
          go_cut [5, 117] (fun s5 s117 wx => s5 = .int .i64 r ∧ s117 = .bool (atb zs r 101 || atb zs r 69) ∧ w = wx)
          case first =>
            by_cases hlt : r < n
            · have HA : Hid (atb zs r 101 = (zs.getD r 0 == 101)) := atb_in (by rw [Hlen.out]; exact hlt)
              have HE : Hid (atb zs r 69 = (zs.getD r 0 == 69)) := atb_in (by rw [Hlen.out]; exact hlt)
              obtain ⟨d, hd⟩ : ∃ d, d = zs.getD r 0 := ⟨_, rfl⟩
              have hcd := HR.out.cellAt hlt
              rw [← hd] at hcd HA HE
              clear hd
              cases h1 : (d == 101)
              · go_wp2
                go_meet
                case rel => exact ⟨rfl, by rw [HA.out, HE.out, h1]; rfl, rfl⟩
              · go_wp2
                go_meet
                case rel => exact ⟨rfl, by rw [HA.out, HE.out, h1]; rfl, rfl⟩
            · have HA : Hid (atb zs r 101 = false) := atb_out (by rw [Hlen.out]; exact hlt)
              have HE : Hid (atb zs r 69 = false) := atb_out (by rw [Hlen.out]; exact hlt)
              go_wp2
              go_meet
              case rel => exact ⟨rfl, by rw [HA.out, HE.out]; rfl, rfl⟩
          case rest =>
            obtain ⟨rfl, rfl, rfl⟩ := hcut
            cases hE : (atb zs r 101 || atb zs r 69)
            · have HX : Hid (num zs i = r) := by rw [HM.out]; unfold expo; rw [hE]; exact rfl
              go_wp2
              go_ret
              exact ⟨by rw [HX.out]; rfl, 0, rfl⟩
            · have hlt : r < n := by
                rw [Bool.or_eq_true] at hE
                rcases hE with hE | hE
                · have := (atb_yes hE).1; rw [Hlen.out] at this; exact this
                · have := (atb_yes hE).1; rw [Hlen.out] at this; exact this
              go_upto_region 23 with fail
              go_cut [5, 137] (fun s5 s137 wx => s5 = .int .i64 ((r : Int) + 1) ∧ s137 = .bool (atb zs (r + 1) 43 || atb zs (r + 1) 45) ∧ w = wx)
              case first =>
                by_cases hlt1 : r + 1 < n
                · have HA : Hid (atb zs (r + 1) 43 = (zs.getD (r + 1) 0 == 43)) := atb_in (by rw [Hlen.out]; exact hlt1)
                  have HE : Hid (atb zs (r + 1) 45 = (zs.getD (r + 1) 0 == 45)) := atb_in (by rw [Hlen.out]; exact hlt1)
                  obtain ⟨d, hd⟩ : ∃ d, d = zs.getD (r + 1) 0 := ⟨_, rfl⟩
                  have hcd := HR.out.cellAt hlt1
                  rw [← hd] at hcd HA HE
                  clear hd
                  cases h1 : (d == 43)
                  · go_wp2
                    go_meet
                    case rel => exact ⟨rfl, by rw [HA.out, HE.out, h1]; rfl, rfl⟩
                  · go_wp2
                    go_meet
                    case rel => exact ⟨rfl, by rw [HA.out, HE.out, h1]; rfl, rfl⟩
                · have HA : Hid (atb zs (r + 1) 43 = false) := atb_out (by rw [Hlen.out]; exact hlt1)
                  have HE : Hid (atb zs (r + 1) 45 = false) := atb_out (by rw [Hlen.out]; exact hlt1)
                  go_wp2
                  go_meet
                  case rel => exact ⟨rfl, by rw [HA.out, HE.out]; rfl, rfl⟩
              case rest =>
                obtain ⟨rfl, rfl, rfl⟩ := hcut
                go_upto_if 137 with fail
                go_cut [5] (fun s5 wx => ∃ k : Nat, s5 = .int .i64 k ∧ w = wx ∧ k ≤ n ∧ num zs i = (if dgb zs k then dg zs k else min (k + 1) n))
                case first =>
                  cases hS : (atb zs (r + 1) 43 || atb zs (r + 1) 45)
                  · have HX : Hid (num zs i = (if dgb zs (r + 1) then dg zs (r + 1) else min (r + 1 + 1) n)) := by rw [HM.out]; unfold expo; rw [hE, hS, Hlen.out]; exact rfl
                    go_wp2
                    go_meet
                    case rel => exact ⟨r + 1, by go_num, rfl, by omega, HX.out⟩
                  · have HX : Hid (num zs i = (if dgb zs (r + 1 + 1) then dg zs (r + 1 + 1) else min (r + 1 + 1 + 1) n)) := by rw [HM.out]; unfold expo; rw [hE, hS, Hlen.out]; exact rfl
                    have hlt1 : r + 1 < n := by
                      rw [Bool.or_eq_true] at hS
                      rcases hS with hS | hS
                      · have := (atb_yes hS).1; rw [Hlen.out] at this; exact this
                      · have := (atb_yes hS).1; rw [Hlen.out] at this; exact this
                    go_wp2
                    go_meet
                    case rel => exact ⟨r + 1 + 1, by go_num, rfl, by omega, HX.out⟩
                case rest =>
                  obtain ⟨k, rfl, rfl, hkn, hX⟩ := hcut
                  have HX : Hid (num zs i = (if dgb zs k then dg zs k else min (k + 1) n)) := hX
                  clear hX HM hE hrn hlt r
                  by_cases hlt : k < n
                  · obtain ⟨d, hd⟩ : ∃ d, d = zs.getD k 0 := ⟨_, rfl⟩
                    have hcd := HR.out.cellAt hlt
                    rw [← hd] at hcd
                    have HD : Hid (dgb zs k = isd d) := by rw [hd]; exact dgb_in (by rw [Hlen.out]; exact hlt)
                    have bq : ((k : Int) == (n : Int)) = false := by rw [beq_eq_false_iff_ne]; omega
                    clear hd
                    cases hdi : isd d
                    · have HY : Hid (num zs i = min (k + 1) n) := by rw [HX.out, HD.out, hdi]; exact rfl
                      go_wp2_with (go_at_call 32; refine (isDigit_any d _).mono ?_; rintro e w' ⟨rfl, rfl⟩)
                      go_ret
                      exact ⟨by rw [HY.out]; exact ret_int (by omega), 0, rfl⟩
                    · have HY : Hid (num zs i = dg zs k) := by rw [HX.out, HD.out, hdi]; exact rfl
                      go_wp2_with (go_at_call 32; refine (isDigit_any d _).mono ?_; rintro e w' ⟨rfl, rfl⟩)
                      refine (digits_int _ _ _ zs _ k _ HR.out hn rfl).mono ?_
                      rintro e w' ⟨rfl, rfl⟩
                      go_wp2
                      go_ret
                      exact ⟨by rw [HY.out]; rfl, 0, rfl⟩
                  · have HY : Hid (num zs i = min (k + 1) n) := by rw [HX.out, dgb_out (by rw [Hlen.out]; exact hlt)]; exact rfl
                    have bq : ((k : Int) == (n : Int)) = true := by rw [beq_iff_eq]; omega
                    go_wp2
                    go_ret
                    exact ⟨by rw [HY.out]; exact ret_int (by omega), 0, rfl⟩
end Go.Proofs.Qxb6603212a.Sc
