import Derived.Test.Qxb6603212aScD
namespace Go.Proofs.Qxb6603212a.Sc
open Go.RowKit Go.Proofs.Qxb6603212a.Mem

set_option maxRecDepth 100000 in
set_option maxHeartbeats 1000000 in
theorem scalar_any (b off n cap : Nat) (zs : List Int) (i : Nat) (w : World) (h : Rd w (some ⟨b, off, none⟩) n zs) (hn : n ≤ 1048576) (hi : i < n) :
    Calls Try.prog 26 #[.slice (some ⟨b, off, none⟩) n cap, .int .i64 i] w fun e w' => Ret w w' (sce zs i) e := by
  have hc := h.cellAt hi
  obtain ⟨c, hcd⟩ : ∃ c, c = zs.getD i 0 := ⟨_, rfl⟩
  rw [← hcd] at hc
  have HR : Hid (Rd w (some ⟨b, off, none⟩) n zs) := h
  cases ht : (c == 116)
  · cases hf : (c == 102)
    · cases hnn : (c == 110)
      · have e : sce zs i = num zs i := by
          unfold sce
          rw [← hcd, if_neg (by simpa using ht), if_neg (by simpa using hf), if_neg (by simpa using hnn)]
        rw [e]
        exact scalar_num b off n cap zs i w h hn hi c hcd ht hf hnn
      · have HS : Hid (sce zs i = lit zs i (ints ⟨#[110, 117, 108, 108]⟩)) := by
          unfold sce
          rw [← hcd, if_neg (by simpa using ht), if_neg (by simpa using hf), if_pos (by simpa using hnn)]; exact rfl
        clear h hcd
        go_enter Try.func26, Try.ntmps26
        go_wp2_with fail
        refine (literal_any _ n cap zs i ⟨#[110, 117, 108, 108]⟩ _ HR.out hn (by omega) (by decide)).mono ?_
        rintro e w' ⟨rfl, d, rfl⟩
        go_wp2
        go_ret
        exact ⟨by rw [HS.out]; rfl, d, rfl⟩
    · have HS : Hid (sce zs i = lit zs i (ints ⟨#[102, 97, 108, 115, 101]⟩)) := by
        unfold sce
        rw [← hcd, if_neg (by simpa using ht), if_pos (by simpa using hf)]; exact rfl
      clear h hcd
      go_enter Try.func26, Try.ntmps26
      go_wp2_with fail
      refine (literal_any _ n cap zs i ⟨#[102, 97, 108, 115, 101]⟩ _ HR.out hn (by omega) (by decide)).mono ?_
      rintro e w' ⟨rfl, d, rfl⟩
      go_wp2
      go_ret
      exact ⟨by rw [HS.out]; rfl, d, rfl⟩
  · have HS : Hid (sce zs i = lit zs i (ints ⟨#[116, 114, 117, 101]⟩)) := by
      unfold sce
      rw [← hcd, if_pos (by simpa using ht)]; exact rfl
    clear h hcd
    go_enter Try.func26, Try.ntmps26
    go_wp2_with fail
    refine (literal_any _ n cap zs i ⟨#[116, 114, 117, 101]⟩ _ HR.out hn (by omega) (by decide)).mono ?_
    rintro e w' ⟨rfl, d, rfl⟩
    go_wp2
    go_ret
    exact ⟨by rw [HS.out]; rfl, d, rfl⟩

set_option maxHeartbeats 400000 in
theorem zzScalar_any (b off n cap : Nat) (zs : List Int) (i : Nat) (w : World) (h : Rd w (some ⟨b, off, none⟩) n zs) (hn : n ≤ 1048576) (hi : i < n) :
    Calls Try.prog 12 #[.slice (some ⟨b, off, none⟩) n cap, .int .i64 i] w fun e w' => Ret w w' (sce zs i) e := by
  have HR : Hid (Rd w (some ⟨b, off, none⟩) n zs) := h
  clear h
  go_enter Try.func12, Try.ntmps12
  go_wp2_with fail
  refine (scalar_any b off n cap zs i _ HR.out hn hi).mono ?_
  rintro e w' ⟨rfl, d, rfl⟩
  go_wp2
  go_ret
  exact ⟨rfl, d, rfl⟩

theorem ite_le19 {p : Prop} [Decidable p] {a b : Int} (h1 : a ≤ 19) (h2 : b ≤ 19) : (if p then a else b) ≤ 19 := by
  split
  · exact h1
  · exact h2
theorem sstep_le (st c : Int) : sstep st c ≤ 19 := by
  unfold sstep
  repeat' (refine ite_le19 ?_ ?_)
  all_goals decide

set_option maxRecDepth 100000 in
set_option maxHeartbeats 1000000 in
theorem model_any (b off n cap : Nat) (zs : List Int) (i : Nat) (w : World) (h : Rd w (some ⟨b, off, none⟩) n zs) (hn : n ≤ 1048576) (hi : i < n) :
    Calls Try.prog 13 #[.slice (some ⟨b, off, none⟩) n cap, .int .i64 i] w fun e w' => e = .returned (.int .i64 (sce zs i)) ∧ w = w' := by
  have HR : Hid (Rd w (some ⟨b, off, none⟩) n zs) := h
  have Hlen : Hid (zs.length = n) := h.1
  clear h
  go_enter Try.func13, Try.ntmps13
  go_wp2
  go_loop [5, 6] (fun sv pv => ∃ s : Int, ∃ p : Nat, sv = .int .i64 s ∧ pv = .int .i64 p ∧ p ≤ n ∧ 0 ≤ s ∧ s ≤ 19 ∧ At zs i p s) (fun _ pv => n - (intOf pv).toNat)
  case atStart => exact ⟨0, i, rfl, rfl, by omega, by decide, by decide, at_start zs i⟩
  case round =>
    obtain ⟨s, p, rfl, rfl, hp, hs0, hs19, hat⟩ := hrel
    have HA : Hid (At zs i p s) := hat
    clear hat
    by_cases hpn : p < n
    · have hc := HR.out.cellAt hpn
      obtain ⟨c, hcd⟩ : ∃ c, c = zs.getD p 0 := ⟨_, rfl⟩
      rw [← hcd] at hc
      obtain ⟨t, ht⟩ : ∃ t, t = sstep s c := ⟨_, rfl⟩
      have Ht : Hid (t = sstep s c) := ht
      have Hc : Hid (c = zs.getD p 0) := hcd
      have ht19 : t ≤ 19 := by rw [ht]; exact sstep_le s c
      clear ht hcd
      go_wp2_with fail
      refine (step_any s c _ hs0 hs19).mono ?_
      rintro e w' ⟨rfl, rfl⟩
      rw [← Ht.out]
      by_cases ht0 : t < 0
      · have HN : Hid (sce zs i = if sacc s then p else p + 1) := by
          have := same_ans (by rw [Hlen.out]; exact hi) ⟨HA.out, .inr (by rw [← Hc.out, ← Ht.out]; exact ht0)⟩
          rw [← this]; unfold res; rw [if_neg (by rw [Hlen.out]; omega)]; exact rfl
        go_wp2_with fail
        refine (accepts_any s _).mono ?_
        rintro e w' ⟨rfl, rfl⟩
        cases hsa : sacc s
        · have HM : Hid (sce zs i = p + 1) := by rw [HN.out, hsa]; exact rfl
          go_wp2
          go_ret
          exact ⟨by rw [HM.out]; exact ret_int (by omega), rfl⟩
        · have HM : Hid (sce zs i = p) := by rw [HN.out, hsa]; exact rfl
          go_wp2
          go_ret
          exact ⟨by rw [HM.out]; rfl, rfl⟩
      · have HA1 : Hid (At zs i (p + 1) t) := at_step HA.out (by rw [Hlen.out]; exact hpn) (by rw [← Hc.out]; exact Ht.out.symm) (by omega)
        go_wp2
        go_round
        case rel => exact ⟨t, p + 1, rfl, by go_num, by omega, by omega, ht19, HA1.out⟩
        case measure => simp [intOf]; omega
    · have HN : Hid (sce zs i = n) := by
        have := same_ans (by rw [Hlen.out]; exact hi) ⟨HA.out, .inl (by rw [Hlen.out]; omega)⟩
        rw [← this]; unfold res; rw [if_pos (by rw [Hlen.out]; omega), Hlen.out]; exact rfl
      go_wp2
      go_ret
      exact ⟨by rw [HN.out]; rfl, rfl⟩

def Done (w w' : World) (e : Ending) : Prop := e = .returned (.bool true) ∧ Below w.heap.size w w'

set_option maxRecDepth 100000 in
set_option maxHeartbeats 1000000 in
theorem law3 (a : Option Addr) (n cap : Nat) (zs : List Int) (x : Int) (w : World) (h : Rd w a n zs) (h0 : a = none → n = 0 ∧ cap = 0) :
    Calls Try.prog 3 #[.slice a n cap, .int .i64 x] w fun e w' => Done w w' e := by
  have HR : Hid (Rd w a n zs) := h
  have H0 : Hid (a = none → n = 0 ∧ cap = 0) := h0
  clear h h0
  by_cases hn : n ≤ 1048576
  · by_cases hx0 : 0 ≤ x ∧ x < n
    · obtain ⟨hx1, hx2⟩ := hx0
      obtain ⟨i, rfl⟩ := Int.eq_ofNat_of_zero_le hx1
      have hi : i < n := by omega
      clear hx1 hx2
      cases a with
      | none => exfalso; have := (H0.out rfl).1; omega
      | some y =>
        have hd1 : decide ((i : Int) < 0) = false := by simp
        go_enter Try.func3, Try.ntmps3
        go_wp2_with (go_at_call 10; go_in)
        refine (clone_some y n cap zs _ HR.out hn).mono ?_
        rintro e w1 ⟨rfl, hrow, hb⟩
        have HB : Hid (Below w.heap.size w w1) := hb
        have HR1 : Hid (Rd w1 (some ⟨w.heap.size, 0, none⟩) n zs) := hrow.rd
        clear hb hrow
        go_wp2_with fail
        refine (zzScalar_any _ _ n n zs i _ HR1.out hn hi).mono ?_
        rintro e w2 ⟨rfl, d, rfl⟩
        have HR2 : Hid (Rd (w1.drewN d) (some ⟨w.heap.size, 0, none⟩) n zs) := HR1.out
        go_wp2_with fail
        refine (model_any _ _ n n zs i _ HR2.out hn hi).mono ?_
        rintro e w3 ⟨rfl, rfl⟩
        have hee : ((sce zs i : Int) == (sce zs i : Int)) = true := by simp
        go_wp2
        go_ret
        exact ⟨rfl, below_drewN HB.out _⟩
    · go_enter Try.func3, Try.ntmps3
      go_wp2_with (go_at_call 10; go_in)
      all_goals first | (exfalso; omega) | (go_ret; exact ⟨rfl, Below.refl _ _⟩)
  · go_enter Try.func3, Try.ntmps3
    go_wp2_with (go_at_call 10; go_in)
    all_goals
      go_ret
      exact ⟨rfl, Below.refl _ _⟩
end Go.Proofs.Qxb6603212a.Sc
