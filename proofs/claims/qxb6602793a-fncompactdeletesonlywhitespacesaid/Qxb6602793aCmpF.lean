import Derived.Test.Qxb6602793aCmpD
namespace Go.Proofs.Qxb6602793a.Cmp
open Go.RowKit Go.Proofs.Qxb6602793a.Mem

/-- A byte that is kept is the next one of what is kept. -/
theorem hit {zs : List Int} {n i : Nat} (hi : i < n) (hk : kp (S zs i) (zs.getD i 0) = true) :
    (O zs i).length < (O zs n).length ∧ (O zs n).getD (O zs i).length 0 = zs.getD i 0 ∧ (O zs (i + 1)).length = (O zs i).length + 1 := by
  obtain ⟨T, hT⟩ := O_pre zs (i + 1) (n - (i + 1))
  rw [show i + 1 + (n - (i + 1)) = n by omega, O_kept hk] at hT
  refine ⟨by rw [hT]; simp, ?_, by rw [O_kept hk]; simp⟩
  rw [hT]
  simp [List.getD]
/-- A byte that is struck is white space, and not the next one of what is kept. -/
theorem miss {zs : List Int} {n i : Nat} (hi : i < n) (hk : kp (S zs i) (zs.getD i 0) = false) :
    sp (zs.getD i 0) = true ∧ O zs (i + 1) = O zs i ∧ ((O zs i).length < (O zs n).length → ((O zs n).getD (O zs i).length 0 == zs.getD i 0) = false) := by
  have hs : S zs i = 0 := by
    by_cases e : S zs i = 0
    · exact e
    · rw [kp_in e] at hk; cases hk
  have hsp : sp (zs.getD i 0) = true := by
    cases e : sp (zs.getD i 0)
    · rw [kp_nsp e] at hk; cases hk
    · rfl
  refine ⟨hsp, O_struck hk, fun hl => ?_⟩
  obtain ⟨T, hT, hc⟩ := O_next zs (n - i) i hs
  rw [show i + (n - i) = n by omega] at hT
  cases T with
  | nil => rw [hT] at hl; simp at hl
  | cons c r =>
    have h1 := hc c r rfl
    have e : (O zs n).getD (O zs i).length 0 = c := by rw [hT]; simp [List.getD]
    rw [e]
    cases h2 : (c == zs.getD i 0)
    · rfl
    · rw [beq_iff_eq.1 h2, hsp] at h1; cases h1

set_option maxRecDepth 100000 in
set_option maxHeartbeats 1000000 in
theorem law5_nil (w : World) : Calls Try.prog 5 #[.slice none 0 0] w fun e w' => Done w w' e := by
  go_enter Try.func5, Try.ntmps5
  go_wp2_with (go_at_call 15; go_in)
  refine (clone_nil _).mono ?_
  rintro e w1 ⟨rfl, rfl⟩
  go_wp2_with fail
  refine (model_any none 0 0 [] _ ⟨rfl, .inl rfl⟩ (by omega)).mono ?_
  rintro e w2 ⟨hb, ⟨v, rfl⟩ | ⟨_, rfl, hrow⟩⟩
  · have HB : Hid (Below w1.heap.size w1 w2) := hb
    clear hb
    go_wp2_with fail
    go_ret
    exact ⟨rfl, HB.out⟩
  · have HB : Hid (Below w1.heap.size w1 w2) := hb
    clear hb hrow
    have eO : (O [] 0).length = 0 := rfl
    rw [eO]
    go_wp2_with fail
    refine (clone_nil _).mono ?_
    rintro e w3 ⟨rfl, rfl⟩
    go_wp2_with fail
    refine (compact_nil _).mono ?_
    rintro e w3 ⟨rfl, rfl⟩
    go_wp2_with fail
    refine wp_loop_rounds 1 ?_
    rw [rounds_succ]
    go_wp2
    go_ret
    exact ⟨rfl, HB.out⟩

set_option maxRecDepth 100000 in
set_option maxHeartbeats 1000000 in
theorem law5_some (x : Addr) (n cap : Nat) (zs : List Int) (w : World) (h : Rd w (some x) n zs) : Calls Try.prog 5 #[.slice (some x) n cap] w fun e w' => Done w w' e := by
  have HR : Hid (Rd w (some x) n zs) := h
  clear h
  by_cases hn : n ≤ 1048576
  · go_enter Try.func5, Try.ntmps5
    go_wp2_with (go_at_call 15; go_in)
    refine (clone_some x n cap zs _ HR.out hn).mono ?_
    rintro e w1 ⟨rfl, hrow, hbel⟩
    obtain ⟨g, hg⟩ : ∃ g, g = w.heap.size := ⟨_, rfl⟩
    rw [← hg] at hrow ⊢
    have Hg : Hid (g = w.heap.size) := hg
    have Hrow : Hid (Row w1 g n n zs) := hrow
    have Hbel : Hid (Below w.heap.size w w1) := hbel
    clear hrow hbel hg
    go_wp2_with fail
    refine (model_any _ n n zs _ Hrow.out.rd hn).mono ?_
    rintro e w2 ⟨hb, ⟨v, rfl⟩ | ⟨hS, rfl, hrow2⟩⟩
    · have HB : Hid (Below w1.heap.size w1 w2) := hb
      clear hb
      go_wp2_with fail
      go_ret
      exact ⟨rfl, Hbel.out.trans (HB.out.mono Hbel.out.size)⟩
    · have HB : Hid (Below w.heap.size w w2) := Hbel.out.trans (hb.mono Hbel.out.size)
      have HrowV : Hid (Row w2 g n n zs) := Hrow.out.below hb Hrow.out.lt
      have HS : Hid (S zs n ≠ 2) := hS
      obtain ⟨V2, hV2⟩ : ∃ V2, V2 = Value.slice (some ⟨w1.heap.size, 0, none⟩) (O zs n).length n := ⟨_, rfl⟩
      rw [← hV2]
      clear hb hrow2 hS hV2
      go_wp2_with fail
      refine (clone_some _ n n zs _ HrowV.out.rd hn).mono ?_
      rintro e w3 ⟨rfl, hrow3, hbel3⟩
      obtain ⟨g2, hg2⟩ : ∃ g2, g2 = w2.heap.size := ⟨_, rfl⟩
      rw [← hg2] at hrow3 ⊢
      have hgg : g < g2 := by rw [hg2]; exact HrowV.out.lt
      have HB3 : Hid (Below w.heap.size w w3) := HB.out.trans (hbel3.mono HB.out.size)
      have Horig : Hid (Row w3 g2 n n zs) := hrow3
      have HrowV3 : Hid (Row w3 g n n zs) := HrowV.out.below hbel3 (by rw [← hg2]; exact hgg)
      clear hrow3 hbel3 hg2
      go_wp2_with fail
      refine (compact_any g n zs _ HrowV3.out hn HS.out).mono ?_
      rintro e w4 ⟨rfl, hrow4, hgr4⟩
      obtain ⟨m, hm⟩ : ∃ m, m = (O zs n).length := ⟨_, rfl⟩
      have Hm : Hid (m = (O zs n).length) := hm
      have hmn := O_le zs n
      rw [← hm] at hmn hrow4 ⊢
      have Hgot : Hid (Row w4 g n n (O zs n ++ List.replicate (n - m) 32)) := hrow4
      have Ho4 : Hid (Row w4 g2 n n zs) := Horig.out.kept hgr4 (by simp; omega)
      have HB4 : Hid (Below w.heap.size w w4) := HB3.out.grown hgr4 HB3.out.size (fun k hk => by cases hk; rw [Hg.out]; exact Nat.le_refl _)
      clear hrow4 hgr4 hm
      have hdm : decide (n < m) = false := by simp; omega
      go_wp2_with fail
      go_loopw [7, 8] (fun kv iv wr => ∃ k i d : Nat, i ≤ n ∧ kv = .int .i64 k ∧ iv = .int .i64 i ∧ k = (O zs i).length ∧ wr = w4.drewN d) (fun _ iv _ => n - (intOf iv).toNat)
      case atStart => exact ⟨0, 0, 0, Nat.zero_le _, rfl, rfl, rfl, rfl⟩
      case round =>
        obtain ⟨k, i, d, hi, rfl, rfl, hk, rfl⟩ := hrel
        have Hk : Hid (k = (O zs i).length) := hk
        have hki := O_le zs i
        rw [← hk] at hki
        clear hk
        by_cases hin : i < n
        · obtain ⟨c, hc⟩ : ∃ c, c = zs.getD i 0 := ⟨_, rfl⟩
          have hci : w4.cell? ⟨g2, i, none⟩ = some (.int .u8 c) := by rw [Ho4.out.cell hin, hc]
          have hin' : (i : Int) < (n : Int) := by omega
          cases hkp : kp (S zs i) (zs.getD i 0)
          · obtain ⟨hsp, hO, hne⟩ := miss hin hkp
            rw [← hc] at hsp hne
            rw [← Hk.out, ← Hm.out] at hne
            have HO : Hid (O zs (i + 1) = O zs i) := hO
            clear hc hO hkp
            by_cases hkm : k < m
            · have hne' := hne hkm
              clear hne
              obtain ⟨f, hf⟩ : ∃ f, f = (O zs n).getD k 0 := ⟨_, rfl⟩
              have hck : w4.cell? ⟨g, k, none⟩ = some (.int .u8 f) := by rw [Hgot.out.cell (by omega), hf, getD_left (by rw [← Hm.out]; exact hkm)]
              rw [← hf] at hne'
              have hkm' : (k : Int) < (m : Int) := by omega
              clear hf
              go_wp2_with fail
              go_quiet (fail)
              go_wp2_with fail
              refine (space_any c _).mono ?_
              rintro e w' ⟨rfl, rfl⟩
              go_wp2
              go_roundw
              case rel => exact ⟨k, i + 1, _, by omega, rfl, by go_num, by rw [HO.out]; exact Hk.out, rfl⟩
              case measure => simp [intOf]; omega
            · clear hne
              have hd : decide ((k : Int) < (m : Int)) = false := by simp; omega
              go_wp2_with fail
              go_quiet (fail)
              go_wp2_with fail
              refine (space_any c _).mono ?_
              rintro e w' ⟨rfl, rfl⟩
              go_wp2
              go_roundw
              case rel => exact ⟨k, i + 1, _, by omega, rfl, by go_num, by rw [HO.out]; exact Hk.out, rfl⟩
              case measure => simp [intOf]; omega
          · obtain ⟨h1, h2, h3⟩ := hit hin hkp
            rw [← Hk.out, ← Hm.out] at h1
            rw [← Hk.out] at h2 h3
            have hck : w4.cell? ⟨g, k, none⟩ = some (.int .u8 c) := by rw [Hgot.out.cell (by omega), getD_left (by rw [← Hm.out]; exact h1), h2, hc]
            have H3 : Hid ((O zs (i + 1)).length = k + 1) := h3
            have hkm' : (k : Int) < (m : Int) := by omega
            have hcc : (c == c) = true := by simp
            clear hc h2 h3 hkp
            go_wp2_with fail
            go_quiet (fail)
            go_wp2
            go_roundw
            case rel => exact ⟨k + 1, i + 1, _, by omega, by go_num, by go_num, H3.out.symm, rfl⟩
            case measure => simp [intOf]; omega
        · have e : n = i := by omega
          subst e
          have hkm : m = k := by rw [Hm.out, Hk.out]
          subst hkm
          have hmm : ((m : Int) == (m : Int)) = true := by simp
          go_wp2
          go_ret
          exact ⟨rfl, below_drewN HB4.out _⟩
  · go_enter Try.func5, Try.ntmps5
    go_wp2_with (go_at_call 15; go_in)
    all_goals
      go_ret
      exact ⟨rfl, Below.refl _ _⟩
end Go.Proofs.Qxb6602793a.Cmp
