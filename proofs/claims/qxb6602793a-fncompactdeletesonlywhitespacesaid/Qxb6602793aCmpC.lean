import Derived.Test.Qxb6602793aCmpB
namespace Go.Proofs.Qxb6602793a.Cmp
open Go.RowKit Go.Proofs.Qxb6602793a.Mem

/-- What Compact leaves: the bytes kept, then spaces, in v's own row; nothing else is touched. -/
def Compacted (w w' : World) (g n : Nat) (zs : List Int) (e : Ending) : Prop :=
  e = .returned (.slice (some ⟨g, 0, none⟩) (O zs n).length n) ∧ Row w' g n n (O zs n ++ List.replicate (n - (O zs n).length) 32) ∧ w.grownBy w' (some g)

/-- What holds at the head of Compact's first loop: outside strings or in one, not behind a backslash. -/
def Cin (zs : List Int) (i : Nat) (q : Bool) : Prop := (q = false ∧ S zs i = 0) ∨ (q = true ∧ S zs i = 1)

theorem Hid.mk' {p : Prop} (h : p) : Hid p := h

theorem sp_no {c : Int} (h : sp c = false) : (c == 32) = false ∧ (c == 9) = false ∧ (c == 10) = false ∧ (c == 13) = false := by
  simp only [sp, Bool.or_eq_false_iff] at h
  exact ⟨h.1.1.1, h.1.1.2, h.1.2, h.2⟩
theorem sp_yes {c : Int} (h : sp c = true) : c = 32 ∨ c = 9 ∨ c = 10 ∨ c = 13 := by
  simp only [sp, Bool.or_eq_true, beq_iff_eq] at h
  omega

/-- One byte more is kept: it is written behind what was kept before. -/
theorem step1 {w wr : World} {g n m i : Nat} {zs : List Int} {c : Int} (Hrow : Hid (Row wr g n n (Cn (O zs i) zs))) (Hm : Hid (m = (O zs i).length)) (Hc : Hid (c = zs.getD i 0))
    (hk : kp (S zs i) (zs.getD i 0) = true) (hlt : i < n) (Hlen : Hid (zs.length = n)) (Hgr : Hid (w.grownBy wr (some g))) :
    Hid ((O zs (i + 1)).length = m + 1 ∧ Row (wr.setCell ⟨g, m, none⟩ (.int .u8 c)) g n n (Cn (O zs (i + 1)) zs) ∧ w.grownBy (wr.setCell ⟨g, m, none⟩ (.int .u8 c)) (some g)) := by
  have hm := Hm.out
  have hc := Hc.out
  have hl := Hlen.out
  have hle := O_le zs i
  refine ⟨by rw [O_kept hk, List.length_append, hm]; rfl, ?_, Hgr.out.trans (Hrow.out.grown m _)⟩
  have h := Hrow.out.set m c
  rw [hm, Cn_put c (by omega)] at h
  rw [O_kept hk, ← hc, hm]
  exact h

theorem fill_len {n m : Nat} {zs : List Int} (Hm : Hid (m = (O zs n).length)) (h : m ≤ n) (Hlen : Hid (zs.length = n)) : (O zs n ++ List.replicate (n - m) 32).length = zs.length := by
  have h1 := Hm.out
  have h2 := Hlen.out
  simp; omega
theorem fill1 {w wr : World} {g n m k : Nat} {zs : List Int} (Hrow : Hid (Row wr g n n (Cn (O zs n ++ List.replicate (k - m) 32) zs))) (Hm : Hid (m = (O zs n).length)) (hmk : m ≤ k) (hk : k < n)
    (Hlen : Hid (zs.length = n)) (Hgr : Hid (w.grownBy wr (some g))) :
    Hid (Row (wr.setCell ⟨g, k, none⟩ (.int .u8 32)) g n n (Cn (O zs n ++ List.replicate (k + 1 - m) 32) zs) ∧ w.grownBy (wr.setCell ⟨g, k, none⟩ (.int .u8 32)) (some g)) := by
  have hm := Hm.out
  have hl := Hlen.out
  refine ⟨?_, Hgr.out.trans (Hrow.out.grown k _)⟩
  have h := Hrow.out.set k 32
  have e : (O zs n ++ List.replicate (k - m) (32 : Int)).length = k := by simp; omega
  have e2 : k + 1 - m = (k - m) + 1 := by omega
  have h3 := Cn_put (o := O zs n ++ List.replicate (k - m) 32) (zs := zs) 32 (by omega)
  rw [e] at h3
  rw [h3] at h
  rw [e2, List.replicate_succ', ← List.append_assoc]
  exact h

set_option maxRecDepth 100000 in
set_option maxHeartbeats 1000000 in
theorem compact_any (g n : Nat) (zs : List Int) (w : World) (h : Row w g n n zs) (hn : n ≤ 1048576) (hS : S zs n ≠ 2) :
    Calls Try.prog 13 #[.slice (some ⟨g, 0, none⟩) n n] w fun e w' => Compacted w w' g n zs e := by
  have HR : Hid (Row w g n n zs) := h
  have Hlen : Hid (zs.length = n) := h.len
  have HS : Hid (S zs n ≠ 2) := hS
  clear h hS
  go_enter Try.func13, Try.ntmps13
  go_wp2
  go_loopw [3, 4, 5] (fun m q i wr => ∃ k : Nat, ∃ b : Bool, k ≤ n ∧ i = .int .i64 k ∧ q = .bool b ∧ m = .int .i64 (O zs k).length ∧ Row wr g n n (Cn (O zs k) zs) ∧ w.grownBy wr (some g) ∧ Cin zs k b) (fun _ _ i _ => n - (intOf i).toNat)
  case atStart => exact ⟨0, false, Nat.zero_le _, rfl, rfl, rfl, by rw [show O zs 0 = [] from rfl, Cn_nil]; exact HR.out, World.grownBy.refl _ _, .inl ⟨rfl, rfl⟩⟩
  case round =>
    obtain ⟨i, b, hk, rfl, rfl, rfl, hrow, hgr, hcin⟩ := hrel
    have Hrow : Hid (Row wr g n n (Cn (O zs i) zs)) := hrow
    have Hgr : Hid (w.grownBy wr (some g)) := hgr
    have Hcin : Hid (Cin zs i b) := hcin
    have hm := O_le zs i
    clear hrow hgr hcin
    by_cases hlt : i < n
    · have hcx : wr.cell? ⟨g, i, none⟩ = some (.int .u8 (zs.getD i 0)) := by rw [Hrow.out.cell hlt, Cn_at hm]
      obtain ⟨c, hc⟩ : ∃ c, c = zs.getD i 0 := ⟨_, rfl⟩
      rw [← hc] at hcx
      have Hc : Hid (c = zs.getD i 0) := hc
      clear hc
      obtain ⟨m, hmm⟩ : ∃ m, m = (O zs i).length := ⟨_, rfl⟩
      rw [← hmm] at hm ⊢
      have Hm : Hid (m = (O zs i).length) := hmm
      clear hmm
      have hcm := Hrow.out.cell (j := m) (by omega)
      have hfm := Hrow.out.frozen m
      cases b
      · have HS0 : Hid (S zs i = 0) := by rcases Hcin.out with ⟨_, h⟩ | ⟨h, _⟩; exact h; cases h
        cases hq : (c == 34)
        · have HS1 : Hid (Cin zs (i + 1) false) := .inl ⟨rfl, st_o HS0.out (by rw [← Hc.out]; simpa using hq)⟩
          cases hsp : sp c
          · have HP := step1 Hrow Hm Hc (kp_nsp (by rw [← Hc.out]; exact hsp)) hlt Hlen Hgr
            obtain ⟨s1, s2, s3, s4⟩ := sp_no hsp
            go_wp2
            go_roundw
            case rel => exact ⟨i + 1, false, by omega, by go_num, rfl, by rw [HP.out.1]; go_num, HP.out.2.1, HP.out.2.2, HS1.out⟩
            case measure => simp [intOf]; omega
          · have HO : Hid (O zs (i + 1) = O zs i) := O_struck (by rw [HS0.out, ← Hc.out]; exact kp_sp hsp)
            have fin : ∃ k : Nat, ∃ b : Bool, k ≤ n ∧ Value.int .i64 ((i : Int) + 1) = .int .i64 k ∧ Value.bool false = .bool b ∧ Value.int .i64 m = .int .i64 (O zs k).length ∧ Row wr g n n (Cn (O zs k) zs) ∧ w.grownBy wr (some g) ∧ Cin zs k b :=
              ⟨i + 1, false, by omega, by go_num, rfl, by rw [HO.out, ← Hm.out], by rw [HO.out]; exact Hrow.out, Hgr.out, HS1.out⟩
            have Fin := Hid.mk' fin
            clear fin
            rcases sp_yes hsp with h | h | h | h
            all_goals
              subst h
              go_wp2
              go_roundw
              case rel => exact Fin.out
              case measure => simp [intOf]; omega
        · have HS1 : Hid (Cin zs (i + 1) true) := .inr ⟨rfl, st_q HS0.out (by rw [← Hc.out]; simpa using hq)⟩
          have HP := step1 Hrow Hm Hc (kp_nsp (by rw [← Hc.out, show c = 34 by simpa using hq]; rfl)) hlt Hlen Hgr
          go_wp2
          go_roundw
          case rel => exact ⟨i + 1, true, by omega, by go_num, rfl, by rw [HP.out.1]; go_num, HP.out.2.1, HP.out.2.2, HS1.out⟩
          case measure => simp [intOf]; omega
      · have HS0 : Hid (S zs i = 1) := by rcases Hcin.out with ⟨h, _⟩ | ⟨_, h⟩; cases h; exact h
        have HP := step1 Hrow Hm Hc (kp_in (by rw [HS0.out]; decide)) hlt Hlen Hgr
        cases hb : (c == 92)
        · cases hq : (c == 34)
          · have HS1 : Hid (Cin zs (i + 1) true) := .inr ⟨rfl, st_i HS0.out (by rw [← Hc.out]; simpa using hq) (by rw [← Hc.out]; simpa using hb)⟩
            go_wp2
            go_roundw
            case rel => exact ⟨i + 1, true, by omega, by go_num, rfl, by rw [HP.out.1]; go_num, HP.out.2.1, HP.out.2.2, HS1.out⟩
            case measure => simp [intOf]; omega
          · have HS1 : Hid (Cin zs (i + 1) false) := .inl ⟨rfl, st_e HS0.out (by rw [← Hc.out]; simpa using hq)⟩
            go_wp2
            go_roundw
            case rel => exact ⟨i + 1, false, by omega, by go_num, rfl, by rw [HP.out.1]; go_num, HP.out.2.1, HP.out.2.2, HS1.out⟩
            case measure => simp [intOf]; omega
        · have Hb := Hid.mk' (show zs.getD i 0 = 92 by rw [← Hc.out]; simpa using hb)
          have h1n : i + 1 < n := by
            by_cases e : i + 1 = n
            · exfalso; exact HS.out (by rw [← e]; exact st_b HS0.out Hb.out)
            · omega
          have hm1 : m + 1 ≤ i + 1 := by omega
          obtain ⟨d, hd⟩ : ∃ d, d = zs.getD (i + 1) 0 := ⟨_, rfl⟩
          have Hd : Hid (d = zs.getD (i + 1) 0) := hd
          have HP2 := step1 (Hid.mk' HP.out.2.1) (Hid.mk' HP.out.1.symm) Hd (kp_in (by rw [st_b HS0.out Hb.out]; decide)) h1n Hlen (Hid.mk' HP.out.2.2)
          have hc1 : (wr.setCell ⟨g, m, none⟩ (.int .u8 c)).cell? ⟨g, i + 1, none⟩ = some (.int .u8 d) := by
            rw [HP.out.2.1.cell h1n, Cn_at (by rw [HP.out.1]; omega), hd]
          have hc2 := HP.out.2.1.cell (j := m + 1) (by omega)
          have hf2 := HP.out.2.1.frozen (m + 1)
          have HS1 : Hid (Cin zs (i + 1 + 1) true) := .inr ⟨rfl, st_b2 HS0.out Hb.out⟩
          clear hd
          go_wp2
          go_roundw
          case rel => exact ⟨i + 1 + 1, true, by omega, by go_num, rfl, by rw [HP2.out.1]; go_num, HP2.out.2.1, HP2.out.2.2, HS1.out⟩
          case measure => simp [intOf]; omega
    · have e : n = i := by omega
      subst e
      obtain ⟨m, hmm⟩ : ∃ m, m = (O zs n).length := ⟨_, rfl⟩
      rw [← hmm] at hm ⊢
      have Hm : Hid (m = (O zs n).length) := hmm
      clear hmm
      go_wp2
      go_loopw [7] (fun iv wx => ∃ k : Nat, m ≤ k ∧ k ≤ n ∧ iv = .int .i64 k ∧ Row wx g n n (Cn (O zs n ++ List.replicate (k - m) 32) zs) ∧ w.grownBy wx (some g)) (fun iv _ => n - (intOf iv).toNat)
      case atStart => exact ⟨m, Nat.le_refl _, hm, rfl, by rw [Nat.sub_self]; simpa using Hrow.out, Hgr.out⟩
      case round =>
        obtain ⟨k, hmk, hkn, rfl, hrow2, hgr2⟩ := hrel
        have Hrow2 : Hid (Row wr g n n (Cn (O zs n ++ List.replicate (k - m) 32) zs)) := hrow2
        have Hgr2 : Hid (w.grownBy wr (some g)) := hgr2
        clear hrow2 hgr2
        by_cases hkl : k < n
        · have hck := Hrow2.out.cell hkl
          have hfk := Hrow2.out.frozen k
          have HP := fill1 Hrow2 Hm hmk hkl Hlen Hgr2
          go_wp2
          go_roundw
          case rel => exact ⟨k + 1, by omega, by omega, by go_num, HP.out.1, HP.out.2⟩
          case measure => simp [intOf]; omega
        · have e : n = k := by omega
          subst e
          go_wp2
          go_ret
          exact ⟨by rw [← Hm.out]; rfl, by have h := Hrow2.out; rw [Cn_all (fill_len Hm hmk Hlen), Hm.out] at h; exact h, Hgr2.out⟩
end Go.Proofs.Qxb6602793a.Cmp
