import Derived.Test.Qxb6602793aMemA
import Derived.Test.Qxb6602793aCmpA
namespace Go.Proofs.Qxb6602793a.Cmp
open Go.RowKit Go.Proofs.Qxb6602793a.Mem

def Seg (zs : List Int) (i k : Nat) : List Int := (zs.drop i).take (k - i)
theorem Seg_self (zs : List Int) (i : Nat) : Seg zs i i = [] := by simp [Seg]
theorem Seg_succ {zs : List Int} {i k : Nat} (h : i ≤ k) (hk : k < zs.length) : Seg zs i (k + 1) = Seg zs i k ++ [zs.getD k 0] := by
  unfold Seg
  have e : k + 1 - i = (k - i) + 1 := by omega
  rw [e, List.take_succ_eq_append_getElem (by simp; omega), List.getElem_drop, List.getD, List.getElem?_eq_getElem hk]
  congr 2
  simp only [Option.getD_some]
  congr 1
  omega
theorem Seg_len {zs : List Int} {i k : Nat} (hk : k ≤ zs.length) : (Seg zs i k).length = k - i := by
  simp [Seg]; omega

theorem space_any (c : Int) (w : World) : Calls Try.prog 16 #[.int .u8 c] w fun e w' => e = .returned (.bool (sp c)) ∧ w = w' := by
  go_enter Try.func16, Try.ntmps16
  go_wp2
  all_goals
    go_ret
    refine ⟨?_, rfl⟩
    simp_all [sp]

/-- What holds at the head of the model's outer loop: outside strings, or at the end inside one. -/
def Out (zs : List Int) (i : Nat) : Prop := S zs i = 0 ∨ (i = zs.length ∧ S zs i = 1)

theorem st_q {zs : List Int} {i : Nat} (h : S zs i = 0) (hc : zs.getD i 0 = 34) : S zs (i + 1) = 1 := by rw [S_succ, h, hc]; rfl
theorem st_o {zs : List Int} {i : Nat} (h : S zs i = 0) (hc : zs.getD i 0 ≠ 34) : S zs (i + 1) = 0 := by rw [S_succ, h]; unfold nx; rw [if_pos rfl, if_neg hc]
theorem st_e {zs : List Int} {i : Nat} (h : S zs i = 1) (hc : zs.getD i 0 = 34) : S zs (i + 1) = 0 := by rw [S_succ, h, hc]; rfl
theorem st_b {zs : List Int} {i : Nat} (h : S zs i = 1) (hc : zs.getD i 0 = 92) : S zs (i + 1) = 2 := by rw [S_succ, h, hc]; rfl
theorem st_b2 {zs : List Int} {i : Nat} (h : S zs i = 1) (hc : zs.getD i 0 = 92) : S zs (i + 1 + 1) = 1 := by rw [S_succ, st_b h hc]; rfl
theorem st_i {zs : List Int} {i : Nat} (h : S zs i = 1) (hc : zs.getD i 0 ≠ 34) (hb : zs.getD i 0 ≠ 92) : S zs (i + 1) = 1 := by rw [S_succ, h]; unfold nx; rw [if_neg (by decide), if_pos rfl, if_neg hc, if_neg hb]

/-- What holds in the model's loop over a string's inside. -/
def Inn (zs : List Int) (i j : Nat) : Prop := i < j ∧ j ≤ zs.length ∧ S zs j = 1 ∧ O zs j = O zs i ++ Seg zs i j
/-- .. and behind the string. -/
def Aft (zs : List Int) (i j : Nat) : Prop := i < j ∧ j ≤ zs.length ∧ Out zs j ∧ O zs j = O zs i ++ Seg zs i j

theorem inn_start {zs : List Int} {i : Nat} (hi : i < zs.length) (h : S zs i = 0) (hc : zs.getD i 0 = 34) : Inn zs i (i + 1) :=
  ⟨by omega, by omega, st_q h hc, by rw [O_kept (kp_nsp (by rw [hc]; rfl)), Seg_succ (Nat.le_refl _) hi, Seg_self]; rfl⟩
theorem inn_step {zs : List Int} {i j : Nat} (h : Inn zs i j) (hj : j < zs.length) (hc : zs.getD j 0 ≠ 34) (hb : zs.getD j 0 ≠ 92) : Inn zs i (j + 1) :=
  ⟨by have := h.1; omega, by omega, st_i h.2.2.1 hc hb, by rw [O_kept (kp_in (by rw [h.2.2.1]; decide)), Seg_succ (Nat.le_of_lt h.1) hj, h.2.2.2, List.append_assoc]⟩
theorem inn_esc {zs : List Int} {i j : Nat} (h : Inn zs i j) (hj : j + 1 < zs.length) (hb : zs.getD j 0 = 92) : Inn zs i (j + 1 + 1) := by
  have h1 := h.1
  have e1 : O zs (j + 1) = O zs i ++ Seg zs i (j + 1) := by
    rw [O_kept (kp_in (by rw [h.2.2.1]; decide)), Seg_succ (Nat.le_of_lt h.1) (by omega), h.2.2.2, List.append_assoc]
  refine ⟨by omega, by omega, st_b2 h.2.2.1 hb, ?_⟩
  rw [O_kept (kp_in (by rw [st_b h.2.2.1 hb]; decide)), Seg_succ (by omega) hj, e1, List.append_assoc]
theorem inn_end {zs : List Int} {i j : Nat} (h : Inn zs i j) (hj : j < zs.length) (hc : zs.getD j 0 = 34) : Aft zs i (j + 1) :=
  ⟨by have := h.1; omega, by omega, .inl (st_e h.2.2.1 hc), by rw [O_kept (kp_in (by rw [h.2.2.1]; decide)), Seg_succ (Nat.le_of_lt h.1) hj, h.2.2.2, List.append_assoc]⟩
theorem inn_open {zs : List Int} {i j : Nat} (h : Inn zs i j) (hj : zs.length ≤ j) : Aft zs i j :=
  ⟨h.1, h.2.1, .inr ⟨by have := h.2.1; omega, h.2.2.1⟩, h.2.2.2⟩

/-- What the model answers: false; or true and what is kept. -/
def Modelled (w w' : World) (n : Nat) (zs : List Int) (e : Ending) : Prop :=
  Below w.heap.size w w' ∧ ((∃ v, e = .returned (.tuple #[v, .bool false])) ∨
    (S zs n ≠ 2 ∧ e = .returned (.tuple #[.slice (some ⟨w.heap.size, 0, none⟩) (O zs n).length n, .bool true]) ∧ Row w' w.heap.size (O zs n).length n (O zs n)))

theorem slice_len {o o' : List Int} {c : Int} {m n B : Nat} (hO : o' = o ++ [c]) (hm : m = o.length) : Value.slice (some ⟨B, 0, none⟩) (m + 1) n = Value.slice (some ⟨B, 0, none⟩) o'.length n := by
  subst hO; subst hm; simp
theorem row_put {w2 : World} {o o' : List Int} {c : Int} {m n B : Nat} (hO : o' = o ++ [c]) (hm : m = o.length)
    (h : w2.ownsRow 0 5 1 (.slice (some ⟨B, 0, none⟩) (m + 1) n) (m + 1) (o.map (Value.int .u8) ++ [.int .u8 c])) : Row w2 B o'.length n o' := by
  subst hO; subst hm
  unfold Row
  simpa using h
theorem slice_seg {i k m n p B : Nat} (hik : i ≤ k) (hp : p = m + (k - i)) : Value.slice (some ⟨B, 0, none⟩) (p + 1) n = Value.slice (some ⟨B, 0, none⟩) (m + (k + 1 - i)) n := by
  have e : p + 1 = m + (k + 1 - i) := by omega
  rw [e]
theorem row_seg {w2 : World} {zs o : List Int} {f : Int} {i k m n p B : Nat} (hik : i ≤ k) (hp : p = m + (k - i)) (hs : Seg zs i (k + 1) = Seg zs i k ++ [f])
    (h : w2.ownsRow 0 5 1 (.slice (some ⟨B, 0, none⟩) (p + 1) n) (p + 1) ((o ++ Seg zs i k).map (Value.int .u8) ++ [.int .u8 f])) : Row w2 B (m + (k + 1 - i)) n (o ++ Seg zs i (k + 1)) := by
  have e : p + 1 = m + (k + 1 - i) := by omega
  rw [← e, hs]
  unfold Row
  simpa using h
theorem aft_len {zs : List Int} {i j m : Nat} (h : Aft zs i j) (hm : m = (O zs i).length) : (O zs j).length = m + (j - i) := by
  rw [h.2.2.2, List.length_append, Seg_len h.2.1, hm]
theorem bel_put {w wr w2 : World} {ob : Obj} (hb : Below w.heap.size w wr) (hg : (wr.alloc ob).grownBy w2 (some w.heap.size)) : Below w.heap.size w w2 :=
  (hb.alloc hb.size ob).grown hg (by have := hb.size; simp; omega) (fun k hk => by cases hk; exact Nat.le_refl _)

set_option maxRecDepth 100000 in
set_option maxHeartbeats 1000000 in
theorem model_any (a : Option Addr) (n cap : Nat) (zs : List Int) (w : World) (h : Rd w a n zs) (hn : n ≤ 1048576) :
    Calls Try.prog 12 #[.slice a n cap] w fun e w' => Modelled w w' n zs e := by
  obtain ⟨i0, hi, hz0, hz1, hz2⟩ := info_parts info5
  have HR : Hid (Rd w a n zs) := h
  have Hlen : Hid (zs.length = n) := h.1
  clear h
  go_enter Try.func12, Try.ntmps12
  go_wp2_with (at_make; refine wpList_make_own _ rfl _ _ 22 rfl 0 5 i0 (.int .u8 0) 1 Try.underlying22 hi hz0 hz1 .i64 .i64 _ n rfl rfl (by omega) (by rw [hz2]; omega) (by unfold maxLen; omega) (Nat.zero_le _) ?_; intro w1 hown1 hgrow1)
  have Hrow1 : Hid (Row w1 w.heap.size 0 n []) := hown1
  have Hbel1 : Hid (Below w.heap.size w w1) := (Below.refl _ _).grown hgrow1 (Nat.le_refl _) (fun k hk => by cases hk)
  clear hown1 hgrow1
  go_loopw [4, 5] (fun o i wr => ∃ k : Nat, k ≤ n ∧ i = .int .i64 k ∧ o = .slice (some ⟨w.heap.size, 0, none⟩) (O zs k).length n ∧ Row wr w.heap.size (O zs k).length n (O zs k) ∧ Below w.heap.size w wr ∧ Out zs k) (fun _ i _ => n - (intOf i).toNat)
  case atStart => exact ⟨0, Nat.zero_le _, rfl, rfl, Hrow1.out, Hbel1.out, .inl rfl⟩
  case round =>
    clear Hrow1 Hbel1
    obtain ⟨i, hk, rfl, rfl, hrow, hbel, hout⟩ := hrel
    have Hrow : Hid (Row wr w.heap.size (O zs i).length n (O zs i)) := hrow
    have Hbel : Hid (Below w.heap.size w wr) := hbel
    have Hout : Hid (Out zs i) := hout
    have hm := O_le zs i
    clear hrow hbel hout
    by_cases hlt : i < n
    · obtain ⟨b, off, rfl, hb, hc⟩ := HR.out.at hlt
      have hcx : wr.cell? ⟨b, off + i, none⟩ = some (.int .u8 (zs.getD i 0)) := (Hbel.out.cell (by exact hb)).trans hc
      clear hc
      obtain ⟨c, hc⟩ : ∃ c, c = zs.getD i 0 := ⟨_, rfl⟩
      rw [← hc] at hcx
      have Hc : Hid (c = zs.getD i 0) := hc
      clear hc
      have HS : Hid (S zs i = 0) := by
        rcases Hout.out with h | ⟨h, _⟩
        · exact h
        · have := Hlen.out; omega
      obtain ⟨m, hmm⟩ : ∃ m, m = (O zs i).length := ⟨_, rfl⟩
      rw [← hmm] at hm ⊢
      have Hrow' : Hid (Row wr w.heap.size m n (O zs i)) := by rw [hmm]; exact Hrow.out
      have Hm : Hid (m = (O zs i).length) := hmm
      clear hmm Hrow
      cases hq : (c == 34)
      · have hq' : (c != 34) = true := by simpa using hq
        have HS1 : Hid (S zs (i + 1) = 0) := st_o HS.out (by rw [← Hc.out]; simpa using hq)
        cases hsp : sp c
        · have HO : Hid (O zs (i + 1) = O zs i ++ [c]) := by rw [Hc.out]; exact O_kept (kp_nsp (by rw [← Hc.out]; exact hsp))
          go_wp2_with (first | (go_at_call 16; refine (space_any c _).mono ?_; rintro e w' ⟨rfl, rfl⟩) | (at_builtin; refine wpList_append_fits _ rfl _ _ 22 rfl 0 5 i0 1 Try.underlying22 hi hz1 w.heap.size m n _ rfl (Hrow'.out.alloc _) ⟨_, 0, none⟩ 1 1 [.int .u8 c] rfl rfl (cell_one_new _ _ _) (ints_oneCell .u8 [c]) (by omega) ?_; intro w2 hown2 hgrow2))
          go_roundw
          case rel => exact ⟨i + 1, by omega, by go_num, slice_len HO.out Hm.out, row_put HO.out Hm.out hown2, bel_put Hbel.out hgrow2, .inl HS1.out⟩
          case measure => simp [intOf]; omega
        · have HO : Hid (O zs (i + 1) = O zs i) := O_struck (by rw [HS.out, ← Hc.out]; exact kp_sp hsp)
          go_wp2_with (go_at_call 16; refine (space_any c _).mono ?_; rintro e w' ⟨rfl, rfl⟩)
          go_roundw
          case rel => exact ⟨i + 1, by omega, by go_num, by rw [HO.out, ← Hm.out], by rw [HO.out, ← Hm.out]; exact Hrow'.out, Hbel.out, .inl HS1.out⟩
          case measure => simp [intOf]; omega
      · have hq' : (c != 34) = false := by simpa using hq
        have HI : Hid (Inn zs i (i + 1)) := inn_start (by have := Hlen.out; omega) HS.out (by rw [← Hc.out]; simpa using hq)
        go_wp2
        go_loop [6] (fun jv => ∃ j : Nat, j ≤ n ∧ i < j ∧ jv = .int .i64 j ∧ Inn zs i j) (fun jv => n - (intOf jv).toNat)
        case atStart => exact ⟨i + 1, by omega, by omega, by go_num, HI.out⟩
        case round =>
          obtain ⟨j, hj, hij, rfl, hinn⟩ := hrel
          have HJ : Hid (Inn zs i j) := hinn
          clear hinn HI
          by_cases hjn : j < n
          · obtain ⟨b', off', hx, hb', hc'⟩ := HR.out.at hjn
            cases hx
            have hcj : wr.cell? ⟨b, off + j, none⟩ = some (.int .u8 (zs.getD j 0)) := (Hbel.out.cell (by exact hb)).trans hc'
            clear hc'
            obtain ⟨d, hd⟩ : ∃ d, d = zs.getD j 0 := ⟨_, rfl⟩
            rw [← hd] at hcj
            have Hd : Hid (d = zs.getD j 0) := hd
            clear hd hcx
            cases hdq : (d == 34)
            · have hdq' : (d != 34) = true := by simpa using hdq
              cases hdb : (d == 92)
              · have HN : Hid (Inn zs i (j + 1)) := inn_step HJ.out (by have := Hlen.out; omega) (by rw [← Hd.out]; simpa using hdq) (by rw [← Hd.out]; simpa using hdb)
                go_wp2
                go_round
                case rel => exact ⟨j + 1, by omega, by omega, by go_num, HN.out⟩
                case measure => simp [intOf]; omega
              · by_cases hj1 : j + 1 < n
                · have HN : Hid (Inn zs i (j + 1 + 1)) := inn_esc HJ.out (by have := Hlen.out; omega) (by rw [← Hd.out]; simpa using hdb)
                  go_wp2
                  go_round
                  case rel => exact ⟨j + 1 + 1, by omega, by omega, by go_num, HN.out⟩
                  case measure => simp [intOf]; omega
                · go_wp2
                  go_ret2
                  exact ⟨Hbel.out, .inl ⟨_, rfl⟩⟩
            · have hdq' : (d != 34) = false := by simpa using hdq
              have HA : Hid (Aft zs i (j + 1)) := inn_end HJ.out (by have := Hlen.out; omega) (by rw [← Hd.out]; simpa using hdq)
              go_wp2
              have hJn : (j + 1) ≤ n := by have := HA.out.2.1; have := Hlen.out; omega
              go_loopw [4, 7] (fun o kv wx => ∃ k : Nat, i ≤ k ∧ k ≤ (j + 1) ∧ kv = .int .i64 k ∧ o = .slice (some ⟨w.heap.size, 0, none⟩) (m + (k - i)) n ∧ Row wx w.heap.size (m + (k - i)) n (O zs i ++ Seg zs i k) ∧ Below w.heap.size w wx) (fun _ kv _ => (j + 1) - (intOf kv).toNat)
              case atStart => exact ⟨i, Nat.le_refl _, by omega, rfl, by rw [Nat.sub_self]; rfl, by rw [Nat.sub_self, Seg_self, List.append_nil]; exact Hrow'.out, Hbel.out⟩
              case round =>
                obtain ⟨k, hik, hkJ, rfl, rfl, hrow3, hbel3⟩ := hrel
                have Hrow3 : Hid (Row wr w.heap.size (m + (k - i)) n (O zs i ++ Seg zs i k)) := hrow3
                have Hbel3 : Hid (Below w.heap.size w wr) := hbel3
                clear hrow3 hbel3
                by_cases hkl : k < (j + 1)
                · obtain ⟨b2, off2, hx2, hb2, hc2⟩ := HR.out.at (k := k) (by omega)
                  cases hx2
                  have hck : wr.cell? ⟨b, off + k, none⟩ = some (.int .u8 (zs.getD k 0)) := (Hbel3.out.cell (by exact hb)).trans hc2
                  clear hc2
                  obtain ⟨f, hf⟩ : ∃ f, f = zs.getD k 0 := ⟨_, rfl⟩
                  rw [← hf] at hck
                  have HSg : Hid (Seg zs i (k + 1) = Seg zs i k ++ [f]) := by rw [hf]; exact Seg_succ hik (by have := Hlen.out; omega)
                  clear hf
                  have hmk : m + (k - i) + 1 ≤ n := by omega
                  obtain ⟨p, hp⟩ : ∃ p, p = m + (k - i) := ⟨_, rfl⟩
                  rw [← hp] at hmk Hrow3 ⊢
                  have Hp : Hid (p = m + (k - i)) := hp
                  clear hp
                  go_wp2_with (at_builtin; refine wpList_append_fits _ rfl _ _ 22 rfl 0 5 i0 1 Try.underlying22 hi hz1 w.heap.size p n _ rfl (Hrow3.out.alloc _) ⟨_, 0, none⟩ 1 1 [.int .u8 f] rfl rfl (cell_one_new _ _ _) (ints_oneCell .u8 [f]) (by omega) ?_; intro w4 hown4 hgrow4)
                  go_roundw
                  case rel => exact ⟨k + 1, by omega, by omega, by go_num, slice_seg hik Hp.out, row_seg hik Hp.out HSg.out hown4, bel_put Hbel3.out hgrow4⟩
                  case measure => simp [intOf]; omega
                · have e : (j + 1) = k := by omega
                  subst e
                  go_wp2
                  go_roundw
                  case rel => exact ⟨(j + 1), hJn, by go_num, by rw [aft_len HA.out Hm.out], by rw [aft_len HA.out Hm.out, HA.out.2.2.2]; exact Hrow3.out, Hbel3.out, HA.out.2.2.1⟩
                  case measure => simp [intOf]; omega
          · have HA : Hid (Aft zs i j) := inn_open HJ.out (by have := Hlen.out; omega)
            go_wp2
            have hJn : j ≤ n := by have := HA.out.2.1; have := Hlen.out; omega
            go_loopw [4, 7] (fun o kv wx => ∃ k : Nat, i ≤ k ∧ k ≤ j ∧ kv = .int .i64 k ∧ o = .slice (some ⟨w.heap.size, 0, none⟩) (m + (k - i)) n ∧ Row wx w.heap.size (m + (k - i)) n (O zs i ++ Seg zs i k) ∧ Below w.heap.size w wx) (fun _ kv _ => j - (intOf kv).toNat)
            case atStart => exact ⟨i, Nat.le_refl _, by omega, rfl, by rw [Nat.sub_self]; rfl, by rw [Nat.sub_self, Seg_self, List.append_nil]; exact Hrow'.out, Hbel.out⟩
            case round =>
              obtain ⟨k, hik, hkJ, rfl, rfl, hrow3, hbel3⟩ := hrel
              have Hrow3 : Hid (Row wr w.heap.size (m + (k - i)) n (O zs i ++ Seg zs i k)) := hrow3
              have Hbel3 : Hid (Below w.heap.size w wr) := hbel3
              clear hrow3 hbel3
              by_cases hkl : k < j
              · obtain ⟨b2, off2, hx2, hb2, hc2⟩ := HR.out.at (k := k) (by omega)
                cases hx2
                have hck : wr.cell? ⟨b, off + k, none⟩ = some (.int .u8 (zs.getD k 0)) := (Hbel3.out.cell (by exact hb)).trans hc2
                clear hc2
                obtain ⟨f, hf⟩ : ∃ f, f = zs.getD k 0 := ⟨_, rfl⟩
                rw [← hf] at hck
                have HSg : Hid (Seg zs i (k + 1) = Seg zs i k ++ [f]) := by rw [hf]; exact Seg_succ hik (by have := Hlen.out; omega)
                clear hf
                have hmk : m + (k - i) + 1 ≤ n := by omega
                obtain ⟨p, hp⟩ : ∃ p, p = m + (k - i) := ⟨_, rfl⟩
                rw [← hp] at hmk Hrow3 ⊢
                have Hp : Hid (p = m + (k - i)) := hp
                clear hp
                go_wp2_with (at_builtin; refine wpList_append_fits _ rfl _ _ 22 rfl 0 5 i0 1 Try.underlying22 hi hz1 w.heap.size p n _ rfl (Hrow3.out.alloc _) ⟨_, 0, none⟩ 1 1 [.int .u8 f] rfl rfl (cell_one_new _ _ _) (ints_oneCell .u8 [f]) (by omega) ?_; intro w4 hown4 hgrow4)
                go_roundw
                case rel => exact ⟨k + 1, by omega, by omega, by go_num, slice_seg hik Hp.out, row_seg hik Hp.out HSg.out hown4, bel_put Hbel3.out hgrow4⟩
                case measure => simp [intOf]; omega
              · have e : j = k := by omega
                subst e
                go_wp2
                go_roundw
                case rel => exact ⟨j, hJn, by go_num, by rw [aft_len HA.out Hm.out], by rw [aft_len HA.out Hm.out, HA.out.2.2.2]; exact Hrow3.out, Hbel3.out, HA.out.2.2.1⟩
                case measure => simp [intOf]; omega
    · have e : i = n := by omega
      subst e
      go_wp2
      go_ret2
      refine ⟨Hbel.out, .inr ⟨?_, rfl, Hrow.out⟩⟩
      rcases Hout.out with h | ⟨_, h⟩ <;> rw [h] <;> decide
end Go.Proofs.Qxb6602793a.Cmp
