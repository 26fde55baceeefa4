import Derived.Test.Qxb6602793aPaC
namespace Go.Proofs.Qxb6602793a.Pa
open Go.RowKit Go.Proofs.Qxb6602793a.Mem

/-- A slice that holds the bytes us: in a row; or empty, wherever. -/
def BSl (w : World) (B : Nat) (v : Value) (us : List UInt8) : Prop :=
  (∃ b off cap, v = .slice (some ⟨b, off, none⟩) us.length cap ∧ us.length ≤ cap ∧ b < B ∧ Bytes w b off us) ∨ (us = [] ∧ ∃ a cap, v = .slice a 0 cap ∧ (a = none → cap = 0))

def strs (l : List (List UInt8)) : List Value := l.map (fun nm => Value.string ⟨nm.toArray⟩)
theorem info9 : (Try.prog.info? 9).map (fun i => (i.zero, i.size, i.bytes)) = some (some (.string ⟨#[]⟩), 1, 16) := by kernel_rfl

theorem add_off (b off j : Nat) : (⟨b, off, none⟩ : Addr).add j = ⟨b, off + j, none⟩ := by
  unfold Addr.add
  split
  · rename_i h; simp
  · rfl
theorem conv {w : World} {b off cap : Nat} {nm : List UInt8} (src : TypeId) (hs : Try.prog.underlying src = some (.slice 5)) (h : Bytes w b off nm) :
    (convert src 9 (.slice (some ⟨b, off, none⟩) nm.length cap)).run Try.prog w = .ok (.string ⟨nm.toArray⟩) w :=
  run_convert_bytes_back w src 9 5 ⟨b, off, none⟩ cap nm hs Try.underlying5 Try.underlying9 (fun j hj => by rw [add_off]; exact h j _ (List.getElem?_eq_getElem hj))
theorem conv0 {w : World} {b off cap : Nat} (src : TypeId) (hs : Try.prog.underlying src = some (.slice 5)) :
    (convert src 9 (.slice (some ⟨b, off, none⟩) 0 cap)).run Try.prog w = .ok (.string ⟨#[]⟩) w := by
  have := conv (w := w) (b := b) (off := off) (cap := cap) (nm := []) src hs (fun j x h => by simp at h)
  exact this

theorem names_len (L : List Item) : (names L).length = L.length := by simp [names]
theorem items_le : ∀ {L : List Item}, OKL L → L.length ≤ (flat L).length
  | [], _ => Nat.le_refl _
  | p :: r, h => by
    have h1 := items_le (L := r) (fun q hq => h q (List.mem_cons_of_mem _ hq))
    have h2 := hdr_pos (h p (List.mem_cons_self)).1
    simp only [flat, List.length_cons, List.length_append]
    omega
theorem own_put {w2 : World} {B m : Nat} {L : List Item} {hd nm : List UInt8} {v : Value} (hm : m = (names L).length) (h : w2.ownsRow B 9 1 v (m + 1) (strs (names L) ++ [.string ⟨nm.toArray⟩])) :
    w2.ownsRow B 9 1 v (names (L ++ [(hd, nm)])).length (strs (names (L ++ [(hd, nm)]))) := by
  subst hm
  simpa [names, strs] using h
theorem bel_put {w wr w2 : World} {ob : Obj} {v : Value} {n : Nat} {xs : List Value} {e : TypeId} (hb : Below w.heap.size w wr) (hg : (wr.alloc ob).grownBy w2 v.ownBlock) (hown : wr.ownsRow w.heap.size e 1 v n xs) : Below w.heap.size w w2 :=
  (hb.alloc hb.size ob).grown hg (by have := hb.size; simp; omega) (fun k hk => (hown.lt k hk).1)

def Decoded (w w' : World) (us : List UInt8) (e : Ending) : Prop :=
  Below w.heap.size w w' ∧ ((∃ v, e = .returned (.tuple #[v, .bool false])) ∨
    ∃ L v, OKL L ∧ us = flat L ∧ e = .returned (.tuple #[v, .bool true]) ∧ w'.ownsRow w.heap.size 9 1 v (names L).length (strs (names L)))

set_option maxRecDepth 100000 in
set_option maxHeartbeats 400000 in
theorem decode_empty (a : Option Addr) (cap : Nat) (w : World) : Calls Try.prog 29 #[.slice a 0 cap] w fun e w' => Decoded w w' [] e := by
  go_enter Try.func29, Try.ntmps29
  go_wp2
  refine wp_loop_rounds 1 ?_
  rw [rounds_succ]
  go_wp2
  go_ret2
  exact ⟨Below.refl _ _, .inr ⟨[], _, (fun p hp => by cases hp), rfl, rfl, World.ownsRow_nil _ _ _ _⟩⟩

/-- What holds in the loop over a header: k bytes from 128 on have been read from i on. -/
def HIn (us : List UInt8) (i k n : Nat) : Prop := k ≤ 3 ∧ (∃ a, a.length = k ∧ (∀ x ∈ a, 128 ≤ x.toNat) ∧ n = hvl a ∧ us.drop i = a ++ us.drop (i + k))

theorem hin_zero (us : List UInt8) (i : Nat) : HIn us i 0 0 := ⟨by decide, [], rfl, (fun x hx => by cases hx), rfl, by simp⟩
theorem drop_cons {us : List UInt8} {i : Nat} {x : UInt8} (h : us[i]? = some x) : us.drop i = x :: us.drop (i + 1) := by
  obtain ⟨hk, he⟩ := List.getElem?_eq_some_iff.1 h
  rw [List.drop_eq_getElem_cons hk, he]
theorem hin_lt {us : List UInt8} {i k n : Nat} (h : HIn us i k n) : n < 128 ^ k := by
  obtain ⟨_, a, rfl, _, rfl, _⟩ := h
  exact hvl_lt a
theorem hin_step {us : List UInt8} {i k n : Nat} {x : UInt8} (h : HIn us i k n) (hx : us[i + k]? = some x) (h128 : 128 ≤ x.toNat) (hk : k < 3) : HIn us i (k + 1) (n + x.toNat % 128 * 128 ^ k) := by
  obtain ⟨_, a, rfl, h1, rfl, h2⟩ := h
  refine ⟨hk, a ++ [x], by simp, ?_, ?_, ?_⟩
  · intro y hy
    rw [List.mem_append] at hy
    rcases hy with hy | hy
    · exact h1 y hy
    · simp at hy; subst hy; exact h128
  · rw [hvl_append]; simp [hvl, Nat.mul_comm]
  · rw [h2, drop_cons hx, List.append_assoc]
    have e : i + (a.length + 1) = i + a.length + 1 := by omega
    rw [e]; rfl
theorem hin_done {us Z : List UInt8} {L : List Item} {i k n u : Nat} {x : UInt8} (h : HIn us i k n) (hx : us[i + k]? = some x) (hlo : x.toNat < 128) (hu : u = n + x.toNat * 128 ^ k) (hle : i + k + 1 + u ≤ us.length)
    (hus : us = flat L ++ Z) (hi : i = (flat L).length) (hok : OKL L) :
    ∃ hd, OKL (L ++ [(hd, (us.drop (i + k + 1)).take u)]) ∧ us = flat (L ++ [(hd, (us.drop (i + k + 1)).take u)]) ++ us.drop (i + k + 1 + u) ∧ i + k + 1 + u = (flat (L ++ [(hd, (us.drop (i + k + 1)).take u)])).length ∧ ((us.drop (i + k + 1)).take u).length = u := by
  obtain ⟨hk3, a, rfl, h1, rfl, h2⟩ := h
  have hl : ((us.drop (i + a.length + 1)).take u).length = u := by simp; omega
  have hZ : us.drop i = Z := by rw [hus, hi, List.drop_left]
  have e1 : us.drop i = a ++ [x] ++ ((us.drop (i + a.length + 1)).take u ++ us.drop (i + a.length + 1 + u)) := by
    rw [h2, drop_cons hx]
    have e2 : (us.drop (i + a.length + 1)).take u ++ us.drop (i + a.length + 1 + u) = us.drop (i + a.length + 1) := by
      have h5 := List.take_append_drop u (us.drop (i + a.length + 1))
      rw [List.drop_drop] at h5; exact h5
    rw [e2]; simp
  refine ⟨a ++ [x], ?_, ?_, ?_, hl⟩
  · intro p hp
    rw [List.mem_append] at hp
    rcases hp with hp | hp
    · exact hok p hp
    · simp only [List.mem_singleton] at hp
      subst hp
      exact ⟨⟨a, x, rfl, h1, hlo, hk3⟩, by show ((us.drop (i + a.length + 1)).take u).length = hvl (a ++ [x]); rw [hl, hu, hvl_snoc hlo]⟩
  · rw [flat_append]
    simp only [flat, List.append_nil]
    rw [List.append_assoc, List.append_assoc, ← e1, hZ]; exact hus
  · rw [flat_append]
    simp only [flat, List.append_nil, List.length_append, hl, ← hi, List.length_cons, List.length_nil]
    omega

theorem bytes_sub {w : World} {b off i u : Nat} {us : List UInt8} (h : Bytes w b off us) : Bytes w b (off + i) ((us.drop i).take u) := by
  intro j x hx
  rw [Nat.add_assoc]
  refine h (i + j) x ?_
  have := List.getElem?_take (l := us.drop i) (i := u) (j := j)
  rw [hx] at this
  by_cases e : j < u
  · rw [if_pos e, List.getElem?_drop] at this; exact this.symm
  · rw [if_neg e] at this; cases this

set_option maxRecDepth 100000 in
set_option maxHeartbeats 1000000 in
theorem decode_some (b off cap : Nat) (us : List UInt8) (w : World) (hb : Bytes w b off us) (hcap : us.length ≤ cap) (hbl : b < w.heap.size) (hsz : us.length ≤ 1048576) :
    Calls Try.prog 29 #[.slice (some ⟨b, off, none⟩) us.length cap] w fun e w' => Decoded w w' us e := by
  obtain ⟨i0, hi, hz0, hz1, hz2⟩ := info_parts info9
  obtain ⟨N, hN⟩ : ∃ N, N = us.length := ⟨_, rfl⟩
  rw [← hN] at hcap hsz ⊢
  have HN : Hid (N = us.length) := hN
  have HBy : Hid (Bytes w b off us) := hb
  clear hb hN
  go_enter Try.func29, Try.ntmps29
  go_wp2
  go_loopw [4, 5] (fun v iv wr => ∃ (L : List Item) (Z : List UInt8) (i : Nat), OKL L ∧ us = flat L ++ Z ∧ i = (flat L).length ∧ i ≤ N ∧ iv = .int .i64 i ∧ wr.ownsRow w.heap.size 9 1 v (names L).length (strs (names L)) ∧ Below w.heap.size w wr) (fun _ iv _ => N - (intOf iv).toNat)
  case atStart => exact ⟨[], us, 0, (fun p hp => by cases hp), rfl, rfl, Nat.zero_le _, rfl, World.ownsRow_nil _ _ _ _, Below.refl _ _⟩
  case round =>
    obtain ⟨L, Z, i, hOK, hus, hil, hiN, rfl, hown, hbel⟩ := hrel
    have HOK : Hid (OKL L) := hOK
    have HUS : Hid (us = flat L ++ Z) := hus
    have HIL : Hid (i = (flat L).length) := hil
    have Hbel : Hid (Below w.heap.size w wr) := hbel
    have HBr : Hid (Bytes wr b off us) := fun j x hx => (hbel.cell (by exact hbl)).trans (HBy.out j x hx)
    obtain ⟨m, hm⟩ : ∃ m, m = (names L).length := ⟨_, rfl⟩
    rw [← hm] at hown
    have Hown : Hid (wr.ownsRow w.heap.size 9 1 u4 m (strs (names L))) := hown
    have Hm : Hid (m = (names L).length) := hm
    have hmN : m ≤ N := by rw [hm, names_len]; exact Nat.le_trans (items_le HOK.out) (by omega)
    clear hOK hus hil hown hbel hm
    by_cases hlt : i < N
    · go_wp2
      go_loop [5, 6, 7, 8] (fun qv nv sv kv => ∃ k q n : Nat, q ≤ N ∧ q = i + k ∧ qv = .int .i64 q ∧ nv = .int .i64 n ∧ sv = .int .i64 ((7 * k : Nat) : Int) ∧ kv = .int .i64 k ∧ HIn us i k n) (fun qv _ _ _ => N - (intOf qv).toNat)
      case atStart => exact ⟨0, i, 0, hiN, rfl, rfl, rfl, rfl, rfl, hin_zero us i⟩
      case round =>
        obtain ⟨k, q, n, hqN, hq, rfl, rfl, rfl, rfl, hhin⟩ := hrel
        have Hq : Hid (q = i + k) := hq
        have HH : Hid (HIn us i k n) := hhin
        have hnb := hin_lt hhin
        have hk3 := hhin.1
        have hiq : i ≤ q := by omega
        clear hq hhin
        by_cases hqlt : q < N
        · obtain ⟨x, hx⟩ : ∃ x, us[q]? = some x := ⟨_, List.getElem?_eq_getElem (by rw [← HN.out]; exact hqlt)⟩
          have hcx := HBr.out q x hx
          have HX : Hid (us[q]? = some x) := hx
          clear hx
          by_cases h128 : 128 ≤ x.toNat
          · have h128' : (128 : Int) ≤ (x.toNat : Int) := by omega
            by_cases hk : k < 3
            · have HS : Hid (HIn us i (k + 1) (n + x.toNat % 128 * 128 ^ k)) := hin_step HH.out (by rw [← Hq.out]; exact HX.out) h128 hk
              have hand := and127 x
              have hy0 : x.toNat % 128 < 128 := Nat.mod_lt _ (by decide)
              obtain ⟨y, hy⟩ : ∃ y, y = x.toNat % 128 := ⟨_, rfl⟩
              rw [← hy] at hand hy0
              have Hy : Hid (y = x.toNat % 128) := hy
              clear hy hk3
              rcases (show k = 0 ∨ k = 1 ∨ k = 2 by omega) with rfl | rfl | rfl
              · have hnb' : n < 1 := hnb
                have hor := or0 n y hnb' (by omega)
                clear hnb
                go_wp2
                go_round
                case rel => exact ⟨1, q + 1, n + y, by omega, by rw [Hq.out], by go_num, by go_num, rfl, rfl, by have h9 := HS.out; rw [← Hy.out] at h9; simpa using h9⟩
                case measure => simp [intOf]; omega
              · have hnb' : n < 128 := hnb
                have hor := or1 n y hnb' (by omega)
                clear hnb
                go_wp2
                go_round
                case rel => exact ⟨2, q + 1, n + y * 128, by omega, by rw [Hq.out], by go_num, by go_num, rfl, rfl, by have h9 := HS.out; rw [← Hy.out] at h9; simpa using h9⟩
                case measure => simp [intOf]; omega
              · have hnb' : n < 16384 := hnb
                have hor := or2 n y hnb' (by omega)
                clear hnb
                go_wp2
                go_round
                case rel => exact ⟨3, q + 1, n + y * 16384, by omega, by rw [Hq.out], by go_num, by go_num, rfl, rfl, by have h9 := HS.out; rw [← Hy.out] at h9; simpa using h9⟩
                case measure => simp [intOf]; omega
            · have hk3e : k = 3 := by omega
              subst hk3e
              clear hk hk3
              go_wp2
              go_ret2
              exact ⟨Hbel.out, .inl ⟨_, rfl⟩⟩
          · have h128' : (x.toNat : Int) < 128 := by omega
            have HD : Hid (∀ u, u = n + x.toNat * 128 ^ k → q + 1 + u ≤ N → ∃ hdr nm, OKL (L ++ [(hdr, nm)]) ∧ us = flat (L ++ [(hdr, nm)]) ++ us.drop (q + 1 + u) ∧ q + 1 + u = (flat (L ++ [(hdr, nm)])).length ∧ nm.length = u ∧ Bytes wr b (off + (q + 1)) nm) := by
              intro u hu hle
              have e := Hq.out
              obtain ⟨hd, g1, g2, g3, g4⟩ := hin_done HH.out (by rw [← e]; exact HX.out) (by omega) hu (by rw [← HN.out, ← e]; exact hle) HUS.out HIL.out HOK.out
              rw [← e] at g1 g2 g3 g4
              exact ⟨hd, _, g1, g2, g3, g4, bytes_sub HBr.out⟩
            clear h128
            rcases (show k = 0 ∨ k = 1 ∨ k = 2 ∨ k = 3 by omega) with rfl | rfl | rfl | rfl
            · have hnb' : n < 1 := hnb
              have hor := or0 n x.toNat hnb' (by omega)
              obtain ⟨u, hu⟩ : ∃ u, u = n + x.toNat := ⟨_, rfl⟩
              rw [← hu] at hor
              have Hu : Hid (u = n + x.toNat) := hu
              clear hu hnb
              by_cases hun : q + 1 + u ≤ N
              · have hd := HD.out u (by have := Hu.out; omega) hun
                obtain ⟨hdr, nm, d1, d2, d3, d4, d5⟩ := hd
                have D1 : Hid (OKL (L ++ [(hdr, nm)])) := d1
                have D2 : Hid (us = flat (L ++ [(hdr, nm)]) ++ us.drop (q + 1 + u)) := d2
                have D3 : Hid (q + 1 + u = (flat (L ++ [(hdr, nm)])).length) := d3
                have D4 : Hid (nm.length = u) := d4
                have D5 : Hid (Bytes wr b (off + (q + 1)) nm) := d5
                clear d1 d2 d3 d4 d5
                by_cases hcq : cap = q + 1
                · have hu0 : u = 0 := by omega
                  have hnm : nm = [] := List.length_eq_zero_iff.1 (by have := D4.out; omega)
                  subst hu0
                  subst hnm
                  subst hcq
                  have hcv := conv0 (w := wr) (b := b) (off := off) (cap := 0) 22 Try.underlying22
                  go_wp2_with (at_builtin; refine wpList_append_own _ rfl _ _ 44 rfl w.heap.size 9 i0 (.string ⟨#[]⟩) 1 16 Try.underlying44 hi hz0 hz1 hz2 rfl (by decide) _ _ _ rfl (Hown.out.alloc _) ⟨_, 0, none⟩ 1 1 [.string ⟨#[]⟩] rfl rfl (cell_one_new _ _ _) (by intro u hu; simp at hu; subst hu; rfl) (by unfold maxLen; omega) (by omega) (by have := Hbel.out.size; simp; omega) ?_; intro v' w2 hown2 hgrow2 _)
                  go_roundw
                  case rel => exact ⟨_, _, q + 1 + 0, D1.out, D2.out, D3.out, hun, by go_num, own_put Hm.out hown2, bel_put Hbel.out hgrow2 Hown.out⟩
                  case measure => simp [intOf]; omega
                · have hcv := conv (w := wr) (b := b) (off := off + (q + 1)) (cap := cap - (q + 1)) (nm := nm) 22 Try.underlying22 D5.out
                  rw [D4.out] at hcv
                  go_wp2_with (at_builtin; refine wpList_append_own _ rfl _ _ 44 rfl w.heap.size 9 i0 (.string ⟨#[]⟩) 1 16 Try.underlying44 hi hz0 hz1 hz2 rfl (by decide) _ _ _ rfl (Hown.out.alloc _) ⟨_, 0, none⟩ 1 1 [.string ⟨nm.toArray⟩] rfl rfl (cell_one_new _ _ _) (by intro u hu; simp at hu; subst hu; rfl) (by unfold maxLen; omega) (by omega) (by have := Hbel.out.size; simp; omega) ?_; intro v' w2 hown2 hgrow2 _)
                  go_roundw
                  case rel => exact ⟨_, _, q + 1 + u, D1.out, D2.out, D3.out, hun, by go_num, own_put Hm.out hown2, bel_put Hbel.out hgrow2 Hown.out⟩
                  case measure => simp [intOf]; omega
              · go_wp2
                go_ret2
                exact ⟨Hbel.out, .inl ⟨_, rfl⟩⟩
            · have hnb' : n < 128 := hnb
              have hor := or1 n x.toNat hnb' (by omega)
              obtain ⟨u, hu⟩ : ∃ u, u = n + x.toNat * 128 := ⟨_, rfl⟩
              rw [← hu] at hor
              have Hu : Hid (u = n + x.toNat * 128) := hu
              clear hu hnb
              by_cases hun : q + 1 + u ≤ N
              · have hd := HD.out u (by have := Hu.out; omega) hun
                obtain ⟨hdr, nm, d1, d2, d3, d4, d5⟩ := hd
                have D1 : Hid (OKL (L ++ [(hdr, nm)])) := d1
                have D2 : Hid (us = flat (L ++ [(hdr, nm)]) ++ us.drop (q + 1 + u)) := d2
                have D3 : Hid (q + 1 + u = (flat (L ++ [(hdr, nm)])).length) := d3
                have D4 : Hid (nm.length = u) := d4
                have D5 : Hid (Bytes wr b (off + (q + 1)) nm) := d5
                clear d1 d2 d3 d4 d5
                by_cases hcq : cap = q + 1
                · have hu0 : u = 0 := by omega
                  have hnm : nm = [] := List.length_eq_zero_iff.1 (by have := D4.out; omega)
                  subst hu0
                  subst hnm
                  subst hcq
                  have hcv := conv0 (w := wr) (b := b) (off := off) (cap := 0) 22 Try.underlying22
                  go_wp2_with (at_builtin; refine wpList_append_own _ rfl _ _ 44 rfl w.heap.size 9 i0 (.string ⟨#[]⟩) 1 16 Try.underlying44 hi hz0 hz1 hz2 rfl (by decide) _ _ _ rfl (Hown.out.alloc _) ⟨_, 0, none⟩ 1 1 [.string ⟨#[]⟩] rfl rfl (cell_one_new _ _ _) (by intro u hu; simp at hu; subst hu; rfl) (by unfold maxLen; omega) (by omega) (by have := Hbel.out.size; simp; omega) ?_; intro v' w2 hown2 hgrow2 _)
                  go_roundw
                  case rel => exact ⟨_, _, q + 1 + 0, D1.out, D2.out, D3.out, hun, by go_num, own_put Hm.out hown2, bel_put Hbel.out hgrow2 Hown.out⟩
                  case measure => simp [intOf]; omega
                · have hcv := conv (w := wr) (b := b) (off := off + (q + 1)) (cap := cap - (q + 1)) (nm := nm) 22 Try.underlying22 D5.out
                  rw [D4.out] at hcv
                  go_wp2_with (at_builtin; refine wpList_append_own _ rfl _ _ 44 rfl w.heap.size 9 i0 (.string ⟨#[]⟩) 1 16 Try.underlying44 hi hz0 hz1 hz2 rfl (by decide) _ _ _ rfl (Hown.out.alloc _) ⟨_, 0, none⟩ 1 1 [.string ⟨nm.toArray⟩] rfl rfl (cell_one_new _ _ _) (by intro u hu; simp at hu; subst hu; rfl) (by unfold maxLen; omega) (by omega) (by have := Hbel.out.size; simp; omega) ?_; intro v' w2 hown2 hgrow2 _)
                  go_roundw
                  case rel => exact ⟨_, _, q + 1 + u, D1.out, D2.out, D3.out, hun, by go_num, own_put Hm.out hown2, bel_put Hbel.out hgrow2 Hown.out⟩
                  case measure => simp [intOf]; omega
              · go_wp2
                go_ret2
                exact ⟨Hbel.out, .inl ⟨_, rfl⟩⟩
            · have hnb' : n < 16384 := hnb
              have hor := or2 n x.toNat hnb' (by omega)
              obtain ⟨u, hu⟩ : ∃ u, u = n + x.toNat * 16384 := ⟨_, rfl⟩
              rw [← hu] at hor
              have Hu : Hid (u = n + x.toNat * 16384) := hu
              clear hu hnb
              by_cases hun : q + 1 + u ≤ N
              · have hd := HD.out u (by have := Hu.out; omega) hun
                obtain ⟨hdr, nm, d1, d2, d3, d4, d5⟩ := hd
                have D1 : Hid (OKL (L ++ [(hdr, nm)])) := d1
                have D2 : Hid (us = flat (L ++ [(hdr, nm)]) ++ us.drop (q + 1 + u)) := d2
                have D3 : Hid (q + 1 + u = (flat (L ++ [(hdr, nm)])).length) := d3
                have D4 : Hid (nm.length = u) := d4
                have D5 : Hid (Bytes wr b (off + (q + 1)) nm) := d5
                clear d1 d2 d3 d4 d5
                by_cases hcq : cap = q + 1
                · have hu0 : u = 0 := by omega
                  have hnm : nm = [] := List.length_eq_zero_iff.1 (by have := D4.out; omega)
                  subst hu0
                  subst hnm
                  subst hcq
                  have hcv := conv0 (w := wr) (b := b) (off := off) (cap := 0) 22 Try.underlying22
                  go_wp2_with (at_builtin; refine wpList_append_own _ rfl _ _ 44 rfl w.heap.size 9 i0 (.string ⟨#[]⟩) 1 16 Try.underlying44 hi hz0 hz1 hz2 rfl (by decide) _ _ _ rfl (Hown.out.alloc _) ⟨_, 0, none⟩ 1 1 [.string ⟨#[]⟩] rfl rfl (cell_one_new _ _ _) (by intro u hu; simp at hu; subst hu; rfl) (by unfold maxLen; omega) (by omega) (by have := Hbel.out.size; simp; omega) ?_; intro v' w2 hown2 hgrow2 _)
                  go_roundw
                  case rel => exact ⟨_, _, q + 1 + 0, D1.out, D2.out, D3.out, hun, by go_num, own_put Hm.out hown2, bel_put Hbel.out hgrow2 Hown.out⟩
                  case measure => simp [intOf]; omega
                · have hcv := conv (w := wr) (b := b) (off := off + (q + 1)) (cap := cap - (q + 1)) (nm := nm) 22 Try.underlying22 D5.out
                  rw [D4.out] at hcv
                  go_wp2_with (at_builtin; refine wpList_append_own _ rfl _ _ 44 rfl w.heap.size 9 i0 (.string ⟨#[]⟩) 1 16 Try.underlying44 hi hz0 hz1 hz2 rfl (by decide) _ _ _ rfl (Hown.out.alloc _) ⟨_, 0, none⟩ 1 1 [.string ⟨nm.toArray⟩] rfl rfl (cell_one_new _ _ _) (by intro u hu; simp at hu; subst hu; rfl) (by unfold maxLen; omega) (by omega) (by have := Hbel.out.size; simp; omega) ?_; intro v' w2 hown2 hgrow2 _)
                  go_roundw
                  case rel => exact ⟨_, _, q + 1 + u, D1.out, D2.out, D3.out, hun, by go_num, own_put Hm.out hown2, bel_put Hbel.out hgrow2 Hown.out⟩
                  case measure => simp [intOf]; omega
              · go_wp2
                go_ret2
                exact ⟨Hbel.out, .inl ⟨_, rfl⟩⟩
            · have hnb' : n < 2097152 := hnb
              have hor := or3 n x.toNat hnb' (by omega)
              obtain ⟨u, hu⟩ : ∃ u, u = n + x.toNat * 2097152 := ⟨_, rfl⟩
              rw [← hu] at hor
              have Hu : Hid (u = n + x.toNat * 2097152) := hu
              clear hu hnb
              by_cases hun : q + 1 + u ≤ N
              · have hd := HD.out u (by have := Hu.out; omega) hun
                obtain ⟨hdr, nm, d1, d2, d3, d4, d5⟩ := hd
                have D1 : Hid (OKL (L ++ [(hdr, nm)])) := d1
                have D2 : Hid (us = flat (L ++ [(hdr, nm)]) ++ us.drop (q + 1 + u)) := d2
                have D3 : Hid (q + 1 + u = (flat (L ++ [(hdr, nm)])).length) := d3
                have D4 : Hid (nm.length = u) := d4
                have D5 : Hid (Bytes wr b (off + (q + 1)) nm) := d5
                clear d1 d2 d3 d4 d5
                by_cases hcq : cap = q + 1
                · have hu0 : u = 0 := by omega
                  have hnm : nm = [] := List.length_eq_zero_iff.1 (by have := D4.out; omega)
                  subst hu0
                  subst hnm
                  subst hcq
                  have hcv := conv0 (w := wr) (b := b) (off := off) (cap := 0) 22 Try.underlying22
                  go_wp2_with (at_builtin; refine wpList_append_own _ rfl _ _ 44 rfl w.heap.size 9 i0 (.string ⟨#[]⟩) 1 16 Try.underlying44 hi hz0 hz1 hz2 rfl (by decide) _ _ _ rfl (Hown.out.alloc _) ⟨_, 0, none⟩ 1 1 [.string ⟨#[]⟩] rfl rfl (cell_one_new _ _ _) (by intro u hu; simp at hu; subst hu; rfl) (by unfold maxLen; omega) (by omega) (by have := Hbel.out.size; simp; omega) ?_; intro v' w2 hown2 hgrow2 _)
                  go_roundw
                  case rel => exact ⟨_, _, q + 1 + 0, D1.out, D2.out, D3.out, hun, by go_num, own_put Hm.out hown2, bel_put Hbel.out hgrow2 Hown.out⟩
                  case measure => simp [intOf]; omega
                · have hcv := conv (w := wr) (b := b) (off := off + (q + 1)) (cap := cap - (q + 1)) (nm := nm) 22 Try.underlying22 D5.out
                  rw [D4.out] at hcv
                  go_wp2_with (at_builtin; refine wpList_append_own _ rfl _ _ 44 rfl w.heap.size 9 i0 (.string ⟨#[]⟩) 1 16 Try.underlying44 hi hz0 hz1 hz2 rfl (by decide) _ _ _ rfl (Hown.out.alloc _) ⟨_, 0, none⟩ 1 1 [.string ⟨nm.toArray⟩] rfl rfl (cell_one_new _ _ _) (by intro u hu; simp at hu; subst hu; rfl) (by unfold maxLen; omega) (by omega) (by have := Hbel.out.size; simp; omega) ?_; intro v' w2 hown2 hgrow2 _)
                  go_roundw
                  case rel => exact ⟨_, _, q + 1 + u, D1.out, D2.out, D3.out, hun, by go_num, own_put Hm.out hown2, bel_put Hbel.out hgrow2 Hown.out⟩
                  case measure => simp [intOf]; omega
              · go_wp2
                go_ret2
                exact ⟨Hbel.out, .inl ⟨_, rfl⟩⟩
        · have hqN' : q = N := by omega
          have Hqn : Hid (q = N) := hqN'
          clear hqN' hk3
          go_wp2
          go_ret2
          exact ⟨Hbel.out, .inl ⟨_, rfl⟩⟩
    · have HF : Hid (us = flat L) := by
        have e : Z = [] := by
          have h1 := congrArg List.length HUS.out
          rw [List.length_append, ← HIL.out, ← HN.out] at h1
          exact List.length_eq_zero_iff.1 (by omega)
        have h2 := HUS.out
        rw [e, List.append_nil] at h2
        exact h2
      go_wp2
      go_ret2
      exact ⟨Hbel.out, .inr ⟨L, _, HOK.out, HF.out, rfl, by rw [← Hm.out]; exact Hown.out⟩⟩
end Go.Proofs.Qxb6602793a.Pa
