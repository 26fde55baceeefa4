import Derived.Test.Qxb6602793aPaB
namespace Go.Proofs.Qxb6602793a.Pa
open Go.RowKit Go.Proofs.Qxb6602793a.Mem

/-- Cells that hold bytes. -/
def Bytes (w : World) (b off : Nat) (us : List UInt8) : Prop := ∀ j x, us[j]? = some x → w.cell? ⟨b, off + j, none⟩ = some (.int .u8 (x.toNat : Int))

/-- A name as a slice of a path's own bytes. -/
def PathRet (w w' : World) (b : Nat) (nm : List UInt8) (nx : Nat) (e : Ending) : Prop :=
  ∃ off cap, e = .returned (.tuple #[.slice (some ⟨b, off, none⟩) nm.length cap, .int .i64 nx]) ∧ Bytes w b off nm ∧ w = w'

theorem path_ret0 {w : World} {b off cap u nx : Nat} {nm : List UInt8} {x : Int} (h0 : u = 0) (hu : u = nm.length) (hx : x = (nx : Int)) :
    PathRet w w b nm nx (.returned (.tuple #[.slice (some ⟨b, off, none⟩) u cap, .int .i64 x])) := by
  subst hx
  refine ⟨off, cap, by rw [hu], ?_, rfl⟩
  intro j y hy
  have : nm = [] := List.length_eq_zero_iff.1 (by omega)
  subst this
  simp at hy
theorem path_ret1 {w : World} {b off o cap u nx q : Nat} {nm : List UInt8} {x : Int} (hq : q = o) (hu : u = nm.length) (hx : x = (nx : Int)) (hb : ∀ j y, nm[j]? = some y → w.cell? ⟨b, off + o + j, none⟩ = some (.int .u8 (y.toNat : Int))) :
    PathRet w w b nm nx (.returned (.tuple #[.slice (some ⟨b, off + q, none⟩) u cap, .int .i64 x])) := by
  subst hx; subst hq
  exact ⟨off + q, cap, by rw [hu], hb, rfl⟩

set_option maxRecDepth 100000 in
set_option maxHeartbeats 1000000 in
theorem nameAt_path (b off cap : Nat) (us p h nm z : List UInt8) (w : World) (hb : Bytes w b off us) (hcap : us.length ≤ cap) (hl : Lies us p h nm z) (hsz : us.length ≤ 1048576) :
    Calls Try.prog 30 #[.slice (some ⟨b, off, none⟩) us.length cap, .int .i64 p.length] w fun e w' => PathRet w w' b nm (p.length + h.length + nm.length) e := by
  obtain ⟨hus, ⟨a, c, rfl, hhi, hlo, hal⟩, hnl⟩ := hl
  obtain ⟨N, hN⟩ : ∃ N, N = us.length := ⟨_, rfl⟩
  rw [← hN] at hcap hsz ⊢
  have Htot : p.length + (a.length + 1) + nm.length ≤ N := by rw [hN, hus]; simp; omega
  have Hn : Hid (nm.length = hvl a + c.toNat * 128 ^ a.length) := by rw [hnl, hvl_snoc hlo]; exact rfl
  have Hat : Hid (∀ k x, (a ++ [c])[k]? = some x → w.cell? ⟨b, off + (p.length + k), none⟩ = some (.int .u8 (x.toNat : Int))) := by
    intro k x hx
    refine hb _ _ ?_
    rw [hus, at_list]
    obtain ⟨hk, he⟩ := List.getElem?_eq_some_iff.1 hx
    rw [List.getElem?_append_left hk]; exact hx
  have HBy : Hid (∀ j x, nm[j]? = some x → w.cell? ⟨b, off + (p.length + (a.length + 1)) + j, none⟩ = some (.int .u8 (x.toNat : Int))) := by
    intro j x hx
    have e : off + (p.length + (a.length + 1)) + j = off + (p.length + ((a ++ [c]).length + j)) := by simp; omega
    rw [e]
    refine hb _ _ ?_
    rw [hus, at_list, at_list]
    obtain ⟨hk, he⟩ := List.getElem?_eq_some_iff.1 hx
    rw [List.getElem?_append_left hk]; exact hx
  have Hhi : Hid (∀ x ∈ a, 128 ≤ x.toNat) := hhi
  clear hus hhi hnl hb hN
  go_enter Try.func30, Try.ntmps30
  go_wp2
  go_loop [1, 6, 7] (fun iv nv sv => ∃ k q n : Nat, k ≤ a.length ∧ q = p.length + k ∧ iv = .int .i64 q ∧ nv = .int .i64 n ∧ n = hvl (a.take k) ∧ sv = .int .i64 ((7 * k : Nat) : Int)) (fun iv _ _ => p.length + a.length + 1 - (intOf iv).toNat)
  case atStart => exact ⟨0, _, 0, Nat.zero_le _, rfl, rfl, rfl, rfl, rfl⟩
  case round =>
    obtain ⟨k, q, n, hk, hq, rfl, rfl, hn, rfl⟩ := hrel
    have Hnk : Hid (n = hvl (a.take k)) := hn
    have hnb : n < 128 ^ k := by
      have := hvl_lt (a.take k)
      rw [← hn, List.length_take, Nat.min_eq_left hk] at this
      exact this
    have Hq : Hid (q = p.length + k) := hq
    have hqb : q ≤ p.length + a.length := by omega
    clear hn
    by_cases hlt : k < a.length
    · obtain ⟨x, hx⟩ : ∃ x, a[k]? = some x := ⟨_, List.getElem?_eq_getElem hlt⟩
      have hsx := Hat.out k x (by rw [List.getElem?_append_left hlt]; exact hx)
      have hx128 := Hhi.out x (List.mem_of_getElem? hx)
      have HN1 : Hid (hvl (a.take (k + 1)) = n + x.toNat % 128 * 128 ^ k) := by rw [hvl_take hx, Hnk.out]; exact rfl
      have hand := and127 x
      have hm : x.toNat % 128 < 128 := Nat.mod_lt _ (by decide)
      obtain ⟨m, hmm⟩ : ∃ m, m = x.toNat % 128 := ⟨_, rfl⟩
      rw [← hmm] at hand hm HN1
      have hx128' : (128 : Int) ≤ (x.toNat : Int) := by omega
      have hqs : q < N := by omega
      have hsq : w.cell? ⟨b, off + q, none⟩ = some (.int .u8 (x.toNat : Int)) := by subst hq; exact hsx
      clear hmm hx hsx hq
      rcases (show k = 0 ∨ k = 1 ∨ k = 2 by omega) with rfl | rfl | rfl
      · have hnb' : n < 1 := hnb
        have hor := or0 n m hnb' (by omega)
        clear hnb
        go_wp2
        go_round
        case rel => exact ⟨1, q + 1, n + m, by omega, by rw [Hq.out], by go_num, by go_num, by rw [HN1.out]; omega, rfl⟩
        case measure => simp [intOf]; omega
      · have hnb' : n < 128 := hnb
        have hor := or1 n m hnb' (by omega)
        clear hnb
        go_wp2
        go_round
        case rel => exact ⟨2, q + 1, n + m * 128, by omega, by rw [Hq.out], by go_num, by go_num, by rw [HN1.out], rfl⟩
        case measure => simp [intOf]; omega
      · have hnb' : n < 16384 := hnb
        have hor := or2 n m hnb' (by omega)
        clear hnb
        go_wp2
        go_round
        case rel => exact ⟨3, q + 1, n + m * 16384, by omega, by rw [Hq.out], by go_num, by go_num, by rw [HN1.out], rfl⟩
        case measure => simp [intOf]; omega
    · have hka : k = a.length := by omega
      have hsx := Hat.out k c (by rw [hka]; simp)
      have hqs : q < N := by omega
      have hsq : w.cell? ⟨b, off + q, none⟩ = some (.int .u8 (c.toNat : Int)) := by subst hq; exact hsx
      have HN1 : Hid (nm.length = n + c.toNat * 128 ^ k) := by
        rw [Hn.out, Hnk.out, hka, List.take_of_length_le (Nat.le_refl _)]; exact rfl
      have HR : Hid (∀ u, u = n + c.toNat * 128 ^ k → u = nm.length ∧ q + 1 = p.length + (a.length + 1) ∧ q + 1 + u ≤ N) := by
        intro u hu
        have e1 : u = nm.length := by rw [hu, HN1.out]
        have e2 : q + 1 = p.length + (a.length + 1) := by rw [Hq.out, hka]; omega
        exact ⟨e1, e2, by omega⟩
      have hc128 : (c.toNat : Int) < 128 := by omega
      have hk3 : k ≤ 3 := by omega
      clear hsx hq hka hlt hk
      rcases (show k = 0 ∨ k = 1 ∨ k = 2 ∨ k = 3 by omega) with rfl | rfl | rfl | rfl
      · have hnb' : n < 1 := hnb
        have hor := or0 n c.toNat hnb' (by omega)
        obtain ⟨r1, r2, r3⟩ := HR.out (n + c.toNat) (by omega)
        have R1 : Hid _ := r1
        have R2 : Hid _ := r2
        obtain ⟨u, hu⟩ : ∃ u, u = n + c.toNat := ⟨_, rfl⟩
        rw [← hu] at hor r3 R1
        clear hnb r1 r2 hu
        go_wp2
        · go_ret2
          exact path_ret0 (by omega) R1.out (by have h9 := R2.out; have h8 := R1.out; omega)
        · go_ret2
          exact path_ret1 R2.out R1.out (by have h9 := R2.out; have h8 := R1.out; omega) HBy.out
      · have hnb' : n < 128 := hnb
        have hor := or1 n c.toNat hnb' (by omega)
        obtain ⟨r1, r2, r3⟩ := HR.out (n + c.toNat * 128) (by omega)
        have R1 : Hid _ := r1
        have R2 : Hid _ := r2
        obtain ⟨u, hu⟩ : ∃ u, u = n + c.toNat * 128 := ⟨_, rfl⟩
        rw [← hu] at hor r3 R1
        clear hnb r1 r2 hu
        go_wp2
        · go_ret2
          exact path_ret0 (by omega) R1.out (by have h9 := R2.out; have h8 := R1.out; omega)
        · go_ret2
          exact path_ret1 R2.out R1.out (by have h9 := R2.out; have h8 := R1.out; omega) HBy.out
      · have hnb' : n < 16384 := hnb
        have hor := or2 n c.toNat hnb' (by omega)
        obtain ⟨r1, r2, r3⟩ := HR.out (n + c.toNat * 16384) (by omega)
        have R1 : Hid _ := r1
        have R2 : Hid _ := r2
        obtain ⟨u, hu⟩ : ∃ u, u = n + c.toNat * 16384 := ⟨_, rfl⟩
        rw [← hu] at hor r3 R1
        clear hnb r1 r2 hu
        go_wp2
        · go_ret2
          exact path_ret0 (by omega) R1.out (by have h9 := R2.out; have h8 := R1.out; omega)
        · go_ret2
          exact path_ret1 R2.out R1.out (by have h9 := R2.out; have h8 := R1.out; omega) HBy.out
      · have hnb' : n < 2097152 := hnb
        have hor := or3 n c.toNat hnb' (by omega)
        obtain ⟨r1, r2, r3⟩ := HR.out (n + c.toNat * 2097152) (by omega)
        have R1 : Hid _ := r1
        have R2 : Hid _ := r2
        obtain ⟨u, hu⟩ : ∃ u, u = n + c.toNat * 2097152 := ⟨_, rfl⟩
        rw [← hu] at hor r3 R1
        clear hnb r1 r2 hu
        go_wp2
        · go_ret2
          exact path_ret0 (by omega) R1.out (by have h9 := R2.out; have h8 := R1.out; omega)
        · go_ret2
          exact path_ret1 R2.out R1.out (by have h9 := R2.out; have h8 := R1.out; omega) HBy.out
end Go.Proofs.Qxb6602793a.Pa
