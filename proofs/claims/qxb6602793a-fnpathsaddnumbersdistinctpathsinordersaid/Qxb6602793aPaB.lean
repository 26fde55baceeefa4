import Derived.Test.Qxb6602793aMemA
import Derived.Test.Qxb6602793aPaA
import Derived.Laws.IdiomStrings
import Derived.Laws.BitsLemmas
import Derived.Lib.Strings
namespace Go.Proofs.Qxb6602793a.Pa
open Go.RowKit Go.Proofs.Qxb6602793a.Mem

theorem wraps_i64 (n : Int) (h₀ : 0 ≤ n) (h₁ : n < 2 ^ 62) : IntKind.i64.wrap n = n := by rw [IntKind.wrap_i64]; omega
theorem and127 (x : UInt8) : bits .and .u8 (x.toNat : Int) 127 = ((x.toNat % 128 : Nat) : Int) := by
  have h := x.toNat_lt
  have := bits_mask .u8 8 (by decide) wraps_u8 7 (by decide) (x.toNat : Int) (by omega) (by omega)
  simpa using this
theorem or_join (n m i : Nat) (h : n < 2 ^ i) (h1 : n < 2 ^ 62) (h2 : m * 2 ^ i < 2 ^ 62) : bits .or .i64 (n : Int) ((m * 2 ^ i : Nat) : Int) = ((n + m * 2 ^ i : Nat) : Int) := by
  have e := (bits_nat .i64 62 (by decide) wraps_i64 n (m * 2 ^ i) h1 h2).2
  rw [e, Nat.or_comm, Nat.mul_comm m, ← Nat.two_pow_add_eq_or_of_lt h m, Nat.add_comm]
theorem or0 (n m : Nat) (h : n < 1) (h2 : m < 256) : bits .or .i64 (n : Int) (m : Int) = ((n + m : Nat) : Int) := by
  have := or_join n m 0 (by simpa using h) (by omega) (by omega)
  simpa using this
theorem or1 (n m : Nat) (h : n < 128) (h2 : m < 256) : bits .or .i64 (n : Int) ((m : Int) * 128) = ((n + m * 128 : Nat) : Int) := by
  have := or_join n m 7 (by omega) (by omega) (by omega)
  simpa using this
theorem or2 (n m : Nat) (h : n < 16384) (h2 : m < 256) : bits .or .i64 (n : Int) ((m : Int) * 16384) = ((n + m * 16384 : Nat) : Int) := by
  have := or_join n m 14 (by omega) (by omega) (by omega)
  simpa using this
theorem or3 (n m : Nat) (h : n < 2097152) (h2 : m < 256) : bits .or .i64 (n : Int) ((m : Int) * 2097152) = ((n + m * 2097152 : Nat) : Int) := by
  have := or_join n m 21 (by omega) (by omega) (by omega)
  simpa using this

theorem at_list {a b : List UInt8} {k : Nat} : (a ++ b)[a.length + k]? = b[k]? := by
  rw [List.getElem?_append_right (by omega)]
  congr 1
  omega
theorem byte_at {q : ByteArray} {l : List UInt8} {k : Nat} {c : UInt8} (hq : q.data.toList = l) (h : l[k]? = some c) : ∃ hk : k < q.size, q[k] = c := by
  subst hq
  obtain ⟨hk, he⟩ := List.getElem?_eq_some_iff.1 h
  exact ⟨by rw [Lib.size_eq]; exact hk, he⟩

/-- Where a name lies in a text of names. -/
def Lies (us p h nm z : List UInt8) : Prop := us = p ++ (h ++ (nm ++ z)) ∧ Hdr h ∧ nm.length = hvl h

theorem hvl_take {a : List UInt8} {k : Nat} {x : UInt8} (h : a[k]? = some x) : hvl (a.take (k + 1)) = hvl (a.take k) + x.toNat % 128 * 128 ^ k := by
  obtain ⟨hk, he⟩ := List.getElem?_eq_some_iff.1 h
  rw [List.take_succ_eq_append_getElem hk, hvl_append, he]
  have : (a.take k).length = k := by simp; omega
  rw [this]
  simp [hvl, Nat.mul_comm]
theorem hvl_snoc {a : List UInt8} {c : UInt8} (hc : c.toNat < 128) : hvl (a ++ [c]) = hvl a + c.toNat * 128 ^ a.length := by
  rw [hvl_append]
  simp [hvl, Nat.mod_eq_of_lt hc, Nat.mul_comm]

theorem extract_is {s : ByteArray} {p h nm z : List UInt8} (hs : s.data.toList = p ++ (h ++ (nm ++ z))) : s.extract (p.length + h.length) (p.length + h.length + nm.length) = ⟨nm.toArray⟩ := by
  rw [Lib.extract_eq, hs]
  congr 2
  have e : p ++ (h ++ (nm ++ z)) = (p ++ h) ++ (nm ++ z) := by simp
  rw [e, ← List.length_append, List.drop_left, Nat.add_sub_cancel_left, List.take_left]

theorem ret_pair {a b : ByteArray} {x y : Int} (ha : a = b) (h : x = y) : Ending.returned (.tuple #[.string a, .int .i64 x]) = .returned (.tuple #[.string b, .int .i64 y]) := by rw [ha, h]
def NameRet (w w' : World) (nm : List UInt8) (nx : Nat) (e : Ending) : Prop := e = .returned (.tuple #[.string ⟨nm.toArray⟩, .int .i64 nx]) ∧ w = w'

set_option maxRecDepth 100000 in
set_option maxHeartbeats 1000000 in
theorem nameAt_str (s : ByteArray) (p h nm z : List UInt8) (w : World) (hl : Lies s.data.toList p h nm z) (hsz : s.size ≤ 1048576) :
    Calls Try.prog 31 #[.string s, .int .i64 p.length] w fun e w' => NameRet w w' nm (p.length + h.length + nm.length) e := by
  obtain ⟨hus, ⟨a, c, rfl, hhi, hlo, hal⟩, hnl⟩ := hl
  have Hex := extract_is hus
  have HEx : Hid (s.extract (p.length + (a ++ [c]).length) (p.length + (a ++ [c]).length + nm.length) = ⟨nm.toArray⟩) := Hex
  have Htot : p.length + (a.length + 1) + nm.length ≤ s.size := by rw [Lib.size_eq, hus]; simp; omega
  have Hn : Hid (nm.length = hvl a + c.toNat * 128 ^ a.length) := by rw [hnl, hvl_snoc hlo]; exact rfl
  have Hat : Hid (∀ k x, (a ++ [c])[k]? = some x → ∃ hk : p.length + k < s.size, s[p.length + k] = x) := by
    intro k x hx
    refine byte_at hus ?_
    rw [at_list]
    obtain ⟨hk, he⟩ := List.getElem?_eq_some_iff.1 hx
    rw [List.getElem?_append_left hk]; exact hx
  have Hhi : Hid (∀ x ∈ a, 128 ≤ x.toNat) := hhi
  clear hus hhi hnl Hex
  go_enter Try.func31, Try.ntmps31
  go_wp2
  go_loop [1, 6, 7] (fun iv nv sv => ∃ k q n : Nat, k ≤ a.length ∧ q = p.length + k ∧ iv = .int .i64 q ∧ nv = .int .i64 n ∧ n = hvl (a.take k) ∧ sv = .int .i64 ((7 * k : Nat) : Int)) (fun iv _ _ => p.length + a.length + 1 - (intOf iv).toNat)
  case atStart => exact ⟨0, _, 0, Nat.zero_le _, rfl, rfl, rfl, rfl, rfl⟩
  case round =>
    obtain ⟨k, q, n, hk, hq, rfl, rfl, hn, rfl⟩ := hrel
    have Hnk : Hid (n = hvl (a.take k)) := hn
    have hnb : n < 128 ^ k := by
      have := hvl_lt (a.take k)
      rw [← hn, List.length_take, Nat.min_eq_left hk] at this
      exact this
    have Hq : Hid (q = p.length + k) := hq
    have hqb : q ≤ p.length + a.length := by omega
    clear hn
    by_cases hlt : k < a.length
    · obtain ⟨x, hx⟩ : ∃ x, a[k]? = some x := ⟨_, List.getElem?_eq_getElem hlt⟩
      obtain ⟨hki, hsx⟩ := Hat.out k x (by rw [List.getElem?_append_left hlt]; exact hx)
      have hx128 := Hhi.out x (List.mem_of_getElem? hx)
      have HN1 : Hid (hvl (a.take (k + 1)) = n + x.toNat % 128 * 128 ^ k) := by rw [hvl_take hx, Hnk.out]; exact rfl
      have hand := and127 x
      have hm : x.toNat % 128 < 128 := Nat.mod_lt _ (by decide)
      obtain ⟨m, hmm⟩ : ∃ m, m = x.toNat % 128 := ⟨_, rfl⟩
      rw [← hmm] at hand hm HN1
      have hx128' : (128 : Int) ≤ (x.toNat : Int) := by omega
      have hqs : q < s.size := by omega
      have hsq : s[q] = x := by subst hq; exact hsx
      clear hmm hx hki hsx hq
      rcases (show k = 0 ∨ k = 1 ∨ k = 2 by omega) with rfl | rfl | rfl
      · have hnb' : n < 1 := hnb
        have hor := or0 n m hnb' (by omega)
        clear hnb
        go_wp2
        go_round
        case rel => exact ⟨1, q + 1, n + m, by omega, by rw [Hq.out], by go_num, by go_num, by rw [HN1.out]; omega, rfl⟩
        case measure => simp [intOf]; omega
      · have hnb' : n < 128 := hnb
        have hor := or1 n m hnb' (by omega)
        clear hnb
        go_wp2
        go_round
        case rel => exact ⟨2, q + 1, n + m * 128, by omega, by rw [Hq.out], by go_num, by go_num, by rw [HN1.out], rfl⟩
        case measure => simp [intOf]; omega
      · have hnb' : n < 16384 := hnb
        have hor := or2 n m hnb' (by omega)
        clear hnb
        go_wp2
        go_round
        case rel => exact ⟨3, q + 1, n + m * 16384, by omega, by rw [Hq.out], by go_num, by go_num, by rw [HN1.out], rfl⟩
        case measure => simp [intOf]; omega
    · have hka : k = a.length := by omega
      obtain ⟨hki, hsx⟩ := Hat.out k c (by rw [hka]; simp)
      have hqs : q < s.size := by omega
      have hsq : s[q] = c := by subst hq; exact hsx
      have HN1 : Hid (nm.length = n + c.toNat * 128 ^ k) := by
        rw [Hn.out, Hnk.out, hka, List.take_of_length_le (Nat.le_refl _)]; exact rfl
      have HR : Hid (∀ u, u = n + c.toNat * 128 ^ k → s.extract (q + 1) (q + 1 + u) = ⟨nm.toArray⟩ ∧ q + 1 + u = p.length + (a ++ [c]).length + nm.length ∧ q + 1 + u ≤ s.size) := by
        intro u hu
        have e1 : u = nm.length := by rw [hu, HN1.out]
        have e2 : q + 1 = p.length + (a ++ [c]).length := by rw [Hq.out, hka]; simp; omega
        rw [e1, e2]
        refine ⟨HEx.out, rfl, ?_⟩
        simp; omega
      have hc128 : (c.toNat : Int) < 128 := by omega
      have hk3 : k ≤ 3 := by omega
      clear hki hsx hq hka hlt hk
      rcases (show k = 0 ∨ k = 1 ∨ k = 2 ∨ k = 3 by omega) with rfl | rfl | rfl | rfl
      · have hnb' : n < 1 := hnb
        have hor := or0 n c.toNat hnb' (by omega)
        obtain ⟨r1, r2, r3⟩ := HR.out (n + c.toNat) (by omega)
        have R1 : Hid _ := r1
        have R2 : Hid _ := r2
        obtain ⟨u, hu⟩ : ∃ u, u = n + c.toNat := ⟨_, rfl⟩
        rw [← hu] at hor r3 R1 R2
        clear hnb r1 r2 hu
        go_wp2
        go_ret2
        exact ⟨ret_pair R1.out (by have h9 := R2.out; simp only [List.length_append, List.length_cons, List.length_nil] at h9 ⊢; omega), rfl⟩
      · have hnb' : n < 128 := hnb
        have hor := or1 n c.toNat hnb' (by omega)
        obtain ⟨r1, r2, r3⟩ := HR.out (n + c.toNat * 128) (by omega)
        have R1 : Hid _ := r1
        have R2 : Hid _ := r2
        obtain ⟨u, hu⟩ : ∃ u, u = n + c.toNat * 128 := ⟨_, rfl⟩
        rw [← hu] at hor r3 R1 R2
        clear hnb r1 r2 hu
        go_wp2
        go_ret2
        exact ⟨ret_pair R1.out (by have h9 := R2.out; simp only [List.length_append, List.length_cons, List.length_nil] at h9 ⊢; omega), rfl⟩
      · have hnb' : n < 16384 := hnb
        have hor := or2 n c.toNat hnb' (by omega)
        obtain ⟨r1, r2, r3⟩ := HR.out (n + c.toNat * 16384) (by omega)
        have R1 : Hid _ := r1
        have R2 : Hid _ := r2
        obtain ⟨u, hu⟩ : ∃ u, u = n + c.toNat * 16384 := ⟨_, rfl⟩
        rw [← hu] at hor r3 R1 R2
        clear hnb r1 r2 hu
        go_wp2
        go_ret2
        exact ⟨ret_pair R1.out (by have h9 := R2.out; simp only [List.length_append, List.length_cons, List.length_nil] at h9 ⊢; omega), rfl⟩
      · have hnb' : n < 2097152 := hnb
        have hor := or3 n c.toNat hnb' (by omega)
        obtain ⟨r1, r2, r3⟩ := HR.out (n + c.toNat * 2097152) (by omega)
        have R1 : Hid _ := r1
        have R2 : Hid _ := r2
        obtain ⟨u, hu⟩ : ∃ u, u = n + c.toNat * 2097152 := ⟨_, rfl⟩
        rw [← hu] at hor r3 R1 R2
        clear hnb r1 r2 hu
        go_wp2
        go_ret2
        exact ⟨ret_pair R1.out (by have h9 := R2.out; simp only [List.length_append, List.length_cons, List.length_nil] at h9 ⊢; omega), rfl⟩
end Go.Proofs.Qxb6602793a.Pa
