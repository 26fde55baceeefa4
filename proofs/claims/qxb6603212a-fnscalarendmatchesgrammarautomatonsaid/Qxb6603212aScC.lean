import Derived.Test.Qxb6603212aScB
namespace Go.Proofs.Qxb6603212a.Sc
open Go.RowKit Go.Proofs.Qxb6603212a.Mem

/-- The bytes of a string, as numbers. -/
def ints (s : ByteArray) : List Int := s.data.toList.map (fun b => (b.toNat : Int))
theorem ints_len (s : ByteArray) : (ints s).length = s.size := by simp [ints]
theorem ints_drop {s : ByteArray} {k : Nat} (h : k < s.size) : (ints s).drop k = (s[k].toNat : Int) :: (ints s).drop (k + 1) := by
  have h' : k < (ints s).length := by rw [ints_len]; exact h
  rw [List.drop_eq_getElem_cons h']
  congr 1
  simp [ints]
  rfl

def Ret (w w' : World) (r : Nat) (e : Ending) : Prop := e = .returned (.int .i64 r) ∧ ∃ d, w' = w.drewN d

set_option maxRecDepth 100000 in
set_option maxHeartbeats 1000000 in
theorem literal_any (a : Option Addr) (n cap : Nat) (zs : List Int) (i : Nat) (s : ByteArray) (w : World) (h : Rd w a n zs) (hn : n ≤ 1048576) (hi : i ≤ n) (hs : s.size ≤ 5) :
    Calls Try.prog 31 #[.slice a n cap, .int .i64 i, .string s] w fun e w' => Ret w w' (lit zs i (ints s)) e := by
  have Hlen : Hid (zs.length = n) := h.1
  have HR : Hid (Rd w a n zs) := h
  clear h
  go_enter Try.func31, Try.ntmps31
  go_wp2
  go_loopw [10] (fun kv wr => ∃ k d : Nat, k ≤ s.size ∧ i + k ≤ n ∧ kv = .int .i64 k ∧ wr = w.drewN d ∧ lit zs i (ints s) = lit zs (i + k) ((ints s).drop k)) (fun kv _ => s.size - (intOf kv).toNat)
  case atStart => exact ⟨0, 0, Nat.zero_le _, by omega, rfl, rfl, by simp⟩
  case round =>
    obtain ⟨k, d, hk, hik, rfl, rfl, hl⟩ := hrel
    have HL : Hid (lit zs i (ints s) = lit zs (i + k) ((ints s).drop k)) := hl
    clear hl
    by_cases hks : k < s.size
    · obtain ⟨f, hf⟩ : ∃ f, s[k] = f := ⟨_, rfl⟩
      have HD : Hid ((ints s).drop k = (f.toNat : Int) :: (ints s).drop (k + 1)) := by rw [← hf]; exact ints_drop hks
      by_cases hin : i + k < n
      · obtain ⟨b, off, rfl, hb, hc⟩ := HR.out.at hin
        obtain ⟨c, hcd⟩ : ∃ c, c = zs.getD (i + k) 0 := ⟨_, rfl⟩
        rw [← hcd] at hc
        have Hc : Hid (c = zs.getD (i + k) 0) := hcd
        clear hcd
        have b1 : ((i : Int) + (k : Int) == (n : Int)) = false := by rw [beq_eq_false_iff_ne]; omega
        have b2 : (i : Int) + (k : Int) < (n : Int) := by omega
        have b3 : (k : Int) < (s.size : Int) := by omega
        cases hcf : (c != (f.toNat : Int))
        · have HN : Hid (lit zs i (ints s) = lit zs (i + (k + 1)) ((ints s).drop (k + 1))) := by
            rw [HL.out, HD.out, lit_first (by rw [Hlen.out]; exact hin) (by rw [← Hc.out]; simpa using hcf)]; exact rfl
          go_wp2_with fail
          go_quiet (fail)
          go_wp2
          go_roundw
          case rel => exact ⟨k + 1, _, by omega, by omega, by go_num, rfl, HN.out⟩
          case measure => simp [intOf]; omega
        · have HN : Hid (lit zs i (ints s) = i + k + 1) := by
            rw [HL.out, HD.out]; unfold lit; rw [if_neg (by rw [Hlen.out]; omega), if_neg (by rw [← Hc.out]; simpa using hcf)]; exact rfl
          go_wp2_with fail
          go_quiet (fail)
          go_wp2
          go_ret
          exact ⟨by rw [HN.out]; exact ret_int (by omega), _, rfl⟩
      · have b1 : ((i : Int) + (k : Int) == (n : Int)) = true := by rw [beq_iff_eq]; omega
        have HN : Hid (lit zs i (ints s) = n) := by
          rw [HL.out, HD.out]; unfold lit; rw [if_pos (by rw [Hlen.out]; omega), Hlen.out]; exact rfl
        go_wp2
        go_ret
        exact ⟨by rw [HN.out]; rfl, d, rfl⟩
    · have HN : Hid (lit zs i (ints s) = i + s.size) := by
        rw [HL.out, List.drop_eq_nil_of_le (by rw [ints_len]; omega)]; unfold lit
        show i + k = i + s.size
        omega
      go_wp2
      go_ret
      exact ⟨by rw [HN.out]; exact ret_int (by omega), d, rfl⟩
end Go.Proofs.Qxb6603212a.Sc
