import Derived.Test.Qxb6602641aNnpC
namespace Go.Proofs.Qxb6602641a.Nnp
open Go.RowKit

def strLen : Value → Nat
  | .string t => t.size
  | _ => 0

def LinePost (V : ByteArray → Int) (K : ByteArray → Bool) (s : ByteArray) (r : Int) : Prop :=
  (s.size = 0 → r = 0) ∧ (0 < s.size → K s = true → r = V s) ∧
  (K s = false → r = 0 ∨ ∃ k, 1 ≤ k ∧ k < s.size ∧ K (s.extract 0 k) = true ∧ r = V (s.extract 0 k))

theorem extract_all (s : ByteArray) : s.extract 0 s.size = s := by
  rw [Lib.extract_eq]
  have e : (List.drop 0 s.data.toList).take (s.size - 0) = s.data.toList := by
    rw [List.drop_zero, Nat.sub_zero]
    exact List.take_of_length_le (by rw [← Lib.size_eq]; exact Nat.le_refl _)
  rw [e, Lib.mk_data]

theorem extract_extract0 (s : ByteArray) (n m : Nat) (h : m ≤ n) : (s.extract 0 n).extract 0 m = s.extract 0 m := by
  rw [Lib.extract_eq, Lib.extract_data, Lib.extract_eq s 0 m]
  simp [List.take_take, Nat.min_eq_left h]

theorem extract_at (s : ByteArray) (n j : Nat) (h : j < (s.extract 0 n).size) (h' : j < s.size) : (s.extract 0 n)[j] = s[j] := by
  simp [ByteArray.getElem_extract]

theorem isEmpty_of (t : ByteArray) (h : t.size = 0) : t.toList.isEmpty = true := by
  rw [Lib.toList_data, List.isEmpty_iff_length_eq_zero, ← Lib.size_eq]; exact h
theorem notEmpty_of (t : ByteArray) (h : t.size ≠ 0) : t.toList.isEmpty = false := by
  rw [Lib.toList_data, ← Bool.not_eq_true, List.isEmpty_iff_length_eq_zero, ← Lib.size_eq]; exact h

theorem lastIndexByte91 (s : ByteArray) (w : World) (hs : s.size ≤ 4096) :
    Calls Try.prog 25 #[.string s, .int .u8 91] w fun e w' => RI e (LibPost s 91) ∧ w' = w := lastIndexByte_any s 91 w hs
theorem lastIndexByte46 (s : ByteArray) (w : World) (hs : s.size ≤ 4096) :
    Calls Try.prog 25 #[.string s, .int .u8 46] w fun e w' => RI e (LibPost s 46) ∧ w' = w := lastIndexByte_any s 46 w hs

/-- ahead of a ']' at the end of a beginning of s there is a '[' -/
theorem opens (s t : ByteArray) (n : Nat) (hwb : WB s) (ht : t = s.extract 0 n) (hn : n ≤ s.size) (hl : ∃ h : t.size - 1 < t.size, t[t.size - 1] = 93) (i : Int) (hp : LibPost t 91 i) : 0 ≤ i := by
  subst ht
  obtain ⟨h, hl⟩ := hl
  obtain ⟨h1, h2, h3⟩ := hp
  by_cases hi : i = -1
  · exfalso
    have hsz : (s.extract 0 n).size = n := by simp [ByteArray.size_extract]; omega
    rw [extract_at s n _ h (by omega)] at hl
    obtain ⟨j, hj, hlt, hj91⟩ := hwb _ (by omega) hl
    have hj' : j < (s.extract 0 n).size := by omega
    exact h3 hi j hj' (by rw [extract_at s n j hj' hj]; exact hj91)
  · omega

theorem extract_zero (s : ByteArray) : s.extract 0 0 = ⟨#[]⟩ := by
  rw [Lib.extract_eq]; simp
theorem shorter (s t : ByteArray) (n j : Nat) (K : ByteArray → Bool) (hn : n ≤ s.size) (Ht : Hid (t = s.extract 0 n)) (Hsz : Hid (t.size = n)) (hj : j < t.size) (Hks : Hid (K s = false)) :
    ∃ n', n' ≤ s.size ∧ Value.string (t.extract 0 j) = Value.string (s.extract 0 n') ∧ (n' < s.size → K s = false) :=
  have e := Hsz.out
  ⟨j, by omega, by rw [Ht.out, extract_extract0 s n j (by omega)], fun _ => Hks.out⟩
theorem shorter_size (t : ByteArray) (j : Nat) (hj : j < t.size) : strLen (.string (t.extract 0 j)) < strLen (.string t) := by
  simp [strLen, ByteArray.size_extract]; omega

theorem empty_size (t : ByteArray) (h : ¬ t.size = 0) : strLen (.string ⟨#[]⟩) < strLen (.string t) := by
  show 0 < t.size
  omega

set_option maxHeartbeats 400000 in
theorem lineOf_any (m : Value) (V : ByteArray → Int) (K : ByteArray → Bool) (s : ByteArray) (w : World) (hs : s.size ≤ 4096) (hwb : WB s) (hL : Look w m V K) :
    Calls Try.prog 21 #[m, .string s] w fun e w' => RI e (LinePost V K s) ∧ w' = w := by
  have HL : Hid (Look w m V K) := hL
  clear hL
  go_enter Try.func21, Try.ntmps21
  go_wp2
  go_loop [1] (fun p => ∃ n : Nat, n ≤ s.size ∧ p = .string (s.extract 0 n) ∧ (n < s.size → K s = false)) (fun p => strLen p)
  case atStart => exact ⟨s.size, Nat.le_refl _, by rw [extract_all], fun h => by omega⟩
  case round =>
    obtain ⟨n, hn, rfl, hno⟩ := hrel
    have hsz : (s.extract 0 n).size = n := by simp [ByteArray.size_extract]; omega
    obtain ⟨t, ht⟩ : ∃ t, t = s.extract 0 n := ⟨_, rfl⟩
    rw [← ht] at hsz ⊢
    have hlook := HL.out t (by omega)
    have Ht : Hid (t = s.extract 0 n) := ht
    have Hsz : Hid (t.size = n) := hsz
    have hsz' : t.size ≤ 4096 := by omega
    have Hno : Hid (n < s.size → K s = false) := hno
    have Hall : Hid (n = s.size → t = s) := (fun e => by rw [ht, e, extract_all])
    clear ht hno
    by_cases h0 : t.size = 0
    · have he := isEmpty_of t h0
      have H0 : Hid (t.size = 0) := h0
      clear hsz h0
      go_wp2
      go_ret
      refine ⟨⟨0, rfl, fun _ => rfl, fun h1 h2 => ?_, fun _ => .inl rfl⟩, rfl⟩
      have e1 := Hno.out (by have e2 := H0.out; have e3 := Hsz.out; omega)
      rw [h2] at e1; cases e1
    · have he := notEmpty_of t h0
      clear hsz
      cases hK : K t
      · have Hks : Hid (K s = false) := by
          by_cases e : n < s.size
          · exact Hno.out e
          · have e2 := Hall.out (by omega); rw [e2] at hK; exact hK
        go_wp2_with fail
        refine (hasSuffix24_any t _ hsz').mono ?_
        rintro e w' ⟨⟨b, rfl, hb⟩, rfl⟩
        have HB : Hid (b = true → ∃ h : t.size - 1 < t.size, t[t.size - 1] = 93) := hb
        clear hb
        cases b
        · go_wp2_with fail
          refine (lastIndexByte46 t _ hsz').mono ?_
          rintro e w' ⟨⟨i, rfl, hi⟩, rfl⟩
          have Hi : Hid (LibPost t 46 i) := hi
          have hi1 := hi.1
          have hi2 := hi.2.1
          clear hi
          by_cases hi0 : 0 ≤ i
          · obtain ⟨j, rfl⟩ := Int.eq_ofNat_of_zero_le hi0
            go_wp2
            go_round
            case rel => exact shorter s t n j K hn Ht Hsz (by omega) Hks
            case measure => exact shorter_size t j (by omega)
          · go_wp2
            go_round
            case rel => exact ⟨0, Nat.zero_le _, by rw [extract_zero], fun _ => Hks.out⟩
            case measure => exact empty_size t h0
        · go_wp2_with fail
          refine (lastIndexByte91 t _ hsz').mono ?_
          rintro e w' ⟨⟨i, rfl, hi⟩, rfl⟩
          have hi1 := hi.1
          have hi2 := hi.2.1
          have hi0 : 0 ≤ i := opens s t n hwb Ht.out hn (HB.out (by simp)) i hi
          clear hi
          obtain ⟨j, rfl⟩ := Int.eq_ofNat_of_zero_le hi0
          go_wp2
          go_round
          case rel => exact shorter s t n j K hn Ht Hsz (by omega) Hks
          case measure => exact shorter_size t j (by omega)
      · go_wp2
        go_ret
        refine ⟨⟨_, rfl, fun e => ?_, fun h1 h2 => ?_, fun h1 => ?_⟩, rfl⟩
        · exfalso; have e3 := Hsz.out; omega
        · by_cases e : n < s.size
          · have e1 := Hno.out e; rw [h2] at e1; cases e1
          · rw [Hall.out (by omega)]
        · by_cases e : n < s.size
          · exact .inr ⟨n, by have e3 := Hsz.out; omega, e, by rw [← Ht.out]; exact hK, by rw [← Ht.out]⟩
          · rw [Hall.out (by omega), h1] at hK; cases hK

set_option maxHeartbeats 400000 in
theorem zzLineOf_any (m : Value) (V : ByteArray → Int) (K : ByteArray → Bool) (s : ByteArray) (w : World) (hs : s.size ≤ 4096) (hwb : WB s) (hL : Look w m V K) :
    Calls Try.prog 17 #[m, .string s] w fun e w' => RI e (LinePost V K s) ∧ w' = w := by
  have HL : Hid (Look w m V K) := hL
  clear hL
  go_enter Try.func17, Try.ntmps17
  go_wp2_with fail
  refine (lineOf_any m V K s _ hs hwb HL.out).mono ?_
  rintro e w' ⟨⟨i, rfl, hi⟩, rfl⟩
  have Hi : Hid (LinePost V K s i) := hi
  clear hi
  go_wp2
  go_ret
  exact ⟨⟨_, rfl, Hi.out⟩, rfl⟩
end Go.Proofs.Qxb6602641a.Nnp
