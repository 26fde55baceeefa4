import Derived.Test.Qxb6602641aProg
import Derived.WalkKit
import Derived.WalkSpells
import Derived.WalkLawsBesides
import Derived.Lib.Strings
namespace Go.Proofs.Qxb6602641a.Nnp
open Go.RowKit

theorem ret_int {k : IntKind} {a b : Int} (h : a = b) : Ending.returned (.int k a) = .returned (.int k b) := by rw [h]

/-- It returned a bool of which p holds (a plain word: the walk leaves it shut). -/
def RB (e : Ending) (p : Bool → Prop) : Prop := ∃ b, e = .returned (.bool b) ∧ p b
/-- It returned an int of which p holds. -/
def RI (e : Ending) (p : Int → Prop) : Prop := ∃ i, e = .returned (.int .i64 i) ∧ p i

theorem u8_ne {a b : UInt8} (h : ((a.toNat : Int) == (b.toNat : Int)) = false) : a ≠ b := by
  intro e; subst e; simp at h
theorem u8_eq {a b : UInt8} (h : ((a.toNat : Int) == (b.toNat : Int)) = true) : a = b := by
  have h' := beq_iff_eq.1 h; exact UInt8.toNat_inj.1 (by omega)

/-- strings.LastIndexByte's core: -1 where the byte isn't there; else an index within the string. -/
def LibPost (s : ByteArray) (c : UInt8) (i : Int) : Prop :=
  -1 ≤ i ∧ i < s.size ∧ (i = -1 → ∀ j, (h : j < s.size) → s[j] ≠ c)

set_option maxHeartbeats 400000 in
theorem lastIndex_any (s : ByteArray) (c : UInt8) (w : World) (hs : s.size ≤ 4096) :
    Calls Try.prog 32 #[.string s, .int .u8 c.toNat] w fun e w' => RI e (LibPost s c) ∧ w' = w := by
  go_enter Try.func32, Try.ntmps32
  go_wp2
  go_loop [5] (fun i => ∃ k : Nat, k ≤ s.size ∧ i = .int .i64 ((k : Int) - 1) ∧ ∀ j, (h : j < s.size) → k ≤ j → s[j] ≠ c) (fun i => (intOf i + 1).toNat)
  case atStart => exact ⟨s.size, Nat.le_refl _, rfl, fun j h1 h2 => by omega⟩
  case round =>
    obtain ⟨k, hk, rfl, hno⟩ := hrel
    cases k with
    | zero =>
      go_wp2
      go_ret
      exact ⟨⟨-1, rfl, by omega, by omega, fun _ j h => hno j h (Nat.zero_le _)⟩, rfl⟩
    | succ k =>
      have hc1 : ((k + 1 : Nat) : Int) - 1 = (k : Int) := by omega
      rw [hc1]
      clear hc1
      go_wp2
      · go_ret
        exact ⟨⟨k, rfl, by omega, by omega, fun h => by omega⟩, rfl⟩
      · have hne : s[k] ≠ c := u8_ne (by assumption)
        go_round
        case rel =>
          refine ⟨k, by omega, rfl, fun j h1 h2 => ?_⟩
          by_cases e : j = k
          · subst e; exact hne
          · exact hno j h1 (by omega)
        case measure => simp [intOf]

set_option maxHeartbeats 400000 in
theorem lastIndexByte_any (s : ByteArray) (c : UInt8) (w : World) (hs : s.size ≤ 4096) :
    Calls Try.prog 25 #[.string s, .int .u8 c.toNat] w fun e w' => RI e (LibPost s c) ∧ w' = w := by
  go_enter Try.func25, Try.ntmps25
  go_wp2_with (go_at_call 32; refine (lastIndex_any _ _ _ hs).mono ?_; rintro e w' ⟨⟨i, rfl, hp⟩, rfl⟩)
  go_ret
  exact ⟨⟨i, rfl, hp⟩, rfl⟩

theorem suffix_last (s : ByteArray) (h1 : 1 ≤ s.size) (h : ((s.extract (s.size - 1) s.size).toList == [93]) = true) : ∃ h : s.size - 1 < s.size, s[s.size - 1] = 93 := by
  refine ⟨by omega, ?_⟩
  have h2 := beq_iff_eq.1 h
  rw [Lib.extract_toList] at h2
  have h3 : s.size - 1 < s.data.toList.length := by rw [← Lib.size_eq]; omega
  have e1 : s.size - (s.size - 1) = 1 := by omega
  rw [e1, List.drop_eq_getElem_cons h3] at h2
  simp only [List.take_succ_cons, List.take_zero, List.cons.injEq, and_true] at h2
  exact h2

theorem hasSuffix_any (s : ByteArray) (w : World) (hs : s.size ≤ 4096) :
    Calls Try.prog 31 #[.string s, .string ⟨#[93]⟩] w fun e w' => RB e (fun b => b = true → ∃ h : s.size - 1 < s.size, s[s.size - 1] = 93) ∧ w' = w := by
  go_enter Try.func31, Try.ntmps31
  go_wp2
  · have h1 : 1 ≤ s.size := by omega
    go_ret
    exact ⟨⟨_, rfl, fun h => suffix_last s h1 h⟩, rfl⟩
  · go_ret
    exact ⟨⟨false, rfl, fun h => by cases h⟩, rfl⟩

set_option maxHeartbeats 400000 in
theorem hasSuffix24_any (s : ByteArray) (w : World) (hs : s.size ≤ 4096) :
    Calls Try.prog 24 #[.string s, .string ⟨#[93]⟩] w fun e w' => RB e (fun b => b = true → ∃ h : s.size - 1 < s.size, s[s.size - 1] = 93) ∧ w' = w := by
  go_enter Try.func24, Try.ntmps24
  go_wp2_with (go_at_call 31; refine (hasSuffix_any _ _ hs).mono ?_; rintro e w' ⟨⟨i, rfl, hp⟩, rfl⟩)
  go_ret
  exact ⟨⟨i, rfl, hp⟩, rfl⟩

/-- A place whose first bracket opens: ahead of each ']' there is a '['. -/
def WB (s : ByteArray) : Prop := ∀ j, (h : j < s.size) → s[j] = 93 → ∃ i, ∃ h' : i < s.size, i < j ∧ s[i] = 91

set_option maxHeartbeats 400000 in
theorem wellBracketed_any (s : ByteArray) (w : World) (hs : s.size ≤ 4096) :
    Calls Try.prog 15 #[.string s] w fun e w' => RB e (fun b => b = true → WB s) ∧ w' = w := by
  go_enter Try.func15, Try.ntmps15
  go_wp2
  go_loop [3] (fun i => ∃ k : Nat, k ≤ s.size ∧ i = .int .i64 k ∧ ∀ j, (h : j < s.size) → j < k → s[j] ≠ 93) (fun i => s.size - (intOf i).toNat)
  case atStart => exact ⟨0, Nat.zero_le _, rfl, fun j h1 h2 => by omega⟩
  case round =>
    obtain ⟨k, hk, rfl, hno⟩ := hrel
    by_cases hlt : k < s.size
    · go_wp2
      · have he : s[k] = 91 := u8_eq (b := 91) (by assumption)
        go_ret
        refine ⟨⟨true, rfl, fun _ j h hj => ⟨k, hlt, ?_, he⟩⟩, rfl⟩
        by_cases hjk : j < k
        · exact absurd hj (hno j h hjk)
        · by_cases e : j = k
          · subst e; rw [he] at hj; cases hj
          · omega
      · go_ret
        exact ⟨⟨false, rfl, fun h => by cases h⟩, rfl⟩
      · have hne : s[k] ≠ 93 := u8_ne (b := 93) (by assumption)
        go_round
        case rel =>
          refine ⟨k + 1, by omega, by go_num, fun j h1 h2 => ?_⟩
          by_cases e : j = k
          · subst e; exact hne
          · exact hno j h1 (by omega)
        case measure => simp [intOf]; omega
    · go_wp2
      go_ret
      exact ⟨⟨true, rfl, fun _ j h hj => absurd hj (hno j h (by omega))⟩, rfl⟩
end Go.Proofs.Qxb6602641a.Nnp
