import Derived.Test.Qxb6602641aNnpA
namespace Go.Proofs.Qxb6602641a.Nnp
open Go.RowKit

/-- What the walk is told of a slice of strings: no element; or its cells. -/
def RdS (w : World) (a : Option Addr) (len : Nat) (ss : List ByteArray) : Prop :=
  len = 0 ∨ ∃ b off, a = some ⟨b, off, none⟩ ∧ b < w.heap.size ∧ ∀ j, j < len → w.cell? ⟨b, off + j, none⟩ = some (.string (ss.getD j ByteArray.empty)) ∧ (ss.getD j ByteArray.empty).size ≤ maxLen
def RdI (w : World) (a : Option Addr) (len : Nat) (zs : List Int) : Prop :=
  len = 0 ∨ ∃ b off, a = some ⟨b, off, none⟩ ∧ b < w.heap.size ∧ ∀ j, j < len → w.cell? ⟨b, off + j, none⟩ = some (.int .i64 (zs.getD j 0)) ∧ (Lit.int .i64 (zs.getD j 0)).wf = true

theorem RdS.at {w : World} {a : Option Addr} {len : Nat} {ss : List ByteArray} (h : RdS w a len ss) {k : Nat} (hk : k < len) :
    ∃ b off, a = some ⟨b, off, none⟩ ∧ b < w.heap.size ∧ ∃ t, t.size ≤ maxLen ∧ w.cell? ⟨b, off + k, none⟩ = some (.string t) := by
  rcases h with h | ⟨b, off, rfl, hb, hc⟩
  · omega
  · exact ⟨b, off, rfl, hb, _, (hc k hk).2, (hc k hk).1⟩
theorem RdI.at {w : World} {a : Option Addr} {len : Nat} {zs : List Int} (h : RdI w a len zs) {k : Nat} (hk : k < len) :
    ∃ b off, a = some ⟨b, off, none⟩ ∧ b < w.heap.size ∧ ∃ z, (Lit.int .i64 z).wf = true ∧ w.cell? ⟨b, off + k, none⟩ = some (.int .i64 z) := by
  rcases h with h | ⟨b, off, rfl, hb, hc⟩
  · omega
  · exact ⟨b, off, rfl, hb, _, (hc k hk).2, (hc k hk).1⟩

set_option maxHeartbeats 400000 in
theorem zzBytes_any (a0 a1 : Option Addr) (l0 c0 l1 c1 : Nat) (s : ByteArray) (ss : List ByteArray) (w : World) (h0 : RdS w a0 l0 ss) (hl0 : l0 ≤ maxLen) :
    Calls Try.prog 13 #[.slice a0 l0 c0, .slice a1 l1 c1, .string s] w fun e w' => RB e (fun _ => True) ∧ w' = w := by
  unfold maxLen at hl0
  go_enter Try.func13, Try.ntmps13
  go_wp2
  · go_ret; exact ⟨⟨_, rfl, trivial⟩, rfl⟩
  · go_loop [7, 8] (fun n i => ∃ k : Nat, ∃ z : Int, k ≤ l0 ∧ i = .int .i64 k ∧ n = .int .i64 z) (fun _ i => l0 - (intOf i).toNat)
    case atStart => exact ⟨0, _, Nat.zero_le _, rfl, rfl⟩
    case round =>
      obtain ⟨k, z, hk, rfl, rfl⟩ := hrel
      by_cases hlt : k < l0
      · obtain ⟨b, off, rfl, hb, t, _, hc⟩ := h0.at hlt
        go_wp2
        · go_ret; exact ⟨⟨_, rfl, trivial⟩, rfl⟩
        · go_ret; exact ⟨⟨_, rfl, trivial⟩, rfl⟩
        · go_round
          case rel => exact ⟨k + 1, _, by omega, by go_num, rfl⟩
          case measure => simp [intOf]; omega
      · go_wp2
        all_goals (go_ret; exact ⟨⟨_, rfl, trivial⟩, rfl⟩)

set_option maxHeartbeats 400000 in
theorem zzLinesBytes_any (a0 a1 : Option Addr) (l0 c0 l1 c1 : Nat) (ss : List ByteArray) (w : World) (h0 : RdS w a0 l0 ss) (hl0 : l0 ≤ maxLen) :
    Calls Try.prog 14 #[.slice a0 l0 c0, .slice a1 l1 c1] w fun e w' => RI e (fun _ => True) ∧ w' = w := by
  unfold maxLen at hl0
  go_enter Try.func14, Try.ntmps14
  go_wp2
  go_loop [5, 6] (fun n i => ∃ k : Nat, ∃ z : Int, k ≤ l0 ∧ i = .int .i64 k ∧ n = .int .i64 z) (fun _ i => l0 - (intOf i).toNat)
  case atStart => exact ⟨0, _, Nat.zero_le _, rfl, rfl⟩
  case round =>
    obtain ⟨k, z, hk, rfl, rfl⟩ := hrel
    by_cases hlt : k < l0
    · obtain ⟨b, off, rfl, hb, t, _, hc⟩ := h0.at hlt
      go_wp2
      · go_ret; exact ⟨⟨_, rfl, trivial⟩, rfl⟩
      · go_round
        case rel => exact ⟨k + 1, _, by omega, by go_num, rfl⟩
        case measure => simp [intOf]; omega
    · go_wp2
      go_ret; exact ⟨⟨_, rfl, trivial⟩, rfl⟩
end Go.Proofs.Qxb6602641a.Nnp
