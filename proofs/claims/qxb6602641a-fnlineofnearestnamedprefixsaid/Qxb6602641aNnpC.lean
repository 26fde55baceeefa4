import Derived.Test.Qxb6602641aNnpB
import Derived.RegionTactic
import Derived.ChangeAlike
import Derived.Maps.OwnSet
namespace Go.Proofs.Qxb6602641a.Nnp
open Go.RowKit Go.WideMaps Go.Maps

theorem law : Keyed Try.prog 9 := string_keyed Try.underlying9
theorem zero3 (w : World) : (zeroValue 3).run Try.prog w = .ok (.int .i64 0) w := by kernel_rfl
theorem run_makeMap_hint (n : Int) (w : World) : (Instr.makeMap 30 (some (.int .i64 n))).run Try.prog w = .ok (.map (some w.heap.size)) (w.alloc (.map #[] 0)) := by
  simp [Instr.makeMap, run_underlying Try.underlying30, asInt, asIntOf, Result.andThen]
  done

/-- A map value m whose look-ups in the world w answer as V and K say. -/
def Look (w : World) (m : Value) (V : ByteArray → Int) (K : ByteArray → Bool) : Prop :=
  ∀ s : ByteArray, s.size ≤ 4096 → (Instr.lookup 30 m (.string s) true).run Try.prog w = .ok (.tuple #[.int .i64 (V s), .bool (K s)]) w

def Built (w w' : World) (e : Ending) : Prop :=
  ∃ m V K, e = .returned m ∧ Look w' m V K ∧ Below w.heap.size w w'

theorem look_own {w : World} {b n : Nat} {D : DataW Unit} (h : w.ownsMap Try.prog 9 (plainElem Try.prog 3) b n D) : ∃ V K, Look w (.map (some b)) V K := by
  have key : ∀ s : ByteArray, ∃ c : Int × Bool, s.size ≤ 4096 → (Instr.lookup 30 (.map (some b)) (.string s) true).run Try.prog w = .ok (.tuple #[.int .i64 c.1, .bool c.2]) w := by
    intro s
    by_cases hs : s.size ≤ 4096
    · obtain ⟨v, ps, hrun, hv⟩ := h.look_ok law Try.underlying30 (zero3 w) (plainElem_int Try.underlying3 (by decide)) (keyOf_string_mk Try.underlying9 (s := s) (by unfold maxLen; omega))
      obtain ⟨c, rfl, hc, hwc⟩ := plainElem_int_inv Try.underlying3 hv
      exact ⟨(c, _), fun _ => hrun⟩
    · exact ⟨(0, false), fun h => absurd h hs⟩
  exact ⟨fun s => (Classical.choose (key s)).1, fun s => (Classical.choose (key s)).2, fun s => Classical.choose_spec (key s)⟩

theorem look_nil (w : World) : ∃ V K, Look w (.map none) V K :=
  ⟨fun _ => 0, fun _ => false, fun s hs => by
    have := Maps.look_nil (w := w) true law Try.underlying30 (zero3 w) (keyOf_string_mk Try.underlying9 (s := s) (by unfold maxLen; omega))
    simpa using this⟩

set_option maxHeartbeats 400000 in
theorem build_nil (a1 : Option Addr) (l1 c1 : Nat) (w : World) :
    Calls Try.prog 16 #[.slice none 0 0, .slice a1 l1 c1] w fun e w' => Built w w' e := by
  have q25 := fun (w : World) (a : Option Addr) (n c : Nat) => Lib.run_eql_slice_nil (P := Try.prog) w 25 9 a n c 0 0 Try.underlying25
  go_enter Try.func16, Try.ntmps16
  go_wp2
  go_ret
  obtain ⟨V, K, h⟩ := look_nil w
  exact ⟨_, V, K, rfl, h, Below.refl _ _⟩

set_option maxHeartbeats 400000 in
theorem build_some (x : Addr) (a1 : Option Addr) (l0 c0 l1 c1 : Nat) (ss : List ByteArray) (zs : List Int) (w : World) (h0 : RdS w (some x) l0 ss) (h1 : RdI w a1 l1 zs) (hl0 : l0 ≤ 65536) (hl1 : l1 ≤ 65536) :
    Calls Try.prog 16 #[.slice (some x) l0 c0, .slice a1 l1 c1] w fun e w' => Built w w' e := by
  have hmm := run_makeMap_hint
  have q25 := fun (w : World) (a : Option Addr) (n c : Nat) => Lib.run_eql_slice_nil (P := Try.prog) w 25 9 a n c 0 0 Try.underlying25
  obtain ⟨d, hd⟩ : ∃ d, decide (l1 < l0) = d := ⟨_, rfl⟩
  obtain ⟨n, hn0, hn1, hn⟩ : ∃ n : Nat, n ≤ l0 ∧ n ≤ l1 ∧ (n : Int) = if d then (l1 : Int) else (l0 : Int) := by
    cases d
    · have := of_decide_eq_false hd
      exact ⟨l0, by omega, by omega, rfl⟩
    · have := of_decide_eq_true hd
      exact ⟨l1, by omega, by omega, rfl⟩
  cases d
  all_goals
    simp only [Bool.false_eq_true, if_false, if_true] at hn
    have hn2 := Int.le_of_eq hn.symm
    clear hn
    go_enter Try.func16, Try.ntmps16
    go_wp2
    go_loopw [7] (fun i wr => ∃ k : Nat, k ≤ n ∧ i = .int .i64 k ∧ (∃ D : DataW Unit, wr.ownsMap Try.prog 9 (plainElem Try.prog 3) w.heap.size k D) ∧ Below w.heap.size w wr)
      (fun i _ => n - (intOf i).toNat)
    case atStart => exact ⟨0, Nat.zero_le _, rfl, ⟨_, World.ownsMap_made _ _ _ _⟩, (Below.refl _ _).alloc (Nat.le_refl _) _⟩
    case round =>
      obtain ⟨k, hk, rfl, ⟨D, hown⟩, hnx⟩ := hrel
      by_cases hlt : k < n
      · obtain ⟨b, off, hx, hb, t, ht, hc⟩ := h0.at (k := k) (by omega)
        cases hx
        obtain ⟨b', off', rfl, hb', z, hz, hc'⟩ := h1.at (k := k) (by omega)
        have hcx : wr.cell? ⟨b, off + k, none⟩ = some (.string t) := (hnx.cell (by exact hb)).trans hc
        have hcx' : wr.cell? ⟨b', off' + k, none⟩ = some (.int .i64 z) := (hnx.cell (by exact hb')).trans hc'
        obtain ⟨w1, hrun, hown1, hgrow1⟩ := (hown.drew).update law Try.underlying30 (by unfold maxLen; omega) (key := .string t) (val := .int .i64 z) (keyOf_string_mk Try.underlying9 ht) (plainElem_int Try.underlying3 hz)
        have hk1 : (k : Int) < l0 := by omega
        have hk2 : (k : Int) < l1 := by omega
        clear hc hc' 
        go_wp2
        go_region
        have R2 := (hnx.drew).grown hgrow1 hnx.size (fun j hj => by cases hj; exact Nat.le_refl _)
        clear hown hrun hgrow1 hcx hcx'
        go_wp2
        go_roundw
        case rel => exact ⟨k + 1, by omega, by go_num, ⟨_, hown1⟩, R2⟩
        case measure => simp [intOf]; omega
      · go_wp2
        go_ret
        obtain ⟨V, K, h⟩ := look_own hown
        exact ⟨_, V, K, rfl, h, hnx⟩
end Go.Proofs.Qxb6602641a.Nnp
