import Derived.Test.Qxb6602793aProg
import Derived.WalkKit
import Derived.WalkSpells
import Derived.WalkLawsBesides
import Derived.Deep.QuietTactic
import Derived.BigQuiet
namespace Go.Proofs.Qxb6602793a.Mem
open Go.RowKit

/-! ROWS OF BYTES IN THE CALL's OWN BLOCKS -/

/-- The slice of n bytes at the head of block g, capacity cap, holds zs. -/
def Row (w : World) (g n cap : Nat) (zs : List Int) : Prop :=
  w.ownsRow 0 5 1 (.slice (some ⟨g, 0, none⟩) n cap) n (zs.map (Value.int .u8))

theorem Row.len {w : World} {g n cap : Nat} {zs : List Int} (h : Row w g n cap zs) : zs.length = n := by
  have := h.1; simpa using this
theorem Row.lt {w : World} {g n cap : Nat} {zs : List Int} (h : Row w g n cap zs) : g < w.heap.size := (World.ownsRow.lt h g rfl).2
theorem Row.cell {w : World} {g n cap : Nat} {zs : List Int} (h : Row w g n cap zs) {j : Nat} (hj : j < n) : w.cell? ⟨g, j, none⟩ = some (.int .u8 (zs.getD j 0)) := by
  have e := World.ownsRow.cellAt h j (by omega)
  have hl := h.len
  rw [e, List.getElem?_map, List.getElem?_eq_getElem (by omega), List.getD, List.getElem?_eq_getElem (by omega)]
  rfl
theorem Row.frozen {w : World} {g n cap : Nat} {zs : List Int} (h : Row w g n cap zs) (j : Nat) : w.frozen? ⟨g, j, none⟩ = false := World.ownsRow.frozenAt h j
theorem Row.set {w : World} {g n cap : Nat} {zs : List Int} (h : Row w g n cap zs) (j : Nat) (x : Int) : Row (w.setCell ⟨g, j, none⟩ (.int .u8 x)) g n cap (zs.set j x) := by
  have := (World.ownsRow.stored h j (.int .u8 x)).1
  rw [← List.map_set] at this
  exact this
theorem Row.grown {w : World} {g n cap : Nat} {zs : List Int} (h : Row w g n cap zs) (j : Nat) (x : Value) : w.grownBy (w.setCell ⟨g, j, none⟩ x) (some g) := (World.ownsRow.stored h j x).2
theorem Row.kept {w w' : World} {g n cap : Nat} {zs : List Int} {row : Option Nat} (h : Row w g n cap zs) (hg : w.grownBy w' row) (hne : some g ≠ row) : Row w' g n cap zs :=
  World.ownsRow.kept h hg (.inr hne)
theorem Row.drewN {w : World} {g n cap : Nat} {zs : List Int} (h : Row w g n cap zs) (d : Nat) : Row (w.drewN d) g n cap zs := h
theorem Row.below {w w' : World} {B g n cap : Nat} {zs : List Int} (h : Row w g n cap zs) (hb : Below B w w') (hg : g < B) : Row w' g n cap zs := by
  obtain ⟨h1, h2⟩ := h
  refine ⟨h1, ?_⟩
  rcases h2 with h2 | ⟨g', cap', cur, hv, hb', hh, r⟩
  · exact .inl h2
  · refine .inr ⟨g', cap', cur, hv, hb', ?_, r⟩
    have e : g' = g := by simp at hv; exact hv.1.symm
    subst e
    rw [hb.block g' hg]; exact hh

/-- What the walk is told of a slice of bytes that it only reads. -/
def Rd (w : World) (a : Option Addr) (n : Nat) (zs : List Int) : Prop :=
  zs.length = n ∧ (n = 0 ∨ ∃ b off, a = some ⟨b, off, none⟩ ∧ b < w.heap.size ∧ ∀ j, j < n → w.cell? ⟨b, off + j, none⟩ = some (.int .u8 (zs.getD j 0)))
theorem Rd.at {w : World} {a : Option Addr} {n : Nat} {zs : List Int} (h : Rd w a n zs) {k : Nat} (hk : k < n) :
    ∃ b off, a = some ⟨b, off, none⟩ ∧ b < w.heap.size ∧ w.cell? ⟨b, off + k, none⟩ = some (.int .u8 (zs.getD k 0)) := by
  rcases h.2 with h | ⟨b, off, rfl, hb, hc⟩
  · omega
  · exact ⟨b, off, rfl, hb, hc k hk⟩
theorem Row.rd {w : World} {g n cap : Nat} {zs : List Int} (h : Row w g n cap zs) : Rd w (some ⟨g, 0, none⟩) n zs :=
  ⟨h.len, .inr ⟨g, 0, rfl, h.lt, fun j hj => by rw [Nat.zero_add]; exact h.cell hj⟩⟩
theorem Rd.below {w w' : World} {a : Option Addr} {n : Nat} {zs : List Int} (h : Rd w a n zs) (hb : Below w.heap.size w w') : Rd w' a n zs := by
  refine ⟨h.1, ?_⟩
  rcases h.2 with h | ⟨b, off, rfl, hbl, hc⟩
  · exact .inl h
  · exact .inr ⟨b, off, rfl, Nat.lt_of_lt_of_le hbl hb.size, fun j hj => (hb.cell (by exact hbl)).trans (hc j hj)⟩

theorem info5 : (Try.prog.info? 5).map (fun i => (i.zero, i.size, i.bytes)) = some (some (.int .u8 0), 1, 1) := by kernel_rfl

/-- k bytes copied, the rest still nought. -/
def Cp (zs : List Int) (k n : Nat) : List Int := zs.take k ++ List.replicate (n - k) 0
theorem Cp_zero (zs : List Int) (n : Nat) : Cp zs 0 n = List.replicate n 0 := by simp [Cp]
theorem Cp_all {zs : List Int} {n : Nat} (h : zs.length = n) : Cp zs n n = zs := by simp [Cp, ← h]
theorem Cp_set {zs : List Int} {k n : Nat} (h : zs.length = n) (hk : k < n) : (Cp zs k n).set k (zs.getD k 0) = Cp zs (k + 1) n := by
  have hl : (zs.take k).length = k := by simp; omega
  have e1 : n - k = (n - (k + 1)) + 1 := by omega
  unfold Cp
  rw [List.set_append_right _ _ (by omega), hl, Nat.sub_self, e1, List.replicate_succ, List.set_cons_zero,
    List.take_succ_eq_append_getElem (by omega), List.append_assoc]
  have e2 : zs.getD k 0 = zs[k] := by rw [List.getD, List.getElem?_eq_getElem (by omega)]; rfl
  rw [e2]
  rfl

theorem made_row (zs : List Int) {w : World} {B n : Nat} (h : w.ownsRow 0 5 1 (.slice (some ⟨B, 0, none⟩) n n) n (madeCells (Value.int .u8 0).cells (n * 1)).toList) : Row w B n n (Cp zs 0 n) := by
  have e : (madeCells (Value.int .u8 0).cells (n * 1)).toList = (Cp zs 0 n).map (Value.int .u8) := by
    rw [Cp_zero, List.map_replicate, Nat.mul_one]
    exact toList_madeCells_one (.int .u8 0) n
  rw [e] at h
  exact h

def Cloned (w w' : World) (n : Nat) (zs : List Int) (e : Ending) : Prop :=
  e = .returned (.slice (some ⟨w.heap.size, 0, none⟩) n n) ∧ Row w' w.heap.size n n zs ∧ Below w.heap.size w w'

set_option maxHeartbeats 400000 in
theorem clone_nil (w : World) : Calls Try.prog 11 #[.slice none 0 0] w fun e w' => e = .returned (.slice none 0 0) ∧ w' = w := by
  have q22 := fun (w : World) (a : Option Addr) (n c : Nat) => Lib.run_eql_slice_nil (P := Try.prog) w 22 5 a n c 0 0 Try.underlying22
  go_enter Try.func11, Try.ntmps11
  go_wp2
  go_ret
  exact ⟨rfl, rfl⟩

set_option maxHeartbeats 400000 in
theorem clone_some (x : Addr) (n cap : Nat) (zs : List Int) (w : World) (h : Rd w (some x) n zs) (hn : n ≤ 1048576) :
    Calls Try.prog 11 #[.slice (some x) n cap] w fun e w' => Cloned w w' n zs e := by
  have q22 := fun (w : World) (a : Option Addr) (n c : Nat) => Lib.run_eql_slice_nil (P := Try.prog) w 22 5 a n c 0 0 Try.underlying22
  obtain ⟨i0, hi, hz0, hz1, hz2⟩ := info_parts info5
  go_enter Try.func11, Try.ntmps11
  go_wp2_with (at_make; refine wpList_make_full _ rfl _ _ 22 rfl 0 5 i0 (.int .u8 0) 1 Try.underlying22 hi hz0 hz1 .i64 .i64 _ _ n rfl rfl (by omega) (by omega) (by rw [hz2]; omega) (by unfold maxLen; omega) (Nat.zero_le _) ?_; intro w1 hown1 hgrow1)
  have hrow1 := made_row zs hown1
  have hbel1 : Below w.heap.size w w1 := (Below.refl _ _).grown hgrow1 (Nat.le_refl _) (fun k hk => by cases hk)
  clear hown1 hgrow1 hi hz0 hz1 hz2
  go_loopw [4] (fun i wr => ∃ k : Nat, k ≤ n ∧ i = .int .i64 k ∧ Row wr w.heap.size n n (Cp zs k n) ∧ Below w.heap.size w wr) (fun i _ => n - (intOf i).toNat)
  case atStart => exact ⟨0, Nat.zero_le _, rfl, hrow1, hbel1⟩
  case round =>
    clear hrow1 hbel1
    obtain ⟨k, hk, rfl, hrow, hbel⟩ := hrel
    by_cases hlt : k < n
    · obtain ⟨b, off, hx, hb, hc⟩ := h.at hlt
      cases hx
      have hcx : wr.cell? ⟨b, off + k, none⟩ = some (.int .u8 (zs.getD k 0)) := (hbel.cell (by exact hb)).trans hc
      have hdst := hrow.cell hlt
      have hfz := hrow.frozen k
      have R1 := hrow.set k (zs.getD k 0)
      rw [Cp_set h.1 hlt] at R1
      have R2 := hbel.setCell (p := ⟨w.heap.size, k, none⟩) (Nat.le_refl _) (.int .u8 (zs.getD k 0))
      have H1 : Hid (Row (wr.setCell ⟨w.heap.size, k, none⟩ (.int .u8 (zs.getD k 0))) w.heap.size n n (Cp zs (k + 1) n)) := R1
      have H2 : Hid (Below w.heap.size w (wr.setCell ⟨w.heap.size, k, none⟩ (.int .u8 (zs.getD k 0)))) := R2
      clear R1 R2 hrow hbel hc
      go_wp2
      go_roundw
      case rel => exact ⟨k + 1, by omega, by go_num, by simpa using H1.out, by simpa using H2.out⟩
      case measure => simp [intOf]; omega
    · have e : k = n := by omega
      subst e
      go_wp2
      go_ret
      exact ⟨rfl, by rw [Cp_all h.1] at hrow; exact hrow, hbel⟩
end Go.Proofs.Qxb6602793a.Mem
