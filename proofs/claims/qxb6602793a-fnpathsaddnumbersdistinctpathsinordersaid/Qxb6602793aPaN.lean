import Derived.Test.Qxb6602793aRows
import Derived.WalkKit
import Derived.ProofKit
import Derived.OpenShut
import Derived.ShutString
import Derived.ChangeOld
import Derived.Below
import Derived.Deep.Matrix
import Derived.Test.Qxb6602793aPaM
namespace Go.Proofs.Qxb6602793a.fnPathsAdd
open Go.ChangeShapes Go.WideShapes Go.ChangeAt Go.RowKit
open Go.ChangeMaps (open_string shut_string)
open Go.Proofs.Qxb6602793a.Pa
set_option linter.unusedVariables false

theorem own : ownKnob Try.prog.godebug = none := by kernel_rfl
theorem laidOut : laidOutB Try.prog = true := by kernel_rfl

/-- The bytes of a row of integers. -/
def bytesOf (zs : List Int) : List UInt8 := zs.map fun z => UInt8.ofNat z.toNat

theorem bytesOf_at {zs : List Int} {j : Nat} {x : UInt8} (hw : ∀ n ∈ zs, (Lit.int .u8 n).wf = true) (h : (bytesOf zs)[j]? = some x) : (x.toNat : Int) = zs.getD j 0 := by
  unfold bytesOf at h
  rw [List.getElem?_map] at h
  cases hz : zs[j]? with
  | none => rw [hz] at h; cases h
  | some z =>
    rw [hz] at h
    have hx : UInt8.ofNat z.toNat = x := by simpa using h
    have hwz := hw z (List.mem_of_getElem? hz)
    have h1 : IntKind.u8.min = 0 := by decide
    have h2 : IntKind.u8.max = 255 := by decide
    simp [Lit.wf, h1, h2] at hwz
    rw [← hx, List.getD, hz]
    simp
    omega

theorem rows_of {w : World} {x : Addr} {len cap : Nat} {A : Nat → Option Addr} {L C : Nat → Nat} {Z : Nat → List Int} (hlc : len ≤ cap)
    (h : ∀ r, r < cap → w.cell? (x.add r) = some (.slice (A r) (L r) (C r)) ∧ L r ≤ C r ∧ C r ≤ maxLen ∧ (Z r).length = C r ∧ (∀ n ∈ Z r, (Lit.int .u8 n).wf = true) ∧ (A r = none → C r = 0) ∧
      ∀ a', A r = some a' → 0 ≤ a'.block ∧ ∀ c, c < C r → w.cell? (a'.add c) = some (.int .u8 ((Z r).getD c 0))) :
    ByteRows w w.heap.size (some x) len A C (fun r => bytesOf ((Z r).take (L r))) := by
  have hlen : ∀ r, r < cap → (bytesOf ((Z r).take (L r))).length = L r := fun r hr => by
    obtain ⟨_, h2, _, h4, _⟩ := h r hr
    simp [bytesOf]; omega
  refine ⟨?_, fun k hk => ?_⟩
  · by_cases h0 : len = 0
    · exact .inl h0
    · obtain ⟨b, off, spot⟩ := x
      have hspot : spot = none := by simpa [Addr.add] using World.cell?_spot (h 0 (by omega)).1
      subst hspot
      refine .inr ⟨b, off, rfl, ?_, fun k hk => ?_⟩
      · have := World.block_lt_of_cell? _ _ (h 0 (by omega)).1
        rw [add_off] at this
        exact this
      · rw [← add_off, (h k (by omega)).1, hlen k (by omega)]
  · obtain ⟨_, h2, _, h4, h5, h6, h7⟩ := h k (by omega)
    refine ⟨h6, by rw [hlen k (by omega)]; exact h2, ?_⟩
    by_cases h0 : L k = 0
    · exact .inl (List.length_eq_zero_iff.1 (by rw [hlen k (by omega)]; exact h0))
    · cases hA : A k with
      | none => have := h6 hA; omega
      | some a' =>
        obtain ⟨_, h8⟩ := h7 a' hA
        obtain ⟨b, off, spot⟩ := a'
        have hspot : spot = none := by simpa [Addr.add] using World.cell?_spot (h8 0 (by omega))
        subst hspot
        refine .inr ⟨b, off, rfl, ?_, fun j y hy => ?_⟩
        · have := World.block_lt_of_cell? _ _ (h8 0 (by omega))
          rw [add_off] at this
          exact this
        · have hj : j < L k := by
            have := (List.getElem?_eq_some_iff.1 hy).1
            rw [hlen k (by omega)] at this
            exact this
          rw [← add_off, h8 j (by omega), bytesOf_at (fun n hn => h5 n (List.mem_of_mem_take hn)) hy]
          rw [List.getD, List.getD, List.getElem?_take_of_lt hj]

set_option maxRecDepth 100000 in
theorem lifted (os : Os) (started : os.Started) (H : Type) (enc : TypeId × Value → H) :
    ReturnsInHanded {} Try.checked os 9 .any (Rows.fnPathsAddNumbersDistinctPathsInOrderSpec.pre6 enc Try.prog Try.f9 Rows.fnPathsAddNumbersDistinctPathsInOrderRow.domain false) (Rows.fnPathsAddNumbersDistinctPathsInOrderSpec.post enc Try.prog Try.f9 false true false false) := by
  refine returnsInHanded_of_change (C := Try.checked) own started (by kernel_rfl) Try.func9
    (ChangeSpec.witness6 (enc := enc) (C := Try.checked) false ⟨#[], #[.slice none 0 0], []⟩ 8 (by kernel_rfl) (by kernel_rfl) (by kernel_rfl) (by kernel_rfl)) ?_
  intro W base args ds gs before hval0 hW hcnd _
  have hval : ∀ (j : Nat) t v, Try.f9.params[j]? = some t → args[j]? = some v → Value.okWide Try.prog W .any base t v := hval0
  have hW' := hW
  obtain ⟨p, q, hA0, hV, rfl, hfz, hnd⟩ := hW
  have hA : DataW.TrodAll enc Try.prog W 0 (fun _ => true) true Try.f9.params.toList args.toList ds p := hA0
  rw [Try.params9] at hA hval
  obtain ⟨v0, vs0, d0, ds0, p0, q0, hargs, rfl, rfl, h0, r0⟩ := trodAll_cons hA
  obtain ⟨rfl, rfl, rfl⟩ := trodAll_nil r0
  obtain rfl : args = #[v0] := by cases args; simp_all
  obtain ⟨rfl, rfl⟩ := trodVars_none hV
  obtain ⟨a0, len0, cap0, rfl⟩ := okWide_slice Try.underlying34 (hval 0 34 v0 rfl rfl)
  have k0 := h0
  have lt0 : ∀ x ∈ p0, x.block < W.heap.size := by obtain ⟨m, hm⟩ := k0; exact DataW.trod_lt m _ _ _ hm
  have w0 : ∃ A C us, ByteRows W W.heap.size a0 len0 A C us ∧ (a0 = none → len0 = 0 ∧ cap0 = 0) := by
    obtain ⟨fuel, hf⟩ := h0
    rcases Go.Deep.open_int_rows Try.underlying34 Try.underlying22 Try.underlying5 (by kernel_rfl) (by kernel_rfl) hf with ⟨hcs, _⟩ | ⟨x, l, c, A, L, C, Z, hcs, _, hl, hm, _, hall⟩
    · simp [Value.cells] at hcs
      obtain ⟨rfl, rfl, rfl⟩ := hcs
      exact ⟨fun _ => none, fun _ => 0, fun _ => [], ⟨.inl rfl, fun k hk => by omega⟩, fun _ => ⟨rfl, rfl⟩⟩
    · simp [Value.cells] at hcs
      obtain ⟨rfl, rfl, rfl⟩ := hcs
      exact ⟨A, C, _, rows_of hl hall, fun e => by cases e⟩
  obtain ⟨A, C, us, hrows, hnil⟩ := w0
  clear hA0 hval0
  refine (law_spec a0 len0 cap0 hrows hnil).mono fun e W' ⟨he, bel⟩ => ?_
  subst he
  exact ⟨_, rfl, _, _, _, [], _, [], hW', trodAll_mk1 (shut_bool Try.underlying4 _), (trodAll_cons_mk (Below.trod laidOut (by kernel_rfl) (of_decide_eq_true (by kernel_rfl)) k0 bel lt0) trodAll_mk0), rfl, bel.frame _, fun h => by cases h⟩

theorem over : Rows.fnPathsAddNumbersDistinctPathsInOrderRow.holds Try.pinned (OpenSpec.ofChange Rows.fnPathsAddNumbersDistinctPathsInOrderSpec) :=
  OpenClaim.holds_of_wide 9 Try.f9 rfl rfl rfl rfl rfl rfl rfl ⟨rfl, rfl, rfl, rfl, rfl⟩ rfl rfl rfl rfl rfl (by kernel_rfl) Try.func9 (by kernel_rfl)
    (of_decide_eq_true (by kernel_rfl)) (by unfold Func.isWrapper; first | (rw [if_pos (by decide +kernel)]; kernel_rfl) | (rw [if_neg (by decide +kernel)]; exact ⟨rfl, rfl⟩))
    (fun os started H enc _ => lifted os started H enc)

/-- THE STATEMENT -/
theorem proved : Rows.FnPathsAddNumbersDistinctPathsInOrderSaid := over
#print axioms proved
end Go.Proofs.Qxb6602793a.fnPathsAdd
