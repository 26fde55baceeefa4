import Derived.Test.Qxb6602793aPaD
import Derived.Test.Qxb6602793aPaE
import Derived.Maps.OwnSet
import Derived.Deep.AppendLies
import Derived.Laws.Cover3
import Derived.RegionTactic
namespace Go.Proofs.Qxb6602793a.Pa
open Go.RowKit Go.Proofs.Qxb6602793a.Mem Go.WideMaps Go.Maps

/-! THE TREE IN MEMORY -/

def ndCells (nd : Nd) (pr : Int) : List Value :=
  [.string ⟨nd.first.toArray⟩, .string ⟨(flat nd.rest).toArray⟩, .int .i64 pr, .int .i64 nd.path, .int .i64 (nd.child : Int), .int .i64 (nd.next : Int), .map nd.bf]
def rowOf (T : Nat → Nd) (pr : Nat → Int) (N : Nat) : List Value := (List.range N).flatMap fun k => ndCells (T k) (pr k)

theorem ndCells_len (nd : Nd) (pr : Int) : (ndCells nd pr).length = 7 := rfl
theorem rowOf_succ (T : Nat → Nd) (pr : Nat → Int) (N : Nat) : rowOf T pr (N + 1) = rowOf T pr N ++ ndCells (T N) (pr N) := by
  simp [rowOf, List.range_succ]
theorem rowOf_len (T : Nat → Nd) (pr : Nat → Int) : ∀ N, (rowOf T pr N).length = N * 7
  | 0 => rfl
  | N + 1 => by rw [rowOf_succ, List.length_append, rowOf_len T pr N, ndCells_len]; omega
theorem rowOf_get (T : Nat → Nd) (pr : Nat → Int) : ∀ {N k f : Nat}, k < N → f < 7 → (rowOf T pr N)[k * 7 + f]? = (ndCells (T k) (pr k))[f]?
  | 0, _, _, h, _ => by omega
  | N + 1, k, f, h, hf => by
    rw [rowOf_succ]
    by_cases e : k = N
    · subst e
      rw [List.getElem?_append_right (by rw [rowOf_len]; omega), rowOf_len]
      congr 1; omega
    · rw [List.getElem?_append_left (by rw [rowOf_len]; omega)]
      exact rowOf_get T pr (by omega) hf
theorem rowOf_congr {T T' : Nat → Nd} {pr pr' : Nat → Int} : ∀ {N : Nat}, (∀ k, k < N → ndCells (T' k) (pr' k) = ndCells (T k) (pr k)) → rowOf T' pr' N = rowOf T pr N
  | 0, _ => rfl
  | N + 1, h => by rw [rowOf_succ, rowOf_succ, rowOf_congr (fun k hk => h k (by omega)), h N (by omega)]
theorem rowOf_set {T T' : Nat → Nd} {pr pr' : Nat → Int} {k f : Nat} {v : Value} : ∀ {N : Nat}, k < N → f < 7 → (∀ j, j < N → j ≠ k → ndCells (T' j) (pr' j) = ndCells (T j) (pr j)) → ndCells (T' k) (pr' k) = (ndCells (T k) (pr k)).set f v →
    (rowOf T pr N).set (k * 7 + f) v = rowOf T' pr' N
  | 0, h, _, _, _ => by omega
  | N + 1, h, hf, ho, hk => by
    rw [rowOf_succ, rowOf_succ]
    by_cases e : k = N
    · subst e
      rw [List.set_append_right _ _ (by rw [rowOf_len]; omega), rowOf_len, rowOf_congr (T := T) (T' := T') (pr := pr) (pr' := pr') (fun j hj => ho j (by omega) (by omega)), hk]
      congr 2; omega
    · rw [List.set_append_left _ _ (by rw [rowOf_len]; omega), rowOf_set (by omega) hf (fun j hj hj2 => ho j (by omega) hj2) hk, ho N (by omega) (fun e2 => e e2.symm)]

/-- The map in block b finds the children ks by their first names. -/
def MapFor (w : World) (b n : Nat) (T : Nat → Nd) (ks : List Nat) : Prop :=
  ∃ D : DataW Unit, w.ownsMap Try.prog 9 (plainElem Try.prog 3) b n D ∧ ∀ x : Name, x.length ≤ 1048576 →
    (Maps.has D (.string x) = true → ∃ c, c ∈ ks ∧ (T c).first = x ∧ D.atKey (.string x) (.lit (.int .i64 0)) = .lit (.int .i64 (c : Int))) ∧
    (Maps.has D (.string x) = false → ∀ c, c ∈ ks → (T c).first ≠ x)

theorem law9 : Keyed Try.prog 9 := string_keyed Try.underlying9
theorem zero3 (w : World) : (zeroValue 3).run Try.prog w = .ok (.int .i64 0) w := by kernel_rfl
theorem str_size (x : List UInt8) : (⟨x.toArray⟩ : ByteArray).size = x.length := rfl

theorem MapFor.look {w : World} {b n : Nat} {T : Nat → Nd} {ks : List Nat} (h : MapFor w b n T ks) {x : Name} (hx : x.length ≤ 1048576) :
    (∃ c : Nat, (Instr.lookup 50 (.map (some b)) (.string ⟨x.toArray⟩) true).run Try.prog w = .ok (.tuple #[.int .i64 (c : Int), .bool true]) w ∧ c ∈ ks ∧ (T c).first = x) ∨
    (∃ c : Int, (Instr.lookup 50 (.map (some b)) (.string ⟨x.toArray⟩) true).run Try.prog w = .ok (.tuple #[.int .i64 c, .bool false]) w ∧ ∀ c, c ∈ ks → (T c).first ≠ x) := by
  obtain ⟨D, hown, hD⟩ := h
  obtain ⟨v, ps, hrun, hv⟩ := hown.look_ok law9 Try.underlying50 (zero3 w) (plainElem_int Try.underlying3 (by decide)) (keyOf_string_mk Try.underlying9 (s := ⟨x.toArray⟩) (by rw [str_size]; unfold maxLen; omega))
  obtain ⟨c, rfl, hc, hwc⟩ := plainElem_int_inv Try.underlying3 hv
  simp only [Prod.mk.injEq] at hc
  obtain ⟨h1, h2⟩ := hD x hx
  have hrun2 : (Instr.lookup 50 (.map (some b)) (.string ⟨x.toArray⟩) true).run Try.prog w = .ok (.tuple #[.int .i64 c, .bool (Maps.has D (.string x))]) w := hrun
  have hc2 : D.atKey (.string x) (.lit (.int .i64 0)) = .lit (.int .i64 c) := hc.1
  cases hh : Maps.has D (.string x)
  · rw [hh] at hrun2
    exact .inr ⟨c, hrun2, h2 hh⟩
  · rw [hh] at hrun2
    obtain ⟨k, g1, g2, g3⟩ := h1 hh
    rw [g3] at hc2
    have e : (k : Int) = c := by injection hc2 with hc3; injection hc3
    subst e
    exact .inl ⟨k, hrun2, g1, g2⟩

theorem wf_nat {c : Nat} (h : c ≤ 1048576) : (Lit.int .i64 (c : Int)).wf = true := by
  have h1 : IntKind.i64.min = -9223372036854775808 := by decide
  have h2 : IntKind.i64.max = 9223372036854775807 := by decide
  simp [Lit.wf, h1, h2]
  omega
theorem MapFor.made (w : World) (T : Nat → Nd) : MapFor (w.alloc (.map #[] 0)) w.heap.size 0 T [] :=
  ⟨_, World.ownsMap_made _ _ _ _, fun x _ => ⟨fun h => by simp [Maps.has] at h, fun _ c hc => by cases hc⟩⟩
theorem MapFor.put {w : World} {b n c : Nat} {T T' : Nat → Nd} {ks : List Nat} {x : Name} (h : MapFor w b n T ks) (hn : n ≤ 1048576) (hx : x.length ≤ 1048576) (hc : c ≤ 1048576) (hT : ∀ k, k ∈ ks → (T' k).first = (T k).first) (hTc : (T' c).first = x) :
    ∃ w', (Instr.mapUpdate 50 (.map (some b)) (.string ⟨x.toArray⟩) (.int .i64 (c : Int))).run Try.prog w = .ok () w' ∧ MapFor w' b (n + 1) T' (c :: ks) ∧ w.grownBy w' (some b) := by
  obtain ⟨D, hown, hD⟩ := h
  obtain ⟨w', hrun, hown', hg⟩ := hown.update law9 Try.underlying50 (by unfold maxLen; omega) (key := .string ⟨x.toArray⟩) (val := .int .i64 (c : Int)) (keyOf_string_mk Try.underlying9 (s := ⟨x.toArray⟩) (by rw [str_size]; unfold maxLen; omega)) (plainElem_int Try.underlying3 (wf_nat hc))
  have hm := hown.isMap
  refine ⟨w', hrun, ⟨_, hown', ?_⟩, hg⟩
  intro y hy
  show (Maps.has (D.put (.string x) _) (.string y) = true → _) ∧ (Maps.has (D.put (.string x) _) (.string y) = false → _)
  by_cases e : y = x
  · subst e
    rw [has_put_same hm (by trivial)]
    refine ⟨fun _ => ⟨c, List.mem_cons_self, hTc, ?_⟩, fun h => by cases h⟩
    exact atKey_put_same hm (by trivial) _ _
  · have hne : (Lit.string y) ≠ Lit.string x := fun h => e (by injection h)
    rw [has_put_other hne]
    obtain ⟨h1, h2⟩ := hD y hy
    refine ⟨fun h => ?_, fun h k hk => ?_⟩
    · obtain ⟨k, g1, g2, g3⟩ := h1 h
      exact ⟨k, List.mem_cons_of_mem _ g1, by rw [hT k g1]; exact g2, by rw [← g3]; exact atKey_put_other hne _ _⟩
    · rw [List.mem_cons] at hk
      rcases hk with rfl | hk
      · rw [hTc]; exact fun e2 => e e2.symm
      · rw [hT k hk]; exact h2 h k hk
theorem MapFor.congr {w : World} {b n n' : Nat} {T T' : Nat → Nd} {ks : List Nat} (h : MapFor w b n T ks) (hn : n ≤ n') (hT : ∀ k, k ∈ ks → (T' k).first = (T k).first) : MapFor w b n' T' ks := by
  obtain ⟨D, hown, hD⟩ := h
  refine ⟨D, hown.mono hn, fun x hx => ⟨fun h => ?_, fun h k hk => ?_⟩⟩
  · obtain ⟨c, g1, g2, g3⟩ := (hD x hx).1 h
    exact ⟨c, g1, by rw [hT c g1]; exact g2, g3⟩
  · rw [hT k hk]; exact (hD x hx).2 h k hk
theorem MapFor.swap {w : World} {b n : Nat} {T : Nat → Nd} {ks ks' : List Nat} (h : MapFor w b n T ks) (hk : ∀ k, k ∈ ks ↔ k ∈ ks') : MapFor w b n T ks' := by
  obtain ⟨D, hown, hD⟩ := h
  refine ⟨D, hown, fun x hx => ⟨fun h => ?_, fun h k hk2 => (hD x hx).2 h k ((hk k).2 hk2)⟩⟩
  obtain ⟨c, g1, g2, g3⟩ := (hD x hx).1 h
  exact ⟨c, (hk c).1 g1, g2, g3⟩
theorem MapFor.at {w w' : World} {b n : Nat} {T : Nat → Nd} {ks : List Nat} (h : MapFor w b n T ks) (hb : ∀ es cl, w.heap[b]? = some (.map es cl) → w'.heap[b]? = some (.map es cl)) : MapFor w' b n T ks := by
  obtain ⟨D, ⟨es, cl, h1, h2⟩, hD⟩ := h
  exact ⟨D, ⟨es, cl, hb es cl h1, h2⟩, hD⟩
theorem MapFor.isMap {w : World} {b n : Nat} {T : Nat → Nd} {ks : List Nat} (h : MapFor w b n T ks) : ∃ es cl, w.heap[b]? = some (.map es cl) := by
  obtain ⟨D, ⟨es, cl, h1, h2⟩, hD⟩ := h
  exact ⟨es, cl, h1⟩

/-! ### The chain of children, and its length -/
def Ch (N : Nat) (T : Nat → Nd) (c : Nat) (l : List Nat) : Prop := Chain T c l ∧ ∀ k, k ∈ l → 0 < k ∧ k < N
theorem Ch.uniq {N : Nat} {T : Nat → Nd} : ∀ {l l' : List Nat} {c : Nat}, Ch N T c l → Ch N T c l' → l = l'
  | [], [], _, _, _ => rfl
  | [], x :: l', c, h, h' => by
    have h1 : c = 0 := h.1
    have h2 : c = x := h'.1.1
    have := (h'.2 x List.mem_cons_self).1
    omega
  | x :: l, [], c, h, h' => by
    have h1 : c = 0 := h'.1
    have h2 : c = x := h.1.1
    have := (h.2 x List.mem_cons_self).1
    omega
  | x :: l, y :: l', c, h, h' => by
    have h1 : c = x := h.1.1
    have h2 : c = y := h'.1.1
    subst h1
    subst h2
    rw [Ch.uniq (l := l) (l' := l') ⟨h.1.2, fun k hk => h.2 k (List.mem_cons_of_mem _ hk)⟩ ⟨h'.1.2, fun k hk => h'.2 k (List.mem_cons_of_mem _ hk)⟩]
open Classical in
noncomputable def chLen (N : Nat) (T : Nat → Nd) (c : Nat) : Nat := if h : ∃ l, Ch N T c l then (Classical.choose h).length else 0
theorem chLen_eq {N : Nat} {T : Nat → Nd} {l : List Nat} {c : Nat} (h : Ch N T c l) : chLen N T c = l.length := by
  have h2 : ∃ l, Ch N T c l := ⟨l, h⟩
  unfold chLen
  rw [dif_pos h2, Ch.uniq (Classical.choose_spec h2) h]
theorem Ch.nil {N : Nat} {T : Nat → Nd} {l : List Nat} (h : Ch N T 0 l) : l = [] := by
  cases l with
  | nil => rfl
  | cons x l =>
    have h2 : 0 = x := h.1.1
    have := (h.2 x List.mem_cons_self).1
    omega
theorem Ch.cons {N : Nat} {T : Nat → Nd} {l : List Nat} {c : Nat} (h : Ch N T c l) (hc : c ≠ 0) : ∃ l', l = c :: l' ∧ Ch N T (T c).next l' ∧ 0 < c ∧ c < N := by
  cases l with
  | nil => exact absurd h.1 hc
  | cons x l =>
    have h2 : c = x := h.1.1
    subst h2
    exact ⟨l, rfl, ⟨h.1.2, fun k hk => h.2 k (List.mem_cons_of_mem _ hk)⟩, h.2 c List.mem_cons_self⟩

def NRow (w : World) (B g cap N : Nat) (T : Nat → Nd) (pr : Nat → Int) : Prop := w.ownsRow B 52 7 (.slice (some ⟨g, 0, none⟩) N cap) N (rowOf T pr N)
theorem NRow.cell {w : World} {B g cap N : Nat} {T : Nat → Nd} {pr : Nat → Int} (h : NRow w B g cap N T pr) {k : Nat} (f : Nat) (hk : k < N) (hf : f < 7) : w.cell? ⟨g, k * 7 + f, none⟩ = (ndCells (T k) (pr k))[f]? := by
  rw [World.ownsRow.cellAt h _ (by omega), rowOf_get T pr hk hf]
theorem NRow.frozen {w : World} {B g cap N : Nat} {T : Nat → Nd} {pr : Nat → Int} (h : NRow w B g cap N T pr) (j : Nat) : w.frozen? ⟨g, j, none⟩ = false := World.ownsRow.frozenAt h j

theorem str_list (x : List UInt8) : (⟨x.toArray⟩ : ByteArray).toList = x := by
  rw [Lib.toList_data]
theorem str_eq {x y : List UInt8} (h : x = y) : ((⟨x.toArray⟩ : ByteArray).toList == (⟨y.toArray⟩ : ByteArray).toList) = true := by
  subst h; simp
theorem str_ne {x y : List UInt8} (h : x ≠ y) : ((⟨x.toArray⟩ : ByteArray).toList == (⟨y.toArray⟩ : ByteArray).toList) = false := by
  rw [str_list, str_list]; simpa using h

def ChildRet (w w' : World) (T : Nat → Nd) (ks : List Nat) (nm : Name) (e : Ending) : Prop :=
  (∃ d, w' = w.drewN d) ∧ ((∃ c, c ∈ ks ∧ (T c).first = nm ∧ e = .returned (.tuple #[.int .i64 (c : Int), .bool true])) ∨ ((∀ c, c ∈ ks → (T c).first ≠ nm) ∧ ∃ c : Int, e = .returned (.tuple #[.int .i64 c, .bool false])))

set_option maxRecDepth 100000 in
set_option maxHeartbeats 400000 in
theorem childOf_list {w : World} {B g cap N i : Nat} {T : Nat → Nd} {pr : Nat → Int} {ks : List Nat} (b off cap2 : Nat) (nm : Name) (hrow : NRow w B g cap N T pr) (hi : i < N) (hch : Ch N T (T i).child ks) (hbf : (T i).bf = none) (hby : Bytes w b off nm) :
    Calls Try.prog 32 #[.slice (some ⟨g, 0, none⟩) N cap, .int .i64 (i : Int), .slice (some ⟨b, off, none⟩) nm.length cap2] w fun e w' => ChildRet w w' T ks nm e := by
  have hc4 : w.cell? ⟨g, i * 7 + 4, none⟩ = some (.int .i64 ((T i).child : Int)) := hrow.cell 4 hi (by decide)
  have hc6 : w.cell? ⟨g, i * 7 + 6, none⟩ = some (.map none) := by rw [hrow.cell 6 hi (by decide)]; simp [ndCells, hbf]
  have hc6' := fun w : World => run_neq_map_nil (P := Try.prog) w 50 9 3 none Try.underlying50
  have HRow : Hid (NRow w B g cap N T pr) := hrow
  have HCh : Hid (Ch N T (T i).child ks) := hch
  have hcv := fun d : Nat => conv (w := w.drewN d) (b := b) (off := off) (cap := cap2) (nm := nm) 22 Try.underlying22 hby
  clear hrow hch hby hbf
  go_enter Try.func32, Try.ntmps32
  go_wp2
  go_loopw [11] (fun cv wr => ∃ (c d : Nat) (k1 k2 : List Nat), cv = .int .i64 (c : Int) ∧ wr = w.drewN d ∧ ks = k1 ++ k2 ∧ Ch N T c k2 ∧ ∀ k, k ∈ k1 → (T k).first ≠ nm) (fun cv _ => chLen N T (intOf cv).toNat)
  case atStart => exact ⟨(T i).child, 0, [], ks, rfl, rfl, rfl, HCh.out, (fun k hk => by cases hk)⟩
  case round =>
    obtain ⟨c, d, k1, k2, rfl, rfl, hks, hch, hno⟩ := hrel
    have Hks : Hid (ks = k1 ++ k2) := hks
    have HC : Hid (Ch N T c k2) := hch
    have HNo : Hid (∀ k, k ∈ k1 → (T k).first ≠ nm) := hno
    clear hks hch hno hc4 hc6
    by_cases h0 : c = 0
    · subst h0
      go_wp2
      go_ret2
      have e := HC.out.nil
      refine ⟨⟨d, rfl⟩, .inr ⟨fun k hk => ?_, _, rfl⟩⟩
      rw [Hks.out, e, List.append_nil] at hk
      exact HNo.out k hk
    · obtain ⟨l', hl', hch', hcp, hcN⟩ := HC.out.cons h0
      have Hl : Hid (k2 = c :: l') := hl'
      have HC' : Hid (Ch N T (T c).next l') := hch'
      clear hl' hch'
      have hd0 : w.cell? ⟨g, c * 7, none⟩ = some (.string ⟨(T c).first.toArray⟩) := HRow.out.cell 0 hcN (by decide)
      have hd5 : w.cell? ⟨g, c * 7 + 5, none⟩ = some (.int .i64 ((T c).next : Int)) := HRow.out.cell 5 hcN (by decide)
      have hcvd := hcv (d + 1)
      by_cases he : (T c).first = nm
      · have hse : ((T c).first == nm) = true := by simpa using he
        have He : Hid ((T c).first = nm) := he
        clear he
        go_wp2
        go_region
        go_wp2
        go_ret2
        exact ⟨⟨_, rfl⟩, .inl ⟨c, by rw [Hks.out, Hl.out]; simp, He.out, rfl⟩⟩
      · have hse : ((T c).first == nm) = false := by simpa using he
        have He : Hid ((T c).first ≠ nm) := he
        clear he
        go_wp2
        go_region
        go_wp2
        go_roundw
        case rel =>
          refine ⟨(T c).next, d + 1, k1 ++ [c], l', rfl, rfl, by rw [Hks.out, Hl.out]; simp, HC'.out, ?_⟩
          intro k hk
          rw [List.mem_append] at hk
          rcases hk with hk | hk
          · exact HNo.out k hk
          · simp at hk; subst hk; exact He.out
        case measure =>
          simp only [intOf, Int.toNat_natCast]
          rw [chLen_eq HC'.out, chLen_eq HC.out, Hl.out]
          simp

set_option maxRecDepth 100000 in
set_option maxHeartbeats 400000 in
theorem childOf_map {w : World} {B g cap N i mb mn : Nat} {T : Nat → Nd} {pr : Nat → Int} {ks : List Nat} (b off cap2 : Nat) (nm : Name) (hrow : NRow w B g cap N T pr) (hi : i < N) (hbf : (T i).bf = some mb) (hm : MapFor w mb mn T ks) (hnm : nm.length ≤ 1048576) (hby : Bytes w b off nm) :
    Calls Try.prog 32 #[.slice (some ⟨g, 0, none⟩) N cap, .int .i64 (i : Int), .slice (some ⟨b, off, none⟩) nm.length cap2] w fun e w' => ChildRet w w' T ks nm e := by
  have hc6 : w.cell? ⟨g, i * 7 + 6, none⟩ = some (.map (some mb)) := by rw [hrow.cell 6 hi (by decide)]; simp [ndCells, hbf]
  have hc6' := fun w : World => run_neq_map_nil (P := Try.prog) w 50 9 3 (some mb) Try.underlying50
  have hcv := conv (w := w.drew) (b := b) (off := off) (cap := cap2) (nm := nm) 22 Try.underlying22 hby
  have hm' : MapFor w.drew mb mn T ks := hm
  have hl := hm'.look (x := nm) hnm
  clear hrow hby hbf hm hm'
  rcases hl with ⟨c, hrun, hck, hcf⟩ | ⟨c, hrun, hno⟩
  · have H1 : Hid (c ∈ ks) := hck
    have H2 : Hid ((T c).first = nm) := hcf
    clear hck hcf
    go_enter Try.func32, Try.ntmps32
    go_wp2
    go_region
    go_wp2
    go_ret2
    exact ⟨⟨1, rfl⟩, .inl ⟨c, H1.out, H2.out, rfl⟩⟩
  · have H1 : Hid (∀ c, c ∈ ks → (T c).first ≠ nm) := hno
    clear hno
    go_enter Try.func32, Try.ntmps32
    go_wp2
    go_region
    go_wp2
    go_ret2
    exact ⟨⟨1, rfl⟩, .inr ⟨H1.out, c, rfl⟩⟩
end Go.Proofs.Qxb6602793a.Pa
