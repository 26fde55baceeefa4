import Derived.Test.Qxb6602793aPaK
namespace Go.Proofs.Qxb6602793a.Pa
open Go.RowKit Go.Proofs.Qxb6602793a.Mem Go.WideMaps Go.Maps

theorem info44 : (Try.prog.info? 44).map (fun i => (i.zero, i.size, i.bytes)) = some (some (.slice none 0 0), 1, 24) := by kernel_rfl
theorem info22 : (Try.prog.info? 22).map (fun i => (i.zero, i.size, i.bytes)) = some (some (.slice none 0 0), 1, 24) := by kernel_rfl

/-- The outer row in block g. -/
def ORow (w : World) (e : TypeId) (g n : Nat) (vs : List Value) : Prop := w.ownsRow 0 e 1 (.slice (some ⟨g, 0, none⟩) n n) n vs
section
variable {w w' : World} {e : TypeId} {g n : Nat} {vs : List Value}
theorem ORow.len (h : ORow w e g n vs) : vs.length = n := by have := h.1; omega
theorem ORow.lt (h : ORow w e g n vs) : g < w.heap.size := (World.ownsRow.lt h g rfl).2
theorem ORow.cell (h : ORow w e g n vs) {j : Nat} (hj : j < n) : w.cell? ⟨g, j, none⟩ = vs[j]? := World.ownsRow.cellAt h j (by omega)
theorem ORow.frozen (h : ORow w e g n vs) (j : Nat) : w.frozen? ⟨g, j, none⟩ = false := World.ownsRow.frozenAt h j
theorem ORow.set (h : ORow w e g n vs) (j : Nat) (v : Value) : ORow (w.setCell ⟨g, j, none⟩ v) e g n (vs.set j v) := (World.ownsRow.stored h j v).1
theorem ORow.below (h : ORow w e g n vs) {B : Nat} (hb : Below B w w') (hg : g < B) : ORow w' e g n vs := by
  obtain ⟨h1, h2⟩ := h
  refine ⟨h1, ?_⟩
  rcases h2 with h2 | ⟨g', cap', cur, hv, hb', hh, r⟩
  · exact .inl h2
  · refine .inr ⟨g', cap', cur, hv, hb', ?_, r⟩
    have e : g' = g := by simp at hv; exact hv.1.symm
    subst e
    rw [hb.block g' hg]; exact hh
theorem made_orow {w : World} {B : Nat} (h : w.ownsRow 0 e 1 (.slice (some ⟨B, 0, none⟩) n n) n (madeCells (Value.slice none 0 0).cells (n * 1)).toList) : ORow w e B n (List.replicate n (.slice none 0 0)) := by
  have e : (madeCells (Value.slice none 0 0).cells (n * 1)).toList = List.replicate n (.slice none 0 0) := by
    rw [Nat.mul_one]
    exact toList_madeCells_one (.slice none 0 0) n
  rw [e] at h
  exact h
end

/-- A slice of strings above block O. -/
def StrSl (w : World) (O : Nat) (v : Value) (l : List Name) : Prop := w.ownsRow (O + 1) 9 1 v l.length (strs l)
theorem own_mono {w : World} {base base' : Nat} {e : TypeId} {size : Nat} {v : Value} {n : Nat} {xs : List Value} (h : w.ownsRow base e size v n xs) (hb : base' ≤ base) : w.ownsRow base' e size v n xs := by
  refine ⟨h.1, ?_⟩
  rcases h.2 with h2 | ⟨g, cap, cur, h1, h2, h3⟩
  · exact .inl h2
  · exact .inr ⟨g, cap, cur, h1, by omega, h3⟩
theorem own_below {w w' : World} {base : Nat} {e : TypeId} {size : Nat} {v : Value} {n : Nat} {xs : List Value} (h : w.ownsRow base e size v n xs) (hb : Below w.heap.size w w') : w'.ownsRow base e size v n xs := by
  have hlt := h.lt
  refine ⟨h.1, ?_⟩
  rcases h.2 with h2 | ⟨g, cap, cur, h1, h2, h3, h4⟩
  · exact .inl h2
  · refine .inr ⟨g, cap, cur, h1, h2, ?_, h4⟩
    rw [hb.block g (lt_of_heap h3)]; exact h3

def DecAll (w w' : World) (n : Nat) (us : Nat → List UInt8) (e : Ending) : Prop :=
  Below w.heap.size w w' ∧ ((∃ v, e = .returned (.tuple #[v, .bool false])) ∨
    ∃ (vs : List Value) (Ls : Nat → List Item), e = .returned (.tuple #[.slice (some ⟨w.heap.size, 0, none⟩) n n, .bool true]) ∧ ORow w' 44 w.heap.size n vs ∧
      ∀ j, j < n → OKL (Ls j) ∧ us j = flat (Ls j) ∧ ∃ v, vs[j]? = some v ∧ StrSl w' w.heap.size v (names (Ls j)))

theorem decode_any {w : World} {B C : Nat} {a : Option Addr} {us : List UInt8} (h : PathIn w B a us) (hB : B ≤ w.heap.size) (hcap : us.length ≤ C) (hsz : us.length ≤ 1048576) :
    Calls Try.prog 29 #[.slice a us.length C] w fun e w' => Decoded w w' us e := by
  rcases h with rfl | ⟨b, off, rfl, hb, hby⟩
  · exact decode_empty a C w
  · exact decode_some b off C us w hby hcap (by omega) hsz

set_option maxRecDepth 100000 in
set_option maxHeartbeats 400000 in
theorem decodeAll_spec (a : Option Addr) (n cap : Nat) {w : World} {A : Nat → Option Addr} {C : Nat → Nat} {us : Nat → List UInt8} (h : ByteRows w w.heap.size a n A C us) (hn : n ≤ 1048576) (hsz : ∀ k, k < n → (us k).length ≤ 1048576) :
    Calls Try.prog 24 #[.slice a n cap] w fun e w' => DecAll w w' n us e := by
  obtain ⟨i0, hi, hz0, hz1, hz2⟩ := info_parts info44
  have HR : Hid (ByteRows w w.heap.size a n A C us) := h
  have HZ : Hid (∀ k, k < n → (us k).length ≤ 1048576) := hsz
  clear h hsz
  go_enter Try.func24, Try.ntmps24
  go_wp2_with (at_make; refine wpList_make_full _ rfl _ _ 36 rfl 0 44 i0 (.slice none 0 0) 1 Try.underlying36 hi hz0 hz1 .i64 .i64 _ _ n rfl rfl (by omega) (by omega) (by rw [hz2]; omega) (by unfold maxLen; omega) (Nat.zero_le _) ?_; intro w1 hown1 hgrow1)
  have hrow1 := made_orow hown1
  have hbel1 : Below w.heap.size w w1 := (Below.refl _ _).grown hgrow1 (Nat.le_refl _) (fun k hk => by cases hk)
  clear hown1 hgrow1 hi hz0 hz1 hz2
  obtain ⟨O, hO⟩ : ∃ O, O = w.heap.size := ⟨_, rfl⟩
  have HO : Hid (O = w.heap.size) := hO
  rw [← hO] at hrow1 ⊢
  have Hrow1 : Hid (ORow w1 44 O n (List.replicate n (.slice none 0 0))) := hrow1
  have Hbel1 : Hid (Below w.heap.size w w1) := hbel1
  clear hrow1 hbel1 hO
  go_loopw [5] (fun kv wr => ∃ (k : Nat) (vs : List Value) (Ls : Nat → List Item), k ≤ n ∧ kv = .int .i64 (k : Int) ∧ ORow wr 44 O n vs ∧ (∀ j, j < k → OKL (Ls j) ∧ us j = flat (Ls j) ∧ ∃ v, vs[j]? = some v ∧ StrSl wr O v (names (Ls j))) ∧ Below w.heap.size w wr) (fun kv _ => n - (intOf kv).toNat)
  case atStart => exact ⟨0, _, fun _ => [], Nat.zero_le _, rfl, Hrow1.out, (fun j hj => by omega), Hbel1.out⟩
  case round =>
    obtain ⟨k, vs, Ls, hk, rfl, hrow, hall, hbel⟩ := hrel
    have Hrow : Hid (ORow wr 44 O n vs) := hrow
    have Hall : Hid (∀ j, j < k → OKL (Ls j) ∧ us j = flat (Ls j) ∧ ∃ v, vs[j]? = some v ∧ StrSl wr O v (names (Ls j))) := hall
    have Hbel : Hid (Below w.heap.size w wr) := hbel
    clear hrow hall hbel
    by_cases hlt : k < n
    · obtain ⟨b, off, rfl, hbB, hc0⟩ := HR.out.at hlt
      have hc : wr.cell? ⟨b, off + k, none⟩ = some (.slice (A k) (us k).length (C k)) := (Hbel.out.cell (by exact hbB)).trans hc0
      obtain ⟨_, hcap2, hpath⟩ := HR.out.2 k hlt
      have Hcon : Hid (Calls Try.prog 29 #[.slice (A k) (us k).length (C k)] wr fun e w' => Decoded wr w' (us k) e) := decode_any (hpath.below Hbel.out) Hbel.out.size hcap2 (HZ.out k hlt)
      have hkn : (k : Int) < (n : Int) := by omega
      clear hc0 hcap2 hpath
      go_wp2_with fail
      refine Hcon.out.mono ?_
      rintro e w2 ⟨hb2, hres⟩
      have Hb2 : Hid (Below wr.heap.size wr w2) := hb2
      clear hb2
      rcases hres with ⟨v, rfl⟩ | ⟨L, v, hOKL, husk, rfl, hown⟩
      · go_wp2_with fail
        go_ret2
        exact ⟨Hbel.out.trans (Hb2.out.mono Hbel.out.size), .inl ⟨_, rfl⟩⟩
      · obtain ⟨va, vc, rfl, _⟩ := strRd_of hown
        obtain ⟨vl, hvl⟩ : ∃ vl, vl = (names L).length := ⟨_, rfl⟩
        have Hvl : Hid (vl = (names L).length) := hvl
        rw [← hvl] at hown ⊢
        have hOl := Hrow.out.lt
        have Hrow2 : Hid (ORow w2 44 O n vs) := Hrow.out.below Hb2.out hOl
        have Hown : Hid (StrSl w2 O (.slice va vl vc) (names L)) := own_mono (by rw [← hvl]; exact hown) (by omega)
        have HF : Hid (OKL L ∧ us k = flat L) := ⟨hOKL, husk⟩
        have hcO : ∃ v0, w2.cell? ⟨O, k, none⟩ = some v0 := ⟨_, (Hrow2.out.cell hlt).trans (List.getElem?_eq_getElem (by rw [Hrow2.out.len]; exact hlt))⟩
        obtain ⟨v0, hcO⟩ := hcO
        have hfO := Hrow2.out.frozen k
        have Hset : Hid (ORow (w2.setCell ⟨O, k, none⟩ (.slice va vl vc)) 44 O n (vs.set k (.slice va vl vc))) := Hrow2.out.set k _
        have Hbs : Hid (Below w.heap.size w (w2.setCell ⟨O, k, none⟩ (.slice va vl vc))) := (Hbel.out.trans (Hb2.out.mono Hbel.out.size)).setCell (by rw [HO.out]; exact Nat.le_refl _) _
        clear hOKL husk hown hvl
        go_wp2_with fail
        go_roundw
        case rel =>
          refine ⟨k + 1, _, upd Ls k L, by omega, by go_num, Hset.out, ?_, Hbs.out⟩
          intro j hj
          by_cases e : j = k
          · subst e
            rw [upd_same]
            refine ⟨HF.out.1, HF.out.2, _, List.getElem?_set_self (by rw [Hrow2.out.len]; exact hlt), ?_⟩
            exact ownsRow_setCell_below Hown.out (by simp) _
          · rw [upd_ne _ _ e]
            obtain ⟨h1, h2, v, h3, h4⟩ := Hall.out j (by omega)
            refine ⟨h1, h2, v, by rw [List.getElem?_set_ne (fun e2 => e e2.symm)]; exact h3, ?_⟩
            exact ownsRow_setCell_below (own_below h4 Hb2.out) (by simp) _
        case measure => simp [intOf]; omega
    · have e : k = n := by omega
      subst e
      go_wp2_with fail
      go_ret2
      exact ⟨Hbel.out, .inr ⟨vs, Ls, by rw [HO.out]; rfl, by rw [← HO.out]; exact Hrow.out, fun j hj => by rw [← HO.out]; exact Hall.out j hj⟩⟩

/-! clonePaths -/
def ints (us : List UInt8) : List Int := us.map (fun x => (x.toNat : Int))
theorem ints_len (us : List UInt8) : (ints us).length = us.length := by simp [ints]
theorem bytes_of_row {w : World} {g n cap : Nat} {us : List UInt8} (h : Row w g n cap (ints us)) : Bytes w g 0 us := by
  intro j x hx
  have hlt : j < us.length := (List.getElem?_eq_some_iff.1 hx).1
  have hl := h.len
  rw [ints_len] at hl
  rw [Nat.zero_add, h.cell (by omega)]
  simp [ints, List.getD, hx]
theorem rd_of_bytes {w : World} {b off : Nat} {us : List UInt8} (h : Bytes w b off us) (hb : b < w.heap.size) : Rd w (some ⟨b, off, none⟩) us.length (ints us) := by
  refine ⟨ints_len us, .inr ⟨b, off, rfl, hb, fun j hj => ?_⟩⟩
  rw [h j us[j] (List.getElem?_eq_getElem hj)]
  simp [ints, List.getD, hj]

/-- What cloneBytes gives: a slice of the same bytes; in a new block, or nil, or empty. -/
def CloneRet (w w' : World) (us : List UInt8) (e : Ending) : Prop :=
  Below w.heap.size w w' ∧ ∃ a cap, e = .returned (.slice a us.length cap) ∧ (a = none → cap = 0) ∧ us.length ≤ cap ∧ (us = [] ∨ ∃ b, a = some ⟨b, 0, none⟩ ∧ w.heap.size ≤ b ∧ b < w'.heap.size ∧ Bytes w' b 0 us)

theorem clone_any {w : World} {B C : Nat} {a : Option Addr} {us : List UInt8} (h : PathIn w B a us) (hB : B ≤ w.heap.size) (ha : a = none → C = 0) (hcap : us.length ≤ C) (hsz : us.length ≤ 1048576) :
    Calls Try.prog 11 #[.slice a us.length C] w fun e w' => CloneRet w w' us e := by
  cases a with
  | none =>
    have hC := ha rfl
    subst hC
    have e : us = [] := List.length_eq_zero_iff.1 (by omega)
    subst e
    refine (clone_nil w).mono ?_
    rintro e w' ⟨rfl, rfl⟩
    exact ⟨Below.refl _ _, none, 0, rfl, fun _ => rfl, Nat.le_refl _, .inl rfl⟩
  | some x =>
    have hrd : Rd w (some x) us.length (ints us) := by
      rcases h with e | ⟨b, off, h1, h2, h3⟩
      · subst e; exact ⟨rfl, .inl rfl⟩
      · cases h1
        exact rd_of_bytes h3 (by omega)
    refine (clone_some x us.length C (ints us) w hrd hsz).mono ?_
    rintro e w' ⟨rfl, hrow, hbel⟩
    exact ⟨hbel, _, _, rfl, fun e => (by cases e), Nat.le_refl _, .inr ⟨_, rfl, Nat.le_refl _, hrow.lt, bytes_of_row hrow⟩⟩

def PathsRet (w w' : World) (n : Nat) (us : Nat → List UInt8) (e : Ending) : Prop :=
  Below w.heap.size w w' ∧ ∃ a cap A C, e = .returned (.slice a n cap) ∧ ByteRows w' w'.heap.size a n A C us

set_option maxHeartbeats 400000 in
theorem clonePaths_nil (us : Nat → List UInt8) (w : World) : Calls Try.prog 25 #[.slice none 0 0] w fun e w' => PathsRet w w' 0 us e := by
  have q34 := fun (w : World) (a : Option Addr) (n c : Nat) => Lib.run_eql_slice_nil (P := Try.prog) w 34 22 a n c 0 0 Try.underlying34
  go_enter Try.func25, Try.ntmps25
  go_wp2
  go_ret
  exact ⟨Below.refl _ _, none, 0, fun _ => none, fun _ => 0, rfl, .inl rfl, fun k hk => by omega⟩

/-- A slice of bytes above block O, with its value. -/
def BSl2 (w : World) (O : Nat) (v : Value) (us : List UInt8) : Prop :=
  ∃ a cap, v = .slice a us.length cap ∧ (a = none → cap = 0) ∧ us.length ≤ cap ∧ (us = [] ∨ ∃ b, a = some ⟨b, 0, none⟩ ∧ O < b ∧ b < w.heap.size ∧ Bytes w b 0 us)

theorem BSl2.below {w w' : World} {O : Nat} {v : Value} {us : List UInt8} (h : BSl2 w O v us) (hb : Below w.heap.size w w') : BSl2 w' O v us := by
  obtain ⟨a, cap, h1, h2, h3, h4⟩ := h
  refine ⟨a, cap, h1, h2, h3, ?_⟩
  rcases h4 with e | ⟨b, g1, g2, g3, g4⟩
  · exact .inl e
  · exact .inr ⟨b, g1, g2, Nat.lt_of_lt_of_le g3 hb.size, fun j x hx => (hb.cell (by exact g3)).trans (g4 j x hx)⟩
theorem BSl2.setCell {w : World} {O k : Nat} {v u : Value} {us : List UInt8} (h : BSl2 w O v us) : BSl2 (w.setCell ⟨O, k, none⟩ u) O v us := by
  obtain ⟨a, cap, h1, h2, h3, h4⟩ := h
  refine ⟨a, cap, h1, h2, h3, ?_⟩
  rcases h4 with e | ⟨b, g1, g2, g3, g4⟩
  · exact .inl e
  · refine .inr ⟨b, g1, g2, by simpa using g3, fun j x hx => ?_⟩
    rw [World.cell?_of_block (heap_setCell_other w ⟨O, k, none⟩ b u (by simp; omega))]
    exact g4 j x hx

set_option maxRecDepth 100000 in
set_option maxHeartbeats 400000 in
theorem clonePaths_some (x : Addr) (n cap : Nat) {w : World} {A : Nat → Option Addr} {C : Nat → Nat} {us : Nat → List UInt8} (h : ByteRows w w.heap.size (some x) n A C us) (hn : n ≤ 1048576) (hsz : ∀ k, k < n → (us k).length ≤ 1048576) :
    Calls Try.prog 25 #[.slice (some x) n cap] w fun e w' => PathsRet w w' n us e := by
  have q34 := fun (w : World) (a : Option Addr) (n c : Nat) => Lib.run_eql_slice_nil (P := Try.prog) w 34 22 a n c 0 0 Try.underlying34
  obtain ⟨i0, hi, hz0, hz1, hz2⟩ := info_parts info22
  have HR : Hid (ByteRows w w.heap.size (some x) n A C us) := h
  have HZ : Hid (∀ k, k < n → (us k).length ≤ 1048576) := hsz
  clear h hsz
  go_enter Try.func25, Try.ntmps25
  go_wp2_with (at_make; refine wpList_make_full _ rfl _ _ 34 rfl 0 22 i0 (.slice none 0 0) 1 Try.underlying34 hi hz0 hz1 .i64 .i64 _ _ n rfl rfl (by omega) (by omega) (by rw [hz2]; omega) (by unfold maxLen; omega) (Nat.zero_le _) ?_; intro w1 hown1 hgrow1)
  have hrow1 := made_orow hown1
  have hbel1 : Below w.heap.size w w1 := (Below.refl _ _).grown hgrow1 (Nat.le_refl _) (fun k hk => by cases hk)
  clear hown1 hgrow1 hi hz0 hz1 hz2
  obtain ⟨O, hO⟩ : ∃ O, O = w.heap.size := ⟨_, rfl⟩
  have HO : Hid (O = w.heap.size) := hO
  rw [← hO] at hrow1 ⊢
  have Hrow1 : Hid (ORow w1 22 O n (List.replicate n (.slice none 0 0))) := hrow1
  have Hbel1 : Hid (Below w.heap.size w w1) := hbel1
  clear hrow1 hbel1 hO
  go_loopw [4] (fun kv wr => ∃ (k : Nat) (vs : List Value), k ≤ n ∧ kv = .int .i64 (k : Int) ∧ ORow wr 22 O n vs ∧ (∀ j, j < k → ∃ v, vs[j]? = some v ∧ BSl2 wr O v (us j)) ∧ Below w.heap.size w wr) (fun kv _ => n - (intOf kv).toNat)
  case atStart => exact ⟨0, _, Nat.zero_le _, rfl, Hrow1.out, (fun j hj => by omega), Hbel1.out⟩
  case round =>
    obtain ⟨k, vs, hk, rfl, hrow, hall, hbel⟩ := hrel
    have Hrow : Hid (ORow wr 22 O n vs) := hrow
    have Hall : Hid (∀ j, j < k → ∃ v, vs[j]? = some v ∧ BSl2 wr O v (us j)) := hall
    have Hbel : Hid (Below w.heap.size w wr) := hbel
    clear hrow hall hbel
    by_cases hlt : k < n
    · obtain ⟨b, off, hxx, hbB, hc0⟩ := HR.out.at hlt
      cases hxx
      have hc : wr.cell? ⟨b, off + k, none⟩ = some (.slice (A k) (us k).length (C k)) := (Hbel.out.cell (by exact hbB)).trans hc0
      obtain ⟨hnone, hcap2, hpath⟩ := HR.out.2 k hlt
      have Hcon : Hid (Calls Try.prog 11 #[.slice (A k) (us k).length (C k)] wr fun e w' => CloneRet wr w' (us k) e) := clone_any (hpath.below Hbel.out) Hbel.out.size hnone hcap2 (HZ.out k hlt)
      have hkn : (k : Int) < (n : Int) := by omega
      clear hc0 hcap2 hpath hnone
      go_wp2_with fail
      refine Hcon.out.mono ?_
      rintro e w2 ⟨hb2, va, vc, rfl, g1, g2, g3⟩
      have Hb2 : Hid (Below wr.heap.size wr w2) := hb2
      have hOl := Hrow.out.lt
      have Hrow2 : Hid (ORow w2 22 O n vs) := Hrow.out.below Hb2.out hOl
      have Hnew : Hid (BSl2 w2 O (.slice va (us k).length vc) (us k)) := by
        refine ⟨va, vc, rfl, g1, g2, ?_⟩
        rcases g3 with e | ⟨b', f1, f2, f3, f4⟩
        · exact .inl e
        · exact .inr ⟨b', f1, by omega, f3, f4⟩
      have hcO : ∃ v0, w2.cell? ⟨O, k, none⟩ = some v0 := ⟨_, (Hrow2.out.cell hlt).trans (List.getElem?_eq_getElem (by rw [Hrow2.out.len]; exact hlt))⟩
      obtain ⟨v0, hcO⟩ := hcO
      have hfO := Hrow2.out.frozen k
      have Hset : Hid (ORow (w2.setCell ⟨O, k, none⟩ (.slice va (us k).length vc)) 22 O n (vs.set k (.slice va (us k).length vc))) := Hrow2.out.set k _
      have Hbs : Hid (Below w.heap.size w (w2.setCell ⟨O, k, none⟩ (.slice va (us k).length vc))) := (Hbel.out.trans (Hb2.out.mono Hbel.out.size)).setCell (by rw [HO.out]; exact Nat.le_refl _) _
      clear hb2 g1 g2 g3
      go_wp2_with fail
      go_roundw
      case rel =>
        refine ⟨k + 1, _, by omega, by go_num, Hset.out, ?_, Hbs.out⟩
        intro j hj
        by_cases e : j = k
        · subst e
          exact ⟨_, List.getElem?_set_self (by rw [Hrow2.out.len]; exact hlt), Hnew.out.setCell⟩
        · obtain ⟨v, h3, h4⟩ := Hall.out j (by omega)
          exact ⟨v, by rw [List.getElem?_set_ne (fun e2 => e e2.symm)]; exact h3, (h4.below Hb2.out).setCell⟩
      case measure => simp [intOf]; omega
    · have e : k = n := by omega
      subst e
      go_wp2_with fail
      go_ret
      have hf : ∀ j, ∃ y : Option Addr × Nat, j < k → vs[j]? = some (.slice y.1 (us j).length y.2) ∧ (y.1 = none → y.2 = 0) ∧ (us j).length ≤ y.2 ∧ PathIn wr wr.heap.size y.1 (us j) := by
        intro j
        by_cases hj : j < k
        · obtain ⟨v, h3, a', cap', rfl, h5, h6, h7⟩ := Hall.out j hj
          refine ⟨(a', cap'), fun _ => ⟨h3, h5, h6, ?_⟩⟩
          rcases h7 with e | ⟨b', f1, f2, f3, f4⟩
          · exact .inl e
          · exact .inr ⟨b', 0, f1, f3, f4⟩
        · exact ⟨(none, 0), fun h => absurd h hj⟩
      refine ⟨Hbel.out, _, _, fun j => (Classical.choose (hf j)).1, fun j => (Classical.choose (hf j)).2, rfl, .inr ⟨O, 0, rfl, Hrow.out.lt, fun j hj => ?_⟩, fun j hj => (Classical.choose_spec (hf j) hj).2⟩
      rw [Nat.zero_add, Hrow.out.cell hj]
      exact (Classical.choose_spec (hf j) hj).1
end Go.Proofs.Qxb6602793a.Pa
