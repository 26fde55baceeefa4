import Derived.Test.Qxb6603162aWpA
namespace Go.Proofs.Qxb6603162a.Wp
open Go.RowKit

/-! what writeParam writes -/
def esc1 (c : UInt8) : List UInt8 := if c = 34 ∨ c = 92 then [92, c] else [c]
def esc : List UInt8 → List UInt8
  | [] => []
  | c :: r => esc1 c ++ esc r
theorem esc_append : ∀ a b : List UInt8, esc (a ++ b) = esc a ++ esc b
  | [], b => rfl
  | c :: r, b => by simp [esc, esc_append r b]
theorem esc1_len (c : UInt8) : (esc1 c).length ≤ 2 := by unfold esc1; split <;> simp
theorem esc_len : ∀ l : List UInt8, (esc l).length ≤ 2 * l.length
  | [] => Nat.le_refl _
  | c :: r => by have := esc_len r; have := esc1_len c; simp [esc]; omega
theorem esc_snoc (a : List UInt8) (c : UInt8) : esc (a ++ [c]) = esc a ++ esc1 c := by simp [esc_append, esc]

def quoted (v : List UInt8) : List UInt8 := [61, 34] ++ (esc v ++ [34])
def outp (before name v : List UInt8) : List UInt8 := before ++ (name ++ quoted v)

theorem Bd.mk {B b : Nat} {l : List UInt8} {w : World} (h : Lib.BuilderAt 43 5 B b (.pointer (some ⟨b, 0, none⟩)) (Lib.byteCells l) w) : Bd B b l w := .inr h

theorem writeByte_any (B b : Nat) (l : List UInt8) (c : UInt8) (x : Int) (w : World) (h : Bd B b l w) (hx : x = (c.toNat : Int)) (hlen : l.length ≤ 2097152) (hBw : B ≤ w.heap.size) :
    Calls Try.prog 25 #[.pointer (some ⟨b, 0, none⟩), .int .u8 x] w fun e w' => e = .returned .nilIface ∧ Bd B b (l ++ [c]) w' ∧ Below B w w' := by
  subst hx
  refine (writeByte_cells B b (Lib.byteCells l) c.toNat w h (by rw [Lib.byteCells_length]; omega) hBw).mono ?_
  rintro e w' ⟨rfl, h1, h2⟩
  exact ⟨rfl, Bd.mk (by rw [Lib.byteCells_append]; exact h1), h2⟩
theorem writeString_any (B b : Nat) (l : List UInt8) (s : ByteArray) (w : World) (h : Bd B b l w) (hlen : l.length + s.size ≤ 2097152) (hBw : B ≤ w.heap.size) :
    Calls Try.prog 17 #[.pointer (some ⟨b, 0, none⟩), .string s] w fun e w' => e = .returned (.tuple #[.int .i64 s.size, .nilIface]) ∧ Bd B b (l ++ s.data.toList) w' ∧ Below B w w' := by
  refine (writeString_cells B b (Lib.byteCells l) s w h (by rw [Lib.byteCells_length]; omega) hBw).mono ?_
  rintro e w' ⟨rfl, h1, h2⟩
  exact ⟨rfl, Bd.mk (by rw [Lib.byteCells_append]; exact h1), h2⟩

theorem nat_of {c : UInt8} {d : UInt8} (h : ((c.toNat : Int) == (d.toNat : Int)) = true) : c = d := by
  have h' := beq_iff_eq.1 h; exact UInt8.toNat_inj.1 (by omega)
theorem esc1_special {c : UInt8} (h : ((c.toNat : Int) == 34) = true ∨ ((c.toNat : Int) == 92) = true) : esc1 c = [92, c] := by
  unfold esc1
  rw [if_pos]
  rcases h with h | h
  · exact .inl (nat_of (d := 34) h)
  · exact .inr (nat_of (d := 92) h)
theorem esc1_plain {c : UInt8} (h1 : ((c.toNat : Int) == 34) = false) (h2 : ((c.toNat : Int) == 92) = false) : esc1 c = [c] := by
  unfold esc1
  rw [if_neg]
  rintro (rfl | rfl)
  · cases h1
  · cases h2
theorem take_snoc (s : ByteArray) (k : Nat) (h : k < s.size) : s.data.toList.take (k + 1) = s.data.toList.take k ++ [s[k]] := by
  rw [List.take_succ_eq_append_getElem (by simpa using h)]; rfl

set_option maxRecDepth 100000 in
set_option maxHeartbeats 1000000 in
theorem writeParam_any (B b : Nat) (l : List UInt8) (name value : ByteArray) (w : World) (h : Bd B b l w) (hlen : l.length + name.size + 2 * value.size ≤ 2000000) (hBw : B ≤ w.heap.size) :
    Calls Try.prog 18 #[.pointer (some ⟨b, 0, none⟩), .string name, .string value] w fun e w' => e = .returned (.tuple #[]) ∧ Bd B b (l ++ (name.data.toList ++ quoted value.data.toList)) w' ∧ Below B w w' := by
  have Hn : Hid (name.data.toList.length = name.size) := (Lib.size_eq name).symm
  have Hv : Hid (value.data.toList.length = value.size) := (Lib.size_eq value).symm
  go_enter Try.func18, Try.ntmps18
  go_wp2_with fail
  refine (writeString_any B b l name _ h (by omega) hBw).mono ?_
  rintro e w1 ⟨rfl, h1, hb1⟩
  have H1 : Hid (Bd B b (l ++ name.data.toList) w1) := h1
  have HB1 : Hid (Below B w w1) := hb1
  have hBw1 : B ≤ w1.heap.size := Nat.le_trans hBw hb1.size
  clear h1 hb1 h
  go_wp2_with fail
  refine (writeString_any B b _ ⟨#[61, 34]⟩ _ H1.out (by have := Hn.out; have e : (ByteArray.mk #[61, 34]).size = 2 := rfl; simp only [List.length_append]; omega) hBw1).mono ?_
  rintro e w2 ⟨rfl, h2, hb2⟩
  have H2 : Hid (Bd B b (l ++ name.data.toList ++ [61, 34]) w2) := h2
  have HB2 : Hid (Below B w w2) := HB1.out.trans hb2
  have hBw2 : B ≤ w2.heap.size := Nat.le_trans hBw1 hb2.size
  clear h2 hb2
  go_wp2_with fail
  go_loopw [14] (fun iv wr => ∃ k : Nat, k ≤ value.size ∧ iv = .int .i64 k ∧ Bd B b (l ++ name.data.toList ++ [61, 34] ++ esc (value.data.toList.take k)) wr ∧ Below B w wr ∧ B ≤ wr.heap.size) (fun iv _ => value.size - (intOf iv).toNat)
  case atStart => exact ⟨0, Nat.zero_le _, rfl, by simpa [esc] using H2.out, HB2.out, hBw2⟩
  case round =>
    obtain ⟨k, hk, rfl, hbd, hbel, hsz⟩ := hrel
    have HBd : Hid (Bd B b (l ++ name.data.toList ++ [61, 34] ++ esc (value.data.toList.take k)) wr) := hbd
    have HBel : Hid (Below B w wr) := hbel
    clear hbd hbel
    have hlenk : (l ++ name.data.toList ++ [61, 34] ++ esc (value.data.toList.take k)).length ≤ 2000002 := by
      have := esc_len (value.data.toList.take k)
      have := Hn.out
      simp at *
      omega
    obtain ⟨m, hm⟩ : ∃ m, m = l ++ name.data.toList ++ [61, 34] ++ esc (value.data.toList.take k) := ⟨_, rfl⟩
    rw [← hm] at HBd hlenk
    have Hm : Hid (m = l ++ name.data.toList ++ [61, 34] ++ esc (value.data.toList.take k)) := hm
    clear hm
    by_cases hlt : k < value.size
    · obtain ⟨c, hc⟩ : ∃ c, value[k] = c := ⟨_, rfl⟩
      have HE : Hid (l ++ name.data.toList ++ [61, 34] ++ esc (value.data.toList.take (k + 1)) = m ++ esc1 c) := by
        rw [Hm.out, take_snoc value k hlt, hc, esc_snoc, ← List.append_assoc]; exact rfl
      cases h34 : ((c.toNat : Int) == 34)
      · cases h92 : ((c.toNat : Int) == 92)
        · have He : Hid (esc1 c = [c]) := esc1_plain h34 h92
          go_wp2_with fail
          refine (writeByte_any B b m c _ _ HBd.out rfl (by omega) hsz).mono ?_
          rintro e w3 ⟨rfl, h3, hb3⟩
          have H3 : Hid (Bd B b (m ++ [c]) w3) := h3
          have HB3 : Hid (Below B w w3) := HBel.out.trans hb3
          have hsz3 : B ≤ w3.heap.size := Nat.le_trans hsz hb3.size
          clear h3 hb3
          go_wp2
          go_roundw
          case rel => exact ⟨k + 1, by omega, by go_num, by rw [HE.out, He.out]; exact H3.out, HB3.out, hsz3⟩
          case measure => simp [intOf]; omega
        · have He : Hid (esc1 c = [92, c]) := esc1_special (.inr h92)
          go_wp2_with fail
          refine (writeByte_any B b m 92 _ _ HBd.out rfl (by omega) hsz).mono ?_
          rintro e w3 ⟨rfl, h3, hb3⟩
          have H3 : Hid (Bd B b (m ++ [92]) w3) := h3
          have HB3 : Hid (Below B w w3) := HBel.out.trans hb3
          have hsz3 : B ≤ w3.heap.size := Nat.le_trans hsz hb3.size
          clear h3 hb3
          go_wp2_with fail
          refine (writeByte_any B b (m ++ [92]) c _ _ H3.out rfl (by simp only [List.length_append, List.length_singleton]; omega) hsz3).mono ?_
          rintro e w4 ⟨rfl, h4, hb4⟩
          have H4 : Hid (Bd B b (m ++ [92, c]) w4) := show Bd B b (m ++ [92, c]) w4 by simpa using h4
          have HB4 : Hid (Below B w w4) := HB3.out.trans hb4
          have hsz4 : B ≤ w4.heap.size := Nat.le_trans hsz3 hb4.size
          clear h4 hb4
          go_wp2
          go_roundw
          case rel => exact ⟨k + 1, by omega, by go_num, by rw [HE.out, He.out]; exact H4.out, HB4.out, hsz4⟩
          case measure => simp [intOf]; omega
      · have He : Hid (esc1 c = [92, c]) := esc1_special (.inl h34)
        go_wp2_with fail
        refine (writeByte_any B b m 92 _ _ HBd.out rfl (by omega) hsz).mono ?_
        rintro e w3 ⟨rfl, h3, hb3⟩
        have H3 : Hid (Bd B b (m ++ [92]) w3) := h3
        have HB3 : Hid (Below B w w3) := HBel.out.trans hb3
        have hsz3 : B ≤ w3.heap.size := Nat.le_trans hsz hb3.size
        clear h3 hb3
        go_wp2_with fail
        refine (writeByte_any B b (m ++ [92]) c _ _ H3.out rfl (by simp only [List.length_append, List.length_singleton]; omega) hsz3).mono ?_
        rintro e w4 ⟨rfl, h4, hb4⟩
        have H4 : Hid (Bd B b (m ++ [92, c]) w4) := show Bd B b (m ++ [92, c]) w4 by simpa using h4
        have HB4 : Hid (Below B w w4) := HB3.out.trans hb4
        have hsz4 : B ≤ w4.heap.size := Nat.le_trans hsz3 hb4.size
        clear h4 hb4
        go_wp2
        go_roundw
        case rel => exact ⟨k + 1, by omega, by go_num, by rw [HE.out, He.out]; exact H4.out, HB4.out, hsz4⟩
        case measure => simp [intOf]; omega
    · have e : value.data.toList.take k = value.data.toList := List.take_of_length_le (by rw [Hv.out]; omega)
      have HM : Hid (m ++ [34] = l ++ (name.data.toList ++ quoted value.data.toList)) := by
        show m ++ [34] = l ++ (name.data.toList ++ quoted value.data.toList); rw [Hm.out, e]; simp [quoted]
      clear e
      go_wp2_with fail
      refine (writeByte_any B b m 34 _ _ HBd.out rfl (by omega) hsz).mono ?_
      rintro e w3 ⟨rfl, h3, hb3⟩
      have H3 : Hid (Bd B b (m ++ [34]) w3) := h3
      have HB3 : Hid (Below B w w3) := HBel.out.trans hb3
      clear h3 hb3
      go_wp2
      go_end0
      exact ⟨rfl, by rw [← HM.out]; exact H3.out, HB3.out⟩

set_option maxRecDepth 100000 in
set_option maxHeartbeats 1000000 in
theorem zzWriteParam_any (before name value : ByteArray) (w : World) (hlen : before.size + name.size + 2 * value.size ≤ 2000000) :
    Calls Try.prog 12 #[.string before, .string name, .string value] w fun e w' => e = .returned (.string ⟨(outp before.data.toList name.data.toList value.data.toList).toArray⟩) ∧ Below w.heap.size w w' := by
  have Hb : Hid (before.data.toList.length = before.size) := (Lib.size_eq before).symm
  have H0 : Hid (Bd w.heap.size w.heap.size [] (w.alloc (.cells #[.pointer none, .slice none 0 0] 43))) := Lib.fresh_isBuilder 43 5 w
  have HB0 : Hid (Below w.heap.size w (w.alloc (.cells #[.pointer none, .slice none 0 0] 43))) := (Below.refl _ _).alloc (Nat.le_refl _) _
  go_enter Try.func12, Try.ntmps12
  go_wp2_with fail
  refine (writeString_any w.heap.size w.heap.size [] before _ H0.out (by simp; omega) (by simp)).mono ?_
  rintro e w1 ⟨rfl, h1, hb1⟩
  have H1 : Hid (Bd w.heap.size w.heap.size before.data.toList w1) := h1
  have HB1 : Hid (Below w.heap.size w w1) := HB0.out.trans hb1
  clear h1 hb1
  go_wp2_with fail
  refine (writeParam_any w.heap.size w.heap.size _ name value _ H1.out (by rw [Hb.out]; exact hlen) HB1.out.size).mono ?_
  rintro e w2 ⟨rfl, h2, hb2⟩
  have H2 : Hid (Bd w.heap.size w.heap.size (outp before.data.toList name.data.toList value.data.toList) w2) := h2
  have HB2 : Hid (Below w.heap.size w w2) := HB1.out.trans hb2
  clear h2 hb2
  go_wp2_with fail
  refine (string_any w.heap.size w.heap.size _ _ H2.out (by simp [outp, quoted])).mono ?_
  rintro e w3 ⟨rfl, hb3⟩
  have HB3 : Hid (Below w.heap.size w w3) := HB2.out.trans hb3
  clear hb3
  go_wp2
  go_ret
  exact ⟨rfl, HB3.out⟩
end Go.Proofs.Qxb6603162a.Wp
