import Derived.Test.Qxb6603162aWpC
namespace Go.Proofs.Qxb6603162a.Wp
open Go.RowKit

/-- how far the quoted form of the first j bytes reaches -/
def pos (l : List UInt8) (j : Nat) : Nat := (esc (l.take j)).length

theorem drop_split {l : List UInt8} {j : Nat} (h : j < l.length) : esc l = esc (l.take j) ++ (esc1 l[j] ++ esc (l.drop (j + 1))) := by
  have e : l = l.take j ++ (l[j] :: l.drop (j + 1)) := by rw [← List.drop_eq_getElem_cons h, List.take_append_drop]
  have e2 := congrArg esc e
  rw [esc_append] at e2
  exact e2
theorem pos_succ {l : List UInt8} {j : Nat} (h : j < l.length) : pos l (j + 1) = pos l j + (esc1 l[j]).length := by
  unfold pos
  rw [List.take_succ_eq_append_getElem h, esc_snoc, List.length_append]
theorem pos_all {l : List UInt8} {j : Nat} (h : l.length ≤ j) : pos l j = (esc l).length := by
  unfold pos
  rw [List.take_of_length_le h]
theorem at_append {a b : List UInt8} {k : Nat} : (a ++ b)[a.length + k]? = b[k]? := by
  rw [List.getElem?_append_right (by omega)]
  congr 1
  omega

/-- the byte of q at place k, off its list -/
theorem byte_at {q : ByteArray} {l : List UInt8} {k : Nat} {c : UInt8} (hq : q.data.toList = l) (h : l[k]? = some c) : ∃ hk : k < q.size, q[k] = c := by
  subst hq
  obtain ⟨hk, he⟩ := List.getElem?_eq_some_iff.1 h
  exact ⟨by rw [Lib.size_eq]; exact hk, he⟩

theorem q_at {q v : ByteArray} {j : Nat} (hq : q.data.toList = esc v.data.toList ++ [34]) (hj : j < v.size) :
    ∀ k c, (esc1 v[j])[k]? = some c → ∃ hk : pos v.data.toList j + k < q.size, q[pos v.data.toList j + k] = c := by
  intro k c h
  refine byte_at hq ?_
  have hj' : j < v.data.toList.length := by rw [← Lib.size_eq]; exact hj
  rw [drop_split hj', List.append_assoc, pos, at_append, List.append_assoc]
  have e : v.data.toList[j] = v[j] := rfl
  rw [e]
  obtain ⟨hk, he⟩ := List.getElem?_eq_some_iff.1 h
  rw [List.getElem?_append_left hk]; exact h
theorem q_end {q v : ByteArray} {j : Nat} (hq : q.data.toList = esc v.data.toList ++ [34]) (hj : ¬ j < v.size) :
    (∃ hk : pos v.data.toList j < q.size, q[pos v.data.toList j] = 34) ∧ pos v.data.toList j + 1 = q.size := by
  have e : pos v.data.toList j = (esc v.data.toList).length := pos_all (by rw [← Lib.size_eq]; omega)
  rw [e]
  refine ⟨byte_at hq (by simp), ?_⟩
  rw [Lib.size_eq, hq]; simp

set_option maxRecDepth 100000 in
set_option maxHeartbeats 1000000 in
theorem quotedIs_any (q v : ByteArray) (w : World) (hq : q.data.toList = esc v.data.toList ++ [34]) (hs : q.size ≤ 2000000) (hv : v.size ≤ 1000000) :
    Calls Try.prog 13 #[.string q, .string v] w fun e w' => e = .returned (.bool true) ∧ w = w' := by
  have HQ : Hid (q.data.toList = esc v.data.toList ++ [34]) := hq
  clear hq
  go_enter Try.func13, Try.ntmps13
  go_wp2
  go_loop [5, 6] (fun iv jv => ∃ i j : Nat, j ≤ v.size ∧ iv = .int .i64 i ∧ jv = .int .i64 j ∧ i = pos v.data.toList j) (fun _ jv => v.size - (intOf jv).toNat)
  case atStart => exact ⟨0, 0, Nat.zero_le _, rfl, rfl, rfl⟩
  case round =>
    obtain ⟨i, j, hj, rfl, rfl, hi⟩ := hrel
    have Hi : Hid (i = pos v.data.toList j) := hi
    clear hi
    by_cases hlt : j < v.size
    · obtain ⟨c, hc⟩ : ∃ c, v[j] = c := ⟨_, rfl⟩
      have HS := pos_succ (l := v.data.toList) (j := j) (by rw [← Lib.size_eq]; exact hlt)
      have hqa := q_at HQ.out hlt
      rw [← Hi.out] at hqa HS
      have e1 : v.data.toList[j]'(by rw [← Lib.size_eq]; exact hlt) = c := hc
      rw [e1] at HS
      rw [hc] at hqa
      clear e1
      cases h34 : ((c.toNat : Int) == 34)
      · cases h92 : ((c.toNat : Int) == 92)
        · have he := esc1_plain h34 h92
          rw [he] at hqa HS
          obtain ⟨hk, hqi⟩ := hqa 0 c rfl
          rw [Nat.add_zero] at hk
          have hqi' : q[i] = c := hqi
          have HS' : Hid (pos v.data.toList (j + 1) = i + 1) := HS
          have n34 : ((c.toNat : Int) != 34) = true := by simpa using h34
          have ncc : ((c.toNat : Int) != (c.toNat : Int)) = false := by simp
          clear hqa HS he hqi
          go_wp2
          go_round
          case rel => exact ⟨i + 1, j + 1, by omega, by go_num, by go_num, HS'.out.symm⟩
          case measure => simp [intOf]; omega
        · have he := esc1_special (.inr h92)
          have m34 : ((c.toNat : Int) != 34) = true := by simpa using h34
          have m92 : ((c.toNat : Int) != 92) = false := by simpa using h92
          rw [he] at hqa HS
          obtain ⟨hk, hqi⟩ := hqa 0 92 rfl
          obtain ⟨hk1, hqi1⟩ := hqa 1 c rfl
          rw [Nat.add_zero] at hk
          have hqi' : q[i] = 92 := hqi
          have HS' : Hid (pos v.data.toList (j + 1) = i + 2) := HS
          have ncc : ((c.toNat : Int) != (c.toNat : Int)) = false := by simp
          clear hqa HS he hqi
          go_wp2
          go_round
          case rel => exact ⟨i + 2, j + 1, by omega, by go_num, by go_num, HS'.out.symm⟩
          case measure => simp [intOf]; omega
      · have he := esc1_special (.inl h34)
        have m34 : ((c.toNat : Int) != 34) = false := by simpa using h34
        rw [he] at hqa HS
        obtain ⟨hk, hqi⟩ := hqa 0 92 rfl
        obtain ⟨hk1, hqi1⟩ := hqa 1 c rfl
        rw [Nat.add_zero] at hk
        have hqi' : q[i] = 92 := hqi
        have HS' : Hid (pos v.data.toList (j + 1) = i + 2) := HS
        have ncc : ((c.toNat : Int) != (c.toNat : Int)) = false := by simp
        clear hqa HS he hqi
        go_wp2
        go_round
        case rel => exact ⟨i + 2, j + 1, by omega, by go_num, by go_num, HS'.out.symm⟩
        case measure => simp [intOf]; omega
    · obtain ⟨⟨hk, hqi⟩, hsz⟩ := q_end HQ.out hlt
      have e : i = pos v.data.toList j := Hi.out
      clear Hi
      rw [← e] at hsz
      have hk' : i < q.size := by omega
      have hqi' : q[i] = 34 := by
        subst e; exact hqi
      clear hqi hk e
      have b1 : ((i : Int) == (q.size : Int) - 1) = true := by rw [beq_iff_eq]; omega
      have b2 : ((j : Int) == (v.size : Int)) = true := by rw [beq_iff_eq]; omega
      clear hsz
      go_wp2
      go_ret
      exact ⟨rfl, rfl⟩

theorem out_size {o b n v : ByteArray} (h : o = ⟨(outp b.data.toList n.data.toList v.data.toList).toArray⟩) : o.size = b.size + n.size + 2 + (esc v.data.toList).length + 1 := by
  subst h
  rw [size_mk]
  have h1 := Lib.size_eq b
  have h2 := Lib.size_eq n
  simp only [outp, quoted, List.length_append, List.length_cons, List.length_nil]
  omega
theorem out_list {o b n v : ByteArray} (h : o = ⟨(outp b.data.toList n.data.toList v.data.toList).toArray⟩) : o.data.toList = b.data.toList ++ (n.data.toList ++ ([61, 34] ++ (esc v.data.toList ++ [34]))) := by
  subst h; simp [outp, quoted]
theorem out_before {o b n v : ByteArray} (h : o = ⟨(outp b.data.toList n.data.toList v.data.toList).toArray⟩) : ((o.extract 0 b.size).toList == b.toList) = true := by
  rw [beq_iff_eq, Lib.toList_data, Lib.toList_data, Lib.extract_data, out_list h, Lib.size_eq b]
  simp
theorem out_name {o b n v : ByteArray} (h : o = ⟨(outp b.data.toList n.data.toList v.data.toList).toArray⟩) : ((o.extract b.size (b.size + n.size)).toList == n.toList) = true := by
  rw [beq_iff_eq, Lib.toList_data, Lib.toList_data, Lib.extract_data, out_list h]
  have e : b.size + n.size - b.size = n.data.toList.length := by rw [← Lib.size_eq]; omega
  rw [e, Lib.size_eq b]
  simp
theorem out_rest {o b n v : ByteArray} (h : o = ⟨(outp b.data.toList n.data.toList v.data.toList).toArray⟩) : (o.extract (b.size + n.size + 2) o.size).data.toList = esc v.data.toList ++ [34] := by
  have hs := Lib.size_eq o
  rw [Lib.extract_data, out_list h]
  have e : b.size + n.size + 2 = (b.data.toList ++ (n.data.toList ++ [61, 34])).length := by simp only [List.length_append, List.length_cons, List.length_nil]; rw [← Lib.size_eq, ← Lib.size_eq]; omega
  have e2 : b.data.toList ++ (n.data.toList ++ ([61, 34] ++ (esc v.data.toList ++ [34]))) = (b.data.toList ++ (n.data.toList ++ [61, 34])) ++ (esc v.data.toList ++ [34]) := by simp
  rw [e2, e, List.drop_left]
  refine List.take_of_length_le ?_
  rw [← e, out_size h]
  simp
  omega
theorem out_eq {o b n v : ByteArray} (h : o = ⟨(outp b.data.toList n.data.toList v.data.toList).toArray⟩) (k : Nat) (c : UInt8) (hc : ([61, 34] : List UInt8)[k]? = some c) : ∃ hk : b.size + n.size + k < o.size, o[b.size + n.size + k] = c := by
  refine byte_at (out_list h) ?_
  have e : b.size + n.size + k = b.data.toList.length + (n.data.toList.length + k) := by rw [← Lib.size_eq, ← Lib.size_eq]; omega
  rw [e, at_append, at_append]
  obtain ⟨hk, he⟩ := List.getElem?_eq_some_iff.1 hc
  rw [List.getElem?_append_left hk]; exact hc

set_option maxRecDepth 100000 in
set_option maxHeartbeats 1000000 in
theorem law5 (b n v : ByteArray) (w : World) : Calls Try.prog 5 #[.string b, .string n, .string v] w fun e w' => Done w w' e := by
  go_enter Try.func5, Try.ntmps5
  go_wp2_with (go_at_call 11; go_in)
  all_goals try (go_ret; exact ⟨rfl, Below.refl _ _⟩)
  have h1 : b.size ≤ 131072 := by omega
  have h2 : n.size ≤ 131072 := by omega
  have h3 : v.size ≤ 262144 := by omega
  refine (zzWriteParam_any b n v _ (by omega)).mono ?_
  rintro e w1 ⟨rfl, hb1⟩
  obtain ⟨o, ho⟩ : ∃ o, o = (⟨(outp b.data.toList n.data.toList v.data.toList).toArray⟩ : ByteArray) := ⟨_, rfl⟩
  rw [← ho]
  have Ho : Hid (o = (⟨(outp b.data.toList n.data.toList v.data.toList).toArray⟩ : ByteArray)) := ho
  have HB1 : Hid (Below w.heap.size w w1) := hb1
  have z0 := out_size ho
  have z1 := esc_len v.data.toList
  rw [← Lib.size_eq] at z1
  have z2 : b.size + n.size + 3 ≤ o.size := by omega
  have z3 : o.size ≤ 2000000 := by omega
  clear z0 z1 ho hb1
  have d0 : decide (o.size < b.size + n.size + 3) = false := by simp; omega
  have t1 := out_before Ho.out
  have t2 := out_name Ho.out
  obtain ⟨k1, t3⟩ := out_eq Ho.out 0 61 rfl
  obtain ⟨k2, t4⟩ := out_eq Ho.out 1 34 rfl
  rw [Nat.add_zero] at k1
  have t3' : o[b.size + n.size] = 61 := t3
  clear t3
  go_wp2_with fail
  refine (quotedIs_any _ v _ (out_rest Ho.out) (by simp only [ByteArray.size_extract]; omega) (by omega)).mono ?_
  rintro e w' ⟨rfl, rfl⟩
  go_wp2
  go_ret
  exact ⟨rfl, HB1.out⟩
end Go.Proofs.Qxb6603162a.Wp
