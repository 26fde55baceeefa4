import Derived.Test.Qxb6603162aWpB
import Derived.Deep.QuietTactic
import Derived.BigQuiet
namespace Go.Proofs.Qxb6603162a.Wp
open Go.RowKit

def Done (w w' : World) (e : Ending) : Prop := e = .returned (.bool true) ∧ Below w.heap.size w w'

theorem size_mk (l : List UInt8) : (ByteArray.mk l.toArray).size = l.length := by simp [ByteArray.size]
theorem size_out {o : ByteArray} {b n v : List UInt8} (h : o = ⟨(outp b n v).toArray⟩) (hl : b.length + n.length + 2 * v.length ≤ 1000000) : 3 ≤ o.size ∧ o.size ≤ 2000000 := by
  subst h
  rw [size_mk]
  have := esc_len v
  simp only [outp, quoted, List.length_append, List.length_cons, List.length_nil]
  omega

theorem plain6 {o1 o2 o3 : ByteArray} {n : List UInt8} {v1 v2 : ByteArray} (h1 : o1 = ⟨(outp [] n (v1 ++ v2).data.toList).toArray⟩) (h2 : o2 = ⟨(outp [] n v1.data.toList).toArray⟩) (h3 : o3 = ⟨(outp [] [] v2.data.toList).toArray⟩) :
    (o1.toList == (o2.extract 0 (o2.size - 1) ++ o3.extract 2 o3.size).toList) = true := by
  have e2 : o2.data.toList = (n ++ [61, 34] ++ esc v1.data.toList) ++ [34] := by rw [h2]; simp [outp, quoted]
  have e3 : o3.data.toList = [61, 34] ++ (esc v2.data.toList ++ [34]) := by rw [h3]; simp [outp, quoted]
  have s2 := Lib.size_eq o2
  have s3 := Lib.size_eq o3
  rw [beq_iff_eq, Lib.toList_data, Lib.toList_data, ByteArray.data_append, Array.toList_append, Lib.extract_data, Lib.extract_data, h1]
  have t2 : (o2.data.toList.drop 0).take (o2.size - 1 - 0) = n ++ [61, 34] ++ esc v1.data.toList := by
    rw [List.drop_zero, Nat.sub_zero, s2, e2, List.length_append, List.length_singleton, Nat.add_sub_cancel, List.take_left]
  have t3 : (o3.data.toList.drop 2).take (o3.size - 2) = esc v2.data.toList ++ [34] := by
    rw [s3, e3]
    simp
    exact List.take_of_length_le (by simp)
  rw [t2, t3]
  simp [outp, quoted, esc_append]

set_option maxRecDepth 100000 in
set_option maxHeartbeats 1000000 in
theorem law6 (name v1 v2 : ByteArray) (w : World) : Calls Try.prog 6 #[.string name, .string v1, .string v2] w fun e w' => Done w w' e := by
  go_enter Try.func6, Try.ntmps6
  go_wp2_with (go_at_call 14; go_in)
  all_goals try (go_ret; exact ⟨rfl, Below.refl _ _⟩)
  have hn : name.size ≤ 131072 := by omega
  have h1 : v1.size ≤ 131072 := by omega
  have h2 : v2.size ≤ 131072 := by omega
  have Hs : Hid ((v1 ++ v2).size = v1.size + v2.size) := ByteArray.size_append
  refine (zzWriteParam_any ⟨#[]⟩ name (v1 ++ v2) _ (by have := Hs.out; have e : (ByteArray.mk #[]).size = 0 := rfl; omega)).mono ?_
  rintro e w1 ⟨rfl, hb1⟩
  obtain ⟨o1, ho1⟩ : ∃ o1, o1 = (⟨(outp (ByteArray.mk #[]).data.toList name.data.toList (v1 ++ v2).data.toList).toArray⟩ : ByteArray) := ⟨_, rfl⟩
  rw [← ho1]
  have Ho1 : Hid (o1 = (⟨(outp (ByteArray.mk #[]).data.toList name.data.toList (v1 ++ v2).data.toList).toArray⟩ : ByteArray)) := ho1
  have HB1 : Hid (Below w.heap.size w w1) := hb1
  clear ho1 hb1
  go_wp2_with fail
  refine (zzWriteParam_any ⟨#[]⟩ name v1 _ (by have e : (ByteArray.mk #[]).size = 0 := rfl; omega)).mono ?_
  rintro e w2 ⟨rfl, hb2⟩
  obtain ⟨o2, ho2⟩ : ∃ o2, o2 = (⟨(outp (ByteArray.mk #[]).data.toList name.data.toList v1.data.toList).toArray⟩ : ByteArray) := ⟨_, rfl⟩
  rw [← ho2]
  have Ho2 : Hid (o2 = (⟨(outp (ByteArray.mk #[]).data.toList name.data.toList v1.data.toList).toArray⟩ : ByteArray)) := ho2
  have HB2 : Hid (Below w.heap.size w w2) := HB1.out.trans (hb2.mono HB1.out.size)
  clear ho2 hb2
  go_wp2_with fail
  refine (zzWriteParam_any ⟨#[]⟩ ⟨#[]⟩ v2 _ (by have e : (ByteArray.mk #[]).size = 0 := rfl; omega)).mono ?_
  rintro e w3 ⟨rfl, hb3⟩
  obtain ⟨o3, ho3⟩ : ∃ o3, o3 = (⟨(outp (ByteArray.mk #[]).data.toList (ByteArray.mk #[]).data.toList v2.data.toList).toArray⟩ : ByteArray) := ⟨_, rfl⟩
  rw [← ho3]
  have Ho3 : Hid (o3 = (⟨(outp (ByteArray.mk #[]).data.toList (ByteArray.mk #[]).data.toList v2.data.toList).toArray⟩ : ByteArray)) := ho3
  have HB3 : Hid (Below w.heap.size w w3) := HB2.out.trans (hb3.mono HB2.out.size)
  clear ho3 hb3
  have z2 : 3 ≤ o2.size ∧ o2.size ≤ 2000000 := size_out Ho2.out (by simp; omega)
  have z3 : 3 ≤ o3.size ∧ o3.size ≤ 2000000 := size_out Ho3.out (by simp; omega)
  obtain ⟨z2a, z2b⟩ := z2
  obtain ⟨z3a, z3b⟩ := z3
  have d2 : decide (o2.size < 3) = false := by simp; omega
  have d3 : decide (o3.size < 3) = false := by simp; omega
  go_wp2_with fail
  go_quiet (fail)
  have he : (o1.toList == (o2.extract 0 (o2.size - 1) ++ o3.extract 2 o3.size).toList) = true := plain6 Ho1.out Ho2.out Ho3.out
  go_wp2
  go_ret
  exact ⟨congrArg (fun b => Ending.returned (Value.bool b)) he, below_drewN HB3.out _⟩
end Go.Proofs.Qxb6603162a.Wp
