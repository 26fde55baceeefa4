import Derived.Test.Qxb6602793aPaI
import Derived.Deep.CutBlock
import Derived.Deep.DeepCutAuto
namespace Go.Proofs.Qxb6602793a.Pa
open Go.RowKit Go.Proofs.Qxb6602793a.Mem Go.WideMaps Go.Maps

/-- A Paths to which seen have been added. -/
def Whole (w : World) (B Pb M : Nat) (seen : List (List Name)) : Prop :=
  ∃ g cap N T pr base kids d, N ≤ M ∧ St w B Pb g cap N T pr kids (seen.length : Int) d ∧ Tree N T base kids ∧ Nums N T base seen
def Empt (w : World) (B Pb : Nat) : Prop := w.heap[Pb]? = some (Obj.cells #[.slice none 0 0, .int .i64 0, .int .i64 0] 42 (0, 0)) ∧ B ≤ Pb

def PathIn (w : World) (B : Nat) (a : Option Addr) (us : List UInt8) : Prop := us = [] ∨ ∃ b off, a = some ⟨b, off, none⟩ ∧ b < B ∧ Bytes w b off us

def Added (w w' : World) (B Pb M : Nat) (seen : List (List Name)) (q : List Name) (e : Ending) : Prop :=
  Keep B w w' ∧ ∃ k : Nat, e = .returned (.int .i64 (k : Int)) ∧ ∃ seen', Whole w' B Pb (M + 3) seen' ∧ ((seen' = seen ∧ seen[k]? = some q) ∨ (q ∉ seen ∧ k = seen.length ∧ seen' = seen ++ [q]))

theorem St.drewN {w : World} {B Pb g cap N : Nat} {T : Nat → Nd} {pr : Nat → Int} {kids : Nat → List Nat} {n d : Int} (h : St w B Pb g cap N T pr kids n d) (k : Nat) : St (w.drewN k) B Pb g cap N T pr kids n d :=
  ⟨⟨h.co.hp, h.co.hB, h.co.row⟩, h.maps, h.apart, h.small⟩
theorem flat_nil {L : List Item} (h : OKL L) (h0 : (flat L).length = 0) : L = [] := by
  have := items_le h
  exact List.length_eq_zero_iff.1 (by omega)

/-- Where the walk down the tree stands. -/
def Here (N : Nat) (T : Nat → Nd) (base : Nat → List Name) (L L1 L2 : List Item) (k t o i : Nat) : Prop :=
  L = L1 ++ L2 ∧ k < N ∧ t ≤ (T k).rest.length ∧ sq T base k t = names L1 ∧ o = (flat ((T k).rest.take t)).length ∧ i = (flat L1).length
def Stops (N : Nat) (T : Nat → Nd) (base : Nat → List Name) (L1 L2 : List Item) : Prop := L2 = [] ∨ ∃ hd x r, L2 = (hd, x) :: r ∧ ¬ Cov N T base (names L1 ++ [x])

theorem St.re {w w' : World} {B Pb g cap g' cap' N : Nat} {T T' : Nat → Nd} {pr pr' : Nat → Int} {kids : Nat → List Nat} {n d n' d' : Int} (h : St w B Pb g cap N T pr kids n d) (hco : Co w' B Pb g' cap' N T' pr' n' d') (hm : MapsKept w w') (hl : ∀ k, Like (T' k) (T k)) (hb : ∀ k, (T' k).bf = (T k).bf) : St w' B Pb g' cap' N T' pr' kids n' d' := by
  refine ⟨hco, ?_, ?_, ?_⟩
  · intro k hk b hkb
    rw [hb] at hkb
    obtain ⟨h1, h2⟩ := h.maps k hk b hkb
    exact ⟨h1, (h2.at (fun es cl hx => hm b es cl hx)).congr (Nat.le_refl _) (fun c _ => (hl c).1)⟩
  · intro k k' b hk hk' h1 h2
    rw [hb] at h1 h2
    exact h.apart k k' b hk hk' h1 h2
  · intro k hk
    rw [(hl k).1, (hl k).2.1]
    exact h.small k hk
theorem cov_like {N : Nat} {T T' : Nat → Nd} {base : Nat → List Name} {q : List Name} (hl : ∀ k, Like (T' k) (T k)) (h : Cov N T' base q) : Cov N T base q := by
  obtain ⟨k, t, h1, h2, h3⟩ := h
  exact ⟨k, t, h1, by rw [← (hl k).2.1]; exact h2, by rw [← like_sq hl]; exact h3⟩

/-- The tree, and a node where the names L1 end. -/
def At (w wx : World) (B Pb M : Nat) (seen : List (List Name)) (L1 L2 : List Item) (k : Nat) : Prop :=
  ∃ g cap N T pr base kids d, N ≤ M ∧ St wx B Pb g cap N T pr kids (seen.length : Int) d ∧ Tree N T base kids ∧ Nums N T base seen ∧ Keep B w wx ∧ k < N ∧ fin T base k = names L1 ∧ Stops N T base L1 L2

theorem num_bf (T : Nat → Nd) (k n : Nat) : ∀ j, (numT T k n j).bf = (T j).bf := by
  intro j
  unfold numT
  by_cases e : j = k
  · subst e; rw [upd_same]
  · rw [upd_ne _ _ e]
theorem d_facts {w : World} {B Pb g cap N : Nat} {T : Nat → Nd} {pr : Nat → Int} {kids : Nat → List Nat} {n d : Int} (h : St w B Pb g cap N T pr kids n d) (dv : Int) : Md w (w.setCell ⟨Pb, 2, none⟩ (.int .i64 dv)) B Pb g cap N T pr n dv := by
  have hg := setCell_grown w ⟨Pb, 2, none⟩ (.int .i64 dv)
  exact ⟨h.co.setP h.co.row rfl, Keep.grown (Keep.refl B w) hg h.co.leB (fun j hj => by cases hj; exact ⟨h.co.hB, h.co.oursP⟩), MapsKept.grown (MapsKept.refl w) hg (fun j hj => by cases hj; exact ⟨_, _, _, h.co.hp⟩), hg.size⟩

theorem whole_start {w : World} {B Pb : Nat} (h : Empt w B Pb) (hlt : B ≤ w.heap.size) :
    Whole ((w.alloc (Obj.cells #[.string ⟨#[]⟩, .string ⟨#[]⟩, .int .i64 0, .int .i64 (-1), .int .i64 0, .int .i64 0, .map none] 52)).setCell ⟨Pb, 0, none⟩ (.slice (some ⟨w.heap.size, 0, none⟩) 1 1)) B Pb 1 [] ∧
    Keep B w ((w.alloc (Obj.cells #[.string ⟨#[]⟩, .string ⟨#[]⟩, .int .i64 0, .int .i64 (-1), .int .i64 0, .int .i64 0, .map none] 52)).setCell ⟨Pb, 0, none⟩ (.slice (some ⟨w.heap.size, 0, none⟩) 1 1)) := by
  obtain ⟨hp, hB⟩ := h
  have hPl := lt_of_heap hp
  have hpA : (w.alloc (Obj.cells #[.string ⟨#[]⟩, .string ⟨#[]⟩, .int .i64 0, .int .i64 (-1), .int .i64 0, .int .i64 0, .map none] 52)).heap[Pb]? = some (Obj.cells #[.slice none 0 0, .int .i64 0, .int .i64 0] 42 (0, 0)) := by
    rw [(World.grownBy_alloc w _ none).block Pb hPl (by simp)]; exact hp
  have hown := World.ownsRow_lit (e := 52) (base := B) (size := 7) w #[.string ⟨#[]⟩, .string ⟨#[]⟩, .int .i64 0, .int .i64 (-1), .int .i64 0, .int .i64 0, .map none] 1 hlt (by unfold maxLen; omega) rfl
  have hg := setCell_grown (w.alloc (Obj.cells #[.string ⟨#[]⟩, .string ⟨#[]⟩, .int .i64 0, .int .i64 (-1), .int .i64 0, .int .i64 0, .map none] 52)) ⟨Pb, 0, none⟩ (.slice (some ⟨w.heap.size, 0, none⟩) 1 1)
  constructor
  · refine ⟨w.heap.size, 1, 1, rootT, fun _ => 0, fun _ => [], fun _ => [], 0, Nat.le_refl _, ⟨⟨?_, hB, ?_⟩, ?_, ?_, ?_⟩, tree_root, nums_root⟩
    · rw [heap_setCell_same _ Pb 0 _ _ _ hpA]; rfl
    · exact World.ownsRow.kept hown hg (.inr (by simp [Value.ownBlock]; omega))
    · intro k hk b hb; cases hb
    · intro k k' b _ _ hb; cases hb
    · intro k hk; exact ⟨by simp [rootT], by simp [rootT, flat]⟩
  · refine Keep.grown (Keep.grown (Keep.refl B w) (World.grownBy_alloc w _ none) hlt (fun k hk => by cases hk)) hg (by simp; omega) (fun k hk => ?_)
    cases hk
    exact ⟨hB, .inl ⟨_, _, _, hpA, .inl rfl⟩⟩

set_option maxRecDepth 100000 in
set_option maxHeartbeats 1000000 in
theorem add_spec (a : Option Addr) (cap : Nat) (us : List UInt8) (L : List Item) {w : World} {B Pb M : Nat} {seen : List (List Name)} (hst : Whole w B Pb M seen ∨ (Empt w B Pb ∧ seen = [])) (hM : M ≤ 50000) (hsn : seen.length ≤ 50000) (hpath : PathIn w B a us) (hcap : us.length ≤ cap) (hsz : us.length ≤ 1048576) (hOK : OKL L) (hus : us = flat L) :
    Calls Try.prog 27 #[.pointer (some ⟨Pb, 0, none⟩), .slice a us.length cap] w fun e w' => Added w w' B Pb M seen (names L) e := by
  have q40 := fun (w : World) (a : Option Addr) (n c : Nat) => Lib.run_eql_slice_nil (P := Try.prog) w 40 52 a n c 0 0 Try.underlying40
  obtain ⟨U, hU⟩ : ∃ U, U = us.length := ⟨_, rfl⟩
  rw [← hU] at hcap hsz ⊢
  have HU : Hid (U = us.length) := hU
  have HP : Hid (PathIn w B a us) := hpath
  have HOK : Hid (OKL L) := hOK
  have Hus : Hid (us = flat L) := hus
  have HST : Hid (Whole w B Pb M seen ∨ (Empt w B Pb ∧ seen = [])) := hst
  clear hU hpath hOK hus hst
  have hS0 : ∃ aS nS cS, w.cell? ⟨Pb, 0, none⟩ = some (.slice aS nS cS) ∧ ((aS = none ∧ nS = 0 ∧ cS = 0 ∧ Empt w B Pb ∧ seen = []) ∨ (∃ g, aS = some ⟨g, 0, none⟩ ∧ Whole w B Pb M seen)) := by
    rcases HST.out with ⟨g, cap, N, T, pr, base, kids, d, h1, h2, h3, h4⟩ | ⟨h1, h2⟩
    · exact ⟨_, _, _, h2.co.cell0, .inr ⟨g, rfl, g, cap, N, T, pr, base, kids, d, h1, h2, h3, h4⟩⟩
    · exact ⟨none, 0, 0, by rw [cell_of_row w Pb 0 _ _ _ h1.1]; rfl, .inl ⟨rfl, rfl, rfl, h1, h2⟩⟩
  have HBs : Hid (B ≤ w.heap.size ∧ w.frozen? ⟨Pb, 0, none⟩ = false) := by
    rcases HST.out with ⟨g, cap, N, T, pr, base, kids, d, h1, h2, h3, h4⟩ | ⟨h1, h2⟩
    · exact ⟨h2.co.leB, h2.co.frozenP 0⟩
    · exact ⟨Nat.le_of_lt (Nat.lt_of_le_of_lt h1.2 (lt_of_heap h1.1)), frozen_of_row w Pb 0 _ _ h1.1⟩
  obtain ⟨aS, nS, cS, hcS, hSS⟩ := hS0
  have HSS : Hid ((aS = none ∧ nS = 0 ∧ cS = 0 ∧ Empt w B Pb ∧ seen = []) ∨ (∃ g, aS = some ⟨g, 0, none⟩ ∧ Whole w B Pb M seen)) := hSS
  clear hSS
  go_enter Try.func27, Try.ntmps27
  go_upto_if 22 with fail
  go_cut [] (fun wx => Whole wx B Pb (M + 1) seen ∧ Keep B w wx)
  case first =>
    rcases HSS.out with ⟨rfl, rfl, rfl, hE, hs⟩ | ⟨g, rfl, hW⟩
    · have HE : Hid (Empt w B Pb) := hE
      have Hs : Hid (seen = []) := hs
      have hfr := HBs.out.2
      have hcA : (w.alloc (Obj.cells #[.string ⟨#[]⟩, .string ⟨#[]⟩, .int .i64 0, .int .i64 (-1), .int .i64 0, .int .i64 0, .map none] 52)).cell? ⟨Pb, 0, none⟩ = some (.slice none 0 0) := by
        rw [World.cell?_of_block ((World.grownBy_alloc w _ none).block Pb (lt_of_heap hE.1) (by simp))]; exact hcS
      have hfA : (w.alloc (Obj.cells #[.string ⟨#[]⟩, .string ⟨#[]⟩, .int .i64 0, .int .i64 (-1), .int .i64 0, .int .i64 0, .map none] 52)).frozen? ⟨Pb, 0, none⟩ = false := by
        rw [World.frozen?_of_block ((World.grownBy_alloc w _ none).block Pb (lt_of_heap hE.1) (by simp))]; exact hfr
      clear hE hs
      go_wp2
      go_meet
      case rel =>
        rw [Hs.out]
        obtain ⟨⟨g, cap, N, T, pr, base, kids, d, h1, h2⟩, h3⟩ := whole_start HE.out HBs.out.1
        exact ⟨⟨g, cap, N, T, pr, base, kids, d, by omega, h2⟩, h3⟩
    · have HW : Hid (Whole w B Pb M seen) := hW
      clear hW
      go_wp2
      go_meet
      case rel =>
        obtain ⟨g, cap, N, T, pr, base, kids, d, h1, h2⟩ := HW.out
        exact ⟨⟨g, cap, N, T, pr, base, kids, d, by omega, h2⟩, Keep.refl _ _⟩
  case rest =>
    obtain ⟨w0, rfl⟩ : ∃ w0, w0 = wc := ⟨wc, rfl⟩
    obtain ⟨⟨g, cap0, N, T, pr, base, kids, d, hNM, hSt, hTr, hNu⟩, hKp⟩ := hcut
    have HS : Hid (St w0 B Pb g cap0 N T pr kids (seen.length : Int) d) := hSt
    have HT : Hid (Tree N T base kids) := hTr
    have HN : Hid (Nums N T base seen) := hNu
    have HK : Hid (Keep B w w0) := hKp
    have HPc : Hid (PathIn w0 B a us) := by
      rcases HP.out with e | ⟨b, off, h1, h2, h3⟩
      · exact .inl e
      · exact .inr ⟨b, off, h1, h2, fun j x hx => (HK.out.1.cell (by exact h2)).trans (h3 j x hx)⟩
    clear hSt hTr hNu hKp hcS
    go_upto_block 0 with fail
    go_cut [5, 6, 7] (fun s5 s6 s7 wx => ∃ (k t : Nat) (L1 L2 : List Item) (o i dr : Nat), Here N T base L L1 L2 k t o i ∧ Stops N T base L1 L2 ∧ i ≤ U ∧ s5 = .int .i64 (k : Int) ∧ s6 = .int .i64 (o : Int) ∧ s7 = .int .i64 (i : Int) ∧ wx = w0.drewN dr)
    case first =>
      go_wp2_with fail
      go_loopw [5, 6, 7] (fun s5 s6 s7 wx => ∃ (k t : Nat) (L1 L2 : List Item) (o i dr : Nat), Here N T base L L1 L2 k t o i ∧ i ≤ U ∧ s5 = .int .i64 (k : Int) ∧ s6 = .int .i64 (o : Int) ∧ s7 = .int .i64 (i : Int) ∧ wx = w0.drewN dr) (fun _ _ s7 _ => U - (intOf s7).toNat)
      case atStart => exact ⟨0, 0, [], L, 0, 0, 0, ⟨rfl, HT.out.pos, Nat.zero_le _, HT.out.sq_root, rfl, rfl⟩, Nat.zero_le _, rfl, rfl, rfl, rfl⟩
      case round =>
        obtain ⟨k, t, L1, L2, o, i, dr, hH, hiU, rfl, rfl, rfl, rfl⟩ := hrel
        have HH : Hid (Here N T base L L1 L2 k t o i) := hH
        clear hH
        by_cases hlt : i < U
        · have hL2 : ∃ hd x r, L2 = (hd, x) :: r := by
            obtain ⟨h1, _, _, _, _, h6⟩ := HH.out
            cases L2 with
            | nil =>
              have h7 := HU.out
              rw [Hus.out, h1, List.append_nil] at h7
              omega
            | cons p r => exact ⟨p.1, p.2, r, rfl⟩
          obtain ⟨hd, x, r, rfl⟩ := hL2
          have hPP := HPc.out
          rcases hPP with e | ⟨b, off, rfl, hbB, hby⟩
          · exfalso
            have h7 := HU.out
            rw [e] at h7
            simp at h7
            omega
          have hfl : us = flat L1 ++ (hd ++ (x ++ flat r)) := by
            rw [Hus.out, HH.out.1, flat_append]; rfl
          have hI := HOK.out (hd, x) (by rw [HH.out.1]; simp)
          have hcon := nameAt_path b off cap us (flat L1) hd x (flat r) (w0.drewN dr) hby (by rw [← HU.out]; exact hcap) ⟨hfl, hI.1, hI.2⟩ (by rw [← HU.out]; exact hsz)
          obtain ⟨nx, hnx⟩ : ∃ nx, nx = (flat L1).length + hd.length + x.length := ⟨_, rfl⟩
          rw [← HU.out, ← HH.out.2.2.2.2.2, ] at hcon
          rw [← HH.out.2.2.2.2.2] at hnx
          rw [← hnx] at hcon
          have Hcon : Hid (Calls Try.prog 30 #[.slice (some ⟨b, off, none⟩) U cap, .int .i64 (i : Int)] (w0.drewN dr) fun e w' => PathRet (w0.drewN dr) w' b x nx e) := hcon
          have hxl : x.length ≤ 1048576 := by
            have := congrArg List.length hfl
            rw [← HU.out] at this
            simp only [List.length_append] at this
            omega
          have hnxU : nx ≤ U := by
            have := congrArg List.length hfl
            rw [← HU.out, List.length_append, ← HH.out.2.2.2.2.2] at this
            simp only [List.length_append] at this
            omega
          have hnxi : i < nx := by have h0 : 0 < hd.length := hdr_pos hI.1; omega
          have Hnx : Hid (nx = i + hd.length + x.length) := hnx
          have HL1 : Hid (nx = (flat (L1 ++ [(hd, x)])).length) := by
            have e : (flat [(hd, x)]).length = hd.length + x.length := by simp [flat]
            have e2 := Hnx.out
            show nx = _
            rw [flat_append, List.length_append, ← HH.out.2.2.2.2.2, e]
            omega
          have hkN := HH.out.2.1
          have hcp := HS.out.co.cell0
          obtain ⟨s, hs⟩ : ∃ s : ByteArray, s = ⟨(flat (T k).rest).toArray⟩ := ⟨_, rfl⟩
          have c1 : w0.cell? ⟨g, k * 7 + 1, none⟩ = some (.string s) := by rw [hs]; exact HS.out.co.row.cell 1 hkN (by decide)
          have hsl : s.data.toList = flat (T k).rest := by rw [hs]
          have hssz : s.size ≤ 1048576 := by rw [hs, str_size]; exact (HS.out.small k hkN).2
          have hkNi : (k : Int) < (N : Int) := by omega
          clear hcon hnx hs hfl hI
          by_cases ht : t < (T k).rest.length
          · obtain ⟨⟨hd', y⟩, hy⟩ : ∃ y, (T k).rest[t]? = some y := ⟨_, List.getElem?_eq_getElem ht⟩
            have hfs := flat_split hy
            have hIy := HT.out.ok k hkN (hd', y) (List.mem_of_getElem? hy)
            have hpos : 0 < hd'.length := hdr_pos hIy.1
            have hos : o < s.size := by
              rw [HH.out.2.2.2.2.1, Lib.size_eq, hsl, hfs]
              simp only [List.length_append]
              omega
            obtain ⟨ox, hox⟩ : ∃ ox, ox = o + hd'.length + y.length := ⟨_, rfl⟩
            have hcon2 := nameAt_str s (flat ((T k).rest.take t)) hd' y (flat ((T k).rest.drop (t + 1))) (w0.drewN dr) ⟨by rw [hsl]; exact hfs, hIy.1, hIy.2⟩ hssz
            rw [← HH.out.2.2.2.2.1, ← hox] at hcon2
            have Hcon2 : Hid (Calls Try.prog 31 #[.string s, .int .i64 (o : Int)] (w0.drewN dr) fun e w' => NameRet (w0.drewN dr) w' y ox e) := hcon2
            have HY : Hid ((T k).rest[t]? = some (hd', y)) := hy
            have Hox : Hid (ox = (flat ((T k).rest.take (t + 1))).length) := by
              have e : (flat [(hd', y)]).length = hd'.length + y.length := by simp [flat]
              show ox = _
              rw [take_succ_get hy, flat_append, List.length_append, ← HH.out.2.2.2.2.1, e]
              omega
            have hosI : (o : Int) < (s.size : Int) := by omega
            clear hcon2 hfs hIy hy hox hsl
            go_wp2_with fail
            refine Hcon.out.mono ?_
            rintro e w1 ⟨off', cap', rfl, hby', rfl⟩
            have hcv := conv (w := w0.drewN dr) (b := b) (off := off') (cap := cap') (nm := x) 46 Try.underlying46 hby'
            clear hby'
            go_wp2_with fail
            refine Hcon2.out.mono ?_
            rintro e w1 ⟨rfl, rfl⟩
            by_cases hyx : y = x
            · subst hyx
              go_wp2
              go_roundw
              case rel =>
                refine ⟨k, t + 1, L1 ++ [(hd, y)], r, ox, nx, dr, ⟨?_, hkN, ht, ?_, Hox.out, HL1.out⟩, hnxU, rfl, rfl, rfl, rfl⟩
                · rw [HH.out.1]; simp
                · have hk0 : k ≠ 0 := by
                    intro e
                    subst e
                    rw [HT.out.rootr] at ht
                    simp at ht
                  rw [sq_succ hk0 HY.out, HH.out.2.2.2.1, names_append]; rfl
              case measure => simp [intOf]; omega
            · have hne : (y != x) = true := by simpa using hyx
              have hne2 : (y == x) = false := by simpa using hyx
              have Hyx : Hid (y ≠ x) := hyx
              clear hyx
              go_wp2
              go_meet
              case rel =>
                refine ⟨k, t, L1, _, o, i, dr, HH.out, .inr ⟨hd, x, r, rfl, ?_⟩, hiU, rfl, rfl, rfl, rfl⟩
                rw [← HH.out.2.2.2.1]
                exact HT.out.stop_in hkN HY.out Hyx.out
          · have hte : t = (T k).rest.length := by have := HH.out.2.2.1; omega
            have hos : o = s.size := by
              rw [HH.out.2.2.2.2.1, Lib.size_eq, hsl, hte, List.take_length]
            have hosI : ¬ (o : Int) < (s.size : Int) := by omega
            have Hfin : Hid (fin T base k = names L1) := by rw [fin, ← hte]; exact HH.out.2.2.2.1
            have Hco : Hid (∀ off' cap', Bytes (w0.drewN dr) b off' x → Calls Try.prog 32 #[.slice (some ⟨g, 0, none⟩) N cap0, .int .i64 (k : Int), .slice (some ⟨b, off', none⟩) x.length cap'] (w0.drewN dr) fun e w' => ChildRet (w0.drewN dr) w' T (kids k) x e) := by
              intro off' cap' hby'
              cases hbf : (T k).bf with
              | none => exact childOf_list b off' cap' x (HS.out.drewN dr).co.row hkN ⟨HT.out.chain k hkN, fun c hc => ⟨(HT.out.kid k hkN c hc).1, (HT.out.kid k hkN c hc).2.1⟩⟩ hbf hby'
              | some mb => exact childOf_map b off' cap' x (HS.out.drewN dr).co.row hkN hbf ((HS.out.drewN dr).maps k hkN mb hbf).2 hxl hby'
            clear hsl hte hos
            go_wp2_with fail
            refine Hcon.out.mono ?_
            rintro e w1 ⟨off', cap', rfl, hby', rfl⟩
            have Hby : Hid (Bytes (w0.drewN dr) b off' x) := hby'
            clear hby'
            go_wp2_with fail
            refine (Hco.out off' cap' Hby.out).mono ?_
            rintro e w1 ⟨⟨dd, rfl⟩, hres⟩
            rcases hres with ⟨c, hck, hcf, rfl⟩ | ⟨hno, c, rfl⟩
            · have Hck : Hid (c ∈ kids k ∧ (T c).first = x) := ⟨hck, hcf⟩
              clear hck hcf
              go_wp2
              go_roundw
              case rel =>
                obtain ⟨h1, h2, h3⟩ := HT.out.down hkN Hck.out.1
                refine ⟨c, 0, L1 ++ [(hd, x)], r, 0, nx, dr + dd, ⟨?_, h1, Nat.zero_le _, ?_, rfl, HL1.out⟩, hnxU, rfl, rfl, rfl, rfl⟩
                · rw [HH.out.1]; simp
                · rw [h3, Hfin.out, Hck.out.2, names_append]; rfl
              case measure => simp [intOf]; omega
            · have Hno : Hid (∀ c, c ∈ kids k → (T c).first ≠ x) := hno
              clear hno
              go_wp2
              go_meet
              case rel =>
                refine ⟨k, t, L1, _, o, i, dr + dd, HH.out, .inr ⟨hd, x, r, rfl, ?_⟩, hiU, rfl, rfl, rfl, rfl⟩
                rw [← Hfin.out]
                exact HT.out.stop_end hkN Hno.out
        · go_wp2
          go_meet
          case rel =>
            refine ⟨k, t, L1, L2, o, i, dr, HH.out, .inl ?_, hiU, rfl, rfl, rfl, rfl⟩
            obtain ⟨h1, _, _, _, _, h6⟩ := HH.out
            refine flat_nil (fun p hp => HOK.out p (by rw [h1]; simp [hp])) ?_
            have h7 := HU.out
            rw [Hus.out, h1, flat_append, List.length_append, ← h6] at h7
            omega
    case rest =>
      obtain ⟨k, t, L1, L2, o, i, dr, hH, hstop, hiU, rfl, rfl, rfl, rfl⟩ := hcut
      have HH : Hid (Here N T base L L1 L2 k t o i) := hH
      have HSt : Hid (Stops N T base L1 L2) := hstop
      have hkN := hH.2.1
      clear hH hstop
      have hcp := HS.out.co.cell0
      obtain ⟨s, hs⟩ : ∃ s : ByteArray, s = ⟨(flat (T k).rest).toArray⟩ := ⟨_, rfl⟩
      have c1 : w0.cell? ⟨g, k * 7 + 1, none⟩ = some (.string s) := by rw [hs]; exact HS.out.co.row.cell 1 hkN (by decide)
      have hsl : s.data.toList = flat (T k).rest := by rw [hs]
      have hkNi : (k : Int) < (N : Int) := by omega
      clear hs
      have Hsl : Hid (s.data.toList = flat (T k).rest) := hsl
      clear hsl
      go_upto_if 89 with fail
      go_cut [] (fun wx => At w wx B Pb (M + 2) seen L1 L2 k)
      case first =>
        by_cases ht : t < (T k).rest.length
        · obtain ⟨⟨hd', y⟩, hy⟩ : ∃ y, (T k).rest[t]? = some y := ⟨_, List.getElem?_eq_getElem ht⟩
          have hfs := flat_split hy
          have hIy := HT.out.ok k hkN (hd', y) (List.mem_of_getElem? hy)
          have hpos : 0 < hd'.length := hdr_pos hIy.1
          have hos : o < s.size := by
            rw [HH.out.2.2.2.2.1, Lib.size_eq, Hsl.out, hfs]
            simp only [List.length_append]
            omega
          have hosI : (o : Int) < (s.size : Int) := by omega
          have hcon := split_spec (HS.out.drewN dr) HT.out hkN hy (by omega)
          rw [← HH.out.2.2.2.2.1] at hcon
          have Hcon : Hid (Calls Try.prog 33 #[.pointer (some ⟨Pb, 0, none⟩), .int .i64 (k : Int), .int .i64 (o : Int)] (w0.drewN dr) fun e w' => SplitRet (w0.drewN dr) w' B Pb N k t T kids (seen.length : Int) d (hd', y) e) := hcon
          have HY : Hid ((T k).rest[t]? = some (hd', y)) := hy
          clear hcon hfs hIy hy
          go_wp2_with fail
          refine Hcon.out.mono ?_
          rintro e w1 ⟨rfl, hkp, g2, cap2, pr2, hst2⟩
          have Hst2 : Hid (St w1 B Pb g2 cap2 (N + 1) (splitT N T k t (hd', y)) pr2 (splitKids N kids k) (seen.length : Int) d) := hst2
          have Hkp : Hid (Keep B (w0.drewN dr) w1) := hkp
          clear hst2 hkp
          go_wp2_with fail
          go_meet
          case rel =>
            have hk0 : k ≠ 0 := by
              intro e
              subst e
              rw [HT.out.rootr] at ht
              simp at ht
            refine ⟨g2, cap2, N + 1, _, pr2, splitBase N T base k t, _, d, by omega, Hst2.out, HT.out.split hkN HY.out, HN.out.split HT.out hkN HY.out, ?_, by omega, ?_, ?_⟩
            · exact HK.out.trans ((Keep.grown (Keep.refl B w0) (drewN_grown w0 dr) HS.out.co.leB (fun k hk => by cases hk)).trans Hkp.out)
            · rw [split_fin_i hkN hk0]; exact HH.out.2.2.2.1
            · rcases HSt.out with e | ⟨hd, x, r, e, hno⟩
              · exact .inl e
              · exact .inr ⟨hd, x, r, e, fun hc => hno (hc.unsplit HT.out hkN HY.out)⟩
        · have hte : t = (T k).rest.length := by have := HH.out.2.2.1; omega
          have hos : o = s.size := by
            rw [HH.out.2.2.2.2.1, Lib.size_eq, Hsl.out, hte, List.take_length]
          have hosI : ¬ (o : Int) < (s.size : Int) := by omega
          have Hfin : Hid (fin T base k = names L1) := by rw [fin, ← hte]; exact HH.out.2.2.2.1
          clear hte hos
          go_wp2_with fail
          go_meet
          case rel =>
            exact ⟨g, cap0, N, T, pr, base, kids, d, by omega, HS.out.drewN dr, HT.out, HN.out, HK.out.trans (Keep.grown (Keep.refl B w0) (drewN_grown w0 dr) HS.out.co.leB (fun k hk => by cases hk)), hkN, Hfin.out, HSt.out⟩
      case rest =>
        obtain ⟨w1, rfl⟩ : ∃ w1, w1 = wc := ⟨wc, rfl⟩
        have HL : Hid (L = L1 ++ L2 ∧ i = (flat L1).length) := ⟨HH.out.1, HH.out.2.2.2.2.2⟩
        clear HH HSt hcp c1 hkNi Hsl HS HT HN HPc HK hkN hNM
        obtain ⟨g1, cap1, N1, T1, pr1, base1, kids1, d1, hN1, hS1, hT1, hNu1, hK1, hkN1, hfin1, hst1⟩ := hcut
        have HS : Hid (St w1 B Pb g1 cap1 N1 T1 pr1 kids1 (seen.length : Int) d1) := hS1
        have HT : Hid (Tree N1 T1 base1 kids1) := hT1
        have HN : Hid (Nums N1 T1 base1 seen) := hNu1
        have HK : Hid (Keep B w w1) := hK1
        have Hfin : Hid (fin T1 base1 k = names L1) := hfin1
        have HSt : Hid (Stops N1 T1 base1 L1 L2) := hst1
        have HPc : Hid (PathIn w1 B a us) := by
          rcases HP.out with e | ⟨b, off, h1, h2, h3⟩
          · exact .inl e
          · exact .inr ⟨b, off, h1, h2, fun j x hx => (HK.out.1.cell (by exact h2)).trans (h3 j x hx)⟩
        clear hS1 hT1 hNu1 hK1 hfin1 hst1
        go_upto_if 97 with fail
        go_cut [5] (fun s5 wx => ∃ k : Nat, s5 = .int .i64 (k : Int) ∧ At w wx B Pb (M + 3) seen L [] k)
        case first =>
          by_cases hlt : i < U
          · have hL2 : ∃ hd x r, L2 = (hd, x) :: r := by
              obtain ⟨h1, h6⟩ := HL.out
              cases L2 with
              | nil =>
                have h7 := HU.out
                rw [Hus.out, h1, List.append_nil] at h7
                omega
              | cons p r => exact ⟨p.1, p.2, r, rfl⟩
            obtain ⟨hd, x, r, rfl⟩ := hL2
            rcases HPc.out with e | ⟨b, off, rfl, hbB, hby⟩
            · exfalso
              have h7 := HU.out
              rw [e] at h7
              simp at h7
              omega
            have hdr : us.drop i = flat ((hd, x) :: r) := by
              rw [Hus.out, HL.out.1, flat_append, HL.out.2, List.drop_left]
            have hdl : (us.drop i).length = U - i := by rw [List.length_drop, ← HU.out]
            have hcv := conv (w := w1) (b := b) (off := off + i) (cap := cap - i) (nm := us.drop i) 46 Try.underlying46 (fun j x hx => by rw [Nat.add_assoc]; exact hby (i + j) x (by rw [List.getElem?_drop] at hx; exact hx))
            rw [hdl] at hcv
            obtain ⟨s, hs⟩ : ∃ s : ByteArray, s = ⟨(us.drop i).toArray⟩ := ⟨_, rfl⟩
            rw [← hs] at hcv
            have hcon := addChild_spec s (by rw [hs]; exact hdr) HS.out HT.out hkN1 (fun p hp => HOK.out p (by rw [HL.out.1]; exact List.mem_append_right _ hp)) (by rw [hs, str_size, hdl]; omega) (by omega)
            have Hcon : Hid (Calls Try.prog 34 #[.pointer (some ⟨Pb, 0, none⟩), .int .i64 (k : Int), .string s] w1 fun e w' => AddRet w1 w' B Pb N1 k T1 kids1 (seen.length : Int) d1 x r e) := hcon
            have hicap : i ≤ cap := by omega
            have hUi : ¬ U = i := by omega
            have hicap2 : ¬ cap = i := by omega
            clear hcon hs hdr hdl hby
            go_wp2_with fail
            refine Hcon.out.mono ?_
            rintro e w2 ⟨rfl, hkp, g2, cap2, pr2, T2, hl2, hp2, hst2⟩
            have Hst2 : Hid (St w2 B Pb g2 cap2 (N1 + 1) T2 pr2 (addKids N1 kids1 k) (seen.length : Int) d1) := hst2
            have Hkp : Hid (Keep B w1 w2) := hkp
            have Hl2 : Hid (∀ j, Like (T2 j) (addT N1 T1 k x r j)) := hl2
            have Hp2 : Hid (∀ j, (T2 j).path = (addT N1 T1 k x r j).path) := hp2
            clear hst2 hkp hl2 hp2
            go_wp2_with fail
            go_meet
            case rel =>
              have hno : ¬ Cov N1 T1 base1 (fin T1 base1 k ++ [x]) := by
                rw [Hfin.out]
                rcases HSt.out with e | ⟨hd2, x2, r2, e, h9⟩
                · cases e
                · cases e; exact h9
              have hr : OKL r := fun p hp => HOK.out p (by rw [HL.out.1]; simp [hp])
              refine ⟨N1, rfl, g2, cap2, N1 + 1, T2, pr2, addBase N1 T1 base1 k, _, d1, by omega, Hst2.out, (HT.out.add hkN1 hr hno).like Hl2.out, (HN.out.add hkN1).like Hl2.out Hp2.out, HK.out.trans Hkp.out, Nat.lt_succ_self _, ?_, .inl rfl⟩
              rw [like_fin Hl2.out, add_fin_N HT.out hkN1, Hfin.out, HL.out.1, names_append]
              rfl
          · have hL2 : L2 = [] := by
              obtain ⟨h1, h6⟩ := HL.out
              refine flat_nil (fun p hp => HOK.out p (by rw [h1]; simp [hp])) ?_
              have h7 := HU.out
              rw [Hus.out, h1, flat_append, List.length_append, ← h6] at h7
              omega
            have HL1 : Hid (L = L1) := by rw [HL.out.1, hL2, List.append_nil]; exact rfl
            clear hL2
            go_wp2_with fail
            go_meet
            case rel => exact ⟨k, rfl, g1, cap1, N1, T1, pr1, base1, kids1, d1, by omega, HS.out, HT.out, HN.out, HK.out, hkN1, by rw [HL1.out]; exact Hfin.out, .inl rfl⟩
        case rest =>
          obtain ⟨w2, rfl⟩ : ∃ w2, w2 = wc := ⟨wc, rfl⟩
          clear HS HT HN HK Hfin HSt HPc hkN1 hN1 HL
          obtain ⟨k, rfl, g2, cap2, N, T, pr, base, kids, d, hN2, hS2, hT2, hNu2, hK2, hkN, hfin2, _⟩ := hcut
          obtain ⟨n, hn⟩ : ∃ n, n = seen.length := ⟨_, rfl⟩
          have Hn : Hid (n = seen.length) := hn
          rw [← hn] at hS2 hsn
          have HS : Hid (St w2 B Pb g2 cap2 N T pr kids (n : Int) d) := hS2
          have HT : Hid (Tree N T base kids) := hT2
          have HN : Hid (Nums N T base seen) := hNu2
          have HK : Hid (Keep B w w2) := hK2
          have Hfin : Hid (fin T base k = names L) := hfin2
          have HPc : Hid (PathIn w2 B a us) := by
            rcases HP.out with e | ⟨b, off, h1, h2, h3⟩
            · exact .inl e
            · exact .inr ⟨b, off, h1, h2, fun j x hx => (HK.out.1.cell (by exact h2)).trans (h3 j x hx)⟩
          clear hS2 hT2 hNu2 hK2 hfin2 hn
          go_wp2_with fail
          go_loop [15, 16] (fun s15 s16 => ∃ (L1 L2 : List Item) (m j : Nat), L = L1 ++ L2 ∧ m = L1.length ∧ j = (flat L1).length ∧ m ≤ j ∧ j ≤ U ∧ s15 = .int .i64 (m : Int) ∧ s16 = .int .i64 (j : Int)) (fun _ s16 => U - (intOf s16).toNat)
          case atStart => exact ⟨[], L, 0, 0, rfl, rfl, rfl, Nat.le_refl _, Nat.zero_le _, rfl, rfl⟩
          case round =>
            obtain ⟨L1, L2, m, j, hLL, hm, hj, hmj, hjU, rfl, rfl⟩ := hrel
            have HLL : Hid (L = L1 ++ L2) := hLL
            have Hm : Hid (m = L1.length) := hm
            have Hj : Hid (j = (flat L1).length) := hj
            clear hLL hm hj
            by_cases hlt : j < U
            · have hL2 : ∃ hd x r, L2 = (hd, x) :: r := by
                cases L2 with
                | nil =>
                  have h7 := HU.out
                  have h6 := Hj.out
                  rw [Hus.out, HLL.out, List.append_nil] at h7
                  omega
                | cons p r => exact ⟨p.1, p.2, r, rfl⟩
              obtain ⟨hd, x, r, rfl⟩ := hL2
              rcases HPc.out with e | ⟨b, off, rfl, hbB, hby⟩
              · exfalso
                have h7 := HU.out
                rw [e] at h7
                simp at h7
                omega
              have hfl : us = flat L1 ++ (hd ++ (x ++ flat r)) := by
                rw [Hus.out, HLL.out, flat_append]; rfl
              have hI := HOK.out (hd, x) (by rw [HLL.out]; simp)
              have hcon := nameAt_path b off cap us (flat L1) hd x (flat r) w2 hby (by rw [← HU.out]; exact hcap) ⟨hfl, hI.1, hI.2⟩ (by rw [← HU.out]; exact hsz)
              obtain ⟨nx, hnx⟩ : ∃ nx, nx = (flat L1).length + hd.length + x.length := ⟨_, rfl⟩
              rw [← hnx, ← HU.out, ← Hj.out] at hcon
              rw [← Hj.out] at hnx
              have Hcon : Hid (Calls Try.prog 30 #[.slice (some ⟨b, off, none⟩) U cap, .int .i64 (j : Int)] w2 fun e w' => PathRet w2 w' b x nx e) := hcon
              have hnxU : nx ≤ U := by
                have := congrArg List.length hfl
                rw [← HU.out, List.length_append, ← Hj.out] at this
                simp only [List.length_append] at this
                omega
              have hnxi : j < nx := by have h0 : 0 < hd.length := hdr_pos hI.1; omega
              have HL1 : Hid (nx = (flat (L1 ++ [(hd, x)])).length) := by
                have e : (flat [(hd, x)]).length = hd.length + x.length := by simp [flat]
                show nx = _
                rw [flat_append, List.length_append, ← Hj.out, e]
                omega
              clear hcon hnx hfl hI hby
              go_wp2_with fail
              refine Hcon.out.mono ?_
              rintro e w3 ⟨off', cap', rfl, hby', rfl⟩
              clear hby'
              go_wp2_with fail
              go_round
              case rel => exact ⟨L1 ++ [(hd, x)], r, m + 1, nx, by rw [HLL.out]; simp, by rw [List.length_append, ← Hm.out]; rfl, HL1.out, by omega, hnxU, by go_num, rfl⟩
              case measure => simp [intOf]; omega
            · have hc0 := HS.out.co.cell0
              have hc1 := HS.out.co.cell1
              have hc2 := HS.out.co.cell2
              have hz2 := HS.out.co.frozenP 2
              have hkNi : (k : Int) < (N : Int) := by omega
              by_cases hmd : (m : Int) ≤ d
              · have hmd2 : ¬ d < (m : Int) := by omega
                have HD := d_facts HS.out d
                have e0 := HD.co.cell0
                have e1 := HD.co.cell1
                have e3 : (w2.setCell ⟨Pb, 2, none⟩ (.int .i64 d)).cell? ⟨g2, k * 7 + 3, none⟩ = some (.int .i64 (T k).path) := HD.co.row.cell 3 hkN (by decide)
                have ez := HD.co.row.frozen (k * 7 + 3)
                have HD1 : Hid (Md w2 (w2.setCell ⟨Pb, 2, none⟩ (.int .i64 d)) B Pb g2 cap2 N T pr (n : Int) d) := HD
                clear HD
                rcases HN.out.val k hkN with hp | ⟨q, hp, hsq⟩
                · rw [hp] at e3
                  have HP1 : Hid ((T k).path = -1) := hp
                  have h2 : Md w2 ((w2.setCell ⟨Pb, 2, none⟩ (.int .i64 d)).setCell ⟨g2, k * 7 + 3, none⟩ (.int .i64 (n : Int))) B Pb g2 cap2 N (numT T k n) pr (n : Int) d :=
                    HD1.out.setNode (k := k) (f := 3) hkN (by decide) (fun j _ hj => by unfold numT; rw [upd_ne _ _ hj]) (by unfold numT; rw [upd_same]; rfl)
                  have f1 := h2.co.cell1
                  have fz := h2.co.frozenP 1
                  have h3 := h2.co.setP (j := 1) (v := .int .i64 ((n : Int) + 1)) (g' := g2) (cap' := cap2) (n' := (n : Int) + 1) (d' := d) h2.co.row rfl
                  have k3 : (((w2.setCell ⟨Pb, 2, none⟩ (.int .i64 d)).setCell ⟨g2, k * 7 + 3, none⟩ (.int .i64 (n : Int))).setCell ⟨Pb, 1, none⟩ (.int .i64 ((n : Int) + 1))).cell? ⟨g2, k * 7 + 3, none⟩ = some (.int .i64 (n : Int)) := by
                    rw [h3.row.cell 3 hkN (by decide)]; unfold numT; rw [upd_same]; rfl
                  have HE : Hid (Added w (((w2.setCell ⟨Pb, 2, none⟩ (.int .i64 d)).setCell ⟨g2, k * 7 + 3, none⟩ (.int .i64 (n : Int))).setCell ⟨Pb, 1, none⟩ (.int .i64 ((n : Int) + 1))) B Pb M seen (names L) (.returned (.int .i64 (n : Int)))) := by
                    have hg := setCell_grown ((w2.setCell ⟨Pb, 2, none⟩ (.int .i64 d)).setCell ⟨g2, k * 7 + 3, none⟩ (.int .i64 (n : Int))) ⟨Pb, 1, none⟩ (.int .i64 ((n : Int) + 1))
                    refine ⟨HK.out.trans (h2.keep.grown hg h2.co.leB (fun j hj => by cases hj; exact ⟨h2.co.hB, h2.co.oursP⟩)), n, rfl, seen ++ [names L], ?_, .inr ⟨?_, Hn.out, rfl⟩⟩
                    · refine ⟨g2, cap2, N, numT T k n, pr, base, kids, d, hN2, ?_, HT.out.like (num_like T k n), ?_⟩
                      · have h5 := HS.out.re h3 (h2.maps.grown hg (fun j hj => by cases hj; exact ⟨_, _, _, h2.co.hp⟩)) (num_like T k n) (num_bf T k n)
                        have e5 : (((seen ++ [names L]).length : Nat) : Int) = (n : Int) + 1 := by rw [List.length_append, ← Hn.out]; simp
                        rw [e5]; exact h5
                      · have h5 := HN.out.num HT.out hkN HP1.out
                        rw [Hfin.out, ← Hn.out] at h5
                        exact h5
                    · rw [← Hfin.out]; exact HN.out.fresh HT.out hkN HP1.out
                  clear hp h2 h3
                  go_wp2_with fail
                  go_ret
                  exact HE.out
                · rw [hp] at e3
                  have HE : Hid (Added w (w2.setCell ⟨Pb, 2, none⟩ (.int .i64 d)) B Pb M seen (names L) (.returned (.int .i64 (q : Int)))) := by
                    refine ⟨HK.out.trans HD1.out.keep, q, rfl, seen, ?_, .inl ⟨rfl, ?_⟩⟩
                    · refine ⟨g2, cap2, N, T, pr, base, kids, d, hN2, ?_, HT.out, HN.out⟩
                      rw [← Hn.out]
                      exact HS.out.re HD1.out.co HD1.out.maps (like_refl T) (fun _ => rfl)
                    · rw [hsq, Hfin.out]
                  have hq0 : ¬ (q : Int) < 0 := by omega
                  clear hp hsq
                  go_wp2_with fail
                  go_ret
                  exact HE.out
              · have hmd2 : d < (m : Int) := by omega
                have HD := d_facts HS.out (m : Int)
                have e0 := HD.co.cell0
                have e1 := HD.co.cell1
                have e3 : (w2.setCell ⟨Pb, 2, none⟩ (.int .i64 (m : Int))).cell? ⟨g2, k * 7 + 3, none⟩ = some (.int .i64 (T k).path) := HD.co.row.cell 3 hkN (by decide)
                have ez := HD.co.row.frozen (k * 7 + 3)
                have HD1 : Hid (Md w2 (w2.setCell ⟨Pb, 2, none⟩ (.int .i64 (m : Int))) B Pb g2 cap2 N T pr (n : Int) (m : Int)) := HD
                clear HD
                rcases HN.out.val k hkN with hp | ⟨q, hp, hsq⟩
                · rw [hp] at e3
                  have HP1 : Hid ((T k).path = -1) := hp
                  have h2 : Md w2 ((w2.setCell ⟨Pb, 2, none⟩ (.int .i64 (m : Int))).setCell ⟨g2, k * 7 + 3, none⟩ (.int .i64 (n : Int))) B Pb g2 cap2 N (numT T k n) pr (n : Int) (m : Int) :=
                    HD1.out.setNode (k := k) (f := 3) hkN (by decide) (fun j _ hj => by unfold numT; rw [upd_ne _ _ hj]) (by unfold numT; rw [upd_same]; rfl)
                  have f1 := h2.co.cell1
                  have fz := h2.co.frozenP 1
                  have h3 := h2.co.setP (j := 1) (v := .int .i64 ((n : Int) + 1)) (g' := g2) (cap' := cap2) (n' := (n : Int) + 1) (d' := (m : Int)) h2.co.row rfl
                  have k3 : (((w2.setCell ⟨Pb, 2, none⟩ (.int .i64 (m : Int))).setCell ⟨g2, k * 7 + 3, none⟩ (.int .i64 (n : Int))).setCell ⟨Pb, 1, none⟩ (.int .i64 ((n : Int) + 1))).cell? ⟨g2, k * 7 + 3, none⟩ = some (.int .i64 (n : Int)) := by
                    rw [h3.row.cell 3 hkN (by decide)]; unfold numT; rw [upd_same]; rfl
                  have HE : Hid (Added w (((w2.setCell ⟨Pb, 2, none⟩ (.int .i64 (m : Int))).setCell ⟨g2, k * 7 + 3, none⟩ (.int .i64 (n : Int))).setCell ⟨Pb, 1, none⟩ (.int .i64 ((n : Int) + 1))) B Pb M seen (names L) (.returned (.int .i64 (n : Int)))) := by
                    have hg := setCell_grown ((w2.setCell ⟨Pb, 2, none⟩ (.int .i64 (m : Int))).setCell ⟨g2, k * 7 + 3, none⟩ (.int .i64 (n : Int))) ⟨Pb, 1, none⟩ (.int .i64 ((n : Int) + 1))
                    refine ⟨HK.out.trans (h2.keep.grown hg h2.co.leB (fun j hj => by cases hj; exact ⟨h2.co.hB, h2.co.oursP⟩)), n, rfl, seen ++ [names L], ?_, .inr ⟨?_, Hn.out, rfl⟩⟩
                    · refine ⟨g2, cap2, N, numT T k n, pr, base, kids, (m : Int), hN2, ?_, HT.out.like (num_like T k n), ?_⟩
                      · have h5 := HS.out.re h3 (h2.maps.grown hg (fun j hj => by cases hj; exact ⟨_, _, _, h2.co.hp⟩)) (num_like T k n) (num_bf T k n)
                        have e5 : (((seen ++ [names L]).length : Nat) : Int) = (n : Int) + 1 := by rw [List.length_append, ← Hn.out]; simp
                        rw [e5]; exact h5
                      · have h5 := HN.out.num HT.out hkN HP1.out
                        rw [Hfin.out, ← Hn.out] at h5
                        exact h5
                    · rw [← Hfin.out]; exact HN.out.fresh HT.out hkN HP1.out
                  clear hp h2 h3
                  go_wp2_with fail
                  go_ret
                  exact HE.out
                · rw [hp] at e3
                  have HE : Hid (Added w (w2.setCell ⟨Pb, 2, none⟩ (.int .i64 (m : Int))) B Pb M seen (names L) (.returned (.int .i64 (q : Int)))) := by
                    refine ⟨HK.out.trans HD1.out.keep, q, rfl, seen, ?_, .inl ⟨rfl, ?_⟩⟩
                    · refine ⟨g2, cap2, N, T, pr, base, kids, (m : Int), hN2, ?_, HT.out, HN.out⟩
                      rw [← Hn.out]
                      exact HS.out.re HD1.out.co HD1.out.maps (like_refl T) (fun _ => rfl)
                    · rw [hsq, Hfin.out]
                  have hq0 : ¬ (q : Int) < 0 := by omega
                  clear hp hsq
                  go_wp2_with fail
                  go_ret
                  exact HE.out
end Go.Proofs.Qxb6602793a.Pa
