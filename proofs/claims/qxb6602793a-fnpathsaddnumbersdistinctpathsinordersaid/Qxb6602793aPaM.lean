import Derived.Test.Qxb6602793aPaL
namespace Go.Proofs.Qxb6602793a.Pa
open Go.RowKit Go.Proofs.Qxb6602793a.Mem Go.WideMaps Go.Maps

theorem ByteRows.mono {w : World} {B B' : Nat} {a : Option Addr} {n : Nat} {A : Nat → Option Addr} {C : Nat → Nat} {us : Nat → List UInt8} (h : ByteRows w B a n A C us) (hb : B ≤ B') : ByteRows w B' a n A C us := by
  refine ⟨?_, fun k hk => ⟨(h.2 k hk).1, (h.2 k hk).2.1, (h.2 k hk).2.2.mono hb⟩⟩
  rcases h.1 with e | ⟨b, off, h1, h2, h3⟩
  · exact .inl e
  · exact .inr ⟨b, off, h1, by omega, h3⟩
theorem clonePaths_any {w : World} {a : Option Addr} {n cap : Nat} {A : Nat → Option Addr} {C : Nat → Nat} {us : Nat → List UInt8} (h : ByteRows w w.heap.size a n A C us) (ha : a = none → n = 0 ∧ cap = 0) (hn : n ≤ 1048576) (hsz : ∀ k, k < n → (us k).length ≤ 1048576) :
    Calls Try.prog 25 #[.slice a n cap] w fun e w' => PathsRet w w' n us e := by
  cases a with
  | none =>
    obtain ⟨rfl, rfl⟩ := ha rfl
    exact clonePaths_nil us w
  | some x => exact clonePaths_some x n cap h hn hsz

theorem Co.notOurs {w w' : World} {B Pb g cap N : Nat} {T : Nat → Nd} {pr : Nat → Int} {n d : Int} {row : Option Nat} (h : Co w B Pb g cap N T pr n d) (hg : w.grownBy w' row) (hr : ∀ k, row = some k → ¬ Ours w k) : Co w' B Pb g cap N T pr n d :=
  h.kept hg (fun e => hr Pb e.symm h.oursP) (fun e => hr g e.symm h.oursG)
theorem St.notOurs {w w' : World} {B Pb g cap N : Nat} {T : Nat → Nd} {pr : Nat → Int} {kids : Nat → List Nat} {n d : Int} {row : Option Nat} (h : St w B Pb g cap N T pr kids n d) (hg : w.grownBy w' row) (hr : ∀ k, row = some k → ¬ Ours w k) : St w' B Pb g cap N T pr kids n d :=
  h.re (h.co.notOurs hg hr) (fun b es cl hb => by rw [hg.block b (lt_of_heap hb) (fun e => hr b e.symm (.inr ⟨_, _, hb⟩))]; exact hb) (like_refl T) (fun _ => rfl)
/-- The state of the Paths between two adds. -/
def Stand (w : World) (B Pb M : Nat) (seen : List (List Name)) : Prop := Whole w B Pb M seen ∨ (Empt w B Pb ∧ seen = [])
theorem Stand.notOurs {w w' : World} {B Pb M : Nat} {seen : List (List Name)} {row : Option Nat} (h : Stand w B Pb M seen) (hg : w.grownBy w' row) (hr : ∀ k, row = some k → ¬ Ours w k) : Stand w' B Pb M seen := by
  rcases h with ⟨g, cap, N, T, pr, base, kids, d, h1, h2, h3⟩ | ⟨⟨h1, h2⟩, h3⟩
  · exact .inl ⟨g, cap, N, T, pr, base, kids, d, h1, h2.notOurs hg hr, h3⟩
  · exact .inr ⟨⟨by rw [hg.block Pb (lt_of_heap h1) (fun e => hr Pb e.symm (.inl ⟨_, _, _, h1, .inl rfl⟩))]; exact h1, h2⟩, h3⟩
theorem Stand.nodup {w : World} {B Pb M : Nat} {seen : List (List Name)} (h : Stand w B Pb M seen) : seen.Nodup := by
  rcases h with ⟨g, cap, N, T, pr, base, kids, d, h1, h2, h3, h4⟩ | ⟨_, rfl⟩
  · exact h4.nodup
  · simp
theorem nodup_idx {l : List (List Name)} (h : l.Nodup) {i j : Nat} {x : List Name} (hi : l[i]? = some x) (hj : l[j]? = some x) : i = j := by
  obtain ⟨h1, h2⟩ := List.getElem?_eq_some_iff.1 hi
  obtain ⟨h3, h4⟩ := List.getElem?_eq_some_iff.1 hj
  rcases Nat.lt_trichotomy i j with e | e | e
  · have := List.pairwise_iff_getElem.1 h i j h1 h3 e
    exact absurd (h2.trans h4.symm) this
  · exact e
  · have := List.pairwise_iff_getElem.1 h j i h3 h1 e
    exact absurd (h4.trans h2.symm) this
theorem own_keep {w w' : World} {B base : Nat} {v : Value} {n : Nat} {xs : List Value} (h : w.ownsRow base 44 1 v n xs) (hk : Keep B w w') : w'.ownsRow base 44 1 v n xs := by
  refine ⟨h.1, ?_⟩
  rcases h.2 with h2 | ⟨g, cap, cur, h1, h2, h3, h4⟩
  · exact .inl h2
  · exact .inr ⟨g, cap, cur, h1, h2, hk.2 g _ _ _ h3 (by decide) (by decide), h4⟩
theorem own_not {w : World} {base : Nat} {v : Value} {n : Nat} {xs : List Value} (h : w.ownsRow base 44 1 v n xs) : ∀ k, v.ownBlock = some k → ¬ Ours w k := by
  intro k hk
  rcases h.2 with ⟨rfl, _⟩ | ⟨g, cap, cur, rfl, h2, h3, h4⟩
  · cases hk
  · have e : g = k := by simpa [Value.ownBlock] using hk
    subst e
    rintro (⟨cs, t, fr, g1, g2⟩ | ⟨es, cl, g1⟩)
    · rw [h3] at g1
      cases g1
      rcases g2 with g2 | g2 <;> cases g2
    · rw [h3] at g1; cases g1

/-- The list of the names that were seen, in memory. -/
def SeenRow (w : World) (B n : Nat) (vs : List Value) (Ls : Nat → List Item) (sa : Option Addr) (m sc : Nat) (seen : List (List Name)) : Prop :=
  m = seen.length ∧ ∃ vals, w.ownsRow B 44 1 (.slice sa m sc) m vals ∧ ∀ j, j < m → ∃ i, i < n ∧ vals[j]? = vs[i]? ∧ seen[j]? = some (names (Ls i))

set_option maxRecDepth 100000 in
set_option maxHeartbeats 1000000 in
theorem law_spec (a : Option Addr) (n cap : Nat) {w : World} {A : Nat → Option Addr} {C : Nat → Nat} {us : Nat → List UInt8} (h : ByteRows w w.heap.size a n A C us) (ha : a = none → n = 0 ∧ cap = 0) :
    Calls Try.prog 9 #[.slice a n cap] w fun e w' => e = .returned (.bool true) ∧ Below w.heap.size w w' := by
  have HR : Hid (ByteRows w w.heap.size a n A C us) := h
  have HA : Hid (a = none → n = 0 ∧ cap = 0) := ha
  clear h ha
  obtain ⟨i0, hi, hz0, hz1, hz2⟩ := info_parts info44
  go_enter Try.func9, Try.ntmps9
  go_wp2_with fail
  refine (zz_spec a n cap HR.out).mono ?_
  rintro e w1 ⟨b, rfl, rfl, hb⟩
  cases b with
  | false =>
    clear hb
    go_wp2_with fail
    go_ret
    exact ⟨rfl, Below.refl _ _⟩
  | true =>
    obtain ⟨hn20, hlens⟩ := hb rfl
    have HZ : Hid (∀ k, k < n → (us k).length ≤ 1048576) := hlens
    clear hb hlens
    by_cases hn : n ≤ 4096
    · have hdn : decide ((4096 : Int) < (n : Int)) = false := decide_eq_false (by omega)
      go_wp2_with fail
      go_loop [3, 4] (fun tv kv => ∃ t k : Nat, t ≤ 1048576 ∧ k ≤ n ∧ tv = .int .i64 (t : Int) ∧ kv = .int .i64 (k : Int)) (fun _ kv => n - (intOf kv).toNat)
      case atStart => exact ⟨24 * n, 0, by omega, Nat.zero_le _, by go_num, rfl⟩
      case round =>
        obtain ⟨t, k, ht, hk, rfl, rfl⟩ := hrel
        by_cases hlt : k < n
        · obtain ⟨b, off, rfl, hbB, hc⟩ := HR.out.at hlt
          obtain ⟨u, hu⟩ : ∃ u, u = (us k).length := ⟨_, rfl⟩
          have hu20 : u ≤ 1048576 := by rw [hu]; exact HZ.out k hlt
          rw [← hu] at hc
          clear hu
          by_cases hu2 : t + u ≤ 1048576
          · go_wp2_with fail
            go_round
            case rel => exact ⟨t + u, k + 1, hu2, by omega, by go_num, by go_num⟩
            case measure => simp [intOf]; omega
          · go_wp2_with fail
            go_ret
            exact ⟨rfl, Below.refl _ _⟩
        · have e : n = k := by omega
          subst e
          go_wp2_with fail
          refine (decodeAll_spec a n cap HR.out hn20 HZ.out).mono ?_
          rintro e w1 ⟨hb1, hres⟩
          have Hb1 : Hid (Below w.heap.size w w1) := hb1
          clear hb1
          rcases hres with ⟨v, rfl⟩ | ⟨vs, Ls, rfl, hrow1, hdec⟩
          · go_wp2_with fail
            go_ret
            exact ⟨rfl, Hb1.out⟩
          · have Hrow1 : Hid (ORow w1 44 w.heap.size n vs) := hrow1
            have Hdec : Hid (∀ j, j < n → OKL (Ls j) ∧ us j = flat (Ls j) ∧ ∃ v, vs[j]? = some v ∧ StrSl w1 w.heap.size v (names (Ls j))) := hdec
            clear hrow1 hdec
            go_wp2_with fail
            refine (clonePaths_any ((HR.out.below Hb1.out).mono Hb1.out.size) HA.out hn20 HZ.out).mono ?_
            rintro e w2 ⟨hb2, a2, cap2, A2, C2, rfl, hrows2⟩
            have Hb2 : Hid (Below w1.heap.size w1 w2) := hb2
            have HR2 : Hid (ByteRows w2 w2.heap.size a2 n A2 C2 us) := hrows2
            clear hb2 hrows2
            have HStr : Hid (∀ wr : World, Below w2.heap.size w2 wr → (∀ i, i < n → wr.cell? ⟨w.heap.size, i, none⟩ = vs[i]?) ∧ ∀ i, i < n → ∃ va vc, vs[i]? = some (.slice va (names (Ls i)).length vc) ∧ StrRd wr (.slice va (names (Ls i)).length vc) (names (Ls i))) := by
              intro wr hbr
              have hb1r : Below w1.heap.size w1 wr := Hb2.out.trans (hbr.mono Hb2.out.size)
              refine ⟨fun i hi => ?_, fun i hi => ?_⟩
              · exact (Hrow1.out.below hb1r Hrow1.out.lt).cell hi
              · obtain ⟨_, _, v, h3, h4⟩ := Hdec.out i hi
                have h5 := strRd_of (own_below h4 hb1r)
                have h6 := h5
                obtain ⟨va, vc, rfl, _⟩ := h6
                exact ⟨va, vc, h3, h5⟩
            obtain ⟨B, hB⟩ : ∃ B, B = w2.heap.size := ⟨_, rfl⟩
            obtain ⟨O, hO⟩ : ∃ O, O = w.heap.size := ⟨_, rfl⟩
            have HBw : Hid (B = w2.heap.size) := hB
            have HOw : Hid (O = w.heap.size) := hO
            have HOB : Hid (w.heap.size ≤ w2.heap.size) := Nat.le_trans Hb1.out.size Hb2.out.size
            go_wp2_with fail
            rw [← hB, ← hO]
            clear hB hO
            go_loopw [8, 9] (fun s8 s9 wr => ∃ (k m sc : Nat) (sa : Option Addr) (seen : List (List Name)), k ≤ n ∧ m ≤ k ∧ s8 = .slice sa m sc ∧ s9 = .int .i64 (k : Int) ∧ SeenRow wr B n vs Ls sa m sc seen ∧ Stand wr B B (3 * k) seen ∧ Below B w2 wr) (fun _ s9 _ => n - (intOf s9).toNat)
            case atStart =>
              refine ⟨0, 0, 0, none, [], Nat.zero_le _, Nat.le_refl _, rfl, rfl, ⟨rfl, [], World.ownsRow_nil _ _ _ _, fun j hj => by omega⟩, .inr ⟨⟨?_, Nat.le_refl _⟩, rfl⟩, ?_⟩
              · rw [HBw.out]; exact heap_alloc_new w2 _
              · rw [HBw.out]; exact (Below.refl _ _).alloc (Nat.le_refl _) _
            case round =>
              obtain ⟨wo, rfl⟩ : ∃ wo, wo = wr := ⟨wr, rfl⟩
              obtain ⟨k, m, sc, sa, seen, hk, hmk, rfl, rfl, hseen, hstand, hbel⟩ := hrel
              have Hseen : Hid (SeenRow wo B n vs Ls sa m sc seen) := hseen
              have Hstand : Hid (Stand wo B B (3 * k) seen) := hstand
              have Hbel : Hid (Below B w2 wo) := hbel
              clear hseen hstand hbel
              by_cases hlt : k < n
              · obtain ⟨hcells, hstrs⟩ := HStr.out wo (by rw [← HBw.out]; exact Hbel.out)
                have Hcells : Hid (∀ i, i < n → wo.cell? ⟨O, i, none⟩ = vs[i]?) := by rw [HOw.out]; exact hcells
                have Hstrs : Hid (∀ i, i < n → ∃ va vc, vs[i]? = some (.slice va (names (Ls i)).length vc) ∧ StrRd wo (.slice va (names (Ls i)).length vc) (names (Ls i))) := hstrs
                clear hcells hstrs
                obtain ⟨va, vc, hvk, hrk⟩ := Hstrs.out k hlt
                have hck := Hcells.out k hlt
                rw [hvk] at hck
                obtain ⟨vl, hvl⟩ : ∃ vl, vl = (names (Ls k)).length := ⟨_, rfl⟩
                rw [← hvl] at hvk hrk hck
                have Hvk : Hid (vs[k]? = some (.slice va vl vc)) := hvk
                have Hrk : Hid (StrRd wo (.slice va vl vc) (names (Ls k))) := hrk
                obtain ⟨q, hq⟩ : ∃ q, q = names (Ls k) := ⟨_, rfl⟩
                have Hq : Hid (q = names (Ls k)) := hq
                have Hql : Hid (q.length ≤ 1048576) := by
                  show q.length ≤ _
                  rw [hq, names_len]
                  have h1 := items_le (Hdec.out k hlt).1
                  have h2 := HZ.out k hlt
                  rw [(Hdec.out k hlt).2.1] at h2
                  omega
                have hkn : (k : Int) < (n : Int) := by omega
                clear hvk hrk hvl hq
                go_upto_block 4 with fail
                go_cut [10] (fun s10 wx => ∃ d : Nat, wx = wo.drewN d ∧ ((∃ j : Nat, s10 = .int .i64 (j : Int) ∧ j < m ∧ seen[j]? = some q) ∨ (s10 = .int .i64 (-1) ∧ q ∉ seen)))
                case first =>
                  go_wp2_with fail
                  go_loopw [10, 11] (fun s10 s11 wx => ∃ j d : Nat, j ≤ m ∧ s10 = .int .i64 (-1) ∧ s11 = .int .i64 (j : Int) ∧ wx = wo.drewN d ∧ ∀ i, i < j → seen[i]? ≠ some q) (fun _ s11 _ => m - (intOf s11).toNat)
                  case atStart => exact ⟨0, 0, Nat.zero_le _, rfl, rfl, rfl, fun i hi => by omega⟩
                  case round =>
                    obtain ⟨j, d, hj, rfl, rfl, hwx, hno⟩ := hrel
                    have hheap : wr.heap = wo.heap := by rw [hwx]; rfl
                    have Hwx : Hid (wr = wo.drewN d) := hwx
                    have hck2 : wr.cell? ⟨O, k, none⟩ = some (.slice va vl vc) := by rw [World.cell?_of_block (w := wo) (by rw [hheap])]; exact hck
                    have Hheap : Hid (wr.heap = wo.heap) := hheap
                    clear hwx hheap
                    have Hno : Hid (∀ i, i < j → seen[i]? ≠ some q) := hno
                    clear hno
                    by_cases hjm : j < m
                    · obtain ⟨hms, vals, hown, hvals⟩ := Hseen.out
                      obtain ⟨i, hin, hvi, hsi⟩ := hvals j hjm
                      obtain ⟨vai, vci, hvsi, hri⟩ := Hstrs.out i hin
                      obtain ⟨gs, scs, hsa, hBg, hgl⟩ := hown.form (by omega)
                      cases hsa
                      have hcj := World.ownsRow.cellAt hown j (by omega)
                      rw [hvi, hvsi, ← World.cell?_of_block (w := wo) (w' := wr) (by rw [Hheap.out])] at hcj
                      obtain ⟨vli, hvli⟩ : ∃ vli, vli = (names (Ls i)).length := ⟨_, rfl⟩
                      rw [← hvli] at hcj hri
                      have hlen : (names (Ls i)).length ≤ 1048576 := by
                        rw [names_len]
                        have h1 := items_le (Hdec.out i hin).1
                        have h2 := HZ.out i hin
                        rw [(Hdec.out i hin).2.1] at h2
                        omega
                      have Hcon : Hid (∀ W : World, W.heap = wo.heap → Calls Try.prog 26 #[.slice vai vli vci, .slice va vl vc] W fun e w' => e = .returned (.bool (decide (names (Ls i) = names (Ls k)))) ∧ ∃ m, w' = W.drewN m) := by
                        intro W hW
                        refine same_spec ?_ ?_ hlen
                        · obtain ⟨a', c', h1, h2⟩ := hri
                          refine ⟨a', c', h1, h2.imp id (fun ⟨b, h3, h4⟩ => ⟨b, h3, fun j x hx => ?_⟩)⟩
                          rw [World.cell?_of_block (w := wo) (by rw [hW])]; exact h4 j x hx
                        · obtain ⟨a', c', h1, h2⟩ := Hrk.out
                          refine ⟨a', c', h1, h2.imp id (fun ⟨b, h3, h4⟩ => ⟨b, h3, fun j x hx => ?_⟩)⟩
                          rw [World.cell?_of_block (w := wo) (by rw [hW])]; exact h4 j x hx
                      have Hsi : Hid (seen[j]? = some (names (Ls i))) := hsi
                      have hjmI : (j : Int) < (m : Int) := by omega
                      clear hown hvals hvi hsi hvsi hri hvli hlen hms
                      by_cases heq : names (Ls i) = q
                      · have hdec : decide (names (Ls i) = names (Ls k)) = true := decide_eq_true (by rw [← Hq.out]; exact heq)
                        rw [hdec] at Hcon
                        have Heq : Hid (names (Ls i) = q) := heq
                        clear heq hdec
                        go_wp2_with fail
                        go_quiet (exact Calls.quiet_of (Hcon.out _ Hheap.out))
                        go_wp2_with fail
                        go_meet
                        case rel => exact ⟨d + nq, by rw [Hwx.out, World.drewN_drewN], .inl ⟨j, rfl, hjm, by rw [Hsi.out, Heq.out]⟩⟩
                      · have hdec : decide (names (Ls i) = names (Ls k)) = false := decide_eq_false (by rw [← Hq.out]; exact heq)
                        rw [hdec] at Hcon
                        have Hne : Hid (names (Ls i) ≠ q) := heq
                        clear heq hdec
                        go_wp2_with fail
                        go_quiet (exact Calls.quiet_of (Hcon.out _ Hheap.out))
                        go_wp2_with fail
                        go_roundw
                        case rel =>
                          refine ⟨j + 1, d + nq, by omega, rfl, by go_num, by rw [Hwx.out, World.drewN_drewN], fun i2 hi2 => ?_⟩
                          by_cases e : i2 = j
                          · subst e; rw [Hsi.out]; intro e2; exact Hne.out (Option.some.inj e2)
                          · exact Hno.out i2 (by omega)
                        case measure => simp [intOf]; omega
                    · go_wp2_with fail
                      go_meet
                      case rel =>
                        refine ⟨d, Hwx.out, .inr ⟨rfl, fun hmem => ?_⟩⟩
                        obtain ⟨i2, hi2, he2⟩ := List.getElem_of_mem hmem
                        have := Hseen.out.1
                        exact Hno.out i2 (by omega) (by rw [List.getElem?_eq_getElem hi2, he2])
                case rest =>
                  obtain ⟨w3, rfl⟩ : ∃ w3, w3 = wc := ⟨wc, rfl⟩
                  obtain ⟨d, hwx, hcase⟩ := hcut
                  have hheap : w3.heap = wo.heap := by rw [hwx]; rfl
                  have hg3 : wo.grownBy w3 none := by rw [hwx]; exact drewN_grown wo d
                  have Hstand3 : Hid (Stand w3 B B (3 * k) seen) := Hstand.out.notOurs hg3 (fun k hk => by cases hk)
                  have Hbel3 : Hid (Below B w2 w3) := Hbel.out.grown hg3 (by rw [HBw.out]; exact Hbel.out.size) (fun k hk => by cases hk)
                  obtain ⟨hms, vals, hown, hvals⟩ := Hseen.out
                  have Hms : Hid (m = seen.length) := hms
                  have Hown3 : Hid (w3.ownsRow B 44 1 (.slice sa m sc) m vals) := hown.kept hg3 (by cases hv : (Value.slice sa m sc).ownBlock <;> simp)
                  have Hvals : Hid (vals.length = m ∧ ∀ j, j < m → ∃ i, i < n ∧ vals[j]? = vs[i]? ∧ seen[j]? = some (names (Ls i))) := ⟨by have := hown.1; omega, hvals⟩
                  have hck3 : w3.cell? ⟨O, k, none⟩ = some (.slice va vl vc) := by rw [World.cell?_of_block (w := wo) (by rw [hheap])]; exact hck
                  have hsn : seen.length ≤ 50000 := by rw [← hms]; omega
                  obtain ⟨b2, off2, rfl, hb2B, hc2⟩ := HR2.out.at hlt
                  obtain ⟨hnone2, hcap2, hpath2⟩ := HR2.out.2 k hlt
                  have Hadd : Hid (∀ W : World, Stand W B B (3 * k) seen → Below B w2 W → Calls Try.prog 27 #[.pointer (some ⟨B, 0, none⟩), .slice (A2 k) (us k).length (C2 k)] W fun e w' => Added W w' B B (3 * k) seen q e) := by
                    intro W hS hW
                    rw [Hq.out]
                    exact add_spec (A2 k) (C2 k) (us k) (Ls k) hS (by omega) hsn ((hpath2.mono (Nat.le_of_eq HBw.out.symm)).below hW) hcap2 (HZ.out k hlt) (Hdec.out k hlt).1 (Hdec.out k hlt).2.1
                  have Hc2 : Hid (∀ W : World, Below B w2 W → W.cell? ⟨b2, off2 + k, none⟩ = some (.slice (A2 k) (us k).length (C2 k))) := fun W hW => (hW.cell (by show b2 < B; rw [HBw.out]; exact hb2B)).trans hc2
                  have hBsz : B ≤ w3.heap.size := by rw [HBw.out]; exact Hbel3.out.size
                  clear hwx hheap hg3 hms hown hvals hck hsn hc2 hnone2 hcap2 hpath2
                  rcases hcase with ⟨j, rfl, hjm, hsj⟩ | ⟨rfl, hnot⟩
                  · have Hsj : Hid (seen[j]? = some q) := hsj
                    have hc3 := Hc2.out w3 Hbel3.out
                    have hjj : ((j : Int) != (j : Int)) = false := by simp
                    have hj0 : ¬ (j : Int) < 0 := by omega
                    clear hsj
                    go_wp2_with fail
                    refine (Hadd.out w3 Hstand3.out Hbel3.out).mono ?_
                    rintro e w5 ⟨hkeep, k2, rfl, seen2, hwhole, hor⟩
                    have hk2 : k2 = j ∧ seen2 = seen := by
                      rcases hor with ⟨h1, h2⟩ | ⟨h1, _⟩
                      · exact ⟨nodup_idx Hstand3.out.nodup h2 Hsj.out, h1⟩
                      · exact absurd (List.mem_of_getElem? Hsj.out) h1
                    obtain ⟨rfl, rfl⟩ := hk2
                    have HK5 : Hid (Keep B w3 w5) := hkeep
                    have HW5 : Hid (Whole w5 B B (3 * k + 3) seen2) := hwhole
                    clear hkeep hwhole hor
                    go_wp2_with fail
                    go_roundw
                    case rel =>
                      refine ⟨k + 1, m, sc, sa, seen2, by omega, by omega, rfl, by go_num, ⟨Hms.out, vals, own_keep Hown3.out HK5.out, Hvals.out.2⟩, .inl ?_, Hbel3.out.trans HK5.out.1⟩
                      have e3 : 3 * (k + 1) = 3 * k + 3 := by omega
                      rw [e3]; exact HW5.out
                    case measure => simp [intOf]; omega
                  · have Hnot : Hid (q ∉ seen) := hnot
                    have hm1 : (-1 : Int) < 0 := by decide
                    have HownA : Hid (∀ W : World, W.heap = (w3.alloc (Obj.cells #[.slice va vl vc] 44)).heap → W.ownsRow B 44 1 (.slice sa m sc) m vals) := by
                      intro W hW
                      have h1 := Hown3.out.alloc (Obj.cells #[.slice va vl vc] 44)
                      refine ⟨h1.1, ?_⟩
                      rcases h1.2 with h2 | ⟨g, cap, cur, f1, f2, f3, f4⟩
                      · exact .inl h2
                      · exact .inr ⟨g, cap, cur, f1, f2, by rw [hW]; exact f3, f4⟩
                    clear hnot
                    go_upto_region 30 with (at_builtin; refine wpList_append_lies _ rfl _ _ 36 rfl B 44 i0 (.slice none 0 0) 1 24 Try.underlying36 hi hz0 hz1 hz2 rfl (by decide) (.slice sa m sc) m vals rfl (HownA.out _ rfl) ⟨_, 0, none⟩ 1 1 [.slice va vl vc] rfl rfl (cell_one_new _ _ _) (by intro u hu; simp at hu; subst hu; rfl) (by decide) (by unfold maxLen; omega) (by omega) (by simp; omega) _ rfl ?_; intro g5 cap5 w4 hown4 hgrow4 hat4 hlt4)
                    have HbA : Hid (Below B w2 (w3.alloc (Obj.cells #[.slice va vl vc] 44))) := Hbel3.out.alloc hBsz _
                    have Hbel4 : Hid (Below B w2 w4) := HbA.out.grown hgrow4 (by simp; omega) (fun k hk => ((HownA.out _ rfl).lt k hk).1)
                    have Hstand4 : Hid (Stand w4 B B (3 * k) seen) := (Hstand3.out.notOurs (World.grownBy_alloc w3 _ none) (fun k hk => by cases hk)).notOurs hgrow4 (own_not (HownA.out _ rfl))
                    have Hown4 : Hid (w4.ownsRow B 44 1 (.slice (some ⟨g5, 0, none⟩) (m + 1) cap5) (m + 1) (vals ++ [.slice va vl vc])) := hown4
                    have hc4 := Hc2.out w4 Hbel4.out
                    have hmm : ((m : Int) != (m : Int)) = false := by simp
                    clear hown4 hgrow4 hat4 hlt4
                    go_wp2_with fail
                    refine (Hadd.out w4 Hstand4.out Hbel4.out).mono ?_
                    rintro e w5 ⟨hkeep, k2, rfl, seen2, hwhole, hor⟩
                    have hk2 : k2 = m ∧ seen2 = seen ++ [q] := by
                      rcases hor with ⟨_, h2⟩ | ⟨_, h2, h3⟩
                      · exact absurd (List.mem_of_getElem? h2) Hnot.out
                      · exact ⟨by rw [h2, Hms.out], h3⟩
                    obtain ⟨rfl, rfl⟩ := hk2
                    have HK5 : Hid (Keep B w4 w5) := hkeep
                    have HW5 : Hid (Whole w5 B B (3 * k + 3) (seen ++ [q])) := hwhole
                    clear hkeep hwhole hor
                    go_wp2_with fail
                    go_roundw
                    case rel =>
                      refine ⟨k + 1, k2 + 1, cap5, _, seen ++ [q], by omega, by omega, rfl, by go_num, ⟨by rw [List.length_append, ← Hms.out]; rfl, _, own_keep Hown4.out HK5.out, ?_⟩, .inl ?_, Hbel4.out.trans HK5.out.1⟩
                      · intro j hj
                        by_cases e : j = k2
                        · subst e
                          refine ⟨k, hlt, ?_, ?_⟩
                          · rw [List.getElem?_append_right (by rw [Hvals.out.1]; exact Nat.le_refl _), Hvals.out.1, Nat.sub_self, Hvk.out]; rfl
                          · rw [List.getElem?_append_right (by rw [← Hms.out]; exact Nat.le_refl _), ← Hms.out, Nat.sub_self, Hq.out]; rfl
                        · obtain ⟨i, h1, h2, h3⟩ := Hvals.out.2 j (by omega)
                          refine ⟨i, h1, ?_, ?_⟩
                          · rw [List.getElem?_append_left (by rw [Hvals.out.1]; omega)]; exact h2
                          · rw [List.getElem?_append_left (by rw [← Hms.out]; omega)]; exact h3
                      · have e3 : 3 * (k + 1) = 3 * k + 3 := by omega
                        rw [e3]; exact HW5.out
                    case measure => simp [intOf]; omega
              · have e : n = k := by omega
                subst e
                go_wp2_with fail
                go_ret
                exact ⟨rfl, (Hb1.out.trans (Hb2.out.mono Hb1.out.size)).trans (Hbel.out.mono (by rw [HBw.out]; exact HOB.out))⟩
    · go_wp2_with fail
      go_ret
      exact ⟨rfl, Below.refl _ _⟩
end Go.Proofs.Qxb6602793a.Pa
