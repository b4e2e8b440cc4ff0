/-
  laws.FnNames: the names of a list's maps are told in order, and it is known by them.
-/
import Derived.Test.YtigpgkfgkjabmaaNames
namespace Go.Proofs.Ytigpgkfgkjabmaa
open Go.RowKit Go.Proofs.YtigpgkfgkjabmaaW.PrintWords Go.Proofs.YtigpgkfgkjabmaaW.PrintLast Go.Proofs.Ytigpgkfgkjabmaa.PFnFields
set_option linter.unusedVariables false
set_option linter.unusedSimpArgs false

def LawPost3 (w : World) (e : Ending) (w' : World) : Prop := e = .returned (.bool true) ∧ Below w.heap.size w w'
set_option maxRecDepth 100000 in
set_option maxHeartbeats 3200000 in
theorem nameslaw_calls (x : S25) (hz : Sz x) (w : World) (A3 : Option Addr) (c3 : Nat) (A4 : Option Addr) (c4 : Nat)
    (hK : k25.K w x [.int .i64 x.f0, .string x.f1, .string x.f2, .slice A3 x.f3.length c3, .slice A4 x.f4.length c4]) :
    Calls Try.prog 5 #[.agg #[.int .i64 x.f0, .string x.f1, .string x.f2, .slice A3 x.f3.length c3, .slice A4 x.f4.length c4]] w (LawPost3 w) := by
  have hu := Try.underlying25
  have HK := Aside0.mk hK
  have HZ := Aside0.mk hz
  clear hK hz
  go_enter Try.func5, Try.ntmps5
  go_wp2_with fail
  refine (fits1_calls x _ A3 c3 A4 c4 (k25.K_below ((Below.refl _ _).alloc (Nat.le_refl _) _) HK.out)).mono ?_
  rintro e w1 ⟨r, rfl, hb1, _⟩
  have hx1 : inVar w1 w.heap.size x A3 c3 A4 c4 := (hb1.block _ (by simp)).trans (heap_at _ rfl)
  have HB1 := Aside0.mk (((Below.refl w.heap.size w).alloc (Nat.le_refl _) _).trans (hb1.mono (by simp)))
  have HX1 := Aside0.mk hx1
  clear hb1 hx1
  cases r
  · go_wp2
    go_ret
    exact ⟨rfl, HB1.out⟩
  have cr0 := (cell_of_block (i := 0) HX1.out).trans (show _ = some _ from rfl); have cr1 := (cell_of_block (i := 1) HX1.out).trans (show _ = some _ from rfl); have cr2 := (cell_of_block (i := 2) HX1.out).trans (show _ = some _ from rfl); have cr3 := (cell_of_block (i := 3) HX1.out).trans (show _ = some _ from rfl); have cr4 := (cell_of_block (i := 4) HX1.out).trans (show _ = some _ from rfl); have zr0 := frozen_of_block (i := 0) HX1.out; have zr1 := frozen_of_block (i := 1) HX1.out; have zr2 := frozen_of_block (i := 2) HX1.out; have zr3 := frozen_of_block (i := 3) HX1.out; have zr4 := frozen_of_block (i := 4) HX1.out
  go_wp2_with fail
  refine (isList_calls x w1 A3 c3 A4 c4 (k25.K_below HB1.out HK.out) HZ.out).mono ?_
  rintro e w2 ⟨r, rfl, hb2, htree⟩
  have hx2 : inVar w2 w.heap.size x A3 c3 A4 c4 := (hb2.block _ (lt_of_block HX1.out)).trans HX1.out
  have HB2 := Aside0.mk (HB1.out.trans (hb2.mono HB1.out.size))
  have HX2 := Aside0.mk hx2
  clear hb2 hx2 cr0 cr1 cr2 cr3 cr4 zr0 zr1 zr2 zr3 zr4 HB1 HX1
  cases r
  · clear htree
    go_wp2
    go_ret
    exact ⟨rfl, HB2.out⟩
  have HT := Aside0.mk (htree rfl)
  clear htree
  have cr0 := (cell_of_block (i := 0) HX2.out).trans (show _ = some _ from rfl); have cr1 := (cell_of_block (i := 1) HX2.out).trans (show _ = some _ from rfl); have cr2 := (cell_of_block (i := 2) HX2.out).trans (show _ = some _ from rfl); have cr3 := (cell_of_block (i := 3) HX2.out).trans (show _ = some _ from rfl); have cr4 := (cell_of_block (i := 4) HX2.out).trans (show _ = some _ from rfl); have zr0 := frozen_of_block (i := 0) HX2.out; have zr1 := frozen_of_block (i := 1) HX2.out; have zr2 := frozen_of_block (i := 2) HX2.out; have zr3 := frozen_of_block (i := 3) HX2.out; have zr4 := frozen_of_block (i := 4) HX2.out
  go_wp2_with fail
  refine (areNamed_calls x HT.out.2 w2 A3 c3 A4 c4 (k25.K_below HB2.out HK.out)).mono ?_
  rintro e w3 ⟨r, rfl, hb3, hnamed⟩
  have hx3 : inVar w3 w.heap.size x A3 c3 A4 c4 := (hb3.block _ (lt_of_block HX2.out)).trans HX2.out
  have HB3 := Aside0.mk (HB2.out.trans (hb3.mono HB2.out.size))
  have HX3 := Aside0.mk hx3
  clear hb3 hx3 cr0 cr1 cr2 cr3 cr4 zr0 zr1 zr2 zr3 zr4 HB2 HX2
  cases r
  · clear hnamed
    go_wp2
    go_ret
    exact ⟨rfl, HB3.out⟩
  have HN := Aside0.mk (hnamed rfl)
  clear hnamed
  obtain ⟨g4, hg4⟩ : ∃ q : k25.C w A4 x.f4.length x.f4, True := by
    obtain ⟨_, _, _, _, he, l3, g3, l4, g4⟩ := k25_open HK.out
    simp only [List.cons.injEq, Value.slice.injEq, true_and, and_true] at he
    obtain ⟨⟨rfl, rfl⟩, rfl, rfl⟩ := he
    exact ⟨g4, trivial⟩
  have hl60 : x.f4.length ≤ 60 := by
    have h1 : x.f4.length + 1 ≤ nodes (5 + 1) x := HT.out.2.1.len
    have h2 : nodes (5 + 1) x ≤ 60 := HT.out.2.2
    omega
  have HG4 := Aside0.mk g4
  clear g4 hg4
  have cr0 := (cell_of_block (i := 0) HX3.out).trans (show _ = some _ from rfl); have cr1 := (cell_of_block (i := 1) HX3.out).trans (show _ = some _ from rfl); have cr2 := (cell_of_block (i := 2) HX3.out).trans (show _ = some _ from rfl); have cr3 := (cell_of_block (i := 3) HX3.out).trans (show _ = some _ from rfl); have cr4 := (cell_of_block (i := 4) HX3.out).trans (show _ = some _ from rfl); have zr0 := frozen_of_block (i := 0) HX3.out; have zr1 := frozen_of_block (i := 1) HX3.out; have zr2 := frozen_of_block (i := 2) HX3.out; have zr3 := frozen_of_block (i := 3) HX3.out; have zr4 := frozen_of_block (i := 4) HX3.out
  have hlx := lt_of_block HX3.out
  have cw4 : ∀ o : Obj, (w3.alloc o).cell? ⟨w.heap.size, 4, none⟩ = some (.slice A4 x.f4.length c4) := fun o => by rw [World.cell?_alloc_lt _ _ _ hlx]; exact cr4
  go_wp2_with fail
  obtain ⟨w4, e4⟩ : ∃ w4, w4 = w3.alloc (.cells #[] 9) := ⟨_, rfl⟩
  have hb4 : Below w.heap.size w w4 := by rw [e4]; exact HB3.out.alloc HB3.out.size _
  have hx4 : inVar w4 w.heap.size x A3 c3 A4 c4 := by rw [e4]; exact (heap_old _ hlx).trans HX3.out
  have hr4 : Kd.string.R 9 w4 (w.heap.size + 1) (fun _ => True) (.slice (some ⟨w3.heap.size, 0, none⟩) 0 0) [] := R_empty _ (by rw [e4]; exact heap_at _ rfl) (by omega) trivial
  have H4 := Aside0.mk (And.intro hb4 (And.intro hx4 hr4))
  try rw [← e4]
  clear hb4 hx4 hr4 cr0 cr1 cr2 cr3 cr4 zr0 zr1 zr2 zr3 zr4 cw4 hlx
  go_loopg [3, 25] x.f4.length (fun k nv i wr => ∃ (j : Nat) (A : Option Addr) (n c : Nat), nv = .slice A n c ∧ i = .int .i64 j ∧ Aside0 (j ≤ x.f4.length ∧ k + j = x.f4.length) ∧ Aside0 (inVar wr w.heap.size x A3 c3 A4 c4) ∧ Aside0 (Below w.heap.size w wr) ∧
    Aside0 (Kd.string.R 9 wr (w.heap.size + 1) (fun _ => True) (.slice A n c) ((x.f4.take j).map (fun y => (spField y nameB).f1))))
  case atStart => exact ⟨0, _, _, _, rfl, rfl, ⟨by omega⟩, ⟨H4.out.2.1⟩, ⟨H4.out.1⟩, ⟨H4.out.2.2⟩⟩
  case round =>
    clear H4
    obtain ⟨j, A, n, c, rfl, rfl, HJ, HXV, HB, HR⟩ := hrel
    by_cases hj : j < x.f4.length
    · generalize hyy : x.f4.getD j z25 = yy
      obtain ⟨ad4, P3, p3, P4, p4, e5, hKy, f0', f1', f2', f3', f4'⟩ := nodeAt HG4.out j hj yy hyy
      subst e5
      have f0 := (HB.out.cell (World.block_lt_of_cell? w _ f0')).trans f0'
      have f1 := (HB.out.cell (World.block_lt_of_cell? w _ f1')).trans f1'
      have f2 := (HB.out.cell (World.block_lt_of_cell? w _ f2')).trans f2'
      have f3 := (HB.out.cell (World.block_lt_of_cell? w _ f3')).trans f3'
      have f4 := (HB.out.cell (World.block_lt_of_cell? w _ f4')).trans f4'
      have hye : yy = x.f4[j] := by rw [← hyy, List.getD_eq_getElem?_getD, List.getElem?_eq_getElem hj]; rfl
      have hym : yy ∈ x.f4 := by rw [hye]; exact List.getElem_mem _
      have HYY := Aside0.mk (And.intro hye (And.intro hym hKy))
      clear hyy hKy f0' f1' f2' f3' f4' hye hym
      go_wp2_with fail
      have hbw : Below w.heap.size w (wr.alloc (.cells #[.int .i64 yy.f0, .string yy.f1, .string yy.f2, .slice P3 yy.f3.length p3, .slice P4 yy.f4.length p4] 25)) := HB.out.alloc HB.out.size _
      refine (nameOf_calls yy (by have := (HT.out.2.1.items (d := 5) yy HYY.out.2.1).klen; exact this) _ P3 p3 P4 p4 (k25.K_below hbw HYY.out.2.2)).mono ?_
      rintro e w5 ⟨rfl, hb5⟩
      have hb6 : Below wr.heap.size wr w5 := ((Below.refl _ _).alloc (Nat.le_refl _) _).trans (hb5.mono (by simp))
      obtain ⟨s, hs⟩ : ∃ s, s = (spField yy nameB).f1 := ⟨_, rfl⟩
      rw [← hs]
      have HS := Aside0.mk hs
      have H5 := Aside0.mk (And.intro (HB.out.trans (hb6.mono HB.out.size)) (And.intro ((hb6.block _ (lt_of_block HXV.out)).trans HXV.out) (R_upd HR.out (fun k _ _ hk => hb6.block k hk))))
      have hl5 : w.heap.size < w5.heap.size := Nat.lt_of_lt_of_le (lt_of_block HXV.out) hb6.size
      clear hbw hb5 hb6 hs f0 f1 f2 f3 f4
      go_wp2_with ((with_reducible refine gate_builtin (b := .append) (xs := #[.tmp 29, .tmp 32]) rfl ?_); at_builtin; refine Kd.R_append Kd.string (w0 := w5) (w.heap.size + 1) rfl (.tmp 29) (.tmp 32) 22 9 (.string ⟨#[]⟩) 16 rfl Try.underlying22 Try.infoStr rfl (by decide) (by decide) (.slice A n c) ((x.f4.take j).map (fun y => (spField y nameB).f1)) s [.string s] (fun _ => True) (fun _ => False) rfl rfl rfl (fun _ h => h.elim) (fun _ _ => trivial) H5.out.2.2 (Below.refl _ _) (by omega) (by simp; omega) ?_; intro nv1 w6 hr6 hb6 _ _; (have HB6 := Aside0.mk (And.intro hr6 hb6)); clear hr6 hb6)
      obtain ⟨A9, n9, c9, rfl⟩ : ∃ A1 n1 c1, nv1 = .slice A1 n1 c1 := by obtain ⟨A1, c1, e⟩ := Kd.R_slice HB6.out.1; exact ⟨_, _, _, e⟩
      go_roundg (gk - 1)
      case measure => have := HJ.out; omega
      case rel =>
        refine ⟨j + 1, A9, n9, c9, rfl, by go_num, ⟨by have := HJ.out; omega⟩, ⟨(HB6.out.2.block _ (by omega)).trans H5.out.2.1⟩, ⟨H5.out.1.trans (HB6.out.2.mono (by omega))⟩, ⟨?_⟩⟩
        rw [List.take_succ_eq_append_getElem hj, ← HYY.out.1, List.map_append, List.map_cons, List.map_nil, ← HS.out]
        exact HB6.out.1
    · have hje : j = x.f4.length := by have := HJ.out; omega
      obtain ⟨ts, hts⟩ : ∃ ts, x.f4.map (fun y => (spField y nameB).f1) = ts := ⟨_, rfl⟩
      have hr5 := HR.out
      rw [hje, List.take_length, hts] at hr5
      obtain ⟨B, b, he, hbl, hC⟩ := Kd.R_reads hr5
      obtain ⟨rfl, rfl, rfl⟩ : A = B ∧ n = ts.length ∧ c = b := by simpa using he
      have H5 := Aside0.mk (And.intro hts (And.intro hC hbl))
      clear hje hr5 hts hC hbl he HR
      have HXV' := HXV
      have cr0 := (cell_of_block (i := 0) HXV'.out).trans (show _ = some _ from rfl); have cr1 := (cell_of_block (i := 1) HXV'.out).trans (show _ = some _ from rfl); have cr2 := (cell_of_block (i := 2) HXV'.out).trans (show _ = some _ from rfl); have cr3 := (cell_of_block (i := 3) HXV'.out).trans (show _ = some _ from rfl); have cr4 := (cell_of_block (i := 4) HXV'.out).trans (show _ = some _ from rfl); have zr0 := frozen_of_block (i := 0) HXV'.out; have zr1 := frozen_of_block (i := 1) HXV'.out; have zr2 := frozen_of_block (i := 2) HXV'.out; have zr3 := frozen_of_block (i := 3) HXV'.out; have zr4 := frozen_of_block (i := 4) HXV'.out
      go_wp2_with fail
      refine (values_calls x HT.out.2 HT.out.1 nameB word_name HN.out ts H5.out.1 wr A3 c3 A4 c4 (k25.K_below HB.out HK.out)).mono ?_
      rintro e w5 ⟨hb5, kvv, rfl, hrv⟩
      obtain ⟨B5, b5, rfl, hb5l, hC5⟩ := Kd.R_reads hrv
      have H6 := Aside0.mk (And.intro (HB.out.trans (hb5.mono HB.out.size)) (And.intro ((hb5.block _ (lt_of_block HXV.out)).trans HXV.out) (And.intro (Kd.C_below H5.out.2.1 hb5) (And.intro hC5 hb5l))))
      clear hb5 hrv hb5l hC5 HXV' cr0 cr1 cr2 cr3 cr4 zr0 zr1 zr2 zr3 zr4
      have HX6 := Aside0.mk H6.out.2.1
      have cr0 := (cell_of_block (i := 0) HX6.out).trans (show _ = some _ from rfl); have cr1 := (cell_of_block (i := 1) HX6.out).trans (show _ = some _ from rfl); have cr2 := (cell_of_block (i := 2) HX6.out).trans (show _ = some _ from rfl); have cr3 := (cell_of_block (i := 3) HX6.out).trans (show _ = some _ from rfl); have cr4 := (cell_of_block (i := 4) HX6.out).trans (show _ = some _ from rfl); have zr0 := frozen_of_block (i := 0) HX6.out; have zr1 := frozen_of_block (i := 1) HX6.out; have zr2 := frozen_of_block (i := 2) HX6.out; have zr3 := frozen_of_block (i := 3) HX6.out; have zr4 := frozen_of_block (i := 4) HX6.out
      go_wp2_with fail
      refine (key_calls x HT.out.2 HT.out.1 w5 A3 c3 A4 c4 (k25.K_below H6.out.1 HK.out)).mono ?_
      rintro e w6 ⟨rfl, hb6⟩
      have hall : x.f4.all (has nameB) = true := by rw [List.all_eq_true]; exact fun y hy => (HN.out y hy).1
      have hko : keyOf x = nameB := by unfold keyOf; rw [hall]; rfl
      rw [hall, hko]
      have H7 := Aside0.mk (And.intro (H6.out.1.trans (hb6.mono H6.out.1.size)) (And.intro (Kd.C_below H6.out.2.2.1 hb6) (Kd.C_below H6.out.2.2.2.1 hb6)))
      clear hb6 hall hko HX6 cr0 cr1 cr2 cr3 cr4 zr0 zr1 zr2 zr3 zr4
      go_wp2_with fail
      refine (lsame_calls ts w6 B5 b5 A c H7.out.2.2 H6.out.2.2.2.2 H7.out.2.1 H5.out.2.2).mono ?_
      rintro e w7 ⟨rfl, ⟨⟨n1, rfl⟩⟩⟩
      go_wp2
      go_ret
      exact ⟨rfl, pw_below_drewN H7.out.1 n1⟩
theorem names_law (w : World) (x : S25) (hz : Sz x) (A3 : Option Addr) (c3 : Nat) (A4 : Option Addr) (c4 : Nat)
    (hK : k25.K w x [.int .i64 x.f0, .string x.f1, .string x.f2, .slice A3 x.f3.length c3, .slice A4 x.f4.length c4]) :
    Calls Try.prog 5 #[.agg #[.int .i64 x.f0, .string x.f1, .string x.f2, .slice A3 x.f3.length c3, .slice A4 x.f4.length c4]] w fun e w' => e = .returned (.bool true) ∧ Below w.heap.size w w' :=
  nameslaw_calls x hz w A3 c3 A4 c4 hK
end Go.Proofs.Ytigpgkfgkjabmaa
