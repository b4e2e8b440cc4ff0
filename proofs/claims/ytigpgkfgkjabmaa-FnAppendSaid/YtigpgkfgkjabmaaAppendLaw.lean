/-
  laws.FnAppend: elements are put behind those of a list, and are told in order.
-/
import Derived.Test.YtigpgkfgkjabmaaAppendI
import Derived.Test.YtigpgkfgkjabmaaElemB
import Derived.Test.YtigpgkfgkjabmaaSame
namespace Go.Proofs.Ytigpgkfgkjabmaa
open Go.RowKit Go.Proofs.YtigpgkfgkjabmaaW.PrintWords Go.Proofs.YtigpgkfgkjabmaaW.PrintLast Go.Proofs.Ytigpgkfgkjabmaa.PFnFields
set_option linter.unusedVariables false
set_option linter.unusedSimpArgs false

def LawPostA (w : World) (e : Ending) (w' : World) : Prop := e = .returned (.bool true) ∧ Below w.heap.size w w'
set_option maxRecDepth 100000 in
set_option maxHeartbeats 3200000 in
theorem appendlaw_calls (x : S25) (hz : Sz x) (vs : List S25) (hzs : ∀ v ∈ vs, Sz v) (w : World) (A3 : Option Addr) (c3 : Nat) (A4 : Option Addr) (c4 : Nat) (hK : nodeK w x A3 c3 A4 c4) (V : Option Addr) (vc : Nat) (hV : k25.C w V vs.length vs) :
    Calls Try.prog 8 #[nodeV x A3 c3 A4 c4, .slice V vs.length vc] w (LawPostA w) := by
  have hu := Try.underlying25
  have hvm : vs.length ≤ 9223372036854775807 := hV.2.1
  have HK := Aside0.mk (And.intro hK hV)
  have HZ := Aside0.mk (And.intro hz hzs)
  clear hK hV hz hzs
  go_enter Try.func8, Try.ntmps8
  go_wp2_with fail
  refine (fits1_calls x _ A3 c3 A4 c4 (k25.K_below ((Below.refl _ _).alloc (Nat.le_refl _) _) HK.out.1)).mono ?_
  rintro e w1 ⟨r, rfl, hb1, _⟩
  have hx1 : inVar w1 w.heap.size x A3 c3 A4 c4 := (hb1.block _ (by simp)).trans (heap_at _ rfl)
  have HB1 := Aside0.mk (((Below.refl w.heap.size w).alloc (Nat.le_refl _) _).trans (hb1.mono (by simp)))
  have HX1 := Aside0.mk hx1
  clear hb1 hx1
  cases r
  · go_wp2
    go_ret
    exact ⟨rfl, HB1.out⟩
  have cr0 := (cell_of_block (i := 0) HX1.out).trans (show _ = some _ from rfl); have cr1 := (cell_of_block (i := 1) HX1.out).trans (show _ = some _ from rfl); have cr2 := (cell_of_block (i := 2) HX1.out).trans (show _ = some _ from rfl); have cr3 := (cell_of_block (i := 3) HX1.out).trans (show _ = some _ from rfl); have cr4 := (cell_of_block (i := 4) HX1.out).trans (show _ = some _ from rfl); have zr0 := frozen_of_block (i := 0) HX1.out; have zr1 := frozen_of_block (i := 1) HX1.out; have zr2 := frozen_of_block (i := 2) HX1.out; have zr3 := frozen_of_block (i := 3) HX1.out; have zr4 := frozen_of_block (i := 4) HX1.out
  go_wp2_with fail
  · go_ret
    exact ⟨rfl, HB1.out⟩
  refine (isList_calls x w1 A3 c3 A4 c4 (k25.K_below HB1.out HK.out.1) HZ.out.1).mono ?_
  rintro e w2 ⟨r, rfl, hb2, htree⟩
  have hx2 : inVar w2 w.heap.size x A3 c3 A4 c4 := (hb2.block _ (lt_of_block HX1.out)).trans HX1.out
  have HB2 := Aside0.mk (HB1.out.trans (hb2.mono HB1.out.size))
  have HX2 := Aside0.mk hx2
  clear hb2 hx2 cr0 cr1 cr2 cr3 cr4 zr0 zr1 zr2 zr3 zr4 HB1 HX1
  cases r
  · clear htree
    go_wp2
    go_ret
    exact ⟨rfl, HB2.out⟩
  have HT := Aside0.mk (htree rfl)
  clear htree
  have hg4 : k25.C w A4 x.f4.length x.f4 := by
    obtain ⟨_, _, _, _, he, l3, g3, l4, g4⟩ := k25_open HK.out.1
    simp only [List.cons.injEq, Value.slice.injEq, true_and, and_true] at he
    obtain ⟨⟨rfl, rfl⟩, rfl, rfl⟩ := he
    exact g4
  have HG := Aside0.mk hg4
  have hxl : x.f4.length ≤ 60 := by
    have h1 := HT.out.2.1.len (d := 5)
    have h2 : nodes (5 + 1) x ≤ 60 := HT.out.2.2
    omega
  have HXL := Aside0.mk hxl
  clear hg4 hxl
  by_cases hlen : 1 ≤ vs.length ∧ vs.length ≤ 10
  rotate_left
  · have cr0 := (cell_of_block (i := 0) HX2.out).trans (show _ = some _ from rfl); have cr1 := (cell_of_block (i := 1) HX2.out).trans (show _ = some _ from rfl); have cr2 := (cell_of_block (i := 2) HX2.out).trans (show _ = some _ from rfl); have cr3 := (cell_of_block (i := 3) HX2.out).trans (show _ = some _ from rfl); have cr4 := (cell_of_block (i := 4) HX2.out).trans (show _ = some _ from rfl); have zr0 := frozen_of_block (i := 0) HX2.out; have zr1 := frozen_of_block (i := 1) HX2.out; have zr2 := frozen_of_block (i := 2) HX2.out; have zr3 := frozen_of_block (i := 3) HX2.out; have zr4 := frozen_of_block (i := 4) HX2.out
    go_wp2_with fail
    all_goals (go_ret; exact ⟨rfl, HB2.out⟩)
  have hd1 : decide ((vs.length : Int) < 1) = false := by simp; omega
  have hd2 : decide (10 < (vs.length : Int)) = false := by simp; omega
  have HLEN := Aside0.mk hlen
  have hl2 := lt_of_block HX2.out
  have cx4 : ∀ o : Obj, (w2.alloc o).cell? ⟨w.heap.size, 4, none⟩ = some (.slice A4 x.f4.length c4) := fun o => by
    rw [World.cell?_alloc_lt _ _ _ hl2, cell_of_block HX2.out]
    rfl
  have cr0 := (cell_of_block (i := 0) HX2.out).trans (show _ = some _ from rfl); have cr1 := (cell_of_block (i := 1) HX2.out).trans (show _ = some _ from rfl); have cr2 := (cell_of_block (i := 2) HX2.out).trans (show _ = some _ from rfl); have cr3 := (cell_of_block (i := 3) HX2.out).trans (show _ = some _ from rfl); have cr4 := (cell_of_block (i := 4) HX2.out).trans (show _ = some _ from rfl); have zr0 := frozen_of_block (i := 0) HX2.out; have zr1 := frozen_of_block (i := 1) HX2.out; have zr2 := frozen_of_block (i := 2) HX2.out; have zr3 := frozen_of_block (i := 3) HX2.out; have zr4 := frozen_of_block (i := 4) HX2.out
  have hb3 : Below w2.heap.size w2 (w2.alloc (.cells #[] 25)) := (Below.refl _ _).alloc (Nat.le_refl _) _
  have hbw3 : Below w.heap.size w (w2.alloc (.cells #[] 25)) := HB2.out.trans (hb3.mono HB2.out.size)
  go_wp2_with ((with_reducible refine gate_builtin (b := .append) (xs := #[.tmp 33, .tmp 35]) rfl ?_); at_builtin; (refine Kd.R_append_rows (Kd.fixed k25 w) (Rr := (Kd.fixed k25 w).K (w2.alloc (.cells #[] 25))) (w0 := w2) w2.heap.size rfl (.tmp 33) (.tmp 35) 23 25 (.agg #[.int .i64 0, .string ⟨#[]⟩, .string ⟨#[]⟩, .slice none 0 0, .slice none 0 0]) 88 rfl Try.underlying23 Try.infoNode rfl (by show 0 < 5; decide) (by decide) (.slice (some ⟨w2.heap.size, 0, none⟩) 0 0) [] x.f4 A4 x.f4.length c4 (fun _ => True) (fun _ => False) rfl rfl (R_empty _ (heap_at _ rfl) (Nat.le_refl _) trivial) (show ReadsRow ((Kd.fixed k25 w).K _) 5 _ A4 x.f4.length x.f4 from C_to_fixed hbw3 HG.out) (fun _ _ h => h) (fun _ h => h.elim) (fun _ _ => trivial) hb3 hb3.size (by have := HXL.out; simp; omega) ?_); (intro v1 w4 hr4 hb4 hg4 hat4); (obtain ⟨B1, d1, rfl, _, _⟩ := Kd.R_reads (xs := x.f4) hr4); (have HR4 := Aside0.mk (And.intro hr4 hb4)); clear hr4 hb4 hg4 hat4)
  obtain ⟨w5, e5⟩ : ∃ w5, w5 = w4.alloc (.cells #[.int .i64 3, .string ⟨#[]⟩, .string ⟨#[]⟩, .slice none 0 0, .slice B1 x.f4.length d1] 25) := ⟨_, rfl⟩
  rw [← e5]
  have hob5 : w5.heap[w4.heap.size]? = some (.cells #[.int .i64 3, .string ⟨#[]⟩, .string ⟨#[]⟩, .slice none 0 0, .slice B1 x.f4.length d1] 25 (0, 0)) := by rw [e5]; exact heap_at _ rfl
  have hb5 : Below w4.heap.size w4 w5 := by rw [e5]; exact (Below.refl _ _).alloc (Nat.le_refl _) _
  have hr5 : (Kd.fixed k25 w).R 25 w5 w2.heap.size (fun k => k ≠ w4.heap.size) (.slice B1 x.f4.length d1) x.f4 := R_upd (Kd.R_mono (Kd.R_bound HR4.out.1) (fun k hk => by have := hk.2.2.1; omega)) (fun k _ _ hk => hb5.block k hk)
  obtain ⟨ob, hob⟩ : ∃ ob, ob = w4.heap.size := ⟨_, rfl⟩
  have hb24 : Below w2.heap.size w2 w5 := HR4.out.2.trans (hb5.mono HR4.out.2.size)
  have hs24 := HR4.out.2.size
  rw [← hob] at hob5 hr5 hs24 ⊢
  have HX5 := Aside0.mk ((hb24.block _ hl2).trans HX2.out)
  have HB5 := Aside0.mk (And.intro (HB2.out.trans (hb24.mono HB2.out.size)) (And.intro hs24 HB2.out.size))
  have HOB5 := Aside0.mk hob5
  have HR5 := Aside0.mk hr5
  clear hob5 hr5 hb24 hs24 hb5 e5 cx4 hl2 hb3 hbw3 hd1 hd2 hlen cr0 cr1 cr2 cr3 cr4 zr0 zr1 zr2 zr3 zr4 hob HR4
  go_loopg [40] vs.length (fun k i wr => ∃ (j : Nat) (B : Option Addr) (n d : Nat), i = .int .i64 j ∧ Aside0 (j ≤ vs.length ∧ k + j = vs.length ∧ n = x.f4.length + j) ∧ Aside0 (Below w.heap.size w wr ∧ wr.heap[w.heap.size]? = w5.heap[w.heap.size]?) ∧ Aside0 (wr.heap[ob]? = some (.cells #[.int .i64 3, .string ⟨#[]⟩, .string ⟨#[]⟩, .slice none 0 0, .slice B n d] 25 (0, 0))) ∧
    Aside0 ((Kd.fixed k25 w).R 25 wr w2.heap.size (fun k => k ≠ ob) (.slice B n d) (x.f4 ++ vs.take j)) ∧ Aside0 (∀ v ∈ vs.take j, Tree v))
  case atStart => exact ⟨0, B1, x.f4.length, d1, rfl, ⟨by simp⟩, ⟨HB5.out.1, rfl⟩, HOB5, ⟨by simpa using HR5.out⟩, ⟨by simp⟩⟩
  case round =>
    obtain ⟨j, B, n, d, rfl, HJ, HB, HO, HR, HTR⟩ := hrel
    have hq0 : (0 : Int) ≤ (j : Int) := Int.natCast_nonneg _
    have hq1 : (j : Int) ≤ 4000 := by have := HJ.out; have := HLEN.out; omega
    by_cases hj : j < vs.length
    · have hjd : decide ((j : Int) < (vs.length : Int)) = true := by simp; omega
      generalize hyy : vs.getD j z25 = yy
      obtain ⟨am, P3, p3, P4, p4, e6, hKp, fp0, fp1, fp2, fp3, fp4⟩ := nodeAt HK.out.2 j hj yy hyy
      subst e6
      have old : ∀ {a : Addr} {v : Value}, w.cell? a = some v → wr.cell? a = some v := fun {a v} h => (HB.out.1.cell (World.block_lt_of_cell? w a h)).trans h
      have d0 := old fp0
      have d1 := old fp1
      have d2 := old fp2
      have d3 := old fp3
      have d4 := old fp4
      have hym : yy ∈ vs := by rw [← hyy, List.getD_eq_getElem?_getD, List.getElem?_eq_getElem hj]; exact List.getElem_mem _
      have hyt : vs.take (j + 1) = vs.take j ++ [yy] := by rw [List.take_succ_eq_append_getElem hj, ← hyy, List.getD_eq_getElem?_getD, List.getElem?_eq_getElem hj]; rfl
      have HY := Aside0.mk (And.intro hKp (And.intro (HZ.out.2 yy hym) hyt))
      clear hyy hKp fp0 fp1 fp2 fp3 fp4 old hym hyt
      go_wp2_with fail
      obtain ⟨w6, e6⟩ : ∃ w6, w6 = wr.alloc (.cells #[.int .i64 yy.f0, .string yy.f1, .string yy.f2, .slice P3 yy.f3.length p3, .slice P4 yy.f4.length p4] 25) := ⟨_, rfl⟩
      rw [← e6]
      have hv6 : inVar w6 wr.heap.size yy P3 p3 P4 p4 := by rw [e6]; exact heap_at _ rfl
      have hb6 : Below wr.heap.size wr w6 := by rw [e6]; exact (Below.refl _ _).alloc (Nat.le_refl _) _
      have HV6 := Aside0.mk (And.intro hv6 hb6)
      clear hv6 hb6 e6 d0 d1 d2 d3 d4
      refine (isTree_calls yy w6 P3 p3 P4 p4 (k25.K_below (HB.out.1.trans (HV6.out.2.mono HB.out.1.size)) HY.out.1) HY.out.2.1).mono ?_
      rintro e w7 ⟨r, rfl, hb7, htr⟩
      have hb67 : Below wr.heap.size wr w7 := HV6.out.2.trans (hb7.mono HV6.out.2.size)
      have H7 := Aside0.mk (And.intro (HB.out.1.trans (hb67.mono HB.out.1.size)) (And.intro ((hb67.block _ (lt_of_block HO.out)).trans HO.out) (And.intro ((hb7.block _ (lt_of_block HV6.out.1)).trans HV6.out.1) (And.intro (R_upd (w1 := w7) HR.out (fun k _ _ hk => hb67.block k hk)) hb67))))
      clear hb7 hb67 HV6
      cases r
      · clear htr
        go_wp2
        go_ret
        exact ⟨rfl, H7.out.1⟩
      have HTY := Aside0.mk (htr rfl)
      clear htr
      have HQV := Aside0.mk H7.out.2.2.1
      have HQO := Aside0.mk H7.out.2.1
      have cv0 := (cell_of_block (i := 0) HQV.out).trans (show _ = some _ from rfl); have cv1 := (cell_of_block (i := 1) HQV.out).trans (show _ = some _ from rfl); have cv2 := (cell_of_block (i := 2) HQV.out).trans (show _ = some _ from rfl); have cv3 := (cell_of_block (i := 3) HQV.out).trans (show _ = some _ from rfl); have cv4 := (cell_of_block (i := 4) HQV.out).trans (show _ = some _ from rfl); have zv0 := frozen_of_block (i := 0) HQV.out; have zv1 := frozen_of_block (i := 1) HQV.out; have zv2 := frozen_of_block (i := 2) HQV.out; have zv3 := frozen_of_block (i := 3) HQV.out; have zv4 := frozen_of_block (i := 4) HQV.out
      have co0 := (cell_of_block (i := 0) HQO.out).trans (show _ = some _ from rfl); have co1 := (cell_of_block (i := 1) HQO.out).trans (show _ = some _ from rfl); have co2 := (cell_of_block (i := 2) HQO.out).trans (show _ = some _ from rfl); have co3 := (cell_of_block (i := 3) HQO.out).trans (show _ = some _ from rfl); have co4 := (cell_of_block (i := 4) HQO.out).trans (show _ = some _ from rfl); have zo0 := frozen_of_block (i := 0) HQO.out; have zo1 := frozen_of_block (i := 1) HQO.out; have zo2 := frozen_of_block (i := 2) HQO.out; have zo3 := frozen_of_block (i := 3) HQO.out; have zo4 := frozen_of_block (i := 4) HQO.out
      have hvl := lt_of_block H7.out.2.1
      obtain ⟨w8, e8⟩ : ∃ w8, w8 = w7.alloc (.cells #[.int .i64 yy.f0, .string yy.f1, .string yy.f2, .slice P3 yy.f3.length p3, .slice P4 yy.f4.length p4] 25) := ⟨_, rfl⟩
      have hb8 : Below w7.heap.size w7 w8 := by rw [e8]; exact (Below.refl _ _).alloc (Nat.le_refl _) _
      have hn8 : w8.heap[w7.heap.size]? = some (.cells #[.int .i64 yy.f0, .string yy.f1, .string yy.f2, .slice P3 yy.f3.length p3, .slice P4 yy.f4.length p4] 25 (0, 0)) := by rw [e8]; exact heap_at _ rfl
      have hr8 := R_upd (w1 := w8) H7.out.2.2.2.1 (fun k _ _ hk => hb8.block k hk)
      have H8 := Aside0.mk (And.intro hb8 (And.intro hn8 hr8))
      clear hb8 hn8 hr8
      have hwb : w2.heap.size ≤ w7.heap.size := by have := HB5.out.2.1; omega
      go_wp2_with ((with_reducible refine gate_builtin (b := .append) (xs := #[.tmp 48, .tmp 50]) rfl ?_); at_builtin; rw [← e8]; (refine Kd.R_append_rows (Kd.fixed k25 w) (Rr := (Kd.fixed k25 w).K w8) (w0 := w7) w2.heap.size rfl (.tmp 48) (.tmp 50) 23 25 (.agg #[.int .i64 0, .string ⟨#[]⟩, .string ⟨#[]⟩, .slice none 0 0, .slice none 0 0]) 88 rfl Try.underlying23 Try.infoNode rfl (by show 0 < 5; decide) (by decide) (.slice B n d) (x.f4 ++ vs.take j) [yy] (some ⟨w7.heap.size, 0, none⟩) 1 1 (fun k => k ≠ ob) (fun _ => False) rfl rfl H8.out.2.2 (show ReadsRow ((Kd.fixed k25 w).K w8) 5 w8 (some ⟨w7.heap.size, 0, none⟩) 1 [yy] from one_nodeF H8.out.2.1 HY.out.1) (fun _ _ h => h) (fun _ h => h.elim) (fun k hk => by have := H8.out.1.size; omega) (H8.out.1.mono hwb) (Nat.le_trans hwb H8.out.1.size) (by have := HXL.out; have := HLEN.out; have := HJ.out; simp; omega) ?_); (intro v1 w9 hr9 hb9 hg9 hat9); (obtain ⟨B9, d9, rfl, _, _⟩ := Kd.R_reads hr9); (have HO9 := Aside0.mk ((hg9.block ob (Nat.lt_of_lt_of_le hvl H8.out.1.size) (fun e => (R_own H8.out.2.2 ob e.symm).2.2 rfl)).trans ((H8.out.1.block ob hvl).trans H7.out.2.1))); (have HR9 := Aside0.mk (And.intro hr9 (And.intro hb9 hg9))); clear hr9 hb9 hg9 hat9 co0 co1 co2 co3 co4 zo0 zo1 zo2 zo3 zo4; have co0 := (cell_of_block (i := 0) HO9.out).trans (show _ = some _ from rfl); have co1 := (cell_of_block (i := 1) HO9.out).trans (show _ = some _ from rfl); have co2 := (cell_of_block (i := 2) HO9.out).trans (show _ = some _ from rfl); have co3 := (cell_of_block (i := 3) HO9.out).trans (show _ = some _ from rfl); have co4 := (cell_of_block (i := 4) HO9.out).trans (show _ = some _ from rfl); have zo0 := frozen_of_block (i := 0) HO9.out; have zo1 := frozen_of_block (i := 1) HO9.out; have zo2 := frozen_of_block (i := 2) HO9.out; have zo3 := frozen_of_block (i := 3) HO9.out; have zo4 := frozen_of_block (i := 4) HO9.out)
      have hn9 : x.f4.length + (min j vs.length + 1) = (x.f4 ++ vs.take j ++ [yy]).length := by simp
      rw [hn9]
      have hO10 := heap_set (w := w9) (a := ⟨ob, 4, none⟩) (v := .slice B9 (x.f4 ++ vs.take j ++ [yy]).length d9) HO9.out rfl
      have hn10 : ∀ k, k ≠ ob → (w9.setCell ⟨ob, 4, none⟩ (.slice B9 (x.f4 ++ vs.take j ++ [yy]).length d9)).heap[k]? = w9.heap[k]? := fun k hk => heap_set_ne hk
      have hc10 : Chg (fun k => k = ob) w9 (w9.setCell ⟨ob, 4, none⟩ (.slice B9 (x.f4 ++ vs.take j ++ [yy]).length d9)) := (Chg.refl (fun k => k = ob) w9).setCell (p := ⟨ob, 4, none⟩) (.inl rfl) _
      generalize w9.setCell ⟨ob, 4, none⟩ (.slice B9 (x.f4 ++ vs.take j ++ [yy]).length d9) = w10 at hO10 hn10 hc10 ⊢
      have H10 := Aside0.mk (And.intro hO10 (And.intro hn10 hc10))
      clear hO10 hn10 hc10 hn9 hwb hvl co0 co1 co2 co3 co4 zo0 zo1 zo2 zo3 zo4 cv0 cv1 cv2 cv3 cv4 zv0 zv1 zv2 zv3 zv4
      go_roundg (gk - 1)
      case measure => have := HJ.out; omega
      case rel =>
        have hob2 := HB5.out.2
        have hl2 := lt_of_block HX2.out
        have hb7w := HR9.out.2.1.mono HB5.out.2.2
        have hb9 : Below w.heap.size w w9 := H7.out.1.trans hb7w
        refine ⟨j + 1, B9, (x.f4 ++ vs.take j ++ [yy]).length, d9, by go_num, ⟨by have := HJ.out; simp; omega⟩, ⟨hb9.trans (H10.out.2.2.below hb9.size (fun k e => by omega)), ?_⟩, ⟨H10.out.1⟩, ⟨?_⟩, ⟨?_⟩⟩
        · exact (H10.out.2.1 _ (by omega)).trans ((HR9.out.2.1.block _ hl2).trans ((H7.out.2.2.2.2.block _ (by have := HB.out.1.size; have := lt_of_block (HB.out.2.trans HX5.out); omega)).trans HB.out.2))
        · rw [HY.out.2.2, ← List.append_assoc]
          exact R_upd HR9.out.1 (fun k hk _ _ => H10.out.2.1 k hk)
        · intro v hv
          rw [HY.out.2.2] at hv
          rcases List.mem_append.1 hv with h | h
          · exact HTR.out v h
          · rw [List.mem_singleton.1 h]; exact HTY.out
    · have hje : j = vs.length := by have := HJ.out; omega
      have hjd : decide ((j : Int) < (vs.length : Int)) = false := by simp; omega
      have hR := HR.out
      rw [List.take_of_length_le (show vs.length ≤ j by omega)] at hR
      have hTR := HTR.out
      rw [List.take_of_length_le (show vs.length ≤ j by omega)] at hTR
      obtain ⟨hn, hnd, hC⟩ := Kd.R_reads' hR
      subst hn
      have hk : nodeK wr (lw x vs) none 0 B d := k25_mk wr (lw x vs) (Nat.le_refl 0) (Kd.C_nil _ _) hnd (C_of_fixed HB.out.1 hC)
      have ho : inVar wr ob (lw x vs) none 0 B d := HO.out
      have hsz : Sz (lw x vs) := Sz.mk _ (Nat.zero_le _) (Nat.zero_le _) (by simp [lw]) (fun y hy => by
        cases HZ.out.1 with
        | mk _ _ _ _ h4 => exact (List.mem_append.1 (show y ∈ x.f4 ++ vs from hy)).elim (h4 y) (HZ.out.2 y))
      have HKW := Aside0.mk (And.intro hk (And.intro hsz hTR))
      have HOW := Aside0.mk ho
      have HXW := Aside0.mk (HB.out.2.trans HX5.out)
      clear hje hR hTR hnd hC hk ho hsz HR HO
      have co0 := (cell_of_block (i := 0) HOW.out).trans (show _ = some _ from rfl); have co1 := (cell_of_block (i := 1) HOW.out).trans (show _ = some _ from rfl); have co2 := (cell_of_block (i := 2) HOW.out).trans (show _ = some _ from rfl); have co3 := (cell_of_block (i := 3) HOW.out).trans (show _ = some _ from rfl); have co4 := (cell_of_block (i := 4) HOW.out).trans (show _ = some _ from rfl); have zo0 := frozen_of_block (i := 0) HOW.out; have zo1 := frozen_of_block (i := 1) HOW.out; have zo2 := frozen_of_block (i := 2) HOW.out; have zo3 := frozen_of_block (i := 3) HOW.out; have zo4 := frozen_of_block (i := 4) HOW.out
      go_wp2_with fail
      refine (isTree_calls (lw x vs) wr none 0 B d HKW.out.1 HKW.out.2.1).mono ?_
      rintro e w6 ⟨r, rfl, hb6, htw⟩
      have H6 := Aside0.mk (And.intro (HB.out.1.trans (hb6.mono HB.out.1.size)) (And.intro ((hb6.block _ (lt_of_block HXW.out)).trans HXW.out) (And.intro ((hb6.block _ (lt_of_block HOW.out)).trans HOW.out) (k25.K_below hb6 HKW.out.1))))
      clear hb6 co0 co1 co2 co3 co4 zo0 zo1 zo2 zo3 zo4
      cases r
      · clear htw
        go_wp2
        go_ret
        exact ⟨rfl, H6.out.1⟩
      have HTW := Aside0.mk (htw rfl)
      clear htw HXW HOW
      have HXW := Aside0.mk H6.out.2.1
      have cr0 := (cell_of_block (i := 0) HXW.out).trans (show _ = some _ from rfl); have cr1 := (cell_of_block (i := 1) HXW.out).trans (show _ = some _ from rfl); have cr2 := (cell_of_block (i := 2) HXW.out).trans (show _ = some _ from rfl); have cr3 := (cell_of_block (i := 3) HXW.out).trans (show _ = some _ from rfl); have cr4 := (cell_of_block (i := 4) HXW.out).trans (show _ = some _ from rfl); have zr0 := frozen_of_block (i := 0) HXW.out; have zr1 := frozen_of_block (i := 1) HXW.out; have zr2 := frozen_of_block (i := 2) HXW.out; have zr3 := frozen_of_block (i := 3) HXW.out; have zr4 := frozen_of_block (i := 4) HXW.out
      go_wp2_with fail
      refine (iappend_calls x vs HT.out.2 HT.out.1 HKW.out.2.2 HLEN.out.1 HLEN.out.2 HTW.out w6 A3 c3 A4 c4 (k25.K_below H6.out.1 HK.out.1) V vc (Kd.C_below HK.out.2 H6.out.1)).mono ?_
      rintro e w7 ⟨E3, f3, E4, f4, rfl, hk7, hb7⟩
      have H7 := Aside0.mk (And.intro (H6.out.1.trans (hb7.mono H6.out.1.size)) (And.intro ((hb7.block _ (lt_of_block H6.out.2.2.1)).trans H6.out.2.2.1) (And.intro (k25.K_below hb7 H6.out.2.2.2) hk7)))
      clear hb7 hk7 cr0 cr1 cr2 cr3 cr4 zr0 zr1 zr2 zr3 zr4 HXW
      have HOW := Aside0.mk H7.out.2.1
      have co0 := (cell_of_block (i := 0) HOW.out).trans (show _ = some _ from rfl); have co1 := (cell_of_block (i := 1) HOW.out).trans (show _ = some _ from rfl); have co2 := (cell_of_block (i := 2) HOW.out).trans (show _ = some _ from rfl); have co3 := (cell_of_block (i := 3) HOW.out).trans (show _ = some _ from rfl); have co4 := (cell_of_block (i := 4) HOW.out).trans (show _ = some _ from rfl); have zo0 := frozen_of_block (i := 0) HOW.out; have zo1 := frozen_of_block (i := 1) HOW.out; have zo2 := frozen_of_block (i := 2) HOW.out; have zo3 := frozen_of_block (i := 3) HOW.out; have zo4 := frozen_of_block (i := 4) HOW.out
      have hl7 := lt_of_block HOW.out
      have ca : ∀ q : Obj, (w7.alloc q).cell? ⟨ob, 0, none⟩ = some (.int .i64 (lw x vs).f0) ∧ (w7.alloc q).cell? ⟨ob, 1, none⟩ = some (.string (lw x vs).f1) ∧ (w7.alloc q).cell? ⟨ob, 2, none⟩ = some (.string (lw x vs).f2) ∧ (w7.alloc q).cell? ⟨ob, 3, none⟩ = some (.slice none (lw x vs).f3.length 0) ∧ (w7.alloc q).cell? ⟨ob, 4, none⟩ = some (.slice B (lw x vs).f4.length d) := fun q => by
        refine ⟨?_, ?_, ?_, ?_, ?_⟩ <;> (rw [World.cell?_alloc_lt _ _ _ hl7]; assumption)
      go_wp2_with fail
      obtain ⟨w8, e8⟩ : ∃ w8, w8 = w7.alloc (.cells #[.int .i64 (lw x vs).f0, .string (lw x vs).f1, .string (lw x vs).f2, .slice E3 (lw x vs).f3.length f3, .slice E4 (lw x vs).f4.length f4] 25) := ⟨_, rfl⟩
      try rw [← e8]
      have hb8 : Below w7.heap.size w7 w8 := by rw [e8]; exact (Below.refl _ _).alloc (Nat.le_refl _) _
      have hg8 : inVar w8 w7.heap.size (lw x vs) E3 f3 E4 f4 := by rw [e8]; exact heap_at _ rfl
      have H8 := Aside0.mk (And.intro (H7.out.1.trans (hb8.mono H7.out.1.size)) (And.intro ((hb8.block _ hl7).trans H7.out.2.1) (And.intro (k25.K_below hb8 H7.out.2.2.1) (And.intro (k25.K_below hb8 H7.out.2.2.2) hg8))))
      clear hb8 hg8 e8 ca hl7 co0 co1 co2 co3 co4 zo0 zo1 zo2 zo3 zo4 HOW
      refine (elements_calls (lw x vs) HTW.out rfl w8 none 0 B d H8.out.2.2.1).mono ?_
      rintro e w9 ⟨hb9, iv, rfl, hr9⟩
      obtain ⟨I, ic, rfl, hic, hIC⟩ := Kd.R_reads hr9
      have H9 := Aside0.mk (And.intro (H8.out.1.trans (hb9.mono H8.out.1.size)) (And.intro ((hb9.block _ (lt_of_block H8.out.2.1)).trans H8.out.2.1) (And.intro (k25.K_below hb9 H8.out.2.2.1) (And.intro (k25.K_below hb9 H8.out.2.2.2.1) (And.intro ((hb9.block _ (lt_of_block H8.out.2.2.2.2)).trans H8.out.2.2.2.2) (k25_mk w9 (lw x vs) (Nat.le_refl 0) (Kd.C_nil _ _) hic hIC : nodeK w9 (lw x vs) none 0 I ic))))))
      clear hb9 hr9 hic hIC
      have HOW := Aside0.mk H9.out.2.1
      have HGW := Aside0.mk H9.out.2.2.2.2.1
      have co0 := (cell_of_block (i := 0) HOW.out).trans (show _ = some _ from rfl); have co1 := (cell_of_block (i := 1) HOW.out).trans (show _ = some _ from rfl); have co2 := (cell_of_block (i := 2) HOW.out).trans (show _ = some _ from rfl); have co3 := (cell_of_block (i := 3) HOW.out).trans (show _ = some _ from rfl); have co4 := (cell_of_block (i := 4) HOW.out).trans (show _ = some _ from rfl); have zo0 := frozen_of_block (i := 0) HOW.out; have zo1 := frozen_of_block (i := 1) HOW.out; have zo2 := frozen_of_block (i := 2) HOW.out; have zo3 := frozen_of_block (i := 3) HOW.out; have zo4 := frozen_of_block (i := 4) HOW.out
      have cg0 := (cell_of_block (i := 0) HGW.out).trans (show _ = some _ from rfl); have cg1 := (cell_of_block (i := 1) HGW.out).trans (show _ = some _ from rfl); have cg2 := (cell_of_block (i := 2) HGW.out).trans (show _ = some _ from rfl); have cg3 := (cell_of_block (i := 3) HGW.out).trans (show _ = some _ from rfl); have cg4 := (cell_of_block (i := 4) HGW.out).trans (show _ = some _ from rfl); have zg0 := frozen_of_block (i := 0) HGW.out; have zg1 := frozen_of_block (i := 1) HGW.out; have zg2 := frozen_of_block (i := 2) HGW.out; have zg3 := frozen_of_block (i := 3) HGW.out; have zg4 := frozen_of_block (i := 4) HGW.out
      go_wp2_with fail
      refine (same_calls (lw x vs) HTW.out false w9 E3 f3 E4 f4 none 0 B d H9.out.2.2.2.1 H9.out.2.2.1).mono ?_
      rintro e w10 ⟨rfl, hb10⟩
      have H10 := Aside0.mk (And.intro (H9.out.1.trans (hb10.mono H9.out.1.size)) (And.intro ((hb10.block _ (lt_of_block H9.out.2.1)).trans H9.out.2.1) (And.intro (k25.K_below hb10 H9.out.2.2.1) (k25.K_below hb10 H9.out.2.2.2.2.2))))
      clear hb10 co0 co1 co2 co3 co4 zo0 zo1 zo2 zo3 zo4 cg0 cg1 cg2 cg3 cg4 zg0 zg1 zg2 zg3 zg4 HOW HGW
      have HOW := Aside0.mk H10.out.2.1
      have co0 := (cell_of_block (i := 0) HOW.out).trans (show _ = some _ from rfl); have co1 := (cell_of_block (i := 1) HOW.out).trans (show _ = some _ from rfl); have co2 := (cell_of_block (i := 2) HOW.out).trans (show _ = some _ from rfl); have co3 := (cell_of_block (i := 3) HOW.out).trans (show _ = some _ from rfl); have co4 := (cell_of_block (i := 4) HOW.out).trans (show _ = some _ from rfl); have zo0 := frozen_of_block (i := 0) HOW.out; have zo1 := frozen_of_block (i := 1) HOW.out; have zo2 := frozen_of_block (i := 2) HOW.out; have zo3 := frozen_of_block (i := 3) HOW.out; have zo4 := frozen_of_block (i := 4) HOW.out
      go_wp2_with fail
      refine (same_calls (lw x vs) HTW.out false w10 none 0 I ic none 0 B d H10.out.2.2.2 H10.out.2.2.1).mono ?_
      rintro e w11 ⟨rfl, hb11⟩
      have HFIN := Aside0.mk (H10.out.1.trans (hb11.mono H10.out.1.size))
      clear hb11
      go_wp2
      go_ret
      exact ⟨rfl, HFIN.out⟩
theorem append_law (w : World) (x : S25) (hz : Sz x) (A3 : Option Addr) (c3 : Nat) (A4 : Option Addr) (c4 : Nat) (hK : nodeK w x A3 c3 A4 c4) (vs : List S25) (hzs : ∀ v ∈ vs, Sz v) (V : Option Addr) (vc : Nat) (hvc : vs.length ≤ vc) (hV : k25.C w V vs.length vs) :
    Calls Try.prog 8 #[nodeV x A3 c3 A4 c4, .slice V vs.length vc] w fun e w' => e = .returned (.bool true) ∧ Below w.heap.size w w' := appendlaw_calls x hz vs hzs w A3 c3 A4 c4 hK V vc hV
end Go.Proofs.Ytigpgkfgkjabmaa
