/-
  laws.FnClear: a key is taken away, and told with its value.
-/
import Derived.Test.YtigpgkfgkjabmaaClearI
namespace Go.Proofs.Ytigpgkfgkjabmaa
open Go.RowKit Go.Proofs.YtigpgkfgkjabmaaW.PrintWords Go.Proofs.YtigpgkfgkjabmaaW.PrintLast Go.Proofs.Ytigpgkfgkjabmaa.PFnFields
set_option linter.unusedVariables false
set_option linter.unusedSimpArgs false

theorem spField_tree {x : S25} (hx : Tree x) (h2 : x.f0 = 2) {nm : ByteArray} (h : has nm x = true) : Tree (spField x nm) := by
  obtain ⟨_, hm⟩ := has_iff.1 h
  obtain ⟨i, hpi, hi, hie⟩ := plc_pos x.f3 nm (plc_mem hm)
  have hlen := (hx.1.map (d := 5) h2).1
  have hj : x.f3[i]? = some nm := by rw [List.getElem?_eq_getElem hi, hie]
  rw [spField_at h2 (hx.1.map (d := 5) h2).2.1 hj (List.getElem?_eq_getElem (by omega))]
  exact hx.item (List.getElem_mem _)
theorem spField_zero {x : S25} {nm : ByteArray} (h : has nm x = false) : spField x nm = z25 := by
  unfold spField
  rw [if_neg (fun q => by rw [has_iff.2 ⟨q.1, plc_iff.1 q.2⟩] at h; cases h)]
def clearlaw7.T : Bool × List (List Nat × List Nat) := (true, [([], []), ([0], [0]), ([1], [1]), ([2], [2]), ([2], [2]), ([2], [2]), ([4, 5, 2, 2], [2, 4, 5]), ([3, 6, 6, 2], [2, 3, 6]), ([7, 2], [2, 7]), ([2, 8], [2, 8])])
def clearlaw7.B : List Nat := [0, 1, 3, 7, 7, 7, 55, 127, 255, 511]
theorem clearlaw7.tab : rtab .any (opsOf Try.f6 7) = clearlaw7.T := by kernel_rfl
theorem clearlaw7.bits : waitsOk clearlaw7.T.2 clearlaw7.B = true := by kernel_rfl
def LawPostC (w : World) (e : Ending) (w' : World) : Prop := e = .returned (.bool true) ∧ Below w.heap.size w w'
set_option maxRecDepth 100000 in
set_option maxHeartbeats 3200000 in
theorem clearlaw_calls (x : S25) (hz : Sz x) (nm : ByteArray) (hnm : nm.size ≤ 9223372036854775807) (w : World) (A3 : Option Addr) (c3 : Nat) (A4 : Option Addr) (c4 : Nat) (hK : nodeK w x A3 c3 A4 c4) :
    Calls Try.prog 6 #[nodeV x A3 c3 A4 c4, .string nm] w (LawPostC w) := by
  have hu := Try.underlying25
  have HK := Aside0.mk hK
  have HZ := Aside0.mk hz
  clear hK hz
  go_enter Try.func6, Try.ntmps6
  go_wp2_with fail
  refine (fits1_calls x _ A3 c3 A4 c4 (k25.K_below ((Below.refl _ _).alloc (Nat.le_refl _) _) HK.out)).mono ?_
  rintro e w1 ⟨r, rfl, hb1, _⟩
  have hx1 : inVar w1 w.heap.size x A3 c3 A4 c4 := (hb1.block _ (by simp)).trans (heap_at _ rfl)
  have HB1 := Aside0.mk (((Below.refl w.heap.size w).alloc (Nat.le_refl _) _).trans (hb1.mono (by simp)))
  have HX1 := Aside0.mk hx1
  clear hb1 hx1
  cases r
  · go_wp2
    go_ret
    exact ⟨rfl, HB1.out⟩
  have cr0 := (cell_of_block (i := 0) HX1.out).trans (show _ = some _ from rfl); have cr1 := (cell_of_block (i := 1) HX1.out).trans (show _ = some _ from rfl); have cr2 := (cell_of_block (i := 2) HX1.out).trans (show _ = some _ from rfl); have cr3 := (cell_of_block (i := 3) HX1.out).trans (show _ = some _ from rfl); have cr4 := (cell_of_block (i := 4) HX1.out).trans (show _ = some _ from rfl); have zr0 := frozen_of_block (i := 0) HX1.out; have zr1 := frozen_of_block (i := 1) HX1.out; have zr2 := frozen_of_block (i := 2) HX1.out; have zr3 := frozen_of_block (i := 3) HX1.out; have zr4 := frozen_of_block (i := 4) HX1.out
  go_wp2_with fail
  · go_ret
    exact ⟨rfl, HB1.out⟩
  refine (isMap_calls x w1 A3 c3 A4 c4 (k25.K_below HB1.out HK.out) HZ.out).mono ?_
  rintro e w2 ⟨r, rfl, hb2, htree⟩
  have hx2 : inVar w2 w.heap.size x A3 c3 A4 c4 := (hb2.block _ (lt_of_block HX1.out)).trans HX1.out
  have HB2 := Aside0.mk (HB1.out.trans (hb2.mono HB1.out.size))
  have HX2 := Aside0.mk hx2
  clear hb2 hx2 cr0 cr1 cr2 cr3 cr4 zr0 zr1 zr2 zr3 zr4 HB1 HX1
  cases r
  · clear htree
    go_wp2
    go_ret
    exact ⟨rfl, HB2.out⟩
  have HT := Aside0.mk (htree rfl)
  clear htree
  go_wp2_with fail
  refine (isWord_calls nm w2 hnm).mono ?_
  rintro e w3 ⟨r, rfl, hr, ⟨⟨n1, rfl⟩⟩⟩
  have hb2 : Below w2.heap.size w2 (w2.drewN n1) := pw_below_drewN (Below.refl _ _) n1
  generalize w2.drewN n1 = w3 at hb2 ⊢
  have HX3 := Aside0.mk ((hb2.block _ (lt_of_block HX2.out)).trans HX2.out)
  have HB3 := Aside0.mk (HB2.out.trans (hb2.mono HB2.out.size))
  clear hb2 HX2 HB2
  cases r
  · clear hr
    go_wp2
    go_ret
    exact ⟨rfl, HB3.out⟩
  have HW := Aside0.mk (hr rfl)
  clear hr
  have cr0 := (cell_of_block (i := 0) HX3.out).trans (show _ = some _ from rfl); have cr1 := (cell_of_block (i := 1) HX3.out).trans (show _ = some _ from rfl); have cr2 := (cell_of_block (i := 2) HX3.out).trans (show _ = some _ from rfl); have cr3 := (cell_of_block (i := 3) HX3.out).trans (show _ = some _ from rfl); have cr4 := (cell_of_block (i := 4) HX3.out).trans (show _ = some _ from rfl); have zr0 := frozen_of_block (i := 0) HX3.out; have zr1 := frozen_of_block (i := 1) HX3.out; have zr2 := frozen_of_block (i := 2) HX3.out; have zr3 := frozen_of_block (i := 3) HX3.out; have zr4 := frozen_of_block (i := 4) HX3.out
  go_wp2_with fail
  refine (spField_calls x nm (by have := (HT.out.2.1.map (d := 5) HT.out.1).1; omega) w3 A3 c3 A4 c4 (k25.K_below HB3.out HK.out)).mono ?_
  rintro e w4 ⟨hb4, B3, d3, B4, d4, rfl, hk4⟩
  have HX4 := Aside0.mk ((hb4.block _ (lt_of_block HX3.out)).trans HX3.out)
  have HB4 := Aside0.mk (And.intro (HB3.out.trans (hb4.mono HB3.out.size)) (k25.K_below hb4 hk4))
  clear hb4 hk4 HX3 HB3 cr0 cr1 cr2 cr3 cr4 zr0 zr1 zr2 zr3 zr4
  have cr0 := (cell_of_block (i := 0) HX4.out).trans (show _ = some _ from rfl); have cr1 := (cell_of_block (i := 1) HX4.out).trans (show _ = some _ from rfl); have cr2 := (cell_of_block (i := 2) HX4.out).trans (show _ = some _ from rfl); have cr3 := (cell_of_block (i := 3) HX4.out).trans (show _ = some _ from rfl); have cr4 := (cell_of_block (i := 4) HX4.out).trans (show _ = some _ from rfl); have zr0 := frozen_of_block (i := 0) HX4.out; have zr1 := frozen_of_block (i := 1) HX4.out; have zr2 := frozen_of_block (i := 2) HX4.out; have zr3 := frozen_of_block (i := 3) HX4.out; have zr4 := frozen_of_block (i := 4) HX4.out
  have hl4 := lt_of_block HX4.out
  have ca : ∀ o : Obj, (w4.alloc o).cell? ⟨w.heap.size, 0, none⟩ = some (.int .i64 x.f0) ∧ (w4.alloc o).cell? ⟨w.heap.size, 1, none⟩ = some (.string x.f1) ∧ (w4.alloc o).cell? ⟨w.heap.size, 2, none⟩ = some (.string x.f2) ∧ (w4.alloc o).cell? ⟨w.heap.size, 3, none⟩ = some (.slice A3 x.f3.length c3) ∧ (w4.alloc o).cell? ⟨w.heap.size, 4, none⟩ = some (.slice A4 x.f4.length c4) := fun o => by
    refine ⟨?_, ?_, ?_, ?_, ?_⟩ <;> (rw [World.cell?_alloc_lt _ _ _ hl4]; assumption)
  go_wp2_with fail
  have H5 : Aside0 (Below w.heap.size w (w4.alloc (.cells #[.int .i64 (spField x nm).f0, .string (spField x nm).f1, .string (spField x nm).f2, .slice B3 (spField x nm).f3.length d3, .slice B4 (spField x nm).f4.length d4] 25)) ∧ inVar (w4.alloc (.cells #[.int .i64 (spField x nm).f0, .string (spField x nm).f1, .string (spField x nm).f2, .slice B3 (spField x nm).f3.length d3, .slice B4 (spField x nm).f4.length d4] 25)) w.heap.size x A3 c3 A4 c4 ∧
      inVar (w4.alloc (.cells #[.int .i64 (spField x nm).f0, .string (spField x nm).f1, .string (spField x nm).f2, .slice B3 (spField x nm).f3.length d3, .slice B4 (spField x nm).f4.length d4] 25)) w4.heap.size (spField x nm) B3 d3 B4 d4 ∧ nodeK (w4.alloc (.cells #[.int .i64 (spField x nm).f0, .string (spField x nm).f1, .string (spField x nm).f2, .slice B3 (spField x nm).f3.length d3, .slice B4 (spField x nm).f4.length d4] 25)) (spField x nm) B3 d3 B4 d4) :=
    ⟨HB4.out.1.alloc HB4.out.1.size _, (heap_old _ hl4).trans HX4.out, heap_at _ rfl, k25.K_below ((Below.refl _ _).alloc (Nat.le_refl _) _) HB4.out.2⟩
  obtain ⟨w5, e5⟩ : ∃ w5, w5 = w4.alloc (.cells #[.int .i64 (spField x nm).f0, .string (spField x nm).f1, .string (spField x nm).f2, .slice B3 (spField x nm).f3.length d3, .slice B4 (spField x nm).f4.length d4] 25) := ⟨_, rfl⟩
  rw [← e5] at H5 ⊢
  clear ca hl4 cr0 cr1 cr2 cr3 cr4 zr0 zr1 zr2 zr3 zr4 HX4 HB4 e5
  refine (iclear_calls x HT.out.2 HT.out.1 nm HW.out w5 A3 c3 A4 c4 (k25.K_below H5.out.1 HK.out)).mono ?_
  rintro e w6 ⟨D3, f3, D4, f4, E3, e3, E4, e4, rfl, m1, m2, hb6⟩
  have H6 := Aside0.mk (And.intro (H5.out.1.trans (hb6.mono H5.out.1.size)) (And.intro ((hb6.block _ (lt_of_block H5.out.2.1)).trans H5.out.2.1) (And.intro ((hb6.block _ (lt_of_block H5.out.2.2.1)).trans H5.out.2.2.1) (And.intro (k25.K_below hb6 H5.out.2.2.2) (And.intro (k25.K_of_M m1) (k25.K_of_M m2))))))
  clear hb6 m1 m2 H5
  go_wp2_with fail
  obtain ⟨w7, e7⟩ : ∃ w7, w7 = (w6.alloc (.cells #[.int .i64 (spField x nm).f0, .string (spField x nm).f1, .string (spField x nm).f2, .slice D3 (spField x nm).f3.length f3, .slice D4 (spField x nm).f4.length f4] 25)).alloc (.cells #[.int .i64 (wo x nm).f0, .string (wo x nm).f1, .string (wo x nm).f2, .slice E3 (wo x nm).f3.length e3, .slice E4 (wo x nm).f4.length e4] 25) := ⟨_, rfl⟩
  try rw [← e7]
  have hb7 : Below w6.heap.size w6 w7 := by rw [e7]; exact ((Below.refl _ _).alloc (Nat.le_refl _) _).alloc (by simp) _
  have g7 : inVar w7 w6.heap.size (spField x nm) D3 f3 D4 f4 := by rw [e7]; exact (heap_old _ (by simp)).trans (heap_at _ rfl)
  have h7 : inVar w7 (w6.heap.size + 1) (wo x nm) E3 e3 E4 e4 := by rw [e7]; exact heap_at _ (by simp)
  have H7 := Aside0.mk (And.intro (H6.out.1.trans (hb7.mono H6.out.1.size)) (And.intro ((hb7.block _ (lt_of_block H6.out.2.1)).trans H6.out.2.1) (And.intro ((hb7.block _ (lt_of_block H6.out.2.2.1)).trans H6.out.2.2.1) (And.intro (k25.K_below hb7 H6.out.2.2.2.1) (And.intro (k25.K_below hb7 H6.out.2.2.2.2.1) (And.intro (k25.K_below hb7 H6.out.2.2.2.2.2) (And.intro g7 h7)))))))
  clear hb7 g7 h7 e7 H6
  have HS : Aside0 (∀ w' : World, Below w7.heap.size w7 w' → w'.cell? ⟨w6.heap.size + 1, 0, none⟩ = some (.int .i64 (wo x nm).f0) ∧ w'.cell? ⟨w6.heap.size + 1, 1, none⟩ = some (.string (wo x nm).f1) ∧ w'.cell? ⟨w6.heap.size + 1, 2, none⟩ = some (.string (wo x nm).f2) ∧ w'.cell? ⟨w6.heap.size + 1, 3, none⟩ = some (.slice E3 (wo x nm).f3.length e3) ∧ w'.cell? ⟨w6.heap.size + 1, 4, none⟩ = some (.slice E4 (wo x nm).f4.length e4) ∧ w'.cell? ⟨w.heap.size, 0, none⟩ = some (.int .i64 x.f0) ∧ w'.cell? ⟨w.heap.size, 1, none⟩ = some (.string x.f1) ∧ w'.cell? ⟨w.heap.size, 2, none⟩ = some (.string x.f2) ∧ w'.cell? ⟨w.heap.size, 3, none⟩ = some (.slice A3 x.f3.length c3) ∧ w'.cell? ⟨w.heap.size, 4, none⟩ = some (.slice A4 x.f4.length c4)) := ⟨fun w' hw => by
    have HQ1 := Aside0.mk ((hw.block _ (lt_of_block H7.out.2.2.2.2.2.2.2)).trans H7.out.2.2.2.2.2.2.2)
    have HQ2 := Aside0.mk ((hw.block _ (lt_of_block H7.out.2.1)).trans H7.out.2.1)
    have ca0 := (cell_of_block (i := 0) HQ1.out).trans (show _ = some _ from rfl); have ca1 := (cell_of_block (i := 1) HQ1.out).trans (show _ = some _ from rfl); have ca2 := (cell_of_block (i := 2) HQ1.out).trans (show _ = some _ from rfl); have ca3 := (cell_of_block (i := 3) HQ1.out).trans (show _ = some _ from rfl); have ca4 := (cell_of_block (i := 4) HQ1.out).trans (show _ = some _ from rfl); have za0 := frozen_of_block (i := 0) HQ1.out; have za1 := frozen_of_block (i := 1) HQ1.out; have za2 := frozen_of_block (i := 2) HQ1.out; have za3 := frozen_of_block (i := 3) HQ1.out; have za4 := frozen_of_block (i := 4) HQ1.out
    have cb0 := (cell_of_block (i := 0) HQ2.out).trans (show _ = some _ from rfl); have cb1 := (cell_of_block (i := 1) HQ2.out).trans (show _ = some _ from rfl); have cb2 := (cell_of_block (i := 2) HQ2.out).trans (show _ = some _ from rfl); have cb3 := (cell_of_block (i := 3) HQ2.out).trans (show _ = some _ from rfl); have cb4 := (cell_of_block (i := 4) HQ2.out).trans (show _ = some _ from rfl); have zb0 := frozen_of_block (i := 0) HQ2.out; have zb1 := frozen_of_block (i := 1) HQ2.out; have zb2 := frozen_of_block (i := 2) HQ2.out; have zb3 := frozen_of_block (i := 3) HQ2.out; have zb4 := frozen_of_block (i := 4) HQ2.out
    exact ⟨ca0, ca1, ca2, ca3, ca4, cb0, cb1, cb2, cb3, cb4⟩⟩
  have hok : MapOk 5 (wo x nm).f3 (wo x nm).f4 := (MapOk.of HT.out.2.1 HT.out.1 HT.out.2.2).without nm
  have HOK := Aside0.mk hok
  clear hok
  refine start_ (n := 10) (S := fun w' => w'.cell? ⟨w6.heap.size + 1, 0, none⟩ = some (.int .i64 (wo x nm).f0) ∧ w'.cell? ⟨w6.heap.size + 1, 1, none⟩ = some (.string (wo x nm).f1) ∧ w'.cell? ⟨w6.heap.size + 1, 2, none⟩ = some (.string (wo x nm).f2) ∧ w'.cell? ⟨w6.heap.size + 1, 3, none⟩ = some (.slice E3 (wo x nm).f3.length e3) ∧ w'.cell? ⟨w6.heap.size + 1, 4, none⟩ = some (.slice E4 (wo x nm).f4.length e4) ∧ w'.cell? ⟨w.heap.size, 0, none⟩ = some (.int .i64 x.f0) ∧ w'.cell? ⟨w.heap.size, 1, none⟩ = some (.string x.f1) ∧ w'.cell? ⟨w.heap.size, 2, none⟩ = some (.string x.f2) ∧ w'.cell? ⟨w.heap.size, 3, none⟩ = some (.slice A3 x.f3.length c3) ∧ w'.cell? ⟨w.heap.size, 4, none⟩ = some (.slice A4 x.f4.length c4)) (ds := [7]) #[false, false, false, false, false, false, false, false, false, false] (by kernel_rfl) rfl rfl (HS.out _ (Below.refl _ _).drew) (fun hHeld => ?_)
  refine with_tabW (T := clearlaw7.T) (B := clearlaw7.B) clearlaw7.tab clearlaw7.bits (fun HT_ HW_ => ?_)
  have HB := Aside0.mk ((Below.refl w7.heap.size w7).drew)
  generalize w7.drew = wc at HB hHeld ⊢
  refine pure_ (i := 0) (N := (some 39)) (v := ?_) (a' := ?_) #[true, false, false, false, false, false, false, false, false, false] rfl rfl (any_of HT_.out (by kernel_rfl)) (fun _ _ _ h => h) (Or.inl ⟨by rfl, ?_⟩) ?_ ?_
  rotate_left
  · intro w'
    go_simp
    with_reducible rfl
  rotate_left
  · simp only [Act.put, List.setIfInBounds_toArray, List.set_cons_zero, List.set_cons_succ, i64_w, i32_w]
    rfl
  refine pure_ (i := 1) (N := (some 40)) (v := ?_) (a' := ?_) #[true, true, false, false, false, false, false, false, false, false] rfl rfl (any_of HT_.out (by kernel_rfl)) (fun _ _ _ h => h) (Or.inl ⟨by rfl, ?_⟩) ?_ ?_
  rotate_left
  · intro w'
    go_simp
    with_reducible rfl
  rotate_left
  · simp only [Act.put, List.setIfInBounds_toArray, List.set_cons_zero, List.set_cons_succ, i64_w, i32_w]
    rfl
  refine pure_ (i := 2) (N := (some 41)) (v := ?_) (a' := ?_) #[true, true, true, false, false, false, false, false, false, false] rfl rfl (any_of HT_.out (by kernel_rfl)) (fun _ _ _ h => h) (Or.inl ⟨by rfl, ?_⟩) ?_ ?_
  rotate_left
  · intro w'
    go_simp
    with_reducible rfl
  rotate_left
  · simp only [Act.put, List.setIfInBounds_toArray, List.set_cons_zero, List.set_cons_succ, i64_w, i32_w]
    rfl
  refine pure_ (i := 5) (N := (some 44)) (v := ?_) (a' := ?_) #[true, true, true, false, false, true, false, false, false, false] rfl rfl (any_of HT_.out (by kernel_rfl)) (fun _ _ _ h => h) (Or.inl ⟨by rfl, ?_⟩) ?_ ?_
  rotate_left
  · intro w'
    go_simp
    with_reducible rfl
  rotate_left
  · simp only [Act.put, List.setIfInBounds_toArray, List.set_cons_zero, List.set_cons_succ, i64_w, i32_w]
    rfl
  refine take_ (i := 3) (N := (some 42)) (v := ?_) (a' := ?_) #[true, true, true, true, false, true, false, false, false, false] rfl rfl (take_ofW HT_.out HW_.out (by kernel_rfl)) (fun _ _ _ h => h) (Or.inl ⟨by rfl, ?_⟩) hHeld ?_ ?_
  rotate_left
  · rintro w' ⟨s0, s1, s2, s3, s4, s5, s6, s7, s8, s9⟩
    go_simp
    with_reducible rfl
  rotate_left
  · simp only [Act.put, List.setIfInBounds_toArray, List.set_cons_zero, List.set_cons_succ, i64_w, i32_w]
    rfl
  refine take_ (i := 4) (N := (some 43)) (v := ?_) (a' := ?_) #[true, true, true, true, true, true, false, false, false, false] rfl rfl (take_ofW HT_.out HW_.out (by kernel_rfl)) (fun _ _ _ h => h) (Or.inl ⟨by rfl, ?_⟩) hHeld ?_ ?_
  rotate_left
  · rintro w' ⟨s0, s1, s2, s3, s4, s5, s6, s7, s8, s9⟩
    go_simp
    with_reducible rfl
  rotate_left
  · simp only [Act.put, List.setIfInBounds_toArray, List.set_cons_zero, List.set_cons_succ, i64_w, i32_w]
    rfl
  refine one_ (i := 6) (N := (some 45)) #[true, true, true, true, true, true, true, false, false, false] rfl rfl (one_of HT_.out (by kernel_rfl)) (by decide) (fun K hK => ?_)
  refine goes_ Try.func25 (by kernel_rfl) rfl #[nodeV x A3 c3 A4 c4, .string nm] (by rfl) rfl rfl (by simp only [List.map_toArray, List.map_cons, List.map_nil]; rfl) ?_
  refine (without_calls x nm (HT.out.2.1.map (d := 5) HT.out.1).1 (MapOk.of HT.out.2.1 HT.out.1 HT.out.2.2).few wc A3 c3 A4 c4 (k25.K_below (H7.out.1.trans (HB.out.mono H7.out.1.size)) HK.out)).mono ?_
  rintro e w8 ⟨G3, g3, G4, g4, rfl, k8, hb8⟩
  refine ⟨_, rfl, ?_⟩
  have hb8' : Below w7.heap.size w7 w8 := HB.out.trans (hb8.mono HB.out.size)
  refine hK.out _ _ (HS.out _ hb8') (fun hHeld => ?_)
  have HB8 := Aside0.mk (And.intro hb8' k8)
  clear hb8 hb8' k8
  clear hK K
  refine norm_ (a' := ?_) ?_ ?_
  rotate_left
  · first | (simp only [Act.put, List.setIfInBounds_toArray, List.set_cons_zero, List.set_cons_succ, i64_w, i32_w]; rfl) | rfl
  refine last_ (i := 7) (N := (some 46)) #[true, true, true, true, true, true, true, true, false, false] rfl rfl (one_of HT_.out (by kernel_rfl)) (by decide) (fun K hK => ?_)
  refine goes_ Try.func19 (by kernel_rfl) rfl #[nodeV (wo x nm) E3 e3 E4 e4, nodeV (wo x nm) G3 g3 G4 g4, .bool false] (by rfl) rfl rfl (by simp only [List.map_toArray, List.map_cons, List.map_nil]; rfl) ?_
  refine (sameS_calls 6 (wo x nm) HOK.out.sm false w8 E3 e3 E4 e4 G3 g3 G4 g4 (k25.K_below HB8.out.1 H7.out.2.2.2.2.2.1) HB8.out.2).mono ?_
  rintro e w9 ⟨rfl, hb9⟩
  refine ⟨_, rfl, ?_⟩
  refine hK.out _ _ ?_
  have HB9 := Aside0.mk (HB8.out.1.trans (hb9.mono HB8.out.1.size))
  clear hb9
  clear hK K
  refine norm_ (a' := ?_) ?_ ?_
  rotate_left
  · first | (simp only [Act.put, List.setIfInBounds_toArray, List.set_cons_zero, List.set_cons_succ, i64_w, i32_w]; rfl) | rfl
  refine pure_ (i := 8) (N := (some 47)) (v := ?_) (a' := ?_) #[true, true, true, true, true, true, true, true, true, false] rfl rfl (any_of HT_.out (by kernel_rfl)) (fun _ _ _ h => h) (Or.inl ⟨by rfl, ?_⟩) ?_ ?_
  rotate_left
  · intro w'
    go_simp
    with_reducible rfl
  rotate_left
  · simp only [Act.put, List.setIfInBounds_toArray, List.set_cons_zero, List.set_cons_succ, i64_w, i32_w]
    rfl
  refine pure_ (i := 9) (N := (some 48)) (v := ?_) (a' := ?_) #[true, true, true, true, true, true, true, true, true, true] rfl rfl (any_of HT_.out (by kernel_rfl)) (fun _ _ _ h => h) (Or.inl ⟨by rfl, ?_⟩) ?_ ?_
  rotate_left
  · intro w'
    go_simp
    with_reducible rfl
  rotate_left
  · simp only [Act.put, List.setIfInBounds_toArray, List.set_cons_zero, List.set_cons_succ, i64_w, i32_w]
    rfl
  refine done_ (done_of HT_.out (by kernel_rfl)) ?_
  have HQ1 := Aside0.mk ((HB9.out.block _ (lt_of_block H7.out.2.2.2.2.2.2.1)).trans H7.out.2.2.2.2.2.2.1)
  have HQ2 := Aside0.mk ((HB9.out.block _ (lt_of_block H7.out.2.2.1)).trans H7.out.2.2.1)
  have HFIN := Aside0.mk (H7.out.1.trans (HB9.out.mono H7.out.1.size))
  cases hh : has nm x
  · have hz0 : (spField x nm).f0 = 0 := by rw [spField_zero hh]; rfl
    have ca0 := (cell_of_block (i := 0) HQ1.out).trans (show _ = some _ from rfl); have ca1 := (cell_of_block (i := 1) HQ1.out).trans (show _ = some _ from rfl); have ca2 := (cell_of_block (i := 2) HQ1.out).trans (show _ = some _ from rfl); have ca3 := (cell_of_block (i := 3) HQ1.out).trans (show _ = some _ from rfl); have ca4 := (cell_of_block (i := 4) HQ1.out).trans (show _ = some _ from rfl); have za0 := frozen_of_block (i := 0) HQ1.out; have za1 := frozen_of_block (i := 1) HQ1.out; have za2 := frozen_of_block (i := 2) HQ1.out; have za3 := frozen_of_block (i := 3) HQ1.out; have za4 := frozen_of_block (i := 4) HQ1.out
    rw [hz0] at ca0
    clear ca1 ca2 ca3 ca4 za0 za1 za2 za3 za4 hz0 hh
    go_wp2_with fail
    go_ret
    exact ⟨rfl, HFIN.out⟩
  · have HT2 := Aside0.mk (spField_tree HT.out.2 HT.out.1 hh)
    have ca0 := (cell_of_block (i := 0) HQ1.out).trans (show _ = some _ from rfl); have ca1 := (cell_of_block (i := 1) HQ1.out).trans (show _ = some _ from rfl); have ca2 := (cell_of_block (i := 2) HQ1.out).trans (show _ = some _ from rfl); have ca3 := (cell_of_block (i := 3) HQ1.out).trans (show _ = some _ from rfl); have ca4 := (cell_of_block (i := 4) HQ1.out).trans (show _ = some _ from rfl); have za0 := frozen_of_block (i := 0) HQ1.out; have za1 := frozen_of_block (i := 1) HQ1.out; have za2 := frozen_of_block (i := 2) HQ1.out; have za3 := frozen_of_block (i := 3) HQ1.out; have za4 := frozen_of_block (i := 4) HQ1.out
    have cb0 := (cell_of_block (i := 0) HQ2.out).trans (show _ = some _ from rfl); have cb1 := (cell_of_block (i := 1) HQ2.out).trans (show _ = some _ from rfl); have cb2 := (cell_of_block (i := 2) HQ2.out).trans (show _ = some _ from rfl); have cb3 := (cell_of_block (i := 3) HQ2.out).trans (show _ = some _ from rfl); have cb4 := (cell_of_block (i := 4) HQ2.out).trans (show _ = some _ from rfl); have zb0 := frozen_of_block (i := 0) HQ2.out; have zb1 := frozen_of_block (i := 1) HQ2.out; have zb2 := frozen_of_block (i := 2) HQ2.out; have zb3 := frozen_of_block (i := 3) HQ2.out; have zb4 := frozen_of_block (i := 4) HQ2.out
    clear hh
    go_wp2_with fail
    refine (same_calls (spField x nm) HT2.out false w9 D3 f3 D4 f4 B3 d3 B4 d4 (k25.K_below HB9.out H7.out.2.2.2.2.1) (k25.K_below HB9.out H7.out.2.2.2.1)).mono ?_
    rintro e w10 ⟨rfl, hb10⟩
    have HF2 := Aside0.mk (HFIN.out.trans (hb10.mono HFIN.out.size))
    clear hb10
    go_wp2_with fail
    go_ret
    exact ⟨rfl, HF2.out⟩
theorem clear_law (w : World) (x : S25) (hz : Sz x) (A3 : Option Addr) (c3 : Nat) (A4 : Option Addr) (c4 : Nat) (hK : nodeK w x A3 c3 A4 c4) (nm : ByteArray) (hnm : nm.size ≤ 9223372036854775807) :
    Calls Try.prog 6 #[nodeV x A3 c3 A4 c4, .string nm] w fun e w' => e = .returned (.bool true) ∧ Below w.heap.size w w' := clearlaw_calls x hz nm hnm w A3 c3 A4 c4 hK
end Go.Proofs.Ytigpgkfgkjabmaa
