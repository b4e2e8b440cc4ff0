import Derived.Test.YtkpdkoafngjflaaGreatRFields
namespace Go.Proofs.YtkpdkoafngjflaaGreat
open Go.RowKit Go.Proofs.YtkpdkoafngjflaaGreatW.PrintWords Go.Proofs.YtkpdkoafngjflaaGreatW.PrintLast Go.Proofs.YtkpdkoafngjflaaGreat.PFnFields
set_option linter.unusedVariables false
set_option linter.unusedSimpArgs false
theorem nameOf_calls (x : S25) (hkl : x.f3.length ≤ x.f4.length) (w : World) (A3 : Option Addr) (c3 : Nat) (A4 : Option Addr) (c4 : Nat)
  (hK : k25.K w x [.int .i64 x.f0, .string x.f1, .string x.f2, .slice A3 x.f3.length c3, .slice A4 x.f4.length c4]) :
  Calls Tryz.prog 28 #[.agg #[.int .i64 x.f0, .string x.f1, .string x.f2, .slice A3 x.f3.length c3, .slice A4 x.f4.length c4]] w fun e w' => e = .returned (.string (spField x nameB).f1) ∧ Below w.heap.size w w' := by
 have hu := Tryz.underlying25
 have HK := Aside0.mk hK
 clear hK
 go_enter Tryz.func28, Tryz.ntmps28
 go_wp2_with fail
 refine (spField_calls x nameB hkl _ A3 c3 A4 c4 (k25.K_below ((Below.refl _ _).alloc (Nat.le_refl _) _) HK.out)).mono ?_
 rintro e w1 ⟨hb, B3, b3, B4, b4, rfl, _⟩
 have HB := Aside0.mk (((Below.refl w.heap.size w).alloc (Nat.le_refl _) _).trans (hb.mono (by simp)))
 clear hb
 obtain ⟨sf, hsf⟩ : ∃ sf, sf = spField x nameB := ⟨_, rfl⟩
 rw [← hsf]
 have HSF := Aside0.mk hsf
 generalize has nameB x = hs
 clear hsf
 go_wp2
 go_ret
 exact ⟨by rw [← HSF.out]; rfl, HB.out.alloc HB.out.size _⟩
def Named (x : S25) : Prop := ∀ y ∈ x.f4, has nameB y = true ∧ (spField y nameB).f0 = 1
def NamedLPost (w : World) (x : S25) (e : Ending) (w' : World) : Prop := ∃ r, e = .returned (.bool r) ∧ Below w.heap.size w w' ∧ (r = true → Named x ∧ (x.f4.map fun y => (spField y nameB).f1).Nodup ∧ ∀ y ∈ x.f4, (spField y nameB).f2.toList = strTag)
set_option maxRecDepth 100000 in
set_option maxHeartbeats 1600000 in
theorem areNamedL_calls (x : S25) (hx : (∀ y ∈ x.f4, Tree y) ∧ x.f4.length ≤ 60) (w : World) (A3 : Option Addr) (c3 : Nat) (A4 : Option Addr) (c4 : Nat)
  (hK : k25.K w x [.int .i64 x.f0, .string x.f1, .string x.f2, .slice A3 x.f3.length c3, .slice A4 x.f4.length c4]) :
  Calls Tryz.prog 27 #[.agg #[.int .i64 x.f0, .string x.f1, .string x.f2, .slice A3 x.f3.length c3, .slice A4 x.f4.length c4]] w (NamedLPost w x) := by
 have hu := Tryz.underlying25
 have HX := Aside0.mk hx
 have HK := Aside0.mk hK
 obtain ⟨g4, hg4⟩ : ∃ q : k25.C w A4 x.f4.length x.f4, True := by
  obtain ⟨_, _, _, _, he, l3, g3, l4, g4⟩ := k25_open hK
  simp only [List.cons.injEq, Value.slice.injEq, true_and, and_true] at he
  obtain ⟨⟨rfl, rfl⟩, rfl, rfl⟩ := he
  exact ⟨g4, trivial⟩
 have hl60 : x.f4.length ≤ 60 := hx.2
 have HG4 := Aside0.mk g4
 clear hx hK g4 hg4
 go_enter Tryz.func27, Tryz.ntmps27
 go_wp2_with fail
 obtain ⟨w0, e0⟩ : ∃ w0, w0 = (w.alloc (.cells #[.int .i64 x.f0, .string x.f1, .string x.f2, .slice A3 x.f3.length c3, .slice A4 x.f4.length c4] 25)).alloc (.cells #[] 9) := ⟨_, rfl⟩
 have hb0 : Below w.heap.size w w0 := by rw [e0]; exact ((Below.refl _ _).alloc (Nat.le_refl _) _).alloc (by simp) _
 have hx0 : inVar w0 w.heap.size x A3 c3 A4 c4 := by rw [e0]; exact (heap_old _ (by simp)).trans (heap_at _ rfl)
 have hr0 : Kd.string.R 9 w0 (w.heap.size + 1) (fun _ => True) (.slice (some ⟨w.heap.size + 1, 0, none⟩) 0 0) [] := R_empty _ (by rw [e0]; exact heap_at _ (by simp)) (Nat.le_refl _) trivial
 have H0 := Aside0.mk (And.intro hb0 (And.intro hx0 hr0))
 try rw [← e0]
 clear hb0 hx0 hr0
 go_loopg [3, 12] x.f4.length (fun k nv i wr => ∃ (j : Nat) (A : Option Addr) (n c : Nat) (ns : List ByteArray), nv = .slice A n c ∧ i = .int .i64 j ∧ Aside0 (j ≤ x.f4.length ∧ k + j = x.f4.length ∧ ns.length = j) ∧ Aside0 (inVar wr w.heap.size x A3 c3 A4 c4) ∧ Aside0 (Below w.heap.size w wr) ∧
  Aside0 (Kd.string.R 9 wr (w.heap.size + 1) (fun _ => True) (.slice A n c) ns) ∧ Aside0 ((∀ y ∈ x.f4.take j, has nameB y = true ∧ (spField y nameB).f0 = 1) ∧ ns = ((x.f4.take j).map fun y => (spField y nameB).f1) ∧ ns.Nodup ∧ ∀ y ∈ x.f4.take j, (spField y nameB).f2.toList = strTag))
 case atStart => exact ⟨0, _, _, _, [], rfl, rfl, ⟨by simp⟩, ⟨H0.out.2.1⟩, ⟨H0.out.1⟩, ⟨H0.out.2.2⟩, ⟨by simp⟩⟩
 case round =>
  clear H0
  obtain ⟨j, A, n, c, ns, rfl, rfl, HJ, HXV, HB, HR, HN⟩ := hrel
  by_cases hj : j < x.f4.length
  ·generalize hyy : x.f4.getD j z25 = yy
   obtain ⟨ad4, P3, p3, P4, p4, e4, hKy, f0', f1', f2', f3', f4'⟩ := nodeAt HG4.out j hj yy hyy
   subst e4
   have f0 := (HB.out.cell (World.block_lt_of_cell? w _ f0')).trans f0'
   have f1 := (HB.out.cell (World.block_lt_of_cell? w _ f1')).trans f1'
   have f2 := (HB.out.cell (World.block_lt_of_cell? w _ f2')).trans f2'
   have f3 := (HB.out.cell (World.block_lt_of_cell? w _ f3')).trans f3'
   have f4 := (HB.out.cell (World.block_lt_of_cell? w _ f4')).trans f4'
   have hye : yy = x.f4[j] := by rw [← hyy, List.getD_eq_getElem?_getD, List.getElem?_eq_getElem hj]; rfl
   have hym : yy ∈ x.f4 := by rw [hye]; exact List.getElem_mem _
   have HYY := Aside0.mk (And.intro hye (And.intro hym hKy))
   clear hyy hKy f0' f1' f2' f3' f4' hye hym
   go_wp2_with fail
   have hbw : Below w.heap.size w (wr.alloc (.cells #[.int .i64 yy.f0, .string yy.f1, .string yy.f2, .slice P3 yy.f3.length p3, .slice P4 yy.f4.length p4] 25)) := HB.out.alloc HB.out.size _
   refine (spField_calls yy nameB (by have := (HX.out.1 yy HYY.out.2.1).1.klen; exact this) _ P3 p3 P4 p4 (k25.K_below hbw HYY.out.2.2)).mono ?_
   rintro e w3 ⟨hb3, D3, q3, D4, q4, rfl, _⟩
   have hb4 : Below wr.heap.size wr w3 := ((Below.refl _ _).alloc (Nat.le_refl _) _).trans (hb3.mono (by simp))
   obtain ⟨sf, hsf⟩ : ∃ sf, sf = spField yy nameB := ⟨_, rfl⟩
   obtain ⟨hs, hhs⟩ : ∃ hs, hs = has nameB yy := ⟨_, rfl⟩
   rw [← hsf, ← hhs]
   have HSF := Aside0.mk (And.intro hsf hhs)
   have hxl := lt_of_block HXV.out
   have hx3 : inVar w3 w.heap.size x A3 c3 (some ad4) c4 := (hb4.block _ hxl).trans HXV.out
   have HX3 := Aside0.mk hx3
   have HB3 := Aside0.mk (And.intro (HB.out.trans (hb4.mono HB.out.size)) (R_upd HR.out (fun k _ _ hk => hb4.block k hk)))
   clear hbw hb3 hb4 hsf hhs f0 f1 f2 f3 f4 hxl hx3
   cases hs
   ·go_wp2
    go_ret
    exact ⟨false, rfl, HB3.out.1.alloc HB3.out.1.size _, fun h => by cases h⟩
   by_cases k1 : ¬ sf.f0 = 1
   ·have k1b : (sf.f0 != 1) = true := by simpa using k1
    go_wp2
    all_goals (go_ret; exact ⟨false, rfl, HB3.out.1.alloc HB3.out.1.size _, fun h => by cases h⟩)
   replace k1 : sf.f0 = 1 := Classical.not_not.1 k1
   have K1 := Aside0.mk k1
   have k1b : (sf.f0 != 1) = false := by simpa using k1
   clear k1
   go_wp2_with fail
   all_goals try (go_ret; exact ⟨false, rfl, HB3.out.1.alloc HB3.out.1.size _, fun h => by cases h⟩)
   have HTAG : Aside0 (sf.f2.toList = strTag) := ⟨by assumption⟩
   have hnsl := (Kd.R_reads' HB3.out.2).1
   have hnsc := (Kd.R_reads' HB3.out.2).2.1
   have hjl := HJ.out.2.2
   obtain ⟨w4, e4⟩ : ∃ w4, w4 = (w3.alloc (.cells #[.int .i64 sf.f0, .string sf.f1, .string sf.f2, .slice D3 sf.f3.length q3, .slice D4 sf.f4.length q4] 25)) := ⟨_, rfl⟩
   rw [← e4]
   have hb4 : Below w3.heap.size w3 w4 := by rw [e4]; exact (Below.refl _ _).alloc (Nat.le_refl _) _
   have hv4 : w4.heap[w3.heap.size]? = some (.cells #[.int .i64 sf.f0, .string sf.f1, .string sf.f2, .slice D3 sf.f3.length q3, .slice D4 sf.f4.length q4] 25 (0, 0)) := by rw [e4]; exact heap_at _ rfl
   have hR4 : Kd.string.R 9 w4 (w.heap.size + 1) (fun _ => True) (.slice A n c) ns := R_upd HB3.out.2 (fun k _ _ hk => hb4.block k hk)
   refine (place_calls_n w4 A n c ns sf.f1 hnsl.symm (Kd.R_reads' hR4).2.2 (by omega)).mono ?_
   rintro e w5 ⟨rfl, ⟨⟨m1, rfl⟩⟩⟩
   have hb5 : Below w.heap.size w (w4.drewN m1) := pw_below_drewN (HB3.out.1.trans (hb4.mono HB3.out.1.size)) m1
   have hx5 : inVar (w4.drewN m1) w.heap.size x A3 c3 (some ad4) c4 := (hb4.block _ (lt_of_block HX3.out)).trans HX3.out
   have hr5 : Kd.string.R 9 (w4.drewN m1) (w.heap.size + 1) (fun _ => True) (.slice A n c) ns := R_upd hR4 (fun _ _ _ _ => rfl)
   have cv1 : (w4.drewN m1).cell? ⟨w3.heap.size, 1, none⟩ = some (.string sf.f1) := by rw [show (w4.drewN m1).cell? ⟨w3.heap.size, 1, none⟩ = w4.cell? ⟨w3.heap.size, 1, none⟩ from rfl, cell_of_block hv4]; rfl
   have H5 := Aside0.mk (And.intro hb5 (And.intro hx5 hr5))
   have hlt5 := lt_of_block hx5
   clear hb4 hv4 hR4 hb5 hx5 hr5 e4 hnsl hnsc
   generalize w4.drewN m1 = w5 at *
   generalize hpp : plc ns sf.f1 = p
   have HPP := Aside0.mk hpp
   clear hpp
   by_cases hp : 0 ≤ p
   ·go_wp2
    go_ret
    exact ⟨false, rfl, H5.out.1, fun h => by cases h⟩
   ·have hpb : decide (0 ≤ p) = false := by simpa using hp
    have hnin : sf.f1 ∉ ns := fun h => hp (by rw [← HPP.out]; exact plc_mem h)
    have HNI := Aside0.mk hnin
    clear hnin
    go_wp2_with ((with_reducible refine gate_builtin (b := .append) (xs := #[.tmp 40, .tmp 43]) rfl ?_); at_builtin; refine Kd.R_append Kd.string (w0 := w5) (w.heap.size + 1) rfl (.tmp 40) (.tmp 43) 22 9 (.string ⟨#[]⟩) 16 rfl Tryz.underlying22 Tryz.infoStr rfl (by decide) (by decide) (.slice A n c) ns sf.f1 [.string sf.f1] (fun _ => True) (fun _ => False) rfl rfl rfl (fun _ h => h.elim) (fun _ _ => trivial) H5.out.2.2 (Below.refl _ _) (by omega) (by omega) ?_; intro nv1 w6 hr6 hb6 _ _; (have HB6 := Aside0.mk (And.intro hr6 hb6)); clear hr6 hb6)
    obtain ⟨A9, n9, c9, rfl⟩ : ∃ A1 n1 c1, nv1 = .slice A1 n1 c1 := by obtain ⟨A1, c1, e⟩ := Kd.R_slice HB6.out.1; exact ⟨_, _, _, e⟩
    go_roundg (gk - 1)
    case measure => have := HJ.out; omega
    case rel =>
     refine ⟨j + 1, A9, n9, c9, ns ++ [sf.f1], rfl, by go_num, ⟨by have := HJ.out; simp; omega⟩, ⟨(HB6.out.2.block _ (by omega)).trans H5.out.2.1⟩, ⟨H5.out.1.trans (HB6.out.2.mono (by omega))⟩, ⟨HB6.out.1⟩, ⟨⟨fun y hy => ?_, ?_, ?_, fun y hy => ?_⟩⟩⟩
     ·rw [List.take_succ_eq_append_getElem hj, ← HYY.out.1] at hy
      rcases List.mem_append.1 hy with h | h
      ·exact HN.out.1 y h
      ·rw [List.mem_singleton.1 h]; exact ⟨HSF.out.2.symm, by rw [← HSF.out.1]; exact K1.out⟩
     ·rw [List.take_succ_eq_append_getElem hj, ← HYY.out.1, List.map_append, ← HN.out.2.1, HSF.out.1]; rfl
     ·rw [List.nodup_append]; exact ⟨HN.out.2.2.1, by simp, fun u hu v hv e => HNI.out (by rw [List.mem_singleton.1 hv] at e; rw [← e]; exact hu)⟩
     ·rw [List.take_succ_eq_append_getElem hj, ← HYY.out.1] at hy
      rcases List.mem_append.1 hy with h | h
      ·exact HN.out.2.2.2 y h
      ·rw [List.mem_singleton.1 h, ← HSF.out.1]; exact HTAG.out
  ·have hje : j = x.f4.length := by have := HJ.out; omega
   have HNN := HN.out
   rw [hje, List.take_length] at HNN
   have HN2 := Aside0.mk HNN
   have HXV' := HXV
   obtain ⟨cr0, cr1, cr2, cr3, cr4, zr0, zr1, zr2, zr3, zr4⟩ := fc_ HXV'.out
   clear hje HNN HN HXV'
   go_wp2
   go_ret
   exact ⟨_, rfl, HB.out, fun _ => ⟨HN2.out.1, by rw [← HN2.out.2.1]; exact HN2.out.2.2.1, HN2.out.2.2.2⟩⟩
end Go.Proofs.YtkpdkoafngjflaaGreat
