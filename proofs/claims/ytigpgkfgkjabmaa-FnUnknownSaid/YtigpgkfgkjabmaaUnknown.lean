/-
  laws.FnUnknown: a list of scalars, or of maps of which one lacks a name, is not known by it.
-/
import Derived.Test.YtigpgkfgkjabmaaKey
namespace Go.Proofs.Ytigpgkfgkjabmaa
open Go.RowKit Go.Proofs.YtigpgkfgkjabmaaW.PrintWords Go.Proofs.YtigpgkfgkjabmaaW.PrintLast Go.Proofs.Ytigpgkfgkjabmaa.PFnFields
set_option linter.unusedVariables false
set_option linter.unusedSimpArgs false

def LawPost (w : World) (e : Ending) (w' : World) : Prop := e = .returned (.bool true) ∧ Below w.heap.size w w'
def unk11.T : Bool × List (List Nat × List Nat) := (true, [([], []), ([0], [0]), ([], []), ([2], [2]), ([3], [3]), ([4], [4]), ([5], [5]), ([1, 6], [1, 6]), ([7], [7]), ([8], [8]), ([9, 8], [8, 9]), ([10, 8], [8, 10]), ([8, 11], [8, 11])])
def unk11.B : List Nat := [0, 1, 0, 4, 12, 28, 60, 127, 255, 511, 1023, 2047, 4095]
theorem unk11.tab : rtab .any (opsOf Try.f3 11) = unk11.T := by kernel_rfl
theorem unk11.bits : waitsOk unk11.T.2 unk11.B = true := by kernel_rfl
set_option maxRecDepth 100000 in
set_option maxHeartbeats 1600000 in
theorem unknown_calls (x : S25) (hz : Sz x) (w : World) (A3 : Option Addr) (c3 : Nat) (A4 : Option Addr) (c4 : Nat)
    (hK : k25.K w x [.int .i64 x.f0, .string x.f1, .string x.f2, .slice A3 x.f3.length c3, .slice A4 x.f4.length c4]) :
    Calls Try.prog 3 #[.agg #[.int .i64 x.f0, .string x.f1, .string x.f2, .slice A3 x.f3.length c3, .slice A4 x.f4.length c4]] w (LawPost w) := by
  have hu := Try.underlying25
  have HK := Aside0.mk hK
  have HZ := Aside0.mk hz
  clear hK hz
  go_enter Try.func3, Try.ntmps3
  go_wp2_with fail
  refine (fits1_calls x _ A3 c3 A4 c4 (k25.K_below ((Below.refl _ _).alloc (Nat.le_refl _) _) HK.out)).mono ?_
  rintro e w1 ⟨r, rfl, hb1, _⟩
  have hx1 : inVar w1 w.heap.size x A3 c3 A4 c4 := (hb1.block _ (by simp)).trans (heap_at _ rfl)
  have HB1 := Aside0.mk (((Below.refl w.heap.size w).alloc (Nat.le_refl _) _).trans (hb1.mono (by simp)))
  have HX1 := Aside0.mk hx1
  clear hb1 hx1
  cases r
  · go_wp2
    go_ret
    exact ⟨rfl, HB1.out⟩
  have cr0 := (cell_of_block (i := 0) HX1.out).trans (show _ = some _ from rfl); have cr1 := (cell_of_block (i := 1) HX1.out).trans (show _ = some _ from rfl); have cr2 := (cell_of_block (i := 2) HX1.out).trans (show _ = some _ from rfl); have cr3 := (cell_of_block (i := 3) HX1.out).trans (show _ = some _ from rfl); have cr4 := (cell_of_block (i := 4) HX1.out).trans (show _ = some _ from rfl); have zr0 := frozen_of_block (i := 0) HX1.out; have zr1 := frozen_of_block (i := 1) HX1.out; have zr2 := frozen_of_block (i := 2) HX1.out; have zr3 := frozen_of_block (i := 3) HX1.out; have zr4 := frozen_of_block (i := 4) HX1.out
  go_wp2_with fail
  refine (isList_calls x w1 A3 c3 A4 c4 (k25.K_below HB1.out HK.out) HZ.out).mono ?_
  rintro e w2 ⟨r, rfl, hb2, htree⟩
  have hx2 : inVar w2 w.heap.size x A3 c3 A4 c4 := (hb2.block _ (lt_of_block HX1.out)).trans HX1.out
  have HB2 := Aside0.mk (HB1.out.trans (hb2.mono HB1.out.size))
  have HX2 := Aside0.mk hx2
  clear hb2 hx2 cr0 cr1 cr2 cr3 cr4 zr0 zr1 zr2 zr3 zr4
  cases r
  · clear htree
    go_wp2
    go_ret
    exact ⟨rfl, HB2.out⟩
  have HT := Aside0.mk (htree rfl)
  clear htree HB1 HX1
  have cr0 := (cell_of_block (i := 0) HX2.out).trans (show _ = some _ from rfl); have cr1 := (cell_of_block (i := 1) HX2.out).trans (show _ = some _ from rfl); have cr2 := (cell_of_block (i := 2) HX2.out).trans (show _ = some _ from rfl); have cr3 := (cell_of_block (i := 3) HX2.out).trans (show _ = some _ from rfl); have cr4 := (cell_of_block (i := 4) HX2.out).trans (show _ = some _ from rfl); have zr0 := frozen_of_block (i := 0) HX2.out; have zr1 := frozen_of_block (i := 1) HX2.out; have zr2 := frozen_of_block (i := 2) HX2.out; have zr3 := frozen_of_block (i := 3) HX2.out; have zr4 := frozen_of_block (i := 4) HX2.out
  obtain ⟨g4, hg4⟩ : ∃ q : k25.C w A4 x.f4.length x.f4, True := by
    obtain ⟨B3, d3, B4, d4, he, l3, g3, l4, g4⟩ := k25_open HK.out
    simp only [List.cons.injEq, Value.slice.injEq, true_and, and_true] at he
    obtain ⟨⟨rfl, rfl⟩, rfl, rfl⟩ := he
    exact ⟨g4, trivial⟩
  have hm4 : x.f4.length ≤ 9223372036854775807 := g4.2.1
  have HG4 := Aside0.mk g4
  clear g4 hg4
  go_wp2_with fail
  clear cr0 cr1 cr2 cr3 cr4 zr0 zr1 zr2 zr3 zr4
  go_loopg [3, 21] x.f4.length (fun k lk i wr => ∃ j : Nat, lk = .bool (!(x.f4.take j).all (has nameB)) ∧ i = .int .i64 j ∧ Aside0 (j ≤ x.f4.length ∧ k + j = x.f4.length) ∧ Aside0 (inVar wr w.heap.size x A3 c3 A4 c4) ∧ Aside0 (Below w.heap.size w wr))
  case atStart => exact ⟨0, rfl, rfl, ⟨by omega⟩, HX2, HB2⟩
  case round =>
    clear HX2 HB2
    obtain ⟨j, rfl, rfl, HJ, HX, HB⟩ := hrel
    obtain ⟨lk, hlk⟩ : ∃ lk, lk = !(x.f4.take j).all (has nameB) := ⟨_, rfl⟩
    rw [← hlk]
    have HLK := Aside0.mk hlk
    clear hlk
    by_cases hj : j < x.f4.length
    · generalize hyy : x.f4.getD j z25 = yy
      obtain ⟨ad4, B3, b3, B4, b4, e4, hKy, f0', f1', f2', f3', f4'⟩ := nodeAt HG4.out j hj yy hyy
      subst e4
      have f0 := (HB.out.cell (World.block_lt_of_cell? w _ f0')).trans f0'
      have f1 := (HB.out.cell (World.block_lt_of_cell? w _ f1')).trans f1'
      have f2 := (HB.out.cell (World.block_lt_of_cell? w _ f2')).trans f2'
      have f3 := (HB.out.cell (World.block_lt_of_cell? w _ f3')).trans f3'
      have f4 := (HB.out.cell (World.block_lt_of_cell? w _ f4')).trans f4'
      have hye : yy = x.f4[j] := by rw [← hyy, List.getD_eq_getElem?_getD, List.getElem?_eq_getElem hj]; rfl
      have hym : yy ∈ x.f4 := by rw [hye]; exact List.getElem_mem _
      have HYY := Aside0.mk (And.intro hye (And.intro hym hKy))
      clear hyy hKy f0' f1' f2' f3' f4' hye hym
      go_wp2_with fail
      have hbw : Below w.heap.size w (wr.alloc (.cells #[.int .i64 yy.f0, .string yy.f1, .string yy.f2, .slice B3 yy.f3.length b3, .slice B4 yy.f4.length b4] 25)) := HB.out.alloc HB.out.size _
      refine (spField_calls yy nameB (by have := (HT.out.2.1.items yy HYY.out.2.1).klen; exact this) _ B3 b3 B4 b4 (k25.K_below hbw HYY.out.2.2)).mono ?_
      rintro e w3 ⟨hb3, D3, d3, D4, d4, rfl, _⟩
      have hb4 := hbw.trans (hb3.mono hbw.size)
      have hxl := lt_of_block HX.out
      have hx3 : inVar w3 w.heap.size x A3 c3 (some ad4) c4 := (hb3.block _ (by simp; omega)).trans ((heap_old _ hxl).trans HX.out)
      have hy3 : inVar w3 wr.heap.size yy B3 b3 B4 b4 := (hb3.block _ (by simp)).trans (heap_at _ rfl)
      have HX3 := Aside0.mk hx3
      have HY3 := Aside0.mk hy3
      have HB3 := Aside0.mk hb4
      generalize spField yy nameB = sf
      obtain ⟨hs, hhs⟩ : ∃ hs, hs = has nameB yy := ⟨_, rfl⟩
      rw [← hhs]
      have HHS := Aside0.mk hhs
      clear hbw hb3 hb4 hx3 hy3 hhs f0 f1 f2 f3 f4 hxl
      have hj0 : 0 < x.f4.length := by omega
      generalize hzz : x.f4.getD 0 z25 = zz
      obtain ⟨ad5, C3, _, C4, _, e5, _, k0', _⟩ := nodeAt HG4.out 0 hj0 zz hzz
      obtain rfl := Option.some.inj e5
      have k0 : w.cell? ad4 = some (.int .i64 zz.f0) := by simpa [Addr.add] using k0'
      have hall1 : (x.f4.take (j + 1)).all (has nameB) = ((x.f4.take j).all (has nameB) && hs) := by
        rw [List.take_succ_eq_append_getElem hj, ← HYY.out.1, List.all_append, HHS.out]; simp
      have HA1 := Aside0.mk hall1
      have HK0 := Aside0.mk k0
      clear hall1 k0 k0' e5 hzz
      cases lk
      · go_wp2_with fail
        have HNL : Aside0 ((!hs) = !(x.f4.take (j + 1)).all (has nameB)) := ⟨by
          have h1 := HLK.out
          rw [HA1.out]
          cases hq : (x.f4.take j).all (has nameB)
          · rw [hq] at h1; cases h1
          · simp⟩
        obtain ⟨w4, e4⟩ : ∃ w4, w4 = (w3.alloc (.cells #[.int .i64 sf.f0, .string sf.f1, .string sf.f2, .slice D3 sf.f3.length d3, .slice D4 sf.f4.length d4] 25)) := ⟨_, rfl⟩
        rw [← e4]
        have hb4 : Below w.heap.size w w4 := by rw [e4]; exact HB3.out.alloc HB3.out.size _
        have hx4 : inVar w4 w.heap.size x A3 c3 (some ad4) c4 := by rw [e4]; exact (heap_old _ (lt_of_block HX3.out)).trans HX3.out
        have hy4 : inVar w4 wr.heap.size yy B3 b3 B4 b4 := by rw [e4]; exact (heap_old _ (lt_of_block HY3.out)).trans HY3.out
        have hS : w4.drew.cell? ⟨wr.heap.size, 0, none⟩ = some (.int .i64 yy.f0) ∧ w4.drew.cell? ⟨w.heap.size, 4, none⟩ = some (.slice (some ad4) x.f4.length c4) ∧ w4.drew.cell? ad4 = some (.int .i64 zz.f0) :=
          ⟨(cell_of_block (i := 0) hy4).trans (show _ = some _ from rfl), (cell_of_block (i := 4) hx4).trans (show _ = some _ from rfl), (hb4.cell (World.block_lt_of_cell? w _ HK0.out)).trans HK0.out⟩
        have HS := Aside0.mk hS
        have H4 := Aside0.mk (And.intro hb4.drew (show inVar w4.drew w.heap.size x A3 c3 (some ad4) c4 from hx4))
        clear hb4 hx4 hy4 hS e4
        by_cases hk : yy.f0 = zz.f0
        · have hkn : (yy.f0 != zz.f0) = false := by simpa using hk
          by_cases h3 : yy.f0 = 3
          · have h3b : (yy.f0 == 3) = true := by simpa using h3
            clear h3 hk
            refine start_ (n := 13) (S := fun w' => w'.cell? ⟨wr.heap.size, 0, none⟩ = some (.int .i64 yy.f0) ∧ w'.cell? ⟨w.heap.size, 4, none⟩ = some (.slice (some ad4) x.f4.length c4) ∧ w'.cell? ad4 = some (.int .i64 zz.f0)) (ds := []) #[false, false, false, false, false, false, false, false, false, false, false, false, false] (by kernel_rfl) rfl rfl HS.out (fun hHeld => ?_)
            refine with_tabW (T := unk11.T) (B := unk11.B) unk11.tab unk11.bits (fun HT_ HW_ => ?_)
            refine pure_ (i := 0) (N := (some 35)) (v := ?_) (a' := ?_) #[true, false, false, false, false, false, false, false, false, false, false, false, false] rfl rfl (any_of HT_.out (by kernel_rfl)) (fun _ _ _ h => h) (Or.inl ⟨by rfl, ?_⟩) ?_ ?_
            rotate_left
            · intro w'
              go_simp
              with_reducible rfl
            rotate_left
            · simp only [Act.put, List.setIfInBounds_toArray, List.set_cons_zero, List.set_cons_succ, i64_w, i32_w]
              rfl
            refine pure_ (i := 2) (N := (some 37)) (v := ?_) (a' := ?_) #[true, false, true, false, false, false, false, false, false, false, false, false, false] rfl rfl (any_of HT_.out (by kernel_rfl)) (fun _ _ _ h => h) (Or.inl ⟨by rfl, ?_⟩) ?_ ?_
            rotate_left
            · intro w'
              go_simp
              with_reducible rfl
            rotate_left
            · simp only [Act.put, List.setIfInBounds_toArray, List.set_cons_zero, List.set_cons_succ, i64_w, i32_w]
              rfl
            refine take_ (i := 1) (N := (some 36)) (v := ?_) (a' := ?_) #[true, true, true, false, false, false, false, false, false, false, false, false, false] rfl rfl (take_ofW HT_.out HW_.out (by kernel_rfl)) (fun _ _ _ h => h) (Or.inl ⟨by rfl, ?_⟩) hHeld ?_ ?_
            rotate_left
            · rintro w' ⟨s0, s1, s2⟩
              go_simp
              with_reducible rfl
            rotate_left
            · simp only [Act.put, List.setIfInBounds_toArray, List.set_cons_zero, List.set_cons_succ, i64_w, i32_w]
              rfl
            refine take_ (i := 3) (N := (some 38)) (v := ?_) (a' := ?_) #[true, true, true, true, false, false, false, false, false, false, false, false, false] rfl rfl (take_ofW HT_.out HW_.out (by kernel_rfl)) (fun _ _ _ h => h) (Or.inl ⟨by rfl, ?_⟩) hHeld ?_ ?_
            rotate_left
            · rintro w' ⟨s0, s1, s2⟩
              go_simp
              with_reducible rfl
            rotate_left
            · simp only [Act.put, List.setIfInBounds_toArray, List.set_cons_zero, List.set_cons_succ, i64_w, i32_w]
              rfl
            refine pure_ (i := 4) (N := (some 39)) (v := ?_) (a' := ?_) #[true, true, true, true, true, false, false, false, false, false, false, false, false] rfl rfl (any_of HT_.out (by kernel_rfl)) (fun _ _ _ h => h) (Or.inl ⟨by rfl, ?_⟩) ?_ ?_
            rotate_left
            · intro w'
              go_simp
              with_reducible rfl
            rotate_left
            · simp only [Act.put, List.setIfInBounds_toArray, List.set_cons_zero, List.set_cons_succ, i64_w, i32_w]
              rfl
            refine pure_ (i := 5) (N := (some 40)) (v := ?_) (a' := ?_) #[true, true, true, true, true, true, false, false, false, false, false, false, false] rfl rfl (any_of HT_.out (by kernel_rfl)) (fun _ _ _ h => h) (Or.inl ⟨by rfl, ?_⟩) ?_ ?_
            rotate_left
            · intro w'
              go_simp
              with_reducible rfl
            rotate_left
            · simp only [Act.put, List.setIfInBounds_toArray, List.set_cons_zero, List.set_cons_succ, i64_w, i32_w]
              rfl
            refine take_ (i := 6) (N := (some 41)) (v := ?_) (a' := ?_) #[true, true, true, true, true, true, true, false, false, false, false, false, false] rfl rfl (take_ofW HT_.out HW_.out (by kernel_rfl)) (fun _ _ _ h => h) (Or.inl ⟨by rfl, ?_⟩) hHeld ?_ ?_
            rotate_left
            · rintro w' ⟨s0, s1, s2⟩
              go_simp
              with_reducible rfl
            rotate_left
            · simp only [Act.put, List.setIfInBounds_toArray, List.set_cons_zero, List.set_cons_succ, i64_w, i32_w]
              rfl
            refine pure_ (i := 7) (N := (some 42)) (v := ?_) (a' := ?_) #[true, true, true, true, true, true, true, true, false, false, false, false, false] rfl rfl (any_of HT_.out (by kernel_rfl)) (fun _ _ _ h => h) (Or.inl ⟨by rfl, ?_⟩) ?_ ?_
            rotate_left
            · intro w'
              go_simp
              with_reducible rfl
            rotate_left
            · simp only [Act.put, List.setIfInBounds_toArray, List.set_cons_zero, List.set_cons_succ, i64_w, i32_w]
              rfl
            refine pure_ (i := 8) (N := (some 43)) (v := ?_) (a' := ?_) #[true, true, true, true, true, true, true, true, true, false, false, false, false] rfl rfl (any_of HT_.out (by kernel_rfl)) (fun _ _ _ h => h) (Or.inl ⟨by rfl, ?_⟩) ?_ ?_
            rotate_left
            · intro w'
              go_simp
              with_reducible rfl
            rotate_left
            · simp only [Act.put, List.setIfInBounds_toArray, List.set_cons_zero, List.set_cons_succ, i64_w, i32_w]
              rfl
            refine pure_ (i := 9) (N := (some 44)) (v := ?_) (a' := ?_) #[true, true, true, true, true, true, true, true, true, true, false, false, false] rfl rfl (any_of HT_.out (by kernel_rfl)) (fun _ _ _ h => h) (Or.inl ⟨by rfl, ?_⟩) ?_ ?_
            rotate_left
            · intro w'
              go_simp
              with_reducible rfl
            rotate_left
            · simp only [Act.put, List.setIfInBounds_toArray, List.set_cons_zero, List.set_cons_succ, i64_w, i32_w]
              rfl
            refine take_ (i := 10) (N := (some 45)) (v := ?_) (a' := ?_) #[true, true, true, true, true, true, true, true, true, true, true, false, false] rfl rfl (take_ofW HT_.out HW_.out (by kernel_rfl)) (fun _ _ _ h => h) (Or.inl ⟨by rfl, ?_⟩) hHeld ?_ ?_
            rotate_left
            · rintro w' ⟨s0, s1, s2⟩
              go_simp
              with_reducible rfl
            rotate_left
            · simp only [Act.put, List.setIfInBounds_toArray, List.set_cons_zero, List.set_cons_succ, i64_w, i32_w]
              rfl
            refine pure_ (i := 11) (N := (some 46)) (v := ?_) (a' := ?_) #[true, true, true, true, true, true, true, true, true, true, true, true, false] rfl rfl (any_of HT_.out (by kernel_rfl)) (fun _ _ _ h => h) (Or.inl ⟨by rfl, ?_⟩) ?_ ?_
            rotate_left
            · intro w'
              go_simp
              with_reducible rfl
            rotate_left
            · simp only [Act.put, List.setIfInBounds_toArray, List.set_cons_zero, List.set_cons_succ, i64_w, i32_w]
              rfl
            refine pure_ (i := 12) (N := (some 47)) (v := ?_) (a' := ?_) #[true, true, true, true, true, true, true, true, true, true, true, true, true] rfl rfl (any_of HT_.out (by kernel_rfl)) (fun _ _ _ h => h) (Or.inl ⟨by rfl, ?_⟩) ?_ ?_
            rotate_left
            · intro w'
              go_simp
              with_reducible rfl
            rotate_left
            · simp only [Act.put, List.setIfInBounds_toArray, List.set_cons_zero, List.set_cons_succ, i64_w, i32_w]
              rfl
            refine done_ (done_of HT_.out (by kernel_rfl)) ?_
            generalize w4.drew = w5 at *
            go_wp2
            go_ret
            exact ⟨rfl, H4.out.1⟩
          · have h3b : (yy.f0 == 3) = false := by simpa using h3
            clear h3 hk
            refine start_ (n := 13) (S := fun w' => w'.cell? ⟨wr.heap.size, 0, none⟩ = some (.int .i64 yy.f0) ∧ w'.cell? ⟨w.heap.size, 4, none⟩ = some (.slice (some ad4) x.f4.length c4) ∧ w'.cell? ad4 = some (.int .i64 zz.f0)) (ds := []) #[false, false, false, false, false, false, false, false, false, false, false, false, false] (by kernel_rfl) rfl rfl HS.out (fun hHeld => ?_)
            refine with_tabW (T := unk11.T) (B := unk11.B) unk11.tab unk11.bits (fun HT_ HW_ => ?_)
            refine pure_ (i := 0) (N := (some 35)) (v := ?_) (a' := ?_) #[true, false, false, false, false, false, false, false, false, false, false, false, false] rfl rfl (any_of HT_.out (by kernel_rfl)) (fun _ _ _ h => h) (Or.inl ⟨by rfl, ?_⟩) ?_ ?_
            rotate_left
            · intro w'
              go_simp
              with_reducible rfl
            rotate_left
            · simp only [Act.put, List.setIfInBounds_toArray, List.set_cons_zero, List.set_cons_succ, i64_w, i32_w]
              rfl
            refine pure_ (i := 2) (N := (some 37)) (v := ?_) (a' := ?_) #[true, false, true, false, false, false, false, false, false, false, false, false, false] rfl rfl (any_of HT_.out (by kernel_rfl)) (fun _ _ _ h => h) (Or.inl ⟨by rfl, ?_⟩) ?_ ?_
            rotate_left
            · intro w'
              go_simp
              with_reducible rfl
            rotate_left
            · simp only [Act.put, List.setIfInBounds_toArray, List.set_cons_zero, List.set_cons_succ, i64_w, i32_w]
              rfl
            refine take_ (i := 1) (N := (some 36)) (v := ?_) (a' := ?_) #[true, true, true, false, false, false, false, false, false, false, false, false, false] rfl rfl (take_ofW HT_.out HW_.out (by kernel_rfl)) (fun _ _ _ h => h) (Or.inl ⟨by rfl, ?_⟩) hHeld ?_ ?_
            rotate_left
            · rintro w' ⟨s0, s1, s2⟩
              go_simp
              with_reducible rfl
            rotate_left
            · simp only [Act.put, List.setIfInBounds_toArray, List.set_cons_zero, List.set_cons_succ, i64_w, i32_w]
              rfl
            refine take_ (i := 3) (N := (some 38)) (v := ?_) (a' := ?_) #[true, true, true, true, false, false, false, false, false, false, false, false, false] rfl rfl (take_ofW HT_.out HW_.out (by kernel_rfl)) (fun _ _ _ h => h) (Or.inl ⟨by rfl, ?_⟩) hHeld ?_ ?_
            rotate_left
            · rintro w' ⟨s0, s1, s2⟩
              go_simp
              with_reducible rfl
            rotate_left
            · simp only [Act.put, List.setIfInBounds_toArray, List.set_cons_zero, List.set_cons_succ, i64_w, i32_w]
              rfl
            refine pure_ (i := 4) (N := (some 39)) (v := ?_) (a' := ?_) #[true, true, true, true, true, false, false, false, false, false, false, false, false] rfl rfl (any_of HT_.out (by kernel_rfl)) (fun _ _ _ h => h) (Or.inl ⟨by rfl, ?_⟩) ?_ ?_
            rotate_left
            · intro w'
              go_simp
              with_reducible rfl
            rotate_left
            · simp only [Act.put, List.setIfInBounds_toArray, List.set_cons_zero, List.set_cons_succ, i64_w, i32_w]
              rfl
            refine pure_ (i := 5) (N := (some 40)) (v := ?_) (a' := ?_) #[true, true, true, true, true, true, false, false, false, false, false, false, false] rfl rfl (any_of HT_.out (by kernel_rfl)) (fun _ _ _ h => h) (Or.inl ⟨by rfl, ?_⟩) ?_ ?_
            rotate_left
            · intro w'
              go_simp
              with_reducible rfl
            rotate_left
            · simp only [Act.put, List.setIfInBounds_toArray, List.set_cons_zero, List.set_cons_succ, i64_w, i32_w]
              rfl
            refine take_ (i := 6) (N := (some 41)) (v := ?_) (a' := ?_) #[true, true, true, true, true, true, true, false, false, false, false, false, false] rfl rfl (take_ofW HT_.out HW_.out (by kernel_rfl)) (fun _ _ _ h => h) (Or.inl ⟨by rfl, ?_⟩) hHeld ?_ ?_
            rotate_left
            · rintro w' ⟨s0, s1, s2⟩
              go_simp
              with_reducible rfl
            rotate_left
            · simp only [Act.put, List.setIfInBounds_toArray, List.set_cons_zero, List.set_cons_succ, i64_w, i32_w]
              rfl
            refine pure_ (i := 7) (N := (some 42)) (v := ?_) (a' := ?_) #[true, true, true, true, true, true, true, true, false, false, false, false, false] rfl rfl (any_of HT_.out (by kernel_rfl)) (fun _ _ _ h => h) (Or.inl ⟨by rfl, ?_⟩) ?_ ?_
            rotate_left
            · intro w'
              go_simp
              with_reducible rfl
            rotate_left
            · simp only [Act.put, List.setIfInBounds_toArray, List.set_cons_zero, List.set_cons_succ, i64_w, i32_w]
              rfl
            refine pure_ (i := 8) (N := (some 43)) (v := ?_) (a' := ?_) #[true, true, true, true, true, true, true, true, true, false, false, false, false] rfl rfl (any_of HT_.out (by kernel_rfl)) (fun _ _ _ h => h) (Or.inl ⟨by rfl, ?_⟩) ?_ ?_
            rotate_left
            · intro w'
              go_simp
              with_reducible rfl
            rotate_left
            · simp only [Act.put, List.setIfInBounds_toArray, List.set_cons_zero, List.set_cons_succ, i64_w, i32_w]
              rfl
            refine pure_ (i := 9) (N := (some 44)) (v := ?_) (a' := ?_) #[true, true, true, true, true, true, true, true, true, true, false, false, false] rfl rfl (any_of HT_.out (by kernel_rfl)) (fun _ _ _ h => h) (Or.inl ⟨by rfl, ?_⟩) ?_ ?_
            rotate_left
            · intro w'
              go_simp
              with_reducible rfl
            rotate_left
            · simp only [Act.put, List.setIfInBounds_toArray, List.set_cons_zero, List.set_cons_succ, i64_w, i32_w]
              rfl
            refine take_ (i := 10) (N := (some 45)) (v := ?_) (a' := ?_) #[true, true, true, true, true, true, true, true, true, true, true, false, false] rfl rfl (take_ofW HT_.out HW_.out (by kernel_rfl)) (fun _ _ _ h => h) (Or.inl ⟨by rfl, ?_⟩) hHeld ?_ ?_
            rotate_left
            · rintro w' ⟨s0, s1, s2⟩
              go_simp
              with_reducible rfl
            rotate_left
            · simp only [Act.put, List.setIfInBounds_toArray, List.set_cons_zero, List.set_cons_succ, i64_w, i32_w]
              rfl
            refine pure_ (i := 11) (N := (some 46)) (v := ?_) (a' := ?_) #[true, true, true, true, true, true, true, true, true, true, true, true, false] rfl rfl (any_of HT_.out (by kernel_rfl)) (fun _ _ _ h => h) (Or.inl ⟨by rfl, ?_⟩) ?_ ?_
            rotate_left
            · intro w'
              go_simp
              with_reducible rfl
            rotate_left
            · simp only [Act.put, List.setIfInBounds_toArray, List.set_cons_zero, List.set_cons_succ, i64_w, i32_w]
              rfl
            refine pure_ (i := 12) (N := (some 47)) (v := ?_) (a' := ?_) #[true, true, true, true, true, true, true, true, true, true, true, true, true] rfl rfl (any_of HT_.out (by kernel_rfl)) (fun _ _ _ h => h) (Or.inl ⟨by rfl, ?_⟩) ?_ ?_
            rotate_left
            · intro w'
              go_simp
              with_reducible rfl
            rotate_left
            · simp only [Act.put, List.setIfInBounds_toArray, List.set_cons_zero, List.set_cons_succ, i64_w, i32_w]
              rfl
            refine done_ (done_of HT_.out (by kernel_rfl)) ?_
            generalize w4.drew = w5 at *
            go_wp2_with fail
            go_roundg (gk - 1)
            case measure => have := HJ.out; omega
            case rel => exact ⟨j + 1, by rw [← HNL.out], by go_num, ⟨by have := HJ.out; omega⟩, ⟨H4.out.2⟩, ⟨H4.out.1⟩⟩
        · have hkn : (yy.f0 != zz.f0) = true := by simpa using hk
          clear hk
          refine start_ (n := 13) (S := fun w' => w'.cell? ⟨wr.heap.size, 0, none⟩ = some (.int .i64 yy.f0) ∧ w'.cell? ⟨w.heap.size, 4, none⟩ = some (.slice (some ad4) x.f4.length c4) ∧ w'.cell? ad4 = some (.int .i64 zz.f0)) (ds := []) #[false, false, false, false, false, false, false, false, false, false, false, false, false] (by kernel_rfl) rfl rfl HS.out (fun hHeld => ?_)
          refine with_tabW (T := unk11.T) (B := unk11.B) unk11.tab unk11.bits (fun HT_ HW_ => ?_)
          refine pure_ (i := 0) (N := (some 35)) (v := ?_) (a' := ?_) #[true, false, false, false, false, false, false, false, false, false, false, false, false] rfl rfl (any_of HT_.out (by kernel_rfl)) (fun _ _ _ h => h) (Or.inl ⟨by rfl, ?_⟩) ?_ ?_
          rotate_left
          · intro w'
            go_simp
            with_reducible rfl
          rotate_left
          · simp only [Act.put, List.setIfInBounds_toArray, List.set_cons_zero, List.set_cons_succ, i64_w, i32_w]
            rfl
          refine pure_ (i := 2) (N := (some 37)) (v := ?_) (a' := ?_) #[true, false, true, false, false, false, false, false, false, false, false, false, false] rfl rfl (any_of HT_.out (by kernel_rfl)) (fun _ _ _ h => h) (Or.inl ⟨by rfl, ?_⟩) ?_ ?_
          rotate_left
          · intro w'
            go_simp
            with_reducible rfl
          rotate_left
          · simp only [Act.put, List.setIfInBounds_toArray, List.set_cons_zero, List.set_cons_succ, i64_w, i32_w]
            rfl
          refine take_ (i := 1) (N := (some 36)) (v := ?_) (a' := ?_) #[true, true, true, false, false, false, false, false, false, false, false, false, false] rfl rfl (take_ofW HT_.out HW_.out (by kernel_rfl)) (fun _ _ _ h => h) (Or.inl ⟨by rfl, ?_⟩) hHeld ?_ ?_
          rotate_left
          · rintro w' ⟨s0, s1, s2⟩
            go_simp
            with_reducible rfl
          rotate_left
          · simp only [Act.put, List.setIfInBounds_toArray, List.set_cons_zero, List.set_cons_succ, i64_w, i32_w]
            rfl
          refine take_ (i := 3) (N := (some 38)) (v := ?_) (a' := ?_) #[true, true, true, true, false, false, false, false, false, false, false, false, false] rfl rfl (take_ofW HT_.out HW_.out (by kernel_rfl)) (fun _ _ _ h => h) (Or.inl ⟨by rfl, ?_⟩) hHeld ?_ ?_
          rotate_left
          · rintro w' ⟨s0, s1, s2⟩
            go_simp
            with_reducible rfl
          rotate_left
          · simp only [Act.put, List.setIfInBounds_toArray, List.set_cons_zero, List.set_cons_succ, i64_w, i32_w]
            rfl
          refine pure_ (i := 4) (N := (some 39)) (v := ?_) (a' := ?_) #[true, true, true, true, true, false, false, false, false, false, false, false, false] rfl rfl (any_of HT_.out (by kernel_rfl)) (fun _ _ _ h => h) (Or.inl ⟨by rfl, ?_⟩) ?_ ?_
          rotate_left
          · intro w'
            go_simp
            with_reducible rfl
          rotate_left
          · simp only [Act.put, List.setIfInBounds_toArray, List.set_cons_zero, List.set_cons_succ, i64_w, i32_w]
            rfl
          refine pure_ (i := 5) (N := (some 40)) (v := ?_) (a' := ?_) #[true, true, true, true, true, true, false, false, false, false, false, false, false] rfl rfl (any_of HT_.out (by kernel_rfl)) (fun _ _ _ h => h) (Or.inl ⟨by rfl, ?_⟩) ?_ ?_
          rotate_left
          · intro w'
            go_simp
            with_reducible rfl
          rotate_left
          · simp only [Act.put, List.setIfInBounds_toArray, List.set_cons_zero, List.set_cons_succ, i64_w, i32_w]
            rfl
          refine take_ (i := 6) (N := (some 41)) (v := ?_) (a' := ?_) #[true, true, true, true, true, true, true, false, false, false, false, false, false] rfl rfl (take_ofW HT_.out HW_.out (by kernel_rfl)) (fun _ _ _ h => h) (Or.inl ⟨by rfl, ?_⟩) hHeld ?_ ?_
          rotate_left
          · rintro w' ⟨s0, s1, s2⟩
            go_simp
            with_reducible rfl
          rotate_left
          · simp only [Act.put, List.setIfInBounds_toArray, List.set_cons_zero, List.set_cons_succ, i64_w, i32_w]
            rfl
          refine pure_ (i := 7) (N := (some 42)) (v := ?_) (a' := ?_) #[true, true, true, true, true, true, true, true, false, false, false, false, false] rfl rfl (any_of HT_.out (by kernel_rfl)) (fun _ _ _ h => h) (Or.inl ⟨by rfl, ?_⟩) ?_ ?_
          rotate_left
          · intro w'
            go_simp
            with_reducible rfl
          rotate_left
          · simp only [Act.put, List.setIfInBounds_toArray, List.set_cons_zero, List.set_cons_succ, i64_w, i32_w]
            rfl
          refine pure_ (i := 8) (N := (some 43)) (v := ?_) (a' := ?_) #[true, true, true, true, true, true, true, true, true, false, false, false, false] rfl rfl (any_of HT_.out (by kernel_rfl)) (fun _ _ _ h => h) (Or.inl ⟨by rfl, ?_⟩) ?_ ?_
          rotate_left
          · intro w'
            go_simp
            with_reducible rfl
          rotate_left
          · simp only [Act.put, List.setIfInBounds_toArray, List.set_cons_zero, List.set_cons_succ, i64_w, i32_w]
            rfl
          refine pure_ (i := 9) (N := (some 44)) (v := undef) (a' := ?_) #[true, true, true, true, true, true, true, true, true, true, false, false, false] rfl rfl (any_of HT_.out (by kernel_rfl)) (fun _ _ _ h => h) (Or.inr ⟨by rfl, rfl⟩) ?_ ?_
          rotate_left
          · (simp only [Act.put, List.setIfInBounds_toArray, List.set_cons_zero, List.set_cons_succ, i64_w, i32_w]; rfl)
          refine pure_ (i := 10) (N := (some 45)) (v := undef) (a' := ?_) #[true, true, true, true, true, true, true, true, true, true, true, false, false] rfl rfl (any_of HT_.out (by kernel_rfl)) (fun _ _ _ h => h) (Or.inr ⟨by rfl, rfl⟩) ?_ ?_
          rotate_left
          · (simp only [Act.put, List.setIfInBounds_toArray, List.set_cons_zero, List.set_cons_succ, i64_w, i32_w]; rfl)
          refine pure_ (i := 11) (N := (some 46)) (v := undef) (a' := ?_) #[true, true, true, true, true, true, true, true, true, true, true, true, false] rfl rfl (any_of HT_.out (by kernel_rfl)) (fun _ _ _ h => h) (Or.inr ⟨by rfl, rfl⟩) ?_ ?_
          rotate_left
          · (simp only [Act.put, List.setIfInBounds_toArray, List.set_cons_zero, List.set_cons_succ, i64_w, i32_w]; rfl)
          refine pure_ (i := 12) (N := (some 47)) (v := ?_) (a' := ?_) #[true, true, true, true, true, true, true, true, true, true, true, true, true] rfl rfl (any_of HT_.out (by kernel_rfl)) (fun _ _ _ h => h) (Or.inl ⟨by rfl, ?_⟩) ?_ ?_
          rotate_left
          · intro w'
            go_simp
            with_reducible rfl
          rotate_left
          · simp only [Act.put, List.setIfInBounds_toArray, List.set_cons_zero, List.set_cons_succ, i64_w, i32_w]
            rfl
          refine done_ (done_of HT_.out (by kernel_rfl)) ?_
          generalize w4.drew = w5 at *
          go_wp2
          go_ret
          exact ⟨rfl, H4.out.1⟩
      · go_wp2_with fail
        have HNL : Aside0 (true = !(x.f4.take (j + 1)).all (has nameB)) := ⟨by
          have h1 := HLK.out
          rw [HA1.out]
          cases hq : (x.f4.take j).all (has nameB)
          · simp
          · rw [hq] at h1; cases h1⟩
        obtain ⟨w4, e4⟩ : ∃ w4, w4 = (w3.alloc (.cells #[.int .i64 sf.f0, .string sf.f1, .string sf.f2, .slice D3 sf.f3.length d3, .slice D4 sf.f4.length d4] 25)) := ⟨_, rfl⟩
        rw [← e4]
        have hb4 : Below w.heap.size w w4 := by rw [e4]; exact HB3.out.alloc HB3.out.size _
        have hx4 : inVar w4 w.heap.size x A3 c3 (some ad4) c4 := by rw [e4]; exact (heap_old _ (lt_of_block HX3.out)).trans HX3.out
        have hy4 : inVar w4 wr.heap.size yy B3 b3 B4 b4 := by rw [e4]; exact (heap_old _ (lt_of_block HY3.out)).trans HY3.out
        have hS : w4.drew.cell? ⟨wr.heap.size, 0, none⟩ = some (.int .i64 yy.f0) ∧ w4.drew.cell? ⟨w.heap.size, 4, none⟩ = some (.slice (some ad4) x.f4.length c4) ∧ w4.drew.cell? ad4 = some (.int .i64 zz.f0) :=
          ⟨(cell_of_block (i := 0) hy4).trans (show _ = some _ from rfl), (cell_of_block (i := 4) hx4).trans (show _ = some _ from rfl), (hb4.cell (World.block_lt_of_cell? w _ HK0.out)).trans HK0.out⟩
        have HS := Aside0.mk hS
        have H4 := Aside0.mk (And.intro hb4.drew (show inVar w4.drew w.heap.size x A3 c3 (some ad4) c4 from hx4))
        clear hb4 hx4 hy4 hS e4
        by_cases hk : yy.f0 = zz.f0
        · have hkn : (yy.f0 != zz.f0) = false := by simpa using hk
          by_cases h3 : yy.f0 = 3
          · have h3b : (yy.f0 == 3) = true := by simpa using h3
            clear h3 hk
            refine start_ (n := 13) (S := fun w' => w'.cell? ⟨wr.heap.size, 0, none⟩ = some (.int .i64 yy.f0) ∧ w'.cell? ⟨w.heap.size, 4, none⟩ = some (.slice (some ad4) x.f4.length c4) ∧ w'.cell? ad4 = some (.int .i64 zz.f0)) (ds := []) #[false, false, false, false, false, false, false, false, false, false, false, false, false] (by kernel_rfl) rfl rfl HS.out (fun hHeld => ?_)
            refine with_tabW (T := unk11.T) (B := unk11.B) unk11.tab unk11.bits (fun HT_ HW_ => ?_)
            refine pure_ (i := 0) (N := (some 35)) (v := ?_) (a' := ?_) #[true, false, false, false, false, false, false, false, false, false, false, false, false] rfl rfl (any_of HT_.out (by kernel_rfl)) (fun _ _ _ h => h) (Or.inl ⟨by rfl, ?_⟩) ?_ ?_
            rotate_left
            · intro w'
              go_simp
              with_reducible rfl
            rotate_left
            · simp only [Act.put, List.setIfInBounds_toArray, List.set_cons_zero, List.set_cons_succ, i64_w, i32_w]
              rfl
            refine pure_ (i := 2) (N := (some 37)) (v := ?_) (a' := ?_) #[true, false, true, false, false, false, false, false, false, false, false, false, false] rfl rfl (any_of HT_.out (by kernel_rfl)) (fun _ _ _ h => h) (Or.inl ⟨by rfl, ?_⟩) ?_ ?_
            rotate_left
            · intro w'
              go_simp
              with_reducible rfl
            rotate_left
            · simp only [Act.put, List.setIfInBounds_toArray, List.set_cons_zero, List.set_cons_succ, i64_w, i32_w]
              rfl
            refine take_ (i := 1) (N := (some 36)) (v := ?_) (a' := ?_) #[true, true, true, false, false, false, false, false, false, false, false, false, false] rfl rfl (take_ofW HT_.out HW_.out (by kernel_rfl)) (fun _ _ _ h => h) (Or.inl ⟨by rfl, ?_⟩) hHeld ?_ ?_
            rotate_left
            · rintro w' ⟨s0, s1, s2⟩
              go_simp
              with_reducible rfl
            rotate_left
            · simp only [Act.put, List.setIfInBounds_toArray, List.set_cons_zero, List.set_cons_succ, i64_w, i32_w]
              rfl
            refine take_ (i := 3) (N := (some 38)) (v := ?_) (a' := ?_) #[true, true, true, true, false, false, false, false, false, false, false, false, false] rfl rfl (take_ofW HT_.out HW_.out (by kernel_rfl)) (fun _ _ _ h => h) (Or.inl ⟨by rfl, ?_⟩) hHeld ?_ ?_
            rotate_left
            · rintro w' ⟨s0, s1, s2⟩
              go_simp
              with_reducible rfl
            rotate_left
            · simp only [Act.put, List.setIfInBounds_toArray, List.set_cons_zero, List.set_cons_succ, i64_w, i32_w]
              rfl
            refine pure_ (i := 4) (N := (some 39)) (v := ?_) (a' := ?_) #[true, true, true, true, true, false, false, false, false, false, false, false, false] rfl rfl (any_of HT_.out (by kernel_rfl)) (fun _ _ _ h => h) (Or.inl ⟨by rfl, ?_⟩) ?_ ?_
            rotate_left
            · intro w'
              go_simp
              with_reducible rfl
            rotate_left
            · simp only [Act.put, List.setIfInBounds_toArray, List.set_cons_zero, List.set_cons_succ, i64_w, i32_w]
              rfl
            refine pure_ (i := 5) (N := (some 40)) (v := ?_) (a' := ?_) #[true, true, true, true, true, true, false, false, false, false, false, false, false] rfl rfl (any_of HT_.out (by kernel_rfl)) (fun _ _ _ h => h) (Or.inl ⟨by rfl, ?_⟩) ?_ ?_
            rotate_left
            · intro w'
              go_simp
              with_reducible rfl
            rotate_left
            · simp only [Act.put, List.setIfInBounds_toArray, List.set_cons_zero, List.set_cons_succ, i64_w, i32_w]
              rfl
            refine take_ (i := 6) (N := (some 41)) (v := ?_) (a' := ?_) #[true, true, true, true, true, true, true, false, false, false, false, false, false] rfl rfl (take_ofW HT_.out HW_.out (by kernel_rfl)) (fun _ _ _ h => h) (Or.inl ⟨by rfl, ?_⟩) hHeld ?_ ?_
            rotate_left
            · rintro w' ⟨s0, s1, s2⟩
              go_simp
              with_reducible rfl
            rotate_left
            · simp only [Act.put, List.setIfInBounds_toArray, List.set_cons_zero, List.set_cons_succ, i64_w, i32_w]
              rfl
            refine pure_ (i := 7) (N := (some 42)) (v := ?_) (a' := ?_) #[true, true, true, true, true, true, true, true, false, false, false, false, false] rfl rfl (any_of HT_.out (by kernel_rfl)) (fun _ _ _ h => h) (Or.inl ⟨by rfl, ?_⟩) ?_ ?_
            rotate_left
            · intro w'
              go_simp
              with_reducible rfl
            rotate_left
            · simp only [Act.put, List.setIfInBounds_toArray, List.set_cons_zero, List.set_cons_succ, i64_w, i32_w]
              rfl
            refine pure_ (i := 8) (N := (some 43)) (v := ?_) (a' := ?_) #[true, true, true, true, true, true, true, true, true, false, false, false, false] rfl rfl (any_of HT_.out (by kernel_rfl)) (fun _ _ _ h => h) (Or.inl ⟨by rfl, ?_⟩) ?_ ?_
            rotate_left
            · intro w'
              go_simp
              with_reducible rfl
            rotate_left
            · simp only [Act.put, List.setIfInBounds_toArray, List.set_cons_zero, List.set_cons_succ, i64_w, i32_w]
              rfl
            refine pure_ (i := 9) (N := (some 44)) (v := ?_) (a' := ?_) #[true, true, true, true, true, true, true, true, true, true, false, false, false] rfl rfl (any_of HT_.out (by kernel_rfl)) (fun _ _ _ h => h) (Or.inl ⟨by rfl, ?_⟩) ?_ ?_
            rotate_left
            · intro w'
              go_simp
              with_reducible rfl
            rotate_left
            · simp only [Act.put, List.setIfInBounds_toArray, List.set_cons_zero, List.set_cons_succ, i64_w, i32_w]
              rfl
            refine take_ (i := 10) (N := (some 45)) (v := ?_) (a' := ?_) #[true, true, true, true, true, true, true, true, true, true, true, false, false] rfl rfl (take_ofW HT_.out HW_.out (by kernel_rfl)) (fun _ _ _ h => h) (Or.inl ⟨by rfl, ?_⟩) hHeld ?_ ?_
            rotate_left
            · rintro w' ⟨s0, s1, s2⟩
              go_simp
              with_reducible rfl
            rotate_left
            · simp only [Act.put, List.setIfInBounds_toArray, List.set_cons_zero, List.set_cons_succ, i64_w, i32_w]
              rfl
            refine pure_ (i := 11) (N := (some 46)) (v := ?_) (a' := ?_) #[true, true, true, true, true, true, true, true, true, true, true, true, false] rfl rfl (any_of HT_.out (by kernel_rfl)) (fun _ _ _ h => h) (Or.inl ⟨by rfl, ?_⟩) ?_ ?_
            rotate_left
            · intro w'
              go_simp
              with_reducible rfl
            rotate_left
            · simp only [Act.put, List.setIfInBounds_toArray, List.set_cons_zero, List.set_cons_succ, i64_w, i32_w]
              rfl
            refine pure_ (i := 12) (N := (some 47)) (v := ?_) (a' := ?_) #[true, true, true, true, true, true, true, true, true, true, true, true, true] rfl rfl (any_of HT_.out (by kernel_rfl)) (fun _ _ _ h => h) (Or.inl ⟨by rfl, ?_⟩) ?_ ?_
            rotate_left
            · intro w'
              go_simp
              with_reducible rfl
            rotate_left
            · simp only [Act.put, List.setIfInBounds_toArray, List.set_cons_zero, List.set_cons_succ, i64_w, i32_w]
              rfl
            refine done_ (done_of HT_.out (by kernel_rfl)) ?_
            generalize w4.drew = w5 at *
            go_wp2
            go_ret
            exact ⟨rfl, H4.out.1⟩
          · have h3b : (yy.f0 == 3) = false := by simpa using h3
            clear h3 hk
            refine start_ (n := 13) (S := fun w' => w'.cell? ⟨wr.heap.size, 0, none⟩ = some (.int .i64 yy.f0) ∧ w'.cell? ⟨w.heap.size, 4, none⟩ = some (.slice (some ad4) x.f4.length c4) ∧ w'.cell? ad4 = some (.int .i64 zz.f0)) (ds := []) #[false, false, false, false, false, false, false, false, false, false, false, false, false] (by kernel_rfl) rfl rfl HS.out (fun hHeld => ?_)
            refine with_tabW (T := unk11.T) (B := unk11.B) unk11.tab unk11.bits (fun HT_ HW_ => ?_)
            refine pure_ (i := 0) (N := (some 35)) (v := ?_) (a' := ?_) #[true, false, false, false, false, false, false, false, false, false, false, false, false] rfl rfl (any_of HT_.out (by kernel_rfl)) (fun _ _ _ h => h) (Or.inl ⟨by rfl, ?_⟩) ?_ ?_
            rotate_left
            · intro w'
              go_simp
              with_reducible rfl
            rotate_left
            · simp only [Act.put, List.setIfInBounds_toArray, List.set_cons_zero, List.set_cons_succ, i64_w, i32_w]
              rfl
            refine pure_ (i := 2) (N := (some 37)) (v := ?_) (a' := ?_) #[true, false, true, false, false, false, false, false, false, false, false, false, false] rfl rfl (any_of HT_.out (by kernel_rfl)) (fun _ _ _ h => h) (Or.inl ⟨by rfl, ?_⟩) ?_ ?_
            rotate_left
            · intro w'
              go_simp
              with_reducible rfl
            rotate_left
            · simp only [Act.put, List.setIfInBounds_toArray, List.set_cons_zero, List.set_cons_succ, i64_w, i32_w]
              rfl
            refine take_ (i := 1) (N := (some 36)) (v := ?_) (a' := ?_) #[true, true, true, false, false, false, false, false, false, false, false, false, false] rfl rfl (take_ofW HT_.out HW_.out (by kernel_rfl)) (fun _ _ _ h => h) (Or.inl ⟨by rfl, ?_⟩) hHeld ?_ ?_
            rotate_left
            · rintro w' ⟨s0, s1, s2⟩
              go_simp
              with_reducible rfl
            rotate_left
            · simp only [Act.put, List.setIfInBounds_toArray, List.set_cons_zero, List.set_cons_succ, i64_w, i32_w]
              rfl
            refine take_ (i := 3) (N := (some 38)) (v := ?_) (a' := ?_) #[true, true, true, true, false, false, false, false, false, false, false, false, false] rfl rfl (take_ofW HT_.out HW_.out (by kernel_rfl)) (fun _ _ _ h => h) (Or.inl ⟨by rfl, ?_⟩) hHeld ?_ ?_
            rotate_left
            · rintro w' ⟨s0, s1, s2⟩
              go_simp
              with_reducible rfl
            rotate_left
            · simp only [Act.put, List.setIfInBounds_toArray, List.set_cons_zero, List.set_cons_succ, i64_w, i32_w]
              rfl
            refine pure_ (i := 4) (N := (some 39)) (v := ?_) (a' := ?_) #[true, true, true, true, true, false, false, false, false, false, false, false, false] rfl rfl (any_of HT_.out (by kernel_rfl)) (fun _ _ _ h => h) (Or.inl ⟨by rfl, ?_⟩) ?_ ?_
            rotate_left
            · intro w'
              go_simp
              with_reducible rfl
            rotate_left
            · simp only [Act.put, List.setIfInBounds_toArray, List.set_cons_zero, List.set_cons_succ, i64_w, i32_w]
              rfl
            refine pure_ (i := 5) (N := (some 40)) (v := ?_) (a' := ?_) #[true, true, true, true, true, true, false, false, false, false, false, false, false] rfl rfl (any_of HT_.out (by kernel_rfl)) (fun _ _ _ h => h) (Or.inl ⟨by rfl, ?_⟩) ?_ ?_
            rotate_left
            · intro w'
              go_simp
              with_reducible rfl
            rotate_left
            · simp only [Act.put, List.setIfInBounds_toArray, List.set_cons_zero, List.set_cons_succ, i64_w, i32_w]
              rfl
            refine take_ (i := 6) (N := (some 41)) (v := ?_) (a' := ?_) #[true, true, true, true, true, true, true, false, false, false, false, false, false] rfl rfl (take_ofW HT_.out HW_.out (by kernel_rfl)) (fun _ _ _ h => h) (Or.inl ⟨by rfl, ?_⟩) hHeld ?_ ?_
            rotate_left
            · rintro w' ⟨s0, s1, s2⟩
              go_simp
              with_reducible rfl
            rotate_left
            · simp only [Act.put, List.setIfInBounds_toArray, List.set_cons_zero, List.set_cons_succ, i64_w, i32_w]
              rfl
            refine pure_ (i := 7) (N := (some 42)) (v := ?_) (a' := ?_) #[true, true, true, true, true, true, true, true, false, false, false, false, false] rfl rfl (any_of HT_.out (by kernel_rfl)) (fun _ _ _ h => h) (Or.inl ⟨by rfl, ?_⟩) ?_ ?_
            rotate_left
            · intro w'
              go_simp
              with_reducible rfl
            rotate_left
            · simp only [Act.put, List.setIfInBounds_toArray, List.set_cons_zero, List.set_cons_succ, i64_w, i32_w]
              rfl
            refine pure_ (i := 8) (N := (some 43)) (v := ?_) (a' := ?_) #[true, true, true, true, true, true, true, true, true, false, false, false, false] rfl rfl (any_of HT_.out (by kernel_rfl)) (fun _ _ _ h => h) (Or.inl ⟨by rfl, ?_⟩) ?_ ?_
            rotate_left
            · intro w'
              go_simp
              with_reducible rfl
            rotate_left
            · simp only [Act.put, List.setIfInBounds_toArray, List.set_cons_zero, List.set_cons_succ, i64_w, i32_w]
              rfl
            refine pure_ (i := 9) (N := (some 44)) (v := ?_) (a' := ?_) #[true, true, true, true, true, true, true, true, true, true, false, false, false] rfl rfl (any_of HT_.out (by kernel_rfl)) (fun _ _ _ h => h) (Or.inl ⟨by rfl, ?_⟩) ?_ ?_
            rotate_left
            · intro w'
              go_simp
              with_reducible rfl
            rotate_left
            · simp only [Act.put, List.setIfInBounds_toArray, List.set_cons_zero, List.set_cons_succ, i64_w, i32_w]
              rfl
            refine take_ (i := 10) (N := (some 45)) (v := ?_) (a' := ?_) #[true, true, true, true, true, true, true, true, true, true, true, false, false] rfl rfl (take_ofW HT_.out HW_.out (by kernel_rfl)) (fun _ _ _ h => h) (Or.inl ⟨by rfl, ?_⟩) hHeld ?_ ?_
            rotate_left
            · rintro w' ⟨s0, s1, s2⟩
              go_simp
              with_reducible rfl
            rotate_left
            · simp only [Act.put, List.setIfInBounds_toArray, List.set_cons_zero, List.set_cons_succ, i64_w, i32_w]
              rfl
            refine pure_ (i := 11) (N := (some 46)) (v := ?_) (a' := ?_) #[true, true, true, true, true, true, true, true, true, true, true, true, false] rfl rfl (any_of HT_.out (by kernel_rfl)) (fun _ _ _ h => h) (Or.inl ⟨by rfl, ?_⟩) ?_ ?_
            rotate_left
            · intro w'
              go_simp
              with_reducible rfl
            rotate_left
            · simp only [Act.put, List.setIfInBounds_toArray, List.set_cons_zero, List.set_cons_succ, i64_w, i32_w]
              rfl
            refine pure_ (i := 12) (N := (some 47)) (v := ?_) (a' := ?_) #[true, true, true, true, true, true, true, true, true, true, true, true, true] rfl rfl (any_of HT_.out (by kernel_rfl)) (fun _ _ _ h => h) (Or.inl ⟨by rfl, ?_⟩) ?_ ?_
            rotate_left
            · intro w'
              go_simp
              with_reducible rfl
            rotate_left
            · simp only [Act.put, List.setIfInBounds_toArray, List.set_cons_zero, List.set_cons_succ, i64_w, i32_w]
              rfl
            refine done_ (done_of HT_.out (by kernel_rfl)) ?_
            generalize w4.drew = w5 at *
            go_wp2_with fail
            go_roundg (gk - 1)
            case measure => have := HJ.out; omega
            case rel => exact ⟨j + 1, by rw [← HNL.out], by go_num, ⟨by have := HJ.out; omega⟩, ⟨H4.out.2⟩, ⟨H4.out.1⟩⟩
        · have hkn : (yy.f0 != zz.f0) = true := by simpa using hk
          clear hk
          refine start_ (n := 13) (S := fun w' => w'.cell? ⟨wr.heap.size, 0, none⟩ = some (.int .i64 yy.f0) ∧ w'.cell? ⟨w.heap.size, 4, none⟩ = some (.slice (some ad4) x.f4.length c4) ∧ w'.cell? ad4 = some (.int .i64 zz.f0)) (ds := []) #[false, false, false, false, false, false, false, false, false, false, false, false, false] (by kernel_rfl) rfl rfl HS.out (fun hHeld => ?_)
          refine with_tabW (T := unk11.T) (B := unk11.B) unk11.tab unk11.bits (fun HT_ HW_ => ?_)
          refine pure_ (i := 0) (N := (some 35)) (v := ?_) (a' := ?_) #[true, false, false, false, false, false, false, false, false, false, false, false, false] rfl rfl (any_of HT_.out (by kernel_rfl)) (fun _ _ _ h => h) (Or.inl ⟨by rfl, ?_⟩) ?_ ?_
          rotate_left
          · intro w'
            go_simp
            with_reducible rfl
          rotate_left
          · simp only [Act.put, List.setIfInBounds_toArray, List.set_cons_zero, List.set_cons_succ, i64_w, i32_w]
            rfl
          refine pure_ (i := 2) (N := (some 37)) (v := ?_) (a' := ?_) #[true, false, true, false, false, false, false, false, false, false, false, false, false] rfl rfl (any_of HT_.out (by kernel_rfl)) (fun _ _ _ h => h) (Or.inl ⟨by rfl, ?_⟩) ?_ ?_
          rotate_left
          · intro w'
            go_simp
            with_reducible rfl
          rotate_left
          · simp only [Act.put, List.setIfInBounds_toArray, List.set_cons_zero, List.set_cons_succ, i64_w, i32_w]
            rfl
          refine take_ (i := 1) (N := (some 36)) (v := ?_) (a' := ?_) #[true, true, true, false, false, false, false, false, false, false, false, false, false] rfl rfl (take_ofW HT_.out HW_.out (by kernel_rfl)) (fun _ _ _ h => h) (Or.inl ⟨by rfl, ?_⟩) hHeld ?_ ?_
          rotate_left
          · rintro w' ⟨s0, s1, s2⟩
            go_simp
            with_reducible rfl
          rotate_left
          · simp only [Act.put, List.setIfInBounds_toArray, List.set_cons_zero, List.set_cons_succ, i64_w, i32_w]
            rfl
          refine take_ (i := 3) (N := (some 38)) (v := ?_) (a' := ?_) #[true, true, true, true, false, false, false, false, false, false, false, false, false] rfl rfl (take_ofW HT_.out HW_.out (by kernel_rfl)) (fun _ _ _ h => h) (Or.inl ⟨by rfl, ?_⟩) hHeld ?_ ?_
          rotate_left
          · rintro w' ⟨s0, s1, s2⟩
            go_simp
            with_reducible rfl
          rotate_left
          · simp only [Act.put, List.setIfInBounds_toArray, List.set_cons_zero, List.set_cons_succ, i64_w, i32_w]
            rfl
          refine pure_ (i := 4) (N := (some 39)) (v := ?_) (a' := ?_) #[true, true, true, true, true, false, false, false, false, false, false, false, false] rfl rfl (any_of HT_.out (by kernel_rfl)) (fun _ _ _ h => h) (Or.inl ⟨by rfl, ?_⟩) ?_ ?_
          rotate_left
          · intro w'
            go_simp
            with_reducible rfl
          rotate_left
          · simp only [Act.put, List.setIfInBounds_toArray, List.set_cons_zero, List.set_cons_succ, i64_w, i32_w]
            rfl
          refine pure_ (i := 5) (N := (some 40)) (v := ?_) (a' := ?_) #[true, true, true, true, true, true, false, false, false, false, false, false, false] rfl rfl (any_of HT_.out (by kernel_rfl)) (fun _ _ _ h => h) (Or.inl ⟨by rfl, ?_⟩) ?_ ?_
          rotate_left
          · intro w'
            go_simp
            with_reducible rfl
          rotate_left
          · simp only [Act.put, List.setIfInBounds_toArray, List.set_cons_zero, List.set_cons_succ, i64_w, i32_w]
            rfl
          refine take_ (i := 6) (N := (some 41)) (v := ?_) (a' := ?_) #[true, true, true, true, true, true, true, false, false, false, false, false, false] rfl rfl (take_ofW HT_.out HW_.out (by kernel_rfl)) (fun _ _ _ h => h) (Or.inl ⟨by rfl, ?_⟩) hHeld ?_ ?_
          rotate_left
          · rintro w' ⟨s0, s1, s2⟩
            go_simp
            with_reducible rfl
          rotate_left
          · simp only [Act.put, List.setIfInBounds_toArray, List.set_cons_zero, List.set_cons_succ, i64_w, i32_w]
            rfl
          refine pure_ (i := 7) (N := (some 42)) (v := ?_) (a' := ?_) #[true, true, true, true, true, true, true, true, false, false, false, false, false] rfl rfl (any_of HT_.out (by kernel_rfl)) (fun _ _ _ h => h) (Or.inl ⟨by rfl, ?_⟩) ?_ ?_
          rotate_left
          · intro w'
            go_simp
            with_reducible rfl
          rotate_left
          · simp only [Act.put, List.setIfInBounds_toArray, List.set_cons_zero, List.set_cons_succ, i64_w, i32_w]
            rfl
          refine pure_ (i := 8) (N := (some 43)) (v := ?_) (a' := ?_) #[true, true, true, true, true, true, true, true, true, false, false, false, false] rfl rfl (any_of HT_.out (by kernel_rfl)) (fun _ _ _ h => h) (Or.inl ⟨by rfl, ?_⟩) ?_ ?_
          rotate_left
          · intro w'
            go_simp
            with_reducible rfl
          rotate_left
          · simp only [Act.put, List.setIfInBounds_toArray, List.set_cons_zero, List.set_cons_succ, i64_w, i32_w]
            rfl
          refine pure_ (i := 9) (N := (some 44)) (v := undef) (a' := ?_) #[true, true, true, true, true, true, true, true, true, true, false, false, false] rfl rfl (any_of HT_.out (by kernel_rfl)) (fun _ _ _ h => h) (Or.inr ⟨by rfl, rfl⟩) ?_ ?_
          rotate_left
          · (simp only [Act.put, List.setIfInBounds_toArray, List.set_cons_zero, List.set_cons_succ, i64_w, i32_w]; rfl)
          refine pure_ (i := 10) (N := (some 45)) (v := undef) (a' := ?_) #[true, true, true, true, true, true, true, true, true, true, true, false, false] rfl rfl (any_of HT_.out (by kernel_rfl)) (fun _ _ _ h => h) (Or.inr ⟨by rfl, rfl⟩) ?_ ?_
          rotate_left
          · (simp only [Act.put, List.setIfInBounds_toArray, List.set_cons_zero, List.set_cons_succ, i64_w, i32_w]; rfl)
          refine pure_ (i := 11) (N := (some 46)) (v := undef) (a' := ?_) #[true, true, true, true, true, true, true, true, true, true, true, true, false] rfl rfl (any_of HT_.out (by kernel_rfl)) (fun _ _ _ h => h) (Or.inr ⟨by rfl, rfl⟩) ?_ ?_
          rotate_left
          · (simp only [Act.put, List.setIfInBounds_toArray, List.set_cons_zero, List.set_cons_succ, i64_w, i32_w]; rfl)
          refine pure_ (i := 12) (N := (some 47)) (v := ?_) (a' := ?_) #[true, true, true, true, true, true, true, true, true, true, true, true, true] rfl rfl (any_of HT_.out (by kernel_rfl)) (fun _ _ _ h => h) (Or.inl ⟨by rfl, ?_⟩) ?_ ?_
          rotate_left
          · intro w'
            go_simp
            with_reducible rfl
          rotate_left
          · simp only [Act.put, List.setIfInBounds_toArray, List.set_cons_zero, List.set_cons_succ, i64_w, i32_w]
            rfl
          refine done_ (done_of HT_.out (by kernel_rfl)) ?_
          generalize w4.drew = w5 at *
          go_wp2
          go_ret
          exact ⟨rfl, H4.out.1⟩
    · have hje : j = x.f4.length := by have := HJ.out; omega
      have hl2 : lk = !x.f4.all (has nameB) := by
        have h1 := HLK.out
        rw [hje, List.take_length] at h1
        exact h1
      have HL2 := Aside0.mk hl2
      have HX' := HX
      have cr0 := (cell_of_block (i := 0) HX'.out).trans (show _ = some _ from rfl); have cr1 := (cell_of_block (i := 1) HX'.out).trans (show _ = some _ from rfl); have cr2 := (cell_of_block (i := 2) HX'.out).trans (show _ = some _ from rfl); have cr3 := (cell_of_block (i := 3) HX'.out).trans (show _ = some _ from rfl); have cr4 := (cell_of_block (i := 4) HX'.out).trans (show _ = some _ from rfl); have zr0 := frozen_of_block (i := 0) HX'.out; have zr1 := frozen_of_block (i := 1) HX'.out; have zr2 := frozen_of_block (i := 2) HX'.out; have zr3 := frozen_of_block (i := 3) HX'.out; have zr4 := frozen_of_block (i := 4) HX'.out
      clear hje hl2 HLK HX'
      go_wp2_with fail
      refine (key_calls x HT.out.2 HT.out.1 wr A3 c3 A4 c4 (k25.K_below HB.out HK.out)).mono ?_
      rintro e w3 ⟨rfl, hb3⟩
      have HB3 := Aside0.mk (HB.out.trans (hb3.mono HB.out.size))
      clear hb3 cr0 cr1 cr2 cr3 cr4 zr0 zr1 zr2 zr3 zr4
      generalize keyOf x = ko
      obtain ⟨ha, hha⟩ : ∃ ha, ha = x.f4.all (has nameB) := ⟨_, rfl⟩
      rw [← hha]
      rw [← hha] at HL2
      clear hha
      go_wp2_with fail
      refine (word_calls _ _).mono ?_
      rintro e w4 ⟨rfl, hb4⟩
      have hn4 : w4.heap[w3.heap.size]? = some (.cells #[.string nameB] 9 (0, 0)) := (hb4.block _ (by simp)).trans (heap_at _ rfl)
      have hb4' : Below w3.heap.size w3 w4 := ((Below.refl _ _).alloc (Nat.le_refl _) _).trans (hb4.mono (by simp))
      have HB4 := Aside0.mk (And.intro hb4' hn4)
      clear hb4 hb4' hn4
      go_wp2_with fail
      obtain ⟨w5, e5⟩ : ∃ w5, w5 = ((w4.alloc (.cells #[.int .i64 1, .string aB, .string strB, .slice none 0 0, .slice none 0 0] 25)).alloc (.cells #[.int .i64 2, .string ⟨#[]⟩, .string ⟨#[]⟩, .slice (some ⟨w3.heap.size, 0, none⟩) 1 1, .slice (some ⟨w4.heap.size, 0, none⟩) 1 1] 25)) := ⟨_, rfl⟩
      rw [← e5]
      have hn5 : w5.heap[w3.heap.size]? = some (.cells #[.string nameB] 9 (0, 0)) := by rw [e5]; have := lt_of_block HB4.out.2; exact (heap_old _ (by simp; omega)).trans ((heap_old _ this).trans HB4.out.2)
      have ha5 : w5.heap[w4.heap.size]? = some (.cells #[.int .i64 1, .string aB, .string strB, .slice none 0 0, .slice none 0 0] 25 (0, 0)) := by rw [e5]; exact (heap_old _ (by simp)).trans (heap_at _ rfl)
      have hm5 : w5.heap[w4.heap.size + 1]? = some (.cells #[.int .i64 2, .string ⟨#[]⟩, .string ⟨#[]⟩, .slice (some ⟨w3.heap.size, 0, none⟩) 1 1, .slice (some ⟨w4.heap.size, 0, none⟩) 1 1] 25 (0, 0)) := by rw [e5]; exact heap_at _ (by simp)
      have hb5 : Below w.heap.size w w5 := HB3.out.trans ((HB4.out.1.mono HB3.out.size).trans (by rw [e5]; exact ((Below.refl _ _).alloc (by have := HB3.out.size; have := HB4.out.1.size; omega) _).alloc (by have := HB3.out.size; have := HB4.out.1.size; simp; omega) _))
      have kA : k25.K w5 cA [.int .i64 1, .string aB, .string strB, .slice none 0 0, .slice none 0 0] := k25_mk w5 cA (Nat.le_refl _) (Kd.C_nil _ _) (Nat.le_refl _) (Kd.C_nil _ _)
      have kM : k25.K w5 cM [.int .i64 2, .string ⟨#[]⟩, .string ⟨#[]⟩, .slice (some ⟨w3.heap.size, 0, none⟩) 1 1, .slice (some ⟨w4.heap.size, 0, none⟩) 1 1] := k25_mk w5 cM (Nat.le_refl _) (one_str hn5) (Nat.le_refl _) (one_node ha5 kA)
      have kL : k25.K w5 cL [.int .i64 3, .string ⟨#[]⟩, .string ⟨#[]⟩, .slice none 0 0, .slice (some ⟨w4.heap.size + 1, 0, none⟩) 1 1] := k25_mk w5 cL (Nat.le_refl _) (Kd.C_nil _ _) (Nat.le_refl _) (one_node hm5 kM)
      have H5 := Aside0.mk (And.intro hb5 kL)
      clear hn5 ha5 hm5 hb5 kA kM kL e5
      refine (key_calls cL cL_tree rfl w5 none 0 (some ⟨w4.heap.size + 1, 0, none⟩) 1 H5.out.2).mono ?_
      rintro e w6 ⟨rfl, hb6⟩
      have HB6 := Aside0.mk (H5.out.1.trans (hb6.mono H5.out.1.size))
      clear hb6
      rw [cL_has]
      generalize keyOf cL = kc
      rw [HL2.out]
      clear HL2
      cases ha
      · go_wp2
        go_ret
        exact ⟨rfl, HB6.out⟩
      · go_wp2
        go_ret
        exact ⟨rfl, HB6.out⟩
theorem unknown_law (w : World) (x : S25) (hz : Sz x) (A3 : Option Addr) (c3 : Nat) (A4 : Option Addr) (c4 : Nat)
    (hK : k25.K w x [.int .i64 x.f0, .string x.f1, .string x.f2, .slice A3 x.f3.length c3, .slice A4 x.f4.length c4]) :
    Calls Try.prog 3 #[.agg #[.int .i64 x.f0, .string x.f1, .string x.f2, .slice A3 x.f3.length c3, .slice A4 x.f4.length c4]] w fun e w' => e = .returned (.bool true) ∧ Below w.heap.size w w' :=
  unknown_calls x hz w A3 c3 A4 c4 hK
end Go.Proofs.Ytigpgkfgkjabmaa
