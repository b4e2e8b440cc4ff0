import Derived.Test.YtkpdkoafngjflaaGreatSh
import Derived.Test.YtkpdkoafngjflaaGreatCovers
import Derived.Test.YtkpdkoafngjflaaGreatMergeB
import Derived.Test.YtkpdkoafngjflaaGreatThree
import Derived.Test.YtkpdkoafngjflaaGreatClash
import Derived.Test.YtkpdkoafngjflaaGreatSameG
namespace Go.Proofs.YtkpdkoafngjflaaGreat
open Go.RowKit Go.Proofs.YtkpdkoafngjflaaGreatW.PrintWords Go.Proofs.YtkpdkoafngjflaaGreatW.PrintLast Go.Proofs.YtkpdkoafngjflaaGreat.PFnFields
set_option linter.unusedVariables false
set_option linter.unusedSimpArgs false
def tak5a.T : Bool × List (List Nat × List Nat) := (true, [([], []), ([0], [0]), ([1], [1]), ([2], [2]), ([3, 2], [2, 3]), ([2], [2]), ([4, 5, 2], [2, 4, 5]), ([6, 2], [2, 6]), ([7, 2], [2, 7]), ([8, 2], [2, 8]), ([2, 9], [2, 9]), ([10, 2], [10]), ([11], [11]), ([12, 11, 11], [11, 12]), ([13], [13]), ([14, 13], [13, 14]), ([13], [13]), ([15, 16, 13], [13, 15, 16]), ([17, 13], [13, 17]), ([13], [13]), ([18, 19, 13, 13], [13, 18, 19]), ([20, 13], [13, 20]), ([13, 21, 11], [11, 13, 21]), ([11, 22], [11, 22])])
def tak5a.B : List Nat := [0, 1, 3, 7, 15, 7, 63, 127, 255, 511, 1023, 2047, 4095, 8191, 16383, 32767, 16383, 131071, 262143, 16383, 1048575, 2097151, 4194303, 8388607]
theorem tak5a.tab : rtab .any (opsOf Tryz.f10 5) = tak5a.T := by kernel_rfl
theorem tak5a.bits : waitsOk tak5a.T.2 tak5a.B = true := by kernel_rfl
set_option maxRecDepth 100000 in
set_option maxHeartbeats 1600000 in
theorem takes_calls (d : Nat) : ∀ (a b : S25) (ha : Fit d a) (hb : Fit d b) (w : World) (A3 : Option Addr) (c3 : Nat) (A4 : Option Addr) (c4 : Nat) (B3 : Option Addr) (d3 : Nat) (B4 : Option Addr) (d4 : Nat) (hK : nodeK w a A3 c3 A4 c4) (hK' : nodeK w b B3 d3 B4 d4),
  Calls Tryz.prog 10 #[nodeV a A3 c3 A4 c4, nodeV b B3 d3 B4 d4] w (BoolPost w (TkP d a b)) := by
 induction d with
 | zero => intro a b ha; exact ha.1.elim
 |succ d ih =>
  intro a b ha hb w A3 c3 A4 c4 B3 d3 B4 d4 hK hK'
  have hu := Tryz.underlying25
  have HK := Aside0.mk (And.intro hK hK')
  have HX := Aside0.mk (And.intro ha hb)
  have HG := Aside0.mk (node_rows hK)
  have IH := Aside0.mk ih
  have hbl := ha.len
  have hkl := ha.1.klen
  clear hK hK' ha hb ih
  go_enter Tryz.func10, Tryz.ntmps10
  go_wp2_with fail
  obtain ⟨w0, e0⟩ : ∃ w0, w0 = (w.alloc (.cells #[.int .i64 a.f0, .string a.f1, .string a.f2, .slice A3 a.f3.length c3, .slice A4 a.f4.length c4] 25)).alloc (.cells #[.int .i64 b.f0, .string b.f1, .string b.f2, .slice B3 b.f3.length d3, .slice B4 b.f4.length d4] 25) := ⟨_, rfl⟩
  try rw [← e0]
  have H0 : Aside0 (Below w.heap.size w w0 ∧ w0.heap[w.heap.size]? = some (.cells #[.int .i64 a.f0, .string a.f1, .string a.f2, .slice A3 a.f3.length c3, .slice A4 a.f4.length c4] 25 (0, 0)) ∧ w0.heap[w.heap.size + 1]? = some (.cells #[.int .i64 b.f0, .string b.f1, .string b.f2, .slice B3 b.f3.length d3, .slice B4 b.f4.length d4] 25 (0, 0))) := ⟨by rw [e0]; exact ((Below.refl _ _).alloc (Nat.le_refl _) _).alloc (by simp) _, by rw [e0]; exact (heap_old _ (by simp)).trans (heap_at _ rfl), by rw [e0]; exact heap_at _ (by simp)⟩
  clear e0
  go_loopg [12] a.f3.length (fun k i wr => ∃ j : Nat, i = .int .i64 j ∧ Aside0 (j ≤ a.f3.length ∧ k + j = a.f3.length) ∧ Aside0 (Below w.heap.size w wr ∧ wr.heap[w.heap.size]? = some (.cells #[.int .i64 a.f0, .string a.f1, .string a.f2, .slice A3 a.f3.length c3, .slice A4 a.f4.length c4] 25 (0, 0)) ∧ wr.heap[w.heap.size + 1]? = some (.cells #[.int .i64 b.f0, .string b.f1, .string b.f2, .slice B3 b.f3.length d3, .slice B4 b.f4.length d4] 25 (0, 0))) ∧
   Aside0 (∀ i, i < j → (lk b (a.f3.getD i ByteArray.empty) = none → (a.f4.getD i z25).f0 = 1) ∧ ∀ y, lk b (a.f3.getD i ByteArray.empty) = some y → TkP d (a.f4.getD i z25) y))
  case atStart => exact ⟨0, rfl, ⟨by omega⟩, H0, ⟨fun i hi => absurd hi (Nat.not_lt_zero _)⟩⟩
  case round =>
   clear H0
   obtain ⟨j, rfl, HJ, HB, HP⟩ := hrel
   by_cases hj : j < a.f3.length
   ·have hj4 : j < a.f4.length := by omega
    generalize hkk : a.f3.getD j ByteArray.empty = kk
    generalize hyy : a.f4.getD j z25 = yy
    obtain ⟨ad3, ea, hs3⟩ := strAt HG.out.1 j hj
    obtain ⟨am, P3, p3, P4, p4, e6, hKp, fp0, fp1, fp2, fp3, fp4⟩ := nodeAt HG.out.2 j hj4 yy hyy
    rw [hkk] at hs3
    subst ea e6
    have hym : yy ∈ a.f4 := by rw [← hyy, List.getD_eq_getElem?_getD, List.getElem?_eq_getElem hj4]; exact List.getElem_mem _
    have HY := Aside0.mk (And.intro hkk (And.intro hyy (And.intro hKp (HX.out.1.item hym))))
    have HEL := Aside0.mk (And.intro fp0 (And.intro fp1 (And.intro fp2 (And.intro fp3 fp4))))
    have hs3' := (HB.out.1.cell (World.block_lt_of_cell? w _ hs3)).trans hs3
    have HXA := Aside0.mk HB.out.2.2
    obtain ⟨cr0, cr1, cr2, cr3, cr4, zr0, zr1, zr2, zr3, zr4⟩ := fc_ HXA.out
    clear hkk hyy hKp fp0 fp1 fp2 fp3 fp4 hs3 hym
    go_wp2_with fail
    refine (spField_calls b kk HX.out.2.1.klen wr B3 d3 B4 d4 (k25.K_below HB.out.1 HK.out.2)).mono ?_
    rintro e w3 ⟨hb3, D3, q3, D4, q4, rfl, hKs⟩
    obtain ⟨sf, hsf⟩ : ∃ sf, sf = spField b kk := ⟨_, rfl⟩
    obtain ⟨hs, hhs⟩ : ∃ hs, hs = has kk b := ⟨_, rfl⟩
    rw [← hsf, ← hhs]
    rw [← hsf] at hKs
    have HSF := Aside0.mk (And.intro hsf (And.intro hhs (k25.K_below hb3 hKs)))
    have HB3 := Aside0.mk (And.intro (HB.out.1.trans (hb3.mono HB.out.1.size)) (And.intro ((hb3.block _ (lt_of_block HB.out.2.1)).trans HB.out.2.1) ((hb3.block _ (lt_of_block HB.out.2.2)).trans HB.out.2.2)))
    clear hb3 hKs hsf hhs HXA cr0 cr1 cr2 cr3 cr4 zr0 zr1 zr2 zr3 zr4 hs3'
    go_wp2_with fail
    obtain ⟨w4, e4⟩ : ∃ w4, w4 = w3.alloc (.cells #[.int .i64 sf.f0, .string sf.f1, .string sf.f2, .slice D3 sf.f3.length q3, .slice D4 sf.f4.length q4] 25) := ⟨_, rfl⟩
    rw [← e4]
    obtain ⟨vb, hvb⟩ : ∃ vb, vb = w3.heap.size := ⟨_, rfl⟩
    rw [← hvb]
    have hb4 : Below w3.heap.size w3 w4 := by rw [e4]; exact (Below.refl _ _).alloc (Nat.le_refl _) _
    have hv4 : w4.heap[vb]? = some (.cells #[.int .i64 sf.f0, .string sf.f1, .string sf.f2, .slice D3 sf.f3.length q3, .slice D4 sf.f4.length q4] 25 (0, 0)) := by rw [e4]; exact heap_at _ hvb
    have HB4 := Aside0.mk (And.intro (HB3.out.1.trans (hb4.mono HB3.out.1.size)) (And.intro ((hb4.block _ (lt_of_block HB3.out.2.1)).trans HB3.out.2.1) ((hb4.block _ (lt_of_block HB3.out.2.2)).trans HB3.out.2.2)))
    have HV4 := Aside0.mk (And.intro hv4 (k25.K_below hb4 HSF.out.2.2))
    clear hb4 hv4 e4 hvb HB3
    have HS : Aside0 (∀ w', Below w4.heap.size w4 w' → w'.cell? ⟨w.heap.size, 4, none⟩ = some (.slice (some am) a.f4.length c4) ∧ w'.cell? (am.add (j * 5)) = some (.int .i64 yy.f0) ∧ w'.cell? ⟨(am.add (j * 5)).block, (am.add (j * 5)).off + 1, none⟩ = some (.string yy.f1) ∧ w'.cell? ⟨(am.add (j * 5)).block, (am.add (j * 5)).off + 2, none⟩ = some (.string yy.f2) ∧ w'.cell? ⟨(am.add (j * 5)).block, (am.add (j * 5)).off + 3, none⟩ = some (.slice P3 yy.f3.length p3) ∧ w'.cell? ⟨(am.add (j * 5)).block, (am.add (j * 5)).off + 4, none⟩ = some (.slice P4 yy.f4.length p4) ∧ w'.cell? ⟨vb, 0, none⟩ = some (.int .i64 sf.f0) ∧ w'.cell? ⟨vb, 1, none⟩ = some (.string sf.f1) ∧ w'.cell? ⟨vb, 2, none⟩ = some (.string sf.f2) ∧ w'.cell? ⟨vb, 3, none⟩ = some (.slice D3 sf.f3.length q3) ∧ w'.cell? ⟨vb, 4, none⟩ = some (.slice D4 sf.f4.length q4)) := ⟨fun w' hc => by
     have old : ∀ {a : Addr} {v : Value}, w.cell? a = some v → w'.cell? a = some v := fun {a v} h => by
      have h1 := (HB4.out.1.cell (World.block_lt_of_cell? w a h)).trans h
      exact (hc.cell (World.block_lt_of_cell? _ _ h1)).trans h1
     have hx := Aside0.mk ((hc.block _ (lt_of_block HV4.out.1)).trans HV4.out.1)
     have hy := (hc.block _ (lt_of_block HB4.out.2.1)).trans HB4.out.2.1
     obtain ⟨cv0, cv1, cv2, cv3, cv4, zv0, zv1, zv2, zv3, zv4⟩ := fc_ hx.out
     exact ⟨by rw [cell_of_block hy]; rfl, old HEL.out.1, old HEL.out.2.1, old HEL.out.2.2.1, old HEL.out.2.2.2.1, old HEL.out.2.2.2.2, cv0, cv1, cv2, cv3, cv4⟩⟩
    cases hs
    ·have hk3 : yy.f0 = 1 ∨ yy.f0 = 2 ∨ yy.f0 = 3 := by
      have := HY.out.2.2.2.1
      cases d with
      | zero => exact this.elim
      | succ d => rcases this with ⟨h, _⟩ | ⟨_, _, _, _, ⟨h, _⟩ | ⟨h, _⟩⟩ <;> simp [h]
     have HB9 : Aside0 (Below w.heap.size w w4.drew ∧ w4.drew.heap[w.heap.size]? = _ ∧ w4.drew.heap[w.heap.size + 1]? = _) := ⟨HB4.out.1.drew, HB4.out.2.1, HB4.out.2.2⟩
     rcases hk3 with h1 | h1 | h1
     ·have HSS := HS.out _ (Below.refl _ _).drew
      rw [h1] at HSS
      have H1 := Aside0.mk h1
      clear h1
      refine start_ (n := 24) (S := fun w' => w'.cell? ⟨w.heap.size, 4, none⟩ = some (.slice (some am) a.f4.length c4) ∧ w'.cell? (am.add (j * 5)) = some (.int .i64 1) ∧ w'.cell? ⟨(am.add (j * 5)).block, (am.add (j * 5)).off + 1, none⟩ = some (.string yy.f1) ∧ w'.cell? ⟨(am.add (j * 5)).block, (am.add (j * 5)).off + 2, none⟩ = some (.string yy.f2) ∧ w'.cell? ⟨(am.add (j * 5)).block, (am.add (j * 5)).off + 3, none⟩ = some (.slice P3 yy.f3.length p3) ∧ w'.cell? ⟨(am.add (j * 5)).block, (am.add (j * 5)).off + 4, none⟩ = some (.slice P4 yy.f4.length p4) ∧ w'.cell? ⟨vb, 0, none⟩ = some (.int .i64 sf.f0) ∧ w'.cell? ⟨vb, 1, none⟩ = some (.string sf.f1) ∧ w'.cell? ⟨vb, 2, none⟩ = some (.string sf.f2) ∧ w'.cell? ⟨vb, 3, none⟩ = some (.slice D3 sf.f3.length q3) ∧ w'.cell? ⟨vb, 4, none⟩ = some (.slice D4 sf.f4.length q4)) (ds := []) #[false, false, false, false, false, false, false, false, false, false, false, false, false, false, false, false, false, false, false, false, false, false, false, false] (by kernel_rfl) rfl rfl HSS (fun hHeld => ?_)
      refine with_tabW (T := tak5a.T) (B := tak5a.B) tak5a.tab tak5a.bits (fun HT_ HW_ => ?_)
      refine ps_ 0 23 HT_ ?_
      refine ps_ 1 24 HT_ ?_
      refine ps_ 2 25 HT_ ?_
      refine ps_ 3 26 HT_ ?_
      refine ps_ 5 28 HT_ ?_
      refine ts_ 4 27 HT_ HW_ hHeld ?_
      refine ps_ 6 29 HT_ ?_
      refine ps_ 7 30 HT_ ?_
      refine ts_ 8 31 HT_ HW_ hHeld ?_
      refine ps_ 9 32 HT_ ?_
      refine ps_ 10 33 HT_ ?_
      refine ps_ 11 34 HT_ ?_
      refine ps_ 12 35 HT_ ?_
      refine ps_ 13 36 HT_ ?_
      refine us_ 14 37 HT_ ?_
      refine us_ 15 38 HT_ ?_
      refine us_ 16 39 HT_ ?_
      refine us_ 17 40 HT_ ?_
      refine us_ 18 41 HT_ ?_
      refine us_ 19 42 HT_ ?_
      refine us_ 20 43 HT_ ?_
      refine us_ 21 44 HT_ ?_
      refine ps_ 22 45 HT_ ?_
      refine ps_ 23 46 HT_ ?_
      refine done_ (done_of HT_.out (by kernel_rfl)) ?_
      generalize w4.drew = w9 at HB9 ⊢
      go_wp2_with fail
      go_roundg (gk - 1)
      case measure => have := HJ.out; omega
      case rel =>
       refine ⟨j + 1, by go_num, ⟨by have := HJ.out; omega⟩, HB9, ⟨fun i hi => ?_⟩⟩
       rcases Nat.lt_or_ge i j with h | h
       ·exact HP.out i h
       ·have hij : i = j := by omega
        rw [hij, HY.out.1, HY.out.2.1]
        refine ⟨fun _ => H1.out, fun y hy => ?_⟩
        rw [(has_lk HX.out.2.1 kk).2 HSF.out.2.1.symm] at hy
        cases hy
     ·have HSS := HS.out _ (Below.refl _ _).drew
      rw [h1] at HSS
      clear h1
      refine start_ (n := 24) (S := fun w' => w'.cell? ⟨w.heap.size, 4, none⟩ = some (.slice (some am) a.f4.length c4) ∧ w'.cell? (am.add (j * 5)) = some (.int .i64 2) ∧ w'.cell? ⟨(am.add (j * 5)).block, (am.add (j * 5)).off + 1, none⟩ = some (.string yy.f1) ∧ w'.cell? ⟨(am.add (j * 5)).block, (am.add (j * 5)).off + 2, none⟩ = some (.string yy.f2) ∧ w'.cell? ⟨(am.add (j * 5)).block, (am.add (j * 5)).off + 3, none⟩ = some (.slice P3 yy.f3.length p3) ∧ w'.cell? ⟨(am.add (j * 5)).block, (am.add (j * 5)).off + 4, none⟩ = some (.slice P4 yy.f4.length p4) ∧ w'.cell? ⟨vb, 0, none⟩ = some (.int .i64 sf.f0) ∧ w'.cell? ⟨vb, 1, none⟩ = some (.string sf.f1) ∧ w'.cell? ⟨vb, 2, none⟩ = some (.string sf.f2) ∧ w'.cell? ⟨vb, 3, none⟩ = some (.slice D3 sf.f3.length q3) ∧ w'.cell? ⟨vb, 4, none⟩ = some (.slice D4 sf.f4.length q4)) (ds := []) #[false, false, false, false, false, false, false, false, false, false, false, false, false, false, false, false, false, false, false, false, false, false, false, false] (by kernel_rfl) rfl rfl HSS (fun hHeld => ?_)
      refine with_tabW (T := tak5a.T) (B := tak5a.B) tak5a.tab tak5a.bits (fun HT_ HW_ => ?_)
      refine ps_ 0 23 HT_ ?_
      refine ps_ 1 24 HT_ ?_
      refine ps_ 2 25 HT_ ?_
      refine ps_ 3 26 HT_ ?_
      refine ps_ 5 28 HT_ ?_
      refine ts_ 4 27 HT_ HW_ hHeld ?_
      refine ps_ 6 29 HT_ ?_
      refine ps_ 7 30 HT_ ?_
      refine ts_ 8 31 HT_ HW_ hHeld ?_
      refine ps_ 9 32 HT_ ?_
      refine ps_ 10 33 HT_ ?_
      refine ps_ 11 34 HT_ ?_
      refine us_ 12 35 HT_ ?_
      refine us_ 13 36 HT_ ?_
      refine us_ 14 37 HT_ ?_
      refine us_ 15 38 HT_ ?_
      refine us_ 16 39 HT_ ?_
      refine us_ 17 40 HT_ ?_
      refine us_ 18 41 HT_ ?_
      refine us_ 19 42 HT_ ?_
      refine us_ 20 43 HT_ ?_
      refine us_ 21 44 HT_ ?_
      refine us_ 22 45 HT_ ?_
      refine ps_ 23 46 HT_ ?_
      refine done_ (done_of HT_.out (by kernel_rfl)) ?_
      go_wp2
      go_ret
      exact ⟨false, rfl, HB9.out.1, fun h => by cases h⟩
     ·have HSS := HS.out _ (Below.refl _ _).drew
      rw [h1] at HSS
      clear h1
      refine start_ (n := 24) (S := fun w' => w'.cell? ⟨w.heap.size, 4, none⟩ = some (.slice (some am) a.f4.length c4) ∧ w'.cell? (am.add (j * 5)) = some (.int .i64 3) ∧ w'.cell? ⟨(am.add (j * 5)).block, (am.add (j * 5)).off + 1, none⟩ = some (.string yy.f1) ∧ w'.cell? ⟨(am.add (j * 5)).block, (am.add (j * 5)).off + 2, none⟩ = some (.string yy.f2) ∧ w'.cell? ⟨(am.add (j * 5)).block, (am.add (j * 5)).off + 3, none⟩ = some (.slice P3 yy.f3.length p3) ∧ w'.cell? ⟨(am.add (j * 5)).block, (am.add (j * 5)).off + 4, none⟩ = some (.slice P4 yy.f4.length p4) ∧ w'.cell? ⟨vb, 0, none⟩ = some (.int .i64 sf.f0) ∧ w'.cell? ⟨vb, 1, none⟩ = some (.string sf.f1) ∧ w'.cell? ⟨vb, 2, none⟩ = some (.string sf.f2) ∧ w'.cell? ⟨vb, 3, none⟩ = some (.slice D3 sf.f3.length q3) ∧ w'.cell? ⟨vb, 4, none⟩ = some (.slice D4 sf.f4.length q4)) (ds := []) #[false, false, false, false, false, false, false, false, false, false, false, false, false, false, false, false, false, false, false, false, false, false, false, false] (by kernel_rfl) rfl rfl HSS (fun hHeld => ?_)
      refine with_tabW (T := tak5a.T) (B := tak5a.B) tak5a.tab tak5a.bits (fun HT_ HW_ => ?_)
      refine ps_ 0 23 HT_ ?_
      refine ps_ 1 24 HT_ ?_
      refine ps_ 2 25 HT_ ?_
      refine ps_ 3 26 HT_ ?_
      refine ps_ 5 28 HT_ ?_
      refine ts_ 4 27 HT_ HW_ hHeld ?_
      refine ps_ 6 29 HT_ ?_
      refine ps_ 7 30 HT_ ?_
      refine ts_ 8 31 HT_ HW_ hHeld ?_
      refine ps_ 9 32 HT_ ?_
      refine ps_ 10 33 HT_ ?_
      refine ps_ 11 34 HT_ ?_
      refine us_ 12 35 HT_ ?_
      refine us_ 13 36 HT_ ?_
      refine us_ 14 37 HT_ ?_
      refine us_ 15 38 HT_ ?_
      refine us_ 16 39 HT_ ?_
      refine us_ 17 40 HT_ ?_
      refine us_ 18 41 HT_ ?_
      refine us_ 19 42 HT_ ?_
      refine us_ 20 43 HT_ ?_
      refine us_ 21 44 HT_ ?_
      refine us_ 22 45 HT_ ?_
      refine ps_ 23 46 HT_ ?_
      refine done_ (done_of HT_.out (by kernel_rfl)) ?_
      go_wp2
      go_ret
      exact ⟨false, rfl, HB9.out.1, fun h => by cases h⟩
    ·have _hx := True.intro
     refine start_ (n := 24) (S := fun w' => w'.cell? ⟨w.heap.size, 4, none⟩ = some (.slice (some am) a.f4.length c4) ∧ w'.cell? (am.add (j * 5)) = some (.int .i64 yy.f0) ∧ w'.cell? ⟨(am.add (j * 5)).block, (am.add (j * 5)).off + 1, none⟩ = some (.string yy.f1) ∧ w'.cell? ⟨(am.add (j * 5)).block, (am.add (j * 5)).off + 2, none⟩ = some (.string yy.f2) ∧ w'.cell? ⟨(am.add (j * 5)).block, (am.add (j * 5)).off + 3, none⟩ = some (.slice P3 yy.f3.length p3) ∧ w'.cell? ⟨(am.add (j * 5)).block, (am.add (j * 5)).off + 4, none⟩ = some (.slice P4 yy.f4.length p4) ∧ w'.cell? ⟨vb, 0, none⟩ = some (.int .i64 sf.f0) ∧ w'.cell? ⟨vb, 1, none⟩ = some (.string sf.f1) ∧ w'.cell? ⟨vb, 2, none⟩ = some (.string sf.f2) ∧ w'.cell? ⟨vb, 3, none⟩ = some (.slice D3 sf.f3.length q3) ∧ w'.cell? ⟨vb, 4, none⟩ = some (.slice D4 sf.f4.length q4)) (ds := [20]) #[false, false, false, false, false, false, false, false, false, false, false, false, false, false, false, false, false, false, false, false, false, false, false, false] (by kernel_rfl) rfl rfl (HS.out _ (Below.refl _ _).drew) (fun hHeld => ?_)
     refine with_tabW (T := tak5a.T) (B := tak5a.B) tak5a.tab tak5a.bits (fun HT_ HW_ => ?_)
     refine ps_ 0 23 HT_ ?_
     refine ps_ 1 24 HT_ ?_
     refine ps_ 2 25 HT_ ?_
     refine us_ 3 26 HT_ ?_
     refine us_ 4 27 HT_ ?_
     refine us_ 5 28 HT_ ?_
     refine us_ 6 29 HT_ ?_
     refine us_ 7 30 HT_ ?_
     refine us_ 8 31 HT_ ?_
     refine us_ 9 32 HT_ ?_
     refine ps_ 10 33 HT_ ?_
     refine ps_ 11 34 HT_ ?_
     refine ps_ 12 35 HT_ ?_
     refine ps_ 13 36 HT_ ?_
     refine ps_ 14 37 HT_ ?_
     refine ps_ 16 39 HT_ ?_
     refine ts_ 15 38 HT_ HW_ hHeld ?_
     refine ps_ 17 40 HT_ ?_
     refine ts_ 18 41 HT_ HW_ hHeld ?_
     refine ts_ 19 42 HT_ HW_ hHeld ?_
     refine last_ (i := 20) (N := (some 43)) #[true, true, true, true, true, true, true, true, true, true, true, true, true, true, true, true, true, true, true, true, true, false, false, false] rfl rfl (one_of HT_.out (by kernel_rfl)) (by decide) (fun K hK => ?_)
     refine goes_ Tryz.func10 (by kernel_rfl) rfl #[nodeV yy P3 p3 P4 p4, nodeV sf D3 q3 D4 q4] (by rfl) rfl rfl (by simp only [List.map_toArray, List.map_cons, List.map_nil]; rfl) ?_
     have hbd : Below w.heap.size w w4.drew := HB4.out.1.drew
     refine (IH.out yy sf HY.out.2.2.2 (by rw [HSF.out.1]; exact HX.out.2.sub HSF.out.2.1.symm) w4.drew P3 p3 P4 p4 D3 q3 D4 q4 (k25.K_below hbd HY.out.2.2.1) (k25.K_below (Below.refl _ _).drew HV4.out.2)).mono ?_
     rintro e w9 ⟨r, rfl, hb9, hr⟩
     refine ⟨_, rfl, ?_⟩
     have hb9' : Below w4.heap.size w4 w9 := (Below.refl _ _).drew.trans hb9
     refine hK.out _ _ ?_
     have HB9 := Aside0.mk (And.intro (HB4.out.1.trans (hb9'.mono HB4.out.1.size)) (And.intro ((hb9'.block _ (lt_of_block HB4.out.2.1)).trans HB4.out.2.1) ((hb9'.block _ (lt_of_block HB4.out.2.2)).trans HB4.out.2.2)))
     have HR := Aside0.mk hr
     clear hb9 hb9' hbd hr
     clear hK K
     refine ns_ ?_
     refine ps_ 21 44 HT_ ?_
     refine ps_ 22 45 HT_ ?_
     refine ps_ 23 46 HT_ ?_
     refine done_ (done_of HT_.out (by kernel_rfl)) ?_
     cases r
     ·go_wp2
      go_ret
      exact ⟨false, rfl, HB9.out.1, fun h => by cases h⟩
     ·go_wp2_with fail
      go_roundg (gk - 1)
      case measure => have := HJ.out; omega
      case rel =>
       refine ⟨j + 1, by go_num, ⟨by have := HJ.out; omega⟩, HB9, ⟨fun i hi => ?_⟩⟩
       rcases Nat.lt_or_ge i j with h | h
       ·exact HP.out i h
       ·have hij : i = j := by omega
        rw [hij, HY.out.1, HY.out.2.1, (has_lk HX.out.2.1 kk).1 HSF.out.2.1.symm]
        exact ⟨fun h => (by cases h), fun y hy => by rw [← Option.some.inj hy, ← HSF.out.1]; exact HR.out (by simp)⟩
   ·have hje : j = a.f3.length := by have := HJ.out; omega
    have HP2 : Aside0 (TkP (d + 1) a b) := ⟨keys_all (P := fun k x => (lk b k = none → x.f0 = 1) ∧ ∀ y, lk b k = some y → TkP d x y) HX.out.1.1.mpi (fun i hi => HP.out i (by omega))⟩
    clear hje HP
    go_wp2
    go_ret
    exact ⟨true, rfl, HB.out.1, fun _ => HP2.out⟩
theorem Sz.zero : Sz z25 := Sz.mk _ (by decide) (by decide) (fun k hk => by cases hk) (fun y hy => by cases hy)
theorem Sz.field {x : S25} (h : Sz x) (k : ByteArray) : Sz (spField x k) := by
 unfold spField
 split
 ·rw [List.getD_eq_getElem?_getD]
  cases e : x.f4[(plc x.f3 k).toNat]? with
  | none => exact Sz.zero
  | some y => exact h.out.2.2.2 y (List.mem_of_getElem? e)
 ·exact Sz.zero
theorem Sz.wi {x v : S25} {nm : ByteArray} (h : Sz x) (hv : Sz v) (hn : nm.size ≤ 9223372036854775807) : Sz (Go.Proofs.YtkpdkoafngjflaaGreat.wi x nm v) := by
 unfold Go.Proofs.YtkpdkoafngjflaaGreat.wi
 split
 ·refine Sz.mk _ (Nat.zero_le _) (Nat.zero_le _) h.out.2.2.1 (fun y hy => ?_)
  rcases List.mem_or_eq_of_mem_set hy with q | rfl
  ·exact h.out.2.2.2 y q
  ·exact hv
 ·refine Sz.mk _ (Nat.zero_le _) (Nat.zero_le _) (fun k hk => ?_) (fun y hy => ?_)
  ·rcases List.mem_append.1 hk with q | q
   ·exact h.out.2.2.1 k q
   ·rw [List.mem_singleton.1 q]; exact hn
  ·rcases List.mem_append.1 hy with q | q
   ·exact h.out.2.2.2 y q
   ·rw [List.mem_singleton.1 q]; exact hv
theorem Sz.wx {x : S25} {nm : ByteArray} (h : Sz x) : Sz (Go.Proofs.YtkpdkoafngjflaaGreat.wx x nm) :=
 Sz.mk _ (Nat.zero_le _) (Nat.zero_le _) (fun k hk => h.out.2.2.1 k (woK_mem hk)) (fun y hy => h.out.2.2.2 y (woI_mem hy))
theorem Sz.thO {th : S25 → S25 → S25 → S25} (hth : ∀ a b c, Sz a → Sz b → Sz c → Sz (th a b c)) {D U : S25} (hD : Sz D) (hU : Sz U) : ∀ (l : List (ByteArray × S25)) (out : S25), Sz out → (∀ p ∈ l, p.1.size ≤ 9223372036854775807 ∧ Sz p.2) → Sz (Go.Proofs.YtkpdkoafngjflaaGreat.thO th D U l out)
 | [], out, h, _ => h
 |(k, o) :: r, out, h, hl => by
  unfold Go.Proofs.YtkpdkoafngjflaaGreat.thO
  have h1 := hl (k, o) List.mem_cons_self
  refine Sz.thO hth hD hU r _ ?_ (fun p hp => hl p (List.mem_cons_of_mem _ hp))
  split
  ·split
   ·exact Sz.wi h (hth _ _ _ (hD.field k) h1.2 (hU.field k)) h1.1
   ·exact h
  ·exact Sz.wx h
theorem Sz.thU {O : S25} : ∀ (l : List (ByteArray × S25)) (out : S25), Sz out → (∀ p ∈ l, p.1.size ≤ 9223372036854775807 ∧ Sz p.2) → Sz (Go.Proofs.YtkpdkoafngjflaaGreat.thU O l out)
 | [], out, h, _ => h
 |(k, u) :: r, out, h, hl => by
  unfold Go.Proofs.YtkpdkoafngjflaaGreat.thU
  have h1 := hl (k, u) List.mem_cons_self
  refine Sz.thU r _ ?_ (fun p hp => hl p (List.mem_cons_of_mem _ hp))
  split
  ·exact h
  ·exact Sz.wi h h1.2 h1.1
theorem Sz.pairs {x : S25} (h : Sz x) : ∀ p ∈ x.f3.zip x.f4, p.1.size ≤ 9223372036854775807 ∧ Sz p.2 := fun p hp =>
 ⟨h.out.2.2.1 _ (List.of_mem_zip hp).1, h.out.2.2.2 _ (List.of_mem_zip hp).2⟩
theorem Sz.thD : ∀ (d : Nat) {D O U : S25}, Sz D → Sz O → Sz U → Sz (Go.Proofs.YtkpdkoafngjflaaGreat.thD d D O U)
 | 0, D, O, U, h, _, _ => h
 |d + 1, D, O, U, h, hO, hU => by
  unfold Go.Proofs.YtkpdkoafngjflaaGreat.thD
  split
  ·exact Sz.thU _ _ (Sz.thO (fun a b c ha hb hc => Sz.thD d ha hb hc) h hU _ _ h hO.pairs) hU.pairs
  ·split
   ·exact h
   ·exact hU
theorem three_nodeF {w w0 : World} {g : Nat} {x y z : S25} {a0 a1 a2 a3 a4 b0 b1 b2 b3 b4 c0 c1 c2 c3 c4 : Value} {t : TypeId} (h : w.heap[g]? = some (.cells #[a0, a1, a2, a3, a4, b0, b1, b2, b3, b4, c0, c1, c2, c3, c4] t (0, 0)))
  (hx : k25.K w0 x [a0, a1, a2, a3, a4]) (hy : k25.K w0 y [b0, b1, b2, b3, b4]) (hz : k25.K w0 z [c0, c1, c2, c3, c4]) :
  (Kd.fixed k25 w0).C w (some ⟨g, 0, none⟩) 3 [x, y, z] := by
 have hat : ∀ (m i : Nat) (u : Value), #[a0, a1, a2, a3, a4, b0, b1, b2, b3, b4, c0, c1, c2, c3, c4][m * 5 + i]? = some u → w.cell? ((⟨g, 0, none⟩ : Addr).add (m * k25.sz + i)) = some u := fun m i u hu => by
  have ha : (⟨g, 0, none⟩ : Addr).add (m * k25.sz + i) = ⟨g, m * 5 + i, none⟩ := by
   show (⟨g, 0, none⟩ : Addr).add (m * 5 + i) = _
   unfold Addr.add
   split
   ·rename_i e; simp [e]
   ·simp
  rw [ha, cell_of_block h]
  exact hu
 refine ⟨rfl, by simp, fun _ => ⟨_, rfl, fun j p hp => ?_⟩⟩
 match j, hp with
 |0, hp =>
  obtain rfl : x = p := by simpa using hp
  refine ⟨[a0, a1, a2, a3, a4], rfl, hx, fun i u hu => hat 0 i u ?_⟩
  match i, hu with
  | 0, hu => exact hu
  | 1, hu => exact hu
  | 2, hu => exact hu
  | 3, hu => exact hu
  | 4, hu => exact hu
  | i + 5, hu => simp at hu
 |1, hp =>
  obtain rfl : y = p := by simpa using hp
  refine ⟨[b0, b1, b2, b3, b4], rfl, hy, fun i u hu => hat 1 i u ?_⟩
  match i, hu with
  | 0, hu => exact hu
  | 1, hu => exact hu
  | 2, hu => exact hu
  | 3, hu => exact hu
  | 4, hu => exact hu
  | i + 5, hu => simp at hu
 |2, hp =>
  obtain rfl : z = p := by simpa using hp
  refine ⟨[c0, c1, c2, c3, c4], rfl, hz, fun i u hu => hat 2 i u ?_⟩
  match i, hu with
  | 0, hu => exact hu
  | 1, hu => exact hu
  | 2, hu => exact hu
  | 3, hu => exact hu
  | 4, hu => exact hu
  | i + 5, hu => simp at hu
 | j + 3, hp => simp at hp
def LawPostT (w : World) (e : Ending) (w' : World) : Prop := e = .returned (.bool true) ∧ Below w.heap.size w w'
structure Vars3 (w wc : World) (D : S25) (A3 : Option Addr) (c3 : Nat) (A4 : Option Addr) (c4 : Nat) (O : S25) (B3 : Option Addr) (b3 : Nat) (B4 : Option Addr) (b4 : Nat) (U : S25) (E3 : Option Addr) (e3 : Nat) (E4 : Option Addr) (e4 : Nat) : Prop where
 below : Below w.heap.size w wc
 d : inVar wc w.heap.size D A3 c3 A4 c4
 o : inVar wc (w.heap.size + 1) O B3 b3 B4 b4
 u : inVar wc (w.heap.size + 1 + 1) U E3 e3 E4 e4
 k : nodeK wc D A3 c3 A4 c4 ∧ nodeK wc O B3 b3 B4 b4 ∧ nodeK wc U E3 e3 E4 e4
theorem Vars3.next {w wc w' : World} {D : S25} {A3 : Option Addr} {c3 : Nat} {A4 : Option Addr} {c4 : Nat} {O : S25} {B3 : Option Addr} {b3 : Nat} {B4 : Option Addr} {b4 : Nat} {U : S25} {E3 : Option Addr} {e3 : Nat} {E4 : Option Addr} {e4 : Nat}
  (h : Vars3 w wc D A3 c3 A4 c4 O B3 b3 B4 b4 U E3 e3 E4 e4) (hb : Below wc.heap.size wc w') : Vars3 w w' D A3 c3 A4 c4 O B3 b3 B4 b4 U E3 e3 E4 e4 :=
 ⟨h.below.trans (hb.mono h.below.size), (hb.block _ (lt_of_block h.d)).trans h.d, (hb.block _ (lt_of_block h.o)).trans h.o, (hb.block _ (lt_of_block h.u)).trans h.u, k25.K_below hb h.k.1, k25.K_below hb h.k.2.1, k25.K_below hb h.k.2.2⟩
structure Kept (wc : World) (g : Nat) (x : S25) (A3 : Option Addr) (c3 : Nat) (A4 : Option Addr) (c4 : Nat) : Prop where
 at_ : inVar wc g x A3 c3 A4 c4
 k : nodeK wc x A3 c3 A4 c4
theorem Kept.next {wc w' : World} {g : Nat} {x : S25} {A3 : Option Addr} {c3 : Nat} {A4 : Option Addr} {c4 : Nat} (h : Kept wc g x A3 c3 A4 c4) (hb : Below wc.heap.size wc w') : Kept w' g x A3 c3 A4 c4 :=
 ⟨(hb.block _ (lt_of_block h.at_)).trans h.at_, k25.K_below hb h.k⟩
theorem Vars3.cells {w wc : World} {D : S25} {A3 : Option Addr} {c3 : Nat} {A4 : Option Addr} {c4 : Nat} {O : S25} {B3 : Option Addr} {b3 : Nat} {B4 : Option Addr} {b4 : Nat} {U : S25} {E3 : Option Addr} {e3 : Nat} {E4 : Option Addr} {e4 : Nat}
  (h : Vars3 w wc D A3 c3 A4 c4 O B3 b3 B4 b4 U E3 e3 E4 e4) (w' : World) (hb : Below wc.heap.size wc w') : w'.cell? ⟨w.heap.size, 0, none⟩ = some (.int .i64 D.f0) ∧ w'.cell? ⟨w.heap.size, 1, none⟩ = some (.string D.f1) ∧ w'.cell? ⟨w.heap.size, 2, none⟩ = some (.string D.f2) ∧ w'.cell? ⟨w.heap.size, 3, none⟩ = some (.slice A3 D.f3.length c3) ∧ w'.cell? ⟨w.heap.size, 4, none⟩ = some (.slice A4 D.f4.length c4) ∧
   w'.cell? ⟨w.heap.size + 1, 0, none⟩ = some (.int .i64 O.f0) ∧ w'.cell? ⟨w.heap.size + 1, 1, none⟩ = some (.string O.f1) ∧ w'.cell? ⟨w.heap.size + 1, 2, none⟩ = some (.string O.f2) ∧ w'.cell? ⟨w.heap.size + 1, 3, none⟩ = some (.slice B3 O.f3.length b3) ∧ w'.cell? ⟨w.heap.size + 1, 4, none⟩ = some (.slice B4 O.f4.length b4) ∧
   w'.cell? ⟨w.heap.size + 1 + 1, 0, none⟩ = some (.int .i64 U.f0) ∧ w'.cell? ⟨w.heap.size + 1 + 1, 1, none⟩ = some (.string U.f1) ∧ w'.cell? ⟨w.heap.size + 1 + 1, 2, none⟩ = some (.string U.f2) ∧ w'.cell? ⟨w.heap.size + 1 + 1, 3, none⟩ = some (.slice E3 U.f3.length e3) ∧ w'.cell? ⟨w.heap.size + 1 + 1, 4, none⟩ = some (.slice E4 U.f4.length e4) := by
 have HA := Aside0.mk ((hb.block _ (lt_of_block h.d)).trans h.d)
 have HB := Aside0.mk ((hb.block _ (lt_of_block h.o)).trans h.o)
 have HC := Aside0.mk ((hb.block _ (lt_of_block h.u)).trans h.u)
 obtain ⟨ca0, ca1, ca2, ca3, ca4, za0, za1, za2, za3, za4⟩ := fc_ HA.out
 obtain ⟨cb0, cb1, cb2, cb3, cb4, zb0, zb1, zb2, zb3, zb4⟩ := fc_ HB.out
 obtain ⟨cc0, cc1, cc2, cc3, cc4, zc0, zc1, zc2, zc3, zc4⟩ := fc_ HC.out
 exact ⟨ca0, ca1, ca2, ca3, ca4, cb0, cb1, cb2, cb3, cb4, cc0, cc1, cc2, cc3, cc4⟩
theorem Kept.cells {wc : World} {g : Nat} {x : S25} {A3 : Option Addr} {c3 : Nat} {A4 : Option Addr} {c4 : Nat} (h : Kept wc g x A3 c3 A4 c4) (w' : World) (hb : Below wc.heap.size wc w') : w'.cell? ⟨g, 0, none⟩ = some (.int .i64 x.f0) ∧ w'.cell? ⟨g, 1, none⟩ = some (.string x.f1) ∧ w'.cell? ⟨g, 2, none⟩ = some (.string x.f2) ∧ w'.cell? ⟨g, 3, none⟩ = some (.slice A3 x.f3.length c3) ∧ w'.cell? ⟨g, 4, none⟩ = some (.slice A4 x.f4.length c4) := by
 have HA := Aside0.mk ((hb.block _ (lt_of_block h.at_)).trans h.at_)
 obtain ⟨ca0, ca1, ca2, ca3, ca4, za0, za1, za2, za3, za4⟩ := fc_ HA.out
 exact ⟨ca0, ca1, ca2, ca3, ca4⟩
theorem MR.fit {D O U R : S25} (hok : OK3 6 D O U) (ht : Tree (thD 6 D O U)) (h : MR 6 (some D) (some O) (some U) (some R)) : Wf 6 R ∧ nodes 6 R ≤ 60 := by
 have hq := MR.three hok h
 exact ⟨hq.wf ht.1, by rw [hq.nodes]; exact ht.2⟩
theorem MR.fit' {D O R : S25} (hok : OK3 6 D O O) (ht : Tree D) (h : MR 6 (some D) (some O) (some O) (some R)) : Wf 6 R ∧ nodes 6 R ≤ 60 := by
 have hq := MR.still hok h
 exact ⟨hq.wf ht.1, by rw [hq.nodes]; exact ht.2⟩
set_option maxRecDepth 100000 in
set_option maxHeartbeats 6400000 in
theorem threelaw_calls (D O U : S25) (hD : Sz D) (hO : Sz O) (hU : Sz U) (w : World) (A3 : Option Addr) (c3 : Nat) (A4 : Option Addr) (c4 : Nat) (hK : nodeK w D A3 c3 A4 c4) (B3 : Option Addr) (b3 : Nat) (B4 : Option Addr) (b4 : Nat) (hK' : nodeK w O B3 b3 B4 b4) (E3 : Option Addr) (e3 : Nat) (E4 : Option Addr) (e4 : Nat) (hK2 : nodeK w U E3 e3 E4 e4) :
  Calls Tryz.prog 3 #[nodeV D A3 c3 A4 c4, nodeV O B3 b3 B4 b4, nodeV U E3 e3 E4 e4] w (LawPostT w) := by
 have hu := Tryz.underlying25
 have HZ := Aside0.mk (And.intro hD (And.intro hO hU))
 have HK := Aside0.mk (And.intro hK (And.intro hK' hK2))
 clear hD hO hU hK hK' hK2
 go_enter Tryz.func3, Tryz.ntmps3
 go_wp2_with fail
 obtain ⟨w0, e0⟩ : ∃ w0, w0 = ((w.alloc (.cells #[.int .i64 D.f0, .string D.f1, .string D.f2, .slice A3 D.f3.length c3, .slice A4 D.f4.length c4] 25)).alloc (.cells #[.int .i64 O.f0, .string O.f1, .string O.f2, .slice B3 O.f3.length b3, .slice B4 O.f4.length b4] 25)).alloc (.cells #[.int .i64 U.f0, .string U.f1, .string U.f2, .slice E3 U.f3.length e3, .slice E4 U.f4.length e4] 25) := ⟨_, rfl⟩
 rw [← e0]
 have hb0 : Below w.heap.size w w0 := by rw [e0]; exact (((Below.refl _ _).alloc (Nat.le_refl _) _).alloc (by simp) _).alloc (by simp; omega) _
 have HV0 : Aside0 (Vars3 w w0 D A3 c3 A4 c4 O B3 b3 B4 b4 U E3 e3 E4 e4) := ⟨hb0, by rw [e0]; exact (heap_old _ (by simp; omega)).trans ((heap_old _ (by simp)).trans (heap_at _ rfl)), by rw [e0]; exact (heap_old _ (by simp)).trans (heap_at _ (by simp)), by rw [e0]; exact heap_at _ (by simp), k25.K_below hb0 HK.out.1, k25.K_below hb0 HK.out.2.1, k25.K_below hb0 HK.out.2.2⟩
 clear e0 hb0 HK
 refine (fits1_calls D w0 A3 c3 A4 c4 HV0.out.k.1).mono ?_
 rintro e w1 ⟨r, rfl, hb, _⟩
 have HV1 := Aside0.mk (HV0.out.next hb)
 clear hb HV0
 cases r
 ·go_wp2
  go_ret
  exact ⟨rfl, HV1.out.below⟩
 have HY := Aside0.mk HV1.out.o
 obtain ⟨cs0, cs1, cs2, cs3, cs4, zs0, zs1, zs2, zs3, zs4⟩ := fc_ HY.out
 go_wp2_with fail
 refine (fits1_calls O w1 B3 b3 B4 b4 HV1.out.k.2.1).mono ?_
 rintro e w2 ⟨r, rfl, hb, _⟩
 have HV2 := Aside0.mk (HV1.out.next hb)
 clear hb HV1 cs0 cs1 cs2 cs3 cs4 zs0 zs1 zs2 zs3 zs4 HY
 cases r
 ·go_wp2
  go_ret
  exact ⟨rfl, HV2.out.below⟩
 have HY := Aside0.mk HV2.out.u
 obtain ⟨cs0, cs1, cs2, cs3, cs4, zs0, zs1, zs2, zs3, zs4⟩ := fc_ HY.out
 go_wp2_with fail
 refine (fits1_calls U w2 E3 e3 E4 e4 HV2.out.k.2.2).mono ?_
 rintro e w3 ⟨r, rfl, hb, _⟩
 have HV3 := Aside0.mk (HV2.out.next hb)
 clear hb HV2 cs0 cs1 cs2 cs3 cs4 zs0 zs1 zs2 zs3 zs4 HY
 cases r
 ·go_wp2
  go_ret
  exact ⟨rfl, HV3.out.below⟩
 have HY := Aside0.mk HV3.out.d
 obtain ⟨cs0, cs1, cs2, cs3, cs4, zs0, zs1, zs2, zs3, zs4⟩ := fc_ HY.out
 go_wp2_with fail
 refine (isMap_calls D w3 A3 c3 A4 c4 HV3.out.k.1 HZ.out.1).mono ?_
 rintro e w4 ⟨r, rfl, hb, hf⟩
 have HV4 := Aside0.mk (HV3.out.next hb)
 clear hb HV3 cs0 cs1 cs2 cs3 cs4 zs0 zs1 zs2 zs3 zs4 HY
 cases r
 ·clear hf
  go_wp2
  go_ret
  exact ⟨rfl, HV4.out.below⟩
 have HMD := Aside0.mk (hf rfl)
 clear hf
 have HY := Aside0.mk HV4.out.o
 obtain ⟨cs0, cs1, cs2, cs3, cs4, zs0, zs1, zs2, zs3, zs4⟩ := fc_ HY.out
 go_wp2_with fail
 refine (isMap_calls O w4 B3 b3 B4 b4 HV4.out.k.2.1 HZ.out.2.1).mono ?_
 rintro e w5 ⟨r, rfl, hb, hf⟩
 have HV5 := Aside0.mk (HV4.out.next hb)
 clear hb HV4 cs0 cs1 cs2 cs3 cs4 zs0 zs1 zs2 zs3 zs4 HY
 cases r
 ·clear hf
  go_wp2
  go_ret
  exact ⟨rfl, HV5.out.below⟩
 have HMO := Aside0.mk (hf rfl)
 clear hf
 have HY := Aside0.mk HV5.out.u
 obtain ⟨cs0, cs1, cs2, cs3, cs4, zs0, zs1, zs2, zs3, zs4⟩ := fc_ HY.out
 go_wp2_with fail
 refine (isMap_calls U w5 E3 e3 E4 e4 HV5.out.k.2.2 HZ.out.2.2).mono ?_
 rintro e w6 ⟨r, rfl, hb, hf⟩
 have HV6 := Aside0.mk (HV5.out.next hb)
 clear hb HV5 cs0 cs1 cs2 cs3 cs4 zs0 zs1 zs2 zs3 zs4 HY
 cases r
 ·clear hf
  go_wp2
  go_ret
  exact ⟨rfl, HV6.out.below⟩
 have HMU := Aside0.mk (hf rfl)
 clear hf
 have HCL := Aside0.mk HV6.out.cells
 obtain ⟨ca0, ca1, ca2, ca3, ca4, cb0, cb1, cb2, cb3, cb4, cc0, cc1, cc2, cc3, cc4⟩ := HCL.out w6 (Below.refl _ _)
 go_wp2_with fail
 obtain ⟨w7, e7⟩ : ∃ w7, w7 = w6.alloc (.cells #[.int .i64 D.f0, .string D.f1, .string D.f2, .slice A3 D.f3.length c3, .slice A4 D.f4.length c4, .int .i64 O.f0, .string O.f1, .string O.f2, .slice B3 O.f3.length b3, .slice B4 O.f4.length b4, .int .i64 U.f0, .string U.f1, .string U.f2, .slice E3 U.f3.length e3, .slice E4 U.f4.length e4] 25) := ⟨_, rfl⟩
 rw [← e7]
 have hb7 : Below w6.heap.size w6 w7 := by rw [e7]; exact (Below.refl _ _).alloc (Nat.le_refl _) _
 have hg7 : w7.heap[w6.heap.size]? = some (.cells #[.int .i64 D.f0, .string D.f1, .string D.f2, .slice A3 D.f3.length c3, .slice A4 D.f4.length c4, .int .i64 O.f0, .string O.f1, .string O.f2, .slice B3 O.f3.length b3, .slice B4 O.f4.length b4, .int .i64 U.f0, .string U.f1, .string U.f2, .slice E3 U.f3.length e3, .slice E4 U.f4.length e4] 25 (0, 0)) := by rw [e7]; exact heap_at _ rfl
 have hrow := C_of_fixed hb7 (three_nodeF hg7 HV6.out.k.1 HV6.out.k.2.1 HV6.out.k.2.2)
 have HV7 := Aside0.mk (HV6.out.next hb7)
 clear hb7 hg7 e7 HV6 HCL ca0 ca1 ca2 ca3 ca4 cb0 cb1 cb2 cb3 cb4 cc0 cc1 cc2 cc3 cc4
 refine (areAlike_calls 6 (Nat.le_refl _) [D, O, U] (fun x hx => (by rcases List.mem_cons.1 hx with rfl | hx; exact HMD.out.2; rcases List.mem_cons.1 hx with rfl | hx; exact HMO.out.2; rw [List.mem_singleton.1 hx]; exact HMU.out.2)) w7 (some ⟨w6.heap.size, 0, none⟩) 3 hrow (Nat.le_refl 3)).mono ?_
 rintro e w8 ⟨r, rfl, hb, hal⟩
 have HV8 := Aside0.mk (HV7.out.next hb)
 clear hb HV7 hrow
 cases r
 ·clear hal
  go_wp2
  go_ret
  exact ⟨rfl, HV8.out.below⟩
 have HAL : Aside0 (AlP 6 O D ∧ AlP 6 U D) := ⟨hal rfl 1 0 (by decide) (by simp), hal rfl 2 0 (by decide) (by simp)⟩
 clear hal
 have HCL := Aside0.mk HV8.out.cells
 obtain ⟨ca0, ca1, ca2, ca3, ca4, cb0, cb1, cb2, cb3, cb4, cc0, cc1, cc2, cc3, cc4⟩ := HCL.out w8 (Below.refl _ _)
 go_wp2_with fail
 obtain ⟨S, hS⟩ : ∃ S, S = thD 6 D O U := ⟨_, rfl⟩
 have HS := Aside0.mk hS
 refine (three_calls 6 D O U HMD.out.2 HMO.out.2 HMU.out.2 (fun _ => False) w8 (fun k h => h.elim) A3 c3 A4 c4 B3 b3 B4 b4 E3 e3 E4 e4 (nodeR_no HV8.out.k.1) (nodeR_no HV8.out.k.2.1) (nodeR_no HV8.out.k.2.2)).mono ?_
 rw [← hS]
 rintro e w9 ⟨F3, f3, F4, f4, rfl, hk, hb⟩
 have HV9 := Aside0.mk (HV8.out.next hb)
 have HK9 := Aside0.mk hk.now
 clear hb hk hS HV8 HCL ca0 ca1 ca2 ca3 ca4 cb0 cb1 cb2 cb3 cb4 cc0 cc1 cc2 cc3 cc4
 obtain ⟨w10, e10⟩ : ∃ w10, w10 = w9.alloc (.cells #[.int .i64 S.f0, .string S.f1, .string S.f2, .slice F3 S.f3.length f3, .slice F4 S.f4.length f4] 25) := ⟨_, rfl⟩
 have hb10 : Below w9.heap.size w9 w10 := by rw [e10]; exact (Below.refl _ _).alloc (Nat.le_refl _) _
 obtain ⟨g, hg⟩ : ∃ g, g = w9.heap.size := ⟨_, rfl⟩
 have hg10 : inVar w10 g S F3 f3 F4 f4 := by rw [hg, e10]; exact heap_at _ rfl
 obtain ⟨ca0, ca1, ca2, ca3, ca4, cb0, cb1, cb2, cb3, cb4, cc0, cc1, cc2, cc3, cc4⟩ := HV9.out.cells _ hb10
 rw [e10] at ca0 ca1 ca2 ca3 ca4 cb0 cb1 cb2 cb3 cb4 cc0 cc1 cc2 cc3 cc4
 have HV10 := Aside0.mk (HV9.out.next hb10)
 have HW10 : Aside0 (Kept w10 g S F3 f3 F4 f4) := ⟨hg10, k25.K_below hb10 HK9.out⟩
 go_wp2_with fail
 rw [← e10]
 try rw [← hg]
 clear HV9 HK9 hb10 hg10 e10 hg
 refine (covers_calls 6 D O HMD.out.2 HMO.out.2 w10 A3 c3 A4 c4 B3 b3 B4 b4 HV10.out.k.1 HV10.out.k.2.1).mono ?_
 rintro e w11 ⟨r, rfl, hb, hf⟩
 have HV11 := Aside0.mk (HV10.out.next hb)
 have HW11 := Aside0.mk (HW10.out.next hb)
 clear hb HV10 HW10 ca0 ca1 ca2 ca3 ca4 cb0 cb1 cb2 cb3 cb4 cc0 cc1 cc2 cc3 cc4
 cases r
 ·clear hf
  go_wp2
  go_ret
  exact ⟨rfl, HV11.out.below⟩
 have HCV := Aside0.mk (hf rfl)
 clear hf
 obtain ⟨ca0, ca1, ca2, ca3, ca4, cb0, cb1, cb2, cb3, cb4, cc0, cc1, cc2, cc3, cc4⟩ := HV11.out.cells w11 (Below.refl _ _)
 go_wp2_with fail
 refine (clash_calls 6 D U O HMD.out.2 HMU.out.2 HMO.out.2 w11 A3 c3 A4 c4 E3 e3 E4 e4 B3 b3 B4 b4 HV11.out.k.1 HV11.out.k.2.2 HV11.out.k.2.1).mono ?_
 rintro e w12 ⟨r, rfl, hb, hf⟩
 have HV12 := Aside0.mk (HV11.out.next hb)
 have HW12 := Aside0.mk (HW11.out.next hb)
 clear hb HV11 HW11 ca0 ca1 ca2 ca3 ca4 cb0 cb1 cb2 cb3 cb4 cc0 cc1 cc2 cc3 cc4
 cases r
 rotate_left
 ·clear hf
  go_wp2
  go_ret
  exact ⟨rfl, HV12.out.below⟩
 have HCH := Aside0.mk (hf rfl)
 clear hf
 obtain ⟨ca0, ca1, ca2, ca3, ca4, cb0, cb1, cb2, cb3, cb4, cc0, cc1, cc2, cc3, cc4⟩ := HV12.out.cells w12 (Below.refl _ _)
 go_wp2_with fail
 refine (takes_calls 6 O U HMO.out.2 HMU.out.2 w12 B3 b3 B4 b4 E3 e3 E4 e4 HV12.out.k.2.1 HV12.out.k.2.2).mono ?_
 rintro e w13 ⟨r, rfl, hb, hf⟩
 have HV13 := Aside0.mk (HV12.out.next hb)
 have HW13 := Aside0.mk (HW12.out.next hb)
 clear hb HV12 HW12 ca0 ca1 ca2 ca3 ca4 cb0 cb1 cb2 cb3 cb4 cc0 cc1 cc2 cc3 cc4
 cases r
 ·clear hf
  go_wp2
  go_ret
  exact ⟨rfl, HV13.out.below⟩
 have HTK := Aside0.mk (hf rfl)
 clear hf
 obtain ⟨ca0, ca1, ca2, ca3, ca4⟩ := HW13.out.cells w13 (Below.refl _ _)
 go_wp2_with fail
 refine (isTree_calls S w13 F3 f3 F4 f4 HW13.out.k (by rw [HS.out]; exact Sz.thD 6 HZ.out.1 HZ.out.2.1 HZ.out.2.2)).mono ?_
 rintro e w14 ⟨r, rfl, hb, hf⟩
 have HV14 := Aside0.mk (HV13.out.next hb)
 have HW14 := Aside0.mk (HW13.out.next hb)
 clear hb HV13 HW13 ca0 ca1 ca2 ca3 ca4
 cases r
 ·clear hf
  go_wp2
  go_ret
  exact ⟨rfl, HV14.out.below⟩
 have HTR := Aside0.mk (hf rfl)
 clear hf
 obtain ⟨ca0, ca1, ca2, ca3, ca4, cb0, cb1, cb2, cb3, cb4, cc0, cc1, cc2, cc3, cc4⟩ := HV14.out.cells w14 (Below.refl _ _)
 go_wp2_with fail
 have hok := OK3.of HMD.out.2.1 HMO.out.2.1 HMU.out.2.1 HAL.out.1 HAL.out.2 HCV.out HCH.out HTK.out
 have hok2 := OK3.same HMD.out.2.1 HMO.out.2.1 HAL.out.1 HCV.out
 have HOK := Aside0.mk (And.intro hok hok2)
 clear hok hok2 HAL HCV HCH HTK
 refine (merge3_calls w14 D O U A3 c3 A4 c4 B3 b3 B4 b4 E3 e3 E4 e4 HV14.out.k.1 HV14.out.k.2.1 HV14.out.k.2.2 ⟨HMD.out.1, HMO.out.1, HMU.out.1⟩ HOK.out.1 ⟨HMD.out.2, HMO.out.2, HMU.out.2⟩ (fun R h => MR.fit HOK.out.1 (by rw [← HS.out]; exact HTR.out) h)).mono ?_
 rintro e w15 ⟨R, G3, g3, G4, g4, hR, rfl, hk, hb⟩
 have HV15 := Aside0.mk (HV14.out.next hb)
 have HW15 := Aside0.mk (HW14.out.next hb)
 have HR15 := Aside0.mk (And.intro (MR.three HOK.out.1 hR) (And.intro (MR.fit HOK.out.1 (by rw [← HS.out]; exact HTR.out) hR) hk))
 clear hb HV14 HW14 hR hk ca0 ca1 ca2 ca3 ca4 cb0 cb1 cb2 cb3 cb4 cc0 cc1 cc2 cc3 cc4
 obtain ⟨w16, e16⟩ : ∃ w16, w16 = w15.alloc (.cells #[.int .i64 R.f0, .string R.f1, .string R.f2, .slice G3 R.f3.length g3, .slice G4 R.f4.length g4] 25) := ⟨_, rfl⟩
 have hb16 : Below w15.heap.size w15 w16 := by rw [e16]; exact (Below.refl _ _).alloc (Nat.le_refl _) _
 obtain ⟨q, hq⟩ : ∃ q, q = w15.heap.size := ⟨_, rfl⟩
 have hg16 : inVar w16 q R G3 g3 G4 g4 := by rw [hq, e16]; exact heap_at _ rfl
 obtain ⟨ca0, ca1, ca2, ca3, ca4, cb0, cb1, cb2, cb3, cb4, cc0, cc1, cc2, cc3, cc4⟩ := HV15.out.cells _ hb16
 rw [e16] at ca0 ca1 ca2 ca3 ca4 cb0 cb1 cb2 cb3 cb4 cc0 cc1 cc2 cc3 cc4
 have HV16 := Aside0.mk (HV15.out.next hb16)
 have HW16 := Aside0.mk (HW15.out.next hb16)
 have HR16 : Aside0 (Kept w16 q R G3 g3 G4 g4) := ⟨hg16, k25.K_below hb16 HR15.out.2.2⟩
 have HRP : Aside0 (Lq 6 R (thD 6 D O U) ∧ Wf 6 R ∧ nodes 6 R ≤ 60) := ⟨HR15.out.1, HR15.out.2.1⟩
 clear HR15
 go_wp2_with fail
 rw [← e16]
 try rw [← hq]
 clear HV15 HW15 hb16 hg16 e16 hq ca0 ca1 ca2 ca3 ca4 cb0 cb1 cb2 cb3 cb4 cc0 cc1 cc2 cc3 cc4
 refine (merge3_calls w16 D O O A3 c3 A4 c4 B3 b3 B4 b4 B3 b3 B4 b4 HV16.out.k.1 HV16.out.k.2.1 HV16.out.k.2.1 ⟨HMD.out.1, HMO.out.1, HMO.out.1⟩ HOK.out.2 ⟨HMD.out.2, HMO.out.2, HMO.out.2⟩ (fun R h => MR.fit' HOK.out.2 HMD.out.2 h)).mono ?_
 rintro e w17 ⟨P, H3, h3, H4, h4, hR, rfl, hk, hb⟩
 have HV17 := Aside0.mk (HV16.out.next hb)
 have HW17 := Aside0.mk (HW16.out.next hb)
 have HR17 := Aside0.mk (HR16.out.next hb)
 have HQ17 := Aside0.mk (And.intro (MR.still HOK.out.2 hR) (And.intro (MR.fit' HOK.out.2 HMD.out.2 hR) hk))
 clear hb HV16 HW16 HR16 hR hk
 obtain ⟨w18, e18⟩ : ∃ w18, w18 = w17.alloc (.cells #[.int .i64 P.f0, .string P.f1, .string P.f2, .slice H3 P.f3.length h3, .slice H4 P.f4.length h4] 25) := ⟨_, rfl⟩
 have hb18 : Below w17.heap.size w17 w18 := by rw [e18]; exact (Below.refl _ _).alloc (Nat.le_refl _) _
 obtain ⟨v, hv⟩ : ∃ v, v = w17.heap.size := ⟨_, rfl⟩
 have hg18 : inVar w18 v P H3 h3 H4 h4 := by rw [hv, e18]; exact heap_at _ rfl
 have HV18 := Aside0.mk (HV17.out.next hb18)
 have HW18 := Aside0.mk (HW17.out.next hb18)
 have HR18 := Aside0.mk (HR17.out.next hb18)
 have HQ18 : Aside0 (Kept w18 v P H3 h3 H4 h4) := ⟨hg18, k25.K_below hb18 HQ17.out.2.2⟩
 have HQP : Aside0 (Lq 6 P D ∧ Wf 6 P ∧ nodes 6 P ≤ 60) := ⟨HQ17.out.1, HQ17.out.2.1⟩
 obtain ⟨ca0, ca1, ca2, ca3, ca4⟩ := HR17.out.cells _ hb18
 obtain ⟨cb0, cb1, cb2, cb3, cb4⟩ := HW17.out.cells _ hb18
 rw [e18] at ca0 ca1 ca2 ca3 ca4 cb0 cb1 cb2 cb3 cb4
 clear HQ17
 go_wp2_with fail
 rw [← e18]
 try rw [← hv]
 clear HV17 HW17 HR17 hb18 hg18 e18 hv ca0 ca1 ca2 ca3 ca4 cb0 cb1 cb2 cb3 cb4
 refine (sameG_calls true 6 R S (HRP.out.2.1.sm HRP.out.2.2) (HTR.out.1.sm HTR.out.2) w18 G3 g3 G4 g4 F3 f3 F4 f4 HR18.out.k HW18.out.k).mono ?_
 rintro e w19 ⟨rfl, hb⟩
 rw [show smD true 6 R S = true from by rw [HS.out]; exact HRP.out.1.sm]
 have HV19 := Aside0.mk (HV18.out.next hb)
 have HQ19 := Aside0.mk (HQ18.out.next hb)
 clear hb HV18 HW18 HR18 HQ18
 obtain ⟨ca0, ca1, ca2, ca3, ca4⟩ := HQ19.out.cells w19 (Below.refl _ _)
 obtain ⟨cb0, cb1, cb2, cb3, cb4, cc0, cc1, cc2, cc3, cc4, cd0, cd1, cd2, cd3, cd4⟩ := HV19.out.cells w19 (Below.refl _ _)
 go_wp2_with fail
 refine (sameG_calls true 6 P D (HQP.out.2.1.sm HQP.out.2.2) (HMD.out.2.1.sm HMD.out.2.2) w19 H3 h3 H4 h4 A3 c3 A4 c4 HQ19.out.k HV19.out.k.1).mono ?_
 rintro e w20 ⟨rfl, hb⟩
 rw [show smD true 6 P D = true from HQP.out.1.sm]
 have HB20 := Aside0.mk (HV19.out.next hb).below
 clear hb HV19 HQ19 ca0 ca1 ca2 ca3 ca4 cb0 cb1 cb2 cb3 cb4 cc0 cc1 cc2 cc3 cc4 cd0 cd1 cd2 cd3 cd4
 go_wp2
 go_ret
 exact ⟨rfl, HB20.out⟩
theorem three_law (w : World) (D : S25) (hD : Sz D) (A3 : Option Addr) (c3 : Nat) (A4 : Option Addr) (c4 : Nat) (hK : nodeK w D A3 c3 A4 c4) (O : S25) (hO : Sz O) (B3 : Option Addr) (b3 : Nat) (B4 : Option Addr) (b4 : Nat) (hK' : nodeK w O B3 b3 B4 b4) (U : S25) (hU : Sz U) (E3 : Option Addr) (e3 : Nat) (E4 : Option Addr) (e4 : Nat) (hK2 : nodeK w U E3 e3 E4 e4) :
  Calls Tryz.prog 3 #[nodeV D A3 c3 A4 c4, nodeV O B3 b3 B4 b4, nodeV U E3 e3 E4 e4] w fun e w' => e = .returned (.bool true) ∧ Below w.heap.size w w' := threelaw_calls D O U hD hO hU w A3 c3 A4 c4 hK B3 b3 B4 b4 hK' E3 e3 E4 e4 hK2
end Go.Proofs.YtkpdkoafngjflaaGreat
