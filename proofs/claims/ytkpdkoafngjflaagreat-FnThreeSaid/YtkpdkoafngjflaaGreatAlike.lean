import Derived.Test.YtkpdkoafngjflaaGreatSh
import Derived.Test.YtkpdkoafngjflaaGreatCovers
import Derived.Test.YtkpdkoafngjflaaGreatNamesA
namespace Go.Proofs.YtkpdkoafngjflaaGreat
open Go.RowKit Go.Proofs.YtkpdkoafngjflaaGreatW.PrintWords Go.Proofs.YtkpdkoafngjflaaGreatW.PrintLast Go.Proofs.YtkpdkoafngjflaaGreat.PFnFields
set_option linter.unusedVariables false
set_option linter.unusedSimpArgs false
def ali7f.T : Bool × List (List Nat × List Nat) := (true, [([], []), ([0], [0]), ([1], [1]), ([2, 1], [1, 2]), ([1], [1]), ([3, 4, 1], [1, 3, 4]), ([5, 1], [1, 5]), ([1], [1]), ([6, 7, 1, 1], [1, 6, 7]), ([8, 1], [1, 8]), ([1, 9], [1, 9])])
def ali7f.B : List Nat := [0, 1, 3, 7, 3, 31, 63, 3, 255, 511, 1023]
theorem ali7f.tab : rtab .any (opsOf Tryz.f15 7) = ali7f.T := by kernel_rfl
theorem ali7f.bits : waitsOk ali7f.T.2 ali7f.B = true := by kernel_rfl
def ali12.T : Bool × List (List Nat × List Nat) := (true, [([], []), ([0], [0]), ([], []), ([2, 1], [2]), ([1, 3], [1, 3])])
def ali12.B : List Nat := [0, 1, 0, 7, 15]
theorem ali12.tab : rtab .any (opsOf Tryz.f15 12) = ali12.T := by kernel_rfl
theorem ali12.bits : waitsOk ali12.T.2 ali12.B = true := by kernel_rfl
def ali20e.T : Bool × List (List Nat × List Nat) := (true, [([], []), ([0], [0]), ([1, 1], [1]), ([2], [2]), ([3, 2, 2], [2, 3]), ([2], [2]), ([5, 4, 2], [2, 5]), ([4, 6, 2], [2, 4, 6]), ([2, 7], [2, 7]), ([8, 6], [8]), ([9], [9]), ([9], [9]), ([10, 11, 9, 9], [9, 10, 11]), ([12, 9], [9, 12]), ([9, 13], [9, 13])])
def ali20e.B : List Nat := [0, 1, 3, 7, 15, 7, 63, 127, 255, 511, 1023, 1023, 4095, 8191, 16383]
theorem ali20e.tab : rtab .any (opsOf Tryz.f15 20) = ali20e.T := by kernel_rfl
theorem ali20e.bits : waitsOk ali20e.T.2 ali20e.B = true := by kernel_rfl
def VarsAl (w wr : World) (a : S25) (A3 : Option Addr) (c3 : Nat) (A4 : Option Addr) (c4 : Nat) (b : S25) (B3 : Option Addr) (d3 : Nat) (B4 : Option Addr) (d4 : Nat) : Prop :=
 Below w.heap.size w wr ∧ wr.heap[w.heap.size]? = some (.cells #[.int .i64 a.f0, .string a.f1, .string a.f2, .slice A3 a.f3.length c3, .slice A4 a.f4.length c4] 25 (0, 0)) ∧ wr.heap[w.heap.size + 1]? = some (.cells #[.int .i64 b.f0, .string b.f1, .string b.f2, .slice B3 b.f3.length d3, .slice B4 b.f4.length d4] 25 (0, 0))
theorem VarsAl.next {w wr w' : World} {a : S25} {A3 : Option Addr} {c3 : Nat} {A4 : Option Addr} {c4 : Nat} {b : S25} {B3 : Option Addr} {d3 : Nat} {B4 : Option Addr} {d4 : Nat} (h : VarsAl w wr a A3 c3 A4 c4 b B3 d3 B4 d4) (hb : Below wr.heap.size wr w') : VarsAl w w' a A3 c3 A4 c4 b B3 d3 B4 d4 :=
 ⟨h.1.trans (hb.mono h.1.size), (hb.block _ (lt_of_block h.2.1)).trans h.2.1, (hb.block _ (lt_of_block h.2.2)).trans h.2.2⟩
set_option maxRecDepth 100000 in
set_option maxHeartbeats 3200000 in
theorem alike_calls (d : Nat) : ∀ (a b : S25) (ha : Fit d a) (hb : Fit d b) (hd : d ≤ 6) (w : World) (A3 : Option Addr) (c3 : Nat) (A4 : Option Addr) (c4 : Nat) (B3 : Option Addr) (d3 : Nat) (B4 : Option Addr) (d4 : Nat) (hK : nodeK w a A3 c3 A4 c4) (hK' : nodeK w b B3 d3 B4 d4),
  Calls Tryz.prog 15 #[nodeV a A3 c3 A4 c4, nodeV b B3 d3 B4 d4] w (BoolPost w (AlP d a b)) := by
 induction d with
 | zero => intro a b ha; exact ha.1.elim
 |succ d ih =>
  intro a b ha hb hd w A3 c3 A4 c4 B3 d3 B4 d4 hK hK'
  have hu := Tryz.underlying25
  have HK := Aside0.mk (And.intro hK hK')
  have HX := Aside0.mk (And.intro ha hb)
  have HG := Aside0.mk (node_rows hK)
  have HGB := Aside0.mk (node_rows hK')
  have HTa : Aside0 (∀ y ∈ a.f4, Tree y) := ⟨fun y hy => Fit.tree (6 - d) d (by omega) (ha.item hy)⟩
  have HTb : Aside0 (∀ y ∈ b.f4, Tree y) := ⟨fun y hy => Fit.tree (6 - d) d (by omega) (hb.item hy)⟩
  have IH := Aside0.mk (fun a b ha hb => ih a b ha hb (by omega))
  have hbl := ha.len
  have hbl2 := hb.len
  have hkl := ha.1.klen
  have hak : a.f0 ≠ 3 ∨ a.f0 = 3 := by omega
  clear hK hK' ha hb ih hd
  by_cases h0 : a.f0 = b.f0
  rotate_left
  ·have h0b : (a.f0 != b.f0) = true := by simpa using h0
   clear h0
   go_enter Tryz.func15, Tryz.ntmps15
   go_wp2
   go_ret
   exact ⟨false, rfl, ((Below.refl _ _).alloc (Nat.le_refl _) _).alloc (by simp) _, fun h => by cases h⟩
  have h0b : (a.f0 != b.f0) = false := by rw [h0]; simp
  have H0K := Aside0.mk h0
  clear h0
  go_enter Tryz.func15, Tryz.ntmps15
  go_wp2_with fail
  obtain ⟨w0, e0⟩ : ∃ w0, w0 = (w.alloc (.cells #[.int .i64 a.f0, .string a.f1, .string a.f2, .slice A3 a.f3.length c3, .slice A4 a.f4.length c4] 25)).alloc (.cells #[.int .i64 b.f0, .string b.f1, .string b.f2, .slice B3 b.f3.length d3, .slice B4 b.f4.length d4] 25) := ⟨_, rfl⟩
  try rw [← e0]
  have H0 : Aside0 (VarsAl w w0 a A3 c3 A4 c4 b B3 d3 B4 d4) := ⟨by rw [e0]; exact ((Below.refl _ _).alloc (Nat.le_refl _) _).alloc (by simp) _, by rw [e0]; exact (heap_old _ (by simp)).trans (heap_at _ rfl), by rw [e0]; exact heap_at _ (by simp)⟩
  clear e0
  go_loopg [21] a.f3.length (fun k i wr => ∃ j : Nat, i = .int .i64 j ∧ Aside0 (j ≤ a.f3.length ∧ k + j = a.f3.length) ∧ Aside0 (VarsAl w wr a A3 c3 A4 c4 b B3 d3 B4 d4) ∧
   Aside0 (∀ i, i < j → ∀ y, lk b (a.f3.getD i ByteArray.empty) = some y → AlP d (a.f4.getD i z25) y))
  case atStart => exact ⟨0, rfl, ⟨by omega⟩, H0, ⟨fun i hi => absurd hi (Nat.not_lt_zero _)⟩⟩
  case round =>
   clear H0
   obtain ⟨j, rfl, HJ, HB, HP⟩ := hrel
   by_cases hj : j < a.f3.length
   ·have hj4 : j < a.f4.length := by omega
    generalize hkk : a.f3.getD j ByteArray.empty = kk
    generalize hyy : a.f4.getD j z25 = yy
    obtain ⟨ad3, ea, hs3⟩ := strAt HG.out.1 j hj
    obtain ⟨am, P3, p3, P4, p4, e6, hKp, fp0, fp1, fp2, fp3, fp4⟩ := nodeAt HG.out.2 j hj4 yy hyy
    rw [hkk] at hs3
    subst ea e6
    have hym : yy ∈ a.f4 := by rw [← hyy, List.getD_eq_getElem?_getD, List.getElem?_eq_getElem hj4]; exact List.getElem_mem _
    have HY := Aside0.mk (And.intro hkk (And.intro hyy (And.intro hKp (HX.out.1.item hym))))
    have HEL := Aside0.mk (And.intro fp0 (And.intro fp1 (And.intro fp2 (And.intro fp3 fp4))))
    have hs3' := (HB.out.1.cell (World.block_lt_of_cell? w _ hs3)).trans hs3
    have HXA := Aside0.mk HB.out.2.2
    obtain ⟨cr0, cr1, cr2, cr3, cr4, zr0, zr1, zr2, zr3, zr4⟩ := fc_ HXA.out
    clear hkk hyy hKp fp0 fp1 fp2 fp3 fp4 hs3 hym
    go_wp2_with fail
    refine (spField_calls b kk HX.out.2.1.klen wr B3 d3 B4 d4 (k25.K_below HB.out.1 HK.out.2)).mono ?_
    rintro e w3 ⟨hb3, D3, q3, D4, q4, rfl, hKs⟩
    obtain ⟨sf, hsf⟩ : ∃ sf, sf = spField b kk := ⟨_, rfl⟩
    obtain ⟨hs, hhs⟩ : ∃ hs, hs = has kk b := ⟨_, rfl⟩
    rw [← hsf, ← hhs]
    rw [← hsf] at hKs
    have HSF := Aside0.mk (And.intro hsf (And.intro hhs (k25.K_below hb3 hKs)))
    have HB3 := Aside0.mk (HB.out.next hb3)
    clear hb3 hKs hsf hhs HXA cr0 cr1 cr2 cr3 cr4 zr0 zr1 zr2 zr3 zr4 hs3'
    go_wp2_with fail
    obtain ⟨w4, e4⟩ : ∃ w4, w4 = w3.alloc (.cells #[.int .i64 sf.f0, .string sf.f1, .string sf.f2, .slice D3 sf.f3.length q3, .slice D4 sf.f4.length q4] 25) := ⟨_, rfl⟩
    rw [← e4]
    obtain ⟨vb, hvb⟩ : ∃ vb, vb = w3.heap.size := ⟨_, rfl⟩
    rw [← hvb]
    have hb4 : Below w3.heap.size w3 w4 := by rw [e4]; exact (Below.refl _ _).alloc (Nat.le_refl _) _
    have hv4 : w4.heap[vb]? = some (.cells #[.int .i64 sf.f0, .string sf.f1, .string sf.f2, .slice D3 sf.f3.length q3, .slice D4 sf.f4.length q4] 25 (0, 0)) := by rw [e4]; exact heap_at _ hvb
    have HB4 := Aside0.mk (HB3.out.next hb4)
    have HV4 := Aside0.mk (And.intro hv4 (k25.K_below hb4 HSF.out.2.2))
    clear hb4 hv4 e4 hvb HB3
    cases hs
    ·clear HEL
     refine start_ (n := 11) (S := fun w' => w'.cell? ⟨vb, 0, none⟩ = some (.int .i64 sf.f0)) (ds := []) #[false, false, false, false, false, false, false, false, false, false, false] (by kernel_rfl) rfl rfl (by rw [cell_of_block (w := w4.drew) HV4.out.1]; rfl) (fun hHeld => ?_)
     refine with_tabW (T := ali7f.T) (B := ali7f.B) ali7f.tab ali7f.bits (fun HT_ HW_ => ?_)
     refine ps_ 0 32 HT_ ?_
     refine ps_ 1 33 HT_ ?_
     refine us_ 2 34 HT_ ?_
     refine us_ 3 35 HT_ ?_
     refine us_ 4 36 HT_ ?_
     refine us_ 5 37 HT_ ?_
     refine us_ 6 38 HT_ ?_
     refine us_ 7 39 HT_ ?_
     refine us_ 8 40 HT_ ?_
     refine us_ 9 41 HT_ ?_
     refine ps_ 10 42 HT_ ?_
     refine done_ (done_of HT_.out (by kernel_rfl)) ?_
     have HB9 := Aside0.mk (HB4.out.next (Below.refl _ _).drew)
     go_wp2_with fail
     go_roundg (gk - 1)
     case measure => have := HJ.out; omega
     case rel =>
      refine ⟨j + 1, by go_num, ⟨by have := HJ.out; omega⟩, HB9, ⟨fun i hi y hy => ?_⟩⟩
      rcases Nat.lt_or_ge i j with h | h
      ·exact HP.out i h y hy
      ·have hij : i = j := by omega
       rw [hij, HY.out.1, (has_lk HX.out.2.1 kk).2 HSF.out.2.1.symm] at hy
       cases hy
    ·have HS : Aside0 (∀ w', Below w4.heap.size w4 w' → w'.cell? ⟨w.heap.size, 4, none⟩ = some (.slice (some am) a.f4.length c4) ∧ w'.cell? (am.add (j * 5)) = some (.int .i64 yy.f0) ∧ w'.cell? ⟨(am.add (j * 5)).block, (am.add (j * 5)).off + 1, none⟩ = some (.string yy.f1) ∧ w'.cell? ⟨(am.add (j * 5)).block, (am.add (j * 5)).off + 2, none⟩ = some (.string yy.f2) ∧ w'.cell? ⟨(am.add (j * 5)).block, (am.add (j * 5)).off + 3, none⟩ = some (.slice P3 yy.f3.length p3) ∧ w'.cell? ⟨(am.add (j * 5)).block, (am.add (j * 5)).off + 4, none⟩ = some (.slice P4 yy.f4.length p4) ∧ w'.cell? ⟨vb, 0, none⟩ = some (.int .i64 sf.f0) ∧ w'.cell? ⟨vb, 1, none⟩ = some (.string sf.f1) ∧ w'.cell? ⟨vb, 2, none⟩ = some (.string sf.f2) ∧ w'.cell? ⟨vb, 3, none⟩ = some (.slice D3 sf.f3.length q3) ∧ w'.cell? ⟨vb, 4, none⟩ = some (.slice D4 sf.f4.length q4)) := ⟨fun w' hc => by
      have old : ∀ {a : Addr} {v : Value}, w.cell? a = some v → w'.cell? a = some v := fun {a v} h => by
       have h1 := (HB4.out.1.cell (World.block_lt_of_cell? w a h)).trans h
       exact (hc.cell (World.block_lt_of_cell? _ _ h1)).trans h1
      have hx := Aside0.mk ((hc.block _ (lt_of_block HV4.out.1)).trans HV4.out.1)
      have hy := (hc.block _ (lt_of_block HB4.out.2.1)).trans HB4.out.2.1
      obtain ⟨cv0, cv1, cv2, cv3, cv4, zv0, zv1, zv2, zv3, zv4⟩ := fc_ hx.out
      exact ⟨by rw [cell_of_block hy]; rfl, old HEL.out.1, old HEL.out.2.1, old HEL.out.2.2.1, old HEL.out.2.2.2.1, old HEL.out.2.2.2.2, cv0, cv1, cv2, cv3, cv4⟩⟩
     refine start_ (n := 11) (S := fun w' => w'.cell? ⟨w.heap.size, 4, none⟩ = some (.slice (some am) a.f4.length c4) ∧ w'.cell? (am.add (j * 5)) = some (.int .i64 yy.f0) ∧ w'.cell? ⟨(am.add (j * 5)).block, (am.add (j * 5)).off + 1, none⟩ = some (.string yy.f1) ∧ w'.cell? ⟨(am.add (j * 5)).block, (am.add (j * 5)).off + 2, none⟩ = some (.string yy.f2) ∧ w'.cell? ⟨(am.add (j * 5)).block, (am.add (j * 5)).off + 3, none⟩ = some (.slice P3 yy.f3.length p3) ∧ w'.cell? ⟨(am.add (j * 5)).block, (am.add (j * 5)).off + 4, none⟩ = some (.slice P4 yy.f4.length p4) ∧ w'.cell? ⟨vb, 0, none⟩ = some (.int .i64 sf.f0) ∧ w'.cell? ⟨vb, 1, none⟩ = some (.string sf.f1) ∧ w'.cell? ⟨vb, 2, none⟩ = some (.string sf.f2) ∧ w'.cell? ⟨vb, 3, none⟩ = some (.slice D3 sf.f3.length q3) ∧ w'.cell? ⟨vb, 4, none⟩ = some (.slice D4 sf.f4.length q4)) (ds := [8]) #[false, false, false, false, false, false, false, false, false, false, false] (by kernel_rfl) rfl rfl (HS.out _ (Below.refl _ _).drew) (fun hHeld => ?_)
     refine with_tabW (T := ali7f.T) (B := ali7f.B) ali7f.tab ali7f.bits (fun HT_ HW_ => ?_)
     refine ps_ 0 32 HT_ ?_
     refine ps_ 1 33 HT_ ?_
     refine ps_ 2 34 HT_ ?_
     refine ps_ 4 36 HT_ ?_
     refine ts_ 3 35 HT_ HW_ hHeld ?_
     refine ps_ 5 37 HT_ ?_
     refine ts_ 6 38 HT_ HW_ hHeld ?_
     refine ts_ 7 39 HT_ HW_ hHeld ?_
     refine last_ (i := 8) (N := (some 40)) #[true, true, true, true, true, true, true, true, true, false, false] rfl rfl (one_of HT_.out (by kernel_rfl)) (by decide) (fun K hK => ?_)
     refine goes_ Tryz.func15 (by kernel_rfl) rfl #[nodeV yy P3 p3 P4 p4, nodeV sf D3 q3 D4 q4] (by rfl) rfl rfl (by simp only [List.map_toArray, List.map_cons, List.map_nil]; rfl) ?_
     have hbd : Below w.heap.size w w4.drew := HB4.out.1.drew
     refine (IH.out yy sf HY.out.2.2.2 (by rw [HSF.out.1]; exact HX.out.2.sub HSF.out.2.1.symm) w4.drew P3 p3 P4 p4 D3 q3 D4 q4 (k25.K_below hbd HY.out.2.2.1) (k25.K_below (Below.refl _ _).drew HV4.out.2)).mono ?_
     rintro e w9 ⟨r, rfl, hb9, hr⟩
     refine ⟨_, rfl, ?_⟩
     have hb9' : Below w4.heap.size w4 w9 := (Below.refl _ _).drew.trans hb9
     refine hK.out _ _ ?_
     have HB9 := Aside0.mk (HB4.out.next hb9')
     have HR := Aside0.mk hr
     clear hb9 hb9' hbd hr
     clear hK K
     refine ns_ ?_
     refine ps_ 9 41 HT_ ?_
     refine ps_ 10 42 HT_ ?_
     refine done_ (done_of HT_.out (by kernel_rfl)) ?_
     cases r
     ·go_wp2
      go_ret
      exact ⟨false, rfl, HB9.out.1, fun h => by cases h⟩
     ·go_wp2_with fail
      go_roundg (gk - 1)
      case measure => have := HJ.out; omega
      case rel =>
       refine ⟨j + 1, by go_num, ⟨by have := HJ.out; omega⟩, HB9, ⟨fun i hi y hy => ?_⟩⟩
       rcases Nat.lt_or_ge i j with h | h
       ·exact HP.out i h y hy
       ·have hij : i = j := by omega
        rw [hij, HY.out.1, (has_lk HX.out.2.1 kk).1 HSF.out.2.1.symm] at hy
        rw [hij, HY.out.2.1, ← Option.some.inj hy, ← HSF.out.1]
        exact HR.out (by simp)
   ·have hje : j = a.f3.length := by have := HJ.out; omega
    have HP2 : Aside0 (AlP (d + 1) a b) := ⟨H0K.out, fun k x y hx hy => keys_all (P := fun k x => ∀ y, lk b k = some y → AlP d x y) HX.out.1.1.mpi (fun i hi => HP.out i (by omega)) k x hx y hy⟩
    have HXA := Aside0.mk HB.out.2.1
    obtain ⟨cr0, cr1, cr2, cr3, cr4, zr0, zr1, zr2, zr3, zr4⟩ := fc_ HXA.out
    clear hje HP
    by_cases h3 : a.f0 = 3
    rotate_left
    ·have h3b : (a.f0 != 3) = true := by simpa using h3
     clear h3
     go_wp2
     go_ret
     exact ⟨true, rfl, HB.out.1, fun _ => HP2.out⟩
    have h3b : (a.f0 != 3) = false := by rw [h3]; rfl
    have H3 := Aside0.mk h3
    clear h3
    go_wp2_with fail
    have HS12 : Aside0 (∀ w', Below wr.heap.size wr w' → w'.cell? ⟨w.heap.size, 0, none⟩ = some (.int .i64 a.f0) ∧ w'.cell? ⟨w.heap.size, 1, none⟩ = some (.string a.f1) ∧ w'.cell? ⟨w.heap.size, 2, none⟩ = some (.string a.f2) ∧ w'.cell? ⟨w.heap.size, 3, none⟩ = some (.slice A3 a.f3.length c3) ∧ w'.cell? ⟨w.heap.size, 4, none⟩ = some (.slice A4 a.f4.length c4) ∧ w'.cell? ⟨(w.heap.size + 1), 0, none⟩ = some (.int .i64 b.f0) ∧ w'.cell? ⟨(w.heap.size + 1), 1, none⟩ = some (.string b.f1) ∧ w'.cell? ⟨(w.heap.size + 1), 2, none⟩ = some (.string b.f2) ∧ w'.cell? ⟨(w.heap.size + 1), 3, none⟩ = some (.slice B3 b.f3.length d3) ∧ w'.cell? ⟨(w.heap.size + 1), 4, none⟩ = some (.slice B4 b.f4.length d4)) := ⟨fun w' hc => by
     have hx := Aside0.mk ((hc.block _ (lt_of_block HB.out.2.1)).trans HB.out.2.1)
     have hy := Aside0.mk ((hc.block _ (lt_of_block HB.out.2.2)).trans HB.out.2.2)
     obtain ⟨cv0, cv1, cv2, cv3, cv4, zv0, zv1, zv2, zv3, zv4⟩ := fc_ hx.out
     obtain ⟨cu0, cu1, cu2, cu3, cu4, zu0, zu1, zu2, zu3, zu4⟩ := fc_ hy.out
     exact ⟨cv0, cv1, cv2, cv3, cv4, cu0, cu1, cu2, cu3, cu4⟩⟩
    clear HXA cr0 cr1 cr2 cr3 cr4 zr0 zr1 zr2 zr3 zr4
    refine start_ (n := 5) (S := fun w' => w'.cell? ⟨w.heap.size, 0, none⟩ = some (.int .i64 a.f0) ∧ w'.cell? ⟨w.heap.size, 1, none⟩ = some (.string a.f1) ∧ w'.cell? ⟨w.heap.size, 2, none⟩ = some (.string a.f2) ∧ w'.cell? ⟨w.heap.size, 3, none⟩ = some (.slice A3 a.f3.length c3) ∧ w'.cell? ⟨w.heap.size, 4, none⟩ = some (.slice A4 a.f4.length c4) ∧ w'.cell? ⟨(w.heap.size + 1), 0, none⟩ = some (.int .i64 b.f0) ∧ w'.cell? ⟨(w.heap.size + 1), 1, none⟩ = some (.string b.f1) ∧ w'.cell? ⟨(w.heap.size + 1), 2, none⟩ = some (.string b.f2) ∧ w'.cell? ⟨(w.heap.size + 1), 3, none⟩ = some (.slice B3 b.f3.length d3) ∧ w'.cell? ⟨(w.heap.size + 1), 4, none⟩ = some (.slice B4 b.f4.length d4)) (ds := [3]) #[false, false, false, false, false] (by kernel_rfl) rfl rfl (HS12.out _ (Below.refl _ _).drew) (fun hHeld => ?_)
    refine with_tabW (T := ali12.T) (B := ali12.B) ali12.tab ali12.bits (fun HT_ HW_ => ?_)
    have HBW := Aside0.mk ((Below.refl wr.heap.size wr).drew)
    generalize wr.drew = wc at HBW hHeld ⊢
    refine ts_ 0 47 HT_ HW_ hHeld ?_
    refine ts_ 2 49 HT_ HW_ hHeld ?_
    refine one_ (i := 1) (N := (some 48)) #[true, true, true, false, false] rfl rfl (one_of HT_.out (by kernel_rfl)) (by decide) (fun K hK => ?_)
    refine goes_ Tryz.func27 (by kernel_rfl) rfl #[nodeV a A3 c3 A4 c4] (by rfl) rfl rfl (by simp only [List.map_toArray, List.map_cons, List.map_nil]; rfl) ?_
    have hbd : Below w.heap.size w wc := HB.out.1.trans (HBW.out.mono HB.out.1.size)
    refine (areNamedL_calls a ⟨HTa.out, by omega⟩ wc A3 c3 A4 c4 (k25.K_below hbd HK.out.1)).mono ?_
    rintro e w9 ⟨r1, rfl, hb9, _⟩
    refine ⟨_, rfl, ?_⟩
    have HB9 := Aside0.mk (HBW.out.trans (hb9.mono HBW.out.size))
    refine hK.out _ _ (HS12.out _ HB9.out) (fun hHeld => ?_)
    clear HBW hb9 hbd
    have HBW := Aside0.mk HB9.out
    clear HB9
    rename World => wc
    clear hK K
    refine ns_ ?_
    refine last_ (i := 3) (N := (some 50)) #[true, true, true, true, false] rfl rfl (one_of HT_.out (by kernel_rfl)) (by decide) (fun K hK => ?_)
    refine goes_ Tryz.func27 (by kernel_rfl) rfl #[nodeV b B3 d3 B4 d4] (by rfl) rfl rfl (by simp only [List.map_toArray, List.map_cons, List.map_nil]; rfl) ?_
    have hbd : Below w.heap.size w wc := HB.out.1.trans (HBW.out.mono HB.out.1.size)
    refine (areNamedL_calls b ⟨HTb.out, by omega⟩ wc B3 d3 B4 d4 (k25.K_below hbd HK.out.2)).mono ?_
    rintro e w9 ⟨r2, rfl, hb9, _⟩
    refine ⟨_, rfl, ?_⟩
    have HB9 := Aside0.mk (HBW.out.trans (hb9.mono HBW.out.size))
    refine hK.out _ _ ?_
    clear HBW hb9 hbd
    clear hK K
    refine ns_ ?_
    refine ps_ 4 51 HT_ ?_
    refine done_ (done_of HT_.out (by kernel_rfl)) ?_
    have HBL := Aside0.mk (HB.out.next HB9.out)
    clear HS12 HB9
    by_cases hrr : r1 = r2
    rotate_left
    ·cases r1 <;> cases r2 <;> first
      | exact absurd rfl hrr
      | (clear hrr; go_wp2; go_ret; exact ⟨false, rfl, HBL.out.1, fun h => by cases h⟩)
    subst hrr
    simp only [beq_self_eq_true, Bool.not_true, bne_self_eq_false]
    have HXA := Aside0.mk HBL.out.2.1
    obtain ⟨cr0, cr1, cr2, cr3, cr4, zr0, zr1, zr2, zr3, zr4⟩ := fc_ HXA.out
    go_wp2_with fail
    clear HXA cr0 cr1 cr2 cr3 cr4 zr0 zr1 zr2 zr3 zr4
    go_loopg [55] a.f4.length (fun k i wr => ∃ j : Nat, i = .int .i64 j ∧ Aside0 (j ≤ a.f4.length ∧ k + j = a.f4.length) ∧ Aside0 (VarsAl w wr a A3 c3 A4 c4 b B3 d3 B4 d4))
    case atStart => exact ⟨0, rfl, ⟨by omega⟩, HBL⟩
    case round =>
     clear HBL HB
     obtain ⟨j, rfl, HJ, HB⟩ := hrel
     obtain ⟨gq, hgq⟩ : ∃ gq, gq = gk := ⟨_, rfl⟩
     have HGQ := Aside0.mk hgq
     by_cases hj : j < a.f4.length
     ·generalize hxx : a.f4.getD j z25 = xx
      obtain ⟨am, P3, p3, P4, p4, e6, hKp, fp0, fp1, fp2, fp3, fp4⟩ := nodeAt HG.out.2 j hj xx hxx
      subst e6
      have hxm : xx ∈ a.f4 := by rw [← hxx, List.getD_eq_getElem?_getD, List.getElem?_eq_getElem hj]; exact List.getElem_mem _
      have HX1 := Aside0.mk (And.intro hKp (And.intro (HX.out.1.item hxm) (HTa.out xx hxm).1.klen))
      have old : ∀ {a : Addr} {v : Value}, w.cell? a = some v → wr.cell? a = some v := fun {a v} h => (HB.out.1.cell (World.block_lt_of_cell? w a h)).trans h
      have d0' := old fp0
      have d1' := old fp1
      have d2' := old fp2
      have d3' := old fp3
      have d4' := old fp4
      have hlb := lt_of_block HB.out.2.2
      have cb4 : ∀ o : Obj, (wr.alloc o).cell? ⟨w.heap.size + 1, 4, none⟩ = some (.slice B4 b.f4.length d4) := fun o => by
       rw [World.cell?_alloc_lt _ _ _ hlb, cell_of_block HB.out.2.2]
       rfl
      clear hxx hKp fp0 fp1 fp2 fp3 fp4 old hxm
      go_wp2_with fail
      obtain ⟨w10, e10⟩ : ∃ w10, w10 = wr.alloc (.cells #[.int .i64 xx.f0, .string xx.f1, .string xx.f2, .slice P3 xx.f3.length p3, .slice P4 xx.f4.length p4] 25) := ⟨_, rfl⟩
      rw [← e10]
      obtain ⟨xb, hxb⟩ : ∃ xb, xb = wr.heap.size := ⟨_, rfl⟩
      rw [← hxb]
      have hb10 : Below wr.heap.size wr w10 := by rw [e10]; exact (Below.refl _ _).alloc (Nat.le_refl _) _
      have hv10 : w10.heap[xb]? = some (.cells #[.int .i64 xx.f0, .string xx.f1, .string xx.f2, .slice P3 xx.f3.length p3, .slice P4 xx.f4.length p4] 25 (0, 0)) := by rw [e10]; exact heap_at _ hxb
      have HB10 := Aside0.mk (HB.out.next hb10)
      have HXV10 := Aside0.mk hv10
      clear hb10 hv10 e10 hxb d0' d1' d2' d3' d4' cb4 hlb hgq HB
      go_loopg [62] b.f4.length (fun k i wr => ∃ m : Nat, i = .int .i64 m ∧ Aside0 (m ≤ b.f4.length ∧ k + m = b.f4.length) ∧ Aside0 (VarsAl w wr a A3 c3 (some am) c4 b B3 d3 B4 d4) ∧ Aside0 (wr.heap[xb]? = some (.cells #[.int .i64 xx.f0, .string xx.f1, .string xx.f2, .slice P3 xx.f3.length p3, .slice P4 xx.f4.length p4] 25 (0, 0))))
      case atStart => exact ⟨0, rfl, ⟨by omega⟩, HB10, HXV10⟩
      case round =>
       clear HB10 HXV10
       obtain ⟨m, rfl, HJ2, HB, HXV⟩ := hrel
       by_cases hm : m < b.f4.length
       ·generalize hyy : b.f4.getD m z25 = yy
        obtain ⟨an, Q3, q3, Q4, q4, e7, hKq, fq0, fq1, fq2, fq3, fq4⟩ := nodeAt HGB.out.2 m hm yy hyy
        subst e7
        have hym : yy ∈ b.f4 := by rw [← hyy, List.getD_eq_getElem?_getD, List.getElem?_eq_getElem hm]; exact List.getElem_mem _
        have HY1 := Aside0.mk (And.intro hKq (And.intro (HX.out.2.item hym) (HTb.out yy hym).1.klen))
        have old : ∀ {a : Addr} {v : Value}, w.cell? a = some v → wr.cell? a = some v := fun {a v} h => (HB.out.1.cell (World.block_lt_of_cell? w a h)).trans h
        have d0' := old fq0
        have d1' := old fq1
        have d2' := old fq2
        have d3' := old fq3
        have d4' := old fq4
        clear hyy hKq fq0 fq1 fq2 fq3 fq4 old hym
        go_wp2_with fail
        obtain ⟨w11, e11⟩ : ∃ w11, w11 = wr.alloc (.cells #[.int .i64 yy.f0, .string yy.f1, .string yy.f2, .slice Q3 yy.f3.length q3, .slice Q4 yy.f4.length q4] 25) := ⟨_, rfl⟩
        rw [← e11]
        obtain ⟨yb, hyb⟩ : ∃ yb, yb = wr.heap.size := ⟨_, rfl⟩
        rw [← hyb]
        have hb11 : Below wr.heap.size wr w11 := by rw [e11]; exact (Below.refl _ _).alloc (Nat.le_refl _) _
        have hv11 : w11.heap[yb]? = some (.cells #[.int .i64 yy.f0, .string yy.f1, .string yy.f2, .slice Q3 yy.f3.length q3, .slice Q4 yy.f4.length q4] 25 (0, 0)) := by rw [e11]; exact heap_at _ hyb
        have HB11 := Aside0.mk (HB.out.next hb11)
        have HXV11 := Aside0.mk ((hb11.block _ (lt_of_block HXV.out)).trans HXV.out)
        have HYV11 := Aside0.mk hv11
        clear hb11 hv11 e11 hyb d0' d1' d2' d3' d4' HB HXV
        obtain ⟨nx, hnx⟩ : ∃ nx, nx = (spField xx nameB).f1 := ⟨_, rfl⟩
        obtain ⟨ny, hny⟩ : ∃ ny, ny = (spField yy nameB).f1 := ⟨_, rfl⟩
        have HNX := Aside0.mk hnx
        have HNY := Aside0.mk hny
        clear hnx hny
        have HS20 : Aside0 (∀ w', Below w11.heap.size w11 w' → w'.cell? ⟨w.heap.size, 0, none⟩ = some (.int .i64 a.f0) ∧ w'.cell? ⟨w.heap.size, 1, none⟩ = some (.string a.f1) ∧ w'.cell? ⟨w.heap.size, 2, none⟩ = some (.string a.f2) ∧ w'.cell? ⟨w.heap.size, 3, none⟩ = some (.slice A3 a.f3.length c3) ∧ w'.cell? ⟨w.heap.size, 4, none⟩ = some (.slice (some am) a.f4.length c4) ∧ w'.cell? ⟨xb, 0, none⟩ = some (.int .i64 xx.f0) ∧ w'.cell? ⟨xb, 1, none⟩ = some (.string xx.f1) ∧ w'.cell? ⟨xb, 2, none⟩ = some (.string xx.f2) ∧ w'.cell? ⟨xb, 3, none⟩ = some (.slice P3 xx.f3.length p3) ∧ w'.cell? ⟨xb, 4, none⟩ = some (.slice P4 xx.f4.length p4) ∧ w'.cell? ⟨yb, 0, none⟩ = some (.int .i64 yy.f0) ∧ w'.cell? ⟨yb, 1, none⟩ = some (.string yy.f1) ∧ w'.cell? ⟨yb, 2, none⟩ = some (.string yy.f2) ∧ w'.cell? ⟨yb, 3, none⟩ = some (.slice Q3 yy.f3.length q3) ∧ w'.cell? ⟨yb, 4, none⟩ = some (.slice Q4 yy.f4.length q4)) := ⟨fun w' hc => by
         have hx := Aside0.mk ((hc.block _ (lt_of_block HB11.out.2.1)).trans HB11.out.2.1)
         have hy := Aside0.mk ((hc.block _ (lt_of_block HXV11.out)).trans HXV11.out)
         have hz := Aside0.mk ((hc.block _ (lt_of_block HYV11.out)).trans HYV11.out)
         obtain ⟨cv0, cv1, cv2, cv3, cv4, zv0, zv1, zv2, zv3, zv4⟩ := fc_ hx.out
         obtain ⟨cu0, cu1, cu2, cu3, cu4, zu0, zu1, zu2, zu3, zu4⟩ := fc_ hy.out
         obtain ⟨ct0, ct1, ct2, ct3, ct4, zt0, zt1, zt2, zt3, zt4⟩ := fc_ hz.out
         exact ⟨cv0, cv1, cv2, cv3, cv4, cu0, cu1, cu2, cu3, cu4, ct0, ct1, ct2, ct3, ct4⟩⟩
        by_cases hnm : nx.toList = ny.toList
        ·have hnb : (nx.toList == ny.toList) = true := by simpa using hnm
         clear hnm
         refine start_ (n := 15) (S := fun w' => w'.cell? ⟨w.heap.size, 0, none⟩ = some (.int .i64 a.f0) ∧ w'.cell? ⟨w.heap.size, 1, none⟩ = some (.string a.f1) ∧ w'.cell? ⟨w.heap.size, 2, none⟩ = some (.string a.f2) ∧ w'.cell? ⟨w.heap.size, 3, none⟩ = some (.slice A3 a.f3.length c3) ∧ w'.cell? ⟨w.heap.size, 4, none⟩ = some (.slice (some am) a.f4.length c4) ∧ w'.cell? ⟨xb, 0, none⟩ = some (.int .i64 xx.f0) ∧ w'.cell? ⟨xb, 1, none⟩ = some (.string xx.f1) ∧ w'.cell? ⟨xb, 2, none⟩ = some (.string xx.f2) ∧ w'.cell? ⟨xb, 3, none⟩ = some (.slice P3 xx.f3.length p3) ∧ w'.cell? ⟨xb, 4, none⟩ = some (.slice P4 xx.f4.length p4) ∧ w'.cell? ⟨yb, 0, none⟩ = some (.int .i64 yy.f0) ∧ w'.cell? ⟨yb, 1, none⟩ = some (.string yy.f1) ∧ w'.cell? ⟨yb, 2, none⟩ = some (.string yy.f2) ∧ w'.cell? ⟨yb, 3, none⟩ = some (.slice Q3 yy.f3.length q3) ∧ w'.cell? ⟨yb, 4, none⟩ = some (.slice Q4 yy.f4.length q4)) (ds := [12]) #[false, false, false, false, false, false, false, false, false, false, false, false, false, false, false] (by kernel_rfl) rfl rfl (HS20.out _ (Below.refl _ _).drew) (fun hHeld => ?_)
         refine with_tabW (T := ali20e.T) (B := ali20e.B) ali20e.tab ali20e.bits (fun HT_ HW_ => ?_)
         have HBW := Aside0.mk ((Below.refl w11.heap.size w11).drew)
         generalize w11.drew = wc at HBW hHeld ⊢
         refine ts_ 0 66 HT_ HW_ hHeld ?_
         refine one_ (i := 1) (N := (some 67)) #[true, true, false, false, false, false, false, false, false, false, false, false, false, false, false] rfl rfl (one_of HT_.out (by kernel_rfl)) (by decide) (fun K hK => ?_)
         refine goes_ Tryz.func27 (by kernel_rfl) rfl #[nodeV a A3 c3 (some am) c4] (by rfl) rfl rfl (by simp only [List.map_toArray, List.map_cons, List.map_nil]; rfl) ?_
         have hbd : Below w.heap.size w wc := HB11.out.1.trans (HBW.out.mono HB11.out.1.size)
         refine (areNamedL_calls a ⟨HTa.out, by omega⟩ wc A3 c3 (some am) c4 (k25.K_below hbd HK.out.1)).mono ?_
         rintro e w12 ⟨rn, rfl, hb12, _⟩
         refine ⟨_, rfl, ?_⟩
         have HB12 := Aside0.mk (HBW.out.trans (hb12.mono HBW.out.size))
         refine hK.out _ _ (HS20.out _ HB12.out) (fun hHeld => ?_)
         clear HBW hb12 hbd
         have HBW := Aside0.mk HB12.out
         clear HB12
         rename World => wc
         clear hK K
         refine ns_ ?_
         cases rn
         ·refine ps_ 2 68 HT_ ?_
          refine us_ 3 69 HT_ ?_
          refine us_ 4 70 HT_ ?_
          refine us_ 5 71 HT_ ?_
          refine us_ 6 72 HT_ ?_
          refine us_ 7 73 HT_ ?_
          refine ps_ 8 74 HT_ ?_
          refine ps_ 9 75 HT_ ?_
          refine us_ 10 76 HT_ ?_
          refine us_ 11 77 HT_ ?_
          refine us_ 12 78 HT_ ?_
          refine us_ 13 79 HT_ ?_
          refine ps_ 14 80 HT_ ?_
          refine done_ (done_of HT_.out (by kernel_rfl)) ?_
          have HBF := Aside0.mk (And.intro (HB11.out.next HBW.out) ((HBW.out.block _ (lt_of_block HXV11.out)).trans HXV11.out))
          clear HBW
          first
          |go_wp2_with fail
           go_roundg (gk - 1)
           case measure => have := HJ2.out; omega
           case rel => exact ⟨m + 1, by go_num, ⟨by have := HJ2.out; omega⟩, ⟨HBF.out.1⟩, ⟨HBF.out.2⟩⟩
          |go_wp2
           go_ret
           exact ⟨false, rfl, HBF.out.1.1, fun h => by cases h⟩
         ·refine ps_ 2 68 HT_ ?_
          refine ts_ 3 69 HT_ HW_ hHeld ?_
          refine ts_ 5 71 HT_ HW_ hHeld ?_
          refine one_ (i := 4) (N := (some 70)) #[true, true, true, true, true, true, false, false, false, false, false, false, false, false, false] rfl rfl (one_of HT_.out (by kernel_rfl)) (by decide) (fun K hK => ?_)
          refine goes_ Tryz.func28 (by kernel_rfl) rfl #[nodeV xx P3 p3 P4 p4] (by rfl) rfl rfl (by simp only [List.map_toArray, List.map_cons, List.map_nil]; rfl) ?_
          have hbd : Below w.heap.size w wc := HB11.out.1.trans (HBW.out.mono HB11.out.1.size)
          refine (nameOf_calls xx HX1.out.2.2 wc P3 p3 P4 p4 (k25.K_below hbd HX1.out.1)).mono ?_
          rintro e w12 ⟨rfl, hb12⟩
          rw [show (spField xx nameB).f1 = nx from HNX.out.symm]
          refine ⟨_, rfl, ?_⟩
          have HB12 := Aside0.mk (HBW.out.trans (hb12.mono HBW.out.size))
          refine hK.out _ _ (HS20.out _ HB12.out) (fun hHeld => ?_)
          clear HBW hb12 hbd
          have HBW := Aside0.mk HB12.out
          clear HB12
          rename World => wc
          clear hK K
          refine ns_ ?_
          refine one_ (i := 6) (N := (some 72)) #[true, true, true, true, true, true, true, false, false, false, false, false, false, false, false] rfl rfl (one_of HT_.out (by kernel_rfl)) (by decide) (fun K hK => ?_)
          refine goes_ Tryz.func28 (by kernel_rfl) rfl #[nodeV yy Q3 q3 Q4 q4] (by rfl) rfl rfl (by simp only [List.map_toArray, List.map_cons, List.map_nil]; rfl) ?_
          have hbd : Below w.heap.size w wc := HB11.out.1.trans (HBW.out.mono HB11.out.1.size)
          refine (nameOf_calls yy HY1.out.2.2 wc Q3 q3 Q4 q4 (k25.K_below hbd HY1.out.1)).mono ?_
          rintro e w12 ⟨rfl, hb12⟩
          rw [show (spField yy nameB).f1 = ny from HNY.out.symm]
          refine ⟨_, rfl, ?_⟩
          have HB12 := Aside0.mk (HBW.out.trans (hb12.mono HBW.out.size))
          refine hK.out _ _ (HS20.out _ HB12.out) (fun hHeld => ?_)
          clear HBW hb12 hbd
          have HBW := Aside0.mk HB12.out
          clear HB12
          rename World => wc
          clear hK K
          refine ns_ ?_
          refine ps_ 7 73 HT_ ?_
          refine ps_ 8 74 HT_ ?_
          refine ps_ 9 75 HT_ ?_
          refine ts_ 10 76 HT_ HW_ hHeld ?_
          refine ts_ 11 77 HT_ HW_ hHeld ?_
          refine last_ (i := 12) (N := (some 78)) #[true, true, true, true, true, true, true, true, true, true, true, true, true, false, false] rfl rfl (one_of HT_.out (by kernel_rfl)) (by decide) (fun K hK => ?_)
          refine goes_ Tryz.func15 (by kernel_rfl) rfl #[nodeV xx P3 p3 P4 p4, nodeV yy Q3 q3 Q4 q4] (by rfl) rfl rfl (by simp only [List.map_toArray, List.map_cons, List.map_nil]; rfl) ?_
          have hbd : Below w.heap.size w wc := HB11.out.1.trans (HBW.out.mono HB11.out.1.size)
          refine (IH.out xx yy HX1.out.2.1 HY1.out.2.1 wc P3 p3 P4 p4 Q3 q3 Q4 q4 (k25.K_below hbd HX1.out.1) (k25.K_below hbd HY1.out.1)).mono ?_
          rintro e w12 ⟨rq, rfl, hb12, _⟩
          refine ⟨_, rfl, ?_⟩
          have HB12 := Aside0.mk (HBW.out.trans (hb12.mono HBW.out.size))
          refine hK.out _ _ ?_
          clear HBW hb12 hbd hHeld
          have HBW := Aside0.mk HB12.out
          clear HB12
          clear hK K
          refine ns_ ?_
          cases rq
          ·refine ps_ 13 79 HT_ ?_
           refine ps_ 14 80 HT_ ?_
           refine done_ (done_of HT_.out (by kernel_rfl)) ?_
           have HBF := Aside0.mk (And.intro (HB11.out.next HBW.out) ((HBW.out.block _ (lt_of_block HXV11.out)).trans HXV11.out))
           clear HBW
           first
           |go_wp2_with fail
            go_roundg (gk - 1)
            case measure => have := HJ2.out; omega
            case rel => exact ⟨m + 1, by go_num, ⟨by have := HJ2.out; omega⟩, ⟨HBF.out.1⟩, ⟨HBF.out.2⟩⟩
           |go_wp2
            go_ret
            exact ⟨false, rfl, HBF.out.1.1, fun h => by cases h⟩
          ·refine ps_ 13 79 HT_ ?_
           refine ps_ 14 80 HT_ ?_
           refine done_ (done_of HT_.out (by kernel_rfl)) ?_
           have HBF := Aside0.mk (And.intro (HB11.out.next HBW.out) ((HBW.out.block _ (lt_of_block HXV11.out)).trans HXV11.out))
           clear HBW
           first
           |go_wp2_with fail
            go_roundg (gk - 1)
            case measure => have := HJ2.out; omega
            case rel => exact ⟨m + 1, by go_num, ⟨by have := HJ2.out; omega⟩, ⟨HBF.out.1⟩, ⟨HBF.out.2⟩⟩
           |go_wp2
            go_ret
            exact ⟨false, rfl, HBF.out.1.1, fun h => by cases h⟩
        ·have hnb : (nx.toList == ny.toList) = false := by simpa using hnm
         clear hnm
         refine start_ (n := 15) (S := fun w' => w'.cell? ⟨w.heap.size, 0, none⟩ = some (.int .i64 a.f0) ∧ w'.cell? ⟨w.heap.size, 1, none⟩ = some (.string a.f1) ∧ w'.cell? ⟨w.heap.size, 2, none⟩ = some (.string a.f2) ∧ w'.cell? ⟨w.heap.size, 3, none⟩ = some (.slice A3 a.f3.length c3) ∧ w'.cell? ⟨w.heap.size, 4, none⟩ = some (.slice (some am) a.f4.length c4) ∧ w'.cell? ⟨xb, 0, none⟩ = some (.int .i64 xx.f0) ∧ w'.cell? ⟨xb, 1, none⟩ = some (.string xx.f1) ∧ w'.cell? ⟨xb, 2, none⟩ = some (.string xx.f2) ∧ w'.cell? ⟨xb, 3, none⟩ = some (.slice P3 xx.f3.length p3) ∧ w'.cell? ⟨xb, 4, none⟩ = some (.slice P4 xx.f4.length p4) ∧ w'.cell? ⟨yb, 0, none⟩ = some (.int .i64 yy.f0) ∧ w'.cell? ⟨yb, 1, none⟩ = some (.string yy.f1) ∧ w'.cell? ⟨yb, 2, none⟩ = some (.string yy.f2) ∧ w'.cell? ⟨yb, 3, none⟩ = some (.slice Q3 yy.f3.length q3) ∧ w'.cell? ⟨yb, 4, none⟩ = some (.slice Q4 yy.f4.length q4)) (ds := [12]) #[false, false, false, false, false, false, false, false, false, false, false, false, false, false, false] (by kernel_rfl) rfl rfl (HS20.out _ (Below.refl _ _).drew) (fun hHeld => ?_)
         refine with_tabW (T := ali20e.T) (B := ali20e.B) ali20e.tab ali20e.bits (fun HT_ HW_ => ?_)
         have HBW := Aside0.mk ((Below.refl w11.heap.size w11).drew)
         generalize w11.drew = wc at HBW hHeld ⊢
         refine ts_ 0 66 HT_ HW_ hHeld ?_
         refine one_ (i := 1) (N := (some 67)) #[true, true, false, false, false, false, false, false, false, false, false, false, false, false, false] rfl rfl (one_of HT_.out (by kernel_rfl)) (by decide) (fun K hK => ?_)
         refine goes_ Tryz.func27 (by kernel_rfl) rfl #[nodeV a A3 c3 (some am) c4] (by rfl) rfl rfl (by simp only [List.map_toArray, List.map_cons, List.map_nil]; rfl) ?_
         have hbd : Below w.heap.size w wc := HB11.out.1.trans (HBW.out.mono HB11.out.1.size)
         refine (areNamedL_calls a ⟨HTa.out, by omega⟩ wc A3 c3 (some am) c4 (k25.K_below hbd HK.out.1)).mono ?_
         rintro e w12 ⟨rn, rfl, hb12, _⟩
         refine ⟨_, rfl, ?_⟩
         have HB12 := Aside0.mk (HBW.out.trans (hb12.mono HBW.out.size))
         refine hK.out _ _ (HS20.out _ HB12.out) (fun hHeld => ?_)
         clear HBW hb12 hbd
         have HBW := Aside0.mk HB12.out
         clear HB12
         rename World => wc
         clear hK K
         refine ns_ ?_
         cases rn
         ·refine ps_ 2 68 HT_ ?_
          refine us_ 3 69 HT_ ?_
          refine us_ 4 70 HT_ ?_
          refine us_ 5 71 HT_ ?_
          refine us_ 6 72 HT_ ?_
          refine us_ 7 73 HT_ ?_
          refine ps_ 8 74 HT_ ?_
          refine ps_ 9 75 HT_ ?_
          refine us_ 10 76 HT_ ?_
          refine us_ 11 77 HT_ ?_
          refine us_ 12 78 HT_ ?_
          refine us_ 13 79 HT_ ?_
          refine ps_ 14 80 HT_ ?_
          refine done_ (done_of HT_.out (by kernel_rfl)) ?_
          have HBF := Aside0.mk (And.intro (HB11.out.next HBW.out) ((HBW.out.block _ (lt_of_block HXV11.out)).trans HXV11.out))
          clear HBW
          first
          |go_wp2_with fail
           go_roundg (gk - 1)
           case measure => have := HJ2.out; omega
           case rel => exact ⟨m + 1, by go_num, ⟨by have := HJ2.out; omega⟩, ⟨HBF.out.1⟩, ⟨HBF.out.2⟩⟩
          |go_wp2
           go_ret
           exact ⟨false, rfl, HBF.out.1.1, fun h => by cases h⟩
         ·refine ps_ 2 68 HT_ ?_
          refine ts_ 3 69 HT_ HW_ hHeld ?_
          refine ts_ 5 71 HT_ HW_ hHeld ?_
          refine one_ (i := 4) (N := (some 70)) #[true, true, true, true, true, true, false, false, false, false, false, false, false, false, false] rfl rfl (one_of HT_.out (by kernel_rfl)) (by decide) (fun K hK => ?_)
          refine goes_ Tryz.func28 (by kernel_rfl) rfl #[nodeV xx P3 p3 P4 p4] (by rfl) rfl rfl (by simp only [List.map_toArray, List.map_cons, List.map_nil]; rfl) ?_
          have hbd : Below w.heap.size w wc := HB11.out.1.trans (HBW.out.mono HB11.out.1.size)
          refine (nameOf_calls xx HX1.out.2.2 wc P3 p3 P4 p4 (k25.K_below hbd HX1.out.1)).mono ?_
          rintro e w12 ⟨rfl, hb12⟩
          rw [show (spField xx nameB).f1 = nx from HNX.out.symm]
          refine ⟨_, rfl, ?_⟩
          have HB12 := Aside0.mk (HBW.out.trans (hb12.mono HBW.out.size))
          refine hK.out _ _ (HS20.out _ HB12.out) (fun hHeld => ?_)
          clear HBW hb12 hbd
          have HBW := Aside0.mk HB12.out
          clear HB12
          rename World => wc
          clear hK K
          refine ns_ ?_
          refine one_ (i := 6) (N := (some 72)) #[true, true, true, true, true, true, true, false, false, false, false, false, false, false, false] rfl rfl (one_of HT_.out (by kernel_rfl)) (by decide) (fun K hK => ?_)
          refine goes_ Tryz.func28 (by kernel_rfl) rfl #[nodeV yy Q3 q3 Q4 q4] (by rfl) rfl rfl (by simp only [List.map_toArray, List.map_cons, List.map_nil]; rfl) ?_
          have hbd : Below w.heap.size w wc := HB11.out.1.trans (HBW.out.mono HB11.out.1.size)
          refine (nameOf_calls yy HY1.out.2.2 wc Q3 q3 Q4 q4 (k25.K_below hbd HY1.out.1)).mono ?_
          rintro e w12 ⟨rfl, hb12⟩
          rw [show (spField yy nameB).f1 = ny from HNY.out.symm]
          refine ⟨_, rfl, ?_⟩
          have HB12 := Aside0.mk (HBW.out.trans (hb12.mono HBW.out.size))
          refine hK.out _ _ (HS20.out _ HB12.out) (fun hHeld => ?_)
          clear HBW hb12 hbd
          have HBW := Aside0.mk HB12.out
          clear HB12
          rename World => wc
          clear hK K
          refine ns_ ?_
          refine ps_ 7 73 HT_ ?_
          refine ps_ 8 74 HT_ ?_
          refine ps_ 9 75 HT_ ?_
          refine us_ 10 76 HT_ ?_
          refine us_ 11 77 HT_ ?_
          refine us_ 12 78 HT_ ?_
          refine us_ 13 79 HT_ ?_
          refine ps_ 14 80 HT_ ?_
          refine done_ (done_of HT_.out (by kernel_rfl)) ?_
          have HBF := Aside0.mk (And.intro (HB11.out.next HBW.out) ((HBW.out.block _ (lt_of_block HXV11.out)).trans HXV11.out))
          clear HBW
          first
          |go_wp2_with fail
           go_roundg (gk - 1)
           case measure => have := HJ2.out; omega
           case rel => exact ⟨m + 1, by go_num, ⟨by have := HJ2.out; omega⟩, ⟨HBF.out.1⟩, ⟨HBF.out.2⟩⟩
          |go_wp2
           go_ret
           exact ⟨false, rfl, HBF.out.1.1, fun h => by cases h⟩
       ·have hme : m = b.f4.length := by have := HJ2.out; omega
        clear hme
        go_wp2_with fail
        go_roundg (gq - 1)
        case measure => have := HJ.out; have := HGQ.out; omega
        case rel => exact ⟨j + 1, by go_num, ⟨by have := HJ.out; have := HGQ.out; omega⟩, HB⟩
     ·have hje : j = a.f4.length := by have := HJ.out; omega
      clear hje
      go_wp2
      go_ret
      exact ⟨true, rfl, HB.out.1, fun _ => HP2.out⟩
end Go.Proofs.YtkpdkoafngjflaaGreat
