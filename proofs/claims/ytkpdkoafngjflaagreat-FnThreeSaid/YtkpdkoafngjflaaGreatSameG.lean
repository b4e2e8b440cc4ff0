import Derived.Test.YtkpdkoafngjflaaGreatSh
import Derived.Test.YtkpdkoafngjflaaGreatCovers
namespace Go.Proofs.YtkpdkoafngjflaaGreat
open Go.RowKit Go.Proofs.YtkpdkoafngjflaaGreatW.PrintWords Go.Proofs.YtkpdkoafngjflaaGreatW.PrintLast Go.Proofs.YtkpdkoafngjflaaGreat.PFnFields
set_option linter.unusedVariables false
set_option linter.unusedSimpArgs false
def smI (loose : Bool) (d : Nat) (a b : S25) (i : Nat) : Bool := if a.f0 = 2 then decide (0 ≤ plc b.f3 (a.f3.getD i ByteArray.empty)) && (loose || decide (plc b.f3 (a.f3.getD i ByteArray.empty) = i)) && smD loose d (a.f4.getD i z25) (b.f4.getD (plc b.f3 (a.f3.getD i ByteArray.empty)).toNat z25) else smD loose d (a.f4.getD i z25) (b.f4.getD i z25)
def SmH (a b : S25) : Prop := a.f0 = b.f0 ∧ a.f1 = b.f1 ∧ (a.f0 = 1 → a.f2 = b.f2) ∧ a.f3.length = b.f3.length ∧ a.f4.length = b.f4.length
theorem smD_no {loose : Bool} {d : Nat} {a b : S25} (h : ¬ SmH a b) : smD loose (d + 1) a b = false := by
 rw [← Bool.not_eq_true]
 intro q
 simp only [smD, Bool.and_eq_true, Bool.or_eq_true, decide_eq_true_eq, Bool.not_eq_true', decide_eq_false_iff_not] at q
 obtain ⟨⟨⟨⟨⟨h0, h1⟩, h2⟩, h3⟩, h4⟩, _⟩ := q
 exact h ⟨h0, h1, fun e => by rcases h2 with h2 | h2; exact absurd e h2; exact h2, h3, h4⟩
theorem smD_bad {loose : Bool} {d : Nat} {a b : S25} {j : Nat} (_ : j ≤ a.f4.length) (hj : j < a.f4.length) (h : smI loose d a b j = false) : smD loose (d + 1) a b = false := by
 rw [← Bool.not_eq_true]
 intro q
 simp only [smD, Bool.and_eq_true, List.all_eq_true, List.mem_range] at q
 have hq : smI loose d a b j = true := q.2 j hj
 rw [h] at hq
 cases hq
theorem smD_good {loose : Bool} {d : Nat} {a b : S25} (h : SmH a b) (hi : ∀ i, i < a.f4.length → smI loose d a b i = true) : smD loose (d + 1) a b = true := by
 obtain ⟨h0, h1, h2, h3, h4⟩ := h
 have hh : (!decide (a.f0 = 1) || decide (a.f2 = b.f2)) = true := by
  by_cases e : a.f0 = 1
  ·simp [e, h2 e]
  ·simp [e]
 simp only [smD, h0 ▸ (by simp : decide (b.f0 = b.f0) = true)]
 rw [show (decide (a.f0 = b.f0)) = true from decide_eq_true h0, show (decide (a.f1 = b.f1)) = true from decide_eq_true h1, hh, show decide (a.f3.length = b.f3.length) = true from decide_eq_true h3, show decide (a.f4.length = b.f4.length) = true from decide_eq_true h4]
 simp only [Bool.true_and, List.all_eq_true, List.mem_range]
 exact hi
theorem smI_neg {loose : Bool} {d : Nat} {a b : S25} {j : Nat} (h2 : a.f0 = 2) (h : plc b.f3 (a.f3.getD j ByteArray.empty) < 0) : smI loose d a b j = false := by
 unfold smI
 rw [if_pos h2, show decide (0 ≤ plc b.f3 (a.f3.getD j ByteArray.empty)) = false from decide_eq_false (by omega)]
 rfl
theorem smI_place {loose : Bool} {d : Nat} {a b : S25} {j : Nat} (h2 : a.f0 = 2) (hl : loose = false) (h : plc b.f3 (a.f3.getD j ByteArray.empty) ≠ j) : smI loose d a b j = false := by
 unfold smI
 rw [if_pos h2, hl, show decide (plc b.f3 (a.f3.getD j ByteArray.empty) = j) = false from decide_eq_false h]
 simp
theorem smI_map {loose : Bool} {d : Nat} {a b : S25} {j m : Nat} {yy zz : S25} (h2 : a.f0 = 2) (hp : plc b.f3 (a.f3.getD j ByteArray.empty) = m) (hl : loose = true ∨ m = j) (h1 : a.f4.getD j z25 = yy) (h3 : b.f4.getD m z25 = zz) : smI loose d a b j = smD loose d yy zz := by
 unfold smI
 rw [if_pos h2, hp, Int.toNat_natCast, h1, h3, show decide (0 ≤ (m : Int)) = true from decide_eq_true (by omega)]
 rcases hl with h | h
 ·rw [h]; simp
 ·rw [h]; simp
theorem smI_list {loose : Bool} {d : Nat} {a b : S25} {j : Nat} {yy zz : S25} (h2 : a.f0 ≠ 2) (h1 : a.f4.getD j z25 = yy) (h3 : b.f4.getD j z25 = zz) : smI loose d a b j = smD loose d yy zz := by
 unfold smI
 rw [if_neg h2, h1, h3]
def sg8.T : Bool × List (List Nat × List Nat) := (true, [([], []), ([0], [0]), ([], []), ([2], [2]), ([], []), ([3, 4], [3, 4]), ([5], [5]), ([1, 6], [1, 6]), ([7, 7, 0, 1, 2, 3, 4, 5, 6, 7], [7])])
def sg8.B : List Nat := [0, 1, 0, 4, 0, 28, 60, 127, 255]
theorem sg8.tab : rtab .any (opsOf Tryz.f13 8) = sg8.T := by kernel_rfl
theorem sg8.bits : waitsOk sg8.T.2 sg8.B = true := by kernel_rfl
def sg11m.T : Bool × List (List Nat × List Nat) := (true, [([], []), ([0], [0]), ([], []), ([1, 2], [1, 2]), ([3], [3]), ([], []), ([5], [5]), ([], []), ([6, 7], [6, 7]), ([8], [8]), ([], []), ([4, 9, 10], [4, 9, 10]), ([11], [11])])
def sg11m.B : List Nat := [0, 1, 0, 7, 15, 0, 32, 0, 224, 480, 0, 2047, 4095]
theorem sg11m.tab : rtab .any (opsOf Tryz.f13 11) = sg11m.T := by kernel_rfl
theorem sg11m.bits : waitsOk sg11m.T.2 sg11m.B = true := by kernel_rfl
set_option maxRecDepth 100000 in
set_option maxHeartbeats 1600000 in
theorem sameM (loose : Bool) (d : Nat) (ih : ∀ (a b : S25) (ha : Sm d a) (hb : Sm d b) (w : World) (A3 : Option Addr) (c3 : Nat) (A4 : Option Addr) (c4 : Nat) (B3 : Option Addr) (d3 : Nat) (B4 : Option Addr) (d4 : Nat)
  (hK : nodeK w a A3 c3 A4 c4) (hK' : nodeK w b B3 d3 B4 d4), Calls Tryz.prog 13 #[nodeV a A3 c3 A4 c4, nodeV b B3 d3 B4 d4, .bool loose] w
   fun e w' => e = .returned (.bool (smD loose d a b)) ∧ Below w.heap.size w w') (a b : S25) (ha : Sm (d + 1) a) (hb : Sm (d + 1) b) (hc : SmH a b) (h2 : a.f0 = 2) (w : World) (A3 : Option Addr) (c3 : Nat) (A4 : Option Addr) (c4 : Nat) (B3 : Option Addr) (d3 : Nat) (B4 : Option Addr) (d4 : Nat)
  (hK : nodeK w a A3 c3 A4 c4) (hK' : nodeK w b B3 d3 B4 d4) :
  Calls Tryz.prog 13 #[nodeV a A3 c3 A4 c4, nodeV b B3 d3 B4 d4, .bool loose] w
   fun e w' => e = .returned (.bool (smD loose (d + 1) a b)) ∧ Below w.heap.size w w' := by
 have hu := Tryz.underlying25
 have hGA := node_rows hK
 obtain ⟨g3', l3', g4'⟩ : ∃ q : Kd.string.C w B3 b.f3.length b.f3, b.f3.length ≤ d3 ∧ k25.C w B4 b.f4.length b.f4 := by
  obtain ⟨_, _, _, _, he, l3, g3, l4, g4⟩ := k25_open hK'
  simp only [List.cons.injEq, Value.slice.injEq, true_and, and_true] at he
  obtain ⟨⟨rfl, rfl⟩, rfl, rfl⟩ := he
  exact ⟨g3, l3, g4⟩
 have HG := Aside0.mk (And.intro hGA.1 (And.intro hGA.2 (And.intro g3' (And.intro l3' g4'))))
 have HX := Aside0.mk (And.intro ha hb)
 have hn4 : a.f4.length ≤ 9223372036854775807 := hGA.2.2.1
 have hm4 : b.f4.length ≤ 9223372036854775807 := g4'.2.1
 have IH := Aside0.mk ih
 have HC := Aside0.mk hc
 have b10 : (a.f0 == b.f0) = true := by simpa using hc.1
 have b20 : (a.f0 != b.f0) = false := by simp only [bne, b10]; rfl
 have b11 : (a.f1.toList == b.f1.toList) = true := by rw [hc.2.1]; simp
 have b21 : (a.f1.toList != b.f1.toList) = false := by simp only [bne, b11]; rfl
 have b13 : ((a.f3.length : Int) == (b.f3.length : Int)) = true := by simp only [beq_iff_eq]; have := hc.2.2.2.1; omega
 have b23 : ((a.f3.length : Int) != (b.f3.length : Int)) = false := by simp only [bne, b13]; rfl
 have b14 : ((a.f4.length : Int) == (b.f4.length : Int)) = true := by simp only [beq_iff_eq]; have := hc.2.2.2.2; omega
 have b24 : ((a.f4.length : Int) != (b.f4.length : Int)) = false := by simp only [bne, b14]; rfl
 clear hK hK' hGA g3' g4' l3' ha hb hc ih
 have h21 : (a.f0 == 2) = true := by simpa using h2
 have h11 : (a.f0 == 1) = false := by simp; omega
 have H2 := Aside0.mk (And.intro (HX.out.1.2.2.1 h2).1 h2)
 clear h2
 go_enter Tryz.func13, Tryz.ntmps13
 go_wp2_with fail
 clear b10 b20 b11 b21 b13 b23 b14 b24 h11
 obtain ⟨w0, e0⟩ : ∃ w0, w0 = (w.alloc (.cells #[.int .i64 a.f0, .string a.f1, .string a.f2, .slice A3 a.f3.length c3, .slice A4 a.f4.length c4] 25)).alloc (.cells #[.int .i64 b.f0, .string b.f1, .string b.f2, .slice B3 b.f3.length d3, .slice B4 b.f4.length d4] 25) := ⟨_, rfl⟩
 try rw [← e0]
 have hb0 : Below w.heap.size w w0 := by rw [e0]; exact ((Below.refl _ _).alloc (Nat.le_refl _) _).alloc (by simp) _
 have q0 : w0.heap[w.heap.size]? = some (.cells #[.int .i64 a.f0, .string a.f1, .string a.f2, .slice A3 a.f3.length c3, .slice A4 a.f4.length c4] 25 (0, 0)) := by rw [e0]; exact (heap_old _ (by simp)).trans (heap_at _ rfl)
 have q1 : w0.heap[w.heap.size + 1]? = some (.cells #[.int .i64 b.f0, .string b.f1, .string b.f2, .slice B3 b.f3.length d3, .slice B4 b.f4.length d4] 25 (0, 0)) := by rw [e0]; exact heap_at _ (by simp)
 have H0 := Aside0.mk (And.intro hb0 (And.intro q0 q1))
 clear hb0 q0 q1 e0
 go_loopg [54] a.f4.length (fun k i wr => ∃ j : Nat, i = .int .i64 j ∧ Aside0 (j ≤ a.f4.length ∧ k + j = a.f4.length) ∧ Aside0 (Below w.heap.size w wr ∧ wr.heap[w.heap.size]? = some (.cells #[.int .i64 a.f0, .string a.f1, .string a.f2, .slice A3 a.f3.length c3, .slice A4 a.f4.length c4] 25 (0, 0)) ∧ wr.heap[w.heap.size + 1]? = some (.cells #[.int .i64 b.f0, .string b.f1, .string b.f2, .slice B3 b.f3.length d3, .slice B4 b.f4.length d4] 25 (0, 0))) ∧ Aside0 (∀ i, i < j → smI loose d a b i = true))
 case atStart => exact ⟨0, rfl, ⟨by omega⟩, H0, ⟨fun i hi => absurd hi (Nat.not_lt_zero _)⟩⟩
 case round =>
  clear H0
  obtain ⟨j, rfl, HJ, HB, HP⟩ := hrel
  have cx0 := (cell_of_block (i := 0) HB.out.2.1).trans (show _ = some _ from rfl)
  by_cases hj : j < a.f4.length
  ·have hj3 : j < a.f3.length := by have := H2.out.1; omega
   generalize hyy : a.f4.getD j z25 = yy
   obtain ⟨am, P3, p3, P4, p4, e6, hKp, fp0, fp1, fp2, fp3, fp4⟩ := nodeAt HG.out.2.1 j hj yy hyy
   subst e6
   have hym : yy ∈ a.f4 := by rw [← hyy, List.getD_eq_getElem?_getD, List.getElem?_eq_getElem hj]; exact List.getElem_mem _
   have HY := Aside0.mk (And.intro hyy (And.intro hKp (HX.out.1.2.2.2 yy hym)))
   have HEL := Aside0.mk (And.intro fp0 (And.intro fp1 (And.intro fp2 (And.intro fp3 fp4))))
   clear hyy hKp fp0 fp1 fp2 fp3 fp4 hym
   generalize hkk : a.f3.getD j ByteArray.empty = kk
   obtain ⟨ad3, ea, hs3⟩ := strAt HG.out.1 j hj3
   rw [hkk] at hs3
   subst ea
   have HKK := Aside0.mk (And.intro hkk hs3)
   clear hkk hs3
   go_wp2_with fail
   have HS8 : Aside0 (wr.drew.cell? ⟨w.heap.size + 1, 3, none⟩ = some (.slice B3 b.f3.length d3) ∧ wr.drew.cell? ⟨w.heap.size, 3, none⟩ = some (.slice (some ad3) a.f3.length c3) ∧ wr.drew.cell? (ad3.add j) = some (.string kk)) := ⟨by
    refine ⟨?_, ?_, ?_⟩
    ·rw [cell_of_block (w := wr.drew) HB.out.2.2]; rfl
    ·rw [cell_of_block (w := wr.drew) HB.out.2.1]; rfl
    ·exact (HB.out.1.cell (World.block_lt_of_cell? w _ HKK.out.2)).trans HKK.out.2⟩
   refine start_ (n := 9) (S := fun w' => w'.cell? ⟨w.heap.size + 1, 3, none⟩ = some (.slice B3 b.f3.length d3) ∧ w'.cell? ⟨w.heap.size, 3, none⟩ = some (.slice (some ad3) a.f3.length c3) ∧ w'.cell? (ad3.add j) = some (.string kk)) (ds := [7]) #[false, false, false, false, false, false, false, false, false] (by kernel_rfl) rfl rfl HS8.out (fun hHeld => ?_)
   refine with_tabW (T := sg8.T) (B := sg8.B) sg8.tab sg8.bits (fun HT_ HW_ => ?_)
   refine ps_ 0 61 HT_ ?_
   refine ps_ 2 63 HT_ ?_
   refine ps_ 4 65 HT_ ?_
   refine ts_ 1 62 HT_ HW_ hHeld ?_
   refine ts_ 3 64 HT_ HW_ hHeld ?_
   refine ps_ 5 66 HT_ ?_
   refine ts_ 6 67 HT_ HW_ hHeld ?_
   refine last_ (i := 7) (N := (some 68)) #[true, true, true, true, true, true, true, true, false] rfl rfl (one_of HT_.out (by kernel_rfl)) (by decide) (fun K hK => ?_)
   refine goes_ Tryz.func19 (by kernel_rfl) rfl #[.slice B3 b.f3.length d3, .string kk] (by rfl) rfl rfl (by simp only [List.map_toArray, List.map_cons, List.map_nil]; rfl) ?_
   refine (place_calls wr.drew B3 d3 b.f3 kk (Kd.C_below HG.out.2.2.1 HB.out.1.drew) HG.out.2.2.2.1).mono ?_
   rintro e w8 ⟨rfl, ⟨⟨n1, rfl⟩⟩⟩
   obtain ⟨pp, hpp⟩ : ∃ pp, pp = plc b.f3 kk := ⟨_, rfl⟩
   rw [← hpp]
   have hb8 : Below wr.heap.size wr (wr.drew.drewN n1) := pw_below_drewN (Below.refl _ _).drew n1
   generalize wr.drew.drewN n1 = w8 at hb8 ⊢
   have HB8 := Aside0.mk (And.intro (HB.out.1.trans (hb8.mono HB.out.1.size)) (And.intro ((hb8.block _ (lt_of_block HB.out.2.1)).trans HB.out.2.1) ((hb8.block _ (lt_of_block HB.out.2.2)).trans HB.out.2.2)))
   have HPP := Aside0.mk hpp
   clear hb8 hpp
   refine ⟨_, rfl, ?_⟩
   refine hK.out _ _ ?_
   clear hK K
   refine ns_ ?_
   refine ps_ 8 8 HT_ ?_
   refine done_ (done_of HT_.out (by kernel_rfl)) ?_
   clear cx0
   by_cases hneg : pp < 0
   ·have hbad : smI loose d a b j = false := smI_neg H2.out.2 (by rw [HKK.out.1, ← HPP.out]; exact hneg)
    have HBAD := Aside0.mk hbad
    clear hbad
    go_wp2
    go_ret
    exact ⟨congrArg (fun b => Ending.returned (.bool b)) (smD_bad HJ.out.1 hj HBAD.out).symm, HB8.out.1⟩
   ·obtain ⟨m, hm0, hm1, hm2⟩ := plc_pos b.f3 kk (by rw [← HPP.out]; omega)
    have hpm : pp = (m : Int) := by rw [HPP.out, hm0]
    subst hpm
    have hm : m < b.f4.length := Nat.lt_of_lt_of_le hm1 HX.out.2.2.1
    have HM := Aside0.mk (HPP.out.symm)
    clear hm0 hm1 hm2 HPP
    by_cases hne : loose = false ∧ m ≠ j
    ·have HBAD := Aside0.mk (smI_place (d := d) (a := a) (b := b) H2.out.2 hne.1 (by rw [HKK.out.1, HM.out]; omega))
     obtain ⟨hl, hmj⟩ := hne
     subst hl
     have hmj1 : ((m : Int) == (j : Int)) = false := by simp only [beq_eq_false_iff_ne, ne_eq]; omega
     have hmj2 : ((m : Int) != (j : Int)) = true := by simp only [bne, hmj1]; rfl
     go_wp2
     go_ret
     exact ⟨congrArg (fun b => Ending.returned (.bool b)) (smD_bad HJ.out.1 hj HBAD.out).symm, HB8.out.1⟩
    ·have HIT : Aside0 (∀ yy zz, a.f4.getD j z25 = yy → b.f4.getD m z25 = zz → smI loose d a b j = smD loose d yy zz) := ⟨fun yy zz h1 h2 => smI_map H2.out.2 (by rw [HKK.out.1]; exact HM.out) (by
      rcases (Classical.em (loose = false)) with h | h
      ·exact .inr (Classical.byContradiction fun q => hne ⟨h, q⟩)
      ·exact .inl (by simpa using h)) h1 h2⟩
     have hcl : loose = true ∨ (loose = false ∧ m = j) := by
      rcases (Classical.em (loose = false)) with h | h
      ·exact .inr ⟨h, Classical.byContradiction fun q => hne ⟨h, q⟩⟩
      ·exact .inl (by simpa using h)
     clear hne
     rcases hcl with hl | ⟨hl, hmj⟩
     ·subst hl
      have hmj0 : ((m : Int) != (j : Int)) = true ∨ ((m : Int) != (j : Int)) = false := by cases ((m : Int) != (j : Int)) <;> simp
      rcases hmj0 with hmj2 | hmj2
      all_goals
       have hmj1 : ((m : Int) == (j : Int)) = !((m : Int) != (j : Int)) := by simp [bne]
       rw [hmj2] at hmj1
       simp only [Bool.not_true, Bool.not_false] at hmj1
       go_wp2_with fail
       clear hmj1 hmj2
       generalize hzz : b.f4.getD m z25 = zz
       obtain ⟨an, Q3, q3, Q4, q4, e7, hKq, fq0, fq1, fq2, fq3, fq4⟩ := nodeAt HG.out.2.2.2.2 m hm zz hzz
       subst e7
       have hzm : zz ∈ b.f4 := by rw [← hzz, List.getD_eq_getElem?_getD, List.getElem?_eq_getElem hm]; exact List.getElem_mem _
       have HZ := Aside0.mk (And.intro hzz (And.intro hKq (HX.out.2.2.2.2 zz hzm)))
       have HS11 : Aside0 (∀ w', Below w8.heap.size w8 w' → w'.cell? ⟨w.heap.size, 4, none⟩ = some (.slice (some am) a.f4.length c4) ∧ w'.cell? ⟨w.heap.size + 1, 4, none⟩ = some (.slice (some an) b.f4.length d4) ∧ w'.cell? (am.add (j * 5)) = some (.int .i64 yy.f0) ∧ w'.cell? ⟨(am.add (j * 5)).block, (am.add (j * 5)).off + 1, none⟩ = some (.string yy.f1) ∧ w'.cell? ⟨(am.add (j * 5)).block, (am.add (j * 5)).off + 2, none⟩ = some (.string yy.f2) ∧ w'.cell? ⟨(am.add (j * 5)).block, (am.add (j * 5)).off + 3, none⟩ = some (.slice P3 yy.f3.length p3) ∧ w'.cell? ⟨(am.add (j * 5)).block, (am.add (j * 5)).off + 4, none⟩ = some (.slice P4 yy.f4.length p4) ∧ w'.cell? (an.add (m * 5)) = some (.int .i64 zz.f0) ∧ w'.cell? ⟨(an.add (m * 5)).block, (an.add (m * 5)).off + 1, none⟩ = some (.string zz.f1) ∧ w'.cell? ⟨(an.add (m * 5)).block, (an.add (m * 5)).off + 2, none⟩ = some (.string zz.f2) ∧ w'.cell? ⟨(an.add (m * 5)).block, (an.add (m * 5)).off + 3, none⟩ = some (.slice Q3 zz.f3.length q3) ∧ w'.cell? ⟨(an.add (m * 5)).block, (an.add (m * 5)).off + 4, none⟩ = some (.slice Q4 zz.f4.length q4)) := ⟨fun w' hc => by
        have old : ∀ {a : Addr} {v : Value}, w.cell? a = some v → w'.cell? a = some v := fun {a v} h => by
         have h1 := (HB8.out.1.cell (World.block_lt_of_cell? w a h)).trans h
         exact (hc.cell (World.block_lt_of_cell? _ _ h1)).trans h1
        have hx := (hc.block _ (lt_of_block HB8.out.2.1)).trans HB8.out.2.1
        have hy := (hc.block _ (lt_of_block HB8.out.2.2)).trans HB8.out.2.2
        exact ⟨by rw [cell_of_block hx]; rfl, by rw [cell_of_block hy]; rfl, old HEL.out.1, old HEL.out.2.1, old HEL.out.2.2.1, old HEL.out.2.2.2.1, old HEL.out.2.2.2.2, old fq0, old fq1, old fq2, old fq3, old fq4⟩⟩
       clear hzz hKq fq0 fq1 fq2 fq3 fq4 hzm
       refine start_ (n := 13) (S := fun w' => w'.cell? ⟨w.heap.size, 4, none⟩ = some (.slice (some am) a.f4.length c4) ∧ w'.cell? ⟨w.heap.size + 1, 4, none⟩ = some (.slice (some an) b.f4.length d4) ∧ w'.cell? (am.add (j * 5)) = some (.int .i64 yy.f0) ∧ w'.cell? ⟨(am.add (j * 5)).block, (am.add (j * 5)).off + 1, none⟩ = some (.string yy.f1) ∧ w'.cell? ⟨(am.add (j * 5)).block, (am.add (j * 5)).off + 2, none⟩ = some (.string yy.f2) ∧ w'.cell? ⟨(am.add (j * 5)).block, (am.add (j * 5)).off + 3, none⟩ = some (.slice P3 yy.f3.length p3) ∧ w'.cell? ⟨(am.add (j * 5)).block, (am.add (j * 5)).off + 4, none⟩ = some (.slice P4 yy.f4.length p4) ∧ w'.cell? (an.add (m * 5)) = some (.int .i64 zz.f0) ∧ w'.cell? ⟨(an.add (m * 5)).block, (an.add (m * 5)).off + 1, none⟩ = some (.string zz.f1) ∧ w'.cell? ⟨(an.add (m * 5)).block, (an.add (m * 5)).off + 2, none⟩ = some (.string zz.f2) ∧ w'.cell? ⟨(an.add (m * 5)).block, (an.add (m * 5)).off + 3, none⟩ = some (.slice Q3 zz.f3.length q3) ∧ w'.cell? ⟨(an.add (m * 5)).block, (an.add (m * 5)).off + 4, none⟩ = some (.slice Q4 zz.f4.length q4)) (ds := [11]) #[false, false, false, false, false, false, false, false, false, false, false, false, false] (by kernel_rfl) rfl rfl (HS11.out _ (Below.refl _ _).drew) (fun hHeld => ?_)
       refine with_tabW (T := sg11m.T) (B := sg11m.B) sg11m.tab sg11m.bits (fun HT_ HW_ => ?_)
       refine ps_ 0 80 HT_ ?_
       refine ps_ 2 82 HT_ ?_
       refine ps_ 5 85 HT_ ?_
       refine ps_ 7 87 HT_ ?_
       refine ps_ 10 90 HT_ ?_
       refine ts_ 1 81 HT_ HW_ hHeld ?_
       refine ps_ 3 83 HT_ ?_
       refine ts_ 4 84 HT_ HW_ hHeld ?_
       refine ts_ 6 86 HT_ HW_ hHeld ?_
       refine ps_ 8 88 HT_ ?_
       refine ts_ 9 89 HT_ HW_ hHeld ?_
       refine last_ (i := 11) (N := (some 91)) #[true, true, true, true, true, true, true, true, true, true, true, true, false] rfl rfl (one_of HT_.out (by kernel_rfl)) (by decide) (fun K hK => ?_)
       refine goes_ Tryz.func13 (by kernel_rfl) rfl #[nodeV yy P3 p3 P4 p4, nodeV zz Q3 q3 Q4 q4, .bool true] (by rfl) rfl rfl (by simp only [List.map_toArray, List.map_cons, List.map_nil]; rfl) ?_
       have hbd : Below w.heap.size w w8.drew := HB8.out.1.drew
       refine (IH.out yy zz HY.out.2.2 HZ.out.2.2 w8.drew P3 p3 P4 p4 Q3 q3 Q4 q4 (k25.K_below hbd HY.out.2.1) (k25.K_below hbd HZ.out.2.1)).mono ?_
       rintro e w9 ⟨rfl, hb9⟩
       obtain ⟨rn, hrn⟩ : ∃ rn, rn = smD true d yy zz := ⟨_, rfl⟩
       rw [← hrn]
       refine ⟨_, rfl, ?_⟩
       refine hK.out _ _ ?_
       have HB9 := Aside0.mk (And.intro (hbd.trans (hb9.mono hbd.size)) (And.intro ((hb9.block _ (lt_of_block HB8.out.2.1)).trans HB8.out.2.1) ((hb9.block _ (lt_of_block HB8.out.2.2)).trans HB8.out.2.2)))
       have HRN := Aside0.mk hrn
       clear hb9 hbd hrn
       clear hK K
       refine ns_ ?_
       cases rn
       ·refine ps_ 12 92 HT_ ?_
        refine done_ (done_of HT_.out (by kernel_rfl)) ?_
        first
        |go_wp2_with fail
         go_roundg (gk - 1)
         case measure => have := HJ.out; omega
         case rel => exact ⟨j + 1, by go_num, ⟨by have := HJ.out; omega⟩, HB9, ⟨fun i hi => by
          by_cases e : i = j
          ·rw [e]; exact (HIT.out _ _ HY.out.1 HZ.out.1).trans HRN.out.symm
          ·exact HP.out i (by omega)⟩⟩
        |go_wp2
         go_ret
         exact ⟨congrArg (fun b => Ending.returned (.bool b)) (smD_bad HJ.out.1 hj ((HIT.out _ _ HY.out.1 HZ.out.1).trans HRN.out.symm)).symm, HB9.out.1⟩
       ·refine ps_ 12 92 HT_ ?_
        refine done_ (done_of HT_.out (by kernel_rfl)) ?_
        first
        |go_wp2_with fail
         go_roundg (gk - 1)
         case measure => have := HJ.out; omega
         case rel => exact ⟨j + 1, by go_num, ⟨by have := HJ.out; omega⟩, HB9, ⟨fun i hi => by
          by_cases e : i = j
          ·rw [e]; exact (HIT.out _ _ HY.out.1 HZ.out.1).trans HRN.out.symm
          ·exact HP.out i (by omega)⟩⟩
        |go_wp2
         go_ret
         exact ⟨congrArg (fun b => Ending.returned (.bool b)) (smD_bad HJ.out.1 hj ((HIT.out _ _ HY.out.1 HZ.out.1).trans HRN.out.symm)).symm, HB9.out.1⟩
     ·subst hl hmj
      go_wp2_with fail
      generalize hzz : b.f4.getD m z25 = zz
      obtain ⟨an, Q3, q3, Q4, q4, e7, hKq, fq0, fq1, fq2, fq3, fq4⟩ := nodeAt HG.out.2.2.2.2 m hm zz hzz
      subst e7
      have hzm : zz ∈ b.f4 := by rw [← hzz, List.getD_eq_getElem?_getD, List.getElem?_eq_getElem hm]; exact List.getElem_mem _
      have HZ := Aside0.mk (And.intro hzz (And.intro hKq (HX.out.2.2.2.2 zz hzm)))
      have HS11 : Aside0 (∀ w', Below w8.heap.size w8 w' → w'.cell? ⟨w.heap.size, 4, none⟩ = some (.slice (some am) a.f4.length c4) ∧ w'.cell? ⟨w.heap.size + 1, 4, none⟩ = some (.slice (some an) b.f4.length d4) ∧ w'.cell? (am.add (m * 5)) = some (.int .i64 yy.f0) ∧ w'.cell? ⟨(am.add (m * 5)).block, (am.add (m * 5)).off + 1, none⟩ = some (.string yy.f1) ∧ w'.cell? ⟨(am.add (m * 5)).block, (am.add (m * 5)).off + 2, none⟩ = some (.string yy.f2) ∧ w'.cell? ⟨(am.add (m * 5)).block, (am.add (m * 5)).off + 3, none⟩ = some (.slice P3 yy.f3.length p3) ∧ w'.cell? ⟨(am.add (m * 5)).block, (am.add (m * 5)).off + 4, none⟩ = some (.slice P4 yy.f4.length p4) ∧ w'.cell? (an.add (m * 5)) = some (.int .i64 zz.f0) ∧ w'.cell? ⟨(an.add (m * 5)).block, (an.add (m * 5)).off + 1, none⟩ = some (.string zz.f1) ∧ w'.cell? ⟨(an.add (m * 5)).block, (an.add (m * 5)).off + 2, none⟩ = some (.string zz.f2) ∧ w'.cell? ⟨(an.add (m * 5)).block, (an.add (m * 5)).off + 3, none⟩ = some (.slice Q3 zz.f3.length q3) ∧ w'.cell? ⟨(an.add (m * 5)).block, (an.add (m * 5)).off + 4, none⟩ = some (.slice Q4 zz.f4.length q4)) := ⟨fun w' hc => by
       have old : ∀ {a : Addr} {v : Value}, w.cell? a = some v → w'.cell? a = some v := fun {a v} h => by
        have h1 := (HB8.out.1.cell (World.block_lt_of_cell? w a h)).trans h
        exact (hc.cell (World.block_lt_of_cell? _ _ h1)).trans h1
       have hx := (hc.block _ (lt_of_block HB8.out.2.1)).trans HB8.out.2.1
       have hy := (hc.block _ (lt_of_block HB8.out.2.2)).trans HB8.out.2.2
       exact ⟨by rw [cell_of_block hx]; rfl, by rw [cell_of_block hy]; rfl, old HEL.out.1, old HEL.out.2.1, old HEL.out.2.2.1, old HEL.out.2.2.2.1, old HEL.out.2.2.2.2, old fq0, old fq1, old fq2, old fq3, old fq4⟩⟩
      clear hzz hKq fq0 fq1 fq2 fq3 fq4 hzm
      refine start_ (n := 13) (S := fun w' => w'.cell? ⟨w.heap.size, 4, none⟩ = some (.slice (some am) a.f4.length c4) ∧ w'.cell? ⟨w.heap.size + 1, 4, none⟩ = some (.slice (some an) b.f4.length d4) ∧ w'.cell? (am.add (m * 5)) = some (.int .i64 yy.f0) ∧ w'.cell? ⟨(am.add (m * 5)).block, (am.add (m * 5)).off + 1, none⟩ = some (.string yy.f1) ∧ w'.cell? ⟨(am.add (m * 5)).block, (am.add (m * 5)).off + 2, none⟩ = some (.string yy.f2) ∧ w'.cell? ⟨(am.add (m * 5)).block, (am.add (m * 5)).off + 3, none⟩ = some (.slice P3 yy.f3.length p3) ∧ w'.cell? ⟨(am.add (m * 5)).block, (am.add (m * 5)).off + 4, none⟩ = some (.slice P4 yy.f4.length p4) ∧ w'.cell? (an.add (m * 5)) = some (.int .i64 zz.f0) ∧ w'.cell? ⟨(an.add (m * 5)).block, (an.add (m * 5)).off + 1, none⟩ = some (.string zz.f1) ∧ w'.cell? ⟨(an.add (m * 5)).block, (an.add (m * 5)).off + 2, none⟩ = some (.string zz.f2) ∧ w'.cell? ⟨(an.add (m * 5)).block, (an.add (m * 5)).off + 3, none⟩ = some (.slice Q3 zz.f3.length q3) ∧ w'.cell? ⟨(an.add (m * 5)).block, (an.add (m * 5)).off + 4, none⟩ = some (.slice Q4 zz.f4.length q4)) (ds := [11]) #[false, false, false, false, false, false, false, false, false, false, false, false, false] (by kernel_rfl) rfl rfl (HS11.out _ (Below.refl _ _).drew) (fun hHeld => ?_)
      refine with_tabW (T := sg11m.T) (B := sg11m.B) sg11m.tab sg11m.bits (fun HT_ HW_ => ?_)
      refine ps_ 0 80 HT_ ?_
      refine ps_ 2 82 HT_ ?_
      refine ps_ 5 85 HT_ ?_
      refine ps_ 7 87 HT_ ?_
      refine ps_ 10 90 HT_ ?_
      refine ts_ 1 81 HT_ HW_ hHeld ?_
      refine ps_ 3 83 HT_ ?_
      refine ts_ 4 84 HT_ HW_ hHeld ?_
      refine ts_ 6 86 HT_ HW_ hHeld ?_
      refine ps_ 8 88 HT_ ?_
      refine ts_ 9 89 HT_ HW_ hHeld ?_
      refine last_ (i := 11) (N := (some 91)) #[true, true, true, true, true, true, true, true, true, true, true, true, false] rfl rfl (one_of HT_.out (by kernel_rfl)) (by decide) (fun K hK => ?_)
      refine goes_ Tryz.func13 (by kernel_rfl) rfl #[nodeV yy P3 p3 P4 p4, nodeV zz Q3 q3 Q4 q4, .bool false] (by rfl) rfl rfl (by simp only [List.map_toArray, List.map_cons, List.map_nil]; rfl) ?_
      have hbd : Below w.heap.size w w8.drew := HB8.out.1.drew
      refine (IH.out yy zz HY.out.2.2 HZ.out.2.2 w8.drew P3 p3 P4 p4 Q3 q3 Q4 q4 (k25.K_below hbd HY.out.2.1) (k25.K_below hbd HZ.out.2.1)).mono ?_
      rintro e w9 ⟨rfl, hb9⟩
      obtain ⟨rn, hrn⟩ : ∃ rn, rn = smD false d yy zz := ⟨_, rfl⟩
      rw [← hrn]
      refine ⟨_, rfl, ?_⟩
      refine hK.out _ _ ?_
      have HB9 := Aside0.mk (And.intro (hbd.trans (hb9.mono hbd.size)) (And.intro ((hb9.block _ (lt_of_block HB8.out.2.1)).trans HB8.out.2.1) ((hb9.block _ (lt_of_block HB8.out.2.2)).trans HB8.out.2.2)))
      have HRN := Aside0.mk hrn
      clear hb9 hbd hrn
      clear hK K
      refine ns_ ?_
      cases rn
      ·refine ps_ 12 92 HT_ ?_
       refine done_ (done_of HT_.out (by kernel_rfl)) ?_
       first
       |go_wp2_with fail
        go_roundg (gk - 1)
        case measure => have := HJ.out; omega
        case rel => exact ⟨m + 1, by go_num, ⟨by have := HJ.out; omega⟩, HB9, ⟨fun i hi => by
         by_cases e : i = m
         ·rw [e]; exact (HIT.out _ _ HY.out.1 HZ.out.1).trans HRN.out.symm
         ·exact HP.out i (by omega)⟩⟩
       |go_wp2
        go_ret
        exact ⟨congrArg (fun b => Ending.returned (.bool b)) (smD_bad HJ.out.1 hj ((HIT.out _ _ HY.out.1 HZ.out.1).trans HRN.out.symm)).symm, HB9.out.1⟩
      ·refine ps_ 12 92 HT_ ?_
       refine done_ (done_of HT_.out (by kernel_rfl)) ?_
       first
       |go_wp2_with fail
        go_roundg (gk - 1)
        case measure => have := HJ.out; omega
        case rel => exact ⟨m + 1, by go_num, ⟨by have := HJ.out; omega⟩, HB9, ⟨fun i hi => by
         by_cases e : i = m
         ·rw [e]; exact (HIT.out _ _ HY.out.1 HZ.out.1).trans HRN.out.symm
         ·exact HP.out i (by omega)⟩⟩
       |go_wp2
        go_ret
        exact ⟨congrArg (fun b => Ending.returned (.bool b)) (smD_bad HJ.out.1 hj ((HIT.out _ _ HY.out.1 HZ.out.1).trans HRN.out.symm)).symm, HB9.out.1⟩
  ·have hje : j = a.f4.length := by have := HJ.out; omega
   go_wp2_with fail
   go_ret
   exact ⟨congrArg (fun b => Ending.returned (.bool b)) (smD_good HC.out (fun i hi => HP.out i (by omega))).symm, HB.out.1⟩
set_option maxRecDepth 100000 in
set_option maxHeartbeats 1600000 in
theorem sameL (loose : Bool) (d : Nat) (ih : ∀ (a b : S25) (ha : Sm d a) (hb : Sm d b) (w : World) (A3 : Option Addr) (c3 : Nat) (A4 : Option Addr) (c4 : Nat) (B3 : Option Addr) (d3 : Nat) (B4 : Option Addr) (d4 : Nat)
  (hK : nodeK w a A3 c3 A4 c4) (hK' : nodeK w b B3 d3 B4 d4), Calls Tryz.prog 13 #[nodeV a A3 c3 A4 c4, nodeV b B3 d3 B4 d4, .bool loose] w
   fun e w' => e = .returned (.bool (smD loose d a b)) ∧ Below w.heap.size w w') (a b : S25) (ha : Sm (d + 1) a) (hb : Sm (d + 1) b) (hc : SmH a b) (h2 : a.f0 ≠ 2) (w : World) (A3 : Option Addr) (c3 : Nat) (A4 : Option Addr) (c4 : Nat) (B3 : Option Addr) (d3 : Nat) (B4 : Option Addr) (d4 : Nat)
  (hK : nodeK w a A3 c3 A4 c4) (hK' : nodeK w b B3 d3 B4 d4) :
  Calls Tryz.prog 13 #[nodeV a A3 c3 A4 c4, nodeV b B3 d3 B4 d4, .bool loose] w
   fun e w' => e = .returned (.bool (smD loose (d + 1) a b)) ∧ Below w.heap.size w w' := by
 have hu := Tryz.underlying25
 have hGA := node_rows hK
 obtain ⟨g3', l3', g4'⟩ : ∃ q : Kd.string.C w B3 b.f3.length b.f3, b.f3.length ≤ d3 ∧ k25.C w B4 b.f4.length b.f4 := by
  obtain ⟨_, _, _, _, he, l3, g3, l4, g4⟩ := k25_open hK'
  simp only [List.cons.injEq, Value.slice.injEq, true_and, and_true] at he
  obtain ⟨⟨rfl, rfl⟩, rfl, rfl⟩ := he
  exact ⟨g3, l3, g4⟩
 have HG := Aside0.mk (And.intro hGA.1 (And.intro hGA.2 (And.intro g3' (And.intro l3' g4'))))
 have HX := Aside0.mk (And.intro ha hb)
 have hn4 : a.f4.length ≤ 9223372036854775807 := hGA.2.2.1
 have hm4 : b.f4.length ≤ 9223372036854775807 := g4'.2.1
 have IH := Aside0.mk ih
 have HC := Aside0.mk hc
 have b10 : (a.f0 == b.f0) = true := by simpa using hc.1
 have b20 : (a.f0 != b.f0) = false := by simp only [bne, b10]; rfl
 have b11 : (a.f1.toList == b.f1.toList) = true := by rw [hc.2.1]; simp
 have b21 : (a.f1.toList != b.f1.toList) = false := by simp only [bne, b11]; rfl
 have b13 : ((a.f3.length : Int) == (b.f3.length : Int)) = true := by simp only [beq_iff_eq]; have := hc.2.2.2.1; omega
 have b23 : ((a.f3.length : Int) != (b.f3.length : Int)) = false := by simp only [bne, b13]; rfl
 have b14 : ((a.f4.length : Int) == (b.f4.length : Int)) = true := by simp only [beq_iff_eq]; have := hc.2.2.2.2; omega
 have b24 : ((a.f4.length : Int) != (b.f4.length : Int)) = false := by simp only [bne, b14]; rfl
 clear hK hK' hGA g3' g4' l3' ha hb hc ih
 have h21 : (a.f0 == 2) = false := by simpa using h2
 have H2 := Aside0.mk h2
 have hk1 : ((a.f0 == 1) = true ∧ (a.f2.toList == b.f2.toList) = true ∧ (a.f2.toList != b.f2.toList) = false) ∨ (a.f0 == 1) = false := by
  by_cases h : a.f0 = 1
  ·exact .inl ⟨by simpa using h, by rw [HC.out.2.2.1 h]; simp, by rw [HC.out.2.2.1 h]; simp⟩
  ·exact .inr (by simpa using h)
 clear h2
 rcases hk1 with ⟨k1, k2, k3⟩ | k1
 ·go_enter Tryz.func13, Tryz.ntmps13
  go_wp2_with fail
  clear b10 b20 b11 b21 b13 b23 b14 b24 k1 k2 k3
  obtain ⟨w0, e0⟩ : ∃ w0, w0 = (w.alloc (.cells #[.int .i64 a.f0, .string a.f1, .string a.f2, .slice A3 a.f3.length c3, .slice A4 a.f4.length c4] 25)).alloc (.cells #[.int .i64 b.f0, .string b.f1, .string b.f2, .slice B3 b.f3.length d3, .slice B4 b.f4.length d4] 25) := ⟨_, rfl⟩
  try rw [← e0]
  have hb0 : Below w.heap.size w w0 := by rw [e0]; exact ((Below.refl _ _).alloc (Nat.le_refl _) _).alloc (by simp) _
  have q0 : w0.heap[w.heap.size]? = some (.cells #[.int .i64 a.f0, .string a.f1, .string a.f2, .slice A3 a.f3.length c3, .slice A4 a.f4.length c4] 25 (0, 0)) := by rw [e0]; exact (heap_old _ (by simp)).trans (heap_at _ rfl)
  have q1 : w0.heap[w.heap.size + 1]? = some (.cells #[.int .i64 b.f0, .string b.f1, .string b.f2, .slice B3 b.f3.length d3, .slice B4 b.f4.length d4] 25 (0, 0)) := by rw [e0]; exact heap_at _ (by simp)
  have H0 := Aside0.mk (And.intro hb0 (And.intro q0 q1))
  clear hb0 q0 q1 e0
  go_loopg [54] a.f4.length (fun k i wr => ∃ j : Nat, i = .int .i64 j ∧ Aside0 (j ≤ a.f4.length ∧ k + j = a.f4.length) ∧ Aside0 (Below w.heap.size w wr ∧ wr.heap[w.heap.size]? = some (.cells #[.int .i64 a.f0, .string a.f1, .string a.f2, .slice A3 a.f3.length c3, .slice A4 a.f4.length c4] 25 (0, 0)) ∧ wr.heap[w.heap.size + 1]? = some (.cells #[.int .i64 b.f0, .string b.f1, .string b.f2, .slice B3 b.f3.length d3, .slice B4 b.f4.length d4] 25 (0, 0))) ∧ Aside0 (∀ i, i < j → smI loose d a b i = true))
  case atStart => exact ⟨0, rfl, ⟨by omega⟩, H0, ⟨fun i hi => absurd hi (Nat.not_lt_zero _)⟩⟩
  case round =>
   clear H0
   obtain ⟨j, rfl, HJ, HB, HP⟩ := hrel
   have cx0 := (cell_of_block (i := 0) HB.out.2.1).trans (show _ = some _ from rfl)
   by_cases hj : j < a.f4.length
   ·have hjc := hj
    clear hjc
    generalize hyy : a.f4.getD j z25 = yy
    obtain ⟨am, P3, p3, P4, p4, e6, hKp, fp0, fp1, fp2, fp3, fp4⟩ := nodeAt HG.out.2.1 j hj yy hyy
    subst e6
    have hym : yy ∈ a.f4 := by rw [← hyy, List.getD_eq_getElem?_getD, List.getElem?_eq_getElem hj]; exact List.getElem_mem _
    have HY := Aside0.mk (And.intro hyy (And.intro hKp (HX.out.1.2.2.2 yy hym)))
    have HEL := Aside0.mk (And.intro fp0 (And.intro fp1 (And.intro fp2 (And.intro fp3 fp4))))
    clear hyy hKp fp0 fp1 fp2 fp3 fp4 hym
    obtain ⟨m, hmj⟩ : ∃ m, m = j := ⟨_, rfl⟩
    have hm : m < b.f4.length := by have := HC.out.2.2.2.2; omega
    have HIT : Aside0 (∀ yy zz, a.f4.getD j z25 = yy → b.f4.getD m z25 = zz → smI loose d a b j = smD loose d yy zz) := ⟨fun yy zz h1 h2 => smI_list H2.out h1 (by rw [← hmj]; exact h2)⟩
    subst hmj
    go_wp2_with fail
    clear cx0
    generalize hzz : b.f4.getD m z25 = zz
    obtain ⟨an, Q3, q3, Q4, q4, e7, hKq, fq0, fq1, fq2, fq3, fq4⟩ := nodeAt HG.out.2.2.2.2 m hm zz hzz
    subst e7
    have hzm : zz ∈ b.f4 := by rw [← hzz, List.getD_eq_getElem?_getD, List.getElem?_eq_getElem hm]; exact List.getElem_mem _
    have HZ := Aside0.mk (And.intro hzz (And.intro hKq (HX.out.2.2.2.2 zz hzm)))
    have HS11 : Aside0 (∀ w', Below wr.heap.size wr w' → w'.cell? ⟨w.heap.size, 4, none⟩ = some (.slice (some am) a.f4.length c4) ∧ w'.cell? ⟨w.heap.size + 1, 4, none⟩ = some (.slice (some an) b.f4.length d4) ∧ w'.cell? (am.add (m * 5)) = some (.int .i64 yy.f0) ∧ w'.cell? ⟨(am.add (m * 5)).block, (am.add (m * 5)).off + 1, none⟩ = some (.string yy.f1) ∧ w'.cell? ⟨(am.add (m * 5)).block, (am.add (m * 5)).off + 2, none⟩ = some (.string yy.f2) ∧ w'.cell? ⟨(am.add (m * 5)).block, (am.add (m * 5)).off + 3, none⟩ = some (.slice P3 yy.f3.length p3) ∧ w'.cell? ⟨(am.add (m * 5)).block, (am.add (m * 5)).off + 4, none⟩ = some (.slice P4 yy.f4.length p4) ∧ w'.cell? (an.add (m * 5)) = some (.int .i64 zz.f0) ∧ w'.cell? ⟨(an.add (m * 5)).block, (an.add (m * 5)).off + 1, none⟩ = some (.string zz.f1) ∧ w'.cell? ⟨(an.add (m * 5)).block, (an.add (m * 5)).off + 2, none⟩ = some (.string zz.f2) ∧ w'.cell? ⟨(an.add (m * 5)).block, (an.add (m * 5)).off + 3, none⟩ = some (.slice Q3 zz.f3.length q3) ∧ w'.cell? ⟨(an.add (m * 5)).block, (an.add (m * 5)).off + 4, none⟩ = some (.slice Q4 zz.f4.length q4)) := ⟨fun w' hc => by
     have old : ∀ {a : Addr} {v : Value}, w.cell? a = some v → w'.cell? a = some v := fun {a v} h => by
      have h1 := (HB.out.1.cell (World.block_lt_of_cell? w a h)).trans h
      exact (hc.cell (World.block_lt_of_cell? _ _ h1)).trans h1
     have hx := (hc.block _ (lt_of_block HB.out.2.1)).trans HB.out.2.1
     have hy := (hc.block _ (lt_of_block HB.out.2.2)).trans HB.out.2.2
     exact ⟨by rw [cell_of_block hx]; rfl, by rw [cell_of_block hy]; rfl, old HEL.out.1, old HEL.out.2.1, old HEL.out.2.2.1, old HEL.out.2.2.2.1, old HEL.out.2.2.2.2, old fq0, old fq1, old fq2, old fq3, old fq4⟩⟩
    clear hzz hKq fq0 fq1 fq2 fq3 fq4 hzm
    refine start_ (n := 13) (S := fun w' => w'.cell? ⟨w.heap.size, 4, none⟩ = some (.slice (some am) a.f4.length c4) ∧ w'.cell? ⟨w.heap.size + 1, 4, none⟩ = some (.slice (some an) b.f4.length d4) ∧ w'.cell? (am.add (m * 5)) = some (.int .i64 yy.f0) ∧ w'.cell? ⟨(am.add (m * 5)).block, (am.add (m * 5)).off + 1, none⟩ = some (.string yy.f1) ∧ w'.cell? ⟨(am.add (m * 5)).block, (am.add (m * 5)).off + 2, none⟩ = some (.string yy.f2) ∧ w'.cell? ⟨(am.add (m * 5)).block, (am.add (m * 5)).off + 3, none⟩ = some (.slice P3 yy.f3.length p3) ∧ w'.cell? ⟨(am.add (m * 5)).block, (am.add (m * 5)).off + 4, none⟩ = some (.slice P4 yy.f4.length p4) ∧ w'.cell? (an.add (m * 5)) = some (.int .i64 zz.f0) ∧ w'.cell? ⟨(an.add (m * 5)).block, (an.add (m * 5)).off + 1, none⟩ = some (.string zz.f1) ∧ w'.cell? ⟨(an.add (m * 5)).block, (an.add (m * 5)).off + 2, none⟩ = some (.string zz.f2) ∧ w'.cell? ⟨(an.add (m * 5)).block, (an.add (m * 5)).off + 3, none⟩ = some (.slice Q3 zz.f3.length q3) ∧ w'.cell? ⟨(an.add (m * 5)).block, (an.add (m * 5)).off + 4, none⟩ = some (.slice Q4 zz.f4.length q4)) (ds := [11]) #[false, false, false, false, false, false, false, false, false, false, false, false, false] (by kernel_rfl) rfl rfl (HS11.out _ (Below.refl _ _).drew) (fun hHeld => ?_)
    refine with_tabW (T := sg11m.T) (B := sg11m.B) sg11m.tab sg11m.bits (fun HT_ HW_ => ?_)
    refine ps_ 0 80 HT_ ?_
    refine ps_ 2 82 HT_ ?_
    refine ps_ 5 85 HT_ ?_
    refine ps_ 7 87 HT_ ?_
    refine ps_ 10 90 HT_ ?_
    refine ts_ 1 81 HT_ HW_ hHeld ?_
    refine ps_ 3 83 HT_ ?_
    refine ts_ 4 84 HT_ HW_ hHeld ?_
    refine ts_ 6 86 HT_ HW_ hHeld ?_
    refine ps_ 8 88 HT_ ?_
    refine ts_ 9 89 HT_ HW_ hHeld ?_
    refine last_ (i := 11) (N := (some 91)) #[true, true, true, true, true, true, true, true, true, true, true, true, false] rfl rfl (one_of HT_.out (by kernel_rfl)) (by decide) (fun K hK => ?_)
    refine goes_ Tryz.func13 (by kernel_rfl) rfl #[nodeV yy P3 p3 P4 p4, nodeV zz Q3 q3 Q4 q4, .bool loose] (by rfl) rfl rfl (by simp only [List.map_toArray, List.map_cons, List.map_nil]; rfl) ?_
    have hbd : Below w.heap.size w wr.drew := HB.out.1.drew
    refine (IH.out yy zz HY.out.2.2 HZ.out.2.2 wr.drew P3 p3 P4 p4 Q3 q3 Q4 q4 (k25.K_below hbd HY.out.2.1) (k25.K_below hbd HZ.out.2.1)).mono ?_
    rintro e w9 ⟨rfl, hb9⟩
    obtain ⟨rn, hrn⟩ : ∃ rn, rn = smD loose d yy zz := ⟨_, rfl⟩
    rw [← hrn]
    refine ⟨_, rfl, ?_⟩
    refine hK.out _ _ ?_
    have HB9 := Aside0.mk (And.intro (hbd.trans (hb9.mono hbd.size)) (And.intro ((hb9.block _ (lt_of_block HB.out.2.1)).trans HB.out.2.1) ((hb9.block _ (lt_of_block HB.out.2.2)).trans HB.out.2.2)))
    have HRN := Aside0.mk hrn
    clear hb9 hbd hrn
    clear hK K
    refine ns_ ?_
    cases rn
    ·refine ps_ 12 92 HT_ ?_
     refine done_ (done_of HT_.out (by kernel_rfl)) ?_
     first
     |go_wp2_with fail
      go_roundg (gk - 1)
      case measure => have := HJ.out; omega
      case rel => exact ⟨m + 1, by go_num, ⟨by have := HJ.out; omega⟩, HB9, ⟨fun i hi => by
       by_cases e : i = m
       ·rw [e]; exact (HIT.out _ _ HY.out.1 HZ.out.1).trans HRN.out.symm
       ·exact HP.out i (by omega)⟩⟩
     |go_wp2
      go_ret
      exact ⟨congrArg (fun b => Ending.returned (.bool b)) (smD_bad HJ.out.1 hj ((HIT.out _ _ HY.out.1 HZ.out.1).trans HRN.out.symm)).symm, HB9.out.1⟩
    ·refine ps_ 12 92 HT_ ?_
     refine done_ (done_of HT_.out (by kernel_rfl)) ?_
     first
     |go_wp2_with fail
      go_roundg (gk - 1)
      case measure => have := HJ.out; omega
      case rel => exact ⟨m + 1, by go_num, ⟨by have := HJ.out; omega⟩, HB9, ⟨fun i hi => by
       by_cases e : i = m
       ·rw [e]; exact (HIT.out _ _ HY.out.1 HZ.out.1).trans HRN.out.symm
       ·exact HP.out i (by omega)⟩⟩
     |go_wp2
      go_ret
      exact ⟨congrArg (fun b => Ending.returned (.bool b)) (smD_bad HJ.out.1 hj ((HIT.out _ _ HY.out.1 HZ.out.1).trans HRN.out.symm)).symm, HB9.out.1⟩
   ·have hje : j = a.f4.length := by have := HJ.out; omega
    go_wp2_with fail
    go_ret
    exact ⟨congrArg (fun b => Ending.returned (.bool b)) (smD_good HC.out (fun i hi => HP.out i (by omega))).symm, HB.out.1⟩
 ·go_enter Tryz.func13, Tryz.ntmps13
  go_wp2_with fail
  clear b10 b20 b11 b21 b13 b23 b14 b24 k1
  obtain ⟨w0, e0⟩ : ∃ w0, w0 = (w.alloc (.cells #[.int .i64 a.f0, .string a.f1, .string a.f2, .slice A3 a.f3.length c3, .slice A4 a.f4.length c4] 25)).alloc (.cells #[.int .i64 b.f0, .string b.f1, .string b.f2, .slice B3 b.f3.length d3, .slice B4 b.f4.length d4] 25) := ⟨_, rfl⟩
  try rw [← e0]
  have hb0 : Below w.heap.size w w0 := by rw [e0]; exact ((Below.refl _ _).alloc (Nat.le_refl _) _).alloc (by simp) _
  have q0 : w0.heap[w.heap.size]? = some (.cells #[.int .i64 a.f0, .string a.f1, .string a.f2, .slice A3 a.f3.length c3, .slice A4 a.f4.length c4] 25 (0, 0)) := by rw [e0]; exact (heap_old _ (by simp)).trans (heap_at _ rfl)
  have q1 : w0.heap[w.heap.size + 1]? = some (.cells #[.int .i64 b.f0, .string b.f1, .string b.f2, .slice B3 b.f3.length d3, .slice B4 b.f4.length d4] 25 (0, 0)) := by rw [e0]; exact heap_at _ (by simp)
  have H0 := Aside0.mk (And.intro hb0 (And.intro q0 q1))
  clear hb0 q0 q1 e0
  go_loopg [54] a.f4.length (fun k i wr => ∃ j : Nat, i = .int .i64 j ∧ Aside0 (j ≤ a.f4.length ∧ k + j = a.f4.length) ∧ Aside0 (Below w.heap.size w wr ∧ wr.heap[w.heap.size]? = some (.cells #[.int .i64 a.f0, .string a.f1, .string a.f2, .slice A3 a.f3.length c3, .slice A4 a.f4.length c4] 25 (0, 0)) ∧ wr.heap[w.heap.size + 1]? = some (.cells #[.int .i64 b.f0, .string b.f1, .string b.f2, .slice B3 b.f3.length d3, .slice B4 b.f4.length d4] 25 (0, 0))) ∧ Aside0 (∀ i, i < j → smI loose d a b i = true))
  case atStart => exact ⟨0, rfl, ⟨by omega⟩, H0, ⟨fun i hi => absurd hi (Nat.not_lt_zero _)⟩⟩
  case round =>
   clear H0
   obtain ⟨j, rfl, HJ, HB, HP⟩ := hrel
   have cx0 := (cell_of_block (i := 0) HB.out.2.1).trans (show _ = some _ from rfl)
   by_cases hj : j < a.f4.length
   ·have hjc := hj
    clear hjc
    generalize hyy : a.f4.getD j z25 = yy
    obtain ⟨am, P3, p3, P4, p4, e6, hKp, fp0, fp1, fp2, fp3, fp4⟩ := nodeAt HG.out.2.1 j hj yy hyy
    subst e6
    have hym : yy ∈ a.f4 := by rw [← hyy, List.getD_eq_getElem?_getD, List.getElem?_eq_getElem hj]; exact List.getElem_mem _
    have HY := Aside0.mk (And.intro hyy (And.intro hKp (HX.out.1.2.2.2 yy hym)))
    have HEL := Aside0.mk (And.intro fp0 (And.intro fp1 (And.intro fp2 (And.intro fp3 fp4))))
    clear hyy hKp fp0 fp1 fp2 fp3 fp4 hym
    obtain ⟨m, hmj⟩ : ∃ m, m = j := ⟨_, rfl⟩
    have hm : m < b.f4.length := by have := HC.out.2.2.2.2; omega
    have HIT : Aside0 (∀ yy zz, a.f4.getD j z25 = yy → b.f4.getD m z25 = zz → smI loose d a b j = smD loose d yy zz) := ⟨fun yy zz h1 h2 => smI_list H2.out h1 (by rw [← hmj]; exact h2)⟩
    subst hmj
    go_wp2_with fail
    clear cx0
    generalize hzz : b.f4.getD m z25 = zz
    obtain ⟨an, Q3, q3, Q4, q4, e7, hKq, fq0, fq1, fq2, fq3, fq4⟩ := nodeAt HG.out.2.2.2.2 m hm zz hzz
    subst e7
    have hzm : zz ∈ b.f4 := by rw [← hzz, List.getD_eq_getElem?_getD, List.getElem?_eq_getElem hm]; exact List.getElem_mem _
    have HZ := Aside0.mk (And.intro hzz (And.intro hKq (HX.out.2.2.2.2 zz hzm)))
    have HS11 : Aside0 (∀ w', Below wr.heap.size wr w' → w'.cell? ⟨w.heap.size, 4, none⟩ = some (.slice (some am) a.f4.length c4) ∧ w'.cell? ⟨w.heap.size + 1, 4, none⟩ = some (.slice (some an) b.f4.length d4) ∧ w'.cell? (am.add (m * 5)) = some (.int .i64 yy.f0) ∧ w'.cell? ⟨(am.add (m * 5)).block, (am.add (m * 5)).off + 1, none⟩ = some (.string yy.f1) ∧ w'.cell? ⟨(am.add (m * 5)).block, (am.add (m * 5)).off + 2, none⟩ = some (.string yy.f2) ∧ w'.cell? ⟨(am.add (m * 5)).block, (am.add (m * 5)).off + 3, none⟩ = some (.slice P3 yy.f3.length p3) ∧ w'.cell? ⟨(am.add (m * 5)).block, (am.add (m * 5)).off + 4, none⟩ = some (.slice P4 yy.f4.length p4) ∧ w'.cell? (an.add (m * 5)) = some (.int .i64 zz.f0) ∧ w'.cell? ⟨(an.add (m * 5)).block, (an.add (m * 5)).off + 1, none⟩ = some (.string zz.f1) ∧ w'.cell? ⟨(an.add (m * 5)).block, (an.add (m * 5)).off + 2, none⟩ = some (.string zz.f2) ∧ w'.cell? ⟨(an.add (m * 5)).block, (an.add (m * 5)).off + 3, none⟩ = some (.slice Q3 zz.f3.length q3) ∧ w'.cell? ⟨(an.add (m * 5)).block, (an.add (m * 5)).off + 4, none⟩ = some (.slice Q4 zz.f4.length q4)) := ⟨fun w' hc => by
     have old : ∀ {a : Addr} {v : Value}, w.cell? a = some v → w'.cell? a = some v := fun {a v} h => by
      have h1 := (HB.out.1.cell (World.block_lt_of_cell? w a h)).trans h
      exact (hc.cell (World.block_lt_of_cell? _ _ h1)).trans h1
     have hx := (hc.block _ (lt_of_block HB.out.2.1)).trans HB.out.2.1
     have hy := (hc.block _ (lt_of_block HB.out.2.2)).trans HB.out.2.2
     exact ⟨by rw [cell_of_block hx]; rfl, by rw [cell_of_block hy]; rfl, old HEL.out.1, old HEL.out.2.1, old HEL.out.2.2.1, old HEL.out.2.2.2.1, old HEL.out.2.2.2.2, old fq0, old fq1, old fq2, old fq3, old fq4⟩⟩
    clear hzz hKq fq0 fq1 fq2 fq3 fq4 hzm
    refine start_ (n := 13) (S := fun w' => w'.cell? ⟨w.heap.size, 4, none⟩ = some (.slice (some am) a.f4.length c4) ∧ w'.cell? ⟨w.heap.size + 1, 4, none⟩ = some (.slice (some an) b.f4.length d4) ∧ w'.cell? (am.add (m * 5)) = some (.int .i64 yy.f0) ∧ w'.cell? ⟨(am.add (m * 5)).block, (am.add (m * 5)).off + 1, none⟩ = some (.string yy.f1) ∧ w'.cell? ⟨(am.add (m * 5)).block, (am.add (m * 5)).off + 2, none⟩ = some (.string yy.f2) ∧ w'.cell? ⟨(am.add (m * 5)).block, (am.add (m * 5)).off + 3, none⟩ = some (.slice P3 yy.f3.length p3) ∧ w'.cell? ⟨(am.add (m * 5)).block, (am.add (m * 5)).off + 4, none⟩ = some (.slice P4 yy.f4.length p4) ∧ w'.cell? (an.add (m * 5)) = some (.int .i64 zz.f0) ∧ w'.cell? ⟨(an.add (m * 5)).block, (an.add (m * 5)).off + 1, none⟩ = some (.string zz.f1) ∧ w'.cell? ⟨(an.add (m * 5)).block, (an.add (m * 5)).off + 2, none⟩ = some (.string zz.f2) ∧ w'.cell? ⟨(an.add (m * 5)).block, (an.add (m * 5)).off + 3, none⟩ = some (.slice Q3 zz.f3.length q3) ∧ w'.cell? ⟨(an.add (m * 5)).block, (an.add (m * 5)).off + 4, none⟩ = some (.slice Q4 zz.f4.length q4)) (ds := [11]) #[false, false, false, false, false, false, false, false, false, false, false, false, false] (by kernel_rfl) rfl rfl (HS11.out _ (Below.refl _ _).drew) (fun hHeld => ?_)
    refine with_tabW (T := sg11m.T) (B := sg11m.B) sg11m.tab sg11m.bits (fun HT_ HW_ => ?_)
    refine ps_ 0 80 HT_ ?_
    refine ps_ 2 82 HT_ ?_
    refine ps_ 5 85 HT_ ?_
    refine ps_ 7 87 HT_ ?_
    refine ps_ 10 90 HT_ ?_
    refine ts_ 1 81 HT_ HW_ hHeld ?_
    refine ps_ 3 83 HT_ ?_
    refine ts_ 4 84 HT_ HW_ hHeld ?_
    refine ts_ 6 86 HT_ HW_ hHeld ?_
    refine ps_ 8 88 HT_ ?_
    refine ts_ 9 89 HT_ HW_ hHeld ?_
    refine last_ (i := 11) (N := (some 91)) #[true, true, true, true, true, true, true, true, true, true, true, true, false] rfl rfl (one_of HT_.out (by kernel_rfl)) (by decide) (fun K hK => ?_)
    refine goes_ Tryz.func13 (by kernel_rfl) rfl #[nodeV yy P3 p3 P4 p4, nodeV zz Q3 q3 Q4 q4, .bool loose] (by rfl) rfl rfl (by simp only [List.map_toArray, List.map_cons, List.map_nil]; rfl) ?_
    have hbd : Below w.heap.size w wr.drew := HB.out.1.drew
    refine (IH.out yy zz HY.out.2.2 HZ.out.2.2 wr.drew P3 p3 P4 p4 Q3 q3 Q4 q4 (k25.K_below hbd HY.out.2.1) (k25.K_below hbd HZ.out.2.1)).mono ?_
    rintro e w9 ⟨rfl, hb9⟩
    obtain ⟨rn, hrn⟩ : ∃ rn, rn = smD loose d yy zz := ⟨_, rfl⟩
    rw [← hrn]
    refine ⟨_, rfl, ?_⟩
    refine hK.out _ _ ?_
    have HB9 := Aside0.mk (And.intro (hbd.trans (hb9.mono hbd.size)) (And.intro ((hb9.block _ (lt_of_block HB.out.2.1)).trans HB.out.2.1) ((hb9.block _ (lt_of_block HB.out.2.2)).trans HB.out.2.2)))
    have HRN := Aside0.mk hrn
    clear hb9 hbd hrn
    clear hK K
    refine ns_ ?_
    cases rn
    ·refine ps_ 12 92 HT_ ?_
     refine done_ (done_of HT_.out (by kernel_rfl)) ?_
     first
     |go_wp2_with fail
      go_roundg (gk - 1)
      case measure => have := HJ.out; omega
      case rel => exact ⟨m + 1, by go_num, ⟨by have := HJ.out; omega⟩, HB9, ⟨fun i hi => by
       by_cases e : i = m
       ·rw [e]; exact (HIT.out _ _ HY.out.1 HZ.out.1).trans HRN.out.symm
       ·exact HP.out i (by omega)⟩⟩
     |go_wp2
      go_ret
      exact ⟨congrArg (fun b => Ending.returned (.bool b)) (smD_bad HJ.out.1 hj ((HIT.out _ _ HY.out.1 HZ.out.1).trans HRN.out.symm)).symm, HB9.out.1⟩
    ·refine ps_ 12 92 HT_ ?_
     refine done_ (done_of HT_.out (by kernel_rfl)) ?_
     first
     |go_wp2_with fail
      go_roundg (gk - 1)
      case measure => have := HJ.out; omega
      case rel => exact ⟨m + 1, by go_num, ⟨by have := HJ.out; omega⟩, HB9, ⟨fun i hi => by
       by_cases e : i = m
       ·rw [e]; exact (HIT.out _ _ HY.out.1 HZ.out.1).trans HRN.out.symm
       ·exact HP.out i (by omega)⟩⟩
     |go_wp2
      go_ret
      exact ⟨congrArg (fun b => Ending.returned (.bool b)) (smD_bad HJ.out.1 hj ((HIT.out _ _ HY.out.1 HZ.out.1).trans HRN.out.symm)).symm, HB9.out.1⟩
   ·have hje : j = a.f4.length := by have := HJ.out; omega
    go_wp2_with fail
    go_ret
    exact ⟨congrArg (fun b => Ending.returned (.bool b)) (smD_good HC.out (fun i hi => HP.out i (by omega))).symm, HB.out.1⟩
set_option maxRecDepth 100000 in
set_option maxHeartbeats 1600000 in
theorem sameG_calls (loose : Bool) (d : Nat) : ∀ (a b : S25) (ha : Sm d a) (hb : Sm d b) (w : World) (A3 : Option Addr) (c3 : Nat) (A4 : Option Addr) (c4 : Nat) (B3 : Option Addr) (d3 : Nat) (B4 : Option Addr) (d4 : Nat)
  (hK : nodeK w a A3 c3 A4 c4) (hK' : nodeK w b B3 d3 B4 d4),
  Calls Tryz.prog 13 #[nodeV a A3 c3 A4 c4, nodeV b B3 d3 B4 d4, .bool loose] w
   fun e w' => e = .returned (.bool (smD loose d a b)) ∧ Below w.heap.size w w' := by
 induction d with
 | zero => intro a b ha; exact ha.elim
 |succ d ih =>
  intro a b ha hb w A3 c3 A4 c4 B3 d3 B4 d4 hK hK'
  by_cases hc : SmH a b
  ·by_cases h2 : a.f0 = 2
   ·exact sameM loose d ih a b ha hb hc h2 w A3 c3 A4 c4 B3 d3 B4 d4 hK hK'
   ·exact sameL loose d ih a b ha hb hc h2 w A3 c3 A4 c4 B3 d3 B4 d4 hK hK'
  have HNC := Aside0.mk (smD_no (loose := loose) (d := d) hc)
  have HC : Aside0 (¬ SmH a b) := ⟨hc⟩
  clear hc
  have hu := Tryz.underlying25
  have hGA := node_rows hK
  obtain ⟨g3', l3', g4'⟩ : ∃ q : Kd.string.C w B3 b.f3.length b.f3, b.f3.length ≤ d3 ∧ k25.C w B4 b.f4.length b.f4 := by
   obtain ⟨_, _, _, _, he, l3, g3, l4, g4⟩ := k25_open hK'
   simp only [List.cons.injEq, Value.slice.injEq, true_and, and_true] at he
   obtain ⟨⟨rfl, rfl⟩, rfl, rfl⟩ := he
   exact ⟨g3, l3, g4⟩
  have HG := Aside0.mk (And.intro hGA.1 (And.intro hGA.2 (And.intro g3' (And.intro l3' g4'))))
  have HX := Aside0.mk (And.intro ha hb)
  have hn4 : a.f4.length ≤ 9223372036854775807 := hGA.2.2.1
  have hm4 : b.f4.length ≤ 9223372036854775807 := g4'.2.1
  clear hK hK' hGA g3' g4' l3' ha hb ih
  by_cases e0 : a.f0 = b.f0
  rotate_left
  ·have b1 : (a.f0 == b.f0) = false := by simpa using e0
   have b2 : (a.f0 != b.f0) = true := by simp only [bne, b1]; rfl
   clear e0
   go_enter Tryz.func13, Tryz.ntmps13
   go_wp2
   go_ret
   exact ⟨congrArg (fun b => Ending.returned (.bool b)) (HNC.out).symm, by first | exact (Below.refl _ _).drew | exact ((Below.refl _ _).alloc (Nat.le_refl _) _).alloc (by simp) _ | exact (((Below.refl _ _).alloc (Nat.le_refl _) _).alloc (by simp) _).drew⟩
  have HE0 := Aside0.mk e0
  have b10 : (a.f0 == b.f0) = true := by simpa using e0
  have b20 : (a.f0 != b.f0) = false := by simp only [bne, b10]; rfl
  clear e0
  by_cases e1 : a.f1 = b.f1
  rotate_left
  ·have b1 : (a.f1.toList == b.f1.toList) = false := by simpa using (fun h => e1 (bytes_ext h) : ¬ a.f1.toList = b.f1.toList)
   have b2 : (a.f1.toList != b.f1.toList) = true := by simp only [bne, b1]; rfl
   clear e1
   go_enter Tryz.func13, Tryz.ntmps13
   go_wp2
   go_ret
   exact ⟨congrArg (fun b => Ending.returned (.bool b)) (HNC.out).symm, by first | exact (Below.refl _ _).drew | exact ((Below.refl _ _).alloc (Nat.le_refl _) _).alloc (by simp) _ | exact (((Below.refl _ _).alloc (Nat.le_refl _) _).alloc (by simp) _).drew⟩
  have HE1 := Aside0.mk e1
  have b11 : (a.f1.toList == b.f1.toList) = true := by rw [e1]; simp
  have b21 : (a.f1.toList != b.f1.toList) = false := by simp only [bne, b11]; rfl
  clear e1
  by_cases e2 : a.f0 = 1 ∧ a.f2 ≠ b.f2
  ·have b1 : (a.f2.toList == b.f2.toList) = false := by simpa using (fun h => e2.2 (bytes_ext h) : ¬ a.f2.toList = b.f2.toList)
   have b2 : (a.f2.toList != b.f2.toList) = true := by simp only [bne, b1]; rfl
   have b3 : (a.f0 == 1) = true := by simpa using e2.1
   clear e2
   go_enter Tryz.func13, Tryz.ntmps13
   go_wp2
   go_ret
   exact ⟨congrArg (fun b => Ending.returned (.bool b)) (HNC.out).symm, by first | exact (Below.refl _ _).drew | exact ((Below.refl _ _).alloc (Nat.le_refl _) _).alloc (by simp) _ | exact (((Below.refl _ _).alloc (Nat.le_refl _) _).alloc (by simp) _).drew⟩
  have HE2 : Aside0 (a.f0 = 1 → a.f2 = b.f2) := ⟨fun h => Classical.byContradiction fun q => e2 ⟨h, q⟩⟩
  have hk1 : ((a.f0 == 1) = true ∧ (a.f2.toList == b.f2.toList) = true ∧ (a.f2.toList != b.f2.toList) = false) ∨ (a.f0 == 1) = false := by
   by_cases h : a.f0 = 1
   ·exact .inl ⟨by simpa using h, by rw [HE2.out h]; simp, by rw [HE2.out h]; simp⟩
   ·exact .inr (by simpa using h)
  clear e2
  by_cases e3 : a.f3.length = b.f3.length
  rotate_left
  ·have b1 : ((a.f3.length : Int) == (b.f3.length : Int)) = false := by simp only [beq_eq_false_iff_ne, ne_eq]; omega
   have b2 : ((a.f3.length : Int) != (b.f3.length : Int)) = true := by simp only [bne, b1]; rfl
   clear e3
   rcases hk1 with ⟨k1, k2, k3⟩ | k1
   all_goals
    go_enter Tryz.func13, Tryz.ntmps13
    go_wp2
    go_ret
    exact ⟨congrArg (fun b => Ending.returned (.bool b)) (HNC.out).symm, by first | exact (Below.refl _ _).drew | exact ((Below.refl _ _).alloc (Nat.le_refl _) _).alloc (by simp) _ | exact (((Below.refl _ _).alloc (Nat.le_refl _) _).alloc (by simp) _).drew⟩
  have HE3 := Aside0.mk e3
  have b13 : ((a.f3.length : Int) == (b.f3.length : Int)) = true := by simp only [beq_iff_eq]; omega
  have b23 : ((a.f3.length : Int) != (b.f3.length : Int)) = false := by simp only [bne, b13]; rfl
  clear e3
  have e4 : a.f4.length ≠ b.f4.length := fun e => HC.out ⟨HE0.out, HE1.out, HE2.out, HE3.out, e⟩
  have b1 : ((a.f4.length : Int) == (b.f4.length : Int)) = false := by simp only [beq_eq_false_iff_ne, ne_eq]; omega
  have b2 : ((a.f4.length : Int) != (b.f4.length : Int)) = true := by simp only [bne, b1]; rfl
  clear e4
  rcases hk1 with ⟨k1, k2, k3⟩ | k1
  all_goals
   go_enter Tryz.func13, Tryz.ntmps13
   go_wp2
   go_ret
   exact ⟨congrArg (fun b => Ending.returned (.bool b)) (HNC.out).symm, by first | exact (Below.refl _ _).drew | exact ((Below.refl _ _).alloc (Nat.le_refl _) _).alloc (by simp) _ | exact (((Below.refl _ _).alloc (Nat.le_refl _) _).alloc (by simp) _).drew⟩
end Go.Proofs.YtkpdkoafngjflaaGreat
