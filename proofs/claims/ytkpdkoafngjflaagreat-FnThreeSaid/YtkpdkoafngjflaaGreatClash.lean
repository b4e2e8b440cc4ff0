import Derived.Test.YtkpdkoafngjflaaGreatSh
import Derived.Test.YtkpdkoafngjflaaGreatAlike
import Derived.Test.YtkpdkoafngjflaaGreatCovers
namespace Go.Proofs.YtkpdkoafngjflaaGreat
open Go.RowKit Go.Proofs.YtkpdkoafngjflaaGreatW.PrintWords Go.Proofs.YtkpdkoafngjflaaGreatW.PrintLast Go.Proofs.YtkpdkoafngjflaaGreat.PFnFields
set_option linter.unusedVariables false
set_option linter.unusedSimpArgs false
def are7.T : Bool × List (List Nat × List Nat) := (true, [([], []), ([], []), ([0, 1], [0, 1]), ([2], [2]), ([], []), ([], []), ([4, 5], [4, 5]), ([6], [6]), ([3, 7], [3, 7]), ([8], [8])])
def are7.B : List Nat := [0, 0, 3, 7, 0, 0, 48, 112, 255, 511]
theorem are7.tab : rtab .any (opsOf Tryz.f6 7) = are7.T := by kernel_rfl
theorem are7.bits : waitsOk are7.T.2 are7.B = true := by kernel_rfl
set_option maxRecDepth 100000 in
set_option maxHeartbeats 1600000 in
theorem areAlike_calls (d : Nat) (hd : d ≤ 6) (l : List S25) (hl : ∀ x ∈ l, Fit d x) (w : World) (B : Option Addr) (c : Nat) (hC : Kd.C k25 w B l.length l) (hc : l.length ≤ c) :
  Calls Tryz.prog 6 #[.slice B l.length c] w (BoolPost w (∀ i k, k < i → i < l.length → AlP d (l.getD i z25) (l.getD k z25))) := by
 have hu := Tryz.underlying25
 have HC := Aside0.mk hC
 have HL := Aside0.mk hl
 have hn : l.length ≤ 9223372036854775807 := hC.2.1
 clear hC hl
 go_enter Tryz.func6, Tryz.ntmps6
 go_wp2_with fail
 go_loopg [7] l.length (fun k i wr => ∃ j : Nat, i = .int .i64 j ∧ Aside0 (j ≤ l.length ∧ k + j = l.length) ∧ Aside0 (Below w.heap.size w wr) ∧ Aside0 (∀ i k, k < i → i < j → AlP d (l.getD i z25) (l.getD k z25)))
 case atStart => exact ⟨0, rfl, ⟨by omega⟩, ⟨Below.refl _ _⟩, ⟨fun i k _ hi => absurd hi (Nat.not_lt_zero _)⟩⟩
 case round =>
  obtain ⟨j, rfl, HJ, HB, HP⟩ := hrel
  obtain ⟨gq, hgq⟩ : ∃ gq, gq = gk := ⟨_, rfl⟩
  have HGQ := Aside0.mk hgq
  clear hgq
  by_cases hj : j < l.length
  ·generalize hxx : l.getD j z25 = xx
   obtain ⟨am, P3, p3, P4, p4, e6, hKp, fp0, fp1, fp2, fp3, fp4⟩ := nodeAt HC.out j hj xx hxx
   subst e6
   have hxm : xx ∈ l := by rw [← hxx, List.getD_eq_getElem?_getD, List.getElem?_eq_getElem hj]; exact List.getElem_mem _
   have HX := Aside0.mk (And.intro hKp (And.intro (HL.out xx hxm) hxx))
   have HEL := Aside0.mk (And.intro fp0 (And.intro fp1 (And.intro fp2 (And.intro fp3 fp4))))
   clear hxx hKp fp0 fp1 fp2 fp3 fp4 hxm
   have hjc : j ≤ c := by omega
   go_wp2_with fail
   obtain ⟨sn, hsn⟩ : ∃ sn, sn = j := ⟨_, rfl⟩
   go_loopg [14] j (fun k i wr => ∃ m : Nat, i = .int .i64 m ∧ Aside0 (m ≤ j ∧ k + m = j) ∧ Aside0 (Below w.heap.size w wr) ∧ Aside0 (∀ i, i < m → AlP d xx (l.getD i z25)))
   case atStart => exact ⟨0, rfl, ⟨by omega⟩, HB, ⟨fun i hi => absurd hi (Nat.not_lt_zero _)⟩⟩
   case round =>
    clear HB
    obtain ⟨m, rfl, HJ2, HB, HQ⟩ := hrel
    by_cases hm : m < j
    ·have hml : m < l.length := by omega
     generalize hyy : l.getD m z25 = yy
     obtain ⟨am', Q3, q3, Q4, q4, e7, hKq, fq0, fq1, fq2, fq3, fq4⟩ := nodeAt HC.out m hml yy hyy
     obtain rfl := Option.some.inj e7
     have hym : yy ∈ l := by rw [← hyy, List.getD_eq_getElem?_getD, List.getElem?_eq_getElem hml]; exact List.getElem_mem _
     have HY := Aside0.mk (And.intro hKq (And.intro (HL.out yy hym) hyy))
     have HS7 : Aside0 (∀ w', Below wr.heap.size wr w' → w'.cell? (am.add (j * 5)) = some (.int .i64 xx.f0) ∧ w'.cell? ⟨(am.add (j * 5)).block, (am.add (j * 5)).off + 1, none⟩ = some (.string xx.f1) ∧ w'.cell? ⟨(am.add (j * 5)).block, (am.add (j * 5)).off + 2, none⟩ = some (.string xx.f2) ∧ w'.cell? ⟨(am.add (j * 5)).block, (am.add (j * 5)).off + 3, none⟩ = some (.slice P3 xx.f3.length p3) ∧ w'.cell? ⟨(am.add (j * 5)).block, (am.add (j * 5)).off + 4, none⟩ = some (.slice P4 xx.f4.length p4) ∧ w'.cell? (am.add (m * 5)) = some (.int .i64 yy.f0) ∧ w'.cell? ⟨(am.add (m * 5)).block, (am.add (m * 5)).off + 1, none⟩ = some (.string yy.f1) ∧ w'.cell? ⟨(am.add (m * 5)).block, (am.add (m * 5)).off + 2, none⟩ = some (.string yy.f2) ∧ w'.cell? ⟨(am.add (m * 5)).block, (am.add (m * 5)).off + 3, none⟩ = some (.slice Q3 yy.f3.length q3) ∧ w'.cell? ⟨(am.add (m * 5)).block, (am.add (m * 5)).off + 4, none⟩ = some (.slice Q4 yy.f4.length q4)) := ⟨fun w' hc => by
      have old : ∀ {a : Addr} {v : Value}, w.cell? a = some v → w'.cell? a = some v := fun {a v} h => by
       have h1 := (HB.out.cell (World.block_lt_of_cell? w a h)).trans h
       exact (hc.cell (World.block_lt_of_cell? _ _ h1)).trans h1
      exact ⟨old HEL.out.1, old HEL.out.2.1, old HEL.out.2.2.1, old HEL.out.2.2.2.1, old HEL.out.2.2.2.2, old fq0, old fq1, old fq2, old fq3, old fq4⟩⟩
     clear hyy hKq fq0 fq1 fq2 fq3 fq4 hym e7
     go_wp2_with fail
     refine start_ (n := 10) (S := fun w' => w'.cell? (am.add (j * 5)) = some (.int .i64 xx.f0) ∧ w'.cell? ⟨(am.add (j * 5)).block, (am.add (j * 5)).off + 1, none⟩ = some (.string xx.f1) ∧ w'.cell? ⟨(am.add (j * 5)).block, (am.add (j * 5)).off + 2, none⟩ = some (.string xx.f2) ∧ w'.cell? ⟨(am.add (j * 5)).block, (am.add (j * 5)).off + 3, none⟩ = some (.slice P3 xx.f3.length p3) ∧ w'.cell? ⟨(am.add (j * 5)).block, (am.add (j * 5)).off + 4, none⟩ = some (.slice P4 xx.f4.length p4) ∧ w'.cell? (am.add (m * 5)) = some (.int .i64 yy.f0) ∧ w'.cell? ⟨(am.add (m * 5)).block, (am.add (m * 5)).off + 1, none⟩ = some (.string yy.f1) ∧ w'.cell? ⟨(am.add (m * 5)).block, (am.add (m * 5)).off + 2, none⟩ = some (.string yy.f2) ∧ w'.cell? ⟨(am.add (m * 5)).block, (am.add (m * 5)).off + 3, none⟩ = some (.slice Q3 yy.f3.length q3) ∧ w'.cell? ⟨(am.add (m * 5)).block, (am.add (m * 5)).off + 4, none⟩ = some (.slice Q4 yy.f4.length q4)) (ds := [8]) #[false, false, false, false, false, false, false, false, false, false] (by kernel_rfl) rfl rfl (HS7.out _ (Below.refl _ _).drew) (fun hHeld => ?_)
     refine with_tabW (T := are7.T) (B := are7.B) are7.tab are7.bits (fun HT_ HW_ => ?_)
     refine ps_ 0 17 HT_ ?_
     refine ps_ 1 18 HT_ ?_
     refine ps_ 2 19 HT_ ?_
     refine ps_ 4 21 HT_ ?_
     refine ps_ 5 22 HT_ ?_
     refine ps_ 6 23 HT_ ?_
     refine ts_ 3 20 HT_ HW_ hHeld ?_
     refine ts_ 7 24 HT_ HW_ hHeld ?_
     refine last_ (i := 8) (N := (some 25)) #[true, true, true, true, true, true, true, true, true, false] rfl rfl (one_of HT_.out (by kernel_rfl)) (by decide) (fun K hK => ?_)
     refine goes_ Tryz.func15 (by kernel_rfl) rfl #[nodeV xx P3 p3 P4 p4, nodeV yy Q3 q3 Q4 q4] (by rfl) rfl rfl (by simp only [List.map_toArray, List.map_cons, List.map_nil]; rfl) ?_
     have hbd : Below w.heap.size w wr.drew := HB.out.drew
     refine (alike_calls d xx yy HX.out.2.1 HY.out.2.1 hd wr.drew P3 p3 P4 p4 Q3 q3 Q4 q4 (k25.K_below hbd HX.out.1) (k25.K_below hbd HY.out.1)).mono ?_
     rintro e w9 ⟨rn, rfl, hb9, hp9⟩
     refine ⟨_, rfl, ?_⟩
     refine hK.out _ _ ?_
     have HB9 := Aside0.mk (hbd.trans (hb9.mono hbd.size))
     have HP9 := Aside0.mk hp9
     clear hb9 hbd hp9
     clear hK K
     refine ns_ ?_
     cases rn
     ·refine ps_ 9 26 HT_ ?_
      refine done_ (done_of HT_.out (by kernel_rfl)) ?_
      first
      |go_wp2_with fail
       go_roundg (gk - 1)
       case measure => have := HJ2.out; omega
       case rel => exact ⟨m + 1, by go_num, ⟨by have := HJ2.out; omega⟩, HB9, ⟨fun i hi => by
        by_cases e : i = m
        ·rw [e, HY.out.2.2]; exact HP9.out (by trivial)
        ·exact HQ.out i (by omega)⟩⟩
      |go_wp2
       go_ret
       exact ⟨false, rfl, HB9.out, fun h => by cases h⟩
     ·refine ps_ 9 26 HT_ ?_
      refine done_ (done_of HT_.out (by kernel_rfl)) ?_
      first
      |go_wp2_with fail
       go_roundg (gk - 1)
       case measure => have := HJ2.out; omega
       case rel => exact ⟨m + 1, by go_num, ⟨by have := HJ2.out; omega⟩, HB9, ⟨fun i hi => by
        by_cases e : i = m
        ·rw [e, HY.out.2.2]; exact HP9.out (by trivial)
        ·exact HQ.out i (by omega)⟩⟩
      |go_wp2
       go_ret
       exact ⟨false, rfl, HB9.out, fun h => by cases h⟩
    ·have hme : m = j := by have := HJ2.out; omega
     go_wp2_with fail
     go_roundg (gq - 1)
     case measure => have := HJ.out; have := HGQ.out; omega
     case rel => exact ⟨j + 1, by go_num, ⟨by have := HJ.out; have := HGQ.out; omega⟩, HB, ⟨fun i k hk hi => by
      by_cases e : i = j
      ·rw [e, HX.out.2.2]; exact HQ.out k (by omega)
      ·exact HP.out i k hk (by omega)⟩⟩
  ·have hje : j = l.length := by have := HJ.out; omega
   go_wp2
   go_ret
   exact ⟨true, rfl, HB.out, fun _ i k hk hi => HP.out i k hk (by omega)⟩
def NotPost (w : World) (P : Prop) (e : Ending) (w' : World) : Prop := ∃ r, e = .returned (.bool r) ∧ Below w.heap.size w w' ∧ (r = false → P)
def cla7f.T : Bool × List (List Nat × List Nat) := (true, [([], []), ([0], [0]), ([1], [1]), ([2], [2]), ([3, 2], [2, 3]), ([2], [2]), ([4, 5, 2], [2, 4, 5]), ([6, 2], [2, 6]), ([2], [2]), ([2], [2]), ([7, 8, 9, 2, 2], [2, 7, 8, 9]), ([2, 10], [2, 10])])
def cla7f.B : List Nat := [0, 1, 3, 7, 15, 7, 63, 127, 7, 7, 1023, 2047]
theorem cla7f.tab : rtab .any (opsOf Tryz.f9 7) = cla7f.T := by kernel_rfl
theorem cla7f.bits : waitsOk cla7f.T.2 cla7f.B = true := by kernel_rfl
set_option maxRecDepth 100000 in
set_option maxHeartbeats 1600000 in
theorem clash_calls (d : Nat) : ∀ (a b c : S25) (ha : Fit d a) (hb : Fit d b) (hc : Fit d c) (w : World) (A3 : Option Addr) (c3 : Nat) (A4 : Option Addr) (c4 : Nat) (B3 : Option Addr) (d3 : Nat) (B4 : Option Addr) (d4 : Nat) (C3 : Option Addr) (e3 : Nat) (C4 : Option Addr) (e4 : Nat) (hK : nodeK w a A3 c3 A4 c4) (hK' : nodeK w b B3 d3 B4 d4) (hK2 : nodeK w c C3 e3 C4 e4),
  Calls Tryz.prog 9 #[nodeV a A3 c3 A4 c4, nodeV b B3 d3 B4 d4, nodeV c C3 e3 C4 e4] w (NotPost w (ClP d a b c)) := by
 induction d with
 | zero => intro a b c ha; exact ha.1.elim
 |succ d ih =>
  intro a b c ha hb hc w A3 c3 A4 c4 B3 d3 B4 d4 C3 e3 C4 e4 hK hK' hK2
  have hu := Tryz.underlying25
  have HK := Aside0.mk (And.intro hK (And.intro hK' hK2))
  have HX := Aside0.mk (And.intro ha (And.intro hb hc))
  have HG := Aside0.mk (node_rows hK)
  have IH := Aside0.mk ih
  have hbl := ha.len
  have hkl := ha.1.klen
  clear hK hK' hK2 ha hb hc ih
  go_enter Tryz.func9, Tryz.ntmps9
  go_wp2_with fail
  obtain ⟨w0, e0⟩ : ∃ w0, w0 = ((w.alloc (.cells #[.int .i64 a.f0, .string a.f1, .string a.f2, .slice A3 a.f3.length c3, .slice A4 a.f4.length c4] 25)).alloc (.cells #[.int .i64 b.f0, .string b.f1, .string b.f2, .slice B3 b.f3.length d3, .slice B4 b.f4.length d4] 25)).alloc (.cells #[.int .i64 c.f0, .string c.f1, .string c.f2, .slice C3 c.f3.length e3, .slice C4 c.f4.length e4] 25) := ⟨_, rfl⟩
  try rw [← e0]
  have H0 : Aside0 (Below w.heap.size w w0 ∧ w0.heap[w.heap.size]? = some (.cells #[.int .i64 a.f0, .string a.f1, .string a.f2, .slice A3 a.f3.length c3, .slice A4 a.f4.length c4] 25 (0, 0)) ∧ w0.heap[w.heap.size + 1]? = some (.cells #[.int .i64 b.f0, .string b.f1, .string b.f2, .slice B3 b.f3.length d3, .slice B4 b.f4.length d4] 25 (0, 0)) ∧ w0.heap[w.heap.size + 1 + 1]? = some (.cells #[.int .i64 c.f0, .string c.f1, .string c.f2, .slice C3 c.f3.length e3, .slice C4 c.f4.length e4] 25 (0, 0))) := ⟨by rw [e0]; exact (((Below.refl _ _).alloc (Nat.le_refl _) _).alloc (by simp) _).alloc (by simp; omega) _, by rw [e0]; exact (heap_old _ (by simp; omega)).trans ((heap_old _ (by simp)).trans (heap_at _ rfl)), by rw [e0]; exact (heap_old _ (by simp)).trans (heap_at _ (by simp)), by rw [e0]; exact heap_at _ (by simp)⟩
  clear e0
  go_loopg [16] a.f3.length (fun k i wr => ∃ j : Nat, i = .int .i64 j ∧ Aside0 (j ≤ a.f3.length ∧ k + j = a.f3.length) ∧ Aside0 (Below w.heap.size w wr ∧ wr.heap[w.heap.size]? = some (.cells #[.int .i64 a.f0, .string a.f1, .string a.f2, .slice A3 a.f3.length c3, .slice A4 a.f4.length c4] 25 (0, 0)) ∧ wr.heap[w.heap.size + 1]? = some (.cells #[.int .i64 b.f0, .string b.f1, .string b.f2, .slice B3 b.f3.length d3, .slice B4 b.f4.length d4] 25 (0, 0)) ∧ wr.heap[w.heap.size + 1 + 1]? = some (.cells #[.int .i64 c.f0, .string c.f1, .string c.f2, .slice C3 c.f3.length e3, .slice C4 c.f4.length e4] 25 (0, 0))) ∧
   Aside0 (∀ i, i < j → ∀ y, lk b (a.f3.getD i ByteArray.empty) = some y → ∃ z, lk c (a.f3.getD i ByteArray.empty) = some z ∧ ClP d (a.f4.getD i z25) y z))
  case atStart => exact ⟨0, rfl, ⟨by omega⟩, H0, ⟨fun i hi => absurd hi (Nat.not_lt_zero _)⟩⟩
  case round =>
   clear H0
   obtain ⟨j, rfl, HJ, HB, HP⟩ := hrel
   by_cases hj : j < a.f3.length
   ·have hj4 : j < a.f4.length := by omega
    generalize hkk : a.f3.getD j ByteArray.empty = kk
    generalize hyy : a.f4.getD j z25 = yy
    obtain ⟨ad3, ea, hs3⟩ := strAt HG.out.1 j hj
    obtain ⟨am, P3, p3, P4, p4, e6, hKp, fp0, fp1, fp2, fp3, fp4⟩ := nodeAt HG.out.2 j hj4 yy hyy
    rw [hkk] at hs3
    subst ea e6
    have hym : yy ∈ a.f4 := by rw [← hyy, List.getD_eq_getElem?_getD, List.getElem?_eq_getElem hj4]; exact List.getElem_mem _
    have HY := Aside0.mk (And.intro hkk (And.intro hyy (And.intro hKp (HX.out.1.item hym))))
    have HEL := Aside0.mk (And.intro fp0 (And.intro fp1 (And.intro fp2 (And.intro fp3 fp4))))
    have hs3' := (HB.out.1.cell (World.block_lt_of_cell? w _ hs3)).trans hs3
    have HXA := Aside0.mk HB.out.2.2.1
    obtain ⟨cr0, cr1, cr2, cr3, cr4, zr0, zr1, zr2, zr3, zr4⟩ := fc_ HXA.out
    clear hkk hyy hKp fp0 fp1 fp2 fp3 fp4 hs3 hym
    go_wp2_with fail
    refine (spField_calls b kk HX.out.2.1.1.klen wr B3 d3 B4 d4 (k25.K_below HB.out.1 HK.out.2.1)).mono ?_
    rintro e w3 ⟨hb3, D3, q3, D4, q4, rfl, hKs⟩
    obtain ⟨sf, hsf⟩ : ∃ sf, sf = spField b kk := ⟨_, rfl⟩
    obtain ⟨hs, hhs⟩ : ∃ hs, hs = has kk b := ⟨_, rfl⟩
    rw [← hsf, ← hhs]
    rw [← hsf] at hKs
    have HSF := Aside0.mk (And.intro hsf (And.intro hhs (k25.K_below hb3 hKs)))
    have HB3 := Aside0.mk (And.intro (HB.out.1.trans (hb3.mono HB.out.1.size)) (And.intro ((hb3.block _ (lt_of_block HB.out.2.1)).trans HB.out.2.1) (And.intro ((hb3.block _ (lt_of_block HB.out.2.2.1)).trans HB.out.2.2.1) ((hb3.block _ (lt_of_block HB.out.2.2.2)).trans HB.out.2.2.2))))
    clear hb3 hKs hsf hhs HXA cr0 cr1 cr2 cr3 cr4 zr0 zr1 zr2 zr3 zr4 hs3'
    obtain ⟨w4, e4⟩ : ∃ w4, w4 = w3.alloc (.cells #[.int .i64 sf.f0, .string sf.f1, .string sf.f2, .slice D3 sf.f3.length q3, .slice D4 sf.f4.length q4] 25) := ⟨_, rfl⟩
    obtain ⟨vb, hvb⟩ : ∃ vb, vb = w3.heap.size := ⟨_, rfl⟩
    have hb4 : Below w3.heap.size w3 w4 := by rw [e4]; exact (Below.refl _ _).alloc (Nat.le_refl _) _
    have hv4 : w4.heap[vb]? = some (.cells #[.int .i64 sf.f0, .string sf.f1, .string sf.f2, .slice D3 sf.f3.length q3, .slice D4 sf.f4.length q4] 25 (0, 0)) := by rw [e4]; exact heap_at _ hvb
    have HB4 := Aside0.mk (And.intro (HB3.out.1.trans (hb4.mono HB3.out.1.size)) (And.intro ((hb4.block _ (lt_of_block HB3.out.2.1)).trans HB3.out.2.1) (And.intro ((hb4.block _ (lt_of_block HB3.out.2.2.1)).trans HB3.out.2.2.1) ((hb4.block _ (lt_of_block HB3.out.2.2.2)).trans HB3.out.2.2.2))))
    have HV4 := Aside0.mk (And.intro hv4 (k25.K_below hb4 HSF.out.2.2))
    clear hb4 hv4 HB3
    have HXA := Aside0.mk HB4.out.2.2.2
    obtain ⟨cr0, cr1, cr2, cr3, cr4, zr0, zr1, zr2, zr3, zr4⟩ := fc_ HXA.out
    rw [e4] at cr0 cr1 cr2 cr3 cr4
    clear zr0 zr1 zr2 zr3 zr4
    cases hs
    ·go_wp2_with fail
     try rw [← e4]
     clear cr0 cr1 cr2 cr3 cr4
     go_roundg (gk - 1)
     case measure => have := HJ.out; omega
     case rel =>
      refine ⟨j + 1, by go_num, ⟨by have := HJ.out; omega⟩, by first | exact HB4 | (rw [← e4]; exact HB4), ⟨fun i hi y hy => ?_⟩⟩
      rcases Nat.lt_or_ge i j with h | h
      ·exact HP.out i h y hy
      ·have hij : i = j := by omega
       rw [hij, HY.out.1, (has_lk HX.out.2.1.1 kk).2 HSF.out.2.1.symm] at hy
       cases hy
    ·go_wp2_with fail
     rw [← e4, ← hvb]
     clear cr0 cr1 cr2 cr3 cr4 e4 hvb
     refine (spField_calls c kk HX.out.2.2.1.klen w4 C3 e3 C4 e4 (k25.K_below HB4.out.1 HK.out.2.2)).mono ?_
     rintro e w5 ⟨hb5, G3, g3, G4, g4, rfl, hKs⟩
     obtain ⟨sg, hsg⟩ : ∃ sg, sg = spField c kk := ⟨_, rfl⟩
     obtain ⟨ht, hht⟩ : ∃ ht, ht = has kk c := ⟨_, rfl⟩
     rw [← hsg, ← hht]
     rw [← hsg] at hKs
     have HSG := Aside0.mk (And.intro hsg (And.intro hht (k25.K_below hb5 hKs)))
     have HB5 := Aside0.mk (And.intro (HB4.out.1.trans (hb5.mono HB4.out.1.size)) (And.intro ((hb5.block _ (lt_of_block HB4.out.2.1)).trans HB4.out.2.1) (And.intro ((hb5.block _ (lt_of_block HB4.out.2.2.1)).trans HB4.out.2.2.1) ((hb5.block _ (lt_of_block HB4.out.2.2.2)).trans HB4.out.2.2.2))))
     have HV5 := Aside0.mk (And.intro ((hb5.block _ (lt_of_block HV4.out.1)).trans HV4.out.1) (k25.K_below hb5 HV4.out.2))
     clear hb5 hKs hsg hht HXA HV4 HB4
     go_wp2_with fail
     obtain ⟨w6, e6⟩ : ∃ w6, w6 = w5.alloc (.cells #[.int .i64 sg.f0, .string sg.f1, .string sg.f2, .slice G3 sg.f3.length g3, .slice G4 sg.f4.length g4] 25) := ⟨_, rfl⟩
     rw [← e6]
     obtain ⟨ub, hub⟩ : ∃ ub, ub = w5.heap.size := ⟨_, rfl⟩
     rw [← hub]
     have hb6 : Below w5.heap.size w5 w6 := by rw [e6]; exact (Below.refl _ _).alloc (Nat.le_refl _) _
     have hv6 : w6.heap[ub]? = some (.cells #[.int .i64 sg.f0, .string sg.f1, .string sg.f2, .slice G3 sg.f3.length g3, .slice G4 sg.f4.length g4] 25 (0, 0)) := by rw [e6]; exact heap_at _ hub
     have HB6 := Aside0.mk (And.intro (HB5.out.1.trans (hb6.mono HB5.out.1.size)) (And.intro ((hb6.block _ (lt_of_block HB5.out.2.1)).trans HB5.out.2.1) (And.intro ((hb6.block _ (lt_of_block HB5.out.2.2.1)).trans HB5.out.2.2.1) ((hb6.block _ (lt_of_block HB5.out.2.2.2)).trans HB5.out.2.2.2))))
     have HV6 := Aside0.mk (And.intro ((hb6.block _ (lt_of_block HV5.out.1)).trans HV5.out.1) (And.intro (k25.K_below hb6 HV5.out.2) (And.intro hv6 (k25.K_below hb6 HSG.out.2.2))))
     clear hb6 hv6 e6 hub HB5 HV5
     cases ht
     ·clear HEL
      refine start_ (n := 12) (S := fun w' => w'.cell? ⟨vb, 0, none⟩ = some (.int .i64 sf.f0)) (ds := []) #[false, false, false, false, false, false, false, false, false, false, false, false] (by kernel_rfl) rfl rfl (by rw [cell_of_block (w := w6.drew) HV6.out.1]; rfl) (fun hHeld => ?_)
      refine with_tabW (T := cla7f.T) (B := cla7f.B) cla7f.tab cla7f.bits (fun HT_ HW_ => ?_)
      refine ps_ 0 35 HT_ ?_
      refine ps_ 1 36 HT_ ?_
      refine ps_ 2 37 HT_ ?_
      refine us_ 3 38 HT_ ?_
      refine us_ 4 39 HT_ ?_
      refine us_ 5 40 HT_ ?_
      refine us_ 6 41 HT_ ?_
      refine us_ 7 42 HT_ ?_
      refine us_ 8 43 HT_ ?_
      refine us_ 9 44 HT_ ?_
      refine us_ 10 45 HT_ ?_
      refine ps_ 11 46 HT_ ?_
      refine done_ (done_of HT_.out (by kernel_rfl)) ?_
      go_wp2
      go_ret
      exact ⟨true, rfl, HB6.out.1.drew, fun h => by cases h⟩
     ·have HS : Aside0 (∀ w', Below w6.heap.size w6 w' → w'.cell? ⟨w.heap.size, 4, none⟩ = some (.slice (some am) a.f4.length c4) ∧ w'.cell? (am.add (j * 5)) = some (.int .i64 yy.f0) ∧ w'.cell? ⟨(am.add (j * 5)).block, (am.add (j * 5)).off + 1, none⟩ = some (.string yy.f1) ∧ w'.cell? ⟨(am.add (j * 5)).block, (am.add (j * 5)).off + 2, none⟩ = some (.string yy.f2) ∧ w'.cell? ⟨(am.add (j * 5)).block, (am.add (j * 5)).off + 3, none⟩ = some (.slice P3 yy.f3.length p3) ∧ w'.cell? ⟨(am.add (j * 5)).block, (am.add (j * 5)).off + 4, none⟩ = some (.slice P4 yy.f4.length p4) ∧ w'.cell? ⟨vb, 0, none⟩ = some (.int .i64 sf.f0) ∧ w'.cell? ⟨vb, 1, none⟩ = some (.string sf.f1) ∧ w'.cell? ⟨vb, 2, none⟩ = some (.string sf.f2) ∧ w'.cell? ⟨vb, 3, none⟩ = some (.slice D3 sf.f3.length q3) ∧ w'.cell? ⟨vb, 4, none⟩ = some (.slice D4 sf.f4.length q4) ∧ w'.cell? ⟨ub, 0, none⟩ = some (.int .i64 sg.f0) ∧ w'.cell? ⟨ub, 1, none⟩ = some (.string sg.f1) ∧ w'.cell? ⟨ub, 2, none⟩ = some (.string sg.f2) ∧ w'.cell? ⟨ub, 3, none⟩ = some (.slice G3 sg.f3.length g3) ∧ w'.cell? ⟨ub, 4, none⟩ = some (.slice G4 sg.f4.length g4)) := ⟨fun w' hc => by
       have old : ∀ {a : Addr} {v : Value}, w.cell? a = some v → w'.cell? a = some v := fun {a v} h => by
        have h1 := (HB6.out.1.cell (World.block_lt_of_cell? w a h)).trans h
        exact (hc.cell (World.block_lt_of_cell? _ _ h1)).trans h1
       have hx := Aside0.mk ((hc.block _ (lt_of_block HV6.out.1)).trans HV6.out.1)
       have hz := Aside0.mk ((hc.block _ (lt_of_block HV6.out.2.2.1)).trans HV6.out.2.2.1)
       have hy := (hc.block _ (lt_of_block HB6.out.2.1)).trans HB6.out.2.1
       obtain ⟨cv0, cv1, cv2, cv3, cv4, zv0, zv1, zv2, zv3, zv4⟩ := fc_ hx.out
       obtain ⟨cu0, cu1, cu2, cu3, cu4, zu0, zu1, zu2, zu3, zu4⟩ := fc_ hz.out
       exact ⟨by rw [cell_of_block hy]; rfl, old HEL.out.1, old HEL.out.2.1, old HEL.out.2.2.1, old HEL.out.2.2.2.1, old HEL.out.2.2.2.2, cv0, cv1, cv2, cv3, cv4, cu0, cu1, cu2, cu3, cu4⟩⟩
      refine start_ (n := 12) (S := fun w' => w'.cell? ⟨w.heap.size, 4, none⟩ = some (.slice (some am) a.f4.length c4) ∧ w'.cell? (am.add (j * 5)) = some (.int .i64 yy.f0) ∧ w'.cell? ⟨(am.add (j * 5)).block, (am.add (j * 5)).off + 1, none⟩ = some (.string yy.f1) ∧ w'.cell? ⟨(am.add (j * 5)).block, (am.add (j * 5)).off + 2, none⟩ = some (.string yy.f2) ∧ w'.cell? ⟨(am.add (j * 5)).block, (am.add (j * 5)).off + 3, none⟩ = some (.slice P3 yy.f3.length p3) ∧ w'.cell? ⟨(am.add (j * 5)).block, (am.add (j * 5)).off + 4, none⟩ = some (.slice P4 yy.f4.length p4) ∧ w'.cell? ⟨vb, 0, none⟩ = some (.int .i64 sf.f0) ∧ w'.cell? ⟨vb, 1, none⟩ = some (.string sf.f1) ∧ w'.cell? ⟨vb, 2, none⟩ = some (.string sf.f2) ∧ w'.cell? ⟨vb, 3, none⟩ = some (.slice D3 sf.f3.length q3) ∧ w'.cell? ⟨vb, 4, none⟩ = some (.slice D4 sf.f4.length q4) ∧ w'.cell? ⟨ub, 0, none⟩ = some (.int .i64 sg.f0) ∧ w'.cell? ⟨ub, 1, none⟩ = some (.string sg.f1) ∧ w'.cell? ⟨ub, 2, none⟩ = some (.string sg.f2) ∧ w'.cell? ⟨ub, 3, none⟩ = some (.slice G3 sg.f3.length g3) ∧ w'.cell? ⟨ub, 4, none⟩ = some (.slice G4 sg.f4.length g4)) (ds := [10]) #[false, false, false, false, false, false, false, false, false, false, false, false] (by kernel_rfl) rfl rfl (HS.out _ (Below.refl _ _).drew) (fun hHeld => ?_)
      refine with_tabW (T := cla7f.T) (B := cla7f.B) cla7f.tab cla7f.bits (fun HT_ HW_ => ?_)
      refine ps_ 0 35 HT_ ?_
      refine ps_ 1 36 HT_ ?_
      refine ps_ 2 37 HT_ ?_
      refine ps_ 3 38 HT_ ?_
      refine ps_ 5 40 HT_ ?_
      refine ts_ 4 39 HT_ HW_ hHeld ?_
      refine ps_ 6 41 HT_ ?_
      refine ts_ 7 42 HT_ HW_ hHeld ?_
      refine ts_ 8 43 HT_ HW_ hHeld ?_
      refine ts_ 9 44 HT_ HW_ hHeld ?_
      refine last_ (i := 10) (N := (some 45)) #[true, true, true, true, true, true, true, true, true, true, true, false] rfl rfl (one_of HT_.out (by kernel_rfl)) (by decide) (fun K hK => ?_)
      refine goes_ Tryz.func9 (by kernel_rfl) rfl #[nodeV yy P3 p3 P4 p4, nodeV sf D3 q3 D4 q4, nodeV sg G3 g3 G4 g4] (by rfl) rfl rfl (by simp only [List.map_toArray, List.map_cons, List.map_nil]; rfl) ?_
      have hbd : Below w.heap.size w w6.drew := HB6.out.1.drew
      refine (IH.out yy sf sg HY.out.2.2.2 (by rw [HSF.out.1]; exact HX.out.2.1.sub HSF.out.2.1.symm) (by rw [HSG.out.1]; exact HX.out.2.2.sub HSG.out.2.1.symm) w6.drew P3 p3 P4 p4 D3 q3 D4 q4 G3 g3 G4 g4 (k25.K_below hbd HY.out.2.2.1) (k25.K_below (Below.refl _ _).drew HV6.out.2.1) (k25.K_below (Below.refl _ _).drew HV6.out.2.2.2)).mono ?_
      rintro e w9 ⟨r, rfl, hb9, hr⟩
      refine ⟨_, rfl, ?_⟩
      have hb9' : Below w6.heap.size w6 w9 := (Below.refl _ _).drew.trans hb9
      refine hK.out _ _ ?_
      have HB9 := Aside0.mk (And.intro (HB6.out.1.trans (hb9'.mono HB6.out.1.size)) (And.intro ((hb9'.block _ (lt_of_block HB6.out.2.1)).trans HB6.out.2.1) (And.intro ((hb9'.block _ (lt_of_block HB6.out.2.2.1)).trans HB6.out.2.2.1) ((hb9'.block _ (lt_of_block HB6.out.2.2.2)).trans HB6.out.2.2.2))))
      have HR := Aside0.mk hr
      clear hb9 hb9' hbd hr
      clear hK K
      refine ns_ ?_
      refine ps_ 11 46 HT_ ?_
      refine done_ (done_of HT_.out (by kernel_rfl)) ?_
      cases r
      rotate_left
      ·go_wp2
       go_ret
       exact ⟨true, rfl, HB9.out.1, fun h => by cases h⟩
      ·go_wp2_with fail
       go_roundg (gk - 1)
       case measure => have := HJ.out; omega
       case rel =>
        refine ⟨j + 1, by go_num, ⟨by have := HJ.out; omega⟩, HB9, ⟨fun i hi y hy => ?_⟩⟩
        rcases Nat.lt_or_ge i j with h | h
        ·exact HP.out i h y hy
        ·have hij : i = j := by omega
         rw [hij, HY.out.1, (has_lk HX.out.2.1.1 kk).1 HSF.out.2.1.symm] at hy
         rw [hij, HY.out.1, HY.out.2.1, ← Option.some.inj hy, ← HSF.out.1]
         exact ⟨sg, by rw [HSG.out.1]; exact (has_lk HX.out.2.2.1 kk).1 HSG.out.2.1.symm, HR.out (by simp)⟩
   ·have hje : j = a.f3.length := by have := HJ.out; omega
    have HP2 : Aside0 (ClP (d + 1) a b c) := ⟨fun k x y hx hy => keys_all (P := fun k x => ∀ y, lk b k = some y → ∃ z, lk c k = some z ∧ ClP d x y z) HX.out.1.1.mpi (fun i hi => HP.out i (by omega)) k x hx y hy⟩
    clear hje HP
    go_wp2
    go_ret
    exact ⟨false, rfl, HB.out.1, fun _ => HP2.out⟩
end Go.Proofs.YtkpdkoafngjflaaGreat
