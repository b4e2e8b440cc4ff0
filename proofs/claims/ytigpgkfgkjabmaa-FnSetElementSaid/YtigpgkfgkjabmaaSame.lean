/-
  spec.Same: a tree is the same as itself, wherever it lies.
-/
import Derived.Test.YtigpgkfgkjabmaaLaw
namespace Go.Proofs.Ytigpgkfgkjabmaa
open Go.RowKit Go.Proofs.YtigpgkfgkjabmaaW.PrintWords Go.Proofs.YtigpgkfgkjabmaaW.PrintLast Go.Proofs.Ytigpgkfgkjabmaa.PFnFields
set_option linter.unusedVariables false
set_option linter.unusedSimpArgs false

def same8.T : Bool × List (List Nat × List Nat) := (true, [([], []), ([0], [0]), ([], []), ([2], [2]), ([], []), ([3, 4], [3, 4]), ([5], [5]), ([1, 6], [1, 6]), ([7, 7, 0, 1, 2, 3, 4, 5, 6, 7], [7])])
def same8.B : List Nat := [0, 1, 0, 4, 0, 28, 60, 127, 255]
theorem same8.tab : rtab .any (opsOf Try.f19 8) = same8.T := by kernel_rfl
theorem same8.bits : waitsOk same8.T.2 same8.B = true := by kernel_rfl
def same11.T : Bool × List (List Nat × List Nat) := (true, [([], []), ([0], [0]), ([], []), ([1, 2], [1, 2]), ([3], [3]), ([], []), ([5], [5]), ([], []), ([6, 7], [6, 7]), ([8], [8]), ([], []), ([4, 9, 10], [4, 9, 10]), ([11], [11])])
def same11.B : List Nat := [0, 1, 0, 7, 15, 0, 32, 0, 224, 480, 0, 2047, 4095]
theorem same11.tab : rtab .any (opsOf Try.f19 11) = same11.T := by kernel_rfl
theorem same11.bits : waitsOk same11.T.2 same11.B = true := by kernel_rfl
set_option maxRecDepth 100000 in
set_option maxHeartbeats 1600000 in
theorem sameD_calls (b : Bool) (d : Nat) : ∀ (x : S25) (hx : Sm d x) (w : World) (A3 : Option Addr) (c3 : Nat) (A4 : Option Addr) (c4 : Nat) (B3 : Option Addr) (d3 : Nat) (B4 : Option Addr) (d4 : Nat)
    (hK : k25.K w x [.int .i64 x.f0, .string x.f1, .string x.f2, .slice A3 x.f3.length c3, .slice A4 x.f4.length c4])
    (hK' : k25.K w x [.int .i64 x.f0, .string x.f1, .string x.f2, .slice B3 x.f3.length d3, .slice B4 x.f4.length d4]),
    Calls Try.prog 19 #[.agg #[.int .i64 x.f0, .string x.f1, .string x.f2, .slice A3 x.f3.length c3, .slice A4 x.f4.length c4], .agg #[.int .i64 x.f0, .string x.f1, .string x.f2, .slice B3 x.f3.length d3, .slice B4 x.f4.length d4], .bool b] w
      fun e w' => e = .returned (.bool true) ∧ Below w.heap.size w w' := by
  induction d with
  | zero => intro x hx; exact hx.elim
  | succ d ih =>
    intro x hx w A3 c3 A4 c4 B3 d3 B4 d4 hK hK'
    have hu := Try.underlying25
    obtain ⟨g3, g4⟩ : ∃ q : Kd.string.C w A3 x.f3.length x.f3, k25.C w A4 x.f4.length x.f4 := by
      obtain ⟨_, _, _, _, he, l3, g3, l4, g4⟩ := k25_open hK
      simp only [List.cons.injEq, Value.slice.injEq, true_and, and_true] at he
      obtain ⟨⟨rfl, rfl⟩, rfl, rfl⟩ := he
      exact ⟨g3, g4⟩
    obtain ⟨g3', l3', g4'⟩ : ∃ q : Kd.string.C w B3 x.f3.length x.f3, x.f3.length ≤ d3 ∧ k25.C w B4 x.f4.length x.f4 := by
      obtain ⟨_, _, _, _, he, l3, g3, l4, g4⟩ := k25_open hK'
      simp only [List.cons.injEq, Value.slice.injEq, true_and, and_true] at he
      obtain ⟨⟨rfl, rfl⟩, rfl, rfl⟩ := he
      exact ⟨g3, l3, g4⟩
    have HG := Aside0.mk (And.intro g3 (And.intro g4 (And.intro g3' (And.intro l3' g4'))))
    have HX := Aside0.mk hx
    have IH := Aside0.mk ih
    have hn4 : x.f4.length ≤ 9223372036854775807 := g4.2.1
    clear hK hK' g3 g4 g3' g4' l3' hx ih
    by_cases h2 : x.f0 = 2
    · have hb1 : (x.f0 == 1) = false := by simp; omega
      have hb2 : (x.f0 == 2) = true := by simpa using h2
      have H2 := Aside0.mk (HX.out.2.2.1 h2)
      clear h2
      go_enter Try.func19, Try.ntmps19
      go_wp2_with fail
      obtain ⟨w0, e0⟩ : ∃ w0, w0 = (w.alloc (.cells #[.int .i64 x.f0, .string x.f1, .string x.f2, .slice A3 x.f3.length c3, .slice A4 x.f4.length c4] 25)).alloc (.cells #[.int .i64 x.f0, .string x.f1, .string x.f2, .slice B3 x.f3.length d3, .slice B4 x.f4.length d4] 25) := ⟨_, rfl⟩
      try rw [← e0]
      have hb0 : Below w.heap.size w w0 := by rw [e0]; exact ((Below.refl _ _).alloc (Nat.le_refl _) _).alloc (by simp) _
      have q0 : w0.heap[w.heap.size]? = some (.cells #[.int .i64 x.f0, .string x.f1, .string x.f2, .slice A3 x.f3.length c3, .slice A4 x.f4.length c4] 25 (0, 0)) := by rw [e0]; exact (heap_old _ (by simp)).trans (heap_at _ rfl)
      have q1 : w0.heap[w.heap.size + 1]? = some (.cells #[.int .i64 x.f0, .string x.f1, .string x.f2, .slice B3 x.f3.length d3, .slice B4 x.f4.length d4] 25 (0, 0)) := by rw [e0]; exact heap_at _ (by simp)
      have H0 := Aside0.mk (And.intro hb0 (And.intro q0 q1))
      clear hb0 q0 q1 e0
      go_loopg [54] x.f4.length (fun k i wr => ∃ j : Nat, i = .int .i64 j ∧ Aside0 (j ≤ x.f4.length ∧ k + j = x.f4.length) ∧ Aside0 (Below w.heap.size w wr ∧ wr.heap[w.heap.size]? = some (.cells #[.int .i64 x.f0, .string x.f1, .string x.f2, .slice A3 x.f3.length c3, .slice A4 x.f4.length c4] 25 (0, 0)) ∧ wr.heap[w.heap.size + 1]? = some (.cells #[.int .i64 x.f0, .string x.f1, .string x.f2, .slice B3 x.f3.length d3, .slice B4 x.f4.length d4] 25 (0, 0))))
      case atStart => exact ⟨0, rfl, ⟨by omega⟩, H0⟩
      case round =>
        clear H0
        obtain ⟨j, rfl, HJ, HB⟩ := hrel
        have cx0 := (cell_of_block (i := 0) HB.out.2.1).trans (show _ = some _ from rfl)
        by_cases hj : j < x.f4.length
        · have hj3 : j < x.f3.length := by have := H2.out.1; omega
          generalize hyy : x.f4.getD j z25 = yy
          obtain ⟨am, P3, p3, P4, p4, e6, hKp, fp0, fp1, fp2, fp3, fp4⟩ := nodeAt HG.out.2.1 j hj yy hyy
          obtain ⟨an, Q3, q3, Q4, q4, e7, hKq, fq0, fq1, fq2, fq3, fq4⟩ := nodeAt HG.out.2.2.2.2 j hj yy hyy
          subst e6 e7
          have hym : yy ∈ x.f4 := by rw [← hyy, List.getD_eq_getElem?_getD, List.getElem?_eq_getElem hj]; exact List.getElem_mem _
          have HSB := Aside0.mk (And.intro (HX.out.2.2.2 yy hym) (And.intro hKp hKq))
          have HEL := Aside0.mk (And.intro fp0 (And.intro fp1 (And.intro fp2 (And.intro fp3 (And.intro fp4 (And.intro fq0 (And.intro fq1 (And.intro fq2 (And.intro fq3 fq4)))))))))
          clear hyy hKp fp0 fp1 fp2 fp3 fp4 hKq fq0 fq1 fq2 fq3 fq4 hym
          generalize hkk : x.f3.getD j ByteArray.empty = kk
          obtain ⟨ad3, ea, hs3⟩ := strAt HG.out.1 j hj3
          rw [hkk] at hs3
          subst ea
          have hke : kk = x.f3[j] := by rw [← hkk, List.getD_eq_getElem?_getD, List.getElem?_eq_getElem hj3]; rfl
          have hpl : plc x.f3 kk = (j : Int) := by rw [hke]; exact plc_nodup H2.out.2 j hj3
          have HP := Aside0.mk (And.intro hpl hs3)
          clear hkk hs3 hke hpl
          go_wp2_with fail
          have HS8 : Aside0 (wr.drew.cell? ⟨w.heap.size + 1, 3, none⟩ = some (.slice B3 x.f3.length d3) ∧ wr.drew.cell? ⟨w.heap.size, 3, none⟩ = some (.slice (some ad3) x.f3.length c3) ∧ wr.drew.cell? (ad3.add j) = some (.string kk)) := ⟨by
            refine ⟨?_, ?_, ?_⟩
            · rw [cell_of_block (w := wr.drew) HB.out.2.2]; rfl
            · rw [cell_of_block (w := wr.drew) HB.out.2.1]; rfl
            · exact (HB.out.1.cell (World.block_lt_of_cell? w _ HP.out.2)).trans HP.out.2⟩
          refine start_ (n := 9) (S := fun w' => w'.cell? ⟨w.heap.size + 1, 3, none⟩ = some (.slice B3 x.f3.length d3) ∧ w'.cell? ⟨w.heap.size, 3, none⟩ = some (.slice (some ad3) x.f3.length c3) ∧ w'.cell? (ad3.add j) = some (.string kk)) (ds := [7]) #[false, false, false, false, false, false, false, false, false] (by kernel_rfl) rfl rfl HS8.out (fun hHeld => ?_)
          refine with_tabW (T := same8.T) (B := same8.B) same8.tab same8.bits (fun HT_ HW_ => ?_)
          refine pure_ (i := 0) (N := (some 61)) (v := ?_) (a' := ?_) #[true, false, false, false, false, false, false, false, false] rfl rfl (any_of HT_.out (by kernel_rfl)) (fun _ _ _ h => h) (Or.inl ⟨by rfl, ?_⟩) ?_ ?_
          rotate_left
          · intro w'
            go_simp
            with_reducible rfl
          rotate_left
          · simp only [Act.put, List.setIfInBounds_toArray, List.set_cons_zero, List.set_cons_succ, i64_w, i32_w]
            rfl
          refine pure_ (i := 2) (N := (some 63)) (v := ?_) (a' := ?_) #[true, false, true, false, false, false, false, false, false] rfl rfl (any_of HT_.out (by kernel_rfl)) (fun _ _ _ h => h) (Or.inl ⟨by rfl, ?_⟩) ?_ ?_
          rotate_left
          · intro w'
            go_simp
            with_reducible rfl
          rotate_left
          · simp only [Act.put, List.setIfInBounds_toArray, List.set_cons_zero, List.set_cons_succ, i64_w, i32_w]
            rfl
          refine pure_ (i := 4) (N := (some 65)) (v := ?_) (a' := ?_) #[true, false, true, false, true, false, false, false, false] rfl rfl (any_of HT_.out (by kernel_rfl)) (fun _ _ _ h => h) (Or.inl ⟨by rfl, ?_⟩) ?_ ?_
          rotate_left
          · intro w'
            go_simp
            with_reducible rfl
          rotate_left
          · simp only [Act.put, List.setIfInBounds_toArray, List.set_cons_zero, List.set_cons_succ, i64_w, i32_w]
            rfl
          refine take_ (i := 1) (N := (some 62)) (v := ?_) (a' := ?_) #[true, true, true, false, true, false, false, false, false] rfl rfl (take_ofW HT_.out HW_.out (by kernel_rfl)) (fun _ _ _ h => h) (Or.inl ⟨by rfl, ?_⟩) hHeld ?_ ?_
          rotate_left
          · rintro w' ⟨s0, s1, s2⟩
            go_simp
            with_reducible rfl
          rotate_left
          · simp only [Act.put, List.setIfInBounds_toArray, List.set_cons_zero, List.set_cons_succ, i64_w, i32_w]
            rfl
          refine take_ (i := 3) (N := (some 64)) (v := ?_) (a' := ?_) #[true, true, true, true, true, false, false, false, false] rfl rfl (take_ofW HT_.out HW_.out (by kernel_rfl)) (fun _ _ _ h => h) (Or.inl ⟨by rfl, ?_⟩) hHeld ?_ ?_
          rotate_left
          · rintro w' ⟨s0, s1, s2⟩
            go_simp
            with_reducible rfl
          rotate_left
          · simp only [Act.put, List.setIfInBounds_toArray, List.set_cons_zero, List.set_cons_succ, i64_w, i32_w]
            rfl
          refine pure_ (i := 5) (N := (some 66)) (v := ?_) (a' := ?_) #[true, true, true, true, true, true, false, false, false] rfl rfl (any_of HT_.out (by kernel_rfl)) (fun _ _ _ h => h) (Or.inl ⟨by rfl, ?_⟩) ?_ ?_
          rotate_left
          · intro w'
            go_simp
            with_reducible rfl
          rotate_left
          · simp only [Act.put, List.setIfInBounds_toArray, List.set_cons_zero, List.set_cons_succ, i64_w, i32_w]
            rfl
          refine take_ (i := 6) (N := (some 67)) (v := ?_) (a' := ?_) #[true, true, true, true, true, true, true, false, false] rfl rfl (take_ofW HT_.out HW_.out (by kernel_rfl)) (fun _ _ _ h => h) (Or.inl ⟨by rfl, ?_⟩) hHeld ?_ ?_
          rotate_left
          · rintro w' ⟨s0, s1, s2⟩
            go_simp
            with_reducible rfl
          rotate_left
          · simp only [Act.put, List.setIfInBounds_toArray, List.set_cons_zero, List.set_cons_succ, i64_w, i32_w]
            rfl
          refine last_ (i := 7) (N := (some 68)) #[true, true, true, true, true, true, true, true, false] rfl rfl (one_of HT_.out (by kernel_rfl)) (by decide) (fun K hK => ?_)
          refine goes_ Try.func33 (by kernel_rfl) rfl #[.slice B3 x.f3.length d3, .string kk] (by rfl) rfl rfl (by simp only [List.map_toArray, List.map_cons, List.map_nil]; rfl) ?_
          refine (place_calls wr.drew B3 d3 x.f3 kk (Kd.C_below HG.out.2.2.1 HB.out.1.drew) HG.out.2.2.2.1).mono ?_
          rintro e w8 ⟨rfl, ⟨⟨n1, rfl⟩⟩⟩
          rw [HP.out.1]
          have hb8 : Below wr.heap.size wr (wr.drew.drewN n1) := pw_below_drewN (Below.refl _ _).drew n1
          generalize wr.drew.drewN n1 = w8 at hb8 ⊢
          have HB8 := Aside0.mk (And.intro (HB.out.1.trans (hb8.mono HB.out.1.size)) (And.intro ((hb8.block _ (lt_of_block HB.out.2.1)).trans HB.out.2.1) ((hb8.block _ (lt_of_block HB.out.2.2)).trans HB.out.2.2)))
          clear hb8
          refine ⟨_, rfl, ?_⟩
          refine hK.out _ _ ?_
          clear hK K
          refine norm_ (a' := ?_) ?_ ?_
          rotate_left
          · first | (simp only [Act.put, List.setIfInBounds_toArray, List.set_cons_zero, List.set_cons_succ, i64_w, i32_w]; rfl) | rfl
          refine pure_ (i := 8) (N := (some 8)) (v := ?_) (a' := ?_) #[true, true, true, true, true, true, true, true, true] rfl rfl (any_of HT_.out (by kernel_rfl)) (fun _ _ _ h => h) (Or.inl ⟨by rfl, ?_⟩) ?_ ?_
          rotate_left
          · intro w'
            go_simp
            with_reducible rfl
          rotate_left
          · simp only [Act.put, List.setIfInBounds_toArray, List.set_cons_zero, List.set_cons_succ, i64_w, i32_w]
            rfl
          refine done_ (done_of HT_.out (by kernel_rfl)) ?_
          clear cx0
          go_wp2_with fail
          have HS11 : Aside0 (∀ w', Below w8.heap.size w8 w' → w'.cell? ⟨w.heap.size, 4, none⟩ = some (.slice (some am) x.f4.length c4) ∧ w'.cell? ⟨w.heap.size + 1, 4, none⟩ = some (.slice (some an) x.f4.length d4) ∧ w'.cell? (am.add (j * 5)) = some (.int .i64 yy.f0) ∧ w'.cell? ⟨(am.add (j * 5)).block, (am.add (j * 5)).off + 1, none⟩ = some (.string yy.f1) ∧ w'.cell? ⟨(am.add (j * 5)).block, (am.add (j * 5)).off + 2, none⟩ = some (.string yy.f2) ∧ w'.cell? ⟨(am.add (j * 5)).block, (am.add (j * 5)).off + 3, none⟩ = some (.slice P3 yy.f3.length p3) ∧ w'.cell? ⟨(am.add (j * 5)).block, (am.add (j * 5)).off + 4, none⟩ = some (.slice P4 yy.f4.length p4) ∧ w'.cell? (an.add (j * 5)) = some (.int .i64 yy.f0) ∧ w'.cell? ⟨(an.add (j * 5)).block, (an.add (j * 5)).off + 1, none⟩ = some (.string yy.f1) ∧ w'.cell? ⟨(an.add (j * 5)).block, (an.add (j * 5)).off + 2, none⟩ = some (.string yy.f2) ∧ w'.cell? ⟨(an.add (j * 5)).block, (an.add (j * 5)).off + 3, none⟩ = some (.slice Q3 yy.f3.length q3) ∧ w'.cell? ⟨(an.add (j * 5)).block, (an.add (j * 5)).off + 4, none⟩ = some (.slice Q4 yy.f4.length q4)) := ⟨fun w' hc => by
            have old : ∀ {a : Addr} {v : Value}, w.cell? a = some v → w'.cell? a = some v := fun {a v} h => by
              have h1 := (HB8.out.1.cell (World.block_lt_of_cell? w a h)).trans h
              exact (hc.cell (World.block_lt_of_cell? _ _ h1)).trans h1
            have hx := (hc.block _ (lt_of_block HB8.out.2.1)).trans HB8.out.2.1
            have hy := (hc.block _ (lt_of_block HB8.out.2.2)).trans HB8.out.2.2
            exact ⟨by rw [cell_of_block hx]; rfl, by rw [cell_of_block hy]; rfl, old HEL.out.1, old HEL.out.2.1, old HEL.out.2.2.1, old HEL.out.2.2.2.1, old HEL.out.2.2.2.2.1, old HEL.out.2.2.2.2.2.1, old HEL.out.2.2.2.2.2.2.1, old HEL.out.2.2.2.2.2.2.2.1, old HEL.out.2.2.2.2.2.2.2.2.1, old HEL.out.2.2.2.2.2.2.2.2.2⟩⟩
          refine start_ (n := 13) (S := fun w' => w'.cell? ⟨w.heap.size, 4, none⟩ = some (.slice (some am) x.f4.length c4) ∧ w'.cell? ⟨w.heap.size + 1, 4, none⟩ = some (.slice (some an) x.f4.length d4) ∧ w'.cell? (am.add (j * 5)) = some (.int .i64 yy.f0) ∧ w'.cell? ⟨(am.add (j * 5)).block, (am.add (j * 5)).off + 1, none⟩ = some (.string yy.f1) ∧ w'.cell? ⟨(am.add (j * 5)).block, (am.add (j * 5)).off + 2, none⟩ = some (.string yy.f2) ∧ w'.cell? ⟨(am.add (j * 5)).block, (am.add (j * 5)).off + 3, none⟩ = some (.slice P3 yy.f3.length p3) ∧ w'.cell? ⟨(am.add (j * 5)).block, (am.add (j * 5)).off + 4, none⟩ = some (.slice P4 yy.f4.length p4) ∧ w'.cell? (an.add (j * 5)) = some (.int .i64 yy.f0) ∧ w'.cell? ⟨(an.add (j * 5)).block, (an.add (j * 5)).off + 1, none⟩ = some (.string yy.f1) ∧ w'.cell? ⟨(an.add (j * 5)).block, (an.add (j * 5)).off + 2, none⟩ = some (.string yy.f2) ∧ w'.cell? ⟨(an.add (j * 5)).block, (an.add (j * 5)).off + 3, none⟩ = some (.slice Q3 yy.f3.length q3) ∧ w'.cell? ⟨(an.add (j * 5)).block, (an.add (j * 5)).off + 4, none⟩ = some (.slice Q4 yy.f4.length q4)) (ds := [11]) #[false, false, false, false, false, false, false, false, false, false, false, false, false] (by kernel_rfl) rfl rfl (HS11.out _ (Below.refl _ _).drew) (fun hHeld => ?_)
          refine with_tabW (T := same11.T) (B := same11.B) same11.tab same11.bits (fun HT_ HW_ => ?_)
          refine pure_ (i := 0) (N := (some 80)) (v := ?_) (a' := ?_) #[true, false, false, false, false, false, false, false, false, false, false, false, false] rfl rfl (any_of HT_.out (by kernel_rfl)) (fun _ _ _ h => h) (Or.inl ⟨by rfl, ?_⟩) ?_ ?_
          rotate_left
          · intro w'
            go_simp
            with_reducible rfl
          rotate_left
          · simp only [Act.put, List.setIfInBounds_toArray, List.set_cons_zero, List.set_cons_succ, i64_w, i32_w]
            rfl
          refine pure_ (i := 2) (N := (some 82)) (v := ?_) (a' := ?_) #[true, false, true, false, false, false, false, false, false, false, false, false, false] rfl rfl (any_of HT_.out (by kernel_rfl)) (fun _ _ _ h => h) (Or.inl ⟨by rfl, ?_⟩) ?_ ?_
          rotate_left
          · intro w'
            go_simp
            with_reducible rfl
          rotate_left
          · simp only [Act.put, List.setIfInBounds_toArray, List.set_cons_zero, List.set_cons_succ, i64_w, i32_w]
            rfl
          refine pure_ (i := 5) (N := (some 85)) (v := ?_) (a' := ?_) #[true, false, true, false, false, true, false, false, false, false, false, false, false] rfl rfl (any_of HT_.out (by kernel_rfl)) (fun _ _ _ h => h) (Or.inl ⟨by rfl, ?_⟩) ?_ ?_
          rotate_left
          · intro w'
            go_simp
            with_reducible rfl
          rotate_left
          · simp only [Act.put, List.setIfInBounds_toArray, List.set_cons_zero, List.set_cons_succ, i64_w, i32_w]
            rfl
          refine pure_ (i := 7) (N := (some 87)) (v := ?_) (a' := ?_) #[true, false, true, false, false, true, false, true, false, false, false, false, false] rfl rfl (any_of HT_.out (by kernel_rfl)) (fun _ _ _ h => h) (Or.inl ⟨by rfl, ?_⟩) ?_ ?_
          rotate_left
          · intro w'
            go_simp
            with_reducible rfl
          rotate_left
          · simp only [Act.put, List.setIfInBounds_toArray, List.set_cons_zero, List.set_cons_succ, i64_w, i32_w]
            rfl
          refine pure_ (i := 10) (N := (some 90)) (v := ?_) (a' := ?_) #[true, false, true, false, false, true, false, true, false, false, true, false, false] rfl rfl (any_of HT_.out (by kernel_rfl)) (fun _ _ _ h => h) (Or.inl ⟨by rfl, ?_⟩) ?_ ?_
          rotate_left
          · intro w'
            go_simp
            with_reducible rfl
          rotate_left
          · simp only [Act.put, List.setIfInBounds_toArray, List.set_cons_zero, List.set_cons_succ, i64_w, i32_w]
            rfl
          refine take_ (i := 1) (N := (some 81)) (v := ?_) (a' := ?_) #[true, true, true, false, false, true, false, true, false, false, true, false, false] rfl rfl (take_ofW HT_.out HW_.out (by kernel_rfl)) (fun _ _ _ h => h) (Or.inl ⟨by rfl, ?_⟩) hHeld ?_ ?_
          rotate_left
          · rintro w' ⟨s0, s1, s2, s3, s4, s5, s6, s7, s8, s9, s10, s11⟩
            go_simp
            with_reducible rfl
          rotate_left
          · simp only [Act.put, List.setIfInBounds_toArray, List.set_cons_zero, List.set_cons_succ, i64_w, i32_w]
            rfl
          refine pure_ (i := 3) (N := (some 83)) (v := ?_) (a' := ?_) #[true, true, true, true, false, true, false, true, false, false, true, false, false] rfl rfl (any_of HT_.out (by kernel_rfl)) (fun _ _ _ h => h) (Or.inl ⟨by rfl, ?_⟩) ?_ ?_
          rotate_left
          · intro w'
            go_simp
            with_reducible rfl
          rotate_left
          · simp only [Act.put, List.setIfInBounds_toArray, List.set_cons_zero, List.set_cons_succ, i64_w, i32_w]
            rfl
          refine take_ (i := 4) (N := (some 84)) (v := ?_) (a' := ?_) #[true, true, true, true, true, true, false, true, false, false, true, false, false] rfl rfl (take_ofW HT_.out HW_.out (by kernel_rfl)) (fun _ _ _ h => h) (Or.inl ⟨by rfl, ?_⟩) hHeld ?_ ?_
          rotate_left
          · rintro w' ⟨s0, s1, s2, s3, s4, s5, s6, s7, s8, s9, s10, s11⟩
            go_simp
            with_reducible rfl
          rotate_left
          · simp only [Act.put, List.setIfInBounds_toArray, List.set_cons_zero, List.set_cons_succ, i64_w, i32_w]
            rfl
          refine take_ (i := 6) (N := (some 86)) (v := ?_) (a' := ?_) #[true, true, true, true, true, true, true, true, false, false, true, false, false] rfl rfl (take_ofW HT_.out HW_.out (by kernel_rfl)) (fun _ _ _ h => h) (Or.inl ⟨by rfl, ?_⟩) hHeld ?_ ?_
          rotate_left
          · rintro w' ⟨s0, s1, s2, s3, s4, s5, s6, s7, s8, s9, s10, s11⟩
            go_simp
            with_reducible rfl
          rotate_left
          · simp only [Act.put, List.setIfInBounds_toArray, List.set_cons_zero, List.set_cons_succ, i64_w, i32_w]
            rfl
          refine pure_ (i := 8) (N := (some 88)) (v := ?_) (a' := ?_) #[true, true, true, true, true, true, true, true, true, false, true, false, false] rfl rfl (any_of HT_.out (by kernel_rfl)) (fun _ _ _ h => h) (Or.inl ⟨by rfl, ?_⟩) ?_ ?_
          rotate_left
          · intro w'
            go_simp
            with_reducible rfl
          rotate_left
          · simp only [Act.put, List.setIfInBounds_toArray, List.set_cons_zero, List.set_cons_succ, i64_w, i32_w]
            rfl
          refine take_ (i := 9) (N := (some 89)) (v := ?_) (a' := ?_) #[true, true, true, true, true, true, true, true, true, true, true, false, false] rfl rfl (take_ofW HT_.out HW_.out (by kernel_rfl)) (fun _ _ _ h => h) (Or.inl ⟨by rfl, ?_⟩) hHeld ?_ ?_
          rotate_left
          · rintro w' ⟨s0, s1, s2, s3, s4, s5, s6, s7, s8, s9, s10, s11⟩
            go_simp
            with_reducible rfl
          rotate_left
          · simp only [Act.put, List.setIfInBounds_toArray, List.set_cons_zero, List.set_cons_succ, i64_w, i32_w]
            rfl
          refine last_ (i := 11) (N := (some 91)) #[true, true, true, true, true, true, true, true, true, true, true, true, false] rfl rfl (one_of HT_.out (by kernel_rfl)) (by decide) (fun K hK => ?_)
          refine goes_ Try.func19 (by kernel_rfl) rfl #[.agg #[.int .i64 yy.f0, .string yy.f1, .string yy.f2, .slice P3 yy.f3.length p3, .slice P4 yy.f4.length p4], .agg #[.int .i64 yy.f0, .string yy.f1, .string yy.f2, .slice Q3 yy.f3.length q3, .slice Q4 yy.f4.length q4], .bool b] (by rfl) rfl rfl (by simp only [List.map_toArray, List.map_cons, List.map_nil]; rfl) ?_
          have hbd : Below w.heap.size w w8.drew := HB8.out.1.drew
          refine (IH.out yy HSB.out.1 w8.drew P3 p3 P4 p4 Q3 q3 Q4 q4 (k25.K_below hbd HSB.out.2.1) (k25.K_below hbd HSB.out.2.2)).mono ?_
          rintro e w9 ⟨rfl, hb9⟩
          refine ⟨_, rfl, ?_⟩
          refine hK.out _ _ ?_
          have HB9 := Aside0.mk (And.intro (hbd.trans (hb9.mono hbd.size)) (And.intro ((hb9.block _ (lt_of_block HB8.out.2.1)).trans HB8.out.2.1) ((hb9.block _ (lt_of_block HB8.out.2.2)).trans HB8.out.2.2)))
          clear hb9 hbd
          clear hK K
          refine norm_ (a' := ?_) ?_ ?_
          rotate_left
          · first | (simp only [Act.put, List.setIfInBounds_toArray, List.set_cons_zero, List.set_cons_succ, i64_w, i32_w]; rfl) | rfl
          refine pure_ (i := 12) (N := (some 92)) (v := ?_) (a' := ?_) #[true, true, true, true, true, true, true, true, true, true, true, true, true] rfl rfl (any_of HT_.out (by kernel_rfl)) (fun _ _ _ h => h) (Or.inl ⟨by rfl, ?_⟩) ?_ ?_
          rotate_left
          · intro w'
            go_simp
            with_reducible rfl
          rotate_left
          · simp only [Act.put, List.setIfInBounds_toArray, List.set_cons_zero, List.set_cons_succ, i64_w, i32_w]
            rfl
          refine done_ (done_of HT_.out (by kernel_rfl)) ?_
          go_wp2_with fail
          go_roundg (gk - 1)
          case measure => have := HJ.out; omega
          case rel => exact ⟨j + 1, by go_num, ⟨by have := HJ.out; omega⟩, HB9⟩
        · go_wp2_with fail
          go_ret
          exact ⟨rfl, HB.out.1⟩
    · have hb2 : (x.f0 == 2) = false := by simpa using h2
      have hb1 : (x.f0 == 1) = true ∨ (x.f0 == 1) = false := by cases (x.f0 == 1) <;> simp
      clear h2
      rcases hb1 with hb1 | hb1
      all_goals
        go_enter Try.func19, Try.ntmps19
        go_wp2_with fail
        obtain ⟨w0, e0⟩ : ∃ w0, w0 = (w.alloc (.cells #[.int .i64 x.f0, .string x.f1, .string x.f2, .slice A3 x.f3.length c3, .slice A4 x.f4.length c4] 25)).alloc (.cells #[.int .i64 x.f0, .string x.f1, .string x.f2, .slice B3 x.f3.length d3, .slice B4 x.f4.length d4] 25) := ⟨_, rfl⟩
        try rw [← e0]
        have hb0 : Below w.heap.size w w0 := by rw [e0]; exact ((Below.refl _ _).alloc (Nat.le_refl _) _).alloc (by simp) _
        have q0 : w0.heap[w.heap.size]? = some (.cells #[.int .i64 x.f0, .string x.f1, .string x.f2, .slice A3 x.f3.length c3, .slice A4 x.f4.length c4] 25 (0, 0)) := by rw [e0]; exact (heap_old _ (by simp)).trans (heap_at _ rfl)
        have q1 : w0.heap[w.heap.size + 1]? = some (.cells #[.int .i64 x.f0, .string x.f1, .string x.f2, .slice B3 x.f3.length d3, .slice B4 x.f4.length d4] 25 (0, 0)) := by rw [e0]; exact heap_at _ (by simp)
        have H0 := Aside0.mk (And.intro hb0 (And.intro q0 q1))
        clear hb0 q0 q1 e0
        go_loopg [54] x.f4.length (fun k i wr => ∃ j : Nat, i = .int .i64 j ∧ Aside0 (j ≤ x.f4.length ∧ k + j = x.f4.length) ∧ Aside0 (Below w.heap.size w wr ∧ wr.heap[w.heap.size]? = some (.cells #[.int .i64 x.f0, .string x.f1, .string x.f2, .slice A3 x.f3.length c3, .slice A4 x.f4.length c4] 25 (0, 0)) ∧ wr.heap[w.heap.size + 1]? = some (.cells #[.int .i64 x.f0, .string x.f1, .string x.f2, .slice B3 x.f3.length d3, .slice B4 x.f4.length d4] 25 (0, 0))))
        case atStart => exact ⟨0, rfl, ⟨by omega⟩, H0⟩
        case round =>
          clear H0
          obtain ⟨j, rfl, HJ, HB⟩ := hrel
          have cx0 := (cell_of_block (i := 0) HB.out.2.1).trans (show _ = some _ from rfl)
          by_cases hj : j < x.f4.length
          · have hjc := hj
            clear hjc
            generalize hyy : x.f4.getD j z25 = yy
            obtain ⟨am, P3, p3, P4, p4, e6, hKp, fp0, fp1, fp2, fp3, fp4⟩ := nodeAt HG.out.2.1 j hj yy hyy
            obtain ⟨an, Q3, q3, Q4, q4, e7, hKq, fq0, fq1, fq2, fq3, fq4⟩ := nodeAt HG.out.2.2.2.2 j hj yy hyy
            subst e6 e7
            have hym : yy ∈ x.f4 := by rw [← hyy, List.getD_eq_getElem?_getD, List.getElem?_eq_getElem hj]; exact List.getElem_mem _
            have HSB := Aside0.mk (And.intro (HX.out.2.2.2 yy hym) (And.intro hKp hKq))
            have HEL := Aside0.mk (And.intro fp0 (And.intro fp1 (And.intro fp2 (And.intro fp3 (And.intro fp4 (And.intro fq0 (And.intro fq1 (And.intro fq2 (And.intro fq3 fq4)))))))))
            clear hyy hKp fp0 fp1 fp2 fp3 fp4 hKq fq0 fq1 fq2 fq3 fq4 hym
            go_wp2_with fail
            clear cx0
            have HS11 : Aside0 (∀ w', Below wr.heap.size wr w' → w'.cell? ⟨w.heap.size, 4, none⟩ = some (.slice (some am) x.f4.length c4) ∧ w'.cell? ⟨w.heap.size + 1, 4, none⟩ = some (.slice (some an) x.f4.length d4) ∧ w'.cell? (am.add (j * 5)) = some (.int .i64 yy.f0) ∧ w'.cell? ⟨(am.add (j * 5)).block, (am.add (j * 5)).off + 1, none⟩ = some (.string yy.f1) ∧ w'.cell? ⟨(am.add (j * 5)).block, (am.add (j * 5)).off + 2, none⟩ = some (.string yy.f2) ∧ w'.cell? ⟨(am.add (j * 5)).block, (am.add (j * 5)).off + 3, none⟩ = some (.slice P3 yy.f3.length p3) ∧ w'.cell? ⟨(am.add (j * 5)).block, (am.add (j * 5)).off + 4, none⟩ = some (.slice P4 yy.f4.length p4) ∧ w'.cell? (an.add (j * 5)) = some (.int .i64 yy.f0) ∧ w'.cell? ⟨(an.add (j * 5)).block, (an.add (j * 5)).off + 1, none⟩ = some (.string yy.f1) ∧ w'.cell? ⟨(an.add (j * 5)).block, (an.add (j * 5)).off + 2, none⟩ = some (.string yy.f2) ∧ w'.cell? ⟨(an.add (j * 5)).block, (an.add (j * 5)).off + 3, none⟩ = some (.slice Q3 yy.f3.length q3) ∧ w'.cell? ⟨(an.add (j * 5)).block, (an.add (j * 5)).off + 4, none⟩ = some (.slice Q4 yy.f4.length q4)) := ⟨fun w' hc => by
              have old : ∀ {a : Addr} {v : Value}, w.cell? a = some v → w'.cell? a = some v := fun {a v} h => by
                have h1 := (HB.out.1.cell (World.block_lt_of_cell? w a h)).trans h
                exact (hc.cell (World.block_lt_of_cell? _ _ h1)).trans h1
              have hx := (hc.block _ (lt_of_block HB.out.2.1)).trans HB.out.2.1
              have hy := (hc.block _ (lt_of_block HB.out.2.2)).trans HB.out.2.2
              exact ⟨by rw [cell_of_block hx]; rfl, by rw [cell_of_block hy]; rfl, old HEL.out.1, old HEL.out.2.1, old HEL.out.2.2.1, old HEL.out.2.2.2.1, old HEL.out.2.2.2.2.1, old HEL.out.2.2.2.2.2.1, old HEL.out.2.2.2.2.2.2.1, old HEL.out.2.2.2.2.2.2.2.1, old HEL.out.2.2.2.2.2.2.2.2.1, old HEL.out.2.2.2.2.2.2.2.2.2⟩⟩
            refine start_ (n := 13) (S := fun w' => w'.cell? ⟨w.heap.size, 4, none⟩ = some (.slice (some am) x.f4.length c4) ∧ w'.cell? ⟨w.heap.size + 1, 4, none⟩ = some (.slice (some an) x.f4.length d4) ∧ w'.cell? (am.add (j * 5)) = some (.int .i64 yy.f0) ∧ w'.cell? ⟨(am.add (j * 5)).block, (am.add (j * 5)).off + 1, none⟩ = some (.string yy.f1) ∧ w'.cell? ⟨(am.add (j * 5)).block, (am.add (j * 5)).off + 2, none⟩ = some (.string yy.f2) ∧ w'.cell? ⟨(am.add (j * 5)).block, (am.add (j * 5)).off + 3, none⟩ = some (.slice P3 yy.f3.length p3) ∧ w'.cell? ⟨(am.add (j * 5)).block, (am.add (j * 5)).off + 4, none⟩ = some (.slice P4 yy.f4.length p4) ∧ w'.cell? (an.add (j * 5)) = some (.int .i64 yy.f0) ∧ w'.cell? ⟨(an.add (j * 5)).block, (an.add (j * 5)).off + 1, none⟩ = some (.string yy.f1) ∧ w'.cell? ⟨(an.add (j * 5)).block, (an.add (j * 5)).off + 2, none⟩ = some (.string yy.f2) ∧ w'.cell? ⟨(an.add (j * 5)).block, (an.add (j * 5)).off + 3, none⟩ = some (.slice Q3 yy.f3.length q3) ∧ w'.cell? ⟨(an.add (j * 5)).block, (an.add (j * 5)).off + 4, none⟩ = some (.slice Q4 yy.f4.length q4)) (ds := [11]) #[false, false, false, false, false, false, false, false, false, false, false, false, false] (by kernel_rfl) rfl rfl (HS11.out _ (Below.refl _ _).drew) (fun hHeld => ?_)
            refine with_tabW (T := same11.T) (B := same11.B) same11.tab same11.bits (fun HT_ HW_ => ?_)
            refine pure_ (i := 0) (N := (some 80)) (v := ?_) (a' := ?_) #[true, false, false, false, false, false, false, false, false, false, false, false, false] rfl rfl (any_of HT_.out (by kernel_rfl)) (fun _ _ _ h => h) (Or.inl ⟨by rfl, ?_⟩) ?_ ?_
            rotate_left
            · intro w'
              go_simp
              with_reducible rfl
            rotate_left
            · simp only [Act.put, List.setIfInBounds_toArray, List.set_cons_zero, List.set_cons_succ, i64_w, i32_w]
              rfl
            refine pure_ (i := 2) (N := (some 82)) (v := ?_) (a' := ?_) #[true, false, true, false, false, false, false, false, false, false, false, false, false] rfl rfl (any_of HT_.out (by kernel_rfl)) (fun _ _ _ h => h) (Or.inl ⟨by rfl, ?_⟩) ?_ ?_
            rotate_left
            · intro w'
              go_simp
              with_reducible rfl
            rotate_left
            · simp only [Act.put, List.setIfInBounds_toArray, List.set_cons_zero, List.set_cons_succ, i64_w, i32_w]
              rfl
            refine pure_ (i := 5) (N := (some 85)) (v := ?_) (a' := ?_) #[true, false, true, false, false, true, false, false, false, false, false, false, false] rfl rfl (any_of HT_.out (by kernel_rfl)) (fun _ _ _ h => h) (Or.inl ⟨by rfl, ?_⟩) ?_ ?_
            rotate_left
            · intro w'
              go_simp
              with_reducible rfl
            rotate_left
            · simp only [Act.put, List.setIfInBounds_toArray, List.set_cons_zero, List.set_cons_succ, i64_w, i32_w]
              rfl
            refine pure_ (i := 7) (N := (some 87)) (v := ?_) (a' := ?_) #[true, false, true, false, false, true, false, true, false, false, false, false, false] rfl rfl (any_of HT_.out (by kernel_rfl)) (fun _ _ _ h => h) (Or.inl ⟨by rfl, ?_⟩) ?_ ?_
            rotate_left
            · intro w'
              go_simp
              with_reducible rfl
            rotate_left
            · simp only [Act.put, List.setIfInBounds_toArray, List.set_cons_zero, List.set_cons_succ, i64_w, i32_w]
              rfl
            refine pure_ (i := 10) (N := (some 90)) (v := ?_) (a' := ?_) #[true, false, true, false, false, true, false, true, false, false, true, false, false] rfl rfl (any_of HT_.out (by kernel_rfl)) (fun _ _ _ h => h) (Or.inl ⟨by rfl, ?_⟩) ?_ ?_
            rotate_left
            · intro w'
              go_simp
              with_reducible rfl
            rotate_left
            · simp only [Act.put, List.setIfInBounds_toArray, List.set_cons_zero, List.set_cons_succ, i64_w, i32_w]
              rfl
            refine take_ (i := 1) (N := (some 81)) (v := ?_) (a' := ?_) #[true, true, true, false, false, true, false, true, false, false, true, false, false] rfl rfl (take_ofW HT_.out HW_.out (by kernel_rfl)) (fun _ _ _ h => h) (Or.inl ⟨by rfl, ?_⟩) hHeld ?_ ?_
            rotate_left
            · rintro w' ⟨s0, s1, s2, s3, s4, s5, s6, s7, s8, s9, s10, s11⟩
              go_simp
              with_reducible rfl
            rotate_left
            · simp only [Act.put, List.setIfInBounds_toArray, List.set_cons_zero, List.set_cons_succ, i64_w, i32_w]
              rfl
            refine pure_ (i := 3) (N := (some 83)) (v := ?_) (a' := ?_) #[true, true, true, true, false, true, false, true, false, false, true, false, false] rfl rfl (any_of HT_.out (by kernel_rfl)) (fun _ _ _ h => h) (Or.inl ⟨by rfl, ?_⟩) ?_ ?_
            rotate_left
            · intro w'
              go_simp
              with_reducible rfl
            rotate_left
            · simp only [Act.put, List.setIfInBounds_toArray, List.set_cons_zero, List.set_cons_succ, i64_w, i32_w]
              rfl
            refine take_ (i := 4) (N := (some 84)) (v := ?_) (a' := ?_) #[true, true, true, true, true, true, false, true, false, false, true, false, false] rfl rfl (take_ofW HT_.out HW_.out (by kernel_rfl)) (fun _ _ _ h => h) (Or.inl ⟨by rfl, ?_⟩) hHeld ?_ ?_
            rotate_left
            · rintro w' ⟨s0, s1, s2, s3, s4, s5, s6, s7, s8, s9, s10, s11⟩
              go_simp
              with_reducible rfl
            rotate_left
            · simp only [Act.put, List.setIfInBounds_toArray, List.set_cons_zero, List.set_cons_succ, i64_w, i32_w]
              rfl
            refine take_ (i := 6) (N := (some 86)) (v := ?_) (a' := ?_) #[true, true, true, true, true, true, true, true, false, false, true, false, false] rfl rfl (take_ofW HT_.out HW_.out (by kernel_rfl)) (fun _ _ _ h => h) (Or.inl ⟨by rfl, ?_⟩) hHeld ?_ ?_
            rotate_left
            · rintro w' ⟨s0, s1, s2, s3, s4, s5, s6, s7, s8, s9, s10, s11⟩
              go_simp
              with_reducible rfl
            rotate_left
            · simp only [Act.put, List.setIfInBounds_toArray, List.set_cons_zero, List.set_cons_succ, i64_w, i32_w]
              rfl
            refine pure_ (i := 8) (N := (some 88)) (v := ?_) (a' := ?_) #[true, true, true, true, true, true, true, true, true, false, true, false, false] rfl rfl (any_of HT_.out (by kernel_rfl)) (fun _ _ _ h => h) (Or.inl ⟨by rfl, ?_⟩) ?_ ?_
            rotate_left
            · intro w'
              go_simp
              with_reducible rfl
            rotate_left
            · simp only [Act.put, List.setIfInBounds_toArray, List.set_cons_zero, List.set_cons_succ, i64_w, i32_w]
              rfl
            refine take_ (i := 9) (N := (some 89)) (v := ?_) (a' := ?_) #[true, true, true, true, true, true, true, true, true, true, true, false, false] rfl rfl (take_ofW HT_.out HW_.out (by kernel_rfl)) (fun _ _ _ h => h) (Or.inl ⟨by rfl, ?_⟩) hHeld ?_ ?_
            rotate_left
            · rintro w' ⟨s0, s1, s2, s3, s4, s5, s6, s7, s8, s9, s10, s11⟩
              go_simp
              with_reducible rfl
            rotate_left
            · simp only [Act.put, List.setIfInBounds_toArray, List.set_cons_zero, List.set_cons_succ, i64_w, i32_w]
              rfl
            refine last_ (i := 11) (N := (some 91)) #[true, true, true, true, true, true, true, true, true, true, true, true, false] rfl rfl (one_of HT_.out (by kernel_rfl)) (by decide) (fun K hK => ?_)
            refine goes_ Try.func19 (by kernel_rfl) rfl #[.agg #[.int .i64 yy.f0, .string yy.f1, .string yy.f2, .slice P3 yy.f3.length p3, .slice P4 yy.f4.length p4], .agg #[.int .i64 yy.f0, .string yy.f1, .string yy.f2, .slice Q3 yy.f3.length q3, .slice Q4 yy.f4.length q4], .bool b] (by rfl) rfl rfl (by simp only [List.map_toArray, List.map_cons, List.map_nil]; rfl) ?_
            have hbd : Below w.heap.size w wr.drew := HB.out.1.drew
            refine (IH.out yy HSB.out.1 wr.drew P3 p3 P4 p4 Q3 q3 Q4 q4 (k25.K_below hbd HSB.out.2.1) (k25.K_below hbd HSB.out.2.2)).mono ?_
            rintro e w9 ⟨rfl, hb9⟩
            refine ⟨_, rfl, ?_⟩
            refine hK.out _ _ ?_
            have HB9 := Aside0.mk (And.intro (hbd.trans (hb9.mono hbd.size)) (And.intro ((hb9.block _ (lt_of_block HB.out.2.1)).trans HB.out.2.1) ((hb9.block _ (lt_of_block HB.out.2.2)).trans HB.out.2.2)))
            clear hb9 hbd
            clear hK K
            refine norm_ (a' := ?_) ?_ ?_
            rotate_left
            · first | (simp only [Act.put, List.setIfInBounds_toArray, List.set_cons_zero, List.set_cons_succ, i64_w, i32_w]; rfl) | rfl
            refine pure_ (i := 12) (N := (some 92)) (v := ?_) (a' := ?_) #[true, true, true, true, true, true, true, true, true, true, true, true, true] rfl rfl (any_of HT_.out (by kernel_rfl)) (fun _ _ _ h => h) (Or.inl ⟨by rfl, ?_⟩) ?_ ?_
            rotate_left
            · intro w'
              go_simp
              with_reducible rfl
            rotate_left
            · simp only [Act.put, List.setIfInBounds_toArray, List.set_cons_zero, List.set_cons_succ, i64_w, i32_w]
              rfl
            refine done_ (done_of HT_.out (by kernel_rfl)) ?_
            go_wp2_with fail
            go_roundg (gk - 1)
            case measure => have := HJ.out; omega
            case rel => exact ⟨j + 1, by go_num, ⟨by have := HJ.out; omega⟩, HB9⟩
          · go_wp2_with fail
            go_ret
            exact ⟨rfl, HB.out.1⟩
theorem sameS_calls (d : Nat) (x : S25) (hx : Sm d x) (b : Bool) (w : World) (A3 : Option Addr) (c3 : Nat) (A4 : Option Addr) (c4 : Nat) (B3 : Option Addr) (d3 : Nat) (B4 : Option Addr) (d4 : Nat)
    (hK : k25.K w x [.int .i64 x.f0, .string x.f1, .string x.f2, .slice A3 x.f3.length c3, .slice A4 x.f4.length c4])
    (hK' : k25.K w x [.int .i64 x.f0, .string x.f1, .string x.f2, .slice B3 x.f3.length d3, .slice B4 x.f4.length d4]) :
    Calls Try.prog 19 #[.agg #[.int .i64 x.f0, .string x.f1, .string x.f2, .slice A3 x.f3.length c3, .slice A4 x.f4.length c4], .agg #[.int .i64 x.f0, .string x.f1, .string x.f2, .slice B3 x.f3.length d3, .slice B4 x.f4.length d4], .bool b] w
      fun e w' => e = .returned (.bool true) ∧ Below w.heap.size w w' := sameD_calls b d x hx w A3 c3 A4 c4 B3 d3 B4 d4 hK hK'
theorem same_calls (x : S25) (hx : Tree x) (b : Bool) (w : World) (A3 : Option Addr) (c3 : Nat) (A4 : Option Addr) (c4 : Nat) (B3 : Option Addr) (d3 : Nat) (B4 : Option Addr) (d4 : Nat)
    (hK : k25.K w x [.int .i64 x.f0, .string x.f1, .string x.f2, .slice A3 x.f3.length c3, .slice A4 x.f4.length c4])
    (hK' : k25.K w x [.int .i64 x.f0, .string x.f1, .string x.f2, .slice B3 x.f3.length d3, .slice B4 x.f4.length d4]) :
    Calls Try.prog 19 #[.agg #[.int .i64 x.f0, .string x.f1, .string x.f2, .slice A3 x.f3.length c3, .slice A4 x.f4.length c4], .agg #[.int .i64 x.f0, .string x.f1, .string x.f2, .slice B3 x.f3.length d3, .slice B4 x.f4.length d4], .bool b] w
      fun e w' => e = .returned (.bool true) ∧ Below w.heap.size w w' :=
  sameS_calls 6 x (hx.1.sm hx.2) b w A3 c3 A4 c4 B3 d3 B4 d4 hK hK'
end Go.Proofs.Ytigpgkfgkjabmaa
