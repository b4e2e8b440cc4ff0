import Derived.Test.YtkpdkoafngjflaaGreatSh
import Derived.Test.YtkpdkoafngjflaaGreatCovers
import Derived.Test.YtkpdkoafngjflaaGreatFixed
namespace Go.Proofs.YtkpdkoafngjflaaGreat
open Go.RowKit Go.Proofs.YtkpdkoafngjflaaGreatW.PrintWords Go.Proofs.YtkpdkoafngjflaaGreatW.PrintLast Go.Proofs.YtkpdkoafngjflaaGreat.PFnFields
set_option linter.unusedVariables false
set_option linter.unusedSimpArgs false
def with1.T : Bool × List (List Nat × List Nat) := (true, [([], []), ([], []), ([1], [1]), ([0, 2], [0, 2]), ([], []), ([], []), ([5], [5]), ([4, 6, 3], [4, 6]), ([3, 7], [3, 7]), ([], []), ([9, 8, 7, 0, 1, 2, 3, 4, 5, 6, 7, 8, 9], [8, 9])])
def with1.B : List Nat := [0, 0, 2, 7, 0, 0, 32, 127, 255, 0, 1023]
theorem with1.tab : rtab .any (opsOf Tryz.f18 1) = with1.T := by kernel_rfl
theorem with1.bits : waitsOk with1.T.2 with1.B = true := by kernel_rfl
def with6.T : Bool × List (List Nat × List Nat) := (true, [([], []), ([0], [0]), ([], []), ([2], [2]), ([1, 3], [1, 3]), ([], []), ([5], [5]), ([], []), ([7], [7]), ([6, 8, 4], [6, 8]), ([0, 1, 2, 3, 4, 5, 6], []), ([10, 4, 9, 0, 1, 2, 3, 4, 5, 6], [4, 10]), ([0, 1, 2, 3, 4, 5, 6, 7, 8, 9, 10, 11], []), ([12, 9, 11, 0, 1, 2, 3, 4, 5, 6, 7, 8, 9, 10, 11], [9, 12])])
def with6.B : List Nat := [0, 1, 0, 4, 15, 0, 32, 0, 128, 511, 127, 2047, 4095, 8191]
theorem with6.tab : rtab .any (opsOf Tryz.f18 6) = with6.T := by kernel_rfl
theorem with6.bits : waitsOk with6.T.2 with6.B = true := by kernel_rfl
set_option maxRecDepth 100000 in
set_option maxHeartbeats 3200000 in
theorem withS_calls (S : Nat → Prop) (x v : S25) (nm : ByteArray) (hkl : x.f3.length = x.f4.length) (hfew : x.f4.length ≤ 2000) (w : World) (hS : ∀ k, S k → k < w.heap.size) (A3 : Option Addr) (c3 : Nat) (A4 : Option Addr) (c4 : Nat) (hK : nodeR S w x A3 c3 A4 c4) (V3 : Option Addr) (e3 : Nat) (V4 : Option Addr) (e4 : Nat) (hV : nodeR S w v V3 e3 V4 e4) :
  Calls Tryz.prog 18 #[nodeV x A3 c3 A4 c4, .string nm, nodeV v V3 e3 V4 e4] w (NodePostS S w (wi x nm v)) := by
 have hu := Tryz.underlying25
 have HK := Aside0.mk (And.intro hK hV)
 have HSS := Aside0.mk hS
 have g4 := hK.rows
 obtain ⟨g3, l3⟩ : ∃ q : Kd.string.C w A3 x.f3.length x.f3, x.f3.length ≤ c3 := by
  obtain ⟨B3, d3, B4, d4, he, l3, g3, l4, g4⟩ := k25_open hK.now
  simp only [List.cons.injEq, Value.slice.injEq, true_and, and_true] at he
  obtain ⟨⟨rfl, rfl⟩, rfl, rfl⟩ := he
  exact ⟨g3, l3⟩
 have HG := Aside0.mk (And.intro g3 (And.intro l3 g4))
 have HM := Aside0.mk (And.intro hkl hfew)
 clear hK hV hS g3 l3 g4 hkl hfew
 go_enter Tryz.func18, Tryz.ntmps18
 go_wp2_with fail
 obtain ⟨w0, e0⟩ : ∃ w0, w0 = ((w.alloc (.cells #[.int .i64 x.f0, .string x.f1, .string x.f2, .slice A3 x.f3.length c3, .slice A4 x.f4.length c4] 25)).alloc (.cells #[.int .i64 v.f0, .string v.f1, .string v.f2, .slice V3 v.f3.length e3, .slice V4 v.f4.length e4] 25)).alloc (.cells #[.int .i64 0, .string ⟨#[]⟩, .string ⟨#[]⟩, .slice none 0 0, .slice none 0 0] 25) := ⟨_, rfl⟩
 try rw [← e0]
 have hb0 : Below w.heap.size w w0 := by rw [e0]; exact (((Below.refl _ _).alloc (Nat.le_refl _) _).alloc (by simp) _).alloc (by simp; omega) _
 have hs0 : w0.heap.size = w.heap.size + 3 := by rw [e0]; simp
 have q0 : inVar w0 w.heap.size x A3 c3 A4 c4 := by rw [e0]; exact (heap_old _ (by simp; omega)).trans ((heap_old _ (by simp)).trans (heap_at _ rfl))
 have q1 : inVar w0 (w.heap.size + 1) v V3 e3 V4 e4 := by rw [e0]; exact (heap_old _ (by simp)).trans (heap_at _ (by simp))
 have q2 : w0.heap[w.heap.size + 1 + 1]? = some (.cells #[.int .i64 0, .string ⟨#[]⟩, .string ⟨#[]⟩, .slice none 0 0, .slice none 0 0] 25 (0, 0)) := by rw [e0]; exact heap_at _ (by simp)
 have H0 := Aside0.mk (And.intro hb0 (And.intro q0 (And.intro q1 (And.intro q2 hs0))))
 clear hb0 q0 q1 q2 hs0 e0
 have BW : Aside0 (Below w0.heap.size w0 w0.drew) := ⟨(Below.refl _ _).drew⟩
 refine start_ (n := 11) (S := fun w' => True) (ds := []) #[false, false, false, false, false, false, false, false, false, false, false] (by kernel_rfl) rfl rfl trivial (fun hHeld => ?_)
 refine with_tabW (T := with1.T) (B := with1.B) with1.tab with1.bits (fun HT_ HW_ => ?_)
 refine ps_ 1 10 HT_ ?_
 refine ps_ 5 14 HT_ ?_
 refine inv_at [0, 2, 3, 4, 6, 7, 8, 9, 10] (fun a0_ b a w' => ∃ (g0 : Nat) (g4 : Nat) (ob : Nat) (ka : Option Addr) (kc : Nat) (ia : Option Addr) (ic : Nat) (m0_ : Value) (m3_ : Value) (m4_ : Value) (m7_ : Value) (m8_ : Value) (m9_ : Value), a = putSel a0_ b [(0, 9, m0_), (2, 11, .slice A3 x.f3.length c3), (3, 12, m3_), (4, 13, m4_), (6, 15, .slice A4 x.f4.length c4), (7, 16, m7_), (8, 17, m8_), (9, 7, m9_)] ∧ (Below w0.heap.size w0 w') ∧ (b 0 = true → b 3 = false → Kd.string.R 9 w' w0.heap.size (fun _ => True) (.slice (some ⟨g0, 0, none⟩) 0 0) []) ∧ (b 3 = true → Kd.string.R 9 w' w0.heap.size (fun _ => True) (.slice ka x.f3.length kc) x.f3) ∧ (b 4 = true → b 7 = false → (heldK S w).R 25 w' w0.heap.size (fun _ => True) (.slice (some ⟨g4, 0, none⟩) 0 0) []) ∧ (b 7 = true → (heldK S w).R 25 w' w0.heap.size (fun _ => True) (.slice ia x.f4.length ic) x.f4) ∧ (b 9 = true → b 10 = false → w'.heap[ob]? = some (.cells #[.int .i64 0, .string ⟨#[]⟩, .string ⟨#[]⟩, .slice none 0 0, .slice none 0 0] 25 (0, 0)) ∧ w0.heap.size ≤ ob) ∧ (b 4 = true → b 9 = true → b 7 = false → g4 ≠ ob) ∧ (b 7 = true → b 9 = true → some ob ≠ (Value.slice ia x.f4.length ic).ownBlock) ∧ (b 10 = true → w'.heap[ob]? = some (.cells #[.int .i64 2, .string ⟨#[]⟩, .string ⟨#[]⟩, .slice ka x.f3.length kc, .slice ia x.f4.length ic] 25 (0, 0)) ∧ w0.heap.size ≤ ob) ∧ (b 0 = true → (m0_ : Value) = .slice (some ⟨g0, 0, none⟩) 0 0) ∧ (b 3 = true → (m3_ : Value) = .slice ka x.f3.length kc) ∧ (b 4 = true → (m4_ : Value) = .slice (some ⟨g4, 0, none⟩) 0 0) ∧ (b 7 = true → (m7_ : Value) = .slice ia x.f4.length ic) ∧ (b 8 = true → (m8_ : Value) = .agg #[.int .i64 2, .string ⟨#[]⟩, .string ⟨#[]⟩, .slice ka x.f3.length kc, .slice ia x.f4.length ic]) ∧ (b 9 = true → (m9_ : Value) = .pointer (some ⟨ob, 0, none⟩))) HT_.out HW_.out (by kernel_rfl) (by kernel_rfl) ?_ ?_ ?_
 ·exact ⟨0, 0, 0, none, 0, none, 0, .bool false, .bool false, .bool false, .bool false, .bool false, .bool false, by simp only [putSel, Bool.false_eq_true, if_false], BW.out, fun h_ => absurd h_ (by decide), fun h_ => absurd h_ (by decide), fun h_ => absurd h_ (by decide), fun h_ => absurd h_ (by decide), fun h_ => absurd h_ (by decide), fun h_ => absurd h_ (by decide), fun h_ => absurd h_ (by decide), fun h_ => absurd h_ (by decide), fun h_ => absurd h_ (by decide), fun h_ => absurd h_ (by decide), fun h_ => absurd h_ (by decide), fun h_ => absurd h_ (by decide), fun h_ => absurd h_ (by decide), fun h_ => absurd h_ (by decide)⟩
 ·skip
  clear BW
  refine steps_cons ?_ ?_
  ·rintro b a w' ⟨g0, g4, ob, ka, kc, ia, ic, m0_, m3_, m4_, m7_, m8_, m9_, ha, Q_BW, Q_E0, Q_K3, Q_E4, Q_I7, Q_O9, Q_D1, Q_D2, Q_OX, Q_X0_, Q_X3_, Q_X4_, Q_X7_, Q_X8_, Q_X9_⟩ hb_ hon hoff
   refine ⟨_, rfl, fun K hK => ?_⟩
   replace ha := Aside0.mk ha
   have BW := Aside0.mk Q_BW
   have hb3 : Below w'.heap.size w' (w'.alloc (.cells #[] 9)) := (Below.refl _ _).alloc (Nat.le_refl _) _
   have hn3 : Kd.string.R 9 (w'.alloc (.cells #[] 9)) w0.heap.size (fun _ => True) (.slice (some ⟨w'.heap.size, 0, none⟩) 0 0) [] := R_empty _ (heap_at _ rfl) BW.out.size trivial
   refine value_ (w1 := w'.alloc (.cells #[] 9)) (v := .slice (some ⟨w'.heap.size, 0, none⟩) 0 0) (by rfl) rfl ?_ ?_
   ·go_simp
   refine hK.out _ _ ⟨w'.heap.size, g4, ob, ka, kc, ia, ic, (.slice (some ⟨w'.heap.size, 0, none⟩) 0 0), m3_, m4_, m7_, m8_, m9_, (by rw [ha.out]; exact putSel_upk 0 hb_ rfl rfl rfl), BW.out.trans (hb3.mono BW.out.size), fun _ _ => hn3, fun h0_ => absurd ((hoff 3 (by kernel_rfl)).symm.trans h0_) (by decide), fun h0_ h1_ => R_upd (Q_E4 h0_ h1_) (fun k _ _ hk => hb3.block k hk), fun h0_ => absurd ((hoff 7 (by kernel_rfl)).symm.trans h0_) (by decide), fun h0_ h1_ => ⟨(hb3.block _ (lt_of_block (Q_O9 h0_ h1_).1)).trans (Q_O9 h0_ h1_).1, (Q_O9 h0_ h1_).2⟩, Q_D1, fun h0_ _ => absurd ((hoff 7 (by kernel_rfl)).symm.trans h0_) (by decide), fun h0_ => absurd ((hoff 10 (by kernel_rfl)).symm.trans h0_) (by decide), fun _ => rfl, fun h0_ => absurd ((hoff 3 (by kernel_rfl)).symm.trans h0_) (by decide), Q_X4_, fun h0_ => absurd ((hoff 7 (by kernel_rfl)).symm.trans h0_) (by decide), fun h0_ => absurd ((hoff 8 (by kernel_rfl)).symm.trans h0_) (by decide), Q_X9_⟩
  refine steps_cons ?_ ?_
  ·rintro b a w' ⟨g0, g4, ob, ka, kc, ia, ic, m0_, m3_, m4_, m7_, m8_, m9_, ha, Q_BW, Q_E0, Q_K3, Q_E4, Q_I7, Q_O9, Q_D1, Q_D2, Q_OX, Q_X0_, Q_X3_, Q_X4_, Q_X7_, Q_X8_, Q_X9_⟩ hb_ hon hoff
   refine ⟨_, rfl, fun K hK => ?_⟩
   have e10 : a.tmps[10]? = some (.pointer (some ⟨w.heap.size, 3, none⟩)) := by rw [ha]; exact (putSel_off rfl).trans rfl
   replace ha := Aside0.mk ha
   have BW := Aside0.mk Q_BW
   have hx := (BW.out.block _ (lt_of_block H0.out.2.1)).trans H0.out.2.1
   have cx3 : w'.cell? ⟨w.heap.size, 3, none⟩ = some (.slice A3 x.f3.length c3) := by rw [cell_of_block hx]; rfl
   refine value_ (w1 := w') (v := .slice A3 x.f3.length c3) (by rfl) rfl ?_ ?_
   ·go_simp
    (try simp only [i64_w])
    try rfl
   refine hK.out _ _ ⟨g0, g4, ob, ka, kc, ia, ic, m0_, m3_, m4_, m7_, m8_, m9_, (by rw [ha.out]; exact putSel_upk 1 hb_ rfl rfl rfl), Q_BW, Q_E0, fun h0_ => absurd ((hoff 3 (by kernel_rfl)).symm.trans h0_) (by decide), Q_E4, fun h0_ => absurd ((hoff 7 (by kernel_rfl)).symm.trans h0_) (by decide), Q_O9, Q_D1, fun h0_ _ => absurd ((hoff 7 (by kernel_rfl)).symm.trans h0_) (by decide), fun h0_ => absurd ((hoff 10 (by kernel_rfl)).symm.trans h0_) (by decide), Q_X0_, fun h0_ => absurd ((hoff 3 (by kernel_rfl)).symm.trans h0_) (by decide), Q_X4_, fun h0_ => absurd ((hoff 7 (by kernel_rfl)).symm.trans h0_) (by decide), fun h0_ => absurd ((hoff 8 (by kernel_rfl)).symm.trans h0_) (by decide), Q_X9_⟩
  refine steps_cons ?_ ?_
  ·rintro b a w' ⟨g0, g4, ob, ka, kc, ia, ic, m0_, m3_, m4_, m7_, m8_, m9_, ha, Q_BW, Q_E0, Q_K3, Q_E4, Q_I7, Q_O9, Q_D1, Q_D2, Q_OX, Q_X0_, Q_X3_, Q_X4_, Q_X7_, Q_X8_, Q_X9_⟩ hb_ hon hoff
   refine ⟨_, rfl, fun K hK => ?_⟩
   have e9 : a.tmps[9]? = some (m0_) := by rw [ha]; exact putSel_on (e := (0, 9, m0_)) 0 rfl rfl (hon 0 (by kernel_rfl)) rfl
   rw [Q_X0_ (hon 0 (by kernel_rfl))] at e9
   have e11 : a.tmps[11]? = some (.slice A3 x.f3.length c3) := by rw [ha]; exact putSel_on (e := (2, 11, .slice A3 x.f3.length c3)) 1 rfl rfl (hon 2 (by kernel_rfl)) rfl
   replace ha := Aside0.mk ha
   have BW := Aside0.mk Q_BW
   have E0 := Aside0.mk (Q_E0 (hon 0 (by kernel_rfl)) hb_)
   have hbw : Below w.heap.size w w' := H0.out.1.trans (BW.out.mono H0.out.1.size)
   refine Kd.R_append_rows_step Kd.string (w0 := w0) w0.heap.size (by rfl) (.tmp 9) (.tmp 11) 22 9 (.string ⟨#[]⟩) 16 rfl Tryz.underlying22 Tryz.infoStr rfl (by decide) (by decide) (.slice (some ⟨g0, 0, none⟩) 0 0) [] x.f3 A3 x.f3.length c3 (fun _ => True) (fun _ => False) (eval_of e9) (eval_of e11) E0.out (show ReadsRow (Kd.string.K w') 1 w' A3 x.f3.length x.f3 from Kd.C_below HG.out.1 hbw) (fun _ _ h => h) (fun _ h => h.elim) (fun _ _ => trivial) BW.out BW.out.size (by have := HM.out; simp; omega) ?_
   intro kvn w1 hr1 hb1 hg1 hat1
   obtain ⟨kan, kcn, rfl, _, _⟩ := Kd.R_reads (xs := x.f3) hr1
   refine hK.out _ _ ⟨g0, g4, ob, kan, kcn, ia, ic, m0_, (.slice kan x.f3.length kcn), m4_, m7_, m8_, m9_, (by rw [ha.out]; exact putSel_upk 2 hb_ rfl rfl rfl), hb1, fun _ h1_ => absurd ((up_self b 3).symm.trans h1_) (by decide), fun _ => hr1, fun h0_ h1_ => R_flatmove (fun h => h) (Q_E4 h0_ h1_) (fun k hk => hg1.block k (R_own (Q_E4 h0_ h1_) k hk).2.1 (R_types_ne (Q_E4 h0_ h1_) E0.out (by decide) k hk)) (fun _ _ => trivial), fun h0_ => absurd ((hoff 7 (by kernel_rfl)).symm.trans h0_) (by decide), fun h0_ h1_ => ⟨(hg1.block _ (lt_of_block (Q_O9 h0_ h1_).1) (R_ne_block E0.out (Q_O9 h0_ h1_).1 (by decide))).trans (Q_O9 h0_ h1_).1, (Q_O9 h0_ h1_).2⟩, Q_D1, fun h0_ _ => absurd ((hoff 7 (by kernel_rfl)).symm.trans h0_) (by decide), fun h0_ => absurd ((hoff 10 (by kernel_rfl)).symm.trans h0_) (by decide), Q_X0_, fun _ => rfl, Q_X4_, fun h0_ => absurd ((hoff 7 (by kernel_rfl)).symm.trans h0_) (by decide), fun h0_ => absurd ((hoff 8 (by kernel_rfl)).symm.trans h0_) (by decide), Q_X9_⟩
  refine steps_cons ?_ ?_
  ·rintro b a w' ⟨g0, g4, ob, ka, kc, ia, ic, m0_, m3_, m4_, m7_, m8_, m9_, ha, Q_BW, Q_E0, Q_K3, Q_E4, Q_I7, Q_O9, Q_D1, Q_D2, Q_OX, Q_X0_, Q_X3_, Q_X4_, Q_X7_, Q_X8_, Q_X9_⟩ hb_ hon hoff
   refine ⟨_, rfl, fun K hK => ?_⟩
   replace ha := Aside0.mk ha
   have BW := Aside0.mk Q_BW
   have hb3 : Below w'.heap.size w' (w'.alloc (.cells #[] 25)) := (Below.refl _ _).alloc (Nat.le_refl _) _
   have hn3 : (heldK S w).R 25 (w'.alloc (.cells #[] 25)) w0.heap.size (fun _ => True) (.slice (some ⟨w'.heap.size, 0, none⟩) 0 0) [] := R_empty _ (heap_at _ rfl) BW.out.size trivial
   refine value_ (w1 := w'.alloc (.cells #[] 25)) (v := .slice (some ⟨w'.heap.size, 0, none⟩) 0 0) (by rfl) rfl ?_ ?_
   ·go_simp
   refine hK.out _ _ ⟨g0, w'.heap.size, ob, ka, kc, ia, ic, m0_, m3_, (.slice (some ⟨w'.heap.size, 0, none⟩) 0 0), m7_, m8_, m9_, (by rw [ha.out]; exact putSel_upk 3 hb_ rfl rfl rfl), BW.out.trans (hb3.mono BW.out.size), fun h0_ h1_ => R_upd (Q_E0 h0_ h1_) (fun k _ _ hk => hb3.block k hk), fun h0_ => R_upd (Q_K3 h0_) (fun k _ _ hk => hb3.block k hk), fun _ _ => hn3, fun h0_ => absurd ((hoff 7 (by kernel_rfl)).symm.trans h0_) (by decide), fun h0_ h1_ => ⟨(hb3.block _ (lt_of_block (Q_O9 h0_ h1_).1)).trans (Q_O9 h0_ h1_).1, (Q_O9 h0_ h1_).2⟩, fun _ _ _ => (by rename_i q4 q9 q7; have := lt_of_block (Q_O9 q9 (hoff 10 (by kernel_rfl))).1; omega), fun h0_ _ => absurd ((hoff 7 (by kernel_rfl)).symm.trans h0_) (by decide), fun h0_ => absurd ((hoff 10 (by kernel_rfl)).symm.trans h0_) (by decide), Q_X0_, Q_X3_, fun _ => rfl, fun h0_ => absurd ((hoff 7 (by kernel_rfl)).symm.trans h0_) (by decide), fun h0_ => absurd ((hoff 8 (by kernel_rfl)).symm.trans h0_) (by decide), Q_X9_⟩
  refine steps_cons ?_ ?_
  ·rintro b a w' ⟨g0, g4, ob, ka, kc, ia, ic, m0_, m3_, m4_, m7_, m8_, m9_, ha, Q_BW, Q_E0, Q_K3, Q_E4, Q_I7, Q_O9, Q_D1, Q_D2, Q_OX, Q_X0_, Q_X3_, Q_X4_, Q_X7_, Q_X8_, Q_X9_⟩ hb_ hon hoff
   refine ⟨_, rfl, fun K hK => ?_⟩
   have e14 : a.tmps[14]? = some (.pointer (some ⟨w.heap.size, 4, none⟩)) := by rw [ha]; exact (putSel_off rfl).trans rfl
   replace ha := Aside0.mk ha
   have BW := Aside0.mk Q_BW
   have hx := (BW.out.block _ (lt_of_block H0.out.2.1)).trans H0.out.2.1
   have cx4 : w'.cell? ⟨w.heap.size, 4, none⟩ = some (.slice A4 x.f4.length c4) := by rw [cell_of_block hx]; rfl
   refine value_ (w1 := w') (v := .slice A4 x.f4.length c4) (by rfl) rfl ?_ ?_
   ·go_simp
    (try simp only [i64_w])
    try rfl
   refine hK.out _ _ ⟨g0, g4, ob, ka, kc, ia, ic, m0_, m3_, m4_, m7_, m8_, m9_, (by rw [ha.out]; exact putSel_upk 4 hb_ rfl rfl rfl), Q_BW, Q_E0, Q_K3, Q_E4, fun h0_ => absurd ((hoff 7 (by kernel_rfl)).symm.trans h0_) (by decide), Q_O9, Q_D1, fun h0_ _ => absurd ((hoff 7 (by kernel_rfl)).symm.trans h0_) (by decide), fun h0_ => absurd ((hoff 10 (by kernel_rfl)).symm.trans h0_) (by decide), Q_X0_, Q_X3_, Q_X4_, fun h0_ => absurd ((hoff 7 (by kernel_rfl)).symm.trans h0_) (by decide), fun h0_ => absurd ((hoff 8 (by kernel_rfl)).symm.trans h0_) (by decide), Q_X9_⟩
  refine steps_cons ?_ ?_
  ·rintro b a w' ⟨g0, g4, ob, ka, kc, ia, ic, m0_, m3_, m4_, m7_, m8_, m9_, ha, Q_BW, Q_E0, Q_K3, Q_E4, Q_I7, Q_O9, Q_D1, Q_D2, Q_OX, Q_X0_, Q_X3_, Q_X4_, Q_X7_, Q_X8_, Q_X9_⟩ hb_ hon hoff
   refine ⟨_, rfl, fun K hK => ?_⟩
   have e13 : a.tmps[13]? = some (m4_) := by rw [ha]; exact putSel_on (e := (4, 13, m4_)) 3 rfl rfl (hon 4 (by kernel_rfl)) rfl
   rw [Q_X4_ (hon 4 (by kernel_rfl))] at e13
   have e15 : a.tmps[15]? = some (.slice A4 x.f4.length c4) := by rw [ha]; exact putSel_on (e := (6, 15, .slice A4 x.f4.length c4)) 4 rfl rfl (hon 6 (by kernel_rfl)) rfl
   replace ha := Aside0.mk ha
   have BW := Aside0.mk Q_BW
   have K3 := Aside0.mk (Q_K3 (hon 3 (by kernel_rfl)))
   have E4 := Aside0.mk (Q_E4 (hon 4 (by kernel_rfl)) hb_)
   have hbw : Below w.heap.size w w' := H0.out.1.trans (BW.out.mono H0.out.1.size)
   refine Kd.R_append_rows_step (heldK S w) (w0 := w0) w0.heap.size (by rfl) (.tmp 13) (.tmp 15) 23 25 (.agg #[.int .i64 0, .string ⟨#[]⟩, .string ⟨#[]⟩, .slice none 0 0, .slice none 0 0]) 88 rfl Tryz.underlying23 Tryz.infoNode rfl (by show 0 < 5; decide) (by decide) (.slice (some ⟨g4, 0, none⟩) 0 0) [] x.f4 A4 x.f4.length c4 (fun _ => True) (fun _ => False) (eval_of e13) (eval_of e15) E4.out (show ReadsRow ((heldK S w).K w') 5 w' A4 x.f4.length x.f4 from C_to_held hbw HG.out.2.2) (fun _ _ h => h) (fun _ h => h.elim) (fun _ _ => trivial) BW.out BW.out.size (by have := HM.out; simp; omega) ?_
   intro ivn w1 hr1 hb1 hg1 hat1
   obtain ⟨ian, icn, rfl, _, _⟩ := Kd.R_reads (xs := x.f4) hr1
   have hd2 : b 9 = true → some ob ≠ (Value.slice ian x.f4.length icn).ownBlock := fun q9 e => by
    have h1 := Q_D1 (hon 4 (by kernel_rfl)) q9 hb_
    have h2 := lt_of_block (Q_O9 q9 (hoff 10 (by kernel_rfl))).1
    rcases hat1 with h | ⟨b', h, hl⟩
    ·have e2 := e.trans h
     have q : ob = g4 := by simpa [Value.ownBlock] using e2
     exact h1 q.symm
    ·have e2 := e.trans h
     have q : ob = b' := by simpa using e2
     omega
   refine hK.out _ _ ⟨g0, g4, ob, ka, kc, ian, icn, m0_, m3_, m4_, (.slice ian x.f4.length icn), m8_, m9_, (by rw [ha.out]; exact putSel_upk 5 hb_ rfl rfl rfl), hb1, fun _ h1_ => absurd ((hon 3 (by kernel_rfl)).symm.trans h1_) (by decide), fun _ => R_flatmove (fun h => h) K3.out (fun k hk => hg1.block k (R_own K3.out k hk).2.1 (R_types_ne K3.out E4.out (by decide) k hk)) (fun _ _ => trivial), fun _ h1_ => absurd ((up_self b 7).symm.trans h1_) (by decide), fun _ => hr1, fun h0_ h1_ => ⟨(hg1.block _ (lt_of_block (Q_O9 h0_ h1_).1) (fun e => by have q : ob = g4 := (by simpa [Value.ownBlock] using e); exact Q_D1 (hon 4 (by kernel_rfl)) h0_ hb_ q.symm)).trans (Q_O9 h0_ h1_).1, (Q_O9 h0_ h1_).2⟩, fun _ _ h2_ => absurd ((up_self b 7).symm.trans h2_) (by decide), fun _ _ => (by rename_i q7 q9; exact hd2 q9), fun h0_ => absurd ((hoff 10 (by kernel_rfl)).symm.trans h0_) (by decide), Q_X0_, Q_X3_, Q_X4_, fun _ => rfl, fun h0_ => absurd ((hoff 8 (by kernel_rfl)).symm.trans h0_) (by decide), Q_X9_⟩
  refine steps_cons ?_ ?_
  ·rintro b a w' ⟨g0, g4, ob, ka, kc, ia, ic, m0_, m3_, m4_, m7_, m8_, m9_, ha, Q_BW, Q_E0, Q_K3, Q_E4, Q_I7, Q_O9, Q_D1, Q_D2, Q_OX, Q_X0_, Q_X3_, Q_X4_, Q_X7_, Q_X8_, Q_X9_⟩ hb_ hon hoff
   refine ⟨_, rfl, fun K hK => ?_⟩
   have e12 : a.tmps[12]? = some (m3_) := by rw [ha]; exact putSel_on (e := (3, 12, m3_)) 2 rfl rfl (hon 3 (by kernel_rfl)) rfl
   rw [Q_X3_ (hon 3 (by kernel_rfl))] at e12
   have e16 : a.tmps[16]? = some (m7_) := by rw [ha]; exact putSel_on (e := (7, 16, m7_)) 5 rfl rfl (hon 7 (by kernel_rfl)) rfl
   rw [Q_X7_ (hon 7 (by kernel_rfl))] at e16
   replace ha := Aside0.mk ha
   have BW := Aside0.mk Q_BW
   have K3 := Aside0.mk (Q_K3 (hon 3 (by kernel_rfl)))
   have I7 := Aside0.mk (Q_I7 (hon 7 (by kernel_rfl)))
   refine value_ (w1 := w') (v := .agg #[.int .i64 2, .string ⟨#[]⟩, .string ⟨#[]⟩, .slice ka x.f3.length kc, .slice ia x.f4.length ic]) (by rfl) rfl ?_ ?_
   ·go_simp
    (try simp only [i64_w])
    try rfl
   refine hK.out _ _ ⟨g0, g4, ob, ka, kc, ia, ic, m0_, m3_, m4_, m7_, (.agg #[.int .i64 2, .string ⟨#[]⟩, .string ⟨#[]⟩, .slice ka x.f3.length kc, .slice ia x.f4.length ic]), m9_, (by rw [ha.out]; exact putSel_upk 6 hb_ rfl rfl rfl), Q_BW, fun _ h1_ => absurd ((hon 3 (by kernel_rfl)).symm.trans h1_) (by decide), Q_K3, fun _ h1_ => absurd ((hon 7 (by kernel_rfl)).symm.trans h1_) (by decide), Q_I7, Q_O9, fun _ _ h2_ => absurd ((hon 7 (by kernel_rfl)).symm.trans h2_) (by decide), Q_D2, fun h0_ => absurd ((hoff 10 (by kernel_rfl)).symm.trans h0_) (by decide), Q_X0_, Q_X3_, Q_X4_, Q_X7_, fun _ => rfl, Q_X9_⟩
  refine steps_cons ?_ ?_
  ·rintro b a w' ⟨g0, g4, ob, ka, kc, ia, ic, m0_, m3_, m4_, m7_, m8_, m9_, ha, Q_BW, Q_E0, Q_K3, Q_E4, Q_I7, Q_O9, Q_D1, Q_D2, Q_OX, Q_X0_, Q_X3_, Q_X4_, Q_X7_, Q_X8_, Q_X9_⟩ hb_ hon hoff
   refine ⟨_, rfl, fun K hK => ?_⟩
   replace ha := Aside0.mk ha
   have BW := Aside0.mk Q_BW
   have hb3 : Below w'.heap.size w' (w'.alloc (.cells #[.int .i64 0, .string ⟨#[]⟩, .string ⟨#[]⟩, .slice none 0 0, .slice none 0 0] 25)) := (Below.refl _ _).alloc (Nat.le_refl _) _
   have hn3 := heap_at (w := w') (.cells #[.int .i64 0, .string ⟨#[]⟩, .string ⟨#[]⟩, .slice none 0 0, .slice none 0 0] 25 (0, 0)) rfl
   refine value_ (w1 := w'.alloc (.cells #[.int .i64 0, .string ⟨#[]⟩, .string ⟨#[]⟩, .slice none 0 0, .slice none 0 0] 25)) (v := .pointer (some ⟨w'.heap.size, 0, none⟩)) (by rfl) rfl ?_ ?_
   ·go_simp
   refine hK.out _ _ ⟨g0, g4, w'.heap.size, ka, kc, ia, ic, m0_, m3_, m4_, m7_, m8_, (.pointer (some ⟨w'.heap.size, 0, none⟩)), (by rw [ha.out]; exact putSel_upk 7 hb_ rfl rfl rfl), BW.out.trans (hb3.mono BW.out.size), fun h0_ h1_ => R_upd (Q_E0 h0_ h1_) (fun k _ _ hk => hb3.block k hk), fun h0_ => R_upd (Q_K3 h0_) (fun k _ _ hk => hb3.block k hk), fun h0_ h1_ => R_upd (Q_E4 h0_ h1_) (fun k _ _ hk => hb3.block k hk), fun h0_ => R_upd (Q_I7 h0_) (fun k _ _ hk => hb3.block k hk), fun _ _ => ⟨hn3, BW.out.size⟩, fun _ _ _ => (by rename_i q4 q9 q7; have := (R_own (Q_E4 q4 q7) g4 rfl).2.1; omega), fun _ _ => (by rename_i q7 q9; intro e; have := (R_own (Q_I7 q7) _ e.symm).2.1; omega), fun h0_ => absurd ((hoff 10 (by kernel_rfl)).symm.trans h0_) (by decide), Q_X0_, Q_X3_, Q_X4_, Q_X7_, Q_X8_, fun _ => rfl⟩
  refine steps_cons ?_ ?_
  ·rintro b a w' ⟨g0, g4, ob, ka, kc, ia, ic, m0_, m3_, m4_, m7_, m8_, m9_, ha, Q_BW, Q_E0, Q_K3, Q_E4, Q_I7, Q_O9, Q_D1, Q_D2, Q_OX, Q_X0_, Q_X3_, Q_X4_, Q_X7_, Q_X8_, Q_X9_⟩ hb_ hon hoff
   refine ⟨_, rfl, fun K hK => ?_⟩
   have e7 : a.tmps[7]? = some (m9_) := by rw [ha]; exact putSel_on (e := (9, 7, m9_)) 7 rfl rfl (hon 9 (by kernel_rfl)) rfl
   rw [Q_X9_ (hon 9 (by kernel_rfl))] at e7
   have e17 : a.tmps[17]? = some (m8_) := by rw [ha]; exact putSel_on (e := (8, 17, m8_)) 6 rfl rfl (hon 8 (by kernel_rfl)) rfl
   rw [Q_X8_ (hon 8 (by kernel_rfl))] at e17
   replace ha := Aside0.mk ha
   have BW := Aside0.mk Q_BW
   have K3 := Aside0.mk (Q_K3 (hon 3 (by kernel_rfl)))
   have I7 := Aside0.mk (Q_I7 (hon 7 (by kernel_rfl)))
   have O9 := Aside0.mk (Q_O9 (hon 9 (by kernel_rfl)) hb_)
   have D2 := Aside0.mk (Q_D2 (hon 7 (by kernel_rfl)) (hon 9 (by kernel_rfl)))
   have OA : Aside0 (w'.heap[ob]? = some (.cells #[.int .i64 0, .string ⟨#[]⟩, .string ⟨#[]⟩, .slice none 0 0, .slice none 0 0] 25 (0, 0))) := ⟨O9.out.1⟩
   obtain ⟨cr0, cr1, cr2, cr3, cr4, zr0, zr1, zr2, zr3, zr4⟩ := fc_ OA.out
   rw [if_pos (by rfl)]
   go_simp
   obtain ⟨w5, e5, hf5, hc5⟩ := set5 (v0 := .int .i64 2) (v1 := .string ⟨#[]⟩) (v2 := .string ⟨#[]⟩) (v3 := .slice ka x.f3.length kc) (v4 := .slice ia x.f4.length ic) O9.out.1
   rw [e5]
   clear cr0 cr1 cr2 cr3 cr4 zr0 zr1 zr2 zr3 zr4 e5
   refine hK.out _ _ ⟨g0, g4, ob, ka, kc, ia, ic, m0_, m3_, m4_, m7_, m8_, m9_, (by rw [ha.out]; exact putSel_none (v := undef) rfl), BW.out.trans (hc5.below BW.out.size (fun k e => by have := O9.out.2; omega)), fun _ h1_ => absurd ((hon 3 (by kernel_rfl)).symm.trans h1_) (by decide), fun _ => R_flatmove (fun h => h) K3.out (fun k hk => hc5.block k (R_own K3.out k hk).2.1 (fun e => R_ne_block K3.out O9.out.1 (by decide) (by rw [← e]; exact hk.symm))) (fun _ _ => trivial), fun _ h1_ => absurd ((hon 7 (by kernel_rfl)).symm.trans h1_) (by decide), fun _ => R_flatmove (fun h => h) I7.out (fun k hk => hc5.block k (R_own I7.out k hk).2.1 (fun e => D2.out (by rw [← e]; exact hk.symm))) (fun _ _ => trivial), fun _ h1_ => absurd ((up_self b 10).symm.trans h1_) (by decide), fun _ _ h2_ => absurd ((hon 7 (by kernel_rfl)).symm.trans h2_) (by decide), Q_D2, fun _ => ⟨hf5, O9.out.2⟩, Q_X0_, Q_X3_, Q_X4_, Q_X7_, Q_X8_, Q_X9_⟩
  exact steps_nil
 rintro b a w' hall ⟨g0, g4, ob, ka, kc, ia, ic, m0_, m3_, m4_, m7_, m8_, m9_, ha, Q_BW, Q_E0, Q_K3, Q_E4, Q_I7, Q_O9, Q_D1, Q_D2, Q_OX, Q_X0_, Q_X3_, Q_X4_, Q_X7_, Q_X8_, Q_X9_⟩
 clear BW
 have hb0_ := hall 0 (by kernel_rfl)
 have hb2_ := hall 2 (by kernel_rfl)
 have hb3_ := hall 3 (by kernel_rfl)
 have hb4_ := hall 4 (by kernel_rfl)
 have hb6_ := hall 6 (by kernel_rfl)
 have hb7_ := hall 7 (by kernel_rfl)
 have hb8_ := hall 8 (by kernel_rfl)
 have hb9_ := hall 9 (by kernel_rfl)
 have hb10_ := hall 10 (by kernel_rfl)
 subst ha
 obtain rfl := Q_X0_ hb0_
 obtain rfl := Q_X3_ hb3_
 obtain rfl := Q_X4_ hb4_
 obtain rfl := Q_X7_ hb7_
 obtain rfl := Q_X8_ hb8_
 obtain rfl := Q_X9_ hb9_
 simp only [putSel, hb0_, hb2_, hb3_, hb4_, hb6_, hb7_, hb8_, hb9_, hb10_, if_true, Act.put, List.setIfInBounds_toArray, List.set_cons_zero, List.set_cons_succ]
 have BW := Aside0.mk Q_BW
 clear Q_BW
 clear Q_E0
 have K3 := Aside0.mk (Q_K3 hb3_)
 clear Q_K3
 clear Q_E4
 have I7 := Aside0.mk (Q_I7 hb7_)
 clear Q_I7
 clear Q_O9
 clear Q_D1
 have D2 := Aside0.mk (Q_D2 hb7_ hb9_)
 clear Q_D2
 have OX := Aside0.mk (Q_OX hb10_)
 clear Q_OX
 clear hall hb0_ hb2_ hb3_ hb4_ hb6_ hb7_ hb8_ hb9_ hb10_
 obtain ⟨w1, hw1⟩ : ∃ w1, w1 = w' := ⟨_, rfl⟩
 rw [← hw1] at BW K3 I7 OX ⊢
 clear hw1
 have hx1 := (BW.out.block _ (lt_of_block H0.out.2.1)).trans H0.out.2.1
 have H1 := Aside0.mk (And.intro (H0.out.1.trans (BW.out.mono H0.out.1.size)) (And.intro hx1 (And.intro ((BW.out.block _ (lt_of_block H0.out.2.2.1)).trans H0.out.2.2.1) ((BW.out.block _ (lt_of_block H0.out.2.2.2.1)).trans H0.out.2.2.2.1))))
 have cx3 : w1.cell? ⟨w.heap.size, 3, none⟩ = some (.slice A3 x.f3.length c3) := by rw [cell_of_block hx1]; rfl
 clear hx1
 go_wp2_with fail
 refine (place_calls w1 A3 c3 x.f3 nm (Kd.C_below HG.out.1 H1.out.1) HG.out.2.1).mono ?_
 rintro e w2 ⟨rfl, ⟨⟨n1, rfl⟩⟩⟩
 have hb2 : Below w1.heap.size w1 (w1.drewN n1) := pw_below_drewN (Below.refl _ _) n1
 have hk2 : ∀ k : Nat, (w1.drewN n1).heap[k]? = w1.heap[k]? := fun k => rfl
 generalize w1.drewN n1 = w2 at hb2 hk2 ⊢
 have K2 := Aside0.mk (R_flatmove (w1 := w2) (ok' := fun _ => True) (fun h => h) K3.out (fun k _ => hk2 k) (fun _ _ => trivial))
 have I2 := Aside0.mk (R_flatmove (w1 := w2) (ok' := fun _ => True) (fun h => h) I7.out (fun k _ => hk2 k) (fun _ _ => trivial))
 have O2 : Aside0 (inVar w2 ob ⟨2, ⟨#[]⟩, ⟨#[]⟩, x.f3, x.f4⟩ ka kc ia ic) := ⟨(hk2 ob).trans OX.out.1⟩
 have H2 := Aside0.mk (And.intro (H1.out.1.trans (hb2.mono H1.out.1.size)) (And.intro ((hk2 _).trans H1.out.2.1) (And.intro ((hk2 _).trans H1.out.2.2.1) ((hk2 _).trans H1.out.2.2.2))))
 have HS := Aside0.mk (And.intro H0.out.2.2.2.2 (And.intro OX.out.2 D2.out))
 clear hb2 hk2 cx3 BW K3 I7 OX D2 H1
 obtain ⟨p, hp⟩ : ∃ p, p = plc x.f3 nm := ⟨_, rfl⟩
 rw [← hp]
 by_cases h0 : 0 ≤ p
 ·obtain ⟨i, hpi, hi, hie⟩ := plc_pos x.f3 nm (by rw [← hp]; exact h0)
  obtain rfl : p = (i : Int) := by rw [hp, hpi]
  have hi4 : i < x.f4.length := by have := HM.out; omega
  have hwi : wi x nm v = ⟨2, ⟨#[]⟩, ⟨#[]⟩, x.f3, x.f4.set i v⟩ := by unfold wi; rw [hpi, if_pos (by omega), Int.toNat_natCast]
  obtain ⟨inner, ho⟩ := Kd.R_own I2.out
  obtain ⟨g, cap, hgc, _, _⟩ := ho.form (by omega)
  obtain ⟨rfl, rfl⟩ : ia = some ⟨g, 0, none⟩ ∧ ic = cap := by simpa using hgc
  have HW := Aside0.mk hwi
  have hn4 : x.f4.length ≤ 9223372036854775807 := by have := HM.out; omega
  have HQ2 := Aside0.mk H2.out.2.2.1
  clear hp hpi hie hwi inner ho hgc h0
  obtain ⟨cv0, cv1, cv2, cv3, cv4, zv0, zv1, zv2, zv3, zv4⟩ := fc_ HQ2.out
  obtain ⟨co0, co1, co2, co3, co4, zo0, zo1, zo2, zo3, zo4⟩ := fc_ O2.out
  have HNE : Aside0 (some (w.heap.size + 1 + 1) ≠ some g) := ⟨fun e => by
   have q := (R_own I2.out g rfl).1
   have h3 := HS.out.1
   have e' : w.heap.size + 1 + 1 = g := by simpa using e
   omega⟩
  obtain ⟨cc, hcl, _, hcc, _⟩ := Kd.R_elem I2.out z25 (i : Int) (by omega) (by omega)
  have HCC := Aside0.mk (And.intro hcl hcc)
  clear hcl hcc
  go_wp2_with ((with_reducible refine gate_store (t := 25) (p := 28) rfl ?_); (refine Kd.R_store (heldK S w) (w0 := w2) w0.heap.size rfl rfl 25 (.tmp 28) (.tmp 27) rfl 25 (i : Int) 0 x.f4 v (nodeV v V3 e3 V4 e4) [.int .i64 v.f0, .string v.f1, .string v.f2, .slice V3 v.f3.length e3, .slice V4 v.f4.length e4] cc (fun _ => True) (fun _ => False) rfl (by show i * 5 = (i : Int).toNat * 5 + 0; rw [Int.toNat_natCast]; rfl) rfl rfl (by kernel_rfl) (by simp [Value.oneCell']) I2.out (by omega) (by omega) HCC.out.1 HCC.out.2 (by show 0 + 5 ≤ 5; omega) ?hM (fun _ h => h.elim) (Below.refl _ _) ?_); (case hM => (rw [List.take_zero, List.nil_append, List.drop_eq_nil_of_le (by rw [HCC.out.1]; exact Nat.le_refl _), List.append_nil]; exact HK.out.2)); (intro w3 hr3 hb3 hg3); (rw [Int.toNat_natCast] at hr3); (have H3 := Aside0.mk (And.intro hr3 hg3)); (have O3 : Aside0 (inVar w3 ob ⟨2, ⟨#[]⟩, ⟨#[]⟩, x.f3, x.f4⟩ ka kc (some ⟨g, 0, none⟩) ic) := ⟨(hg3.block ob (lt_of_block O2.out) HS.out.2.2).trans O2.out⟩); (have R3 := Aside0.mk ((hg3.block _ (lt_of_block H2.out.2.2.2) HNE.out).trans H2.out.2.2.2)); clear hr3 hb3 hg3 cv0 cv1 cv2 cv3 cv4 co0 co1 co2 co3 co4; obtain ⟨cp0, cp1, cp2, cp3, cp4, zp0, zp1, zp2, zp3, zp4⟩ := fc_ O3.out; have cq0 := (cell_of_block (i := 0) R3.out).trans (show _ = some _ from rfl); have cq1 := (cell_of_block (i := 1) R3.out).trans (show _ = some _ from rfl); have cq2 := (cell_of_block (i := 2) R3.out).trans (show _ = some _ from rfl); have cq3 := (cell_of_block (i := 3) R3.out).trans (show _ = some _ from rfl); have cq4 := (cell_of_block (i := 4) R3.out).trans (show _ = some _ from rfl); have zq0 := frozen_of_block (i := 0) R3.out; have zq1 := frozen_of_block (i := 1) R3.out; have zq2 := frozen_of_block (i := 2) R3.out; have zq3 := frozen_of_block (i := 3) R3.out; have zq4 := frozen_of_block (i := 4) R3.out)
  obtain ⟨wf, ef, hf, hcf⟩ := set5 (v0 := .int .i64 2) (v1 := .string ⟨#[]⟩) (v2 := .string ⟨#[]⟩) (v3 := .slice ka x.f3.length kc) (v4 := .slice (some ⟨g, 0, none⟩) x.f4.length ic) R3.out
  rw [ef]
  have HF := Aside0.mk hf
  obtain ⟨cf0, cf1, cf2, cf3, cf4, zf0, zf1, zf2, zf3, zf4⟩ := fc_ HF.out
  have hb3 : Below w.heap.size w w3 := H2.out.1.trans (Chg.below (S := fun k => some k = some g) ((Chg.refl _ w2).grown H3.out.2 (fun k e => .inl e.symm)) H2.out.1.size (fun k e => by
   have q := (R_own I2.out g rfl).1
   have h3 := HS.out.1
   have e' : k = g := by simpa using e
   omega))
  have hbf : Below w.heap.size w wf := hb3.trans (hcf.below hb3.size (fun k e => by omega))
  have hk3 : Kd.string.R 9 w3 w0.heap.size (fun _ => True) (.slice ka x.f3.length kc) x.f3 := R_flatmove (fun h => h) K2.out (fun k hk => H3.out.2.block k (R_own K2.out k hk).2.1 (R_types_ne K2.out I2.out (by decide) k hk)) (fun _ _ => trivial)
  have hkf : Kd.string.R 9 wf w0.heap.size (fun _ => True) (.slice ka x.f3.length kc) x.f3 := R_upd hk3 (fun k _ hb hlt => hcf.block k hlt (by have := HS.out.1; omega))
  have hif : (heldK S w).R 25 wf w0.heap.size (fun _ => True) (.slice (some ⟨g, 0, none⟩) x.f4.length ic) (x.f4.set i v) := R_upd H3.out.1 (fun k _ hb hlt => hcf.block k hlt (by have := HS.out.1; omega))
  have hkk : nodeR S wf ⟨2, ⟨#[]⟩, ⟨#[]⟩, x.f3, x.f4.set i v⟩ ka kc (some ⟨g, 0, none⟩) ic := fun W' hW => by
   have hns : ∀ k, w0.heap.size ≤ k → ¬ S k := fun k hb q => by have := HS.out.1; have := HSS.out k q; omega
   obtain ⟨_, lk, hCK⟩ := Kd.R_reads' (R_upd (w1 := W') hkf (fun k _ hb hlt => hW.block k hlt (hns k hb)))
   obtain ⟨li0, li, hCI⟩ := Kd.R_reads' (R_upd (w1 := W') hif (fun k _ hb hlt => hW.block k hlt (hns k hb)))
   exact k25_mk W' ⟨2, ⟨#[]⟩, ⟨#[]⟩, x.f3, x.f4.set i v⟩ lk hCK (show (x.f4.set i v).length ≤ ic by rw [← li0]; exact li) (C_of_held ((Chg.of_below hbf).trans hW (fun k q => .inl q)) hCI)
  have HFIN := Aside0.mk (And.intro hkk hbf)
  clear hb3 hbf hk3 hkf hif hkk hcf ef hf
  refine bodyPost_ret (v := nodeV ⟨2, ⟨#[]⟩, ⟨#[]⟩, x.f3, x.f4.set i v⟩ ka kc (some ⟨g, 0, none⟩) ic) (by simp [results, Tryz.results18, go_sem, cf0, cf1, cf2, cf3, cf4]) rfl ?_
  rw [HW.out]
  exact ⟨_, _, _, _, rfl, HFIN.out.1, HFIN.out.2⟩
 ·have hnin : nm ∉ x.f3 := fun h => h0 (by rw [hp]; exact plc_mem h)
  have hpb : decide (0 ≤ p) = false := by simp; omega
  have hwi : wi x nm v = ⟨2, ⟨#[]⟩, ⟨#[]⟩, x.f3 ++ [nm], x.f4 ++ [v]⟩ := wi_new hnin
  have HW := Aside0.mk hwi
  clear hp hnin hwi
  go_wp2_with fail
  obtain ⟨ks2, hks2⟩ : ∃ l, l = x.f3 ++ [nm] := ⟨_, rfl⟩
  obtain ⟨is2, his2⟩ : ∃ l, l = x.f4 ++ [v] := ⟨_, rfl⟩
  have HL := Aside0.mk (And.intro hks2 his2)
  clear hks2 his2
  have BW : Aside0 (Below w0.heap.size w2 w2.drew) := ⟨(Below.refl _ _).drew⟩
  have K2' : Aside0 (Kd.string.R 9 w2.drew w0.heap.size (fun _ => True) (.slice ka x.f3.length kc) x.f3) := ⟨R_upd K2.out (fun _ _ _ _ => rfl)⟩
  have I2' : Aside0 ((heldK S w).R 25 w2.drew w0.heap.size (fun _ => True) (.slice ia x.f4.length ic) x.f4) := ⟨R_upd I2.out (fun _ _ _ _ => rfl)⟩
  have O2' : Aside0 (inVar w2.drew ob ⟨2, ⟨#[]⟩, ⟨#[]⟩, x.f3, x.f4⟩ ka kc ia ic) := ⟨O2.out⟩
  clear K2 I2 O2
  have K2 := K2'
  have I2 := I2'
  have O2 := O2'
  have DI := Aside0.mk HS.out.2.2
  have hbs := H2.out.1.size
  clear K2' I2' O2'
  refine start_ (n := 14) (S := fun w' => True) (ds := []) #[false, false, false, false, false, false, false, false, false, false, false, false, false, false] (by kernel_rfl) rfl rfl trivial (fun hHeld => ?_)
  refine with_tabW (T := with6.T) (B := with6.B) with6.tab with6.bits (fun HT_ HW_ => ?_)
  refine ps_ 0 30 HT_ ?_
  refine ps_ 2 32 HT_ ?_
  refine ps_ 5 35 HT_ ?_
  refine inv_at [1, 3, 4, 6, 7, 8, 9, 10, 11, 12, 13] (fun a0_ b a w' => ∃ (g3 : Nat) (g8 : Nat) (ka2 : Option Addr) (kc2 : Nat) (ia2 : Option Addr) (ic2 : Nat) (m3_ : Value) (m4_ : Value) (m8_ : Value) (m9_ : Value), a = putSel a0_ b [(1, 31, .slice ka x.f3.length kc), (3, 33, m3_), (4, 34, m4_), (6, 36, .slice ia x.f4.length ic), (7, 37, nodeV v V3 e3 V4 e4), (8, 38, m8_), (9, 39, m9_), (10, 40, .pointer (some ⟨ob, 3, none⟩)), (12, 41, .pointer (some ⟨ob, 4, none⟩))] ∧ (Below w0.heap.size w2 w') ∧ (b 4 = false → Kd.string.R 9 w' w0.heap.size (fun _ => True) (.slice ka x.f3.length kc) x.f3) ∧ (b 4 = true → Kd.string.R 9 w' w0.heap.size (fun _ => True) (.slice ka2 ks2.length kc2) ks2) ∧ (b 9 = false → (heldK S w).R 25 w' w0.heap.size (fun _ => True) (.slice ia x.f4.length ic) x.f4) ∧ (b 9 = true → (heldK S w).R 25 w' w0.heap.size (fun _ => True) (.slice ia2 is2.length ic2) is2) ∧ (b 9 = true → some ob ≠ (Value.slice ia2 is2.length ic2).ownBlock) ∧ (b 3 = true → b 4 = false → w'.heap[g3]? = some (.cells #[.string nm] 9 (0, 0))) ∧ (b 8 = true → b 9 = false → w'.heap[g8]? = some (.cells #[.int .i64 v.f0, .string v.f1, .string v.f2, .slice V3 v.f3.length e3, .slice V4 v.f4.length e4] 25 (0, 0))) ∧ (b 11 = false → w'.heap[ob]? = some (.cells #[.int .i64 2, .string ⟨#[]⟩, .string ⟨#[]⟩, .slice ka x.f3.length kc, .slice ia x.f4.length ic] 25 (0, 0))) ∧ (b 11 = true → b 13 = false → w'.heap[ob]? = some (.cells #[.int .i64 2, .string ⟨#[]⟩, .string ⟨#[]⟩, .slice ka2 ks2.length kc2, .slice ia x.f4.length ic] 25 (0, 0))) ∧ (b 13 = true → w'.heap[ob]? = some (.cells #[.int .i64 2, .string ⟨#[]⟩, .string ⟨#[]⟩, .slice ka2 ks2.length kc2, .slice ia2 is2.length ic2] 25 (0, 0))) ∧ (b 3 = true → (m3_ : Value) = .slice (some ⟨g3, 0, none⟩) 1 1) ∧ (b 4 = true → (m4_ : Value) = .slice ka2 ks2.length kc2) ∧ (b 8 = true → (m8_ : Value) = .slice (some ⟨g8, 0, none⟩) 1 1) ∧ (b 9 = true → (m9_ : Value) = .slice ia2 is2.length ic2)) HT_.out HW_.out (by kernel_rfl) (by kernel_rfl) ?_ ?_ ?_
  ·exact ⟨0, 0, none, 0, none, 0, .bool false, .bool false, .bool false, .bool false, by simp only [putSel, Bool.false_eq_true, if_false], BW.out, fun _ => K2.out, fun h_ => absurd h_ (by decide), fun _ => I2.out, fun h_ => absurd h_ (by decide), fun h_ => absurd h_ (by decide), fun h_ => absurd h_ (by decide), fun h_ => absurd h_ (by decide), fun _ => O2.out, fun h_ => absurd h_ (by decide), fun h_ => absurd h_ (by decide), fun h_ => absurd h_ (by decide), fun h_ => absurd h_ (by decide), fun h_ => absurd h_ (by decide), fun h_ => absurd h_ (by decide)⟩
  ·skip
   clear BW I2 K2 O2
   refine steps_cons ?_ ?_
   ·rintro b a w' ⟨g3, g8, ka2, kc2, ia2, ic2, m3_, m4_, m8_, m9_, ha, Q_BW, Q_K2, Q_K4, Q_I2, Q_I9, Q_D9, Q_B3, Q_B8, Q_O2, Q_OA, Q_OB, Q_X3_, Q_X4_, Q_X8_, Q_X9_⟩ hb_ hon hoff
    refine ⟨_, rfl, fun K hK => ?_⟩
    have e30 : a.tmps[30]? = some (.pointer (some ⟨ob, 3, none⟩)) := by rw [ha]; exact (putSel_off rfl).trans rfl
    replace ha := Aside0.mk ha
    have BW := Aside0.mk Q_BW
    have K2 := Aside0.mk (Q_K2 (hoff 4 (by kernel_rfl)))
    have I2 := Aside0.mk (Q_I2 (hoff 9 (by kernel_rfl)))
    have O2 := Aside0.mk (Q_O2 (hoff 11 (by kernel_rfl)))
    have co3 : w'.cell? ⟨ob, 3, none⟩ = some (.slice ka x.f3.length kc) := by rw [cell_of_block O2.out]; rfl
    refine value_ (w1 := w') (v := .slice ka x.f3.length kc) (by rfl) rfl ?_ ?_
    ·go_simp
     (try simp only [i64_w])
     try rfl
    refine hK.out _ _ ⟨g3, g8, ka2, kc2, ia2, ic2, m3_, m4_, m8_, m9_, (by rw [ha.out]; exact putSel_upk 0 hb_ rfl rfl rfl), Q_BW, Q_K2, fun h0_ => absurd ((hoff 4 (by kernel_rfl)).symm.trans h0_) (by decide), Q_I2, fun h0_ => absurd ((hoff 9 (by kernel_rfl)).symm.trans h0_) (by decide), fun h0_ => absurd ((hoff 9 (by kernel_rfl)).symm.trans h0_) (by decide), Q_B3, Q_B8, Q_O2, fun h0_ _ => absurd ((hoff 11 (by kernel_rfl)).symm.trans h0_) (by decide), fun h0_ => absurd ((hoff 13 (by kernel_rfl)).symm.trans h0_) (by decide), Q_X3_, fun h0_ => absurd ((hoff 4 (by kernel_rfl)).symm.trans h0_) (by decide), Q_X8_, fun h0_ => absurd ((hoff 9 (by kernel_rfl)).symm.trans h0_) (by decide)⟩
   refine steps_cons ?_ ?_
   ·rintro b a w' ⟨g3, g8, ka2, kc2, ia2, ic2, m3_, m4_, m8_, m9_, ha, Q_BW, Q_K2, Q_K4, Q_I2, Q_I9, Q_D9, Q_B3, Q_B8, Q_O2, Q_OA, Q_OB, Q_X3_, Q_X4_, Q_X8_, Q_X9_⟩ hb_ hon hoff
    refine ⟨_, rfl, fun K hK => ?_⟩
    have e32 : a.tmps[32]? = some (.string nm) := by rw [ha]; exact (putSel_off rfl).trans rfl
    replace ha := Aside0.mk ha
    have BW := Aside0.mk Q_BW
    have K2 := Aside0.mk (Q_K2 (hoff 4 (by kernel_rfl)))
    have I2 := Aside0.mk (Q_I2 (hoff 9 (by kernel_rfl)))
    have O2 := Aside0.mk (Q_O2 (hoff 11 (by kernel_rfl)))
    have hb3 : Below w'.heap.size w' (w'.alloc (.cells #[.string nm] 9)) := (Below.refl _ _).alloc (Nat.le_refl _) _
    have hn3 : (w'.alloc (.cells #[.string nm] 9)).heap[w'.heap.size]? = some (.cells #[.string nm] 9 (0, 0)) := heap_at _ rfl
    refine value_ (w1 := w'.alloc (.cells #[.string nm] 9)) (v := .slice (some ⟨w'.heap.size, 0, none⟩) 1 1) (by rfl) rfl ?_ ?_
    ·go_simp
    refine hK.out _ _ ⟨w'.heap.size, g8, ka2, kc2, ia2, ic2, (.slice (some ⟨w'.heap.size, 0, none⟩) 1 1), m4_, m8_, m9_, (by rw [ha.out]; exact putSel_upk 1 hb_ rfl rfl rfl), BW.out.trans (hb3.mono (Nat.le_trans (Nat.le_of_lt (by have := lt_of_block (Q_O2 (hoff 11 (by kernel_rfl))); have := HS.out.2.1; omega)) (Nat.le_refl _))), fun _ => R_upd K2.out (fun k _ _ hk => hb3.block k hk), fun h0_ => absurd ((hoff 4 (by kernel_rfl)).symm.trans h0_) (by decide), fun _ => R_upd I2.out (fun k _ _ hk => hb3.block k hk), fun h0_ => absurd ((hoff 9 (by kernel_rfl)).symm.trans h0_) (by decide), fun h0_ => absurd ((hoff 9 (by kernel_rfl)).symm.trans h0_) (by decide), fun _ _ => hn3, fun h0_ h1_ => (hb3.block _ (lt_of_block (Q_B8 h0_ h1_))).trans (Q_B8 h0_ h1_), fun _ => (hb3.block _ (lt_of_block O2.out)).trans O2.out, fun h0_ _ => absurd ((hoff 11 (by kernel_rfl)).symm.trans h0_) (by decide), fun h0_ => absurd ((hoff 13 (by kernel_rfl)).symm.trans h0_) (by decide), fun _ => rfl, fun h0_ => absurd ((hoff 4 (by kernel_rfl)).symm.trans h0_) (by decide), Q_X8_, fun h0_ => absurd ((hoff 9 (by kernel_rfl)).symm.trans h0_) (by decide)⟩
   refine steps_cons ?_ ?_
   ·rintro b a w' ⟨g3, g8, ka2, kc2, ia2, ic2, m3_, m4_, m8_, m9_, ha, Q_BW, Q_K2, Q_K4, Q_I2, Q_I9, Q_D9, Q_B3, Q_B8, Q_O2, Q_OA, Q_OB, Q_X3_, Q_X4_, Q_X8_, Q_X9_⟩ hb_ hon hoff
    refine ⟨_, rfl, fun K hK => ?_⟩
    have e31 : a.tmps[31]? = some (.slice ka x.f3.length kc) := by rw [ha]; exact putSel_on (e := (1, 31, .slice ka x.f3.length kc)) 0 rfl rfl (hon 1 (by kernel_rfl)) rfl
    have e33 : a.tmps[33]? = some (m3_) := by rw [ha]; exact putSel_on (e := (3, 33, m3_)) 1 rfl rfl (hon 3 (by kernel_rfl)) rfl
    rw [Q_X3_ (hon 3 (by kernel_rfl))] at e33
    replace ha := Aside0.mk ha
    have BW := Aside0.mk Q_BW
    have K2 := Aside0.mk (Q_K2 hb_)
    have I2 := Aside0.mk (Q_I2 (hoff 9 (by kernel_rfl)))
    have B3 := Aside0.mk (Q_B3 (hon 3 (by kernel_rfl)) hb_)
    have O2 := Aside0.mk (Q_O2 (hoff 11 (by kernel_rfl)))
    have hsz : w0.heap.size ≤ w'.heap.size := by have := lt_of_block O2.out; have := HS.out.2.1; omega
    refine Kd.R_append_rows_step Kd.string (w0 := w2) w0.heap.size (by rfl) (.tmp 31) (.tmp 33) 22 9 (.string ⟨#[]⟩) 16 rfl Tryz.underlying22 Tryz.infoStr rfl (by decide) (by decide) (.slice ka x.f3.length kc) x.f3 [nm] (some ⟨g3, 0, none⟩) 1 1 (fun _ => True) (fun _ => False) (eval_of e31) (eval_of e33) K2.out (show ReadsRow (Kd.string.K w') 1 w' (some ⟨g3, 0, none⟩) 1 [nm] from one_str B3.out) (fun _ _ h => h) (fun _ h => h.elim) (fun _ _ => trivial) BW.out hsz (by have := HM.out; omega) ?_
    intro kvn w1 hr1 hb1 hg1 hat1
    rw [← HL.out.1] at hr1
    obtain ⟨kan, kcn, rfl, _, _⟩ := Kd.R_reads hr1
    refine hK.out _ _ ⟨g3, g8, kan, kcn, ia2, ic2, m3_, (.slice kan ks2.length kcn), m8_, m9_, (by rw [ha.out]; exact putSel_upk 2 hb_ rfl rfl rfl), hb1, fun h0_ => absurd ((up_self b 4).symm.trans h0_) (by decide), fun _ => hr1, fun _ => R_flatmove (fun h => h) I2.out (fun k hk => hg1.block k (R_own I2.out k hk).2.1 (R_types_ne I2.out K2.out (by decide) k hk)) (fun _ _ => trivial), fun h0_ => absurd ((hoff 9 (by kernel_rfl)).symm.trans h0_) (by decide), fun h0_ => absurd ((hoff 9 (by kernel_rfl)).symm.trans h0_) (by decide), fun _ h1_ => absurd ((up_self b 4).symm.trans h1_) (by decide), fun h0_ h1_ => (hg1.block _ (lt_of_block (Q_B8 h0_ h1_)) (R_ne_block K2.out (Q_B8 h0_ h1_) (by decide))).trans (Q_B8 h0_ h1_), fun _ => (hg1.block _ (lt_of_block O2.out) (R_ne_block K2.out O2.out (by decide))).trans O2.out, fun h0_ _ => absurd ((hoff 11 (by kernel_rfl)).symm.trans h0_) (by decide), fun h0_ => absurd ((hoff 13 (by kernel_rfl)).symm.trans h0_) (by decide), Q_X3_, fun _ => rfl, Q_X8_, fun h0_ => absurd ((hoff 9 (by kernel_rfl)).symm.trans h0_) (by decide)⟩
   refine steps_cons ?_ ?_
   ·rintro b a w' ⟨g3, g8, ka2, kc2, ia2, ic2, m3_, m4_, m8_, m9_, ha, Q_BW, Q_K2, Q_K4, Q_I2, Q_I9, Q_D9, Q_B3, Q_B8, Q_O2, Q_OA, Q_OB, Q_X3_, Q_X4_, Q_X8_, Q_X9_⟩ hb_ hon hoff
    refine ⟨_, rfl, fun K hK => ?_⟩
    have e35 : a.tmps[35]? = some (.pointer (some ⟨ob, 4, none⟩)) := by rw [ha]; exact (putSel_off rfl).trans rfl
    replace ha := Aside0.mk ha
    have BW := Aside0.mk Q_BW
    have I2 := Aside0.mk (Q_I2 (hoff 9 (by kernel_rfl)))
    have O2 := Aside0.mk (Q_O2 (hoff 11 (by kernel_rfl)))
    have co4 : w'.cell? ⟨ob, 4, none⟩ = some (.slice ia x.f4.length ic) := by rw [cell_of_block O2.out]; rfl
    refine value_ (w1 := w') (v := .slice ia x.f4.length ic) (by rfl) rfl ?_ ?_
    ·go_simp
     (try simp only [i64_w])
     try rfl
    refine hK.out _ _ ⟨g3, g8, ka2, kc2, ia2, ic2, m3_, m4_, m8_, m9_, (by rw [ha.out]; exact putSel_upk 3 hb_ rfl rfl rfl), Q_BW, Q_K2, Q_K4, Q_I2, fun h0_ => absurd ((hoff 9 (by kernel_rfl)).symm.trans h0_) (by decide), fun h0_ => absurd ((hoff 9 (by kernel_rfl)).symm.trans h0_) (by decide), Q_B3, Q_B8, Q_O2, fun h0_ _ => absurd ((hoff 11 (by kernel_rfl)).symm.trans h0_) (by decide), fun h0_ => absurd ((hoff 13 (by kernel_rfl)).symm.trans h0_) (by decide), Q_X3_, Q_X4_, Q_X8_, fun h0_ => absurd ((hoff 9 (by kernel_rfl)).symm.trans h0_) (by decide)⟩
   refine steps_cons ?_ ?_
   ·rintro b a w' ⟨g3, g8, ka2, kc2, ia2, ic2, m3_, m4_, m8_, m9_, ha, Q_BW, Q_K2, Q_K4, Q_I2, Q_I9, Q_D9, Q_B3, Q_B8, Q_O2, Q_OA, Q_OB, Q_X3_, Q_X4_, Q_X8_, Q_X9_⟩ hb_ hon hoff
    refine ⟨_, rfl, fun K hK => ?_⟩
    have e5 : a.tmps[5]? = some (.pointer (some ⟨w.heap.size + 1, 0, none⟩)) := by rw [ha]; exact (putSel_off rfl).trans rfl
    replace ha := Aside0.mk ha
    have BW := Aside0.mk Q_BW
    have I2 := Aside0.mk (Q_I2 (hoff 9 (by kernel_rfl)))
    have O2 := Aside0.mk (Q_O2 (hoff 11 (by kernel_rfl)))
    have HQ := Aside0.mk ((BW.out.block _ (by have := HS.out.1; omega)).trans H2.out.2.2.1)
    obtain ⟨cv0, cv1, cv2, cv3, cv4, zv0, zv1, zv2, zv3, zv4⟩ := fc_ HQ.out
    refine value_ (w1 := w') (v := nodeV v V3 e3 V4 e4) (by rfl) rfl ?_ ?_
    ·go_simp
     (try simp only [i64_w])
     try rfl
    refine hK.out _ _ ⟨g3, g8, ka2, kc2, ia2, ic2, m3_, m4_, m8_, m9_, (by rw [ha.out]; exact putSel_upk 4 hb_ rfl rfl rfl), Q_BW, Q_K2, Q_K4, Q_I2, fun h0_ => absurd ((hoff 9 (by kernel_rfl)).symm.trans h0_) (by decide), fun h0_ => absurd ((hoff 9 (by kernel_rfl)).symm.trans h0_) (by decide), Q_B3, fun h0_ _ => absurd ((hoff 8 (by kernel_rfl)).symm.trans h0_) (by decide), Q_O2, fun h0_ _ => absurd ((hoff 11 (by kernel_rfl)).symm.trans h0_) (by decide), fun h0_ => absurd ((hoff 13 (by kernel_rfl)).symm.trans h0_) (by decide), Q_X3_, Q_X4_, fun h0_ => absurd ((hoff 8 (by kernel_rfl)).symm.trans h0_) (by decide), fun h0_ => absurd ((hoff 9 (by kernel_rfl)).symm.trans h0_) (by decide)⟩
   refine steps_cons ?_ ?_
   ·rintro b a w' ⟨g3, g8, ka2, kc2, ia2, ic2, m3_, m4_, m8_, m9_, ha, Q_BW, Q_K2, Q_K4, Q_I2, Q_I9, Q_D9, Q_B3, Q_B8, Q_O2, Q_OA, Q_OB, Q_X3_, Q_X4_, Q_X8_, Q_X9_⟩ hb_ hon hoff
    refine ⟨_, rfl, fun K hK => ?_⟩
    have e37 : a.tmps[37]? = some (nodeV v V3 e3 V4 e4) := by rw [ha]; exact putSel_on (e := (7, 37, nodeV v V3 e3 V4 e4)) 4 rfl rfl (hon 7 (by kernel_rfl)) rfl
    replace ha := Aside0.mk ha
    have BW := Aside0.mk Q_BW
    have I2 := Aside0.mk (Q_I2 (hoff 9 (by kernel_rfl)))
    have O2 := Aside0.mk (Q_O2 (hoff 11 (by kernel_rfl)))
    have hb3 : Below w'.heap.size w' (w'.alloc (.cells #[.int .i64 v.f0, .string v.f1, .string v.f2, .slice V3 v.f3.length e3, .slice V4 v.f4.length e4] 25)) := (Below.refl _ _).alloc (Nat.le_refl _) _
    have hn3 : (w'.alloc (.cells #[.int .i64 v.f0, .string v.f1, .string v.f2, .slice V3 v.f3.length e3, .slice V4 v.f4.length e4] 25)).heap[w'.heap.size]? = some (.cells #[.int .i64 v.f0, .string v.f1, .string v.f2, .slice V3 v.f3.length e3, .slice V4 v.f4.length e4] 25 (0, 0)) := heap_at _ rfl
    refine value_ (w1 := w'.alloc (.cells #[.int .i64 v.f0, .string v.f1, .string v.f2, .slice V3 v.f3.length e3, .slice V4 v.f4.length e4] 25)) (v := .slice (some ⟨w'.heap.size, 0, none⟩) 1 1) (by rfl) rfl ?_ ?_
    ·go_simp
    refine hK.out _ _ ⟨g3, w'.heap.size, ka2, kc2, ia2, ic2, m3_, m4_, (.slice (some ⟨w'.heap.size, 0, none⟩) 1 1), m9_, (by rw [ha.out]; exact putSel_upk 5 hb_ rfl rfl rfl), BW.out.trans (hb3.mono (Nat.le_trans (Nat.le_of_lt (by have := lt_of_block (Q_O2 (hoff 11 (by kernel_rfl))); have := HS.out.2.1; omega)) (Nat.le_refl _))), fun h0_ => R_upd (Q_K2 h0_) (fun k _ _ hk => hb3.block k hk), fun h0_ => R_upd (Q_K4 h0_) (fun k _ _ hk => hb3.block k hk), fun _ => R_upd I2.out (fun k _ _ hk => hb3.block k hk), fun h0_ => absurd ((hoff 9 (by kernel_rfl)).symm.trans h0_) (by decide), fun h0_ => absurd ((hoff 9 (by kernel_rfl)).symm.trans h0_) (by decide), fun h0_ h1_ => (hb3.block _ (lt_of_block (Q_B3 h0_ h1_))).trans (Q_B3 h0_ h1_), fun _ _ => hn3, fun _ => (hb3.block _ (lt_of_block O2.out)).trans O2.out, fun h0_ _ => absurd ((hoff 11 (by kernel_rfl)).symm.trans h0_) (by decide), fun h0_ => absurd ((hoff 13 (by kernel_rfl)).symm.trans h0_) (by decide), Q_X3_, Q_X4_, fun _ => rfl, fun h0_ => absurd ((hoff 9 (by kernel_rfl)).symm.trans h0_) (by decide)⟩
   refine steps_cons ?_ ?_
   ·rintro b a w' ⟨g3, g8, ka2, kc2, ia2, ic2, m3_, m4_, m8_, m9_, ha, Q_BW, Q_K2, Q_K4, Q_I2, Q_I9, Q_D9, Q_B3, Q_B8, Q_O2, Q_OA, Q_OB, Q_X3_, Q_X4_, Q_X8_, Q_X9_⟩ hb_ hon hoff
    refine ⟨_, rfl, fun K hK => ?_⟩
    have e36 : a.tmps[36]? = some (.slice ia x.f4.length ic) := by rw [ha]; exact putSel_on (e := (6, 36, .slice ia x.f4.length ic)) 3 rfl rfl (hon 6 (by kernel_rfl)) rfl
    have e38 : a.tmps[38]? = some (m8_) := by rw [ha]; exact putSel_on (e := (8, 38, m8_)) 5 rfl rfl (hon 8 (by kernel_rfl)) rfl
    rw [Q_X8_ (hon 8 (by kernel_rfl))] at e38
    replace ha := Aside0.mk ha
    have BW := Aside0.mk Q_BW
    have K4 := Aside0.mk (Q_K4 (hon 4 (by kernel_rfl)))
    have I2 := Aside0.mk (Q_I2 hb_)
    have B8 := Aside0.mk (Q_B8 (hon 8 (by kernel_rfl)) hb_)
    have O2 := Aside0.mk (Q_O2 (hoff 11 (by kernel_rfl)))
    have hsz : w0.heap.size ≤ w'.heap.size := by have := lt_of_block O2.out; have := HS.out.2.1; omega
    refine Kd.R_append_rows_step (heldK S w) (w0 := w2) w0.heap.size (by rfl) (.tmp 36) (.tmp 38) 23 25 (.agg #[.int .i64 0, .string ⟨#[]⟩, .string ⟨#[]⟩, .slice none 0 0, .slice none 0 0]) 88 rfl Tryz.underlying23 Tryz.infoNode rfl (by show 0 < 5; decide) (by decide) (.slice ia x.f4.length ic) x.f4 [v] (some ⟨g8, 0, none⟩) 1 1 (fun _ => True) (fun _ => False) (eval_of e36) (eval_of e38) I2.out (show ReadsRow ((heldK S w).K w') 5 w' (some ⟨g8, 0, none⟩) 1 [v] from one_nodeH B8.out HK.out.2) (fun _ _ h => h) (fun _ h => h.elim) (fun _ _ => trivial) BW.out hsz (by have := HM.out; omega) ?_
    intro ivn w1 hr1 hb1 hg1 hat1
    rw [← HL.out.2] at hr1
    obtain ⟨ian, icn, rfl, _, _⟩ := Kd.R_reads hr1
    have hd9 : some ob ≠ (Value.slice ian is2.length icn).ownBlock := fun e => by
     have h2 := lt_of_block O2.out
     rcases hat1 with h | ⟨b', h, hl⟩
     ·exact DI.out (e.trans h)
     ·have e2 := e.trans h
      have q : ob = b' := by simpa using e2
      omega
    refine hK.out _ _ ⟨g3, g8, ka2, kc2, ian, icn, m3_, m4_, m8_, (.slice ian is2.length icn), (by rw [ha.out]; exact putSel_upk 6 hb_ rfl rfl rfl), hb1, fun h0_ => absurd ((hon 4 (by kernel_rfl)).symm.trans h0_) (by decide), fun _ => R_flatmove (fun h => h) K4.out (fun k hk => hg1.block k (R_own K4.out k hk).2.1 (R_types_ne K4.out I2.out (by decide) k hk)) (fun _ _ => trivial), fun h0_ => absurd ((up_self b 9).symm.trans h0_) (by decide), fun _ => hr1, fun _ => hd9, fun _ h1_ => absurd ((hon 4 (by kernel_rfl)).symm.trans h1_) (by decide), fun _ h1_ => absurd ((up_self b 9).symm.trans h1_) (by decide), fun _ => (hg1.block _ (lt_of_block O2.out) DI.out).trans O2.out, fun h0_ _ => absurd ((hoff 11 (by kernel_rfl)).symm.trans h0_) (by decide), fun h0_ => absurd ((hoff 13 (by kernel_rfl)).symm.trans h0_) (by decide), Q_X3_, Q_X4_, Q_X8_, fun _ => rfl⟩
   refine steps_cons ?_ ?_
   ·rintro b a w' ⟨g3, g8, ka2, kc2, ia2, ic2, m3_, m4_, m8_, m9_, ha, Q_BW, Q_K2, Q_K4, Q_I2, Q_I9, Q_D9, Q_B3, Q_B8, Q_O2, Q_OA, Q_OB, Q_X3_, Q_X4_, Q_X8_, Q_X9_⟩ hb_ hon hoff
    refine ⟨_, rfl, fun K hK => ?_⟩
    have e7 : a.tmps[7]? = some (.pointer (some ⟨ob, 0, none⟩)) := by rw [ha]; exact (putSel_off rfl).trans rfl
    replace ha := Aside0.mk ha
    have BW := Aside0.mk Q_BW
    have K4 := Aside0.mk (Q_K4 (hon 4 (by kernel_rfl)))
    have O2 := Aside0.mk (Q_O2 (hoff 11 (by kernel_rfl)))
    refine value_ (w1 := w') (v := .pointer (some ⟨ob, 3, none⟩)) (by rfl) rfl ?_ ?_
    ·go_simp
     (try simp only [i64_w])
     try rfl
    refine hK.out _ _ ⟨g3, g8, ka2, kc2, ia2, ic2, m3_, m4_, m8_, m9_, (by rw [ha.out]; exact putSel_upk 7 hb_ rfl rfl rfl), Q_BW, fun h0_ => absurd ((hon 4 (by kernel_rfl)).symm.trans h0_) (by decide), Q_K4, Q_I2, Q_I9, Q_D9, fun _ h1_ => absurd ((hon 4 (by kernel_rfl)).symm.trans h1_) (by decide), Q_B8, Q_O2, fun h0_ _ => absurd ((hoff 11 (by kernel_rfl)).symm.trans h0_) (by decide), fun h0_ => absurd ((hoff 13 (by kernel_rfl)).symm.trans h0_) (by decide), Q_X3_, Q_X4_, Q_X8_, Q_X9_⟩
   refine steps_cons ?_ ?_
   ·rintro b a w' ⟨g3, g8, ka2, kc2, ia2, ic2, m3_, m4_, m8_, m9_, ha, Q_BW, Q_K2, Q_K4, Q_I2, Q_I9, Q_D9, Q_B3, Q_B8, Q_O2, Q_OA, Q_OB, Q_X3_, Q_X4_, Q_X8_, Q_X9_⟩ hb_ hon hoff
    refine ⟨_, rfl, fun K hK => ?_⟩
    have e40 : a.tmps[40]? = some (.pointer (some ⟨ob, 3, none⟩)) := by rw [ha]; exact putSel_on (e := (10, 40, .pointer (some ⟨ob, 3, none⟩))) 7 rfl rfl (hon 10 (by kernel_rfl)) rfl
    have e34 : a.tmps[34]? = some (m4_) := by rw [ha]; exact putSel_on (e := (4, 34, m4_)) 2 rfl rfl (hon 4 (by kernel_rfl)) rfl
    rw [Q_X4_ (hon 4 (by kernel_rfl))] at e34
    replace ha := Aside0.mk ha
    have BW := Aside0.mk Q_BW
    have K4 := Aside0.mk (Q_K4 (hon 4 (by kernel_rfl)))
    have I9 := Aside0.mk (Q_I9 (hon 9 (by kernel_rfl)))
    have D9 := Aside0.mk (Q_D9 (hon 9 (by kernel_rfl)))
    have O2 := Aside0.mk (Q_O2 hb_)
    have hcell : w'.cell? ⟨ob, 3, none⟩ = some (.slice ka x.f3.length kc) := by rw [cell_of_block O2.out]; rfl
    have hfr : w'.frozen? ⟨ob, 3, none⟩ = false := frozen_of_block O2.out
    have hcs : Chg (fun k => k = ob) w' (w'.setCell ⟨ob, 3, none⟩ (.slice ka2 ks2.length kc2)) := (Chg.refl (fun k => k = ob) w').setCell (p := ⟨ob, 3, none⟩) (.inl rfl) _
    have hhs := heap_set (a := ⟨ob, 3, none⟩) (v := .slice ka2 ks2.length kc2) O2.out rfl
    have HSZ := Aside0.mk (And.intro hcs hhs)
    clear hcs hhs
    rw [if_pos (by rfl)]
    go_simp
    clear hcell hfr
    refine hK.out _ _ ⟨g3, g8, ka2, kc2, ia2, ic2, m3_, m4_, m8_, m9_, (by rw [ha.out]; exact putSel_none (v := undef) rfl), BW.out.trans (HSZ.out.1.below (by have := lt_of_block O2.out; have := HS.out.2.1; omega) (fun k e => by have := HS.out.2.1; have e' : k = ob := e; omega)), fun h0_ => absurd ((hon 4 (by kernel_rfl)).symm.trans h0_) (by decide), fun _ => R_flatmove (fun h => h) K4.out (fun k hk => HSZ.out.1.block k (R_own K4.out k hk).2.1 (fun e => R_ne_block K4.out O2.out (by decide) (by rw [← e]; exact hk.symm))) (fun _ _ => trivial), fun h0_ => absurd ((hon 9 (by kernel_rfl)).symm.trans h0_) (by decide), fun _ => R_flatmove (fun h => h) I9.out (fun k hk => HSZ.out.1.block k (R_own I9.out k hk).2.1 (fun e => D9.out (by rw [← e]; exact hk.symm))) (fun _ _ => trivial), Q_D9, fun _ h1_ => absurd ((hon 4 (by kernel_rfl)).symm.trans h1_) (by decide), fun _ h1_ => absurd ((hon 9 (by kernel_rfl)).symm.trans h1_) (by decide), fun h0_ => absurd ((up_self b 11).symm.trans h0_) (by decide), fun _ _ => HSZ.out.2, fun h0_ => absurd ((hoff 13 (by kernel_rfl)).symm.trans h0_) (by decide), Q_X3_, Q_X4_, Q_X8_, Q_X9_⟩
   refine steps_cons ?_ ?_
   ·rintro b a w' ⟨g3, g8, ka2, kc2, ia2, ic2, m3_, m4_, m8_, m9_, ha, Q_BW, Q_K2, Q_K4, Q_I2, Q_I9, Q_D9, Q_B3, Q_B8, Q_O2, Q_OA, Q_OB, Q_X3_, Q_X4_, Q_X8_, Q_X9_⟩ hb_ hon hoff
    refine ⟨_, rfl, fun K hK => ?_⟩
    have e7 : a.tmps[7]? = some (.pointer (some ⟨ob, 0, none⟩)) := by rw [ha]; exact (putSel_off rfl).trans rfl
    replace ha := Aside0.mk ha
    have BW := Aside0.mk Q_BW
    have K4 := Aside0.mk (Q_K4 (hon 4 (by kernel_rfl)))
    have I9 := Aside0.mk (Q_I9 (hon 9 (by kernel_rfl)))
    have D9 := Aside0.mk (Q_D9 (hon 9 (by kernel_rfl)))
    have OA := Aside0.mk (Q_OA (hon 11 (by kernel_rfl)) (hoff 13 (by kernel_rfl)))
    refine value_ (w1 := w') (v := .pointer (some ⟨ob, 4, none⟩)) (by rfl) rfl ?_ ?_
    ·go_simp
     (try simp only [i64_w])
     try rfl
    refine hK.out _ _ ⟨g3, g8, ka2, kc2, ia2, ic2, m3_, m4_, m8_, m9_, (by rw [ha.out]; exact putSel_upk 8 hb_ rfl rfl rfl), Q_BW, fun h0_ => absurd ((hon 4 (by kernel_rfl)).symm.trans h0_) (by decide), Q_K4, fun h0_ => absurd ((hon 9 (by kernel_rfl)).symm.trans h0_) (by decide), Q_I9, Q_D9, fun _ h1_ => absurd ((hon 4 (by kernel_rfl)).symm.trans h1_) (by decide), fun _ h1_ => absurd ((hon 9 (by kernel_rfl)).symm.trans h1_) (by decide), fun h0_ => absurd ((hon 11 (by kernel_rfl)).symm.trans h0_) (by decide), Q_OA, fun h0_ => absurd ((hoff 13 (by kernel_rfl)).symm.trans h0_) (by decide), Q_X3_, Q_X4_, Q_X8_, Q_X9_⟩
   refine steps_cons ?_ ?_
   ·rintro b a w' ⟨g3, g8, ka2, kc2, ia2, ic2, m3_, m4_, m8_, m9_, ha, Q_BW, Q_K2, Q_K4, Q_I2, Q_I9, Q_D9, Q_B3, Q_B8, Q_O2, Q_OA, Q_OB, Q_X3_, Q_X4_, Q_X8_, Q_X9_⟩ hb_ hon hoff
    refine ⟨_, rfl, fun K hK => ?_⟩
    have e41 : a.tmps[41]? = some (.pointer (some ⟨ob, 4, none⟩)) := by rw [ha]; exact putSel_on (e := (12, 41, .pointer (some ⟨ob, 4, none⟩))) 8 rfl rfl (hon 12 (by kernel_rfl)) rfl
    have e39 : a.tmps[39]? = some (m9_) := by rw [ha]; exact putSel_on (e := (9, 39, m9_)) 6 rfl rfl (hon 9 (by kernel_rfl)) rfl
    rw [Q_X9_ (hon 9 (by kernel_rfl))] at e39
    replace ha := Aside0.mk ha
    have BW := Aside0.mk Q_BW
    have K4 := Aside0.mk (Q_K4 (hon 4 (by kernel_rfl)))
    have I9 := Aside0.mk (Q_I9 (hon 9 (by kernel_rfl)))
    have D9 := Aside0.mk (Q_D9 (hon 9 (by kernel_rfl)))
    have OA := Aside0.mk (Q_OA (hon 11 (by kernel_rfl)) hb_)
    have hcell : w'.cell? ⟨ob, 4, none⟩ = some (.slice ia x.f4.length ic) := by rw [cell_of_block OA.out]; rfl
    have hfr : w'.frozen? ⟨ob, 4, none⟩ = false := frozen_of_block OA.out
    have hcs : Chg (fun k => k = ob) w' (w'.setCell ⟨ob, 4, none⟩ (.slice ia2 is2.length ic2)) := (Chg.refl (fun k => k = ob) w').setCell (p := ⟨ob, 4, none⟩) (.inl rfl) _
    have hhs := heap_set (a := ⟨ob, 4, none⟩) (v := .slice ia2 is2.length ic2) OA.out rfl
    have HSZ := Aside0.mk (And.intro hcs hhs)
    clear hcs hhs
    rw [if_pos (by rfl)]
    go_simp
    clear hcell hfr
    refine hK.out _ _ ⟨g3, g8, ka2, kc2, ia2, ic2, m3_, m4_, m8_, m9_, (by rw [ha.out]; exact putSel_none (v := undef) rfl), BW.out.trans (HSZ.out.1.below (by have := lt_of_block OA.out; have := HS.out.2.1; omega) (fun k e => by have := HS.out.2.1; have e' : k = ob := e; omega)), fun h0_ => absurd ((hon 4 (by kernel_rfl)).symm.trans h0_) (by decide), fun _ => R_flatmove (fun h => h) K4.out (fun k hk => HSZ.out.1.block k (R_own K4.out k hk).2.1 (fun e => R_ne_block K4.out OA.out (by decide) (by rw [← e]; exact hk.symm))) (fun _ _ => trivial), fun h0_ => absurd ((hon 9 (by kernel_rfl)).symm.trans h0_) (by decide), fun _ => R_flatmove (fun h => h) I9.out (fun k hk => HSZ.out.1.block k (R_own I9.out k hk).2.1 (fun e => D9.out (by rw [← e]; exact hk.symm))) (fun _ _ => trivial), Q_D9, fun _ h1_ => absurd ((hon 4 (by kernel_rfl)).symm.trans h1_) (by decide), fun _ h1_ => absurd ((hon 9 (by kernel_rfl)).symm.trans h1_) (by decide), fun h0_ => absurd ((hon 11 (by kernel_rfl)).symm.trans h0_) (by decide), fun _ h1_ => absurd ((up_self b 13).symm.trans h1_) (by decide), fun _ => HSZ.out.2, Q_X3_, Q_X4_, Q_X8_, Q_X9_⟩
   exact steps_nil
  rintro b a w' hall ⟨g3, g8, ka2, kc2, ia2, ic2, m3_, m4_, m8_, m9_, ha, Q_BW, Q_K2, Q_K4, Q_I2, Q_I9, Q_D9, Q_B3, Q_B8, Q_O2, Q_OA, Q_OB, Q_X3_, Q_X4_, Q_X8_, Q_X9_⟩
  clear BW I2 K2 O2
  have hb1_ := hall 1 (by kernel_rfl)
  have hb3_ := hall 3 (by kernel_rfl)
  have hb4_ := hall 4 (by kernel_rfl)
  have hb6_ := hall 6 (by kernel_rfl)
  have hb7_ := hall 7 (by kernel_rfl)
  have hb8_ := hall 8 (by kernel_rfl)
  have hb9_ := hall 9 (by kernel_rfl)
  have hb10_ := hall 10 (by kernel_rfl)
  have hb11_ := hall 11 (by kernel_rfl)
  have hb12_ := hall 12 (by kernel_rfl)
  have hb13_ := hall 13 (by kernel_rfl)
  subst ha
  obtain rfl := Q_X3_ hb3_
  obtain rfl := Q_X4_ hb4_
  obtain rfl := Q_X8_ hb8_
  obtain rfl := Q_X9_ hb9_
  simp only [putSel, hb1_, hb3_, hb4_, hb6_, hb7_, hb8_, hb9_, hb10_, hb11_, hb12_, hb13_, if_true, Act.put, List.setIfInBounds_toArray, List.set_cons_zero, List.set_cons_succ]
  have BW := Aside0.mk Q_BW
  clear Q_BW
  clear Q_K2
  have K4 := Aside0.mk (Q_K4 hb4_)
  clear Q_K4
  clear Q_I2
  have I9 := Aside0.mk (Q_I9 hb9_)
  clear Q_I9
  have D9 := Aside0.mk (Q_D9 hb9_)
  clear Q_D9
  clear Q_B3
  clear Q_B8
  clear Q_O2
  clear Q_OA
  have OB := Aside0.mk (Q_OB hb13_)
  clear Q_OB
  clear hall hb1_ hb3_ hb4_ hb6_ hb7_ hb8_ hb9_ hb10_ hb11_ hb12_ hb13_
  obtain ⟨w3, hw3⟩ : ∃ w3, w3 = w' := ⟨_, rfl⟩
  rw [← hw3] at BW K4 I9 OB ⊢
  clear hw3
  have O3 : Aside0 (inVar w3 ob ⟨2, ⟨#[]⟩, ⟨#[]⟩, ks2, is2⟩ ka2 kc2 ia2 ic2) := ⟨OB.out⟩
  have R3 := Aside0.mk ((BW.out.block _ (by have := HS.out.1; omega)).trans H2.out.2.2.2)
  have hb3 : Below w.heap.size w w3 := H2.out.1.trans (BW.out.mono (by have := HS.out.1; omega))
  have HB3 := Aside0.mk hb3
  clear hb3
  obtain ⟨cp0, cp1, cp2, cp3, cp4, zp0, zp1, zp2, zp3, zp4⟩ := fc_ O3.out
  obtain ⟨cq0, cq1, cq2, cq3, cq4, zq0, zq1, zq2, zq3, zq4⟩ := fc_ R3.out
  go_wp2_with fail
  obtain ⟨wf, ef, hf, hcf⟩ := set5 (v0 := .int .i64 2) (v1 := .string ⟨#[]⟩) (v2 := .string ⟨#[]⟩) (v3 := .slice ka2 ks2.length kc2) (v4 := .slice ia2 is2.length ic2) R3.out
  rw [ef]
  have HF := Aside0.mk hf
  obtain ⟨cf0, cf1, cf2, cf3, cf4, zf0, zf1, zf2, zf3, zf4⟩ := fc_ HF.out
  have hbf : Below w.heap.size w wf := HB3.out.trans (hcf.below HB3.out.size (fun k e => by have e' : k = w.heap.size + 1 + 1 := e; omega))
  have hkf := R_upd (w1 := wf) K4.out (fun k _ hb hlt => hcf.block k hlt (by have := HS.out.1; omega))
  have hif := R_upd (w1 := wf) I9.out (fun k _ hb hlt => hcf.block k hlt (by have := HS.out.1; omega))
  have hkk : nodeR S wf ⟨2, ⟨#[]⟩, ⟨#[]⟩, ks2, is2⟩ ka2 kc2 ia2 ic2 := fun W' hW => by
   have hns : ∀ k, w0.heap.size ≤ k → ¬ S k := fun k hb q => by have := HS.out.1; have := HSS.out k q; omega
   obtain ⟨_, lk, hCK⟩ := Kd.R_reads' (R_upd (w1 := W') hkf (fun k _ hb hlt => hW.block k hlt (hns k hb)))
   obtain ⟨_, li, hCI⟩ := Kd.R_reads' (R_upd (w1 := W') hif (fun k _ hb hlt => hW.block k hlt (hns k hb)))
   exact k25_mk W' ⟨2, ⟨#[]⟩, ⟨#[]⟩, ks2, is2⟩ lk hCK li (C_of_held ((Chg.of_below hbf).trans hW (fun k q => .inl q)) hCI)
  have HFIN := Aside0.mk (And.intro hkk hbf)
  clear hbf hkf hif hkk hcf ef hf cp0 cp1 cp2 cp3 cp4 zp0 zp1 zp2 zp3 zp4 cq0 cq1 cq2 cq3 cq4 zq0 zq1 zq2 zq3 zq4
  refine bodyPost_ret (v := nodeV ⟨2, ⟨#[]⟩, ⟨#[]⟩, ks2, is2⟩ ka2 kc2 ia2 ic2) (by simp [results, Tryz.results18, go_sem, cf0, cf1, cf2, cf3, cf4]) rfl ?_
  rw [HW.out, ← HL.out.1, ← HL.out.2]
  exact ⟨_, _, _, _, rfl, HFIN.out.1, HFIN.out.2⟩
end Go.Proofs.YtkpdkoafngjflaaGreat
