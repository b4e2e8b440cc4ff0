/-
  ElementAppender.Filter: elements are put behind those of a list.
-/
import Derived.Test.YtigpgkfgkjabmaaSetter
namespace Go.Proofs.Ytigpgkfgkjabmaa
open Go.RowKit Go.Proofs.YtigpgkfgkjabmaaW.PrintWords Go.Proofs.YtigpgkfgkjabmaaW.PrintLast Go.Proofs.Ytigpgkfgkjabmaa.PFnFields
set_option linter.unusedVariables false
set_option linter.unusedSimpArgs false

/-- A row that has grown by one pointer, and the world ahead of it. -/
def GrownRow (wr w' : World) (cv : Value) (bs : List Nat) (nb ga cap : Nat) : Prop :=
  ∃ wc, Below wr.heap.size wr wc ∧ w'.ownsRow 0 88 1 (.slice (some ⟨ga, 0, none⟩) (bs.length + 1) cap) (bs.length + 1) (ptrs bs ++ ptrs [nb]) ∧ wc.grownBy w' cv.ownBlock ∧ (cv.ownBlock = some ga ∨ ga = wc.heap.size)
def AppendPost (w : World) (nd : Nat) (F G : Nat → Prop) (t v : ByteArray) (ys : List Y) (nbs : List Nat) (nys : List Y) (o : Option Nat) (w' : World) : Prop :=
  ∃ F' : Nat → Prop, YN w' F' nd (.mk 2 t v (ys ++ nys)) ∧ (∀ k, F' k → F k ∨ G k ∨ w.heap.size ≤ k) ∧ Chg F w w' ∧ ((nbs.length = 1 ∧ ∃ ro, o = some ro ∧ RN w' ro (nbs.getD 0 0)) ∨ (nbs.length ≠ 1 ∧ o = none))
/-- Between the rounds. -/
structure AppendAt (w wr : World) (nd gl j : Nat) (F G Fj Gj : Nat → Prop) (t v : ByteArray) (ys : List Y) (nbs : List Nat) (nys : List Y) (c : Nat) : Prop where
  tree : YN wr Fj nd (.mk 2 t v (ys ++ nys.take j))
  rest : YL wr Gj (nbs.drop j) (nys.drop j)
  apart : ∀ k, Fj k → ¬ Gj k
  inF : ∀ k, Fj k → F k ∨ (G k ∧ ¬ Gj k) ∨ w.heap.size ≤ k
  inG : ∀ k, Gj k → G k ∧ k < w.heap.size
  chg : Chg F w wr
  row : ∃ cv0, wr.cell? ⟨nd, 6, none⟩ = some cv0 ∧ ∀ k, cv0.ownBlock = some k → F k ∨ w.heap.size ≤ k
  root : F nd
  box : wr.heap[w.heap.size]? = some (.cells #[.string ⟨#[]⟩, .slice (some ⟨gl, 0, none⟩) nbs.length c] 91 (0, 0))
def app7.T : Bool × List (List Nat × List Nat) := (true, [([], []), ([0], [0]), ([], []), ([2, 1], [2]), ([], []), ([4], [4]), ([], []), ([5, 6], [5, 6]), ([7], [7]), ([8], [8]), ([3, 9, 3], [3, 9]), ([1, 0, 1, 2, 3, 4, 5, 6, 7, 8, 9, 10], [1]), ([11, 0, 1, 2, 3, 4, 5, 6, 7, 8, 9, 10], [11]), ([12, 10, 10, 0, 1, 2, 3, 4, 5, 6, 7, 8, 9, 10], [10, 12])])
def app7.B : List Nat := [0, 1, 0, 7, 0, 16, 0, 112, 240, 496, 1023, 2047, 4095, 8191]
theorem app7.tab : rtab .any (opsOf Try.f122 7) = app7.T := by kernel_rfl
theorem app7.bits : waitsOk app7.T.2 app7.B = true := by kernel_rfl
set_option maxRecDepth 100000 in
set_option maxHeartbeats 3200000 in
theorem appender_calls (w : World) (r nd gl c : Nat) (F G : Nat → Prop) (t v : ByteArray) (ys nys : List Y) (nbs : List Nat) (hr : RN w r nd) (hy : YN w F nd (.mk 2 t v ys)) (hl : Live 2 t) (hlen : ys.length + nbs.length ≤ 1000)
    (hel : ∀ i (h : i < nbs.length), w.cell? ⟨gl, i, none⟩ = some (ptr nbs[i])) (hnl : YL w G nbs nys) (hd : ∀ k, F k → ¬ G k) (hgF : ¬ F gl) (hrF : ¬ F r) :
    Calls Try.prog 122 #[.agg #[.string ⟨#[]⟩, .slice (some ⟨gl, 0, none⟩) nbs.length c], ptr r] w (FilterPost (AppendPost w nd F G t v ys nbs nys)) := by
  obtain ⟨cv, hn⟩ := node_open hy
  have hcs : ∃ (A : Option Addr) (n cc : Nat), cv = .slice A n cc ∧ n ≤ 1000 := by
    obtain ⟨_, cv', bs, hn', ho, _, hyl⟩ := hy.open_
    obtain ⟨A, cc, rfl⟩ := own_slice ho
    have he : cv = .slice A bs.length cc := by
      have h1 := hn.content
      have h2 : w.cell? ⟨nd, 6, none⟩ = some (.slice A bs.length cc) := (show NB w nd 2 t v _ from hn').content
      rw [h1] at h2
      exact Option.some.inj h2
    have := hyl.length
    simp only [Y.content] at this
    exact ⟨A, _, cc, he, by omega⟩
  obtain ⟨A, n, cc, rfl, hn1⟩ := hcs
  have HR := Aside0.mk (And.intro hr (And.intro hgF hrF))
  have HN : Aside0 (NB w nd 2 t v (.slice A n cc)) := ⟨hn⟩
  have HL := Aside0.mk hl
  have HY := Aside0.mk (And.intro hy (And.intro hnl (And.intro hd hel)))
  have hnn : nbs.length ≤ 1000 := by omega
  have HM := Aside0.mk hlen
  clear hr hgF hrF hn hl hy hnl hd hel hlen
  go_enter Try.func122, Try.ntmps122
  go_wp2_with fail
  obtain ⟨w0, e0⟩ : ∃ w0, w0 = w.alloc (.cells #[.string ⟨#[]⟩, .slice (some ⟨gl, 0, none⟩) nbs.length c] 91) := ⟨_, rfl⟩
  try rw [← e0]
  have hb0 : Below w.heap.size w w0 := by rw [e0]; exact (Below.refl _ _).alloc (Nat.le_refl _) _
  have hf0 : w0.heap[w.heap.size]? = some (.cells #[.string ⟨#[]⟩, .slice (some ⟨gl, 0, none⟩) nbs.length c] 91 (0, 0)) := by rw [e0]; exact heap_at _ rfl
  have H0 := Aside0.mk (And.intro hb0 hf0)
  clear hb0 hf0 e0
  refine (valid_calls w0 r nd (HR.out.1.below H0.out.1) 2 t v A n cc (HN.out.below H0.out.1) HL.out (fun h => by cases h) (by omega)).mono ?_
  rintro e w1 ⟨rfl, rfl⟩
  have cf1 : w0.cell? ⟨w.heap.size, 1, none⟩ = some (.slice (some ⟨gl, 0, none⟩) nbs.length c) := by rw [cell_of_block H0.out.2]; rfl
  go_wp2_with fail
  clear cf1
  go_loopg [16] nbs.length (fun k i wr => ∃ (j : Nat) (Fj Gj : Nat → Prop), i = .int .i64 j ∧ Aside0 (j ≤ nbs.length ∧ k + j = nbs.length) ∧ Aside0 (AppendAt w wr nd gl j F G Fj Gj t v ys nbs nys c))
  case atStart =>
    refine ⟨0, fun k => F k ∧ k < w.heap.size, fun k => G k ∧ k < w.heap.size, rfl, ⟨by omega⟩, ⟨?_⟩⟩
    refine ⟨by simpa using HY.out.1.lt.below H0.out.1, by simpa using HY.out.2.1.lt.below H0.out.1, fun k q r => HY.out.2.2.1 k q.1 r.1, fun k q => .inl q.1, fun k q => q, Chg.of_below H0.out.1, ?_, HY.out.1.open_.1, H0.out.2⟩
    obtain ⟨_, cv', bs, hn', ho, hfo, hyl⟩ := HY.out.1.open_
    exact ⟨cv', (NB.below (show NB w nd 2 t v cv' from hn') H0.out.1).content, fun k hk => .inl (hfo k hk)⟩
  case round =>
    clear H0
    obtain ⟨j, Fj, Gj, rfl, HJ, HA⟩ := hrel
    by_cases hj : j < nbs.length
    · have hjb : decide ((j : Int) < (nbs.length : Int)) = true := by simp; omega
      obtain ⟨nb, hnb⟩ : ∃ nb, nb = nbs[j] := ⟨_, rfl⟩
      have HNBJ := Aside0.mk hnb
      clear hnb
      obtain ⟨hFb, cvj, bsj, hnj, hoj, hfoj, hylj⟩ := HA.out.tree.open_
      simp only [Y.kind, Y.tag, Y.value, Y.content] at hnj hylj
      obtain ⟨Aj, cj, rfl⟩ := own_slice hoj
      have HNJ : Aside0 (NB wr nd 2 t v (.slice Aj bsj.length cj)) := ⟨hnj⟩
      have hbl := hylj.length
      have HOJ := Aside0.mk (And.intro hFb (And.intro hoj (And.intro hfoj hylj)))
      have hb1 : bsj.length ≤ 1000 := by rw [hbl]; simp; have := HM.out; have := HY.out.2.1.length; have := HJ.out; omega
      have hrj : RN wr r nd := HR.out.1.move (fun hlt => HA.out.chg.block r hlt HR.out.2.2)
      have HRJ := Aside0.mk hrj
      clear hFb hoj hfoj hylj hnj hrj hbl
      obtain ⟨i0, hi0, hz0, hz1, hz2⟩ : ∃ i0 : TypeInfo, Aside0 (Try.prog.info? 88 = some i0) ∧ Aside0 (i0.zero = some (.pointer none)) ∧ Aside0 (i0.size = 1) ∧ Aside0 (i0.bytes = 8) := by
        obtain ⟨i0, h1, h2⟩ := Option.map_eq_some_iff.1 Try.infoYP
        simp only [Prod.mk.injEq] at h2
        exact ⟨i0, ⟨h1⟩, ⟨h2.1⟩, ⟨h2.2.1⟩, ⟨h2.2.2⟩⟩
      go_wp2_with fail
      have BW : Aside0 (Below wr.heap.size wr wr.drew) := ⟨(Below.refl _ _).drew⟩
      refine start_ (n := 14) (S := fun w' => True) (ds := []) #[false, false, false, false, false, false, false, false, false, false, false, false, false, false] (by kernel_rfl) rfl rfl trivial (fun hHeld => ?_)
      refine with_tabW (T := app7.T) (B := app7.B) app7.tab app7.bits (fun HT_ HW_ => ?_)
      refine pure_ (i := 0) (N := some 19) (v := ?_) (a' := ?_) #[true, false, false, false, false, false, false, false, false, false, false, false, false, false] rfl rfl (any_of HT_.out (by kernel_rfl)) (fun _ _ _ h => h) (Or.inl ⟨by rfl, ?_⟩) ?_ ?_
      rotate_left
      · intro w'
        go_simp
        with_reducible rfl
      rotate_left
      · simp only [Act.put, List.setIfInBounds_toArray, List.set_cons_zero, List.set_cons_succ, i64_w, i32_w]
        rfl
      refine pure_ (i := 2) (N := some 21) (v := ?_) (a' := ?_) #[true, false, true, false, false, false, false, false, false, false, false, false, false, false] rfl rfl (any_of HT_.out (by kernel_rfl)) (fun _ _ _ h => h) (Or.inl ⟨by rfl, ?_⟩) ?_ ?_
      rotate_left
      · intro w'
        go_simp
        with_reducible rfl
      rotate_left
      · simp only [Act.put, List.setIfInBounds_toArray, List.set_cons_zero, List.set_cons_succ, i64_w, i32_w]
        rfl
      refine pure_ (i := 4) (N := some 23) (v := ?_) (a' := ?_) #[true, false, true, false, true, false, false, false, false, false, false, false, false, false] rfl rfl (any_of HT_.out (by kernel_rfl)) (fun _ _ _ h => h) (Or.inl ⟨by rfl, ?_⟩) ?_ ?_
      rotate_left
      · intro w'
        go_simp
        with_reducible rfl
      rotate_left
      · simp only [Act.put, List.setIfInBounds_toArray, List.set_cons_zero, List.set_cons_succ, i64_w, i32_w]
        rfl
      refine pure_ (i := 6) (N := some 25) (v := ?_) (a' := ?_) #[true, false, true, false, true, false, true, false, false, false, false, false, false, false] rfl rfl (any_of HT_.out (by kernel_rfl)) (fun _ _ _ h => h) (Or.inl ⟨by rfl, ?_⟩) ?_ ?_
      rotate_left
      · intro w'
        go_simp
        with_reducible rfl
      rotate_left
      · simp only [Act.put, List.setIfInBounds_toArray, List.set_cons_zero, List.set_cons_succ, i64_w, i32_w]
        rfl
      refine inv_at [1, 3, 5, 7, 8, 9, 10, 11, 12, 13] (fun a0_ b a w' => ∃ (g9 : Nat) (ga : Nat) (cap : Nat) (m9_ : Value) (m10_ : Value), a = putSel a0_ b [(1, 20, ptr nd), (3, 22, .slice Aj bsj.length cj), (5, 24, .slice (some ⟨gl, 0, none⟩) nbs.length c), (7, 26, .pointer (some ⟨gl, j, none⟩)), (8, 27, ptr nb), (9, 28, m9_), (10, 29, m10_), (11, 30, ptr nd), (12, 31, .pointer (some ⟨nd, 6, none⟩))] ∧ (b 10 = false → Below wr.heap.size wr w') ∧ (b 9 = true → b 10 = false → w'.heap[g9]? = some (.cells #[ptr nb] 88 (0, 0))) ∧ (b 10 = true → b 13 = false → GrownRow wr w' (.slice Aj bsj.length cj) bsj nb ga cap) ∧ (b 13 = true → ∃ w5, GrownRow wr w5 (.slice Aj bsj.length cj) bsj nb ga cap ∧ w' = w5.setCell ⟨nd, 6, none⟩ (.slice (some ⟨ga, 0, none⟩) (bsj.length + 1) cap)) ∧ (b 9 = true → (m9_ : Value) = .slice (some ⟨g9, 0, none⟩) 1 1) ∧ (b 10 = true → (m10_ : Value) = .slice (some ⟨ga, 0, none⟩) (bsj.length + 1) cap)) HT_.out HW_.out (by kernel_rfl) (by kernel_rfl) ?_ ?_ ?_
      · exact ⟨0, 0, 0, .bool false, .bool false, by simp only [putSel, Bool.false_eq_true, if_false], fun _ => BW.out, fun h_ => absurd h_ (by decide), fun h_ => absurd h_ (by decide), fun h_ => absurd h_ (by decide), fun h_ => absurd h_ (by decide), fun h_ => absurd h_ (by decide)⟩
      · skip
        clear BW
        refine steps_cons ?_ ?_
        · rintro b a w' ⟨g9, ga, cap, m9_, m10_, ha, Q_BW, Q_B9, Q_GR, Q_GS, Q_X9_, Q_X10_⟩ hb_ hon hoff
          refine ⟨_, rfl, fun K hK => ?_⟩
          have e19 : a.tmps[19]? = some (ptr r) := by rw [ha]; exact (putSel_off rfl).trans rfl
          replace ha := Aside0.mk ha
          have BW := Aside0.mk (Q_BW (hoff 10 (by kernel_rfl)))
          refine goes_ Try.func72 (by kernel_rfl) rfl #[ptr r] (by rfl) rfl rfl (by first | (simp only [List.map_toArray, List.map_cons, List.map_nil, Act.eval, Array.getD_eq_getD_getElem?, Option.getD_some, e19]; done) | (simp only [List.map_toArray, List.map_cons, List.map_nil, Act.eval, Array.getD_eq_getD_getElem?, Option.getD_some, e19]; rfl)) ?_
          refine (ynode_calls w' r nd (HRJ.out.below BW.out) _ _ _ _ (HNJ.out.below BW.out) HL.out).mono ?_
          rintro e w4 ⟨rfl, rfl⟩
          refine ⟨_, rfl, ?_⟩
          refine hK.out _ _ ⟨g9, ga, cap, m9_, m10_, (by rw [ha.out]; exact putSel_upk 0 hb_ rfl rfl rfl), fun _ => BW.out, fun h0_ h1_ => (Q_B9 h0_ h1_), fun h0_ _ => absurd ((hoff 10 (by kernel_rfl)).symm.trans h0_) (by decide), fun h0_ => absurd ((hoff 13 (by kernel_rfl)).symm.trans h0_) (by decide), Q_X9_, fun h0_ => absurd ((hoff 10 (by kernel_rfl)).symm.trans h0_) (by decide)⟩
        refine steps_cons ?_ ?_
        · rintro b a w' ⟨g9, ga, cap, m9_, m10_, ha, Q_BW, Q_B9, Q_GR, Q_GS, Q_X9_, Q_X10_⟩ hb_ hon hoff
          refine ⟨_, rfl, fun K hK => ?_⟩
          have e21 : a.tmps[21]? = some (ptr r) := by rw [ha]; exact (putSel_off rfl).trans rfl
          replace ha := Aside0.mk ha
          have BW := Aside0.mk (Q_BW (hoff 10 (by kernel_rfl)))
          refine goes_ Try.func66 (by kernel_rfl) rfl #[ptr r] (by rfl) rfl rfl (by first | (simp only [List.map_toArray, List.map_cons, List.map_nil, Act.eval, Array.getD_eq_getD_getElem?, Option.getD_some, e21]; done) | (simp only [List.map_toArray, List.map_cons, List.map_nil, Act.eval, Array.getD_eq_getD_getElem?, Option.getD_some, e21]; rfl)) ?_
          refine (content_calls w' r nd (HRJ.out.below BW.out) _ _ _ _ (HNJ.out.below BW.out) HL.out).mono ?_
          rintro e w4 ⟨rfl, rfl⟩
          refine ⟨_, rfl, ?_⟩
          refine hK.out _ _ ⟨g9, ga, cap, m9_, m10_, (by rw [ha.out]; exact putSel_upk 1 hb_ rfl rfl rfl), fun _ => BW.out, fun h0_ h1_ => (Q_B9 h0_ h1_), fun h0_ _ => absurd ((hoff 10 (by kernel_rfl)).symm.trans h0_) (by decide), fun h0_ => absurd ((hoff 13 (by kernel_rfl)).symm.trans h0_) (by decide), Q_X9_, fun h0_ => absurd ((hoff 10 (by kernel_rfl)).symm.trans h0_) (by decide)⟩
        refine steps_cons ?_ ?_
        · rintro b a w' ⟨g9, ga, cap, m9_, m10_, ha, Q_BW, Q_B9, Q_GR, Q_GS, Q_X9_, Q_X10_⟩ hb_ hon hoff
          refine ⟨_, rfl, fun K hK => ?_⟩
          have e23 : a.tmps[23]? = some (.pointer (some ⟨w.heap.size, 1, none⟩)) := by rw [ha]; exact (putSel_off rfl).trans rfl
          replace ha := Aside0.mk ha
          have BW := Aside0.mk (Q_BW (hoff 10 (by kernel_rfl)))
          have hfb := (BW.out.block _ (lt_of_block HA.out.box)).trans HA.out.box
          have cf1 : w'.cell? ⟨w.heap.size, 1, none⟩ = some (.slice (some ⟨gl, 0, none⟩) nbs.length c) := by rw [cell_of_block hfb]; rfl
          clear hfb
          refine value_ (w1 := w') (v := .slice (some ⟨gl, 0, none⟩) nbs.length c) (by rfl) rfl ?_ ?_
          · go_simp
            (try simp only [i64_w])
            try rfl
          refine hK.out _ _ ⟨g9, ga, cap, m9_, m10_, (by rw [ha.out]; exact putSel_upk 2 hb_ rfl rfl rfl), Q_BW, fun h0_ _ => absurd ((hoff 9 (by kernel_rfl)).symm.trans h0_) (by decide), fun h0_ _ => absurd ((hoff 10 (by kernel_rfl)).symm.trans h0_) (by decide), fun h0_ => absurd ((hoff 13 (by kernel_rfl)).symm.trans h0_) (by decide), fun h0_ => absurd ((hoff 9 (by kernel_rfl)).symm.trans h0_) (by decide), fun h0_ => absurd ((hoff 10 (by kernel_rfl)).symm.trans h0_) (by decide)⟩
        refine steps_cons ?_ ?_
        · rintro b a w' ⟨g9, ga, cap, m9_, m10_, ha, Q_BW, Q_B9, Q_GR, Q_GS, Q_X9_, Q_X10_⟩ hb_ hon hoff
          refine ⟨_, rfl, fun K hK => ?_⟩
          have e24 : a.tmps[24]? = some (.slice (some ⟨gl, 0, none⟩) nbs.length c) := by rw [ha]; exact putSel_on (e := (5, 24, .slice (some ⟨gl, 0, none⟩) nbs.length c)) 2 rfl rfl (hon 5 (by kernel_rfl)) rfl
          have e25 : a.tmps[25]? = some (.int .i64 j) := by rw [ha]; exact (putSel_off rfl).trans rfl
          replace ha := Aside0.mk ha
          have BW := Aside0.mk (Q_BW (hoff 10 (by kernel_rfl)))
          refine value_ (w1 := w') (v := .pointer (some ⟨gl, j, none⟩)) (by rfl) rfl ?_ ?_
          · go_simp
            (try simp only [i64_w])
            try rfl
          refine hK.out _ _ ⟨g9, ga, cap, m9_, m10_, (by rw [ha.out]; exact putSel_upk 3 hb_ rfl rfl rfl), Q_BW, fun h0_ _ => absurd ((hoff 9 (by kernel_rfl)).symm.trans h0_) (by decide), fun h0_ _ => absurd ((hoff 10 (by kernel_rfl)).symm.trans h0_) (by decide), fun h0_ => absurd ((hoff 13 (by kernel_rfl)).symm.trans h0_) (by decide), fun h0_ => absurd ((hoff 9 (by kernel_rfl)).symm.trans h0_) (by decide), fun h0_ => absurd ((hoff 10 (by kernel_rfl)).symm.trans h0_) (by decide)⟩
        refine steps_cons ?_ ?_
        · rintro b a w' ⟨g9, ga, cap, m9_, m10_, ha, Q_BW, Q_B9, Q_GR, Q_GS, Q_X9_, Q_X10_⟩ hb_ hon hoff
          refine ⟨_, rfl, fun K hK => ?_⟩
          have e26 : a.tmps[26]? = some (.pointer (some ⟨gl, j, none⟩)) := by rw [ha]; exact putSel_on (e := (7, 26, .pointer (some ⟨gl, j, none⟩))) 3 rfl rfl (hon 7 (by kernel_rfl)) rfl
          replace ha := Aside0.mk ha
          have BW := Aside0.mk (Q_BW (hoff 10 (by kernel_rfl)))
          have hce := (BW.out.cell (World.block_lt_of_cell? _ _ (HA.out.chg.cell_of (HY.out.2.2.2 j hj) HR.out.2.1))).trans (HA.out.chg.cell_of (HY.out.2.2.2 j hj) HR.out.2.1)
          rw [← HNBJ.out] at hce
          refine value_ (w1 := w') (v := ptr nb) (by rfl) rfl ?_ ?_
          · go_simp
            (try simp only [i64_w])
            try rfl
          refine hK.out _ _ ⟨g9, ga, cap, m9_, m10_, (by rw [ha.out]; exact putSel_upk 4 hb_ rfl rfl rfl), Q_BW, fun h0_ _ => absurd ((hoff 9 (by kernel_rfl)).symm.trans h0_) (by decide), fun h0_ _ => absurd ((hoff 10 (by kernel_rfl)).symm.trans h0_) (by decide), fun h0_ => absurd ((hoff 13 (by kernel_rfl)).symm.trans h0_) (by decide), fun h0_ => absurd ((hoff 9 (by kernel_rfl)).symm.trans h0_) (by decide), fun h0_ => absurd ((hoff 10 (by kernel_rfl)).symm.trans h0_) (by decide)⟩
        refine steps_cons ?_ ?_
        · rintro b a w' ⟨g9, ga, cap, m9_, m10_, ha, Q_BW, Q_B9, Q_GR, Q_GS, Q_X9_, Q_X10_⟩ hb_ hon hoff
          refine ⟨_, rfl, fun K hK => ?_⟩
          have e27 : a.tmps[27]? = some (ptr nb) := by rw [ha]; exact putSel_on (e := (8, 27, ptr nb)) 4 rfl rfl (hon 8 (by kernel_rfl)) rfl
          replace ha := Aside0.mk ha
          have BW := Aside0.mk (Q_BW (hoff 10 (by kernel_rfl)))
          have hb3 : Below w'.heap.size w' (w'.alloc (.cells #[ptr nb] 88)) := (Below.refl _ _).alloc (Nat.le_refl _) _
          have hn3 : (w'.alloc (.cells #[ptr nb] 88)).heap[w'.heap.size]? = some (.cells #[ptr nb] 88 (0, 0)) := heap_at _ rfl
          refine value_ (w1 := w'.alloc (.cells #[ptr nb] 88)) (v := .slice (some ⟨w'.heap.size, 0, none⟩) 1 1) (by rfl) rfl ?_ ?_
          · go_simp
          refine hK.out _ _ ⟨w'.heap.size, ga, cap, (.slice (some ⟨w'.heap.size, 0, none⟩) 1 1), m10_, (by rw [ha.out]; exact putSel_upk 5 hb_ rfl rfl rfl), fun _ => BW.out.trans (hb3.mono BW.out.size), fun _ _ => hn3, fun h0_ _ => absurd ((hoff 10 (by kernel_rfl)).symm.trans h0_) (by decide), fun h0_ => absurd ((hoff 13 (by kernel_rfl)).symm.trans h0_) (by decide), fun _ => rfl, fun h0_ => absurd ((hoff 10 (by kernel_rfl)).symm.trans h0_) (by decide)⟩
        refine steps_cons ?_ ?_
        · rintro b a w' ⟨g9, ga, cap, m9_, m10_, ha, Q_BW, Q_B9, Q_GR, Q_GS, Q_X9_, Q_X10_⟩ hb_ hon hoff
          refine ⟨_, rfl, fun K hK => ?_⟩
          have e22 : a.tmps[22]? = some (.slice Aj bsj.length cj) := by rw [ha]; exact putSel_on (e := (3, 22, .slice Aj bsj.length cj)) 1 rfl rfl (hon 3 (by kernel_rfl)) rfl
          have e28 : a.tmps[28]? = some (m9_) := by rw [ha]; exact putSel_on (e := (9, 28, m9_)) 5 rfl rfl (hon 9 (by kernel_rfl)) rfl
          rw [Q_X9_ (hon 9 (by kernel_rfl))] at e28
          replace ha := Aside0.mk ha
          have BW := Aside0.mk (Q_BW hb_)
          have B9 := Aside0.mk (Q_B9 (hon 9 (by kernel_rfl)) hb_)
          rw [if_pos (by rfl)]
          have ho := own_move (w1 := w') HOJ.out.2.1 (fun k hk => BW.out.block k (own_lt HOJ.out.2.1 k hk))
          refine wp_append_lies w' (.tmp 22) (.tmp 28) 87 rfl 0 88 i0 (.pointer none) 1 8 Try.underlying87 hi0.out hz0.out hz1.out hz2.out rfl (by decide) (.slice Aj bsj.length cj) bsj.length (ptrs bsj) (eval_of e22) ho ⟨g9, 0, none⟩ 1 1 [ptr nb] (eval_of e28) rfl (World.news_of_block (cs := #[ptr nb]) (fr := (0, 0)) B9.out) (by simp [Value.oneCell']) (by omega) (by unfold maxLen; omega) (by omega) (by omega) _ rfl ?_
          intro gan capn w5 hown hgrow hat hlt
          refine hK.out _ _ ⟨g9, gan, capn, m9_, (.slice (some ⟨gan, 0, none⟩) (bsj.length + 1) capn), (by rw [ha.out]; exact putSel_upk 6 hb_ rfl rfl rfl), fun h0_ => absurd ((up_self b 10).symm.trans h0_) (by decide), fun _ h1_ => absurd ((up_self b 10).symm.trans h1_) (by decide), fun _ _ => ⟨w', BW.out, hown, hgrow, hat⟩, fun h0_ => absurd ((hoff 13 (by kernel_rfl)).symm.trans h0_) (by decide), Q_X9_, fun _ => rfl⟩
        refine steps_cons ?_ ?_
        · rintro b a w' ⟨g9, ga, cap, m9_, m10_, ha, Q_BW, Q_B9, Q_GR, Q_GS, Q_X9_, Q_X10_⟩ hb_ hon hoff
          refine ⟨_, rfl, fun K hK => ?_⟩
          have e20 : a.tmps[20]? = some (ptr nd) := by rw [ha]; exact putSel_on (e := (1, 20, ptr nd)) 0 rfl rfl (hon 1 (by kernel_rfl)) rfl
          replace ha := Aside0.mk ha
          have GR := Aside0.mk (Q_GR (hon 10 (by kernel_rfl)) (hoff 13 (by kernel_rfl)))
          refine value_ (w1 := w') (v := ptr nd) (by rfl) rfl ?_ ?_
          · go_simp
            (try simp only [i64_w])
            try rfl
          refine hK.out _ _ ⟨g9, ga, cap, m9_, m10_, (by rw [ha.out]; exact putSel_upk 7 hb_ rfl rfl rfl), fun h0_ => absurd ((hon 10 (by kernel_rfl)).symm.trans h0_) (by decide), fun _ h1_ => absurd ((hon 10 (by kernel_rfl)).symm.trans h1_) (by decide), Q_GR, fun h0_ => absurd ((hoff 13 (by kernel_rfl)).symm.trans h0_) (by decide), Q_X9_, Q_X10_⟩
        refine steps_cons ?_ ?_
        · rintro b a w' ⟨g9, ga, cap, m9_, m10_, ha, Q_BW, Q_B9, Q_GR, Q_GS, Q_X9_, Q_X10_⟩ hb_ hon hoff
          refine ⟨_, rfl, fun K hK => ?_⟩
          have e30 : a.tmps[30]? = some (ptr nd) := by rw [ha]; exact putSel_on (e := (11, 30, ptr nd)) 7 rfl rfl (hon 11 (by kernel_rfl)) rfl
          replace ha := Aside0.mk ha
          have GR := Aside0.mk (Q_GR (hon 10 (by kernel_rfl)) (hoff 13 (by kernel_rfl)))
          refine value_ (w1 := w') (v := .pointer (some ⟨nd, 6, none⟩)) (by rfl) rfl ?_ ?_
          · go_simp
            (try simp only [i64_w])
            try rfl
          refine hK.out _ _ ⟨g9, ga, cap, m9_, m10_, (by rw [ha.out]; exact putSel_upk 8 hb_ rfl rfl rfl), fun h0_ => absurd ((hon 10 (by kernel_rfl)).symm.trans h0_) (by decide), fun _ h1_ => absurd ((hon 10 (by kernel_rfl)).symm.trans h1_) (by decide), Q_GR, fun h0_ => absurd ((hoff 13 (by kernel_rfl)).symm.trans h0_) (by decide), Q_X9_, Q_X10_⟩
        refine steps_cons ?_ ?_
        · rintro b a w' ⟨g9, ga, cap, m9_, m10_, ha, Q_BW, Q_B9, Q_GR, Q_GS, Q_X9_, Q_X10_⟩ hb_ hon hoff
          refine ⟨_, rfl, fun K hK => ?_⟩
          have e31 : a.tmps[31]? = some (.pointer (some ⟨nd, 6, none⟩)) := by rw [ha]; exact putSel_on (e := (12, 31, .pointer (some ⟨nd, 6, none⟩))) 8 rfl rfl (hon 12 (by kernel_rfl)) rfl
          have e29 : a.tmps[29]? = some (m10_) := by rw [ha]; exact putSel_on (e := (10, 29, m10_)) 6 rfl rfl (hon 10 (by kernel_rfl)) rfl
          rw [Q_X10_ (hon 10 (by kernel_rfl))] at e29
          replace ha := Aside0.mk ha
          have GR := Aside0.mk (Q_GR (hon 10 (by kernel_rfl)) hb_)
          have hn5 : NB w' nd 2 t v (.slice Aj bsj.length cj) := by
            obtain ⟨wc, h1, h2, h3, h4⟩ := GR.out
            have hl := HNJ.out.lt
            have hbo : ¬ some nd = (Value.slice Aj bsj.length cj).ownBlock := fun e => by
              obtain ⟨cells, hh⟩ := own_typed HOJ.out.2.1 nd e.symm
              rw [HNJ.out] at hh
              simp at hh
            exact (h3.block _ (Nat.lt_of_lt_of_le hl h1.size) hbo).trans ((h1.block _ hl).trans HNJ.out)
          have hcell : w'.cell? ⟨nd, 6, none⟩ = some (.slice Aj bsj.length cj) := hn5.content
          have hfr : w'.frozen? ⟨nd, 6, none⟩ = false := frozen_of_block hn5
          clear hn5
          rw [if_pos (by rfl)]
          go_simp
          clear hcell hfr
          refine hK.out _ _ ⟨g9, ga, cap, m9_, m10_, (by rw [ha.out]; exact putSel_none (v := undef) rfl), fun h0_ => absurd ((hon 10 (by kernel_rfl)).symm.trans h0_) (by decide), fun _ h1_ => absurd ((hon 10 (by kernel_rfl)).symm.trans h1_) (by decide), fun _ h1_ => absurd ((up_self b 13).symm.trans h1_) (by decide), fun _ => ⟨w', GR.out, rfl⟩, Q_X9_, Q_X10_⟩
        exact steps_nil
      rintro b a w' hall ⟨g9, ga, cap, m9_, m10_, ha, Q_BW, Q_B9, Q_GR, Q_GS, Q_X9_, Q_X10_⟩
      clear BW
      have hb1_ := hall 1 (by kernel_rfl)
      have hb3_ := hall 3 (by kernel_rfl)
      have hb5_ := hall 5 (by kernel_rfl)
      have hb7_ := hall 7 (by kernel_rfl)
      have hb8_ := hall 8 (by kernel_rfl)
      have hb9_ := hall 9 (by kernel_rfl)
      have hb10_ := hall 10 (by kernel_rfl)
      have hb11_ := hall 11 (by kernel_rfl)
      have hb12_ := hall 12 (by kernel_rfl)
      have hb13_ := hall 13 (by kernel_rfl)
      subst ha
      obtain rfl := Q_X9_ hb9_
      obtain rfl := Q_X10_ hb10_
      simp only [putSel, hb1_, hb3_, hb5_, hb7_, hb8_, hb9_, hb10_, hb11_, hb12_, hb13_, if_true, Act.put, List.setIfInBounds_toArray, List.set_cons_zero, List.set_cons_succ]
      clear Q_BW
      clear Q_B9
      clear Q_GR
      have GS := Aside0.mk (Q_GS hb13_)
      clear Q_GS
      clear hall hb1_ hb3_ hb5_ hb7_ hb8_ hb9_ hb10_ hb11_ hb12_ hb13_
      obtain ⟨w5, hgr, rfl⟩ := GS.out
      have HGR := Aside0.mk hgr
      clear hgr GS
      obtain ⟨w6, hw6⟩ : ∃ w6, w6 = w5.setCell ⟨nd, 6, none⟩ (.slice (some ⟨ga, 0, none⟩) (bsj.length + 1) cap) := ⟨_, rfl⟩
      rw [← hw6]
      have HW6 := Aside0.mk hw6
      clear hw6
      go_wp2_with fail
      go_roundg (gk - 1)
      case measure => have := HJ.out; omega
      case rel =>
        obtain ⟨wc, h1, h2, h3, h4⟩ := HGR.out
        obtain ⟨hFb, hoj, hfoj, hylj⟩ := HOJ.out
        have hjn : j < nys.length := by have := HY.out.2.1.length; omega
        have hrest := HA.out.rest
        rw [List.drop_eq_getElem_cons hj, List.drop_eq_getElem_cons hjn, ← HNBJ.out] at hrest
        simp only [YL] at hrest
        obtain ⟨F1, g1, g2, g3⟩ := hrest
        obtain ⟨q1, q2⟩ := grow_tree (F := Fj) (F2 := F1) (nbs := [nb]) (nys := [nys[j]]) (g := ga) (cap := cap) (n := bsj.length) (m := 1) hFb HNJ.out hoj hfoj hylj h1 (YL.one (g2.below h1)) (fun k q r => HA.out.apart k q (g1 k r)) rfl rfl h2 h3 h4
        rw [← HW6.out] at q1 q2
        obtain ⟨cv0, hc0, hrow⟩ := HA.out.row
        have hcv : cv0 = .slice Aj bsj.length cj := Option.some.inj (hc0.symm.trans HNJ.out.content)
        have hs1 := HA.out.chg.size
        have hs2 := h1.size
        have hgaF : F ga ∨ w.heap.size ≤ ga := by
          rcases h4 with h | h
          · exact hrow ga (by rw [hcv]; exact h)
          · exact .inr (by omega)
        have hne : w.heap.size ≠ nd := by have := HN.out.lt; omega
        refine ⟨j + 1, fun k => Fj k ∨ F1 k ∨ k = ga, fun k => Gj k ∧ ¬ F1 k, by go_num, ⟨by have := HJ.out; omega⟩, ⟨?_⟩⟩
        refine ⟨?_, ?_, ?_, ?_, fun k q => HA.out.inG k q.1, ?_, ?_, HA.out.root, ?_⟩
        · rw [List.take_succ_eq_append_getElem hjn, ← List.append_assoc]
          exact q1
        · exact g3.chg q2 (fun k q r => by
            rcases r with r | r
            · exact HA.out.apart k (by rw [r]; exact hFb) q.1
            · exact HA.out.apart k (hfoj k r.symm) q.1)
        · rintro k (q | q | q) ⟨r1, r2⟩
          · exact HA.out.apart k q r1
          · exact r2 q
          · rcases hgaF with h | h
            · have := (HA.out.inG k r1).1
              exact HY.out.2.2.1 k (by rw [q]; exact h) this
            · have := (HA.out.inG k r1).2
              omega
        · rintro k (q | q | q)
          · rcases HA.out.inF k q with h | ⟨h, h'⟩ | h
            · exact .inl h
            · exact .inr (.inl ⟨h, fun r => h' r.1⟩)
            · exact .inr (.inr h)
          · exact .inr (.inl ⟨(HA.out.inG k (g1 k q)).1, fun r => r.2 q⟩)
          · rcases hgaF with h | h
            · exact .inl (by rw [q]; exact h)
            · exact .inr (.inr (by omega))
        · refine HA.out.chg.trans q2 (fun k q => ?_)
          rcases q with q | q
          · exact .inl (by rw [q]; exact HA.out.root)
          · exact hrow k (by rw [hcv]; exact q.symm)
        · refine ⟨.slice (some ⟨ga, 0, none⟩) (bsj.length + 1) cap, ?_, fun k hk => ?_⟩
          · obtain ⟨cv', hn'⟩ := node_open q1
            have hn5 : NB w5 nd 2 t v (.slice Aj bsj.length cj) := by
              have hbo : ¬ some nd = (Value.slice Aj bsj.length cj).ownBlock := fun e => by
                obtain ⟨cells, hh⟩ := own_typed hoj nd e.symm
                rw [HNJ.out] at hh
                simp at hh
              exact (h3.block _ (Nat.lt_of_lt_of_le HNJ.out.lt h1.size) hbo).trans ((h1.block _ HNJ.out.lt).trans HNJ.out)
            rw [HW6.out, cell_of_block (heap_set (a := ⟨nd, 6, none⟩) hn5 rfl)]
            rfl
          · have : ga = k := by simpa [Value.ownBlock] using hk
            rw [← this]; exact hgaF
        · refine (q2.block _ (lt_of_block HA.out.box) (fun q => ?_)).trans HA.out.box
          rcases q with q | q
          · exact hne q
          · obtain ⟨cells, hh⟩ := own_typed hoj _ q.symm
            rw [HA.out.box] at hh
            simp at hh
    · have hje : j = nbs.length := by have := HJ.out; omega
      have hjb : decide ((j : Int) < (nbs.length : Int)) = false := by simp; omega
      have htree := HA.out.tree
      rw [hje, HY.out.2.1.length, List.take_length] at htree
      have HT := Aside0.mk htree
      have cf1 : wr.cell? ⟨w.heap.size, 1, none⟩ = some (.slice (some ⟨gl, 0, none⟩) nbs.length c) := by rw [cell_of_block HA.out.box]; rfl
      clear htree hje
      by_cases h1 : nbs.length = 1
      · obtain ⟨nb, hnb⟩ : ∃ nb, nb = nbs.getD 0 0 := ⟨_, rfl⟩
        have hce : wr.cell? ⟨gl, 0, none⟩ = some (ptr nb) := by
          have h := HA.out.chg.cell_of (HY.out.2.2.2 0 (by omega)) HR.out.2.1
          rw [h, hnb, List.getD_eq_getElem?_getD, List.getElem?_eq_getElem (by omega)]
          rfl
        have h1b : ((nbs.length : Int) == 1) = true := by simp; omega
        have hp0 : 0 < nbs.length := by omega
        have H1 := Aside0.mk (And.intro h1 hnb)
        clear h1 hnb
        go_wp2_with fail
        refine (newrnode_calls wr nb).mono ?_
        rintro e w1 ⟨rfl, rfl⟩
        have hb1 : Below wr.heap.size wr (wr.alloc (.cells (rcells (.slice none 0 0) (ptr nb) false (.slice none 0 0)) 124)) := (Below.refl _ _).alloc (Nat.le_refl _) _
        have hr1 := RN.new wr nb
        generalize wr.alloc (.cells (rcells (.slice none 0 0) (ptr nb) false (.slice none 0 0)) 124) = w1 at hb1 hr1 ⊢
        have HB := Aside0.mk (And.intro hb1 hr1)
        clear hb1 hr1
        go_wp2_with fail
        refine bodyPost_ret (v := .tuple #[ptr wr.heap.size, .nilIface]) (by simp [results, Try.results122, go_sem]) rfl ⟨some wr.heap.size, rfl, Fj, HT.out.below HB.out.1, fun k q => ?_, HA.out.chg.trans (Chg.of_below HB.out.1) (fun _ (q : False) => q.elim), .inl ⟨H1.out.1, wr.heap.size, rfl, by rw [← H1.out.2]; exact HB.out.2⟩⟩
        rcases HA.out.inF k q with h | ⟨h, _⟩ | h
        · exact .inl h
        · exact .inr (.inl h)
        · exact .inr (.inr h)
      · have h1b : ((nbs.length : Int) == 1) = false := by simp; omega
        have H1 := Aside0.mk h1
        clear h1
        go_wp2_with fail
        refine bodyPost_ret (v := .tuple #[.pointer none, .nilIface]) (by simp [results, Try.results122, go_sem]) rfl ⟨none, rfl, Fj, HT.out, fun k q => ?_, HA.out.chg, .inr ⟨H1.out, rfl⟩⟩
        rcases HA.out.inF k q with h | ⟨h, _⟩ | h
        · exact .inl h
        · exact .inr (.inl h)
        · exact .inr (.inr h)
end Go.Proofs.Ytigpgkfgkjabmaa
