/-
  What ElementAppender does to a list that is laid; impl.Append.
-/
import Derived.Test.YtigpgkfgkjabmaaAppend
import Derived.Test.YtigpgkfgkjabmaaRightAll
namespace Go.Proofs.Ytigpgkfgkjabmaa
open Go.RowKit Go.Proofs.YtigpgkfgkjabmaaW.PrintWords Go.Proofs.YtigpgkfgkjabmaaW.PrintLast Go.Proofs.Ytigpgkfgkjabmaa.PFnFields
set_option linter.unusedVariables false
set_option linter.unusedSimpArgs false

/-- The list with more elements. -/
def lw (x : S25) (vs : List S25) : S25 := ⟨3, ⟨#[]⟩, ⟨#[]⟩, [], x.f4 ++ vs⟩
/-- What the appender hands back. -/
def lone (vs : List S25) : S25 := if vs.length = 1 then vs.getD 0 z25 else z25
theorem append_does (x : S25) (vs : List S25) (hx : Tree x) (h3 : x.f0 = 3) (hvs : ∀ v ∈ vs, Tree v) (ht : Tree (lw x vs)) (w : World) (gl c : Nat) (nbs : List Nat) (G : Nat → Prop) (hel : ∀ i (h : i < nbs.length), w.cell? ⟨gl, i, none⟩ = some (ptr nbs[i])) (hgl : gl < w.heap.size)
    (hnl : YL w G nbs (vs.map (toY 6))) :
    FilterDoes w 122 (.agg #[.string ⟨#[]⟩, .slice (some ⟨gl, 0, none⟩) nbs.length c]) x (lone vs) (lw x vs) := by
  intro w0 wa r b hb0 hb1 hr hrl hy
  have hs0 := hb0.size
  have hwa : Below w.heap.size w wa := hb0.trans (hb1.mono hb0.size)
  have hn60 : nodes (5 + 1) (lw x vs) ≤ 60 := ht.2
  have hlen := ht.1.len
  have hlv : (lw x vs).f4.length = x.f4.length + vs.length := by simp [lw]
  have hnv := hnl.length
  have hup : x.f4.map (toY 6) = x.f4.map (toY 5) := List.map_congr_left fun y hy => toY_up (hx.1.items y hy)
  rw [toY_three h3, ← hup] at hy
  have hl2 : Live 2 ⟨#[]⟩ := ⟨rfl, by rw [ByteArray.toList_eq]; rfl⟩
  have hnl' : YL wa (fun k => G k ∧ k < w.heap.size) nbs (vs.map (toY 6)) := hnl.lt.below hwa
  refine (appender_calls wa r b gl c (fun k => w0.heap.size ≤ k ∧ k ≠ r) (fun k => G k ∧ k < w.heap.size) ⟨#[]⟩ ⟨#[]⟩ (x.f4.map (toY 6)) (vs.map (toY 6)) nbs hr hy hl2 (by simp at hnv ⊢; omega) (fun i hi => (hwa.cell hgl).trans (hel i hi)) hnl'
    (fun k q r => by omega) (fun q => by omega) (fun q => q.2 rfl)).mono ?_
  rintro e w' ⟨o, rfl, F', hy', hF', hc, hcase⟩
  have hr' : RN w' r b := hr.move (fun hlt => hc.block r hlt (fun q => q.2 rfl))
  refine ⟨_, rfl, hc.below hb1.size (fun k q => q.1), ?_, ?_⟩
  · have hnl2 := hnl'.chg hc (fun k q r => by omega)
    rcases hcase with ⟨h1, ro, rfl, hro⟩ | ⟨h1, rfl⟩
    · have hv1 : vs.length = 1 := by simpa [h1] using hnv.symm
      obtain ⟨v, rfl⟩ := List.length_eq_one_iff.1 hv1
      obtain ⟨b1, F1, eb, _, hyb⟩ := hnl2.get 0 (by simp)
      rw [List.getD_eq_getElem?_getD, eb] at hro
      have hl1 : lone [v] = v := rfl
      rw [hl1]
      exact holds_tree (hvs v (by simp)).1 (hvs v (by simp)).2 hro hyb
    · have hv1 : vs.length ≠ 1 := by simpa [hnv] using h1
      have hl1 : lone vs = z25 := if_neg hv1
      rw [hl1]
      exact .inl ⟨rfl, rfl⟩
  · obtain ⟨hw7, hn7⟩ := ht.1.up
    refine holds_tree (d := 6 + 1) hw7 (by rw [hn7]; exact ht.2) hr' (F := F') ?_
    rw [toY_three (show (lw x vs).f0 = 3 from rfl)]
    have e : x.f4.map (toY 6) ++ vs.map (toY 6) = (lw x vs).f4.map (toY 6) := by simp [lw]
    rw [← e]
    exact hy'
theorem append_method (gl n c : Nat) (m : Nat) (wa : World) : (method (m + 1) 91 (.agg #[.string ⟨#[]⟩, .slice (some ⟨gl, 0, none⟩) n c]) "Filter").run Try.prog wa = .ok (122, .agg #[.string ⟨#[]⟩, .slice (some ⟨gl, 0, none⟩) n c]) wa := by kernel_rfl
theorem kappend_calls (gl n c : Nat) (w : World) : Calls Try.prog 55 #[.slice (some ⟨gl, 0, none⟩) n c] w fun e w' => e = .returned (.agg #[.string ⟨#[]⟩, .slice (some ⟨gl, 0, none⟩) n c]) ∧ Below w.heap.size w w' := by
  go_enter Try.func55, Try.ntmps55
  go_wp2
  refine bodyPost_ret (v := .agg #[.string ⟨#[]⟩, .slice (some ⟨gl, 0, none⟩) n c]) (by simp [results, Try.results55, go_sem]) rfl ⟨rfl, (Below.refl _ _).alloc (Nat.le_refl _) _⟩
/-- A tree's pointer has been put behind a row of pointers. -/
theorem push_tree {base nb : Nat} {wr wa w2 : World} {cv v1 : Value} {bs : List Nat} {ys : List Y} {y : Y} (ho : wr.ownsRow base 88 1 cv bs.length (ptrs bs)) (hy : YL wr (fun k => base ≤ k ∧ some k ≠ cv.ownBlock) bs ys) (hbase : base ≤ wr.heap.size) (hb : Below wr.heap.size wr wa)
    (hn : YN wa (fun k => wr.heap.size ≤ k) nb y) (hg : wa.grownBy w2 cv.ownBlock) (hat : v1.ownBlock = cv.ownBlock ∨ ∃ b', v1.ownBlock = some b' ∧ wa.heap.size ≤ b') : YL w2 (fun k => base ≤ k ∧ some k ≠ v1.ownBlock) (bs ++ [nb]) (ys ++ [y]) := by
  have hs := hb.size
  have hol : ∀ k, cv.ownBlock = some k → k < wr.heap.size := own_lt ho
  refine YL.append (F1 := fun k => (base ≤ k ∧ some k ≠ cv.ownBlock) ∧ k < wr.heap.size) (F2 := fun k => wr.heap.size ≤ k ∧ k < wa.heap.size) ?_ (YL.one ?_) ?_ ?_ ?_
  · refine YL.move (fun _ q => q) (fun k q _ => ?_) hy.lt
    rw [hg.block k (by omega) q.1.2, hb.block k q.2]
  · refine YN.move (fun _ q => q) (fun k q _ => ?_) hn.lt
    exact hg.block k q.2 (fun e => by have := hol k e.symm; omega)
  · rintro k ⟨⟨h1, h2⟩, h3⟩
    refine ⟨h1, fun e => ?_⟩
    rcases hat with h | ⟨b', h, hl⟩
    · exact h2 (e.trans h)
    · rw [h] at e
      have : k = b' := by simpa using e
      omega
  · rintro k ⟨h1, h2⟩
    refine ⟨by omega, fun e => ?_⟩
    rcases hat with h | ⟨b', h, hl⟩
    · have := hol k (by rw [← h, ← e]); omega
    · rw [h] at e
      have : k = b' := by simpa using e
      omega
  · rintro k ⟨_, h1⟩ ⟨h2, _⟩
    omega
def iapp9.T : Bool × List (List Nat × List Nat) := (true, [([], []), ([], []), ([1], [1]), ([2], [2]), ([3], [3]), ([0, 4, 2], [0, 4]), ([5], [5]), ([6], [6]), ([6], [6]), ([6], [6]), ([], []), ([], []), ([10, 7, 5, 0, 1, 2, 3, 4, 5, 6, 7, 10, 11], [7, 10]), ([11, 8, 12, 0, 1, 2, 3, 4, 5, 6, 7, 8, 10, 11, 12], [8, 11]), ([9, 13, 0, 1, 2, 3, 4, 5, 6, 7, 8, 9, 10, 11, 12, 13], [9])])
def iapp9.B : List Nat := [0, 0, 2, 6, 14, 31, 63, 127, 127, 127, 0, 0, 3327, 7679, 16383]
theorem iapp9.tab : rtab .any (opsOf Try.f29 9) = iapp9.T := by kernel_rfl
theorem iapp9.bits : waitsOk iapp9.T.2 iapp9.B = true := by kernel_rfl
set_option maxRecDepth 100000 in
set_option maxHeartbeats 3200000 in
theorem iappend_calls (x : S25) (vs : List S25) (hx : Tree x) (h3 : x.f0 = 3) (hvs : ∀ v ∈ vs, Tree v) (h1 : 1 ≤ vs.length) (h10 : vs.length ≤ 10) (ht : Tree (lw x vs)) (w : World) (A3 : Option Addr) (c3 : Nat) (A4 : Option Addr) (c4 : Nat) (hK : nodeK w x A3 c3 A4 c4) (V : Option Addr) (vc : Nat) (hV : k25.C w V vs.length vs) :
    Calls Try.prog 29 #[nodeV x A3 c3 A4 c4, .slice V vs.length vc] w (SetIPost w (lw x vs)) := by
  have hu := Try.underlying25
  have HX := Aside0.mk (And.intro hx (And.intro h3 (And.intro hvs (And.intro ht (And.intro h1 h10)))))
  have HK := Aside0.mk (And.intro hK hV)
  have hvm : vs.length ≤ 10 := h10
  clear hK hV hx h3 hvs ht h1 h10
  go_enter Try.func29, Try.ntmps29
  go_wp2_with fail
  obtain ⟨w0, e0⟩ : ∃ w0, w0 = (w.alloc (.cells #[.int .i64 x.f0, .string x.f1, .string x.f2, .slice A3 x.f3.length c3, .slice A4 x.f4.length c4] 25)).alloc (.cells #[.int .i64 0, .string ⟨#[]⟩, .string ⟨#[]⟩, .slice none 0 0, .slice none 0 0] 25) := ⟨_, rfl⟩
  try rw [← e0]
  have hb0 : Below w.heap.size w w0 := by rw [e0]; exact ((Below.refl _ _).alloc (Nat.le_refl _) _).alloc (by simp) _
  have q0 : inVar w0 w.heap.size x A3 c3 A4 c4 := by rw [e0]; exact (heap_old _ (by simp)).trans (heap_at _ rfl)
  have q1 : w0.heap[w.heap.size + 1]? = some (.cells #[.int .i64 0, .string ⟨#[]⟩, .string ⟨#[]⟩, .slice none 0 0, .slice none 0 0] 25 (0, 0)) := by rw [e0]; exact heap_at _ (by simp)
  have H0 := Aside0.mk (And.intro hb0 (And.intro q0 q1))
  clear hb0 q0 q1 e0
  refine (rightAll_calls vs HX.out.2.2.1 (by omega) w0 V vc (Kd.C_below HK.out.2 H0.out.1)).mono ?_
  rintro e w1 ⟨rfl, hb1⟩
  have mv : ∀ {k : Nat} {o : Obj}, w0.heap[k]? = some o → w1.heap[k]? = some o := fun {k o} h => (hb1.block _ (lt_of_block h)).trans h
  have H1 := Aside0.mk (And.intro (H0.out.1.trans (hb1.mono H0.out.1.size)) (And.intro (mv H0.out.2.1) (mv H0.out.2.2)))
  clear hb1 mv H0
  go_wp2_with fail
  obtain ⟨i0, hi0, hz0, hz1, hz2⟩ : ∃ i0 : TypeInfo, Aside0 (Try.prog.info? 88 = some i0) ∧ Aside0 (i0.zero = some (.pointer none)) ∧ Aside0 (i0.size = 1) ∧ Aside0 (i0.bytes = 8) := by
    obtain ⟨i0, h1, h2⟩ := Option.map_eq_some_iff.1 Try.infoYP
    simp only [Prod.mk.injEq] at h2
    exact ⟨i0, ⟨h1⟩, ⟨h2.1⟩, ⟨h2.2.1⟩, ⟨h2.2.2⟩⟩
  go_loopg [18, 6] vs.length (fun k i l wr => ∃ (j : Nat) (A : Option Addr) (n c : Nat) (bs : List Nat), i = .int .i64 j ∧ l = .slice A n c ∧ Aside0 (j ≤ vs.length ∧ k + j = vs.length ∧ n = j ∧ bs.length = n) ∧ Aside0 (Below w1.heap.size w1 wr) ∧
    Aside0 (wr.ownsRow w1.heap.size 88 1 (.slice A n c) bs.length (ptrs bs)) ∧ Aside0 (YL wr (fun k => w1.heap.size ≤ k ∧ some k ≠ (Value.slice A n c).ownBlock) bs ((vs.take j).map (toY 6))))
  case atStart => exact ⟨0, none, 0, 0, [], rfl, rfl, ⟨by simp⟩, ⟨Below.refl _ _⟩, ⟨own_nil _ _ _ _⟩, ⟨by simp only [List.take_zero, List.map_nil, YL]⟩⟩
  case round =>
    obtain ⟨j, A, n, c, bs, rfl, rfl, HJ, HB, HO, HY⟩ := hrel
    by_cases hj : j < vs.length
    · generalize hyy : vs.getD j z25 = yy
      obtain ⟨am, P3, p3, P4, p4, e6, hKp, fp0, fp1, fp2, fp3, fp4⟩ := nodeAt HK.out.2 j hj yy hyy
      subst e6
      have hbw : Below w.heap.size w wr := H1.out.1.trans (HB.out.mono H1.out.1.size)
      have old : ∀ {a : Addr} {v : Value}, w.cell? a = some v → wr.cell? a = some v := fun {a v} h => (hbw.cell (World.block_lt_of_cell? w a h)).trans h
      have d0 := old fp0
      have d1 := old fp1
      have d2 := old fp2
      have d3 := old fp3
      have d4 := old fp4
      have hye : yy = vs[j] := by rw [← hyy, List.getD_eq_getElem?_getD, List.getElem?_eq_getElem hj]; rfl
      have HYY := Aside0.mk (And.intro (HX.out.2.2.1 yy (by rw [hye]; exact List.getElem_mem _)) (And.intro (k25.K_below hbw hKp) hye))
      clear hyy hKp fp0 fp1 fp2 fp3 fp4 old hye hbw
      go_wp2_with fail
      obtain ⟨w2, e2⟩ : ∃ w2, w2 = wr.alloc (.cells #[.int .i64 yy.f0, .string yy.f1, .string yy.f2, .slice P3 yy.f3.length p3, .slice P4 yy.f4.length p4] 25) := ⟨_, rfl⟩
      try rw [← e2]
      have hb2 : Below wr.heap.size wr w2 := by rw [e2]; exact (Below.refl _ _).alloc (Nat.le_refl _) _
      have HB2 := Aside0.mk hb2
      clear hb2 e2 d0 d1 d2 d3 d4
      refine (treeOf_calls 6 yy w2 _ (k25.K_below HB2.out HYY.out.2.1) (HYY.out.1.1.sh HYY.out.1.2)).mono ?_
      rintro e w3 ⟨nb, rfl, hn3, hb3⟩
      have HB3 := Aside0.mk (And.intro (HB2.out.trans (hb3.mono HB2.out.size)) (hn3.mono (fun k q => Nat.le_trans HB2.out.size q)))
      clear hb3 hn3
      have hbo : Aside0 (w3.ownsRow w1.heap.size 88 1 (.slice A n c) n (ptrs bs)) := ⟨by
        have h := own_move HO.out (fun k hk => HB3.out.1.block k (own_lt HO.out k hk))
        rw [HJ.out.2.2.2] at h
        exact h⟩
      have hsz : w1.heap.size ≤ w3.heap.size := Nat.le_trans HB.out.size HB3.out.1.size
      go_wp2_with ((with_reducible refine gate_builtin (b := .append) (xs := #[.tmp 22, .tmp 25]) rfl ?_); at_builtin; (refine print_append_cells (w0 := w3) w1.heap.size rfl (.tmp 22) (.tmp 25) 87 88 (.pointer none) 1 8 rfl Try.underlying87 Try.infoYP rfl (by decide) (by decide) (.slice A n c) n (ptrs bs) [ptr nb] rfl rfl rfl (by simp [Value.oneCell']) hbo.out (Below.refl _ _) hsz (by have := HJ.out; omega) ?_); (intro v1 w4 hown hb4 hg4 hat4); (obtain ⟨B, d, rfl⟩ := own_slice hown); (have HG := Aside0.mk (And.intro hown (And.intro hb4 (And.intro hg4 hat4)))); clear hown hb4 hg4 hat4)
      go_roundg (gk - 1)
      case measure => have := HJ.out; omega
      case rel =>
        obtain ⟨hown, hb4, hg4, hat4⟩ := HG.out
        refine ⟨j + 1, B, n + 1, d, bs ++ [nb], by go_num, rfl, ⟨by have := HJ.out; simp; omega⟩, ⟨(HB.out.trans (HB3.out.1.mono HB.out.size)).trans hb4⟩, ⟨?_⟩, ⟨?_⟩⟩
        · rw [ptrs_append, List.length_append, HJ.out.2.2.2]
          exact hown
        · rw [List.take_succ_eq_append_getElem hj, List.map_append, ← HYY.out.2.2]
          exact push_tree HO.out HY.out HB.out.size HB3.out.1 HB3.out.2 hg4 hat4
    · have hje : j = vs.length := by have := HJ.out; omega
      have hY := HY.out
      rw [hje, List.take_length] at hY
      obtain ⟨g, cap, hgc, _, hgl⟩ := HO.out.form (by have := HJ.out; have := HX.out.2.2.2.2; omega)
      have hnl : n = bs.length := HJ.out.2.2.2.symm
      obtain ⟨rfl, rfl⟩ : A = some ⟨g, 0, none⟩ ∧ c = cap := by
        simp only [Value.slice.injEq] at hgc
        exact ⟨hgc.1, hgc.2.2⟩
      subst hnl
      have hel : ∀ i (h : i < bs.length), wr.cell? ⟨g, i, none⟩ = some (ptr bs[i]) := fun i hi => own_cell HO.out i _ (by simp only [ptrs, List.getElem?_map, List.getElem?_eq_getElem hi, Option.map_some])
      have HE := Aside0.mk (And.intro hel (And.intro hgl hY))
      clear hje hY hgc hgl hel HY HO
      have HB1 := Aside0.mk (And.intro (H1.out.1.trans (HB.out.mono H1.out.1.size)) (And.intro ((HB.out.block _ (lt_of_block H1.out.2.1)).trans H1.out.2.1) ((HB.out.block _ (lt_of_block H1.out.2.2)).trans H1.out.2.2)))
      go_wp2_with fail
      have BW : Aside0 (Below wr.heap.size wr wr.drew) := ⟨(Below.refl _ _).drew⟩
      refine start_ (n := 15) (S := fun w' => True) (ds := []) #[false, false, false, false, false, false, false, false, false, false, false, false, false, false, false] (by kernel_rfl) rfl rfl trivial (fun hHeld => ?_)
      refine with_tabW (T := iapp9.T) (B := iapp9.B) iapp9.tab iapp9.bits (fun HT_ HW_ => ?_)
      refine pure_ (i := 1) (N := some 30) (v := ?_) (a' := ?_) #[false, true, false, false, false, false, false, false, false, false, false, false, false, false, false] rfl rfl (any_of HT_.out (by kernel_rfl)) (fun _ _ _ h => h) (Or.inl ⟨by rfl, ?_⟩) ?_ ?_
      rotate_left
      · intro w'
        go_simp
        with_reducible rfl
      rotate_left
      · simp only [Act.put, List.setIfInBounds_toArray, List.set_cons_zero, List.set_cons_succ, i64_w, i32_w]
        rfl
      refine inv_at [0, 2, 3, 4, 5, 6, 7, 8, 9, 10, 11, 12, 13, 14] (fun a0_ b a w' => ∃ (gi : Nat) (lo : Nat) (hi : Nat) (p12 : Nat) (p13 : Nat) (B3 : Option Addr) (B4 : Option Addr) (E3 : Option Addr) (E4 : Option Addr) (d3 : Nat) (d4 : Nat) (f3 : Nat) (f4 : Nat) (m4_ : Value) (m5_ : Value) (m6_ : Value) (m7_ : Value) (m8_ : Value) (m10_ : Value) (m11_ : Value), a = putSel a0_ b [(0, 29, nodeV x A3 c3 A4 c4), (2, 31, .agg #[.string ⟨#[]⟩, .slice (some ⟨g, 0, none⟩) bs.length c]), (3, 32, .iface 91 (.agg #[.string ⟨#[]⟩, .slice (some ⟨g, 0, none⟩) bs.length c])), (4, 33, m4_), (5, 34, m5_), (6, 28, m6_), (7, 35, m7_), (8, 36, m8_), (9, 37, .bool true), (10, 9, m10_), (11, 10, m11_), (14, 11, .bool true)] ∧ (Below wr.heap.size wr w') ∧ (b 4 = true → b 5 = false → w'.heap[gi]? = some (.cells #[.iface 91 (.agg #[.string ⟨#[]⟩, .slice (some ⟨g, 0, none⟩) bs.length c])] 134 (0, 0))) ∧ (b 5 = true → lo ≤ hi ∧ hi ≤ w'.heap.size ∧ wr.heap.size ≤ lo ∧ k25.M w' 0 (fun k => lo ≤ k ∧ k < hi) ((lw x vs)) [.int .i64 ((lw x vs)).f0, .string ((lw x vs)).f1, .string ((lw x vs)).f2, .slice E3 ((lw x vs)).f3.length f3, .slice E4 ((lw x vs)).f4.length f4]) ∧ (b 10 = true → b 12 = false → w'.heap[p12]? = some (.cells #[.int .i64 0, .string ⟨#[]⟩, .string ⟨#[]⟩, .slice none 0 0, .slice none 0 0] 25 (0, 0)) ∧ wr.heap.size ≤ p12) ∧ (b 11 = true → b 13 = false → w'.heap[p13]? = some (.cells #[.int .i64 0, .string ⟨#[]⟩, .string ⟨#[]⟩, .slice none 0 0, .slice none 0 0] 25 (0, 0)) ∧ wr.heap.size ≤ p13) ∧ (b 5 = true → b 10 = true → p12 < lo ∨ hi ≤ p12) ∧ (b 5 = true → b 11 = true → p13 < lo ∨ hi ≤ p13) ∧ (b 10 = true → b 11 = true → p12 ≠ p13) ∧ (b 13 = true → w'.heap[p13]? = some (.cells #[.int .i64 ((lw x vs)).f0, .string ((lw x vs)).f1, .string ((lw x vs)).f2, .slice E3 ((lw x vs)).f3.length f3, .slice E4 ((lw x vs)).f4.length f4] 25 (0, 0)) ∧ wr.heap.size ≤ p13) ∧ (b 4 = true → (m4_ : Value) = .slice (some ⟨gi, 0, none⟩) 1 1) ∧ (b 5 = true → (m5_ : Value) = .tuple #[nodeV (lone vs) B3 d3 B4 d4, nodeV (lw x vs) E3 f3 E4 f4, .bool true]) ∧ (b 6 = true → (m6_ : Value) = .tuple #[nodeV (lone vs) B3 d3 B4 d4, nodeV (lw x vs) E3 f3 E4 f4, .bool true]) ∧ (b 7 = true → (m7_ : Value) = nodeV (lone vs) B3 d3 B4 d4) ∧ (b 8 = true → (m8_ : Value) = nodeV (lw x vs) E3 f3 E4 f4) ∧ (b 10 = true → (m10_ : Value) = .pointer (some ⟨p12, 0, none⟩)) ∧ (b 11 = true → (m11_ : Value) = .pointer (some ⟨p13, 0, none⟩))) HT_.out HW_.out (by kernel_rfl) (by kernel_rfl) ?_ ?_ ?_
      · exact ⟨0, 0, 0, 0, 0, none, none, none, none, 0, 0, 0, 0, .bool false, .bool false, .bool false, .bool false, .bool false, .bool false, .bool false, by simp only [putSel, Bool.false_eq_true, if_false], BW.out, fun h_ => absurd h_ (by decide), fun h_ => absurd h_ (by decide), fun h_ => absurd h_ (by decide), fun h_ => absurd h_ (by decide), fun h_ => absurd h_ (by decide), fun h_ => absurd h_ (by decide), fun h_ => absurd h_ (by decide), fun h_ => absurd h_ (by decide), fun h_ => absurd h_ (by decide), fun h_ => absurd h_ (by decide), fun h_ => absurd h_ (by decide), fun h_ => absurd h_ (by decide), fun h_ => absurd h_ (by decide), fun h_ => absurd h_ (by decide), fun h_ => absurd h_ (by decide)⟩
      · skip
        clear BW
        refine steps_cons ?_ ?_
        · rintro b a w' ⟨gi, lo, hi, p12, p13, B3, B4, E3, E4, d3, d4, f3, f4, m4_, m5_, m6_, m7_, m8_, m10_, m11_, ha, Q_BW, Q_BI, Q_M7, Q_P12, Q_P13, Q_D12, Q_D13, Q_DP, Q_PX, Q_X4_, Q_X5_, Q_X6_, Q_X7_, Q_X8_, Q_X10_, Q_X11_⟩ hb_ hon hoff
          refine ⟨_, rfl, fun K hK => ?_⟩
          have e2 : a.tmps[2]? = some (.pointer (some ⟨w.heap.size, 0, none⟩)) := by rw [ha]; exact (putSel_off rfl).trans rfl
          replace ha := Aside0.mk ha
          have BW := Aside0.mk Q_BW
          have HQ := Aside0.mk ((BW.out.block _ (lt_of_block HB1.out.2.1)).trans HB1.out.2.1)
          have cv0 := (cell_of_block (i := 0) HQ.out).trans (show _ = some _ from rfl); have cv1 := (cell_of_block (i := 1) HQ.out).trans (show _ = some _ from rfl); have cv2 := (cell_of_block (i := 2) HQ.out).trans (show _ = some _ from rfl); have cv3 := (cell_of_block (i := 3) HQ.out).trans (show _ = some _ from rfl); have cv4 := (cell_of_block (i := 4) HQ.out).trans (show _ = some _ from rfl); have zv0 := frozen_of_block (i := 0) HQ.out; have zv1 := frozen_of_block (i := 1) HQ.out; have zv2 := frozen_of_block (i := 2) HQ.out; have zv3 := frozen_of_block (i := 3) HQ.out; have zv4 := frozen_of_block (i := 4) HQ.out
          refine value_ (w1 := w') (v := nodeV x A3 c3 A4 c4) (by rfl) rfl ?_ ?_
          · go_simp
            (try simp only [i64_w])
            try rfl
          refine hK.out _ _ ⟨gi, lo, hi, p12, p13, B3, B4, E3, E4, d3, d4, f3, f4, m4_, m5_, m6_, m7_, m8_, m10_, m11_, (by rw [ha.out]; exact putSel_upk 0 hb_ rfl rfl rfl), Q_BW, Q_BI, fun h0_ => absurd ((hoff 5 (by kernel_rfl)).symm.trans h0_) (by decide), Q_P12, Q_P13, fun h0_ _ => absurd ((hoff 5 (by kernel_rfl)).symm.trans h0_) (by decide), fun h0_ _ => absurd ((hoff 5 (by kernel_rfl)).symm.trans h0_) (by decide), Q_DP, fun h0_ => absurd ((hoff 13 (by kernel_rfl)).symm.trans h0_) (by decide), Q_X4_, fun h0_ => absurd ((hoff 5 (by kernel_rfl)).symm.trans h0_) (by decide), fun h0_ => absurd ((hoff 6 (by kernel_rfl)).symm.trans h0_) (by decide), fun h0_ => absurd ((hoff 7 (by kernel_rfl)).symm.trans h0_) (by decide), fun h0_ => absurd ((hoff 8 (by kernel_rfl)).symm.trans h0_) (by decide), Q_X10_, Q_X11_⟩
        refine steps_cons ?_ ?_
        · rintro b a w' ⟨gi, lo, hi, p12, p13, B3, B4, E3, E4, d3, d4, f3, f4, m4_, m5_, m6_, m7_, m8_, m10_, m11_, ha, Q_BW, Q_BI, Q_M7, Q_P12, Q_P13, Q_D12, Q_D13, Q_DP, Q_PX, Q_X4_, Q_X5_, Q_X6_, Q_X7_, Q_X8_, Q_X10_, Q_X11_⟩ hb_ hon hoff
          refine ⟨_, rfl, fun K hK => ?_⟩
          have e30 : a.tmps[30]? = some (.slice (some ⟨g, 0, none⟩) bs.length c) := by rw [ha]; exact (putSel_off rfl).trans rfl
          replace ha := Aside0.mk ha
          have BW := Aside0.mk Q_BW
          refine goes_ Try.func55 (by kernel_rfl) rfl #[.slice (some ⟨g, 0, none⟩) bs.length c] (by rfl) rfl rfl (by first | (simp only [List.map_toArray, List.map_cons, List.map_nil, Act.eval, Array.getD_eq_getD_getElem?, Option.getD_some, e30]; done) | (simp only [List.map_toArray, List.map_cons, List.map_nil, Act.eval, Array.getD_eq_getD_getElem?, Option.getD_some, e30]; rfl)) ?_
          refine (kappend_calls g bs.length c w').mono ?_
          rintro e w3 ⟨rfl, hb3⟩
          refine ⟨_, rfl, ?_⟩
          refine hK.out _ _ ⟨gi, lo, hi, p12, p13, B3, B4, E3, E4, d3, d4, f3, f4, m4_, m5_, m6_, m7_, m8_, m10_, m11_, (by rw [ha.out]; exact putSel_upk 1 hb_ rfl rfl rfl), BW.out.trans (hb3.mono BW.out.size), fun h0_ _ => absurd ((hoff 4 (by kernel_rfl)).symm.trans h0_) (by decide), fun h0_ => absurd ((hoff 5 (by kernel_rfl)).symm.trans h0_) (by decide), fun h0_ h1_ => ⟨(hb3.block _ (lt_of_block (Q_P12 h0_ h1_).1)).trans (Q_P12 h0_ h1_).1, (Q_P12 h0_ h1_).2⟩, fun h0_ h1_ => ⟨(hb3.block _ (lt_of_block (Q_P13 h0_ h1_).1)).trans (Q_P13 h0_ h1_).1, (Q_P13 h0_ h1_).2⟩, fun h0_ _ => absurd ((hoff 5 (by kernel_rfl)).symm.trans h0_) (by decide), fun h0_ _ => absurd ((hoff 5 (by kernel_rfl)).symm.trans h0_) (by decide), Q_DP, fun h0_ => absurd ((hoff 13 (by kernel_rfl)).symm.trans h0_) (by decide), fun h0_ => absurd ((hoff 4 (by kernel_rfl)).symm.trans h0_) (by decide), fun h0_ => absurd ((hoff 5 (by kernel_rfl)).symm.trans h0_) (by decide), fun h0_ => absurd ((hoff 6 (by kernel_rfl)).symm.trans h0_) (by decide), fun h0_ => absurd ((hoff 7 (by kernel_rfl)).symm.trans h0_) (by decide), fun h0_ => absurd ((hoff 8 (by kernel_rfl)).symm.trans h0_) (by decide), Q_X10_, Q_X11_⟩
        refine steps_cons ?_ ?_
        · rintro b a w' ⟨gi, lo, hi, p12, p13, B3, B4, E3, E4, d3, d4, f3, f4, m4_, m5_, m6_, m7_, m8_, m10_, m11_, ha, Q_BW, Q_BI, Q_M7, Q_P12, Q_P13, Q_D12, Q_D13, Q_DP, Q_PX, Q_X4_, Q_X5_, Q_X6_, Q_X7_, Q_X8_, Q_X10_, Q_X11_⟩ hb_ hon hoff
          refine ⟨_, rfl, fun K hK => ?_⟩
          have e31 : a.tmps[31]? = some (.agg #[.string ⟨#[]⟩, .slice (some ⟨g, 0, none⟩) bs.length c]) := by rw [ha]; exact putSel_on (e := (2, 31, .agg #[.string ⟨#[]⟩, .slice (some ⟨g, 0, none⟩) bs.length c])) 1 rfl rfl (hon 2 (by kernel_rfl)) rfl
          replace ha := Aside0.mk ha
          have BW := Aside0.mk Q_BW
          refine value_ (w1 := w') (v := .iface 91 (.agg #[.string ⟨#[]⟩, .slice (some ⟨g, 0, none⟩) bs.length c])) (by rfl) rfl ?_ ?_
          · go_simp
            (try simp only [i64_w])
            try rfl
          refine hK.out _ _ ⟨gi, lo, hi, p12, p13, B3, B4, E3, E4, d3, d4, f3, f4, m4_, m5_, m6_, m7_, m8_, m10_, m11_, (by rw [ha.out]; exact putSel_upk 2 hb_ rfl rfl rfl), Q_BW, fun h0_ _ => absurd ((hoff 4 (by kernel_rfl)).symm.trans h0_) (by decide), fun h0_ => absurd ((hoff 5 (by kernel_rfl)).symm.trans h0_) (by decide), Q_P12, Q_P13, fun h0_ _ => absurd ((hoff 5 (by kernel_rfl)).symm.trans h0_) (by decide), fun h0_ _ => absurd ((hoff 5 (by kernel_rfl)).symm.trans h0_) (by decide), Q_DP, fun h0_ => absurd ((hoff 13 (by kernel_rfl)).symm.trans h0_) (by decide), fun h0_ => absurd ((hoff 4 (by kernel_rfl)).symm.trans h0_) (by decide), fun h0_ => absurd ((hoff 5 (by kernel_rfl)).symm.trans h0_) (by decide), fun h0_ => absurd ((hoff 6 (by kernel_rfl)).symm.trans h0_) (by decide), fun h0_ => absurd ((hoff 7 (by kernel_rfl)).symm.trans h0_) (by decide), fun h0_ => absurd ((hoff 8 (by kernel_rfl)).symm.trans h0_) (by decide), Q_X10_, Q_X11_⟩
        refine steps_cons ?_ ?_
        · rintro b a w' ⟨gi, lo, hi, p12, p13, B3, B4, E3, E4, d3, d4, f3, f4, m4_, m5_, m6_, m7_, m8_, m10_, m11_, ha, Q_BW, Q_BI, Q_M7, Q_P12, Q_P13, Q_D12, Q_D13, Q_DP, Q_PX, Q_X4_, Q_X5_, Q_X6_, Q_X7_, Q_X8_, Q_X10_, Q_X11_⟩ hb_ hon hoff
          refine ⟨_, rfl, fun K hK => ?_⟩
          have e32 : a.tmps[32]? = some (.iface 91 (.agg #[.string ⟨#[]⟩, .slice (some ⟨g, 0, none⟩) bs.length c])) := by rw [ha]; exact putSel_on (e := (3, 32, .iface 91 (.agg #[.string ⟨#[]⟩, .slice (some ⟨g, 0, none⟩) bs.length c]))) 2 rfl rfl (hon 3 (by kernel_rfl)) rfl
          replace ha := Aside0.mk ha
          have BW := Aside0.mk Q_BW
          have hb3 : Below w'.heap.size w' (w'.alloc (.cells #[.iface 91 (.agg #[.string ⟨#[]⟩, .slice (some ⟨g, 0, none⟩) bs.length c])] 134)) := (Below.refl _ _).alloc (Nat.le_refl _) _
          have hn3 : (w'.alloc (.cells #[.iface 91 (.agg #[.string ⟨#[]⟩, .slice (some ⟨g, 0, none⟩) bs.length c])] 134)).heap[w'.heap.size]? = some (.cells #[.iface 91 (.agg #[.string ⟨#[]⟩, .slice (some ⟨g, 0, none⟩) bs.length c])] 134 (0, 0)) := heap_at _ rfl
          refine value_ (w1 := w'.alloc (.cells #[.iface 91 (.agg #[.string ⟨#[]⟩, .slice (some ⟨g, 0, none⟩) bs.length c])] 134)) (v := .slice (some ⟨w'.heap.size, 0, none⟩) 1 1) (by rfl) rfl ?_ ?_
          · go_simp
          refine hK.out _ _ ⟨w'.heap.size, lo, hi, p12, p13, B3, B4, E3, E4, d3, d4, f3, f4, (.slice (some ⟨w'.heap.size, 0, none⟩) 1 1), m5_, m6_, m7_, m8_, m10_, m11_, (by rw [ha.out]; exact putSel_upk 3 hb_ rfl rfl rfl), BW.out.trans (hb3.mono BW.out.size), fun _ _ => hn3, fun h0_ => absurd ((hoff 5 (by kernel_rfl)).symm.trans h0_) (by decide), fun h0_ h1_ => ⟨(hb3.block _ (lt_of_block (Q_P12 h0_ h1_).1)).trans (Q_P12 h0_ h1_).1, (Q_P12 h0_ h1_).2⟩, fun h0_ h1_ => ⟨(hb3.block _ (lt_of_block (Q_P13 h0_ h1_).1)).trans (Q_P13 h0_ h1_).1, (Q_P13 h0_ h1_).2⟩, fun h0_ _ => absurd ((hoff 5 (by kernel_rfl)).symm.trans h0_) (by decide), fun h0_ _ => absurd ((hoff 5 (by kernel_rfl)).symm.trans h0_) (by decide), Q_DP, fun h0_ => absurd ((hoff 13 (by kernel_rfl)).symm.trans h0_) (by decide), fun _ => rfl, fun h0_ => absurd ((hoff 5 (by kernel_rfl)).symm.trans h0_) (by decide), fun h0_ => absurd ((hoff 6 (by kernel_rfl)).symm.trans h0_) (by decide), fun h0_ => absurd ((hoff 7 (by kernel_rfl)).symm.trans h0_) (by decide), fun h0_ => absurd ((hoff 8 (by kernel_rfl)).symm.trans h0_) (by decide), Q_X10_, Q_X11_⟩
        refine steps_cons ?_ ?_
        · rintro b a w' ⟨gi, lo, hi, p12, p13, B3, B4, E3, E4, d3, d4, f3, f4, m4_, m5_, m6_, m7_, m8_, m10_, m11_, ha, Q_BW, Q_BI, Q_M7, Q_P12, Q_P13, Q_D12, Q_D13, Q_DP, Q_PX, Q_X4_, Q_X5_, Q_X6_, Q_X7_, Q_X8_, Q_X10_, Q_X11_⟩ hb_ hon hoff
          refine ⟨_, rfl, fun K hK => ?_⟩
          have e29 : a.tmps[29]? = some (nodeV x A3 c3 A4 c4) := by rw [ha]; exact putSel_on (e := (0, 29, nodeV x A3 c3 A4 c4)) 0 rfl rfl (hon 0 (by kernel_rfl)) rfl
          have e33 : a.tmps[33]? = some (m4_) := by rw [ha]; exact putSel_on (e := (4, 33, m4_)) 3 rfl rfl (hon 4 (by kernel_rfl)) rfl
          rw [Q_X4_ (hon 4 (by kernel_rfl))] at e33
          replace ha := Aside0.mk ha
          have BW := Aside0.mk Q_BW
          have BI := Aside0.mk (Q_BI (hon 4 (by kernel_rfl)) hb_)
          refine goes_ Try.func49 (by kernel_rfl) rfl #[nodeV x A3 c3 A4 c4, .slice (some ⟨gi, 0, none⟩) 1 1] (by rfl) rfl rfl (by first | (simp only [List.map_toArray, List.map_cons, List.map_nil, Act.eval, Array.getD_eq_getD_getElem?, Option.getD_some, e29, e33]; done) | (simp only [List.map_toArray, List.map_cons, List.map_nil, Act.eval, Array.getD_eq_getD_getElem?, Option.getD_some, e29, e33]; rfl)) ?_
          have hbw : Below w.heap.size w w' := HB1.out.1.trans (BW.out.mono HB1.out.1.size)
          have hE := HE.out
          refine (piped_calls x ((lone vs)) ((lw x vs)) HX.out.1 w' gi 1 A3 c3 A4 c4 91 _ _ 122 (append_method g bs.length c) (fun xs wa => enters_ Try.func122 rfl rfl xs wa) (by rw [cell_of_block BI.out]; rfl) (k25.K_below hbw HK.out.1) (append_does x vs HX.out.1 HX.out.2.1 HX.out.2.2.1 HX.out.2.2.2.1 w' g c bs _ (fun i hi => (BW.out.cell (World.block_lt_of_cell? wr _ (hE.1 i hi))).trans (hE.1 i hi)) (Nat.lt_of_lt_of_le hE.2.1 BW.out.size) (hE.2.2.lt.below BW.out))).mono ?_
          rintro e w3 ⟨B3n, d3n, B4n, d4n, E3n, f3n, E4n, f4n, rfl, m1, m2, hb3⟩
          refine ⟨_, rfl, ?_⟩
          refine hK.out _ _ ⟨gi, w'.heap.size, w3.heap.size, p12, p13, B3n, B4n, E3n, E4n, d3n, d4n, f3n, f4n, m4_, (.tuple #[nodeV (lone vs) B3n d3n B4n d4n, nodeV (lw x vs) E3n f3n E4n f4n, .bool true]), m6_, m7_, m8_, m10_, m11_, (by rw [ha.out]; exact putSel_upk 4 hb_ rfl rfl rfl), BW.out.trans (hb3.mono BW.out.size), fun _ h1_ => absurd ((up_self b 5).symm.trans h1_) (by decide), fun _ => ⟨hb3.size, Nat.le_refl _, BW.out.size, M_span m2 rfl⟩, fun h0_ h1_ => ⟨(hb3.block _ (lt_of_block (Q_P12 h0_ h1_).1)).trans (Q_P12 h0_ h1_).1, (Q_P12 h0_ h1_).2⟩, fun h0_ h1_ => ⟨(hb3.block _ (lt_of_block (Q_P13 h0_ h1_).1)).trans (Q_P13 h0_ h1_).1, (Q_P13 h0_ h1_).2⟩, fun _ _ => (by rename_i q7 q12; exact .inl (lt_of_block (Q_P12 q12 (hoff 12 (by kernel_rfl))).1)), fun _ _ => (by rename_i q7 q13; exact .inl (lt_of_block (Q_P13 q13 (hoff 13 (by kernel_rfl))).1)), Q_DP, fun h0_ => absurd ((hoff 13 (by kernel_rfl)).symm.trans h0_) (by decide), Q_X4_, fun _ => rfl, fun h0_ => absurd ((hoff 6 (by kernel_rfl)).symm.trans h0_) (by decide), fun h0_ => absurd ((hoff 7 (by kernel_rfl)).symm.trans h0_) (by decide), fun h0_ => absurd ((hoff 8 (by kernel_rfl)).symm.trans h0_) (by decide), Q_X10_, Q_X11_⟩
        refine steps_cons ?_ ?_
        · rintro b a w' ⟨gi, lo, hi, p12, p13, B3, B4, E3, E4, d3, d4, f3, f4, m4_, m5_, m6_, m7_, m8_, m10_, m11_, ha, Q_BW, Q_BI, Q_M7, Q_P12, Q_P13, Q_D12, Q_D13, Q_DP, Q_PX, Q_X4_, Q_X5_, Q_X6_, Q_X7_, Q_X8_, Q_X10_, Q_X11_⟩ hb_ hon hoff
          refine ⟨_, rfl, fun K hK => ?_⟩
          have e34 : a.tmps[34]? = some (m5_) := by rw [ha]; exact putSel_on (e := (5, 34, m5_)) 4 rfl rfl (hon 5 (by kernel_rfl)) rfl
          rw [Q_X5_ (hon 5 (by kernel_rfl))] at e34
          replace ha := Aside0.mk ha
          have BW := Aside0.mk Q_BW
          have M7 := Aside0.mk (Q_M7 (hon 5 (by kernel_rfl)))
          refine value_ (w1 := w') (v := .tuple #[nodeV (lone vs) B3 d3 B4 d4, nodeV (lw x vs) E3 f3 E4 f4, .bool true]) (by rfl) rfl ?_ ?_
          · go_simp
            (try simp only [i64_w])
            try rfl
          refine hK.out _ _ ⟨gi, lo, hi, p12, p13, B3, B4, E3, E4, d3, d4, f3, f4, m4_, m5_, (.tuple #[nodeV (lone vs) B3 d3 B4 d4, nodeV (lw x vs) E3 f3 E4 f4, .bool true]), m7_, m8_, m10_, m11_, (by rw [ha.out]; exact putSel_upk 5 hb_ rfl rfl rfl), Q_BW, fun _ h1_ => absurd ((hon 5 (by kernel_rfl)).symm.trans h1_) (by decide), Q_M7, Q_P12, Q_P13, Q_D12, Q_D13, Q_DP, fun h0_ => absurd ((hoff 13 (by kernel_rfl)).symm.trans h0_) (by decide), Q_X4_, Q_X5_, fun _ => rfl, fun h0_ => absurd ((hoff 7 (by kernel_rfl)).symm.trans h0_) (by decide), fun h0_ => absurd ((hoff 8 (by kernel_rfl)).symm.trans h0_) (by decide), Q_X10_, Q_X11_⟩
        refine steps_cons ?_ ?_
        · rintro b a w' ⟨gi, lo, hi, p12, p13, B3, B4, E3, E4, d3, d4, f3, f4, m4_, m5_, m6_, m7_, m8_, m10_, m11_, ha, Q_BW, Q_BI, Q_M7, Q_P12, Q_P13, Q_D12, Q_D13, Q_DP, Q_PX, Q_X4_, Q_X5_, Q_X6_, Q_X7_, Q_X8_, Q_X10_, Q_X11_⟩ hb_ hon hoff
          refine ⟨_, rfl, fun K hK => ?_⟩
          have e28 : a.tmps[28]? = some (m6_) := by rw [ha]; exact putSel_on (e := (6, 28, m6_)) 5 rfl rfl (hon 6 (by kernel_rfl)) rfl
          rw [Q_X6_ (hon 6 (by kernel_rfl))] at e28
          replace ha := Aside0.mk ha
          have BW := Aside0.mk Q_BW
          have M7 := Aside0.mk (Q_M7 (hon 5 (by kernel_rfl)))
          refine value_ (w1 := w') (v := nodeV (lone vs) B3 d3 B4 d4) (by rfl) rfl ?_ ?_
          · go_simp
            (try simp only [i64_w])
            try rfl
          refine hK.out _ _ ⟨gi, lo, hi, p12, p13, B3, B4, E3, E4, d3, d4, f3, f4, m4_, m5_, m6_, (nodeV (lone vs) B3 d3 B4 d4), m8_, m10_, m11_, (by rw [ha.out]; exact putSel_upk 6 hb_ rfl rfl rfl), Q_BW, fun _ h1_ => absurd ((hon 5 (by kernel_rfl)).symm.trans h1_) (by decide), Q_M7, Q_P12, Q_P13, Q_D12, Q_D13, Q_DP, fun h0_ => absurd ((hoff 13 (by kernel_rfl)).symm.trans h0_) (by decide), Q_X4_, Q_X5_, Q_X6_, fun _ => rfl, Q_X8_, Q_X10_, Q_X11_⟩
        refine steps_cons ?_ ?_
        · rintro b a w' ⟨gi, lo, hi, p12, p13, B3, B4, E3, E4, d3, d4, f3, f4, m4_, m5_, m6_, m7_, m8_, m10_, m11_, ha, Q_BW, Q_BI, Q_M7, Q_P12, Q_P13, Q_D12, Q_D13, Q_DP, Q_PX, Q_X4_, Q_X5_, Q_X6_, Q_X7_, Q_X8_, Q_X10_, Q_X11_⟩ hb_ hon hoff
          refine ⟨_, rfl, fun K hK => ?_⟩
          have e28 : a.tmps[28]? = some (m6_) := by rw [ha]; exact putSel_on (e := (6, 28, m6_)) 5 rfl rfl (hon 6 (by kernel_rfl)) rfl
          rw [Q_X6_ (hon 6 (by kernel_rfl))] at e28
          replace ha := Aside0.mk ha
          have BW := Aside0.mk Q_BW
          have M7 := Aside0.mk (Q_M7 (hon 5 (by kernel_rfl)))
          refine value_ (w1 := w') (v := nodeV (lw x vs) E3 f3 E4 f4) (by rfl) rfl ?_ ?_
          · go_simp
            (try simp only [i64_w])
            try rfl
          refine hK.out _ _ ⟨gi, lo, hi, p12, p13, B3, B4, E3, E4, d3, d4, f3, f4, m4_, m5_, m6_, m7_, (nodeV (lw x vs) E3 f3 E4 f4), m10_, m11_, (by rw [ha.out]; exact putSel_upk 7 hb_ rfl rfl rfl), Q_BW, fun _ h1_ => absurd ((hon 5 (by kernel_rfl)).symm.trans h1_) (by decide), Q_M7, Q_P12, Q_P13, Q_D12, Q_D13, Q_DP, fun h0_ => absurd ((hoff 13 (by kernel_rfl)).symm.trans h0_) (by decide), Q_X4_, Q_X5_, Q_X6_, Q_X7_, fun _ => rfl, Q_X10_, Q_X11_⟩
        refine steps_cons ?_ ?_
        · rintro b a w' ⟨gi, lo, hi, p12, p13, B3, B4, E3, E4, d3, d4, f3, f4, m4_, m5_, m6_, m7_, m8_, m10_, m11_, ha, Q_BW, Q_BI, Q_M7, Q_P12, Q_P13, Q_D12, Q_D13, Q_DP, Q_PX, Q_X4_, Q_X5_, Q_X6_, Q_X7_, Q_X8_, Q_X10_, Q_X11_⟩ hb_ hon hoff
          refine ⟨_, rfl, fun K hK => ?_⟩
          have e28 : a.tmps[28]? = some (m6_) := by rw [ha]; exact putSel_on (e := (6, 28, m6_)) 5 rfl rfl (hon 6 (by kernel_rfl)) rfl
          rw [Q_X6_ (hon 6 (by kernel_rfl))] at e28
          replace ha := Aside0.mk ha
          have BW := Aside0.mk Q_BW
          have M7 := Aside0.mk (Q_M7 (hon 5 (by kernel_rfl)))
          refine value_ (w1 := w') (v := .bool true) (by rfl) rfl ?_ ?_
          · go_simp
            (try simp only [i64_w])
            try rfl
          refine hK.out _ _ ⟨gi, lo, hi, p12, p13, B3, B4, E3, E4, d3, d4, f3, f4, m4_, m5_, m6_, m7_, m8_, m10_, m11_, (by rw [ha.out]; exact putSel_upk 8 hb_ rfl rfl rfl), Q_BW, fun _ h1_ => absurd ((hon 5 (by kernel_rfl)).symm.trans h1_) (by decide), Q_M7, Q_P12, Q_P13, Q_D12, Q_D13, Q_DP, Q_PX, Q_X4_, Q_X5_, Q_X6_, Q_X7_, Q_X8_, Q_X10_, Q_X11_⟩
        refine steps_cons ?_ ?_
        · rintro b a w' ⟨gi, lo, hi, p12, p13, B3, B4, E3, E4, d3, d4, f3, f4, m4_, m5_, m6_, m7_, m8_, m10_, m11_, ha, Q_BW, Q_BI, Q_M7, Q_P12, Q_P13, Q_D12, Q_D13, Q_DP, Q_PX, Q_X4_, Q_X5_, Q_X6_, Q_X7_, Q_X8_, Q_X10_, Q_X11_⟩ hb_ hon hoff
          refine ⟨_, rfl, fun K hK => ?_⟩
          replace ha := Aside0.mk ha
          have BW := Aside0.mk Q_BW
          have hb3 : Below w'.heap.size w' (w'.alloc (.cells #[.int .i64 0, .string ⟨#[]⟩, .string ⟨#[]⟩, .slice none 0 0, .slice none 0 0] 25)) := (Below.refl _ _).alloc (Nat.le_refl _) _
          have hn3 : (w'.alloc (.cells #[.int .i64 0, .string ⟨#[]⟩, .string ⟨#[]⟩, .slice none 0 0, .slice none 0 0] 25)).heap[w'.heap.size]? = some (.cells #[.int .i64 0, .string ⟨#[]⟩, .string ⟨#[]⟩, .slice none 0 0, .slice none 0 0] 25 (0, 0)) := heap_at _ rfl
          refine value_ (w1 := w'.alloc (.cells #[.int .i64 0, .string ⟨#[]⟩, .string ⟨#[]⟩, .slice none 0 0, .slice none 0 0] 25)) (v := .pointer (some ⟨w'.heap.size, 0, none⟩)) (by rfl) rfl ?_ ?_
          · go_simp
          refine hK.out _ _ ⟨gi, lo, hi, w'.heap.size, p13, B3, B4, E3, E4, d3, d4, f3, f4, m4_, m5_, m6_, m7_, m8_, (.pointer (some ⟨w'.heap.size, 0, none⟩)), m11_, (by rw [ha.out]; exact putSel_upk 9 hb_ rfl rfl rfl), BW.out.trans (hb3.mono BW.out.size), fun h0_ h1_ => (hb3.block _ (lt_of_block (Q_BI h0_ h1_))).trans (Q_BI h0_ h1_), fun h0_ => ⟨(Q_M7 h0_).1, Nat.le_trans (Q_M7 h0_).2.1 hb3.size, (Q_M7 h0_).2.2.1, k25.M_move (fun k hk => hb3.block k (Nat.lt_of_lt_of_le hk.2 (Q_M7 h0_).2.1)) (Q_M7 h0_).2.2.2⟩, fun _ _ => ⟨hn3, BW.out.size⟩, fun h0_ h1_ => ⟨(hb3.block _ (lt_of_block (Q_P13 h0_ h1_).1)).trans (Q_P13 h0_ h1_).1, (Q_P13 h0_ h1_).2⟩, fun _ _ => (by rename_i q7 q12; exact .inr (Q_M7 q7).2.1), Q_D13, fun _ _ => (by rename_i q12 q13; have := lt_of_block (Q_P13 q13 (hoff 13 (by kernel_rfl))).1; omega), fun h0_ => absurd ((hoff 13 (by kernel_rfl)).symm.trans h0_) (by decide), Q_X4_, Q_X5_, Q_X6_, Q_X7_, Q_X8_, fun _ => rfl, Q_X11_⟩
        refine steps_cons ?_ ?_
        · rintro b a w' ⟨gi, lo, hi, p12, p13, B3, B4, E3, E4, d3, d4, f3, f4, m4_, m5_, m6_, m7_, m8_, m10_, m11_, ha, Q_BW, Q_BI, Q_M7, Q_P12, Q_P13, Q_D12, Q_D13, Q_DP, Q_PX, Q_X4_, Q_X5_, Q_X6_, Q_X7_, Q_X8_, Q_X10_, Q_X11_⟩ hb_ hon hoff
          refine ⟨_, rfl, fun K hK => ?_⟩
          replace ha := Aside0.mk ha
          have BW := Aside0.mk Q_BW
          have hb3 : Below w'.heap.size w' (w'.alloc (.cells #[.int .i64 0, .string ⟨#[]⟩, .string ⟨#[]⟩, .slice none 0 0, .slice none 0 0] 25)) := (Below.refl _ _).alloc (Nat.le_refl _) _
          have hn3 : (w'.alloc (.cells #[.int .i64 0, .string ⟨#[]⟩, .string ⟨#[]⟩, .slice none 0 0, .slice none 0 0] 25)).heap[w'.heap.size]? = some (.cells #[.int .i64 0, .string ⟨#[]⟩, .string ⟨#[]⟩, .slice none 0 0, .slice none 0 0] 25 (0, 0)) := heap_at _ rfl
          refine value_ (w1 := w'.alloc (.cells #[.int .i64 0, .string ⟨#[]⟩, .string ⟨#[]⟩, .slice none 0 0, .slice none 0 0] 25)) (v := .pointer (some ⟨w'.heap.size, 0, none⟩)) (by rfl) rfl ?_ ?_
          · go_simp
          refine hK.out _ _ ⟨gi, lo, hi, p12, w'.heap.size, B3, B4, E3, E4, d3, d4, f3, f4, m4_, m5_, m6_, m7_, m8_, m10_, (.pointer (some ⟨w'.heap.size, 0, none⟩)), (by rw [ha.out]; exact putSel_upk 10 hb_ rfl rfl rfl), BW.out.trans (hb3.mono BW.out.size), fun h0_ h1_ => (hb3.block _ (lt_of_block (Q_BI h0_ h1_))).trans (Q_BI h0_ h1_), fun h0_ => ⟨(Q_M7 h0_).1, Nat.le_trans (Q_M7 h0_).2.1 hb3.size, (Q_M7 h0_).2.2.1, k25.M_move (fun k hk => hb3.block k (Nat.lt_of_lt_of_le hk.2 (Q_M7 h0_).2.1)) (Q_M7 h0_).2.2.2⟩, fun h0_ h1_ => ⟨(hb3.block _ (lt_of_block (Q_P12 h0_ h1_).1)).trans (Q_P12 h0_ h1_).1, (Q_P12 h0_ h1_).2⟩, fun _ _ => ⟨hn3, BW.out.size⟩, Q_D12, fun _ _ => (by rename_i q7 q13; exact .inr (Q_M7 q7).2.1), fun _ _ => (by rename_i q12 q13; have := lt_of_block (Q_P12 q12 (hoff 12 (by kernel_rfl))).1; omega), fun h0_ => absurd ((hoff 13 (by kernel_rfl)).symm.trans h0_) (by decide), Q_X4_, Q_X5_, Q_X6_, Q_X7_, Q_X8_, Q_X10_, fun _ => rfl⟩
        refine steps_cons ?_ ?_
        · rintro b a w' ⟨gi, lo, hi, p12, p13, B3, B4, E3, E4, d3, d4, f3, f4, m4_, m5_, m6_, m7_, m8_, m10_, m11_, ha, Q_BW, Q_BI, Q_M7, Q_P12, Q_P13, Q_D12, Q_D13, Q_DP, Q_PX, Q_X4_, Q_X5_, Q_X6_, Q_X7_, Q_X8_, Q_X10_, Q_X11_⟩ hb_ hon hoff
          refine ⟨_, rfl, fun K hK => ?_⟩
          have e9 : a.tmps[9]? = some (m10_) := by rw [ha]; exact putSel_on (e := (10, 9, m10_)) 9 rfl rfl (hon 10 (by kernel_rfl)) rfl
          rw [Q_X10_ (hon 10 (by kernel_rfl))] at e9
          have e35 : a.tmps[35]? = some (m7_) := by rw [ha]; exact putSel_on (e := (7, 35, m7_)) 6 rfl rfl (hon 7 (by kernel_rfl)) rfl
          rw [Q_X7_ (hon 7 (by kernel_rfl))] at e35
          replace ha := Aside0.mk ha
          have BW := Aside0.mk Q_BW
          have M7 := Aside0.mk (Q_M7 (hon 5 (by kernel_rfl)))
          have P12 := Aside0.mk (Q_P12 (hon 10 (by kernel_rfl)) hb_)
          have P13 := Aside0.mk (Q_P13 (hon 11 (by kernel_rfl)) (hoff 13 (by kernel_rfl)))
          have D12 := Aside0.mk (Q_D12 (hon 5 (by kernel_rfl)) (hon 10 (by kernel_rfl)))
          have D13 := Aside0.mk (Q_D13 (hon 5 (by kernel_rfl)) (hon 11 (by kernel_rfl)))
          have DP := Aside0.mk (Q_DP (hon 10 (by kernel_rfl)) (hon 11 (by kernel_rfl)))
          have OA := Aside0.mk P12.out.1
          have cr0 := (cell_of_block (i := 0) OA.out).trans (show _ = some _ from rfl); have cr1 := (cell_of_block (i := 1) OA.out).trans (show _ = some _ from rfl); have cr2 := (cell_of_block (i := 2) OA.out).trans (show _ = some _ from rfl); have cr3 := (cell_of_block (i := 3) OA.out).trans (show _ = some _ from rfl); have cr4 := (cell_of_block (i := 4) OA.out).trans (show _ = some _ from rfl); have zr0 := frozen_of_block (i := 0) OA.out; have zr1 := frozen_of_block (i := 1) OA.out; have zr2 := frozen_of_block (i := 2) OA.out; have zr3 := frozen_of_block (i := 3) OA.out; have zr4 := frozen_of_block (i := 4) OA.out
          rw [if_pos (by rfl)]
          go_simp
          obtain ⟨w5, e5, hf5, hc5⟩ := set5 (v0 := .int .i64 ((lone vs)).f0) (v1 := .string ((lone vs)).f1) (v2 := .string ((lone vs)).f2) (v3 := .slice B3 ((lone vs)).f3.length d3) (v4 := .slice B4 ((lone vs)).f4.length d4) P12.out.1
          rw [e5]
          clear cr0 cr1 cr2 cr3 cr4 zr0 zr1 zr2 zr3 zr4 e5
          refine hK.out _ _ ⟨gi, lo, hi, p12, p13, B3, B4, E3, E4, d3, d4, f3, f4, m4_, m5_, m6_, m7_, m8_, m10_, m11_, (by rw [ha.out]; exact putSel_none (v := undef) rfl), BW.out.trans (hc5.below BW.out.size (fun k e => by have := P12.out.2; have e' : k = p12 := e; omega)), fun _ h1_ => absurd ((hon 5 (by kernel_rfl)).symm.trans h1_) (by decide), fun _ => ⟨M7.out.1, Nat.le_trans M7.out.2.1 hc5.size, M7.out.2.2.1, k25.M_move (fun k hk => hc5.block k (Nat.lt_of_lt_of_le hk.2 M7.out.2.1) (fun e => by have := D12.out; have e' : k = p12 := e; omega)) M7.out.2.2.2⟩, fun _ h1_ => absurd ((up_self b 12).symm.trans h1_) (by decide), fun _ _ => ⟨(hc5.block _ (lt_of_block P13.out.1) (fun e => DP.out e.symm)).trans P13.out.1, P13.out.2⟩, Q_D12, Q_D13, Q_DP, fun h0_ => absurd ((hoff 13 (by kernel_rfl)).symm.trans h0_) (by decide), Q_X4_, Q_X5_, Q_X6_, Q_X7_, Q_X8_, Q_X10_, Q_X11_⟩
        refine steps_cons ?_ ?_
        · rintro b a w' ⟨gi, lo, hi, p12, p13, B3, B4, E3, E4, d3, d4, f3, f4, m4_, m5_, m6_, m7_, m8_, m10_, m11_, ha, Q_BW, Q_BI, Q_M7, Q_P12, Q_P13, Q_D12, Q_D13, Q_DP, Q_PX, Q_X4_, Q_X5_, Q_X6_, Q_X7_, Q_X8_, Q_X10_, Q_X11_⟩ hb_ hon hoff
          refine ⟨_, rfl, fun K hK => ?_⟩
          have e10 : a.tmps[10]? = some (m11_) := by rw [ha]; exact putSel_on (e := (11, 10, m11_)) 10 rfl rfl (hon 11 (by kernel_rfl)) rfl
          rw [Q_X11_ (hon 11 (by kernel_rfl))] at e10
          have e36 : a.tmps[36]? = some (m8_) := by rw [ha]; exact putSel_on (e := (8, 36, m8_)) 7 rfl rfl (hon 8 (by kernel_rfl)) rfl
          rw [Q_X8_ (hon 8 (by kernel_rfl))] at e36
          replace ha := Aside0.mk ha
          have BW := Aside0.mk Q_BW
          have M7 := Aside0.mk (Q_M7 (hon 5 (by kernel_rfl)))
          have P13 := Aside0.mk (Q_P13 (hon 11 (by kernel_rfl)) hb_)
          have D12 := Aside0.mk (Q_D12 (hon 5 (by kernel_rfl)) (hon 10 (by kernel_rfl)))
          have D13 := Aside0.mk (Q_D13 (hon 5 (by kernel_rfl)) (hon 11 (by kernel_rfl)))
          have DP := Aside0.mk (Q_DP (hon 10 (by kernel_rfl)) (hon 11 (by kernel_rfl)))
          have OA := Aside0.mk P13.out.1
          have cr0 := (cell_of_block (i := 0) OA.out).trans (show _ = some _ from rfl); have cr1 := (cell_of_block (i := 1) OA.out).trans (show _ = some _ from rfl); have cr2 := (cell_of_block (i := 2) OA.out).trans (show _ = some _ from rfl); have cr3 := (cell_of_block (i := 3) OA.out).trans (show _ = some _ from rfl); have cr4 := (cell_of_block (i := 4) OA.out).trans (show _ = some _ from rfl); have zr0 := frozen_of_block (i := 0) OA.out; have zr1 := frozen_of_block (i := 1) OA.out; have zr2 := frozen_of_block (i := 2) OA.out; have zr3 := frozen_of_block (i := 3) OA.out; have zr4 := frozen_of_block (i := 4) OA.out
          rw [if_pos (by rfl)]
          go_simp
          obtain ⟨w5, e5, hf5, hc5⟩ := set5 (v0 := .int .i64 ((lw x vs)).f0) (v1 := .string ((lw x vs)).f1) (v2 := .string ((lw x vs)).f2) (v3 := .slice E3 ((lw x vs)).f3.length f3) (v4 := .slice E4 ((lw x vs)).f4.length f4) P13.out.1
          rw [e5]
          clear cr0 cr1 cr2 cr3 cr4 zr0 zr1 zr2 zr3 zr4 e5
          refine hK.out _ _ ⟨gi, lo, hi, p12, p13, B3, B4, E3, E4, d3, d4, f3, f4, m4_, m5_, m6_, m7_, m8_, m10_, m11_, (by rw [ha.out]; exact putSel_none (v := undef) rfl), BW.out.trans (hc5.below BW.out.size (fun k e => by have := P13.out.2; have e' : k = p13 := e; omega)), fun _ h1_ => absurd ((hon 5 (by kernel_rfl)).symm.trans h1_) (by decide), fun _ => ⟨M7.out.1, Nat.le_trans M7.out.2.1 hc5.size, M7.out.2.2.1, k25.M_move (fun k hk => hc5.block k (Nat.lt_of_lt_of_le hk.2 M7.out.2.1) (fun e => by have := D13.out; have e' : k = p13 := e; omega)) M7.out.2.2.2⟩, fun _ h1_ => absurd ((hon 12 (by kernel_rfl)).symm.trans h1_) (by decide), fun _ h1_ => absurd ((up_self b 13).symm.trans h1_) (by decide), Q_D12, Q_D13, Q_DP, fun _ => ⟨hf5, P13.out.2⟩, Q_X4_, Q_X5_, Q_X6_, Q_X7_, Q_X8_, Q_X10_, Q_X11_⟩
        refine steps_cons ?_ ?_
        · rintro b a w' ⟨gi, lo, hi, p12, p13, B3, B4, E3, E4, d3, d4, f3, f4, m4_, m5_, m6_, m7_, m8_, m10_, m11_, ha, Q_BW, Q_BI, Q_M7, Q_P12, Q_P13, Q_D12, Q_D13, Q_DP, Q_PX, Q_X4_, Q_X5_, Q_X6_, Q_X7_, Q_X8_, Q_X10_, Q_X11_⟩ hb_ hon hoff
          refine ⟨_, rfl, fun K hK => ?_⟩
          have e37 : a.tmps[37]? = some (.bool true) := by rw [ha]; exact putSel_on (e := (9, 37, .bool true)) 8 rfl rfl (hon 9 (by kernel_rfl)) rfl
          replace ha := Aside0.mk ha
          have BW := Aside0.mk Q_BW
          have M7 := Aside0.mk (Q_M7 (hon 5 (by kernel_rfl)))
          have D12 := Aside0.mk (Q_D12 (hon 5 (by kernel_rfl)) (hon 10 (by kernel_rfl)))
          have D13 := Aside0.mk (Q_D13 (hon 5 (by kernel_rfl)) (hon 11 (by kernel_rfl)))
          have DP := Aside0.mk (Q_DP (hon 10 (by kernel_rfl)) (hon 11 (by kernel_rfl)))
          have PX := Aside0.mk (Q_PX (hon 13 (by kernel_rfl)))
          refine value_ (w1 := w') (v := .bool true) (by rfl) rfl ?_ ?_
          · go_simp
            (try simp only [i64_w])
            try rfl
          refine hK.out _ _ ⟨gi, lo, hi, p12, p13, B3, B4, E3, E4, d3, d4, f3, f4, m4_, m5_, m6_, m7_, m8_, m10_, m11_, (by rw [ha.out]; exact putSel_upk 11 hb_ rfl rfl rfl), Q_BW, fun _ h1_ => absurd ((hon 5 (by kernel_rfl)).symm.trans h1_) (by decide), Q_M7, fun _ h1_ => absurd ((hon 12 (by kernel_rfl)).symm.trans h1_) (by decide), fun _ h1_ => absurd ((hon 13 (by kernel_rfl)).symm.trans h1_) (by decide), Q_D12, Q_D13, Q_DP, Q_PX, Q_X4_, Q_X5_, Q_X6_, Q_X7_, Q_X8_, Q_X10_, Q_X11_⟩
        exact steps_nil
      rintro b a w' hall ⟨gi, lo, hi, p12, p13, B3, B4, E3, E4, d3, d4, f3, f4, m4_, m5_, m6_, m7_, m8_, m10_, m11_, ha, Q_BW, Q_BI, Q_M7, Q_P12, Q_P13, Q_D12, Q_D13, Q_DP, Q_PX, Q_X4_, Q_X5_, Q_X6_, Q_X7_, Q_X8_, Q_X10_, Q_X11_⟩
      clear BW
      have hb0_ := hall 0 (by kernel_rfl)
      have hb2_ := hall 2 (by kernel_rfl)
      have hb3_ := hall 3 (by kernel_rfl)
      have hb4_ := hall 4 (by kernel_rfl)
      have hb5_ := hall 5 (by kernel_rfl)
      have hb6_ := hall 6 (by kernel_rfl)
      have hb7_ := hall 7 (by kernel_rfl)
      have hb8_ := hall 8 (by kernel_rfl)
      have hb9_ := hall 9 (by kernel_rfl)
      have hb10_ := hall 10 (by kernel_rfl)
      have hb11_ := hall 11 (by kernel_rfl)
      have hb12_ := hall 12 (by kernel_rfl)
      have hb13_ := hall 13 (by kernel_rfl)
      have hb14_ := hall 14 (by kernel_rfl)
      subst ha
      obtain rfl := Q_X4_ hb4_
      obtain rfl := Q_X5_ hb5_
      obtain rfl := Q_X6_ hb6_
      obtain rfl := Q_X7_ hb7_
      obtain rfl := Q_X8_ hb8_
      obtain rfl := Q_X10_ hb10_
      obtain rfl := Q_X11_ hb11_
      simp only [putSel, hb0_, hb2_, hb3_, hb4_, hb5_, hb6_, hb7_, hb8_, hb9_, hb10_, hb11_, hb12_, hb13_, hb14_, if_true, Act.put, List.setIfInBounds_toArray, List.set_cons_zero, List.set_cons_succ]
      have BW := Aside0.mk Q_BW
      clear Q_BW
      clear Q_BI
      have M7 := Aside0.mk (Q_M7 hb5_)
      clear Q_M7
      clear Q_P12
      clear Q_P13
      have D12 := Aside0.mk (Q_D12 hb5_ hb10_)
      clear Q_D12
      have D13 := Aside0.mk (Q_D13 hb5_ hb11_)
      clear Q_D13
      have DP := Aside0.mk (Q_DP hb10_ hb11_)
      clear Q_DP
      have PX := Aside0.mk (Q_PX hb13_)
      clear Q_PX
      clear hall hb0_ hb2_ hb3_ hb4_ hb5_ hb6_ hb7_ hb8_ hb9_ hb10_ hb11_ hb12_ hb13_ hb14_
      obtain ⟨w3, hw3⟩ : ∃ w3, w3 = w' := ⟨_, rfl⟩
      rw [← hw3] at BW M7 PX ⊢
      clear hw3
      have OA := Aside0.mk PX.out.1
      have R3 := Aside0.mk ((BW.out.block _ (lt_of_block HB1.out.2.2)).trans HB1.out.2.2)
      have HB3 := Aside0.mk (HB1.out.1.trans (BW.out.mono HB1.out.1.size))
      have hrl := lt_of_block HB1.out.2.2
      have HRL := Aside0.mk hrl
      clear hrl
      have cp0 := (cell_of_block (i := 0) OA.out).trans (show _ = some _ from rfl); have cp1 := (cell_of_block (i := 1) OA.out).trans (show _ = some _ from rfl); have cp2 := (cell_of_block (i := 2) OA.out).trans (show _ = some _ from rfl); have cp3 := (cell_of_block (i := 3) OA.out).trans (show _ = some _ from rfl); have cp4 := (cell_of_block (i := 4) OA.out).trans (show _ = some _ from rfl); have zp0 := frozen_of_block (i := 0) OA.out; have zp1 := frozen_of_block (i := 1) OA.out; have zp2 := frozen_of_block (i := 2) OA.out; have zp3 := frozen_of_block (i := 3) OA.out; have zp4 := frozen_of_block (i := 4) OA.out
      have cq0 := (cell_of_block (i := 0) R3.out).trans (show _ = some _ from rfl); have cq1 := (cell_of_block (i := 1) R3.out).trans (show _ = some _ from rfl); have cq2 := (cell_of_block (i := 2) R3.out).trans (show _ = some _ from rfl); have cq3 := (cell_of_block (i := 3) R3.out).trans (show _ = some _ from rfl); have cq4 := (cell_of_block (i := 4) R3.out).trans (show _ = some _ from rfl); have zq0 := frozen_of_block (i := 0) R3.out; have zq1 := frozen_of_block (i := 1) R3.out; have zq2 := frozen_of_block (i := 2) R3.out; have zq3 := frozen_of_block (i := 3) R3.out; have zq4 := frozen_of_block (i := 4) R3.out
      go_wp2_with fail
      obtain ⟨wf, ef, hf, hcf⟩ := set5 (v0 := .int .i64 (lw x vs).f0) (v1 := .string (lw x vs).f1) (v2 := .string (lw x vs).f2) (v3 := .slice E3 (lw x vs).f3.length f3) (v4 := .slice E4 (lw x vs).f4.length f4) R3.out
      rw [ef]
      have HF := Aside0.mk hf
      have cf0 := (cell_of_block (i := 0) HF.out).trans (show _ = some _ from rfl); have cf1 := (cell_of_block (i := 1) HF.out).trans (show _ = some _ from rfl); have cf2 := (cell_of_block (i := 2) HF.out).trans (show _ = some _ from rfl); have cf3 := (cell_of_block (i := 3) HF.out).trans (show _ = some _ from rfl); have cf4 := (cell_of_block (i := 4) HF.out).trans (show _ = some _ from rfl); have zf0 := frozen_of_block (i := 0) HF.out; have zf1 := frozen_of_block (i := 1) HF.out; have zf2 := frozen_of_block (i := 2) HF.out; have zf3 := frozen_of_block (i := 3) HF.out; have zf4 := frozen_of_block (i := 4) HF.out
      have hbf : Below w.heap.size w wf := HB3.out.trans (hcf.below HB3.out.size (fun k e => by have e' : k = w.heap.size + 1 := e; omega))
      have hmf := k25.K_of_M (k25.M_move (w1 := wf) (fun k hk => hcf.block k (Nat.lt_of_lt_of_le hk.2 M7.out.2.1) (fun e => by have := M7.out.2.2.1; have := HRL.out; have e' : k = w.heap.size + 1 := e; omega)) M7.out.2.2.2)
      have HFIN := Aside0.mk (And.intro hmf hbf)
      clear hbf hmf hcf ef hf cp0 cp1 cp2 cp3 cp4 zp0 zp1 zp2 zp3 zp4 cq0 cq1 cq2 cq3 cq4 zq0 zq1 zq2 zq3 zq4
      refine bodyPost_ret (v := .tuple #[nodeV (lw x vs) E3 f3 E4 f4, .bool true]) (by simp [results, Try.results29, go_sem, cf0, cf1, cf2, cf3, cf4]) rfl ⟨_, _, _, _, rfl, HFIN.out.1, HFIN.out.2⟩
end Go.Proofs.Ytigpgkfgkjabmaa
