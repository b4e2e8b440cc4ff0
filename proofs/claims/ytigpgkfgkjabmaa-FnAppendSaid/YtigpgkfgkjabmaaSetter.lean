/-
  RNode.SetYNode; FieldSetter.Filter.
-/
import Derived.Test.YtigpgkfgkjabmaaMatch
namespace Go.Proofs.Ytigpgkfgkjabmaa
open Go.RowKit Go.Proofs.YtigpgkfgkjabmaaW.PrintWords Go.Proofs.YtigpgkfgkjabmaaW.PrintLast Go.Proofs.Ytigpgkfgkjabmaa.PFnFields
set_option linter.unusedVariables false
set_option linter.unusedSimpArgs false

/-- A cell that is written as it is. -/
theorem setCell_id {w : World} {b i : Nat} {cs : Array Value} {t : TypeId} {fr : Nat × Nat} {v : Value} (h : w.heap[b]? = some (.cells cs t fr)) (hi : cs[i]? = some v) : w.setCell ⟨b, i, none⟩ v = w := by
  have hh : (w.setCell ⟨b, i, none⟩ v).heap = w.heap := by
    apply Array.ext_getElem?
    intro k
    by_cases hk : k = b
    · subst hk
      rw [heap_set (a := ⟨k, i, none⟩) h rfl, h]
      congr 2
      apply Array.ext_getElem?
      intro j
      rw [Array.getElem?_setIfInBounds]
      split
      · subst_vars
        split
        · exact hi.symm
        · rename_i hlt
          exact (Array.getElem?_eq_none (by omega)).symm
      · rfl
    · exact heap_set_ne hk
  show ({ w with heap := (w.setCell ⟨b, i, none⟩ v).heap } : World) = w
  rw [hh]
theorem set_step {w0 w : World} {r : Nat} {cs : Array Value} {t : TypeId} (h : w.heap[r]? = some (.cells cs t (0, 0))) (hc : Chg (fun k => k = r) w0 w) (i : Nat) (v : Value) :
    ∃ w', w.setCell ⟨r, i, none⟩ v = w' ∧ w'.heap[r]? = some (.cells (cs.setIfInBounds i v) t (0, 0)) ∧ Chg (fun k => k = r) w0 w' :=
  ⟨_, rfl, heap_set (a := ⟨r, i, none⟩) h rfl, hc.setCell (p := ⟨r, i, none⟩) (.inl rfl) v⟩
theorem set12 {w : World} {r : Nat} {a0 a1 a2 a3 a4 a5 a6 a7 a8 a9 a10 a11 : Value} {v0 v1 v2 v3 v4 v5 v6 v7 v8 v9 v10 v11 : Value} {t : TypeId} (h : w.heap[r]? = some (.cells #[a0, a1, a2, a3, a4, a5, a6, a7, a8, a9, a10, a11] t (0, 0))) :
    ∃ w', (((((((((((w.setCell ⟨r, 0, none⟩ v0).setCell ⟨r, 1, none⟩ v1).setCell ⟨r, 2, none⟩ v2).setCell ⟨r, 3, none⟩ v3).setCell ⟨r, 4, none⟩ v4).setCell ⟨r, 5, none⟩ v5).setCell ⟨r, 6, none⟩ v6).setCell ⟨r, 7, none⟩ v7).setCell ⟨r, 8, none⟩ v8).setCell ⟨r, 9, none⟩ v9).setCell ⟨r, 10, none⟩ v10).setCell ⟨r, 11, none⟩ v11 = w' ∧
      w'.heap[r]? = some (.cells #[v0, v1, v2, v3, v4, v5, v6, v7, v8, v9, v10, v11] t (0, 0)) ∧ Chg (fun k => k = r) w w' := by
  obtain ⟨w1, e1, h1, c1⟩ := set_step h (Chg.refl _ w) 0 v0
  simp only [List.setIfInBounds_toArray, List.set_cons_zero, List.set_cons_succ] at h1
  obtain ⟨w2, e2, h2, c2⟩ := set_step h1 c1 1 v1
  simp only [List.setIfInBounds_toArray, List.set_cons_zero, List.set_cons_succ] at h2
  obtain ⟨w3, e3, h3, c3⟩ := set_step h2 c2 2 v2
  simp only [List.setIfInBounds_toArray, List.set_cons_zero, List.set_cons_succ] at h3
  obtain ⟨w4, e4, h4, c4⟩ := set_step h3 c3 3 v3
  simp only [List.setIfInBounds_toArray, List.set_cons_zero, List.set_cons_succ] at h4
  obtain ⟨w5, e5, h5, c5⟩ := set_step h4 c4 4 v4
  simp only [List.setIfInBounds_toArray, List.set_cons_zero, List.set_cons_succ] at h5
  obtain ⟨w6, e6, h6, c6⟩ := set_step h5 c5 5 v5
  simp only [List.setIfInBounds_toArray, List.set_cons_zero, List.set_cons_succ] at h6
  obtain ⟨w7, e7, h7, c7⟩ := set_step h6 c6 6 v6
  simp only [List.setIfInBounds_toArray, List.set_cons_zero, List.set_cons_succ] at h7
  obtain ⟨w8, e8, h8, c8⟩ := set_step h7 c7 7 v7
  simp only [List.setIfInBounds_toArray, List.set_cons_zero, List.set_cons_succ] at h8
  obtain ⟨w9, e9, h9, c9⟩ := set_step h8 c8 8 v8
  simp only [List.setIfInBounds_toArray, List.set_cons_zero, List.set_cons_succ] at h9
  obtain ⟨w10, e10, h10, c10⟩ := set_step h9 c9 9 v9
  simp only [List.setIfInBounds_toArray, List.set_cons_zero, List.set_cons_succ] at h10
  obtain ⟨w11, e11, h11, c11⟩ := set_step h10 c10 10 v10
  simp only [List.setIfInBounds_toArray, List.set_cons_zero, List.set_cons_succ] at h11
  obtain ⟨w12, e12, h12, c12⟩ := set_step h11 c11 11 v11
  simp only [List.setIfInBounds_toArray, List.set_cons_zero, List.set_cons_succ] at h12
  exact ⟨w12, by rw [e1, e2, e3, e4, e5, e6, e7, e8, e9, e10, e11, e12], h12, c12⟩
theorem NB.cells {w : World} {b : Nat} {k : Int} {t v : ByteArray} {cv : Value} (h : NB w b k t v cv) : w.cell? ⟨b, 0, none⟩ = some (.int .u32 k) ∧ w.cell? ⟨b, 1, none⟩ = some (.int .u32 0) ∧ w.cell? ⟨b, 2, none⟩ = some (.string t) ∧ w.cell? ⟨b, 3, none⟩ = some (.string v) ∧ w.cell? ⟨b, 4, none⟩ = some (.string ⟨#[]⟩) ∧ w.cell? ⟨b, 5, none⟩ = some (.pointer none) ∧
    w.cell? ⟨b, 6, none⟩ = some cv ∧ w.cell? ⟨b, 7, none⟩ = some (.string ⟨#[]⟩) ∧ w.cell? ⟨b, 8, none⟩ = some (.string ⟨#[]⟩) ∧ w.cell? ⟨b, 9, none⟩ = some (.string ⟨#[]⟩) ∧ w.cell? ⟨b, 10, none⟩ = some (.int .i64 0) ∧ w.cell? ⟨b, 11, none⟩ = some (.int .i64 0) := by
  refine ⟨?_, ?_, ?_, ?_, ?_, ?_, ?_, ?_, ?_, ?_, ?_, ?_⟩ <;> (rw [cell_of_block h]; rfl)
def sety2.T : Bool × List (List Nat × List Nat) := (true, [([], []), ([0], [0]), ([1], [1]), ([2], [2]), ([], []), ([4], [4]), ([5], [5]), ([3, 0, 1, 2, 3, 4, 5, 6], [3]), ([7, 6, 0, 1, 2, 3, 4, 5, 6], [6, 7])])
def sety2.B : List Nat := [0, 1, 3, 7, 0, 16, 48, 127, 255]
theorem sety2.tab : rtab .any (opsOf Try.f120 2) = sety2.T := by kernel_rfl
theorem sety2.bits : waitsOk sety2.T.2 sety2.B = true := by kernel_rfl
set_option maxRecDepth 100000 in
set_option maxHeartbeats 1600000 in
theorem setynode_calls (w : World) (r b vb : Nat) (k k' : Int) (t v t' v' : ByteArray) (cv : Value) (A : Option Addr) (n c : Nat) (hr : RN w r b) (hn : NB w b k t v cv) (hv : NB w vb k' t' v' (.slice A n c)) :
    Calls Try.prog 120 #[ptr r, ptr vb] w fun e w' => e = .returned (.tuple #[]) ∧ NB w' b k' t' v' (.slice A n c) ∧ Chg (fun k => k = b) w w' := by
  have cr := hr.value
  have HN := Aside0.mk hn
  have HS := Aside0.mk (And.intro cr hv.cells)
  clear hr hn hv
  go_enter Try.func120, Try.ntmps120
  go_wp2_with fail
  refine start_ (n := 9) (S := fun w' => w'.cell? ⟨r, 1, none⟩ = some (ptr b) ∧ w'.cell? ⟨vb, 0, none⟩ = some (.int .u32 k') ∧ w'.cell? ⟨vb, 1, none⟩ = some (.int .u32 0) ∧ w'.cell? ⟨vb, 2, none⟩ = some (.string t') ∧ w'.cell? ⟨vb, 3, none⟩ = some (.string v') ∧ w'.cell? ⟨vb, 4, none⟩ = some (.string ⟨#[]⟩) ∧ w'.cell? ⟨vb, 5, none⟩ = some (.pointer none) ∧ w'.cell? ⟨vb, 6, none⟩ = some (.slice A n c) ∧ w'.cell? ⟨vb, 7, none⟩ = some (.string ⟨#[]⟩) ∧ w'.cell? ⟨vb, 8, none⟩ = some (.string ⟨#[]⟩) ∧ w'.cell? ⟨vb, 9, none⟩ = some (.string ⟨#[]⟩) ∧ w'.cell? ⟨vb, 10, none⟩ = some (.int .i64 0) ∧ w'.cell? ⟨vb, 11, none⟩ = some (.int .i64 0)) (ds := [8]) #[false, false, false, false, false, false, false, false, false] (by kernel_rfl) rfl rfl HS.out (fun hHeld => ?_)
  refine with_tabW (T := sety2.T) (B := sety2.B) sety2.tab sety2.bits (fun HT_ HW_ => ?_)
  refine pure_ (i := 0) (N := (some 17)) (v := ?_) (a' := ?_) #[true, false, false, false, false, false, false, false, false] rfl rfl (any_of HT_.out (by kernel_rfl)) (fun _ _ _ h => h) (Or.inl ⟨by rfl, ?_⟩) ?_ ?_
  rotate_left
  · intro w'
    go_simp
    with_reducible rfl
  rotate_left
  · simp only [Act.put, List.setIfInBounds_toArray, List.set_cons_zero, List.set_cons_succ, i64_w, i32_w]
    rfl
  refine pure_ (i := 1) (N := (some 18)) (v := ?_) (a' := ?_) #[true, true, false, false, false, false, false, false, false] rfl rfl (any_of HT_.out (by kernel_rfl)) (fun _ _ _ h => h) (Or.inl ⟨by rfl, ?_⟩) ?_ ?_
  rotate_left
  · intro w'
    go_simp
    with_reducible rfl
  rotate_left
  · simp only [Act.put, List.setIfInBounds_toArray, List.set_cons_zero, List.set_cons_succ, i64_w, i32_w]
    rfl
  refine pure_ (i := 2) (N := (some 19)) (v := ?_) (a' := ?_) #[true, true, true, false, false, false, false, false, false] rfl rfl (any_of HT_.out (by kernel_rfl)) (fun _ _ _ h => h) (Or.inl ⟨by rfl, ?_⟩) ?_ ?_
  rotate_left
  · intro w'
    go_simp
    with_reducible rfl
  rotate_left
  · simp only [Act.put, List.setIfInBounds_toArray, List.set_cons_zero, List.set_cons_succ, i64_w, i32_w]
    rfl
  refine pure_ (i := 4) (N := (some 21)) (v := ?_) (a' := ?_) #[true, true, true, false, true, false, false, false, false] rfl rfl (any_of HT_.out (by kernel_rfl)) (fun _ _ _ h => h) (Or.inl ⟨by rfl, ?_⟩) ?_ ?_
  rotate_left
  · intro w'
    go_simp
    with_reducible rfl
  rotate_left
  · simp only [Act.put, List.setIfInBounds_toArray, List.set_cons_zero, List.set_cons_succ, i64_w, i32_w]
    rfl
  refine pure_ (i := 5) (N := (some 22)) (v := ?_) (a' := ?_) #[true, true, true, false, true, true, false, false, false] rfl rfl (any_of HT_.out (by kernel_rfl)) (fun _ _ _ h => h) (Or.inl ⟨by rfl, ?_⟩) ?_ ?_
  rotate_left
  · intro w'
    go_simp
    with_reducible rfl
  rotate_left
  · simp only [Act.put, List.setIfInBounds_toArray, List.set_cons_zero, List.set_cons_succ, i64_w, i32_w]
    rfl
  refine take_ (i := 3) (N := (some 20)) (v := ?_) (a' := ?_) #[true, true, true, true, true, true, false, false, false] rfl rfl (take_ofW HT_.out HW_.out (by kernel_rfl)) (fun _ _ _ h => h) (Or.inl ⟨by rfl, ?_⟩) hHeld ?_ ?_
  rotate_left
  · rintro w' ⟨s0, s1, s2, s3, s4, s5, s6, s7, s8, s9, s10, s11, s12⟩
    go_simp
    with_reducible rfl
  rotate_left
  · simp only [Act.put, List.setIfInBounds_toArray, List.set_cons_zero, List.set_cons_succ, i64_w, i32_w]
    rfl
  refine take_ (i := 6) (N := (some 23)) (v := ?_) (a' := ?_) #[true, true, true, true, true, true, true, false, false] rfl rfl (take_ofW HT_.out HW_.out (by kernel_rfl)) (fun _ _ _ h => h) (Or.inl ⟨by rfl, ?_⟩) hHeld ?_ ?_
  rotate_left
  · rintro w' ⟨s0, s1, s2, s3, s4, s5, s6, s7, s8, s9, s10, s11, s12⟩
    go_simp
    with_reducible rfl
  rotate_left
  · simp only [Act.put, List.setIfInBounds_toArray, List.set_cons_zero, List.set_cons_succ, i64_w, i32_w]
    rfl
  refine pure_ (i := 7) (N := (some 24)) (v := ?_) (a' := ?_) #[true, true, true, true, true, true, true, true, false] rfl rfl (any_of HT_.out (by kernel_rfl)) (fun _ _ _ h => h) (Or.inl ⟨by rfl, ?_⟩) ?_ ?_
  rotate_left
  · intro w'
    go_simp
    with_reducible rfl
  rotate_left
  · simp only [Act.put, List.setIfInBounds_toArray, List.set_cons_zero, List.set_cons_succ, i64_w, i32_w]
    rfl
  refine last_ (i := 8) (N := none) #[true, true, true, true, true, true, true, true, true] rfl rfl (one_of HT_.out (by kernel_rfl)) (by decide) (fun K hK => ?_)
  have HR2 : Aside0 (NB w.drew b k t v cv) := ⟨HN.out⟩
  have HCD : Aside0 (Chg (fun k => k = b) w w.drew) := ⟨(Chg.refl _ w).drew⟩
  generalize w.drew = wc at HR2 HCD hHeld ⊢
  have hc := HR2.out.cells
  obtain ⟨n0, n1, n2, n3, n4, n5, n6, n7, n8, n9, n10, n11⟩ := hc
  have f0 := frozen_of_block (i := 0) HR2.out; have f1 := frozen_of_block (i := 1) HR2.out; have f2 := frozen_of_block (i := 2) HR2.out; have f3 := frozen_of_block (i := 3) HR2.out
  have f4 := frozen_of_block (i := 4) HR2.out; have f5 := frozen_of_block (i := 5) HR2.out; have f6 := frozen_of_block (i := 6) HR2.out; have f7 := frozen_of_block (i := 7) HR2.out
  have f8 := frozen_of_block (i := 8) HR2.out; have f9 := frozen_of_block (i := 9) HR2.out; have f10 := frozen_of_block (i := 10) HR2.out; have f11 := frozen_of_block (i := 11) HR2.out
  rw [if_pos (by rfl)]
  go_simp
  obtain ⟨wf, ef, hf, hcf⟩ := set12 (v0 := .int .u32 k') (v1 := .int .u32 0) (v2 := .string t') (v3 := .string v') (v4 := .string ⟨#[]⟩) (v5 := .pointer none) (v6 := .slice A n c) (v7 := .string ⟨#[]⟩) (v8 := .string ⟨#[]⟩) (v9 := .string ⟨#[]⟩) (v10 := .int .i64 0) (v11 := .int .i64 0) HR2.out
  rw [ef]
  refine hK.out _ _ ?_
  have HF := Aside0.mk (And.intro hf (HCD.out.trans hcf (fun k q => .inl q)))
  clear hK K
  refine norm_ (a' := ?_) ?_ ?_
  rotate_left
  · first | (simp only [Act.put, List.setIfInBounds_toArray, List.set_cons_zero, List.set_cons_succ, i64_w, i32_w]; rfl) | rfl
  refine done_ (done_of HT_.out (by kernel_rfl)) ?_
  refine ⟨rfl, .tuple #[], ?_, ?_⟩
  · simp [results, Try.results120, go_sem]
  · exact ⟨rfl, HF.out.1, HF.out.2⟩

/-- One part of a list of trees is taken out, and another tree put in its place. -/
theorem YL.focus {w : World} : ∀ {F : Nat → Prop} {bs : List Nat} {ys : List Y} (j : Nat), YL w F bs ys → (hj : j < ys.length) → ∃ b F1, bs[j]? = some b ∧ (∀ k, F1 k → F k) ∧ YN w F1 b (ys[j]'hj) ∧
    ∀ (w' : World) (F2 : Nat → Prop) (y : Y), YN w' F2 b y → (∀ k, F k → ¬ F1 k → k < w.heap.size → w'.heap[k]? = w.heap[k]?) → (∀ k, F2 k → F1 k ∨ ¬ F k) → YL w' (fun k => (F k ∧ ¬ F1 k) ∨ F2 k) bs (ys.set j y)
  | _, [], [], j, _, hj => absurd hj (Nat.not_lt_zero _)
  | F, b :: bs, y :: ys, 0, h, _ => by
    simp only [YL] at h
    obtain ⟨F1, h1, h2, h3⟩ := h
    refine ⟨b, F1, rfl, h1, h2, fun w' F2 y' hy hm hd => ?_⟩
    simp only [List.set_cons_zero, YL]
    refine ⟨F2, fun k q => .inr q, hy, YL.move (fun k q => ⟨.inl q, fun r => ?_⟩) (fun k q hl => hm k q.1 q.2 hl) h3⟩
    rcases hd k r with h | h
    · exact q.2 h
    · exact h q.1
  | F, b :: bs, y :: ys, j + 1, h, hj => by
    simp only [YL] at h
    obtain ⟨G, g1, g2, g3⟩ := h
    obtain ⟨c, F1, e, hF, hy, hfr⟩ := YL.focus j g3 (by simpa using hj)
    refine ⟨c, F1, by simpa using e, fun k q => (hF k q).1, by simpa using hy, fun w' F2 y' hy' hm hd => ?_⟩
    simp only [List.set_cons_succ, YL]
    refine ⟨G, fun k q => .inl ⟨g1 k q, fun r => (hF k r).2 q⟩, YN.move (fun _ q => q) (fun k q hl => hm k (g1 k q) (fun r => (hF k r).2 q) hl) g2, ?_⟩
    refine (hfr w' F2 y' hy' (fun k q q2 hl => hm k q.1 q2 hl) (fun k q => ?_)).mono (fun k q => ?_)
    · rcases hd k q with h | h
      · exact .inl h
      · exact .inr (fun r => h r.1)
    · rcases q with ⟨q1, q2⟩ | q
      · exact ⟨.inl ⟨q1.1, q2⟩, q1.2⟩
      · refine ⟨.inr q, fun r => ?_⟩
        rcases hd k q with h | h
        · exact (hF k h).2 r
        · exact h (g1 k r)
  | _, [], _ :: _, _, h, _ => by simp only [YL] at h
  | _, _ :: _, [], _, h, _ => by simp only [YL] at h
theorem kv_set : ∀ (ks : List ByteArray) (ys : List Y) (j : Nat) (y : Y), (kv ks ys).set (2 * j + 1) y = kv ks (ys.set j y)
  | [], ys, j, y => by simp [kv]
  | k :: ks, [], j, y => by simp [kv]
  | k :: ks, a :: ys, 0, y => by simp [kv]
  | k :: ks, a :: ys, j + 1, y => by
    rw [show 2 * (j + 1) + 1 = (2 * j + 1) + 1 + 1 by omega]
    simp only [kv, List.set_cons_succ, kv_set ks ys j y]
theorem Y.eta (y : Y) : Y.mk y.kind y.tag y.value y.content = y := by cases y; rfl

theorem ynullg_calls (w : World) (b : Nat) (k : Int) (t v : ByteArray) (cv : Value) (hn : NB w b k t v cv) (hl : Live k t) :
    Calls Try.prog 96 #[ptr b] w fun e w' => e = .returned (.bool false) ∧ w = w' := by
  have c1 := hn.tag
  have h2 := hl.2
  clear hn hl
  go_enter Try.func96, Try.ntmps96
  go_wp2
  go_ret
  exact ⟨rfl, rfl⟩
theorem rnull_calls (w : World) (r b : Nat) (hr : RN w r b) (k : Int) (t v : ByteArray) (cv : Value) (hn : NB w b k t v cv) (hl : Live k t) :
    Calls Try.prog 121 #[ptr r] w fun e w' => e = .returned (.bool false) ∧ w = w' := by
  go_enter Try.func121, Try.ntmps121
  go_wp2_with (first | (go_at_call 72; refine (ynode_calls _ r b hr k t v cv hn hl).mono ?_; rintro e w' ⟨rfl, rfl⟩) | (go_at_call 94; refine (isnil_calls _ r b hr k t v cv hn hl).mono ?_; rintro e w' ⟨rfl, rfl⟩) | (go_at_call 96; refine (ynullg_calls _ b k t v cv hn hl).mono ?_; rintro e w' ⟨rfl, rfl⟩))
  go_ret
  exact ⟨rfl, rfl⟩

/-- A node's content has grown, wherever its blocks lie: the new slice is laid into the node's cell. -/
theorem grow_tree {w w4 w5 : World} {F F2 : Nat → Prop} {b g n m cap : Nat} {k0 : Int} {t v : ByteArray} {cv : Value} {bs nbs : List Nat} {ys nys : List Y} (hF : F b) (hn : NB w b k0 t v cv) (ho : w.ownsRow 0 88 1 cv bs.length (ptrs bs))
    (hfo : ∀ g, cv.ownBlock = some g → F g) (hyl : YL w (fun k => F k ∧ k ≠ b ∧ some k ≠ cv.ownBlock) bs ys) (hb4 : Below w.heap.size w w4) (hnew : YL w4 F2 nbs nys) (hd : ∀ k, F k → ¬ F2 k) (hbl : bs.length = n) (hml : nbs.length = m)
    (hown : w5.ownsRow 0 88 1 (.slice (some ⟨g, 0, none⟩) (n + m) cap) (n + m) (ptrs bs ++ ptrs nbs)) (hg : w4.grownBy w5 cv.ownBlock) (hat : cv.ownBlock = some g ∨ g = w4.heap.size) :
    YN (w5.setCell ⟨b, 6, none⟩ (.slice (some ⟨g, 0, none⟩) (n + m) cap)) (fun k => F k ∨ F2 k ∨ k = g) b (.mk k0 t v (ys ++ nys)) ∧ Chg (fun k => k = b ∨ some k = cv.ownBlock) w (w5.setCell ⟨b, 6, none⟩ (.slice (some ⟨g, 0, none⟩) (n + m) cap)) := by
  have hbw := lt_of_block hn
  have hs4 := hb4.size
  have hbo : cv.ownBlock ≠ some b := fun e => by
    obtain ⟨cells, hh⟩ := own_typed ho b e
    rw [hn] at hh
    simp at hh
  have hgb : g ≠ b := by
    rcases hat with h | h
    · exact fun e => hbo (by rw [h, e])
    · omega
  have hn5 : NB w5 b k0 t v cv := (hg.block b (by omega) (fun e => hbo e.symm)).trans ((hb4.block b hbw).trans hn)
  have hn6 := heap_set (a := ⟨b, 6, none⟩) (v := .slice (some ⟨g, 0, none⟩) (n + m) cap) hn5 rfl
  have hro : w5.ownsRow 0 88 1 (.slice (some ⟨g, 0, none⟩) (n + m) cap) (bs ++ nbs).length (ptrs (bs ++ nbs)) := by
    rw [ptrs_append, List.length_append, hbl, hml]; exact hown
  have hro6 := own_move (w1 := w5.setCell ⟨b, 6, none⟩ (.slice (some ⟨g, 0, none⟩) (n + m) cap)) hro (fun k hk => heap_set_ne (by
    have : g = k := by simpa [Value.ownBlock] using hk
    show k ≠ b
    omega))
  have hmv : ∀ k, k < w4.heap.size → some k ≠ cv.ownBlock → k ≠ b → (w5.setCell ⟨b, 6, none⟩ (.slice (some ⟨g, 0, none⟩) (n + m) cap)).heap[k]? = w4.heap[k]? := fun k hk h1 h2 => (heap_set_ne h2).trans (hg.block k hk h1)
  have hlen : (Value.slice (some ⟨g, 0, none⟩) (n + m) cap) = .slice (some ⟨g, 0, none⟩) (bs ++ nbs).length cap := by rw [List.length_append, hbl, hml]
  refine ⟨YN.close (.inl hF) hn6 hro6 (fun k hk => ?_) ?_, ?_⟩
  · have : g = k := by simpa [Value.ownBlock] using hk
    exact .inr (.inr this.symm)
  · refine YL.append (F1 := fun k => (F k ∧ k ≠ b ∧ some k ≠ cv.ownBlock) ∧ k < w.heap.size) (F2 := fun k => F2 k ∧ k < w4.heap.size) ?_ ?_ ?_ ?_ ?_
    · refine YL.move (fun _ q => q) (fun k q _ => ?_) hyl.lt
      rw [hmv k (by omega) q.1.2.2 q.1.2.1, hb4.block k q.2]
    · refine YL.move (fun _ q => q) (fun k q _ => ?_) hnew.lt
      exact hmv k q.2 (fun e => hd k (hfo k e.symm) q.1) (fun e => hd k (by rw [e]; exact hF) q.1)
    · rintro k ⟨⟨h1, h2, h3⟩, h4⟩
      refine ⟨.inl h1, h2, fun e => ?_⟩
      have e' : k = g := by simpa [Value.ownBlock] using e
      rcases hat with h | h
      · exact h3 (by rw [e', h])
      · omega
    · rintro k ⟨h1, h2⟩
      refine ⟨.inr (.inl h1), fun e => hd k (by rw [e]; exact hF) h1, fun e => ?_⟩
      have e' : k = g := by simpa [Value.ownBlock] using e
      rcases hat with h | h
      · exact hd k (hfo k (by rw [e', h])) h1
      · omega
    · rintro k ⟨⟨h1, _⟩, _⟩ ⟨h2, _⟩
      exact hd k h1 h2
  · refine Chg.setCell ?_ (.inl (.inl rfl)) _
    exact (Chg.of_below hb4).grown hg (fun k e => .inl (.inr e.symm))
end Go.Proofs.Ytigpgkfgkjabmaa
