/-
  impl.Clear.
-/
import Derived.Test.YtigpgkfgkjabmaaClearDo
namespace Go.Proofs.Ytigpgkfgkjabmaa
open Go.RowKit Go.Proofs.YtigpgkfgkjabmaaW.PrintWords Go.Proofs.YtigpgkfgkjabmaaW.PrintLast Go.Proofs.Ytigpgkfgkjabmaa.PFnFields
set_option linter.unusedVariables false
set_option linter.unusedSimpArgs false

theorem clear_method (nm : ByteArray) (n : Nat) (wa : World) : (method (n + 1) 75 (.agg #[.string ⟨#[]⟩, .string nm, .bool false]) "Filter").run Try.prog wa = .ok (116, .agg #[.string ⟨#[]⟩, .string nm, .bool false]) wa := by kernel_rfl
theorem clear_calls (nm : ByteArray) (w : World) : Calls Try.prog 50 #[.string nm] w fun e w' => e = .returned (.agg #[.string ⟨#[]⟩, .string nm, .bool false]) ∧ Below w.heap.size w w' := by
  go_enter Try.func50, Try.ntmps50
  go_wp2
  refine bodyPost_ret (v := .agg #[.string ⟨#[]⟩, .string nm, .bool false]) (by simp [results, Try.results50, go_sem]) rfl ⟨rfl, (Below.refl _ _).alloc (Nat.le_refl _) _⟩
def iclr3.T : Bool × List (List Nat × List Nat) := (true, [([], []), ([], []), ([1], [1]), ([2], [2]), ([3], [3]), ([0, 4, 2], [0, 4]), ([5], [5]), ([5], [5]), ([5], [5]), ([6, 5, 0, 1, 2, 3, 4, 5, 6, 7, 8], [6]), ([7, 9, 0, 1, 2, 3, 4, 5, 6, 7, 8, 9], [7]), ([8, 10, 0, 1, 2, 3, 4, 5, 6, 7, 8, 9, 10], [8])])
def iclr3.B : List Nat := [0, 0, 2, 6, 14, 31, 63, 63, 63, 511, 1023, 2047]
theorem iclr3.tab : rtab .any (opsOf Try.f24 3) = iclr3.T := by kernel_rfl
theorem iclr3.bits : waitsOk iclr3.T.2 iclr3.B = true := by kernel_rfl
set_option maxRecDepth 100000 in
set_option maxHeartbeats 1600000 in
theorem iclear_calls (x : S25) (hx : Tree x) (h2 : x.f0 = 2) (nm : ByteArray) (hnm : Word nm) (w : World) (A3 : Option Addr) (c3 : Nat) (A4 : Option Addr) (c4 : Nat) (hK : nodeK w x A3 c3 A4 c4) :
    Calls Try.prog 24 #[nodeV x A3 c3 A4 c4, .string nm] w (PipedPost w (spField x nm) (wo x nm)) := by
  have hu := Try.underlying25
  have HX := Aside0.mk (And.intro hx (And.intro h2 hnm))
  have HK := Aside0.mk hK
  clear hK hx h2 hnm
  go_enter Try.func24, Try.ntmps24
  go_wp2_with fail
  obtain ⟨w0, e0⟩ : ∃ w0, w0 = ((w.alloc (.cells #[.int .i64 x.f0, .string x.f1, .string x.f2, .slice A3 x.f3.length c3, .slice A4 x.f4.length c4] 25)).alloc (.cells #[.int .i64 0, .string ⟨#[]⟩, .string ⟨#[]⟩, .slice none 0 0, .slice none 0 0] 25)).alloc (.cells #[.int .i64 0, .string ⟨#[]⟩, .string ⟨#[]⟩, .slice none 0 0, .slice none 0 0] 25) := ⟨_, rfl⟩
  rw [← e0]
  have hb0 : Below w.heap.size w w0 := by rw [e0]; exact (((Below.refl _ _).alloc (Nat.le_refl _) _).alloc (by simp) _).alloc (by simp; omega) _
  have q0 : inVar w0 w.heap.size x A3 c3 A4 c4 := by rw [e0]; exact (heap_old _ (by simp; omega)).trans ((heap_old _ (by simp)).trans (heap_at _ rfl))
  have q1 : w0.heap[w.heap.size + 1]? = some (.cells #[.int .i64 0, .string ⟨#[]⟩, .string ⟨#[]⟩, .slice none 0 0, .slice none 0 0] 25 (0, 0)) := by rw [e0]; exact (heap_old _ (by simp)).trans (heap_at _ (by simp))
  have q2 : w0.heap[w.heap.size + 1 + 1]? = some (.cells #[.int .i64 0, .string ⟨#[]⟩, .string ⟨#[]⟩, .slice none 0 0, .slice none 0 0] 25 (0, 0)) := by rw [e0]; exact heap_at _ (by simp)
  have H0 := Aside0.mk (And.intro hb0 (And.intro q0 (And.intro q1 q2)))
  clear hb0 q0 q1 q2 e0
  refine (plain_calls nm w0 HX.out.2.2).mono ?_
  rintro e w1 ⟨rfl, ⟨⟨n1, rfl⟩⟩⟩
  have hb1 : Below w0.heap.size w0 (w0.drewN n1) := pw_below_drewN (Below.refl _ _) n1
  generalize w0.drewN n1 = w1 at hb1 ⊢
  have H1 := Aside0.mk (And.intro (H0.out.1.trans (hb1.mono H0.out.1.size)) (And.intro ((hb1.block _ (lt_of_block H0.out.2.1)).trans H0.out.2.1) (And.intro ((hb1.block _ (lt_of_block H0.out.2.2.1)).trans H0.out.2.2.1) ((hb1.block _ (lt_of_block H0.out.2.2.2)).trans H0.out.2.2.2))))
  clear hb1 H0
  go_wp2_with fail
  have HS : Aside0 (∀ w' : World, Below w1.heap.size w1 w' → w'.cell? ⟨w.heap.size, 0, none⟩ = some (.int .i64 x.f0) ∧ w'.cell? ⟨w.heap.size, 1, none⟩ = some (.string x.f1) ∧ w'.cell? ⟨w.heap.size, 2, none⟩ = some (.string x.f2) ∧ w'.cell? ⟨w.heap.size, 3, none⟩ = some (.slice A3 x.f3.length c3) ∧ w'.cell? ⟨w.heap.size, 4, none⟩ = some (.slice A4 x.f4.length c4)) := ⟨fun w' hw => by
    have HQ := Aside0.mk ((hw.block _ (lt_of_block H1.out.2.1)).trans H1.out.2.1)
    have ca0 := (cell_of_block (i := 0) HQ.out).trans (show _ = some _ from rfl); have ca1 := (cell_of_block (i := 1) HQ.out).trans (show _ = some _ from rfl); have ca2 := (cell_of_block (i := 2) HQ.out).trans (show _ = some _ from rfl); have ca3 := (cell_of_block (i := 3) HQ.out).trans (show _ = some _ from rfl); have ca4 := (cell_of_block (i := 4) HQ.out).trans (show _ = some _ from rfl); have za0 := frozen_of_block (i := 0) HQ.out; have za1 := frozen_of_block (i := 1) HQ.out; have za2 := frozen_of_block (i := 2) HQ.out; have za3 := frozen_of_block (i := 3) HQ.out; have za4 := frozen_of_block (i := 4) HQ.out
    exact ⟨ca0, ca1, ca2, ca3, ca4⟩⟩
  refine start_ (n := 12) (S := fun w' => w'.cell? ⟨w.heap.size, 0, none⟩ = some (.int .i64 x.f0) ∧ w'.cell? ⟨w.heap.size, 1, none⟩ = some (.string x.f1) ∧ w'.cell? ⟨w.heap.size, 2, none⟩ = some (.string x.f2) ∧ w'.cell? ⟨w.heap.size, 3, none⟩ = some (.slice A3 x.f3.length c3) ∧ w'.cell? ⟨w.heap.size, 4, none⟩ = some (.slice A4 x.f4.length c4)) (ds := [5, 9, 10]) #[false, false, false, false, false, false, false, false, false, false, false, false] (by kernel_rfl) rfl rfl (HS.out _ (Below.refl _ _).drew) (fun hHeld => ?_)
  refine with_tabW (T := iclr3.T) (B := iclr3.B) iclr3.tab iclr3.bits (fun HT_ HW_ => ?_)
  have HB := Aside0.mk ((Below.refl w1.heap.size w1).drew)
  generalize w1.drew = wc at HB hHeld ⊢
  refine pure_ (i := 1) (N := (some 13)) (v := ?_) (a' := ?_) #[false, true, false, false, false, false, false, false, false, false, false, false] rfl rfl (any_of HT_.out (by kernel_rfl)) (fun _ _ _ h => h) (Or.inl ⟨by rfl, ?_⟩) ?_ ?_
  rotate_left
  · intro w'
    go_simp
    with_reducible rfl
  rotate_left
  · simp only [Act.put, List.setIfInBounds_toArray, List.set_cons_zero, List.set_cons_succ, i64_w, i32_w]
    rfl
  refine take_ (i := 0) (N := (some 12)) (v := ?_) (a' := ?_) #[true, true, false, false, false, false, false, false, false, false, false, false] rfl rfl (take_ofW HT_.out HW_.out (by kernel_rfl)) (fun _ _ _ h => h) (Or.inl ⟨by rfl, ?_⟩) hHeld ?_ ?_
  rotate_left
  · rintro w' ⟨s0, s1, s2, s3, s4⟩
    go_simp
    with_reducible rfl
  rotate_left
  · simp only [Act.put, List.setIfInBounds_toArray, List.set_cons_zero, List.set_cons_succ, i64_w, i32_w]
    rfl
  refine one_ (i := 2) (N := (some 14)) #[true, true, true, false, false, false, false, false, false, false, false, false] rfl rfl (one_of HT_.out (by kernel_rfl)) (by decide) (fun K hK => ?_)
  refine goes_ Try.func50 (by kernel_rfl) rfl #[.string nm] (by rfl) rfl rfl (by simp only [List.map_toArray, List.map_cons, List.map_nil]; rfl) ?_
  refine (clear_calls nm wc).mono ?_
  rintro e w2 ⟨rfl, hb2⟩
  refine ⟨_, rfl, ?_⟩
  have hb2' : Below w1.heap.size w1 w2 := HB.out.trans (hb2.mono HB.out.size)
  refine hK.out _ _ (HS.out _ hb2') (fun hHeld => ?_)
  have HB2 := Aside0.mk hb2'
  clear hb2 hb2' HB
  have HB := HB2
  clear HB2
  clear hK K
  refine norm_ (a' := ?_) ?_ ?_
  rotate_left
  · first | (simp only [Act.put, List.setIfInBounds_toArray, List.set_cons_zero, List.set_cons_succ, i64_w, i32_w]; rfl) | rfl
  refine pure_ (i := 3) (N := (some 15)) (v := ?_) (a' := ?_) #[true, true, true, true, false, false, false, false, false, false, false, false] rfl rfl (any_of HT_.out (by kernel_rfl)) (fun _ _ _ h => h) (Or.inl ⟨by rfl, ?_⟩) ?_ ?_
  rotate_left
  · intro w'
    go_simp
    with_reducible rfl
  rotate_left
  · simp only [Act.put, List.setIfInBounds_toArray, List.set_cons_zero, List.set_cons_succ, i64_w, i32_w]
    rfl
  refine one_ (i := 4) (N := (some 16)) #[true, true, true, true, true, false, false, false, false, false, false, false] rfl rfl (one_of HT_.out (by kernel_rfl)) (by decide) (fun K hK => ?_)
  rw [if_pos (by rfl)]
  go_simp
  obtain ⟨w3, g3, e3, eg, hc3, hb3, hh3, hs3⟩ := alloc_step (Chg.refl (fun _ => False) w2) (.cells #[.iface 75 (.agg #[.string ⟨#[]⟩, .string nm, .bool false])] 134)
  rw [e3, eg]
  have hcg : w3.cell? ⟨g3, 0, none⟩ = some (.iface 75 (.agg #[.string ⟨#[]⟩, .string nm, .bool false])) := by rw [cell_of_block hh3]; rfl
  have HB3 := Aside0.mk (And.intro (HB.out.trans (hb3.mono HB.out.size)) hcg)
  refine hK.out _ _ (HS.out _ HB3.out.1) (fun hHeld => ?_)
  clear e3 eg hc3 hb3 hh3 hs3 hcg
  clear hK K
  refine norm_ (a' := ?_) ?_ ?_
  rotate_left
  · first | (simp only [Act.put, List.setIfInBounds_toArray, List.set_cons_zero, List.set_cons_succ, i64_w, i32_w]; rfl) | rfl
  refine last_ (i := 5) (N := (some 17)) #[true, true, true, true, true, true, false, false, false, false, false, false] rfl rfl (one_of HT_.out (by kernel_rfl)) (by decide) (fun K hK => ?_)
  refine goes_ Try.func49 (by kernel_rfl) rfl #[nodeV x A3 c3 A4 c4, .slice (some ⟨g3, 0, none⟩) 1 1] (by rfl) rfl rfl (by simp only [List.map_toArray, List.map_cons, List.map_nil]; rfl) ?_
  refine (piped_calls x (spField x nm) (wo x nm) HX.out.1 w3 g3 1 A3 c3 A4 c4 75 _ _ 116 (clear_method nm) (fun xs wa => enters_ Try.func116 rfl rfl xs wa) HB3.out.2 (k25.K_below (H1.out.1.trans (HB3.out.1.mono H1.out.1.size)) HK.out) (clear_does x HX.out.1 HX.out.2.1 nm w3)).mono ?_
  rintro e w4 ⟨B3, d3, B4, d4, E3, f3, E4, f4, rfl, m1, m2, hb4⟩
  refine ⟨_, rfl, ?_⟩
  refine hK.out _ _ ?_
  have HM := Aside0.mk (And.intro m1 (And.intro m2 hb4))
  clear m1 m2 hb4
  clear hK K
  refine norm_ (a' := ?_) ?_ ?_
  rotate_left
  · first | (simp only [Act.put, List.setIfInBounds_toArray, List.set_cons_zero, List.set_cons_succ, i64_w, i32_w]; rfl) | rfl
  refine pure_ (i := 6) (N := (some 18)) (v := ?_) (a' := ?_) #[true, true, true, true, true, true, true, false, false, false, false, false] rfl rfl (any_of HT_.out (by kernel_rfl)) (fun _ _ _ h => h) (Or.inl ⟨by rfl, ?_⟩) ?_ ?_
  rotate_left
  · intro w'
    go_simp
    with_reducible rfl
  rotate_left
  · simp only [Act.put, List.setIfInBounds_toArray, List.set_cons_zero, List.set_cons_succ, i64_w, i32_w]
    rfl
  refine pure_ (i := 7) (N := (some 19)) (v := ?_) (a' := ?_) #[true, true, true, true, true, true, true, true, false, false, false, false] rfl rfl (any_of HT_.out (by kernel_rfl)) (fun _ _ _ h => h) (Or.inl ⟨by rfl, ?_⟩) ?_ ?_
  rotate_left
  · intro w'
    go_simp
    with_reducible rfl
  rotate_left
  · simp only [Act.put, List.setIfInBounds_toArray, List.set_cons_zero, List.set_cons_succ, i64_w, i32_w]
    rfl
  refine pure_ (i := 8) (N := (some 20)) (v := ?_) (a' := ?_) #[true, true, true, true, true, true, true, true, true, false, false, false] rfl rfl (any_of HT_.out (by kernel_rfl)) (fun _ _ _ h => h) (Or.inl ⟨by rfl, ?_⟩) ?_ ?_
  rotate_left
  · intro w'
    go_simp
    with_reducible rfl
  rotate_left
  · simp only [Act.put, List.setIfInBounds_toArray, List.set_cons_zero, List.set_cons_succ, i64_w, i32_w]
    rfl
  refine last_ (i := 9) (N := none) #[true, true, true, true, true, true, true, true, true, true, false, false] rfl rfl (one_of HT_.out (by kernel_rfl)) (by decide) (fun K hK => ?_)
  have hr2 := (HM.out.2.2.block _ (Nat.lt_of_lt_of_le (lt_of_block H1.out.2.2.1) HB3.out.1.size)).trans ((HB3.out.1.block _ (lt_of_block H1.out.2.2.1)).trans H1.out.2.2.1)
  have HR2 := Aside0.mk hr2
  have cr0 := (cell_of_block (i := 0) HR2.out).trans (show _ = some _ from rfl); have cr1 := (cell_of_block (i := 1) HR2.out).trans (show _ = some _ from rfl); have cr2 := (cell_of_block (i := 2) HR2.out).trans (show _ = some _ from rfl); have cr3 := (cell_of_block (i := 3) HR2.out).trans (show _ = some _ from rfl); have cr4 := (cell_of_block (i := 4) HR2.out).trans (show _ = some _ from rfl); have zr0 := frozen_of_block (i := 0) HR2.out; have zr1 := frozen_of_block (i := 1) HR2.out; have zr2 := frozen_of_block (i := 2) HR2.out; have zr3 := frozen_of_block (i := 3) HR2.out; have zr4 := frozen_of_block (i := 4) HR2.out
  rw [if_pos (by rfl)]
  go_simp
  obtain ⟨w5, e5, hf5, hc5⟩ := set5 (v0 := .int .i64 (spField x nm).f0) (v1 := .string (spField x nm).f1) (v2 := .string (spField x nm).f2) (v3 := .slice B3 (spField x nm).f3.length d3) (v4 := .slice B4 (spField x nm).f4.length d4) hr2
  rw [e5]
  have H5 := Aside0.mk (And.intro hf5 hc5)
  refine hK.out _ _ ?_
  clear cr0 cr1 cr2 cr3 cr4 zr0 zr1 zr2 zr3 zr4 e5 hf5 hc5 HR2 hr2
  clear hK K
  refine norm_ (a' := ?_) ?_ ?_
  rotate_left
  · first | (simp only [Act.put, List.setIfInBounds_toArray, List.set_cons_zero, List.set_cons_succ, i64_w, i32_w]; rfl) | rfl
  refine last_ (i := 10) (N := none) #[true, true, true, true, true, true, true, true, true, true, true, false] rfl rfl (one_of HT_.out (by kernel_rfl)) (by decide) (fun K hK => ?_)
  have hlw := lt_of_block H1.out.2.2.2
  have hr3 := (H5.out.2.block _ (Nat.lt_of_lt_of_le hlw (Nat.le_trans HB3.out.1.size HM.out.2.2.size)) (by omega)).trans ((HM.out.2.2.block _ (Nat.lt_of_lt_of_le hlw HB3.out.1.size)).trans ((HB3.out.1.block _ hlw).trans H1.out.2.2.2))
  have HR3 := Aside0.mk hr3
  have cr0 := (cell_of_block (i := 0) HR3.out).trans (show _ = some _ from rfl); have cr1 := (cell_of_block (i := 1) HR3.out).trans (show _ = some _ from rfl); have cr2 := (cell_of_block (i := 2) HR3.out).trans (show _ = some _ from rfl); have cr3 := (cell_of_block (i := 3) HR3.out).trans (show _ = some _ from rfl); have cr4 := (cell_of_block (i := 4) HR3.out).trans (show _ = some _ from rfl); have zr0 := frozen_of_block (i := 0) HR3.out; have zr1 := frozen_of_block (i := 1) HR3.out; have zr2 := frozen_of_block (i := 2) HR3.out; have zr3 := frozen_of_block (i := 3) HR3.out; have zr4 := frozen_of_block (i := 4) HR3.out
  rw [if_pos (by rfl)]
  go_simp
  obtain ⟨w6, e6, hf6, hc6⟩ := set5 (v0 := .int .i64 (wo x nm).f0) (v1 := .string (wo x nm).f1) (v2 := .string (wo x nm).f2) (v3 := .slice E3 (wo x nm).f3.length f3) (v4 := .slice E4 (wo x nm).f4.length f4) hr3
  rw [e6]
  have H6 := Aside0.mk (And.intro hf6 hc6)
  refine hK.out _ _ ?_
  clear cr0 cr1 cr2 cr3 cr4 zr0 zr1 zr2 zr3 zr4 e6 hf6 hc6 HR3 hr3 hlw
  clear hK K
  refine norm_ (a' := ?_) ?_ ?_
  rotate_left
  · first | (simp only [Act.put, List.setIfInBounds_toArray, List.set_cons_zero, List.set_cons_succ, i64_w, i32_w]; rfl) | rfl
  refine pure_ (i := 11) (N := (some 6)) (v := ?_) (a' := ?_) #[true, true, true, true, true, true, true, true, true, true, true, true] rfl rfl (any_of HT_.out (by kernel_rfl)) (fun _ _ _ h => h) (Or.inl ⟨by rfl, ?_⟩) ?_ ?_
  rotate_left
  · intro w'
    go_simp
    with_reducible rfl
  rotate_left
  · simp only [Act.put, List.setIfInBounds_toArray, List.set_cons_zero, List.set_cons_succ, i64_w, i32_w]
    rfl
  refine done_ (done_of HT_.out (by kernel_rfl)) ?_
  have HF1 := Aside0.mk ((H6.out.2.block _ (lt_of_block H5.out.1) (by omega)).trans H5.out.1)
  have HF2 := Aside0.mk H6.out.1
  have ca0 := (cell_of_block (i := 0) HF1.out).trans (show _ = some _ from rfl); have ca1 := (cell_of_block (i := 1) HF1.out).trans (show _ = some _ from rfl); have ca2 := (cell_of_block (i := 2) HF1.out).trans (show _ = some _ from rfl); have ca3 := (cell_of_block (i := 3) HF1.out).trans (show _ = some _ from rfl); have ca4 := (cell_of_block (i := 4) HF1.out).trans (show _ = some _ from rfl); have za0 := frozen_of_block (i := 0) HF1.out; have za1 := frozen_of_block (i := 1) HF1.out; have za2 := frozen_of_block (i := 2) HF1.out; have za3 := frozen_of_block (i := 3) HF1.out; have za4 := frozen_of_block (i := 4) HF1.out
  have cb0 := (cell_of_block (i := 0) HF2.out).trans (show _ = some _ from rfl); have cb1 := (cell_of_block (i := 1) HF2.out).trans (show _ = some _ from rfl); have cb2 := (cell_of_block (i := 2) HF2.out).trans (show _ = some _ from rfl); have cb3 := (cell_of_block (i := 3) HF2.out).trans (show _ = some _ from rfl); have cb4 := (cell_of_block (i := 4) HF2.out).trans (show _ = some _ from rfl); have zb0 := frozen_of_block (i := 0) HF2.out; have zb1 := frozen_of_block (i := 1) HF2.out; have zb2 := frozen_of_block (i := 2) HF2.out; have zb3 := frozen_of_block (i := 3) HF2.out; have zb4 := frozen_of_block (i := 4) HF2.out
  have hs1 := lt_of_block H1.out.2.2.2
  have hs3 := HB3.out.1.size
  have hc6 : ∀ k, k < w4.heap.size → k ≠ w.heap.size + 1 → k ≠ w.heap.size + 1 + 1 → w6.heap[k]? = w4.heap[k]? := fun k hk h1 h2 => (H6.out.2.block k (Nat.lt_of_lt_of_le hk H5.out.2.size) h2).trans (H5.out.2.block k hk h1)
  have hb4 : Below w.heap.size w w4 := H1.out.1.trans ((HB3.out.1.mono H1.out.1.size).trans (HM.out.2.2.mono (Nat.le_trans H1.out.1.size hs3)))
  have hb6 : Below w.heap.size w w6 := hb4.trans ((H5.out.2.below hb4.size (fun k e => by omega)).trans (H6.out.2.below (Nat.le_trans hb4.size H5.out.2.size) (fun k e => by omega)))
  have HZ := Aside0.mk (And.intro hc6 hb6)
  have HSZ := Aside0.mk (And.intro hs1 hs3)
  clear hc6 hb6 hb4 hs1 hs3
  go_wp2
  refine bodyPost_ret (v := .tuple #[nodeV (spField x nm) B3 d3 B4 d4, nodeV (wo x nm) E3 f3 E4 f4, .bool true]) (by simp [results, Try.results24, go_sem, ca0, ca1, ca2, ca3, ca4, cb0, cb1, cb2, cb3, cb4]) rfl ⟨B3, d3, B4, d4, E3, f3, E4, f4, rfl, ?_, ?_, HZ.out.2⟩
  · exact k25.M_lower (show w.heap.size ≤ w3.heap.size by have := HSZ.out; omega) (M_upd HM.out.1 (fun k hb hk => HZ.out.1 k hk (by have := HSZ.out; omega) (by have := HSZ.out; omega)))
  · exact k25.M_lower (show w.heap.size ≤ w3.heap.size by have := HSZ.out; omega) (M_upd HM.out.2.1 (fun k hb hk => HZ.out.1 k hk (by have := HSZ.out; omega) (by have := HSZ.out; omega)))
end Go.Proofs.Ytigpgkfgkjabmaa
