/-
  FieldMatcher.Filter: a map's field, by its name.
-/
import Derived.Test.YtigpgkfgkjabmaaPipe
namespace Go.Proofs.Ytigpgkfgkjabmaa
open Go.RowKit Go.Proofs.YtigpgkfgkjabmaaW.PrintWords Go.Proofs.YtigpgkfgkjabmaaW.PrintLast Go.Proofs.Ytigpgkfgkjabmaa.PFnFields
set_option linter.unusedVariables false
set_option linter.unusedSimpArgs false

/-- A matcher's cells. -/
abbrev fm (nm : ByteArray) (V : Value) (sv : ByteArray) (C : Value) : Array Value := #[.string ⟨#[]⟩, .string nm, V, .string sv, .string ⟨#[]⟩, C]
def mcall0.T : Bool × List (List Nat × List Nat) := (true, [([], []), ([0], [0]), ([1], [1]), ([2], [2]), ([3, 2], [2, 3]), ([4, 2], [2, 4]), ([5, 2], [2, 5]), ([2], [2]), ([7, 2], [2, 7]), ([8, 2, 2], [2, 8]), ([9, 2], [2, 9]), ([10, 2], [2, 10]), ([11, 2], [2, 11]), ([6, 12, 2], [2, 6, 12]), ([2, 13], [2, 13])])
def mcall0.B : List Nat := [0, 1, 3, 7, 15, 31, 63, 7, 135, 391, 903, 1927, 3975, 8191, 16383]
theorem mcall0.tab : rtab .any (opsOf Try.f134 0) = mcall0.T := by kernel_rfl
theorem mcall0.bits : waitsOk mcall0.T.2 mcall0.B = true := by kernel_rfl
def matchA25.T : Bool × List (List Nat × List Nat) := (true, [([], []), ([0], [0]), ([], []), ([], []), ([3], [3]), ([4], [4]), ([1, 2, 5, 1], [1, 2, 5])])
def matchA25.B : List Nat := [0, 1, 0, 0, 8, 24, 63]
theorem matchA25.tab : rtab .any (opsOf Try.f130 25) = matchA25.T := by kernel_rfl
theorem matchA25.bits : waitsOk matchA25.T.2 matchA25.B = true := by kernel_rfl
set_option maxRecDepth 100000 in
theorem mcallA_calls (w : World) (kb vb rq fb o : Nat) (hq : w.heap[rq]? = some (.cells #[.bool false] 4 (0, 0))) (ho : w.heap[o]? = some (.cells #[.pointer none] 57 (0, 0))) :
    Calls Try.prog 134 #[ptr kb, ptr vb, .pointer (some ⟨rq, 0, none⟩), .pointer (some ⟨fb, 0, none⟩), .pointer (some ⟨o, 0, none⟩)] w fun e w' => e = .returned (.tuple #[]) ∧ ∃ rr, w'.heap[o]? = some (.cells #[ptr rr] 57 (0, 0)) ∧ RN0 w' rr vb ∧ Chg (fun k => k = o) w w' ∧ w.heap.size ≤ rr := by
  have cq : w.cell? ⟨rq, 0, none⟩ = some (.bool false) := by rw [cell_of_block hq]; rfl
  have HC := Aside0.mk cq
  have HO := Aside0.mk ho
  clear hq ho cq
  go_enter Try.func134, Try.ntmps134
  go_wp2_with fail
  refine start_ (n := 15) (S := fun w' => w'.cell? ⟨rq, 0, none⟩ = some (.bool false)) (ds := []) #[false, false, false, false, false, false, false, false, false, false, false, false, false, false, false] (by kernel_rfl) rfl rfl HC.out (fun hHeld => ?_)
  refine with_tabW (T := mcall0.T) (B := mcall0.B) mcall0.tab mcall0.bits (fun HT_ HW_ => ?_)
  refine take_ (i := 0) (N := (some 7)) (v := ?_) (a' := ?_) #[true, false, false, false, false, false, false, false, false, false, false, false, false, false, false] rfl rfl (take_ofW HT_.out HW_.out (by kernel_rfl)) (fun _ _ _ h => h) (Or.inl ⟨by rfl, ?_⟩) hHeld ?_ ?_
  rotate_left
  · rintro w' s0
    go_simp
    with_reducible rfl
  rotate_left
  · simp only [Act.put, List.setIfInBounds_toArray, List.set_cons_zero, List.set_cons_succ, i64_w, i32_w]
    rfl
  refine pure_ (i := 1) (N := (some 8)) (v := ?_) (a' := ?_) #[true, true, false, false, false, false, false, false, false, false, false, false, false, false, false] rfl rfl (any_of HT_.out (by kernel_rfl)) (fun _ _ _ h => h) (Or.inl ⟨by rfl, ?_⟩) ?_ ?_
  rotate_left
  · intro w'
    go_simp
    with_reducible rfl
  rotate_left
  · simp only [Act.put, List.setIfInBounds_toArray, List.set_cons_zero, List.set_cons_succ, i64_w, i32_w]
    rfl
  refine pure_ (i := 2) (N := (some 9)) (v := ?_) (a' := ?_) #[true, true, true, false, false, false, false, false, false, false, false, false, false, false, false] rfl rfl (any_of HT_.out (by kernel_rfl)) (fun _ _ _ h => h) (Or.inl ⟨by rfl, ?_⟩) ?_ ?_
  rotate_left
  · intro w'
    go_simp
    with_reducible rfl
  rotate_left
  · simp only [Act.put, List.setIfInBounds_toArray, List.set_cons_zero, List.set_cons_succ, i64_w, i32_w]
    rfl
  refine pure_ (i := 3) (N := (some 10)) (v := undef) (a' := ?_) #[true, true, true, true, false, false, false, false, false, false, false, false, false, false, false] rfl rfl (any_of HT_.out (by kernel_rfl)) (fun _ _ _ h => h) (Or.inr ⟨by rfl, rfl⟩) ?_ ?_
  rotate_left
  · (simp only [Act.put, List.setIfInBounds_toArray, List.set_cons_zero, List.set_cons_succ, i64_w, i32_w]; rfl)
  refine pure_ (i := 4) (N := (some 11)) (v := undef) (a' := ?_) #[true, true, true, true, true, false, false, false, false, false, false, false, false, false, false] rfl rfl (any_of HT_.out (by kernel_rfl)) (fun _ _ _ h => h) (Or.inr ⟨by rfl, rfl⟩) ?_ ?_
  rotate_left
  · (simp only [Act.put, List.setIfInBounds_toArray, List.set_cons_zero, List.set_cons_succ, i64_w, i32_w]; rfl)
  refine pure_ (i := 5) (N := (some 12)) (v := undef) (a' := ?_) #[true, true, true, true, true, true, false, false, false, false, false, false, false, false, false] rfl rfl (any_of HT_.out (by kernel_rfl)) (fun _ _ _ h => h) (Or.inr ⟨by rfl, rfl⟩) ?_ ?_
  rotate_left
  · (simp only [Act.put, List.setIfInBounds_toArray, List.set_cons_zero, List.set_cons_succ, i64_w, i32_w]; rfl)
  refine pure_ (i := 6) (N := (some 13)) (v := undef) (a' := ?_) #[true, true, true, true, true, true, true, false, false, false, false, false, false, false, false] rfl rfl (any_of HT_.out (by kernel_rfl)) (fun _ _ _ h => h) (Or.inr ⟨by rfl, rfl⟩) ?_ ?_
  rotate_left
  · (simp only [Act.put, List.setIfInBounds_toArray, List.set_cons_zero, List.set_cons_succ, i64_w, i32_w]; rfl)
  refine pure_ (i := 7) (N := (some 14)) (v := undef) (a' := ?_) #[true, true, true, true, true, true, true, true, false, false, false, false, false, false, false] rfl rfl (any_of HT_.out (by kernel_rfl)) (fun _ _ _ h => h) (Or.inr ⟨by rfl, rfl⟩) ?_ ?_
  rotate_left
  · (simp only [Act.put, List.setIfInBounds_toArray, List.set_cons_zero, List.set_cons_succ, i64_w, i32_w]; rfl)
  refine pure_ (i := 8) (N := (some 15)) (v := undef) (a' := ?_) #[true, true, true, true, true, true, true, true, true, false, false, false, false, false, false] rfl rfl (any_of HT_.out (by kernel_rfl)) (fun _ _ _ h => h) (Or.inr ⟨by rfl, rfl⟩) ?_ ?_
  rotate_left
  · (simp only [Act.put, List.setIfInBounds_toArray, List.set_cons_zero, List.set_cons_succ, i64_w, i32_w]; rfl)
  refine pure_ (i := 9) (N := (some 16)) (v := undef) (a' := ?_) #[true, true, true, true, true, true, true, true, true, true, false, false, false, false, false] rfl rfl (any_of HT_.out (by kernel_rfl)) (fun _ _ _ h => h) (Or.inr ⟨by rfl, rfl⟩) ?_ ?_
  rotate_left
  · (simp only [Act.put, List.setIfInBounds_toArray, List.set_cons_zero, List.set_cons_succ, i64_w, i32_w]; rfl)
  refine pure_ (i := 10) (N := (some 17)) (v := undef) (a' := ?_) #[true, true, true, true, true, true, true, true, true, true, true, false, false, false, false] rfl rfl (any_of HT_.out (by kernel_rfl)) (fun _ _ _ h => h) (Or.inr ⟨by rfl, rfl⟩) ?_ ?_
  rotate_left
  · (simp only [Act.put, List.setIfInBounds_toArray, List.set_cons_zero, List.set_cons_succ, i64_w, i32_w]; rfl)
  refine pure_ (i := 11) (N := (some 18)) (v := undef) (a' := ?_) #[true, true, true, true, true, true, true, true, true, true, true, true, false, false, false] rfl rfl (any_of HT_.out (by kernel_rfl)) (fun _ _ _ h => h) (Or.inr ⟨by rfl, rfl⟩) ?_ ?_
  rotate_left
  · (simp only [Act.put, List.setIfInBounds_toArray, List.set_cons_zero, List.set_cons_succ, i64_w, i32_w]; rfl)
  refine pure_ (i := 12) (N := (some 19)) (v := undef) (a' := ?_) #[true, true, true, true, true, true, true, true, true, true, true, true, true, false, false] rfl rfl (any_of HT_.out (by kernel_rfl)) (fun _ _ _ h => h) (Or.inr ⟨by rfl, rfl⟩) ?_ ?_
  rotate_left
  · (simp only [Act.put, List.setIfInBounds_toArray, List.set_cons_zero, List.set_cons_succ, i64_w, i32_w]; rfl)
  refine pure_ (i := 13) (N := (some 20)) (v := undef) (a' := ?_) #[true, true, true, true, true, true, true, true, true, true, true, true, true, true, false] rfl rfl (any_of HT_.out (by kernel_rfl)) (fun _ _ _ h => h) (Or.inr ⟨by rfl, rfl⟩) ?_ ?_
  rotate_left
  · (simp only [Act.put, List.setIfInBounds_toArray, List.set_cons_zero, List.set_cons_succ, i64_w, i32_w]; rfl)
  refine pure_ (i := 14) (N := (some 21)) (v := ?_) (a' := ?_) #[true, true, true, true, true, true, true, true, true, true, true, true, true, true, true] rfl rfl (any_of HT_.out (by kernel_rfl)) (fun _ _ _ h => h) (Or.inl ⟨by rfl, ?_⟩) ?_ ?_
  rotate_left
  · intro w'
    go_simp
    with_reducible rfl
  rotate_left
  · simp only [Act.put, List.setIfInBounds_toArray, List.set_cons_zero, List.set_cons_succ, i64_w, i32_w]
    rfl
  refine done_ (done_of HT_.out (by kernel_rfl)) ?_
  have HD : Aside0 (w.drew.heap[o]? = some (.cells #[.pointer none] 57 (0, 0)) ∧ Chg (fun k => k = o) w w.drew ∧ w.drew.heap.size = w.heap.size) := ⟨HO.out, (Chg.refl _ w).drew, rfl⟩
  generalize w.drew = wd at *
  go_wp2_with fail
  refine (newrnode_calls wd vb).mono ?_
  rintro e w1 ⟨rfl, rfl⟩
  have hb1 : Below wd.heap.size wd (wd.alloc (.cells (rcells (.slice none 0 0) (ptr vb) false (.slice none 0 0)) 124)) := (Below.refl _ _).alloc (Nat.le_refl _) _
  have hr1 := RN0.new wd vb
  generalize wd.alloc (.cells (rcells (.slice none 0 0) (ptr vb) false (.slice none 0 0)) 124) = w1 at hb1 hr1 ⊢
  have ho1 := (hb1.block _ (lt_of_block HD.out.1)).trans HD.out.1
  have hlo := lt_of_block HD.out.1
  have H1 := Aside0.mk (And.intro hb1 (And.intro hr1 (And.intro ho1 hlo)))
  have co : w1.cell? ⟨o, 0, none⟩ = some (.pointer none) := by rw [cell_of_block ho1]; rfl
  have zo : w1.frozen? ⟨o, 0, none⟩ = false := frozen_of_block ho1
  clear hb1 hr1 ho1 hlo
  go_wp2_with fail
  obtain ⟨w2, e2⟩ : ∃ w2, w2 = w1.setCell ⟨o, 0, none⟩ (ptr wd.heap.size) := ⟨_, rfl⟩
  try rw [← e2]
  have ho2 : w2.heap[o]? = some (.cells #[ptr wd.heap.size] 57 (0, 0)) := by rw [e2]; exact heap_set (a := ⟨o, 0, none⟩) H1.out.2.2.1 rfl
  have hc2 : Chg (fun k => k = o) w1 w2 := by rw [e2]; exact (Chg.refl (fun k => k = o) w1).setCell (p := ⟨o, 0, none⟩) (.inl rfl) _
  refine ⟨rfl, .tuple #[], ?_, ?_⟩
  · simp [results, Try.results134, go_sem]
  · refine ⟨rfl, wd.heap.size, ?_, ?_, ?_, ?_⟩
    · first | exact ho2 | (rw [← e2]; exact ho2)
    · first | exact H1.out.2.1.move (fun hlt => hc2.block _ hlt (by have := H1.out.2.2.2; omega)) | (rw [← e2]; exact H1.out.2.1.move (fun hlt => hc2.block _ hlt (by have := H1.out.2.2.2; omega)))
    · first | exact (HD.out.2.1.trans (Chg.of_below H1.out.1) (fun _ (q : False) => q.elim)).trans hc2 (fun k q => .inl q) | (rw [← e2]; exact (HD.out.2.1.trans (Chg.of_below H1.out.1) (fun _ (q : False) => q.elim)).trans hc2 (fun k q => .inl q))
    · have := HD.out.2.2; omega

/-- What the matcher hands back of a map. -/
def MatchPost (w : World) (ks : List ByteArray) (nm : ByteArray) (bs : List Nat) (o : Option Nat) (w' : World) : Prop :=
  Below w.heap.size w w' ∧ ((nm ∉ ks ∧ o = none) ∨ ∃ j rr, ks[j]? = some nm ∧ o = some rr ∧ RN0 w' rr (bs.getD (2 * j + 1) 0) ∧ w.heap.size ≤ rr)
set_option maxRecDepth 100000 in
set_option maxHeartbeats 1600000 in
theorem matchA_calls (w : World) (r b : Nat) (t v : ByteArray) (A : Option Addr) (g c : Nat) (nm : ByteArray) (ks : List ByteArray) (bs : List Nat) (hne : nm.toList.isEmpty = false) (hr : RN w r b) (hn : NB w b 4 t v (.slice A bs.length c)) (hl : Live 4 t)
    (hA : 0 < ks.length → A = some ⟨g, 0, none⟩) (hm : bs.length = 2 * ks.length) (hb : ks.length ≤ 1000) (hcell : ∀ i (h : i < bs.length), w.cell? ⟨g, i, none⟩ = some (ptr bs[i]))
    (hkey : ∀ j (h : j < ks.length), ∃ t cv, NB w (bs.getD (2 * j) 0) 8 t ks[j] cv) :
    Calls Try.prog 130 #[.agg (fm nm (.pointer none) ⟨#[]⟩ (.pointer none)), ptr r] w (FilterPost (MatchPost w ks nm bs)) := by
  have hmf : ∀ (fn : Fn) (first cap : Array Value) (w : World), (Instr.makeFunc fn first cap).run Try.prog w = .ok (.func fn first cap) w := fun _ _ _ _ => rfl
  have HR := Aside0.mk hr
  have HN := Aside0.mk hn
  have HL := Aside0.mk hl
  have HC := Aside0.mk hcell
  have HK := Aside0.mk hkey
  have HM := Aside0.mk (And.intro hA (And.intro hm hb))
  clear hr hn hl hcell hkey hA hm hb
  go_enter Try.func130, Try.ntmps130
  go_wp2_with fail
  obtain ⟨w0, e0⟩ : ∃ w0, w0 = w.alloc (.cells (fm nm (.pointer none) ⟨#[]⟩ (.pointer none)) 159) := ⟨_, rfl⟩
  rw [← e0]
  have hb0 : Below w.heap.size w w0 := by rw [e0]; exact (Below.refl _ _).alloc (Nat.le_refl _) _
  have hf0 : w0.heap[w.heap.size]? = some (.cells (fm nm (.pointer none) ⟨#[]⟩ (.pointer none)) 159 (0, 0)) := by rw [e0]; exact heap_at _ rfl
  have hs0 : w0.heap.size = w.heap.size + 1 := by rw [e0]; simp
  have H0 := Aside0.mk (And.intro hb0 (And.intro hf0 hs0))
  clear hb0 hf0 hs0 e0
  refine (missing_calls w0 r b (HR.out.below H0.out.1) 4 t v _ (HN.out.below H0.out.1) HL.out).mono ?_
  rintro e w1 ⟨rfl, rfl⟩
  have cf1 : w0.cell? ⟨w.heap.size, 1, none⟩ = some (.string nm) := by rw [cell_of_block H0.out.2.1]; rfl
  have cf2 : w0.cell? ⟨w.heap.size, 2, none⟩ = some (.pointer none) := by rw [cell_of_block H0.out.2.1]; rfl
  go_wp2_with fail
  refine (valid_calls w0 r b (HR.out.below H0.out.1) 4 t v A bs.length c (HN.out.below H0.out.1) HL.out (fun _ => by have := HM.out; omega) (by have := HM.out; omega)).mono ?_
  rintro e w1 ⟨rfl, rfl⟩
  have cf2' : ∀ o, (w0.alloc o).cell? ⟨w.heap.size, 2, none⟩ = some (.pointer none) := fun o => by rw [World.cell?_alloc_lt _ _ _ (by rw [H0.out.2.2]; simp)]; exact cf2
  have hlb : w.heap.size < w0.heap.size := by rw [H0.out.2.2]; omega
  go_wp2_with fail
  obtain ⟨w1, e1⟩ : ∃ w1, w1 = (w0.alloc (.cells #[.pointer none] 57)).alloc (.cells #[.bool false] 4) := ⟨_, rfl⟩
  try rw [← e1]
  have hb1 : Below w0.heap.size w0 w1 := by rw [e1]; exact ((Below.refl _ _).alloc (Nat.le_refl _) _).alloc (by simp) _
  have ho1 : w1.heap[w0.heap.size]? = some (.cells #[.pointer none] 57 (0, 0)) := by rw [e1]; exact (heap_old _ (by simp)).trans (heap_at _ rfl)
  have hq1 : w1.heap[w0.heap.size + 1]? = some (.cells #[.bool false] 4 (0, 0)) := by rw [e1]; exact heap_at _ (by simp)
  have H1 := Aside0.mk (And.intro (H0.out.1.trans (hb1.mono H0.out.1.size)) (And.intro ((hb1.block _ (lt_of_block H0.out.2.1)).trans H0.out.2.1) (And.intro ho1 hq1)))
  clear hb1 ho1 hq1 e1 cf2' cf1 cf2 hlb
  have HS : Aside0 (∀ w' : World, Below w1.heap.size w1 w' → w'.cell? ⟨w.heap.size, 1, none⟩ = some (.string nm)) := ⟨fun w' hb => by rw [cell_of_block ((hb.block _ (lt_of_block H1.out.2.1)).trans H1.out.2.1)]; rfl⟩
  refine start_ (n := 7) (S := fun w' => w'.cell? ⟨w.heap.size, 1, none⟩ = some (.string nm)) (ds := [6]) #[false, false, false, false, false, false, false] (by kernel_rfl) rfl rfl (HS.out _ (Below.refl _ _).drew) (fun hHeld => ?_)
  refine with_tabW (T := matchA25.T) (B := matchA25.B) matchA25.tab matchA25.bits (fun HT_ HW_ => ?_)
  have HB := Aside0.mk ((Below.refl w1.heap.size w1).drew)
  generalize w1.drew = wc at HB hHeld ⊢
  refine pure_ (i := 0) (N := (some 72)) (v := ?_) (a' := ?_) #[true, false, false, false, false, false, false] rfl rfl (any_of HT_.out (by kernel_rfl)) (fun _ _ _ h => h) (Or.inl ⟨by rfl, ?_⟩) ?_ ?_
  rotate_left
  · intro w'
    go_simp
    with_reducible rfl
  rotate_left
  · simp only [Act.put, List.setIfInBounds_toArray, List.set_cons_zero, List.set_cons_succ, i64_w, i32_w]
    rfl
  refine pure_ (i := 2) (N := (some 74)) (v := ?_) (a' := ?_) #[true, false, true, false, false, false, false] rfl rfl (any_of HT_.out (by kernel_rfl)) (fun _ _ _ h => h) (Or.inl ⟨by rfl, ?_⟩) ?_ ?_
  rotate_left
  · intro w'
    go_simp
    with_reducible rfl
  rotate_left
  · simp only [Act.put, List.setIfInBounds_toArray, List.set_cons_zero, List.set_cons_succ, i64_w, i32_w]
    rfl
  refine pure_ (i := 3) (N := (some 75)) (v := ?_) (a' := ?_) #[true, false, true, true, false, false, false] rfl rfl (any_of HT_.out (by kernel_rfl)) (fun _ _ _ h => h) (Or.inl ⟨by rfl, ?_⟩) ?_ ?_
  rotate_left
  · intro w'
    go_simp
    with_reducible rfl
  rotate_left
  · simp only [Act.put, List.setIfInBounds_toArray, List.set_cons_zero, List.set_cons_succ, i64_w, i32_w]
    rfl
  refine take_ (i := 4) (N := (some 76)) (v := ?_) (a' := ?_) #[true, false, true, true, true, false, false] rfl rfl (take_ofW HT_.out HW_.out (by kernel_rfl)) (fun _ _ _ h => h) (Or.inl ⟨by rfl, ?_⟩) hHeld ?_ ?_
  rotate_left
  · rintro w' s0
    go_simp
    with_reducible rfl
  rotate_left
  · simp only [Act.put, List.setIfInBounds_toArray, List.set_cons_zero, List.set_cons_succ, i64_w, i32_w]
    rfl
  refine two_ (i := 1) (j := 5) (Ni := (some 73)) (Nj := (some 77)) #[true, true, true, true, true, false, false] #[true, false, true, true, true, true, false] rfl rfl rfl rfl (two_of HT_.out (by kernel_rfl)) (by decide) (by decide) (fun K hK => ?_) (fun K hK => ?_)
  · refine goes_ Try.func66 (by kernel_rfl) rfl #[ptr r] (by rfl) rfl rfl (by simp only [List.map_toArray, List.map_cons, List.map_nil]; rfl) ?_
    refine (content_calls wc r b (HR.out.below (H1.out.1.trans (HB.out.mono H1.out.1.size))) 4 t v _ (HN.out.below (H1.out.1.trans (HB.out.mono H1.out.1.size))) HL.out).mono ?_
    rintro e w4 ⟨rfl, rfl⟩
    refine ⟨_, rfl, ?_⟩
    refine hK.out _ _ hHeld (fun hHeld => ?_)
    clear hK K
    refine norm_ (a' := ?_) ?_ ?_
    rotate_left
    · first | (simp only [Act.put, List.setIfInBounds_toArray, List.set_cons_zero, List.set_cons_succ, i64_w, i32_w]; rfl) | rfl
    refine one_ (i := 5) (N := (some 77)) #[true, true, true, true, true, true, false] rfl rfl (one_of HT_.out (by kernel_rfl)) (by decide) (fun K hK => ?_)
    rw [if_pos (by rfl)]
    go_simp
    obtain ⟨wn, g5, e3, eg, _, hb3, hh3, hs3⟩ := alloc_step (Chg.refl (fun _ => False) wc) (.cells #[.string nm] 9)
    rw [e3, eg]
    have HB3 := Aside0.mk (And.intro (HB.out.trans (hb3.mono HB.out.size)) hh3)
    clear HB
    have HB := Aside0.mk HB3.out.1
    have HG5 := Aside0.mk HB3.out.2
    refine hK.out _ _ (HS.out _ HB3.out.1) (fun hHeld => ?_)
    clear e3 hb3 hh3 hs3 HB3
    rename World => wc
    clear hK K
    refine norm_ (a' := ?_) ?_ ?_
    rotate_left
    · first | (simp only [Act.put, List.setIfInBounds_toArray, List.set_cons_zero, List.set_cons_succ, i64_w, i32_w]; rfl) | rfl
    refine last_ (i := 6) (N := (some 78)) #[true, true, true, true, true, true, true] rfl rfl (one_of HT_.out (by kernel_rfl)) (by decide) (fun K hK => ?_)
    refine goes_ Try.func68 (by kernel_rfl) rfl #[.slice A bs.length c, .func (.func 134) #[] #[.pointer (some ⟨w0.heap.size + 1, 0, none⟩), .pointer (some ⟨w.heap.size, 0, none⟩), .pointer (some ⟨w0.heap.size, 0, none⟩)], .slice (some ⟨g5, 0, none⟩) 1 1] (by rfl) rfl rfl (by simp only [List.map_toArray, List.map_cons, List.map_nil]; rfl) ?_
    have hbw : Below w.heap.size w wc := H1.out.1.trans (HB.out.mono H1.out.1.size)
    refine (named_calls wc nm g5 1 A g c ks bs 134 #[.pointer (some ⟨w0.heap.size + 1, 0, none⟩), .pointer (some ⟨w.heap.size, 0, none⟩), .pointer (some ⟨w0.heap.size, 0, none⟩)]
      (fun j w' => Below w.heap.size w w' ∧ w'.heap[w.heap.size]? = some (.cells (fm nm (.pointer none) ⟨#[]⟩ (.pointer none)) 159 (0, 0)) ∧ ∃ rr, w'.heap[w0.heap.size]? = some (.cells #[ptr rr] 57 (0, 0)) ∧ RN0 w' rr (bs.getD (2 * j + 1) 0) ∧ w.heap.size ≤ rr)
      (fun xs wa => enters_ Try.func134 rfl rfl xs wa) HG5.out HM.out.1 HM.out.2.1 HM.out.2.2 (fun i hi => (hbw.cell (World.block_lt_of_cell? w _ (HC.out i hi))).trans (HC.out i hi)) (fun j hj => ?key) (fun j wa hj hwa => ?call)).mono ?_
    case key =>
      obtain ⟨t', cv', h⟩ := HK.out j hj
      exact ⟨t', cv', h.below hbw⟩
    case call =>
      have hw1a : Below w1.heap.size w1 wa := HB.out.trans (hwa.mono HB.out.size)
      refine (mcallA_calls wa _ _ _ _ _ ((hw1a.block _ (lt_of_block H1.out.2.2.2)).trans H1.out.2.2.2) ((hw1a.block _ (lt_of_block H1.out.2.2.1)).trans H1.out.2.2.1)).mono ?_
      rintro e w5 ⟨rfl, rr, h1, h2, h3, h4⟩
      have hba : Below w.heap.size w wa := hbw.trans (hwa.mono hbw.size)
      exact ⟨rfl, hba.trans (h3.below hba.size (fun k e => by have := H0.out.2.2; omega)), (h3.block _ (lt_of_block ((hw1a.block _ (lt_of_block H1.out.2.1)).trans H1.out.2.1)) (by have := H0.out.2.2; omega)).trans ((hw1a.block _ (lt_of_block H1.out.2.1)).trans H1.out.2.1), rr, h1, h2, by have := hba.size; omega⟩
    rintro e w5 ⟨rfl, hq⟩
    have hcase : Below w.heap.size w w5 ∧ w5.heap[w.heap.size]? = some (.cells (fm nm (.pointer none) ⟨#[]⟩ (.pointer none)) 159 (0, 0)) ∧ ∃ p : Option Nat, w5.heap[w0.heap.size]? = some (.cells #[.pointer (p.map fun k => ⟨k, 0, none⟩)] 57 (0, 0)) ∧ ((nm ∉ ks ∧ p = none) ∨ ∃ j rr, ks[j]? = some nm ∧ p = some rr ∧ RN0 w5 rr (bs.getD (2 * j + 1) 0) ∧ w.heap.size ≤ rr) := by
      rcases hq with ⟨h1, h2⟩ | ⟨j, h1, h2, hfb, rr, h3, h4, h5⟩
      · exact ⟨hbw.trans (h2.mono hbw.size), (h2.block _ (Nat.lt_of_lt_of_le (lt_of_block H1.out.2.1) HB.out.size)).trans ((HB.out.block _ (lt_of_block H1.out.2.1)).trans H1.out.2.1), none, (h2.block _ (Nat.lt_of_lt_of_le (lt_of_block H1.out.2.2.1) HB.out.size)).trans ((HB.out.block _ (lt_of_block H1.out.2.2.1)).trans H1.out.2.2.1), .inl ⟨h1, rfl⟩⟩
      · exact ⟨h2, hfb, some rr, h3, .inr ⟨j, rr, h1, rfl, h4, h5⟩⟩
    obtain ⟨hb5, hf5, p5, hp5, hc5⟩ := hcase
    have H5 := Aside0.mk (And.intro hb5 (And.intro hp5 hc5))
    have co : w5.cell? ⟨w0.heap.size, 0, none⟩ = some (.pointer (p5.map fun k => ⟨k, 0, none⟩)) := by rw [cell_of_block hp5]; rfl
    have cc : w5.cell? ⟨w.heap.size, 5, none⟩ = some (.pointer none) := by rw [cell_of_block hf5]; rfl
    clear hb5 hp5 hc5 hq hbw hf5
    refine ⟨_, rfl, ?_⟩
    refine hK.out _ _ ?_
    clear hK K
    refine norm_ (a' := ?_) ?_ ?_
    rotate_left
    · first | (simp only [Act.put, List.setIfInBounds_toArray, List.set_cons_zero, List.set_cons_succ, i64_w, i32_w]; rfl) | rfl
    refine done_ (done_of HT_.out (by kernel_rfl)) ?_
    rcases p5 with _ | p5
    · have H6 : Aside0 (nm ∉ ks) := ⟨by
        rcases H5.out.2.2 with ⟨h, _⟩ | ⟨_, _, _, h, _⟩
        · exact h
        · cases h⟩
      go_wp2_with fail
      refine bodyPost_ret (v := .tuple #[.pointer none, .nilIface]) (by simp [results, Try.results130, go_sem]) rfl ⟨none, rfl, H5.out.1, .inl ⟨H6.out, rfl⟩⟩
    · go_wp2_with fail
      refine bodyPost_ret (v := .tuple #[ptr p5, .nilIface]) (by simp [results, Try.results130, go_sem]) rfl ⟨some p5, rfl, H5.out.1, H5.out.2.2⟩
  · rw [if_pos (by rfl)]
    go_simp
    obtain ⟨wn, g5, e3, eg, _, hb3, hh3, hs3⟩ := alloc_step (Chg.refl (fun _ => False) wc) (.cells #[.string nm] 9)
    rw [e3, eg]
    have HB3 := Aside0.mk (And.intro (HB.out.trans (hb3.mono HB.out.size)) hh3)
    clear HB
    have HB := Aside0.mk HB3.out.1
    have HG5 := Aside0.mk HB3.out.2
    refine hK.out _ _ (HS.out _ HB3.out.1) (fun hHeld => ?_)
    clear e3 hb3 hh3 hs3 HB3
    rename World => wc
    clear hK K
    refine norm_ (a' := ?_) ?_ ?_
    rotate_left
    · first | (simp only [Act.put, List.setIfInBounds_toArray, List.set_cons_zero, List.set_cons_succ, i64_w, i32_w]; rfl) | rfl
    refine one_ (i := 1) (N := (some 73)) #[true, true, true, true, true, true, false] rfl rfl (one_of HT_.out (by kernel_rfl)) (by decide) (fun K hK => ?_)
    refine goes_ Try.func66 (by kernel_rfl) rfl #[ptr r] (by rfl) rfl rfl (by simp only [List.map_toArray, List.map_cons, List.map_nil]; rfl) ?_
    refine (content_calls wc r b (HR.out.below (H1.out.1.trans (HB.out.mono H1.out.1.size))) 4 t v _ (HN.out.below (H1.out.1.trans (HB.out.mono H1.out.1.size))) HL.out).mono ?_
    rintro e w4 ⟨rfl, rfl⟩
    refine ⟨_, rfl, ?_⟩
    refine hK.out _ _ hHeld (fun hHeld => ?_)
    clear hK K
    refine norm_ (a' := ?_) ?_ ?_
    rotate_left
    · first | (simp only [Act.put, List.setIfInBounds_toArray, List.set_cons_zero, List.set_cons_succ, i64_w, i32_w]; rfl) | rfl
    refine last_ (i := 6) (N := (some 78)) #[true, true, true, true, true, true, true] rfl rfl (one_of HT_.out (by kernel_rfl)) (by decide) (fun K hK => ?_)
    refine goes_ Try.func68 (by kernel_rfl) rfl #[.slice A bs.length c, .func (.func 134) #[] #[.pointer (some ⟨w0.heap.size + 1, 0, none⟩), .pointer (some ⟨w.heap.size, 0, none⟩), .pointer (some ⟨w0.heap.size, 0, none⟩)], .slice (some ⟨g5, 0, none⟩) 1 1] (by rfl) rfl rfl (by simp only [List.map_toArray, List.map_cons, List.map_nil]; rfl) ?_
    have hbw : Below w.heap.size w wc := H1.out.1.trans (HB.out.mono H1.out.1.size)
    refine (named_calls wc nm g5 1 A g c ks bs 134 #[.pointer (some ⟨w0.heap.size + 1, 0, none⟩), .pointer (some ⟨w.heap.size, 0, none⟩), .pointer (some ⟨w0.heap.size, 0, none⟩)]
      (fun j w' => Below w.heap.size w w' ∧ w'.heap[w.heap.size]? = some (.cells (fm nm (.pointer none) ⟨#[]⟩ (.pointer none)) 159 (0, 0)) ∧ ∃ rr, w'.heap[w0.heap.size]? = some (.cells #[ptr rr] 57 (0, 0)) ∧ RN0 w' rr (bs.getD (2 * j + 1) 0) ∧ w.heap.size ≤ rr)
      (fun xs wa => enters_ Try.func134 rfl rfl xs wa) HG5.out HM.out.1 HM.out.2.1 HM.out.2.2 (fun i hi => (hbw.cell (World.block_lt_of_cell? w _ (HC.out i hi))).trans (HC.out i hi)) (fun j hj => ?key) (fun j wa hj hwa => ?call)).mono ?_
    case key =>
      obtain ⟨t', cv', h⟩ := HK.out j hj
      exact ⟨t', cv', h.below hbw⟩
    case call =>
      have hw1a : Below w1.heap.size w1 wa := HB.out.trans (hwa.mono HB.out.size)
      refine (mcallA_calls wa _ _ _ _ _ ((hw1a.block _ (lt_of_block H1.out.2.2.2)).trans H1.out.2.2.2) ((hw1a.block _ (lt_of_block H1.out.2.2.1)).trans H1.out.2.2.1)).mono ?_
      rintro e w5 ⟨rfl, rr, h1, h2, h3, h4⟩
      have hba : Below w.heap.size w wa := hbw.trans (hwa.mono hbw.size)
      exact ⟨rfl, hba.trans (h3.below hba.size (fun k e => by have := H0.out.2.2; omega)), (h3.block _ (lt_of_block ((hw1a.block _ (lt_of_block H1.out.2.1)).trans H1.out.2.1)) (by have := H0.out.2.2; omega)).trans ((hw1a.block _ (lt_of_block H1.out.2.1)).trans H1.out.2.1), rr, h1, h2, by have := hba.size; omega⟩
    rintro e w5 ⟨rfl, hq⟩
    have hcase : Below w.heap.size w w5 ∧ w5.heap[w.heap.size]? = some (.cells (fm nm (.pointer none) ⟨#[]⟩ (.pointer none)) 159 (0, 0)) ∧ ∃ p : Option Nat, w5.heap[w0.heap.size]? = some (.cells #[.pointer (p.map fun k => ⟨k, 0, none⟩)] 57 (0, 0)) ∧ ((nm ∉ ks ∧ p = none) ∨ ∃ j rr, ks[j]? = some nm ∧ p = some rr ∧ RN0 w5 rr (bs.getD (2 * j + 1) 0) ∧ w.heap.size ≤ rr) := by
      rcases hq with ⟨h1, h2⟩ | ⟨j, h1, h2, hfb, rr, h3, h4, h5⟩
      · exact ⟨hbw.trans (h2.mono hbw.size), (h2.block _ (Nat.lt_of_lt_of_le (lt_of_block H1.out.2.1) HB.out.size)).trans ((HB.out.block _ (lt_of_block H1.out.2.1)).trans H1.out.2.1), none, (h2.block _ (Nat.lt_of_lt_of_le (lt_of_block H1.out.2.2.1) HB.out.size)).trans ((HB.out.block _ (lt_of_block H1.out.2.2.1)).trans H1.out.2.2.1), .inl ⟨h1, rfl⟩⟩
      · exact ⟨h2, hfb, some rr, h3, .inr ⟨j, rr, h1, rfl, h4, h5⟩⟩
    obtain ⟨hb5, hf5, p5, hp5, hc5⟩ := hcase
    have H5 := Aside0.mk (And.intro hb5 (And.intro hp5 hc5))
    have co : w5.cell? ⟨w0.heap.size, 0, none⟩ = some (.pointer (p5.map fun k => ⟨k, 0, none⟩)) := by rw [cell_of_block hp5]; rfl
    have cc : w5.cell? ⟨w.heap.size, 5, none⟩ = some (.pointer none) := by rw [cell_of_block hf5]; rfl
    clear hb5 hp5 hc5 hq hbw hf5
    refine ⟨_, rfl, ?_⟩
    refine hK.out _ _ ?_
    clear hK K
    refine norm_ (a' := ?_) ?_ ?_
    rotate_left
    · first | (simp only [Act.put, List.setIfInBounds_toArray, List.set_cons_zero, List.set_cons_succ, i64_w, i32_w]; rfl) | rfl
    refine done_ (done_of HT_.out (by kernel_rfl)) ?_
    rcases p5 with _ | p5
    · have H6 : Aside0 (nm ∉ ks) := ⟨by
        rcases H5.out.2.2 with ⟨h, _⟩ | ⟨_, _, _, h, _⟩
        · exact h
        · cases h⟩
      go_wp2_with fail
      refine bodyPost_ret (v := .tuple #[.pointer none, .nilIface]) (by simp [results, Try.results130, go_sem]) rfl ⟨none, rfl, H5.out.1, .inl ⟨H6.out, rfl⟩⟩
    · go_wp2_with fail
      refine bodyPost_ret (v := .tuple #[ptr p5, .nilIface]) (by simp [results, Try.results130, go_sem]) rfl ⟨some p5, rfl, H5.out.1, H5.out.2.2⟩
end Go.Proofs.Ytigpgkfgkjabmaa
