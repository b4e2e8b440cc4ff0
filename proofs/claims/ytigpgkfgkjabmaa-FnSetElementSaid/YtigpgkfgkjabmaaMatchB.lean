/-
  FieldMatcher.Filter: a map's field by its name and its text.
-/
import Derived.Test.YtigpgkfgkjabmaaMatch
namespace Go.Proofs.Ytigpgkfgkjabmaa
open Go.RowKit Go.Proofs.YtigpgkfgkjabmaaW.PrintWords Go.Proofs.YtigpgkfgkjabmaaW.PrintLast Go.Proofs.Ytigpgkfgkjabmaa.PFnFields
set_option linter.unusedVariables false
set_option linter.unusedSimpArgs false

theorem live8 : Live 8 ⟨#[]⟩ := ⟨rfl, by rw [ByteArray.toList_eq]; rfl⟩
/-- A scalar of its own. -/
def Scal (w : World) (base rv nv : Nat) (s : ByteArray) : Prop := RN w rv nv ∧ NB w nv 8 ⟨#[]⟩ s (.slice none 0 0) ∧ base ≤ rv ∧ base ≤ nv
theorem Scal.move {w w' : World} {base rv nv : Nat} {s : ByteArray} (h : Scal w base rv nv s) (hb : Below w.heap.size w w') : Scal w' base rv nv s := ⟨h.1.below hb, h.2.1.below hb, h.2.2⟩
theorem newscalar_calls (w : World) (s : ByteArray) : Calls Try.prog 119 #[.string s] w fun e w' => ∃ rv nv, e = .returned (ptr rv) ∧ Scal w' w.heap.size rv nv s ∧ Below w.heap.size w w' := by
  go_enter Try.func119, Try.ntmps119
  go_wp2
  go_ret
  refine ⟨w.heap.size + 1, w.heap.size, rfl, ⟨⟨_, _, _, heap_at _ (by simp)⟩, ?_, by omega, Nat.le_refl _⟩, ((Below.refl _ _).alloc (Nat.le_refl _) _).alloc (by simp) _⟩
  exact (heap_old _ (by simp)).trans (heap_at _ rfl)
def mcallB0.T : Bool × List (List Nat × List Nat) := (true, [([], []), ([0], [0]), ([1], [1]), ([2], [2]), ([3, 2], [2, 3]), ([4, 2], [2, 4]), ([5, 2], [2, 5]), ([2], [2]), ([7, 2], [2, 7]), ([8, 2, 2], [2, 8]), ([9, 2], [2, 9]), ([10, 2], [2, 10]), ([11, 2], [2, 11]), ([6, 12, 2], [2, 6, 12]), ([2, 13], [2, 13])])
def mcallB0.B : List Nat := [0, 1, 3, 7, 15, 31, 63, 7, 135, 391, 903, 1927, 3975, 8191, 16383]
theorem mcallB0.tab : rtab .any (opsOf Try.f134 0) = mcallB0.T := by kernel_rfl
theorem mcallB0.bits : waitsOk mcallB0.T.2 mcallB0.B = true := by kernel_rfl
def matchB25.T : Bool × List (List Nat × List Nat) := (true, [([], []), ([0], [0]), ([], []), ([], []), ([3], [3]), ([4], [4]), ([1, 2, 5, 1], [1, 2, 5])])
def matchB25.B : List Nat := [0, 1, 0, 0, 8, 24, 63]
theorem matchB25.tab : rtab .any (opsOf Try.f130 25) = matchB25.T := by kernel_rfl
theorem matchB25.bits : waitsOk matchB25.T.2 matchB25.B = true := by kernel_rfl
def McallPost (w : World) (vb o : Nat) (vv sv : ByteArray) (e : Ending) (w' : World) : Prop :=
  e = .returned (.tuple #[]) ∧ ((vv ≠ sv ∧ Below w.heap.size w w') ∨ (vv = sv ∧ ∃ rr, w'.heap[o]? = some (.cells #[ptr rr] 57 (0, 0)) ∧ RN w' rr vb ∧ Chg (fun k => k = o) w w' ∧ w.heap.size ≤ rr))
set_option maxRecDepth 100000 in
theorem mcallB_calls (w : World) (kb vb rq fb o rv nv base : Nat) (nm sv vv : ByteArray) (C : Value) (k : Int) (t : ByteArray) (cv : Value) (hq : w.heap[rq]? = some (.cells #[.bool true] 4 (0, 0))) (hf : w.heap[fb]? = some (.cells (fm nm (ptr rv) sv C) 159 (0, 0)))
    (hs : Scal w base rv nv sv) (hv : NB w vb k t vv cv) (ho : w.heap[o]? = some (.cells #[.pointer none] 57 (0, 0))) :
    Calls Try.prog 134 #[ptr kb, ptr vb, .pointer (some ⟨rq, 0, none⟩), .pointer (some ⟨fb, 0, none⟩), .pointer (some ⟨o, 0, none⟩)] w (McallPost w vb o vv sv) := by
  have cq : w.cell? ⟨rq, 0, none⟩ = some (.bool true) := by rw [cell_of_block hq]; rfl
  have cf : w.cell? ⟨fb, 2, none⟩ = some (ptr rv) := by rw [cell_of_block hf]; rfl
  have HC := Aside0.mk (And.intro cq (And.intro hv.value (And.intro cf hs.2.1.value)))
  have HO := Aside0.mk ho
  have HS := Aside0.mk hs
  clear hq hf hs hv ho cq cf
  go_enter Try.func134, Try.ntmps134
  go_wp2_with fail
  refine start_ (n := 15) (S := fun w' => w'.cell? ⟨rq, 0, none⟩ = some (.bool true) ∧ w'.cell? ⟨vb, 3, none⟩ = some (.string vv) ∧ w'.cell? ⟨fb, 2, none⟩ = some (ptr rv) ∧ w'.cell? ⟨nv, 3, none⟩ = some (.string sv)) (ds := []) #[false, false, false, false, false, false, false, false, false, false, false, false, false, false, false] (by kernel_rfl) rfl rfl HC.out (fun hHeld => ?_)
  refine with_tabW (T := mcallB0.T) (B := mcallB0.B) mcallB0.tab mcallB0.bits (fun HT_ HW_ => ?_)
  refine take_ (i := 0) (N := (some 7)) (v := ?_) (a' := ?_) #[true, false, false, false, false, false, false, false, false, false, false, false, false, false, false] rfl rfl (take_ofW HT_.out HW_.out (by kernel_rfl)) (fun _ _ _ h => h) (Or.inl ⟨by rfl, ?_⟩) hHeld ?_ ?_
  rotate_left
  · rintro w' ⟨s0, s1, s2, s3⟩
    go_simp
    with_reducible rfl
  rotate_left
  · simp only [Act.put, List.setIfInBounds_toArray, List.set_cons_zero, List.set_cons_succ, i64_w, i32_w]
    rfl
  refine pure_ (i := 1) (N := (some 8)) (v := ?_) (a' := ?_) #[true, true, false, false, false, false, false, false, false, false, false, false, false, false, false] rfl rfl (any_of HT_.out (by kernel_rfl)) (fun _ _ _ h => h) (Or.inl ⟨by rfl, ?_⟩) ?_ ?_
  rotate_left
  · intro w'
    go_simp
    with_reducible rfl
  rotate_left
  · simp only [Act.put, List.setIfInBounds_toArray, List.set_cons_zero, List.set_cons_succ, i64_w, i32_w]
    rfl
  refine pure_ (i := 2) (N := (some 9)) (v := ?_) (a' := ?_) #[true, true, true, false, false, false, false, false, false, false, false, false, false, false, false] rfl rfl (any_of HT_.out (by kernel_rfl)) (fun _ _ _ h => h) (Or.inl ⟨by rfl, ?_⟩) ?_ ?_
  rotate_left
  · intro w'
    go_simp
    with_reducible rfl
  rotate_left
  · simp only [Act.put, List.setIfInBounds_toArray, List.set_cons_zero, List.set_cons_succ, i64_w, i32_w]
    rfl
  refine pure_ (i := 3) (N := (some 10)) (v := ?_) (a' := ?_) #[true, true, true, true, false, false, false, false, false, false, false, false, false, false, false] rfl rfl (any_of HT_.out (by kernel_rfl)) (fun _ _ _ h => h) (Or.inl ⟨by rfl, ?_⟩) ?_ ?_
  rotate_left
  · intro w'
    go_simp
    with_reducible rfl
  rotate_left
  · simp only [Act.put, List.setIfInBounds_toArray, List.set_cons_zero, List.set_cons_succ, i64_w, i32_w]
    rfl
  refine pure_ (i := 4) (N := (some 11)) (v := ?_) (a' := ?_) #[true, true, true, true, true, false, false, false, false, false, false, false, false, false, false] rfl rfl (any_of HT_.out (by kernel_rfl)) (fun _ _ _ h => h) (Or.inl ⟨by rfl, ?_⟩) ?_ ?_
  rotate_left
  · intro w'
    go_simp
    with_reducible rfl
  rotate_left
  · simp only [Act.put, List.setIfInBounds_toArray, List.set_cons_zero, List.set_cons_succ, i64_w, i32_w]
    rfl
  refine pure_ (i := 5) (N := (some 12)) (v := ?_) (a' := ?_) #[true, true, true, true, true, true, false, false, false, false, false, false, false, false, false] rfl rfl (any_of HT_.out (by kernel_rfl)) (fun _ _ _ h => h) (Or.inl ⟨by rfl, ?_⟩) ?_ ?_
  rotate_left
  · intro w'
    go_simp
    with_reducible rfl
  rotate_left
  · simp only [Act.put, List.setIfInBounds_toArray, List.set_cons_zero, List.set_cons_succ, i64_w, i32_w]
    rfl
  refine pure_ (i := 7) (N := (some 14)) (v := ?_) (a' := ?_) #[true, true, true, true, true, true, false, true, false, false, false, false, false, false, false] rfl rfl (any_of HT_.out (by kernel_rfl)) (fun _ _ _ h => h) (Or.inl ⟨by rfl, ?_⟩) ?_ ?_
  rotate_left
  · intro w'
    go_simp
    with_reducible rfl
  rotate_left
  · simp only [Act.put, List.setIfInBounds_toArray, List.set_cons_zero, List.set_cons_succ, i64_w, i32_w]
    rfl
  refine take_ (i := 6) (N := (some 13)) (v := ?_) (a' := ?_) #[true, true, true, true, true, true, true, true, false, false, false, false, false, false, false] rfl rfl (take_ofW HT_.out HW_.out (by kernel_rfl)) (fun _ _ _ h => h) (Or.inl ⟨by rfl, ?_⟩) hHeld ?_ ?_
  rotate_left
  · rintro w' ⟨s0, s1, s2, s3⟩
    go_simp
    with_reducible rfl
  rotate_left
  · simp only [Act.put, List.setIfInBounds_toArray, List.set_cons_zero, List.set_cons_succ, i64_w, i32_w]
    rfl
  refine take_ (i := 8) (N := (some 15)) (v := ?_) (a' := ?_) #[true, true, true, true, true, true, true, true, true, false, false, false, false, false, false] rfl rfl (take_ofW HT_.out HW_.out (by kernel_rfl)) (fun _ _ _ h => h) (Or.inl ⟨by rfl, ?_⟩) hHeld ?_ ?_
  rotate_left
  · rintro w' ⟨s0, s1, s2, s3⟩
    go_simp
    with_reducible rfl
  rotate_left
  · simp only [Act.put, List.setIfInBounds_toArray, List.set_cons_zero, List.set_cons_succ, i64_w, i32_w]
    rfl
  refine one_ (i := 9) (N := (some 16)) #[true, true, true, true, true, true, true, true, true, true, false, false, false, false, false] rfl rfl (one_of HT_.out (by kernel_rfl)) (by decide) (fun K hK => ?_)
  refine goes_ Try.func72 (by kernel_rfl) rfl #[ptr rv] (by rfl) rfl rfl (by simp only [List.map_toArray, List.map_cons, List.map_nil]; rfl) ?_
  refine (ynode_calls w.drew rv nv (HS.out.1.below (Below.refl _ _).drew) 8 ⟨#[]⟩ sv _ (HS.out.2.1.below (Below.refl _ _).drew) live8).mono ?_
  rintro e w4 ⟨rfl, rfl⟩
  refine ⟨_, rfl, ?_⟩
  refine hK.out _ _ hHeld (fun hHeld => ?_)
  clear hK K
  refine norm_ (a' := ?_) ?_ ?_
  rotate_left
  · first | (simp only [Act.put, List.setIfInBounds_toArray, List.set_cons_zero, List.set_cons_succ, i64_w, i32_w]; rfl) | rfl
  refine pure_ (i := 10) (N := (some 17)) (v := ?_) (a' := ?_) #[true, true, true, true, true, true, true, true, true, true, true, false, false, false, false] rfl rfl (any_of HT_.out (by kernel_rfl)) (fun _ _ _ h => h) (Or.inl ⟨by rfl, ?_⟩) ?_ ?_
  rotate_left
  · intro w'
    go_simp
    with_reducible rfl
  rotate_left
  · simp only [Act.put, List.setIfInBounds_toArray, List.set_cons_zero, List.set_cons_succ, i64_w, i32_w]
    rfl
  refine pure_ (i := 11) (N := (some 18)) (v := ?_) (a' := ?_) #[true, true, true, true, true, true, true, true, true, true, true, true, false, false, false] rfl rfl (any_of HT_.out (by kernel_rfl)) (fun _ _ _ h => h) (Or.inl ⟨by rfl, ?_⟩) ?_ ?_
  rotate_left
  · intro w'
    go_simp
    with_reducible rfl
  rotate_left
  · simp only [Act.put, List.setIfInBounds_toArray, List.set_cons_zero, List.set_cons_succ, i64_w, i32_w]
    rfl
  refine take_ (i := 12) (N := (some 19)) (v := ?_) (a' := ?_) #[true, true, true, true, true, true, true, true, true, true, true, true, true, false, false] rfl rfl (take_ofW HT_.out HW_.out (by kernel_rfl)) (fun _ _ _ h => h) (Or.inl ⟨by rfl, ?_⟩) hHeld ?_ ?_
  rotate_left
  · rintro w' ⟨s0, s1, s2, s3⟩
    go_simp
    with_reducible rfl
  rotate_left
  · simp only [Act.put, List.setIfInBounds_toArray, List.set_cons_zero, List.set_cons_succ, i64_w, i32_w]
    rfl
  refine pure_ (i := 13) (N := (some 20)) (v := ?_) (a' := ?_) #[true, true, true, true, true, true, true, true, true, true, true, true, true, true, false] rfl rfl (any_of HT_.out (by kernel_rfl)) (fun _ _ _ h => h) (Or.inl ⟨by rfl, ?_⟩) ?_ ?_
  rotate_left
  · intro w'
    go_simp
    with_reducible rfl
  rotate_left
  · simp only [Act.put, List.setIfInBounds_toArray, List.set_cons_zero, List.set_cons_succ, i64_w, i32_w]
    rfl
  refine pure_ (i := 14) (N := (some 21)) (v := ?_) (a' := ?_) #[true, true, true, true, true, true, true, true, true, true, true, true, true, true, true] rfl rfl (any_of HT_.out (by kernel_rfl)) (fun _ _ _ h => h) (Or.inl ⟨by rfl, ?_⟩) ?_ ?_
  rotate_left
  · intro w'
    go_simp
    with_reducible rfl
  rotate_left
  · simp only [Act.put, List.setIfInBounds_toArray, List.set_cons_zero, List.set_cons_succ, i64_w, i32_w]
    rfl
  refine done_ (done_of HT_.out (by kernel_rfl)) ?_
  have HD : Aside0 (w.drew.heap[o]? = some (.cells #[.pointer none] 57 (0, 0)) ∧ Chg (fun k => k = o) w w.drew ∧ w.drew.heap.size = w.heap.size ∧ Below w.heap.size w w.drew) := ⟨HO.out, (Chg.refl _ w).drew, rfl, (Below.refl _ _).drew⟩
  generalize w.drew = wd at *
  by_cases hvs : vv = sv
  rotate_left
  · have hvb : (vv.toList == sv.toList) = false := by rw [beq_eq_false_iff_ne]; exact fun e => hvs (bytes_ext e)
    rw [hvb]
    go_wp2_with fail
    refine ⟨rfl, .tuple #[], ?_, ?_⟩
    · simp [results, Try.results134, go_sem]
    · exact ⟨rfl, .inl ⟨hvs, HD.out.2.2.2⟩⟩
  have hvb : (vv.toList == sv.toList) = true := by rw [hvs]; simp
  rw [hvb]
  clear hvb
  have HVS := Aside0.mk hvs
  clear hvs
  go_wp2_with fail
  refine (newrnode_calls wd vb).mono ?_
  rintro e w1 ⟨rfl, rfl⟩
  have hb1 : Below wd.heap.size wd (wd.alloc (.cells (rcells (.slice none 0 0) (ptr vb) false (.slice none 0 0)) 124)) := (Below.refl _ _).alloc (Nat.le_refl _) _
  have hr1 := RN.new wd vb
  generalize wd.alloc (.cells (rcells (.slice none 0 0) (ptr vb) false (.slice none 0 0)) 124) = w1 at hb1 hr1 ⊢
  have ho1 := (hb1.block _ (lt_of_block HD.out.1)).trans HD.out.1
  have hlo := lt_of_block HD.out.1
  have H1 := Aside0.mk (And.intro hb1 (And.intro hr1 (And.intro ho1 hlo)))
  have co : w1.cell? ⟨o, 0, none⟩ = some (.pointer none) := by rw [cell_of_block ho1]; rfl
  have zo : w1.frozen? ⟨o, 0, none⟩ = false := frozen_of_block ho1
  clear hb1 hr1 ho1 hlo
  go_wp2_with fail
  obtain ⟨w2, e2⟩ : ∃ w2, w2 = w1.setCell ⟨o, 0, none⟩ (ptr wd.heap.size) := ⟨_, rfl⟩
  try rw [← e2]
  have ho2 : w2.heap[o]? = some (.cells #[ptr wd.heap.size] 57 (0, 0)) := by rw [e2]; exact heap_set (a := ⟨o, 0, none⟩) H1.out.2.2.1 rfl
  have hc2 : Chg (fun k => k = o) w1 w2 := by rw [e2]; exact (Chg.refl (fun k => k = o) w1).setCell (p := ⟨o, 0, none⟩) (.inl rfl) _
  refine ⟨rfl, .tuple #[], ?_, ?_⟩
  · simp [results, Try.results134, go_sem]
  · refine ⟨rfl, .inr ⟨HVS.out, wd.heap.size, ?_, ?_, ?_, ?_⟩⟩
    · first | exact ho2 | (rw [← e2]; exact ho2)
    · first | exact H1.out.2.1.move (fun hlt => hc2.block _ hlt (by have := H1.out.2.2.2; omega)) | (rw [← e2]; exact H1.out.2.1.move (fun hlt => hc2.block _ hlt (by have := H1.out.2.2.2; omega)))
    · first | exact (HD.out.2.1.trans (Chg.of_below H1.out.1) (fun _ (q : False) => q.elim)).trans hc2 (fun k q => .inl q) | (rw [← e2]; exact (HD.out.2.1.trans (Chg.of_below H1.out.1) (fun _ (q : False) => q.elim)).trans hc2 (fun k q => .inl q))
    · have := HD.out.2.2.1; omega
/-- What the matcher hands back of a map whose values have the texts vt. -/
def MatchBPost (w : World) (ks : List ByteArray) (nm sv : ByteArray) (vt : Nat → ByteArray) (o : Option Nat) (w' : World) : Prop :=
  Below w.heap.size w w' ∧ ((o = none ∧ (nm ∉ ks ∨ ∃ j, ks[j]? = some nm ∧ vt j ≠ sv)) ∨ ∃ j rr, ks[j]? = some nm ∧ vt j = sv ∧ o = some rr)
set_option maxRecDepth 100000 in
set_option maxHeartbeats 1600000 in
theorem matchB_calls (w : World) (r b : Nat) (t v : ByteArray) (A : Option Addr) (g c : Nat) (nm sv : ByteArray) (ks : List ByteArray) (bs : List Nat) (vt : Nat → ByteArray) (hne : nm.toList.isEmpty = false) (hnes : sv.toList.isEmpty = false) (hr : RN w r b) (hn : NB w b 4 t v (.slice A bs.length c)) (hl : Live 4 t)
    (hA : 0 < ks.length → A = some ⟨g, 0, none⟩) (hm : bs.length = 2 * ks.length) (hb : ks.length ≤ 1000) (hcell : ∀ i (h : i < bs.length), w.cell? ⟨g, i, none⟩ = some (ptr bs[i]))
    (hkey : ∀ j (h : j < ks.length), ∃ t cv, NB w (bs.getD (2 * j) 0) 8 t ks[j] cv) (hval : ∀ j (h : j < ks.length), ∃ k t cv, NB w (bs.getD (2 * j + 1) 0) k t (vt j) cv) :
    Calls Try.prog 130 #[.agg (fm nm (.pointer none) sv (.pointer none)), ptr r] w (FilterPost (MatchBPost w ks nm sv vt)) := by
  have hmf : ∀ (fn : Fn) (first cap : Array Value) (w : World), (Instr.makeFunc fn first cap).run Try.prog w = .ok (.func fn first cap) w := fun _ _ _ _ => rfl
  have HR := Aside0.mk hr
  have HN := Aside0.mk hn
  have HL := Aside0.mk hl
  have HC := Aside0.mk hcell
  have HK := Aside0.mk (And.intro hkey hval)
  have HM := Aside0.mk (And.intro hA (And.intro hm hb))
  clear hr hn hl hcell hkey hval hA hm hb
  go_enter Try.func130, Try.ntmps130
  go_wp2_with fail
  obtain ⟨wz, ez⟩ : ∃ wz, wz = w.alloc (.cells (fm nm (.pointer none) sv (.pointer none)) 159) := ⟨_, rfl⟩
  rw [← ez]
  have hbz : Below w.heap.size w wz := by rw [ez]; exact (Below.refl _ _).alloc (Nat.le_refl _) _
  have hfz : wz.heap[w.heap.size]? = some (.cells (fm nm (.pointer none) sv (.pointer none)) 159 (0, 0)) := by rw [ez]; exact heap_at _ rfl
  clear ez
  refine (newscalar_calls wz sv).mono ?_
  rintro e wy ⟨rv, nv, rfl, hsc, hby⟩
  have hfy := (hby.block _ (lt_of_block hfz)).trans hfz
  have HZ := Aside0.mk (And.intro (hbz.trans (hby.mono hbz.size)) (And.intro hfy (And.intro hsc (lt_of_block hfz))))
  have cf2 : wy.cell? ⟨w.heap.size, 2, none⟩ = some (.pointer none) := by rw [cell_of_block hfy]; rfl
  have zf2 : wy.frozen? ⟨w.heap.size, 2, none⟩ = false := frozen_of_block hfy
  clear hbz hfz hsc hby hfy
  go_wp2_with fail
  obtain ⟨w0, e0⟩ : ∃ w0, w0 = wy.setCell ⟨w.heap.size, 2, none⟩ (ptr rv) := ⟨_, rfl⟩
  rw [← e0]
  have hc0 : Chg (fun k => k = w.heap.size) wy w0 := by rw [e0]; exact (Chg.refl (fun k => k = w.heap.size) wy).setCell (p := ⟨w.heap.size, 2, none⟩) (.inl rfl) _
  have hb0 : Below w.heap.size w w0 := HZ.out.1.trans (hc0.below HZ.out.1.size (fun k e => by omega))
  have hf0 : w0.heap[w.heap.size]? = some (.cells (fm nm (ptr rv) sv (.pointer none)) 159 (0, 0)) := by rw [e0]; exact heap_set (a := ⟨w.heap.size, 2, none⟩) HZ.out.2.1 rfl
  have hs0 : w.heap.size + 1 ≤ w0.heap.size := lt_of_block hf0
  have hsc0 : Scal w0 (w.heap.size + 1) rv nv sv := by
    have h := HZ.out.2.2
    refine ⟨h.1.1.move (fun hlt => hc0.block _ hlt (fun e => ?_)), ?_, ?_, ?_⟩
    · have := h.1.2.2.1; have h2 := h.2; omega
    · exact (hc0.block _ (lt_of_block h.1.2.1) (fun e => by have := h.1.2.2.2; have h2 := h.2; omega)).trans h.1.2.1
    · have := h.1.2.2.1; have h2 := h.2; omega
    · have := h.1.2.2.2; have h2 := h.2; omega
  have H0 := Aside0.mk (And.intro hb0 (And.intro hf0 (And.intro hs0 hsc0)))
  clear hb0 hf0 hs0 hsc0 e0 hc0 cf2 zf2 HZ
  refine (missing_calls w0 r b (HR.out.below H0.out.1) 4 t v _ (HN.out.below H0.out.1) HL.out).mono ?_
  rintro e w1 ⟨rfl, rfl⟩
  have cf1 : w0.cell? ⟨w.heap.size, 1, none⟩ = some (.string nm) := by rw [cell_of_block H0.out.2.1]; rfl
  have cf2 : w0.cell? ⟨w.heap.size, 2, none⟩ = some (ptr rv) := by rw [cell_of_block H0.out.2.1]; rfl
  go_wp2_with fail
  refine (valid_calls w0 r b (HR.out.below H0.out.1) 4 t v A bs.length c (HN.out.below H0.out.1) HL.out (fun _ => by have := HM.out; omega) (by have := HM.out; omega)).mono ?_
  rintro e w1 ⟨rfl, rfl⟩
  have cf2' : ∀ o, (w0.alloc o).cell? ⟨w.heap.size, 2, none⟩ = some (ptr rv) := fun o => by rw [World.cell?_alloc_lt _ _ _ (by have := H0.out.2.2.1; show w.heap.size < _; omega)]; exact cf2
  go_wp2_with fail
  obtain ⟨w1, e1⟩ : ∃ w1, w1 = (w0.alloc (.cells #[.pointer none] 57)).alloc (.cells #[.bool true] 4) := ⟨_, rfl⟩
  try rw [← e1]
  have hb1 : Below w0.heap.size w0 w1 := by rw [e1]; exact ((Below.refl _ _).alloc (Nat.le_refl _) _).alloc (by simp) _
  have ho1 : w1.heap[w0.heap.size]? = some (.cells #[.pointer none] 57 (0, 0)) := by rw [e1]; exact (heap_old _ (by simp)).trans (heap_at _ rfl)
  have hq1 : w1.heap[w0.heap.size + 1]? = some (.cells #[.bool true] 4 (0, 0)) := by rw [e1]; exact heap_at _ (by simp)
  have H1 := Aside0.mk (And.intro (H0.out.1.trans (hb1.mono H0.out.1.size)) (And.intro ((hb1.block _ (lt_of_block H0.out.2.1)).trans H0.out.2.1) (And.intro ho1 (And.intro hq1 (H0.out.2.2.2.move hb1)))))
  clear hb1 ho1 hq1 e1 cf2' cf1 cf2
  have HS : Aside0 (∀ w' : World, Below w1.heap.size w1 w' → w'.cell? ⟨w.heap.size, 1, none⟩ = some (.string nm)) := ⟨fun w' hb => by rw [cell_of_block ((hb.block _ (lt_of_block H1.out.2.1)).trans H1.out.2.1)]; rfl⟩
  refine start_ (n := 7) (S := fun w' => w'.cell? ⟨w.heap.size, 1, none⟩ = some (.string nm)) (ds := [6]) #[false, false, false, false, false, false, false] (by kernel_rfl) rfl rfl (HS.out _ (Below.refl _ _).drew) (fun hHeld => ?_)
  refine with_tabW (T := matchB25.T) (B := matchB25.B) matchB25.tab matchB25.bits (fun HT_ HW_ => ?_)
  have HB := Aside0.mk ((Below.refl w1.heap.size w1).drew)
  generalize w1.drew = wc at HB hHeld ⊢
  refine pure_ (i := 0) (N := (some 72)) (v := ?_) (a' := ?_) #[true, false, false, false, false, false, false] rfl rfl (any_of HT_.out (by kernel_rfl)) (fun _ _ _ h => h) (Or.inl ⟨by rfl, ?_⟩) ?_ ?_
  rotate_left
  · intro w'
    go_simp
    with_reducible rfl
  rotate_left
  · simp only [Act.put, List.setIfInBounds_toArray, List.set_cons_zero, List.set_cons_succ, i64_w, i32_w]
    rfl
  refine pure_ (i := 2) (N := (some 74)) (v := ?_) (a' := ?_) #[true, false, true, false, false, false, false] rfl rfl (any_of HT_.out (by kernel_rfl)) (fun _ _ _ h => h) (Or.inl ⟨by rfl, ?_⟩) ?_ ?_
  rotate_left
  · intro w'
    go_simp
    with_reducible rfl
  rotate_left
  · simp only [Act.put, List.setIfInBounds_toArray, List.set_cons_zero, List.set_cons_succ, i64_w, i32_w]
    rfl
  refine pure_ (i := 3) (N := (some 75)) (v := ?_) (a' := ?_) #[true, false, true, true, false, false, false] rfl rfl (any_of HT_.out (by kernel_rfl)) (fun _ _ _ h => h) (Or.inl ⟨by rfl, ?_⟩) ?_ ?_
  rotate_left
  · intro w'
    go_simp
    with_reducible rfl
  rotate_left
  · simp only [Act.put, List.setIfInBounds_toArray, List.set_cons_zero, List.set_cons_succ, i64_w, i32_w]
    rfl
  refine take_ (i := 4) (N := (some 76)) (v := ?_) (a' := ?_) #[true, false, true, true, true, false, false] rfl rfl (take_ofW HT_.out HW_.out (by kernel_rfl)) (fun _ _ _ h => h) (Or.inl ⟨by rfl, ?_⟩) hHeld ?_ ?_
  rotate_left
  · rintro w' s0
    go_simp
    with_reducible rfl
  rotate_left
  · simp only [Act.put, List.setIfInBounds_toArray, List.set_cons_zero, List.set_cons_succ, i64_w, i32_w]
    rfl
  refine two_ (i := 1) (j := 5) (Ni := (some 73)) (Nj := (some 77)) #[true, true, true, true, true, false, false] #[true, false, true, true, true, true, false] rfl rfl rfl rfl (two_of HT_.out (by kernel_rfl)) (by decide) (by decide) (fun K hK => ?_) (fun K hK => ?_)
  · refine goes_ Try.func66 (by kernel_rfl) rfl #[ptr r] (by rfl) rfl rfl (by simp only [List.map_toArray, List.map_cons, List.map_nil]; rfl) ?_
    refine (content_calls wc r b (HR.out.below (H1.out.1.trans (HB.out.mono H1.out.1.size))) 4 t v _ (HN.out.below (H1.out.1.trans (HB.out.mono H1.out.1.size))) HL.out).mono ?_
    rintro e w4 ⟨rfl, rfl⟩
    refine ⟨_, rfl, ?_⟩
    refine hK.out _ _ hHeld (fun hHeld => ?_)
    clear hK K
    refine norm_ (a' := ?_) ?_ ?_
    rotate_left
    · first | (simp only [Act.put, List.setIfInBounds_toArray, List.set_cons_zero, List.set_cons_succ, i64_w, i32_w]; rfl) | rfl
    refine one_ (i := 5) (N := (some 77)) #[true, true, true, true, true, true, false] rfl rfl (one_of HT_.out (by kernel_rfl)) (by decide) (fun K hK => ?_)
    rw [if_pos (by rfl)]
    go_simp
    obtain ⟨wn, g5, e3, eg, _, hb3, hh3, hs3⟩ := alloc_step (Chg.refl (fun _ => False) wc) (.cells #[.string nm] 9)
    rw [e3, eg]
    have HB3 := Aside0.mk (And.intro (HB.out.trans (hb3.mono HB.out.size)) hh3)
    clear HB
    have HB := Aside0.mk HB3.out.1
    have HG5 := Aside0.mk HB3.out.2
    refine hK.out _ _ (HS.out _ HB3.out.1) (fun hHeld => ?_)
    clear e3 hb3 hh3 hs3 HB3
    rename World => wc
    clear hK K
    refine norm_ (a' := ?_) ?_ ?_
    rotate_left
    · first | (simp only [Act.put, List.setIfInBounds_toArray, List.set_cons_zero, List.set_cons_succ, i64_w, i32_w]; rfl) | rfl
    refine last_ (i := 6) (N := (some 78)) #[true, true, true, true, true, true, true] rfl rfl (one_of HT_.out (by kernel_rfl)) (by decide) (fun K hK => ?_)
    refine goes_ Try.func68 (by kernel_rfl) rfl #[.slice A bs.length c, .func (.func 134) #[] #[.pointer (some ⟨w0.heap.size + 1, 0, none⟩), .pointer (some ⟨w.heap.size, 0, none⟩), .pointer (some ⟨w0.heap.size, 0, none⟩)], .slice (some ⟨g5, 0, none⟩) 1 1] (by rfl) rfl rfl (by simp only [List.map_toArray, List.map_cons, List.map_nil]; rfl) ?_
    have hbw : Below w.heap.size w wc := H1.out.1.trans (HB.out.mono H1.out.1.size)
    refine (named_calls wc nm g5 1 A g c ks bs 134 #[.pointer (some ⟨w0.heap.size + 1, 0, none⟩), .pointer (some ⟨w.heap.size, 0, none⟩), .pointer (some ⟨w0.heap.size, 0, none⟩)]
      (fun j w' => Below w.heap.size w w' ∧ w'.heap[w.heap.size]? = some (.cells (fm nm (ptr rv) sv (.pointer none)) 159 (0, 0)) ∧ ((vt j ≠ sv ∧ w'.heap[w0.heap.size]? = some (.cells #[.pointer none] 57 (0, 0))) ∨ (vt j = sv ∧ ∃ rr, w'.heap[w0.heap.size]? = some (.cells #[ptr rr] 57 (0, 0)))))
      (fun xs wa => enters_ Try.func134 rfl rfl xs wa) HG5.out HM.out.1 HM.out.2.1 HM.out.2.2 (fun i hi => (hbw.cell (World.block_lt_of_cell? w _ (HC.out i hi))).trans (HC.out i hi)) (fun j hj => ?key) (fun j wa hj hwa => ?call)).mono ?_
    case key =>
      obtain ⟨t', cv', h⟩ := HK.out.1 j hj
      exact ⟨t', cv', h.below hbw⟩
    case call =>
      have hw1a : Below w1.heap.size w1 wa := HB.out.trans (hwa.mono HB.out.size)
      have hba : Below w.heap.size w wa := hbw.trans (hwa.mono hbw.size)
      have hjl : j < ks.length := (List.getElem?_eq_some_iff.1 hj).1
      obtain ⟨kk, t', cv', hv⟩ := HK.out.2 j hjl
      refine (mcallB_calls wa _ _ _ _ _ rv nv (w.heap.size + 1) nm sv (vt j) (.pointer none) kk t' cv' ((hw1a.block _ (lt_of_block H1.out.2.2.2.1)).trans H1.out.2.2.2.1) ((hw1a.block _ (lt_of_block H1.out.2.1)).trans H1.out.2.1) (H1.out.2.2.2.2.move hw1a) (hv.below hba) ((hw1a.block _ (lt_of_block H1.out.2.2.1)).trans H1.out.2.2.1)).mono ?_
      rintro e w5 ⟨rfl, hcase⟩
      rcases hcase with ⟨h1, h2⟩ | ⟨h1, rr, h2, _, h3, _⟩
      · exact ⟨rfl, hba.trans (h2.mono hba.size), (h2.block _ (lt_of_block ((hw1a.block _ (lt_of_block H1.out.2.1)).trans H1.out.2.1))).trans ((hw1a.block _ (lt_of_block H1.out.2.1)).trans H1.out.2.1), .inl ⟨h1, (h2.block _ (lt_of_block ((hw1a.block _ (lt_of_block H1.out.2.2.1)).trans H1.out.2.2.1))).trans ((hw1a.block _ (lt_of_block H1.out.2.2.1)).trans H1.out.2.2.1)⟩⟩
      · exact ⟨rfl, hba.trans (h3.below hba.size (fun k e => by have := H0.out.2.2.1; omega)), (h3.block _ (lt_of_block ((hw1a.block _ (lt_of_block H1.out.2.1)).trans H1.out.2.1)) (by have := H0.out.2.2.1; omega)).trans ((hw1a.block _ (lt_of_block H1.out.2.1)).trans H1.out.2.1), .inr ⟨h1, rr, h2⟩⟩
    rintro e w5 ⟨rfl, hq⟩
    have hcase : Below w.heap.size w w5 ∧ w5.heap[w.heap.size]? = some (.cells (fm nm (ptr rv) sv (.pointer none)) 159 (0, 0)) ∧ ∃ p : Option Nat, w5.heap[w0.heap.size]? = some (.cells #[.pointer (p.map fun k => ⟨k, 0, none⟩)] 57 (0, 0)) ∧ ((p = none ∧ (nm ∉ ks ∨ ∃ j, ks[j]? = some nm ∧ vt j ≠ sv)) ∨ ∃ j rr, ks[j]? = some nm ∧ vt j = sv ∧ p = some rr) := by
      rcases hq with ⟨h1, h2⟩ | ⟨j, h1, h2, hfb, hq⟩
      · exact ⟨hbw.trans (h2.mono hbw.size), (h2.block _ (Nat.lt_of_lt_of_le (lt_of_block H1.out.2.1) HB.out.size)).trans ((HB.out.block _ (lt_of_block H1.out.2.1)).trans H1.out.2.1), none, (h2.block _ (Nat.lt_of_lt_of_le (lt_of_block H1.out.2.2.1) HB.out.size)).trans ((HB.out.block _ (lt_of_block H1.out.2.2.1)).trans H1.out.2.2.1), .inl ⟨rfl, .inl h1⟩⟩
      · rcases hq with ⟨h3, h4⟩ | ⟨h3, rr, h4⟩
        · exact ⟨h2, hfb, none, h4, .inl ⟨rfl, .inr ⟨j, h1, h3⟩⟩⟩
        · exact ⟨h2, hfb, some rr, h4, .inr ⟨j, rr, h1, h3, rfl⟩⟩
    obtain ⟨hb5, hf5, p5, hp5, hc5⟩ := hcase
    have H5 := Aside0.mk (And.intro hb5 (And.intro hp5 hc5))
    have co : w5.cell? ⟨w0.heap.size, 0, none⟩ = some (.pointer (p5.map fun k => ⟨k, 0, none⟩)) := by rw [cell_of_block hp5]; rfl
    have cc : w5.cell? ⟨w.heap.size, 5, none⟩ = some (.pointer none) := by rw [cell_of_block hf5]; rfl
    clear hb5 hp5 hc5 hq hbw hf5
    refine ⟨_, rfl, ?_⟩
    refine hK.out _ _ ?_
    clear hK K
    refine norm_ (a' := ?_) ?_ ?_
    rotate_left
    · first | (simp only [Act.put, List.setIfInBounds_toArray, List.set_cons_zero, List.set_cons_succ, i64_w, i32_w]; rfl) | rfl
    refine done_ (done_of HT_.out (by kernel_rfl)) ?_
    rcases p5 with _ | p5
    · have H6 : Aside0 (nm ∉ ks ∨ ∃ j, ks[j]? = some nm ∧ vt j ≠ sv) := ⟨by
        rcases H5.out.2.2 with ⟨_, h⟩ | ⟨_, _, _, _, h⟩
        · exact h
        · cases h⟩
      go_wp2_with fail
      refine bodyPost_ret (v := .tuple #[.pointer none, .nilIface]) (by simp [results, Try.results130, go_sem]) rfl ⟨none, rfl, H5.out.1, .inl ⟨rfl, H6.out⟩⟩
    · go_wp2_with fail
      refine bodyPost_ret (v := .tuple #[ptr p5, .nilIface]) (by simp [results, Try.results130, go_sem]) rfl ⟨some p5, rfl, H5.out.1, H5.out.2.2⟩
  · rw [if_pos (by rfl)]
    go_simp
    obtain ⟨wn, g5, e3, eg, _, hb3, hh3, hs3⟩ := alloc_step (Chg.refl (fun _ => False) wc) (.cells #[.string nm] 9)
    rw [e3, eg]
    have HB3 := Aside0.mk (And.intro (HB.out.trans (hb3.mono HB.out.size)) hh3)
    clear HB
    have HB := Aside0.mk HB3.out.1
    have HG5 := Aside0.mk HB3.out.2
    refine hK.out _ _ (HS.out _ HB3.out.1) (fun hHeld => ?_)
    clear e3 hb3 hh3 hs3 HB3
    rename World => wc
    clear hK K
    refine norm_ (a' := ?_) ?_ ?_
    rotate_left
    · first | (simp only [Act.put, List.setIfInBounds_toArray, List.set_cons_zero, List.set_cons_succ, i64_w, i32_w]; rfl) | rfl
    refine one_ (i := 1) (N := (some 73)) #[true, true, true, true, true, true, false] rfl rfl (one_of HT_.out (by kernel_rfl)) (by decide) (fun K hK => ?_)
    refine goes_ Try.func66 (by kernel_rfl) rfl #[ptr r] (by rfl) rfl rfl (by simp only [List.map_toArray, List.map_cons, List.map_nil]; rfl) ?_
    refine (content_calls wc r b (HR.out.below (H1.out.1.trans (HB.out.mono H1.out.1.size))) 4 t v _ (HN.out.below (H1.out.1.trans (HB.out.mono H1.out.1.size))) HL.out).mono ?_
    rintro e w4 ⟨rfl, rfl⟩
    refine ⟨_, rfl, ?_⟩
    refine hK.out _ _ hHeld (fun hHeld => ?_)
    clear hK K
    refine norm_ (a' := ?_) ?_ ?_
    rotate_left
    · first | (simp only [Act.put, List.setIfInBounds_toArray, List.set_cons_zero, List.set_cons_succ, i64_w, i32_w]; rfl) | rfl
    refine last_ (i := 6) (N := (some 78)) #[true, true, true, true, true, true, true] rfl rfl (one_of HT_.out (by kernel_rfl)) (by decide) (fun K hK => ?_)
    refine goes_ Try.func68 (by kernel_rfl) rfl #[.slice A bs.length c, .func (.func 134) #[] #[.pointer (some ⟨w0.heap.size + 1, 0, none⟩), .pointer (some ⟨w.heap.size, 0, none⟩), .pointer (some ⟨w0.heap.size, 0, none⟩)], .slice (some ⟨g5, 0, none⟩) 1 1] (by rfl) rfl rfl (by simp only [List.map_toArray, List.map_cons, List.map_nil]; rfl) ?_
    have hbw : Below w.heap.size w wc := H1.out.1.trans (HB.out.mono H1.out.1.size)
    refine (named_calls wc nm g5 1 A g c ks bs 134 #[.pointer (some ⟨w0.heap.size + 1, 0, none⟩), .pointer (some ⟨w.heap.size, 0, none⟩), .pointer (some ⟨w0.heap.size, 0, none⟩)]
      (fun j w' => Below w.heap.size w w' ∧ w'.heap[w.heap.size]? = some (.cells (fm nm (ptr rv) sv (.pointer none)) 159 (0, 0)) ∧ ((vt j ≠ sv ∧ w'.heap[w0.heap.size]? = some (.cells #[.pointer none] 57 (0, 0))) ∨ (vt j = sv ∧ ∃ rr, w'.heap[w0.heap.size]? = some (.cells #[ptr rr] 57 (0, 0)))))
      (fun xs wa => enters_ Try.func134 rfl rfl xs wa) HG5.out HM.out.1 HM.out.2.1 HM.out.2.2 (fun i hi => (hbw.cell (World.block_lt_of_cell? w _ (HC.out i hi))).trans (HC.out i hi)) (fun j hj => ?key) (fun j wa hj hwa => ?call)).mono ?_
    case key =>
      obtain ⟨t', cv', h⟩ := HK.out.1 j hj
      exact ⟨t', cv', h.below hbw⟩
    case call =>
      have hw1a : Below w1.heap.size w1 wa := HB.out.trans (hwa.mono HB.out.size)
      have hba : Below w.heap.size w wa := hbw.trans (hwa.mono hbw.size)
      have hjl : j < ks.length := (List.getElem?_eq_some_iff.1 hj).1
      obtain ⟨kk, t', cv', hv⟩ := HK.out.2 j hjl
      refine (mcallB_calls wa _ _ _ _ _ rv nv (w.heap.size + 1) nm sv (vt j) (.pointer none) kk t' cv' ((hw1a.block _ (lt_of_block H1.out.2.2.2.1)).trans H1.out.2.2.2.1) ((hw1a.block _ (lt_of_block H1.out.2.1)).trans H1.out.2.1) (H1.out.2.2.2.2.move hw1a) (hv.below hba) ((hw1a.block _ (lt_of_block H1.out.2.2.1)).trans H1.out.2.2.1)).mono ?_
      rintro e w5 ⟨rfl, hcase⟩
      rcases hcase with ⟨h1, h2⟩ | ⟨h1, rr, h2, _, h3, _⟩
      · exact ⟨rfl, hba.trans (h2.mono hba.size), (h2.block _ (lt_of_block ((hw1a.block _ (lt_of_block H1.out.2.1)).trans H1.out.2.1))).trans ((hw1a.block _ (lt_of_block H1.out.2.1)).trans H1.out.2.1), .inl ⟨h1, (h2.block _ (lt_of_block ((hw1a.block _ (lt_of_block H1.out.2.2.1)).trans H1.out.2.2.1))).trans ((hw1a.block _ (lt_of_block H1.out.2.2.1)).trans H1.out.2.2.1)⟩⟩
      · exact ⟨rfl, hba.trans (h3.below hba.size (fun k e => by have := H0.out.2.2.1; omega)), (h3.block _ (lt_of_block ((hw1a.block _ (lt_of_block H1.out.2.1)).trans H1.out.2.1)) (by have := H0.out.2.2.1; omega)).trans ((hw1a.block _ (lt_of_block H1.out.2.1)).trans H1.out.2.1), .inr ⟨h1, rr, h2⟩⟩
    rintro e w5 ⟨rfl, hq⟩
    have hcase : Below w.heap.size w w5 ∧ w5.heap[w.heap.size]? = some (.cells (fm nm (ptr rv) sv (.pointer none)) 159 (0, 0)) ∧ ∃ p : Option Nat, w5.heap[w0.heap.size]? = some (.cells #[.pointer (p.map fun k => ⟨k, 0, none⟩)] 57 (0, 0)) ∧ ((p = none ∧ (nm ∉ ks ∨ ∃ j, ks[j]? = some nm ∧ vt j ≠ sv)) ∨ ∃ j rr, ks[j]? = some nm ∧ vt j = sv ∧ p = some rr) := by
      rcases hq with ⟨h1, h2⟩ | ⟨j, h1, h2, hfb, hq⟩
      · exact ⟨hbw.trans (h2.mono hbw.size), (h2.block _ (Nat.lt_of_lt_of_le (lt_of_block H1.out.2.1) HB.out.size)).trans ((HB.out.block _ (lt_of_block H1.out.2.1)).trans H1.out.2.1), none, (h2.block _ (Nat.lt_of_lt_of_le (lt_of_block H1.out.2.2.1) HB.out.size)).trans ((HB.out.block _ (lt_of_block H1.out.2.2.1)).trans H1.out.2.2.1), .inl ⟨rfl, .inl h1⟩⟩
      · rcases hq with ⟨h3, h4⟩ | ⟨h3, rr, h4⟩
        · exact ⟨h2, hfb, none, h4, .inl ⟨rfl, .inr ⟨j, h1, h3⟩⟩⟩
        · exact ⟨h2, hfb, some rr, h4, .inr ⟨j, rr, h1, h3, rfl⟩⟩
    obtain ⟨hb5, hf5, p5, hp5, hc5⟩ := hcase
    have H5 := Aside0.mk (And.intro hb5 (And.intro hp5 hc5))
    have co : w5.cell? ⟨w0.heap.size, 0, none⟩ = some (.pointer (p5.map fun k => ⟨k, 0, none⟩)) := by rw [cell_of_block hp5]; rfl
    have cc : w5.cell? ⟨w.heap.size, 5, none⟩ = some (.pointer none) := by rw [cell_of_block hf5]; rfl
    clear hb5 hp5 hc5 hq hbw hf5
    refine ⟨_, rfl, ?_⟩
    refine hK.out _ _ ?_
    clear hK K
    refine norm_ (a' := ?_) ?_ ?_
    rotate_left
    · first | (simp only [Act.put, List.setIfInBounds_toArray, List.set_cons_zero, List.set_cons_succ, i64_w, i32_w]; rfl) | rfl
    refine done_ (done_of HT_.out (by kernel_rfl)) ?_
    rcases p5 with _ | p5
    · have H6 : Aside0 (nm ∉ ks ∨ ∃ j, ks[j]? = some nm ∧ vt j ≠ sv) := ⟨by
        rcases H5.out.2.2 with ⟨_, h⟩ | ⟨_, _, _, _, h⟩
        · exact h
        · cases h⟩
      go_wp2_with fail
      refine bodyPost_ret (v := .tuple #[.pointer none, .nilIface]) (by simp [results, Try.results130, go_sem]) rfl ⟨none, rfl, H5.out.1, .inl ⟨rfl, H6.out⟩⟩
    · go_wp2_with fail
      refine bodyPost_ret (v := .tuple #[ptr p5, .nilIface]) (by simp [results, Try.results130, go_sem]) rfl ⟨some p5, rfl, H5.out.1, H5.out.2.2⟩
end Go.Proofs.Ytigpgkfgkjabmaa
