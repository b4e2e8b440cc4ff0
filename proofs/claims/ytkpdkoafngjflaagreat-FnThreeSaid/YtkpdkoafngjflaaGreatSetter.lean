import Derived.Test.YtkpdkoafngjflaaGreatSh
import Derived.Test.YtkpdkoafngjflaaGreatCovers
namespace Go.Proofs.YtkpdkoafngjflaaGreat
open Go.RowKit Go.Proofs.YtkpdkoafngjflaaGreatW.PrintWords Go.Proofs.YtkpdkoafngjflaaGreatW.PrintLast Go.Proofs.YtkpdkoafngjflaaGreat.PFnFields
set_option linter.unusedVariables false
set_option linter.unusedSimpArgs false
abbrev fm (nm : ByteArray) (V : Value) (sv : ByteArray) (C : Value) : Array Value := #[.string ⟨#[]⟩, .string nm, V, .string sv, .string ⟨#[]⟩, C]
def mcall0.T : Bool × List (List Nat × List Nat) := (true, [([], []), ([0], [0]), ([1], [1]), ([2], [2]), ([3, 2], [2, 3]), ([4, 2], [2, 4]), ([5, 2], [2, 5]), ([2], [2]), ([7, 2], [2, 7]), ([8, 2, 2], [2, 8]), ([9, 2], [2, 9]), ([10, 2], [2, 10]), ([11, 2], [2, 11]), ([6, 12, 2], [2, 6, 12]), ([2, 13], [2, 13])])
def mcall0.B : List Nat := [0, 1, 3, 7, 15, 31, 63, 7, 135, 391, 903, 1927, 3975, 8191, 16383]
theorem mcall0.tab : rtab .any (opsOf Tryz.f177 0) = mcall0.T := by kernel_rfl
theorem mcall0.bits : waitsOk mcall0.T.2 mcall0.B = true := by kernel_rfl
def matchA25.T : Bool × List (List Nat × List Nat) := (true, [([], []), ([0], [0]), ([], []), ([], []), ([3], [3]), ([4], [4]), ([1, 2, 5, 1], [1, 2, 5])])
def matchA25.B : List Nat := [0, 1, 0, 0, 8, 24, 63]
theorem matchA25.tab : rtab .any (opsOf Tryz.f173 25) = matchA25.T := by kernel_rfl
theorem matchA25.bits : waitsOk matchA25.T.2 matchA25.B = true := by kernel_rfl
set_option maxRecDepth 100000 in
theorem mcallA_calls (w : World) (kb vb rq fb o : Nat) (hq : w.heap[rq]? = some (.cells #[.bool false] 4 (0, 0))) (ho : w.heap[o]? = some (.cells #[.pointer none] 42 (0, 0))) :
  Calls Tryz.prog 177 #[ptr kb, ptr vb, .pointer (some ⟨rq, 0, none⟩), .pointer (some ⟨fb, 0, none⟩), .pointer (some ⟨o, 0, none⟩)] w fun e w' => e = .returned (.tuple #[]) ∧ ∃ rr, w'.heap[o]? = some (.cells #[ptr rr] 42 (0, 0)) ∧ RN0 w' rr vb ∧ Chg (fun k => k = o) w w' ∧ w.heap.size ≤ rr := by
 have cq : w.cell? ⟨rq, 0, none⟩ = some (.bool false) := by rw [cell_of_block hq]; rfl
 have HC := Aside0.mk cq
 have HO := Aside0.mk ho
 clear hq ho cq
 go_enter Tryz.func177, Tryz.ntmps177
 go_wp2_with fail
 refine start_ (n := 15) (S := fun w' => w'.cell? ⟨rq, 0, none⟩ = some (.bool false)) (ds := []) #[false, false, false, false, false, false, false, false, false, false, false, false, false, false, false] (by kernel_rfl) rfl rfl HC.out (fun hHeld => ?_)
 refine with_tabW (T := mcall0.T) (B := mcall0.B) mcall0.tab mcall0.bits (fun HT_ HW_ => ?_)
 refine ts_ 0 7 HT_ HW_ hHeld ?_
 refine ps_ 1 8 HT_ ?_
 refine ps_ 2 9 HT_ ?_
 refine us_ 3 10 HT_ ?_
 refine us_ 4 11 HT_ ?_
 refine us_ 5 12 HT_ ?_
 refine us_ 6 13 HT_ ?_
 refine us_ 7 14 HT_ ?_
 refine us_ 8 15 HT_ ?_
 refine us_ 9 16 HT_ ?_
 refine us_ 10 17 HT_ ?_
 refine us_ 11 18 HT_ ?_
 refine us_ 12 19 HT_ ?_
 refine us_ 13 20 HT_ ?_
 refine ps_ 14 21 HT_ ?_
 refine done_ (done_of HT_.out (by kernel_rfl)) ?_
 have HD : Aside0 (w.drew.heap[o]? = some (.cells #[.pointer none] 42 (0, 0)) ∧ Chg (fun k => k = o) w w.drew ∧ w.drew.heap.size = w.heap.size) := ⟨HO.out, (Chg.refl _ w).drew, rfl⟩
 generalize w.drew = wd at *
 go_wp2_with fail
 refine (newrnode_calls wd vb).mono ?_
 rintro e w1 ⟨rfl, rfl⟩
 have hb1 : Below wd.heap.size wd (wd.alloc (.cells (rcells (.slice none 0 0) (ptr vb) false (.slice none 0 0)) 78)) := (Below.refl _ _).alloc (Nat.le_refl _) _
 have hr1 := RN0.new wd vb
 generalize wd.alloc (.cells (rcells (.slice none 0 0) (ptr vb) false (.slice none 0 0)) 78) = w1 at hb1 hr1 ⊢
 have ho1 := (hb1.block _ (lt_of_block HD.out.1)).trans HD.out.1
 have hlo := lt_of_block HD.out.1
 have H1 := Aside0.mk (And.intro hb1 (And.intro hr1 (And.intro ho1 hlo)))
 have co : w1.cell? ⟨o, 0, none⟩ = some (.pointer none) := by rw [cell_of_block ho1]; rfl
 have zo : w1.frozen? ⟨o, 0, none⟩ = false := frozen_of_block ho1
 clear hb1 hr1 ho1 hlo
 go_wp2_with fail
 obtain ⟨w2, e2⟩ : ∃ w2, w2 = w1.setCell ⟨o, 0, none⟩ (ptr wd.heap.size) := ⟨_, rfl⟩
 try rw [← e2]
 have ho2 : w2.heap[o]? = some (.cells #[ptr wd.heap.size] 42 (0, 0)) := by rw [e2]; exact heap_set (a := ⟨o, 0, none⟩) H1.out.2.2.1 rfl
 have hc2 : Chg (fun k => k = o) w1 w2 := by rw [e2]; exact (Chg.refl (fun k => k = o) w1).setCell (p := ⟨o, 0, none⟩) (.inl rfl) _
 refine ⟨rfl, .tuple #[], ?_, ?_⟩
 ·simp [results, Tryz.results177, go_sem]
 ·refine ⟨rfl, wd.heap.size, ?_, ?_, ?_, ?_⟩
  ·first | exact ho2 | (rw [← e2]; exact ho2)
  ·first | exact H1.out.2.1.move (fun hlt => hc2.block _ hlt (by have := H1.out.2.2.2; omega)) | (rw [← e2]; exact H1.out.2.1.move (fun hlt => hc2.block _ hlt (by have := H1.out.2.2.2; omega)))
  ·first | exact (HD.out.2.1.trans (Chg.of_below H1.out.1) (fun _ (q : False) => q.elim)).trans hc2 (fun k q => .inl q) | (rw [← e2]; exact (HD.out.2.1.trans (Chg.of_below H1.out.1) (fun _ (q : False) => q.elim)).trans hc2 (fun k q => .inl q))
  ·have := HD.out.2.2; omega
def MatchPost (w : World) (ks : List ByteArray) (nm : ByteArray) (bs : List Nat) (o : Option Nat) (w' : World) : Prop :=
 Below w.heap.size w w' ∧ ((nm ∉ ks ∧ o = none) ∨ ∃ j rr, ks[j]? = some nm ∧ o = some rr ∧ RN0 w' rr (bs.getD (2 * j + 1) 0) ∧ w.heap.size ≤ rr)
set_option maxRecDepth 100000 in
set_option maxHeartbeats 1600000 in
theorem matchA_calls (w : World) (r b : Nat) (t v : ByteArray) (A : Option Addr) (g c : Nat) (nm : ByteArray) (ks : List ByteArray) (bs : List Nat) (hne : nm.toList.isEmpty = false) (hr : RN w r b) (hn : NB w b 4 t v (.slice A bs.length c)) (hl : Live 4 t)
  (hA : 0 < ks.length → A = some ⟨g, 0, none⟩) (hm : bs.length = 2 * ks.length) (hb : ks.length ≤ 1000) (hcell : ∀ i (h : i < bs.length), w.cell? ⟨g, i, none⟩ = some (ptr bs[i]))
  (hkey : ∀ j (h : j < ks.length), ∃ t cv, NB w (bs.getD (2 * j) 0) 8 t ks[j] cv) :
  Calls Tryz.prog 173 #[.agg (fm nm (.pointer none) ⟨#[]⟩ (.pointer none)), ptr r] w (FilterPost (MatchPost w ks nm bs)) := by
 have hmf : ∀ (fn : Fn) (first cap : Array Value) (w : World), (Instr.makeFunc fn first cap).run Tryz.prog w = .ok (.func fn first cap) w := fun _ _ _ _ => rfl
 have HR := Aside0.mk hr
 have HN := Aside0.mk hn
 have HL := Aside0.mk hl
 have HC := Aside0.mk hcell
 have HK := Aside0.mk hkey
 have HM := Aside0.mk (And.intro hA (And.intro hm hb))
 clear hr hn hl hcell hkey hA hm hb
 go_enter Tryz.func173, Tryz.ntmps173
 go_wp2_with fail
 obtain ⟨w0, e0⟩ : ∃ w0, w0 = w.alloc (.cells (fm nm (.pointer none) ⟨#[]⟩ (.pointer none)) 165) := ⟨_, rfl⟩
 rw [← e0]
 have hb0 : Below w.heap.size w w0 := by rw [e0]; exact (Below.refl _ _).alloc (Nat.le_refl _) _
 have hf0 : w0.heap[w.heap.size]? = some (.cells (fm nm (.pointer none) ⟨#[]⟩ (.pointer none)) 165 (0, 0)) := by rw [e0]; exact heap_at _ rfl
 have hs0 : w0.heap.size = w.heap.size + 1 := by rw [e0]; simp
 have H0 := Aside0.mk (And.intro hb0 (And.intro hf0 hs0))
 clear hb0 hf0 hs0 e0
 refine (missing_calls w0 r b (HR.out.below H0.out.1) 4 t v _ (HN.out.below H0.out.1) HL.out).mono ?_
 rintro e w1 ⟨rfl, rfl⟩
 have cf1 : w0.cell? ⟨w.heap.size, 1, none⟩ = some (.string nm) := by rw [cell_of_block H0.out.2.1]; rfl
 have cf2 : w0.cell? ⟨w.heap.size, 2, none⟩ = some (.pointer none) := by rw [cell_of_block H0.out.2.1]; rfl
 go_wp2_with fail
 refine (valid_calls w0 r b (HR.out.below H0.out.1) 4 t v A bs.length c (HN.out.below H0.out.1) HL.out (fun _ => by have := HM.out; omega) (by have := HM.out; omega)).mono ?_
 rintro e w1 ⟨rfl, rfl⟩
 have cf2' : ∀ o, (w0.alloc o).cell? ⟨w.heap.size, 2, none⟩ = some (.pointer none) := fun o => by rw [World.cell?_alloc_lt _ _ _ (by rw [H0.out.2.2]; simp)]; exact cf2
 have hlb : w.heap.size < w0.heap.size := by rw [H0.out.2.2]; omega
 go_wp2_with fail
 obtain ⟨w1, e1⟩ : ∃ w1, w1 = (w0.alloc (.cells #[.pointer none] 42)).alloc (.cells #[.bool false] 4) := ⟨_, rfl⟩
 try rw [← e1]
 have hb1 : Below w0.heap.size w0 w1 := by rw [e1]; exact ((Below.refl _ _).alloc (Nat.le_refl _) _).alloc (by simp) _
 have ho1 : w1.heap[w0.heap.size]? = some (.cells #[.pointer none] 42 (0, 0)) := by rw [e1]; exact (heap_old _ (by simp)).trans (heap_at _ rfl)
 have hq1 : w1.heap[w0.heap.size + 1]? = some (.cells #[.bool false] 4 (0, 0)) := by rw [e1]; exact heap_at _ (by simp)
 have H1 := Aside0.mk (And.intro (H0.out.1.trans (hb1.mono H0.out.1.size)) (And.intro ((hb1.block _ (lt_of_block H0.out.2.1)).trans H0.out.2.1) (And.intro ho1 hq1)))
 clear hb1 ho1 hq1 e1 cf2' cf1 cf2 hlb
 have HS : Aside0 (∀ w' : World, Below w1.heap.size w1 w' → w'.cell? ⟨w.heap.size, 1, none⟩ = some (.string nm)) := ⟨fun w' hb => by rw [cell_of_block ((hb.block _ (lt_of_block H1.out.2.1)).trans H1.out.2.1)]; rfl⟩
 refine start_ (n := 7) (S := fun w' => w'.cell? ⟨w.heap.size, 1, none⟩ = some (.string nm)) (ds := [6]) #[false, false, false, false, false, false, false] (by kernel_rfl) rfl rfl (HS.out _ (Below.refl _ _).drew) (fun hHeld => ?_)
 refine with_tabW (T := matchA25.T) (B := matchA25.B) matchA25.tab matchA25.bits (fun HT_ HW_ => ?_)
 have HB := Aside0.mk ((Below.refl w1.heap.size w1).drew)
 generalize w1.drew = wc at HB hHeld ⊢
 refine ps_ 0 72 HT_ ?_
 refine ps_ 2 74 HT_ ?_
 refine ps_ 3 75 HT_ ?_
 refine ts_ 4 76 HT_ HW_ hHeld ?_
 refine two_ (i := 1) (j := 5) (Ni := (some 73)) (Nj := (some 77)) #[true, true, true, true, true, false, false] #[true, false, true, true, true, true, false] rfl rfl rfl rfl (two_of HT_.out (by kernel_rfl)) (by decide) (by decide) (fun K hK => ?_) (fun K hK => ?_)
 ·refine goes_ Tryz.func74 (by kernel_rfl) rfl #[ptr r] (by rfl) rfl rfl (by simp only [List.map_toArray, List.map_cons, List.map_nil]; rfl) ?_
  refine (content_calls wc r b (HR.out.below (H1.out.1.trans (HB.out.mono H1.out.1.size))) 4 t v _ (HN.out.below (H1.out.1.trans (HB.out.mono H1.out.1.size))) HL.out).mono ?_
  rintro e w4 ⟨rfl, rfl⟩
  refine ⟨_, rfl, ?_⟩
  refine hK.out _ _ hHeld (fun hHeld => ?_)
  clear hK K
  refine ns_ ?_
  refine one_ (i := 5) (N := (some 77)) #[true, true, true, true, true, true, false] rfl rfl (one_of HT_.out (by kernel_rfl)) (by decide) (fun K hK => ?_)
  rw [if_pos (by rfl)]
  go_simp
  obtain ⟨wn, g5, e3, eg, _, hb3, hh3, hs3⟩ := alloc_step (Chg.refl (fun _ => False) wc) (.cells #[.string nm] 9)
  rw [e3, eg]
  have HB3 := Aside0.mk (And.intro (HB.out.trans (hb3.mono HB.out.size)) hh3)
  clear HB
  have HB := Aside0.mk HB3.out.1
  have HG5 := Aside0.mk HB3.out.2
  refine hK.out _ _ (HS.out _ HB3.out.1) (fun hHeld => ?_)
  clear e3 hb3 hh3 hs3 HB3
  rename World => wc
  clear hK K
  refine ns_ ?_
  refine last_ (i := 6) (N := (some 78)) #[true, true, true, true, true, true, true] rfl rfl (one_of HT_.out (by kernel_rfl)) (by decide) (fun K hK => ?_)
  refine goes_ Tryz.func73 (by kernel_rfl) rfl #[.slice A bs.length c, .func (.func 177) #[] #[.pointer (some ⟨w0.heap.size + 1, 0, none⟩), .pointer (some ⟨w.heap.size, 0, none⟩), .pointer (some ⟨w0.heap.size, 0, none⟩)], .slice (some ⟨g5, 0, none⟩) 1 1] (by rfl) rfl rfl (by simp only [List.map_toArray, List.map_cons, List.map_nil]; rfl) ?_
  have hbw : Below w.heap.size w wc := H1.out.1.trans (HB.out.mono H1.out.1.size)
  refine (named_calls wc nm g5 1 A g c ks bs 177 #[.pointer (some ⟨w0.heap.size + 1, 0, none⟩), .pointer (some ⟨w.heap.size, 0, none⟩), .pointer (some ⟨w0.heap.size, 0, none⟩)]
   (fun j w' => Below w.heap.size w w' ∧ w'.heap[w.heap.size]? = some (.cells (fm nm (.pointer none) ⟨#[]⟩ (.pointer none)) 165 (0, 0)) ∧ ∃ rr, w'.heap[w0.heap.size]? = some (.cells #[ptr rr] 42 (0, 0)) ∧ RN0 w' rr (bs.getD (2 * j + 1) 0) ∧ w.heap.size ≤ rr)
   (fun xs wa => enters_ Tryz.func177 rfl rfl xs wa) HG5.out HM.out.1 HM.out.2.1 HM.out.2.2 (fun i hi => (hbw.cell (World.block_lt_of_cell? w _ (HC.out i hi))).trans (HC.out i hi)) (fun j hj => ?key) (fun j wa hj hwa => ?call)).mono ?_
  case key =>
   obtain ⟨t', cv', h⟩ := HK.out j hj
   exact ⟨t', cv', h.below hbw⟩
  case call =>
   have hw1a : Below w1.heap.size w1 wa := HB.out.trans (hwa.mono HB.out.size)
   refine (mcallA_calls wa _ _ _ _ _ ((hw1a.block _ (lt_of_block H1.out.2.2.2)).trans H1.out.2.2.2) ((hw1a.block _ (lt_of_block H1.out.2.2.1)).trans H1.out.2.2.1)).mono ?_
   rintro e w5 ⟨rfl, rr, h1, h2, h3, h4⟩
   have hba : Below w.heap.size w wa := hbw.trans (hwa.mono hbw.size)
   exact ⟨rfl, hba.trans (h3.below hba.size (fun k e => by have := H0.out.2.2; omega)), (h3.block _ (lt_of_block ((hw1a.block _ (lt_of_block H1.out.2.1)).trans H1.out.2.1)) (by have := H0.out.2.2; omega)).trans ((hw1a.block _ (lt_of_block H1.out.2.1)).trans H1.out.2.1), rr, h1, h2, by have := hba.size; omega⟩
  rintro e w5 ⟨rfl, hq⟩
  have hcase : Below w.heap.size w w5 ∧ w5.heap[w.heap.size]? = some (.cells (fm nm (.pointer none) ⟨#[]⟩ (.pointer none)) 165 (0, 0)) ∧ ∃ p : Option Nat, w5.heap[w0.heap.size]? = some (.cells #[.pointer (p.map fun k => ⟨k, 0, none⟩)] 42 (0, 0)) ∧ ((nm ∉ ks ∧ p = none) ∨ ∃ j rr, ks[j]? = some nm ∧ p = some rr ∧ RN0 w5 rr (bs.getD (2 * j + 1) 0) ∧ w.heap.size ≤ rr) := by
   rcases hq with ⟨h1, h2⟩ | ⟨j, h1, h2, hfb, rr, h3, h4, h5⟩
   ·exact ⟨hbw.trans (h2.mono hbw.size), (h2.block _ (Nat.lt_of_lt_of_le (lt_of_block H1.out.2.1) HB.out.size)).trans ((HB.out.block _ (lt_of_block H1.out.2.1)).trans H1.out.2.1), none, (h2.block _ (Nat.lt_of_lt_of_le (lt_of_block H1.out.2.2.1) HB.out.size)).trans ((HB.out.block _ (lt_of_block H1.out.2.2.1)).trans H1.out.2.2.1), .inl ⟨h1, rfl⟩⟩
   ·exact ⟨h2, hfb, some rr, h3, .inr ⟨j, rr, h1, rfl, h4, h5⟩⟩
  obtain ⟨hb5, hf5, p5, hp5, hc5⟩ := hcase
  have H5 := Aside0.mk (And.intro hb5 (And.intro hp5 hc5))
  have co : w5.cell? ⟨w0.heap.size, 0, none⟩ = some (.pointer (p5.map fun k => ⟨k, 0, none⟩)) := by rw [cell_of_block hp5]; rfl
  have cc : w5.cell? ⟨w.heap.size, 5, none⟩ = some (.pointer none) := by rw [cell_of_block hf5]; rfl
  clear hb5 hp5 hc5 hq hbw hf5
  refine ⟨_, rfl, ?_⟩
  refine hK.out _ _ ?_
  clear hK K
  refine ns_ ?_
  refine done_ (done_of HT_.out (by kernel_rfl)) ?_
  rcases p5 with _ | p5
  ·have H6 : Aside0 (nm ∉ ks) := ⟨by
    rcases H5.out.2.2 with ⟨h, _⟩ | ⟨_, _, _, h, _⟩
    ·exact h
    ·cases h⟩
   go_wp2_with fail
   refine bodyPost_ret (v := .tuple #[.pointer none, .nilIface]) (by simp [results, Tryz.results173, go_sem]) rfl ⟨none, rfl, H5.out.1, .inl ⟨H6.out, rfl⟩⟩
  ·go_wp2_with fail
   refine bodyPost_ret (v := .tuple #[ptr p5, .nilIface]) (by simp [results, Tryz.results173, go_sem]) rfl ⟨some p5, rfl, H5.out.1, H5.out.2.2⟩
 ·rw [if_pos (by rfl)]
  go_simp
  obtain ⟨wn, g5, e3, eg, _, hb3, hh3, hs3⟩ := alloc_step (Chg.refl (fun _ => False) wc) (.cells #[.string nm] 9)
  rw [e3, eg]
  have HB3 := Aside0.mk (And.intro (HB.out.trans (hb3.mono HB.out.size)) hh3)
  clear HB
  have HB := Aside0.mk HB3.out.1
  have HG5 := Aside0.mk HB3.out.2
  refine hK.out _ _ (HS.out _ HB3.out.1) (fun hHeld => ?_)
  clear e3 hb3 hh3 hs3 HB3
  rename World => wc
  clear hK K
  refine ns_ ?_
  refine one_ (i := 1) (N := (some 73)) #[true, true, true, true, true, true, false] rfl rfl (one_of HT_.out (by kernel_rfl)) (by decide) (fun K hK => ?_)
  refine goes_ Tryz.func74 (by kernel_rfl) rfl #[ptr r] (by rfl) rfl rfl (by simp only [List.map_toArray, List.map_cons, List.map_nil]; rfl) ?_
  refine (content_calls wc r b (HR.out.below (H1.out.1.trans (HB.out.mono H1.out.1.size))) 4 t v _ (HN.out.below (H1.out.1.trans (HB.out.mono H1.out.1.size))) HL.out).mono ?_
  rintro e w4 ⟨rfl, rfl⟩
  refine ⟨_, rfl, ?_⟩
  refine hK.out _ _ hHeld (fun hHeld => ?_)
  clear hK K
  refine ns_ ?_
  refine last_ (i := 6) (N := (some 78)) #[true, true, true, true, true, true, true] rfl rfl (one_of HT_.out (by kernel_rfl)) (by decide) (fun K hK => ?_)
  refine goes_ Tryz.func73 (by kernel_rfl) rfl #[.slice A bs.length c, .func (.func 177) #[] #[.pointer (some ⟨w0.heap.size + 1, 0, none⟩), .pointer (some ⟨w.heap.size, 0, none⟩), .pointer (some ⟨w0.heap.size, 0, none⟩)], .slice (some ⟨g5, 0, none⟩) 1 1] (by rfl) rfl rfl (by simp only [List.map_toArray, List.map_cons, List.map_nil]; rfl) ?_
  have hbw : Below w.heap.size w wc := H1.out.1.trans (HB.out.mono H1.out.1.size)
  refine (named_calls wc nm g5 1 A g c ks bs 177 #[.pointer (some ⟨w0.heap.size + 1, 0, none⟩), .pointer (some ⟨w.heap.size, 0, none⟩), .pointer (some ⟨w0.heap.size, 0, none⟩)]
   (fun j w' => Below w.heap.size w w' ∧ w'.heap[w.heap.size]? = some (.cells (fm nm (.pointer none) ⟨#[]⟩ (.pointer none)) 165 (0, 0)) ∧ ∃ rr, w'.heap[w0.heap.size]? = some (.cells #[ptr rr] 42 (0, 0)) ∧ RN0 w' rr (bs.getD (2 * j + 1) 0) ∧ w.heap.size ≤ rr)
   (fun xs wa => enters_ Tryz.func177 rfl rfl xs wa) HG5.out HM.out.1 HM.out.2.1 HM.out.2.2 (fun i hi => (hbw.cell (World.block_lt_of_cell? w _ (HC.out i hi))).trans (HC.out i hi)) (fun j hj => ?key) (fun j wa hj hwa => ?call)).mono ?_
  case key =>
   obtain ⟨t', cv', h⟩ := HK.out j hj
   exact ⟨t', cv', h.below hbw⟩
  case call =>
   have hw1a : Below w1.heap.size w1 wa := HB.out.trans (hwa.mono HB.out.size)
   refine (mcallA_calls wa _ _ _ _ _ ((hw1a.block _ (lt_of_block H1.out.2.2.2)).trans H1.out.2.2.2) ((hw1a.block _ (lt_of_block H1.out.2.2.1)).trans H1.out.2.2.1)).mono ?_
   rintro e w5 ⟨rfl, rr, h1, h2, h3, h4⟩
   have hba : Below w.heap.size w wa := hbw.trans (hwa.mono hbw.size)
   exact ⟨rfl, hba.trans (h3.below hba.size (fun k e => by have := H0.out.2.2; omega)), (h3.block _ (lt_of_block ((hw1a.block _ (lt_of_block H1.out.2.1)).trans H1.out.2.1)) (by have := H0.out.2.2; omega)).trans ((hw1a.block _ (lt_of_block H1.out.2.1)).trans H1.out.2.1), rr, h1, h2, by have := hba.size; omega⟩
  rintro e w5 ⟨rfl, hq⟩
  have hcase : Below w.heap.size w w5 ∧ w5.heap[w.heap.size]? = some (.cells (fm nm (.pointer none) ⟨#[]⟩ (.pointer none)) 165 (0, 0)) ∧ ∃ p : Option Nat, w5.heap[w0.heap.size]? = some (.cells #[.pointer (p.map fun k => ⟨k, 0, none⟩)] 42 (0, 0)) ∧ ((nm ∉ ks ∧ p = none) ∨ ∃ j rr, ks[j]? = some nm ∧ p = some rr ∧ RN0 w5 rr (bs.getD (2 * j + 1) 0) ∧ w.heap.size ≤ rr) := by
   rcases hq with ⟨h1, h2⟩ | ⟨j, h1, h2, hfb, rr, h3, h4, h5⟩
   ·exact ⟨hbw.trans (h2.mono hbw.size), (h2.block _ (Nat.lt_of_lt_of_le (lt_of_block H1.out.2.1) HB.out.size)).trans ((HB.out.block _ (lt_of_block H1.out.2.1)).trans H1.out.2.1), none, (h2.block _ (Nat.lt_of_lt_of_le (lt_of_block H1.out.2.2.1) HB.out.size)).trans ((HB.out.block _ (lt_of_block H1.out.2.2.1)).trans H1.out.2.2.1), .inl ⟨h1, rfl⟩⟩
   ·exact ⟨h2, hfb, some rr, h3, .inr ⟨j, rr, h1, rfl, h4, h5⟩⟩
  obtain ⟨hb5, hf5, p5, hp5, hc5⟩ := hcase
  have H5 := Aside0.mk (And.intro hb5 (And.intro hp5 hc5))
  have co : w5.cell? ⟨w0.heap.size, 0, none⟩ = some (.pointer (p5.map fun k => ⟨k, 0, none⟩)) := by rw [cell_of_block hp5]; rfl
  have cc : w5.cell? ⟨w.heap.size, 5, none⟩ = some (.pointer none) := by rw [cell_of_block hf5]; rfl
  clear hb5 hp5 hc5 hq hbw hf5
  refine ⟨_, rfl, ?_⟩
  refine hK.out _ _ ?_
  clear hK K
  refine ns_ ?_
  refine done_ (done_of HT_.out (by kernel_rfl)) ?_
  rcases p5 with _ | p5
  ·have H6 : Aside0 (nm ∉ ks) := ⟨by
    rcases H5.out.2.2 with ⟨h, _⟩ | ⟨_, _, _, h, _⟩
    ·exact h
    ·cases h⟩
   go_wp2_with fail
   refine bodyPost_ret (v := .tuple #[.pointer none, .nilIface]) (by simp [results, Tryz.results173, go_sem]) rfl ⟨none, rfl, H5.out.1, .inl ⟨H6.out, rfl⟩⟩
  ·go_wp2_with fail
   refine bodyPost_ret (v := .tuple #[ptr p5, .nilIface]) (by simp [results, Tryz.results173, go_sem]) rfl ⟨some p5, rfl, H5.out.1, H5.out.2.2⟩
theorem setCell_id {w : World} {b i : Nat} {cs : Array Value} {t : TypeId} {fr : Nat × Nat} {v : Value} (h : w.heap[b]? = some (.cells cs t fr)) (hi : cs[i]? = some v) : w.setCell ⟨b, i, none⟩ v = w := by
 have hh : (w.setCell ⟨b, i, none⟩ v).heap = w.heap := by
  apply Array.ext_getElem?
  intro k
  by_cases hk : k = b
  ·subst hk
   rw [heap_set (a := ⟨k, i, none⟩) h rfl, h]
   congr 2
   apply Array.ext_getElem?
   intro j
   rw [Array.getElem?_setIfInBounds]
   split
   ·subst_vars
    split
    ·exact hi.symm
    ·rename_i hlt
     exact (Array.getElem?_eq_none (by omega)).symm
   ·rfl
  ·exact heap_set_ne hk
 show ({ w with heap := (w.setCell ⟨b, i, none⟩ v).heap } : World) = w
 rw [hh]
theorem set_step {w0 w : World} {r : Nat} {cs : Array Value} {t : TypeId} (h : w.heap[r]? = some (.cells cs t (0, 0))) (hc : Chg (fun k => k = r) w0 w) (i : Nat) (v : Value) :
  ∃ w', w.setCell ⟨r, i, none⟩ v = w' ∧ w'.heap[r]? = some (.cells (cs.setIfInBounds i v) t (0, 0)) ∧ Chg (fun k => k = r) w0 w' :=
 ⟨_, rfl, heap_set (a := ⟨r, i, none⟩) h rfl, hc.setCell (p := ⟨r, i, none⟩) (.inl rfl) v⟩
theorem set12 {w : World} {r : Nat} {a0 a1 a2 a3 a4 a5 a6 a7 a8 a9 a10 a11 : Value} {v0 v1 v2 v3 v4 v5 v6 v7 v8 v9 v10 v11 : Value} {t : TypeId} (h : w.heap[r]? = some (.cells #[a0, a1, a2, a3, a4, a5, a6, a7, a8, a9, a10, a11] t (0, 0))) :
  ∃ w', (((((((((((w.setCell ⟨r, 0, none⟩ v0).setCell ⟨r, 1, none⟩ v1).setCell ⟨r, 2, none⟩ v2).setCell ⟨r, 3, none⟩ v3).setCell ⟨r, 4, none⟩ v4).setCell ⟨r, 5, none⟩ v5).setCell ⟨r, 6, none⟩ v6).setCell ⟨r, 7, none⟩ v7).setCell ⟨r, 8, none⟩ v8).setCell ⟨r, 9, none⟩ v9).setCell ⟨r, 10, none⟩ v10).setCell ⟨r, 11, none⟩ v11 = w' ∧
   w'.heap[r]? = some (.cells #[v0, v1, v2, v3, v4, v5, v6, v7, v8, v9, v10, v11] t (0, 0)) ∧ Chg (fun k => k = r) w w' := by
 obtain ⟨w1, e1, h1, c1⟩ := set_step h (Chg.refl _ w) 0 v0
 simp only [List.setIfInBounds_toArray, List.set_cons_zero, List.set_cons_succ] at h1
 obtain ⟨w2, e2, h2, c2⟩ := set_step h1 c1 1 v1
 simp only [List.setIfInBounds_toArray, List.set_cons_zero, List.set_cons_succ] at h2
 obtain ⟨w3, e3, h3, c3⟩ := set_step h2 c2 2 v2
 simp only [List.setIfInBounds_toArray, List.set_cons_zero, List.set_cons_succ] at h3
 obtain ⟨w4, e4, h4, c4⟩ := set_step h3 c3 3 v3
 simp only [List.setIfInBounds_toArray, List.set_cons_zero, List.set_cons_succ] at h4
 obtain ⟨w5, e5, h5, c5⟩ := set_step h4 c4 4 v4
 simp only [List.setIfInBounds_toArray, List.set_cons_zero, List.set_cons_succ] at h5
 obtain ⟨w6, e6, h6, c6⟩ := set_step h5 c5 5 v5
 simp only [List.setIfInBounds_toArray, List.set_cons_zero, List.set_cons_succ] at h6
 obtain ⟨w7, e7, h7, c7⟩ := set_step h6 c6 6 v6
 simp only [List.setIfInBounds_toArray, List.set_cons_zero, List.set_cons_succ] at h7
 obtain ⟨w8, e8, h8, c8⟩ := set_step h7 c7 7 v7
 simp only [List.setIfInBounds_toArray, List.set_cons_zero, List.set_cons_succ] at h8
 obtain ⟨w9, e9, h9, c9⟩ := set_step h8 c8 8 v8
 simp only [List.setIfInBounds_toArray, List.set_cons_zero, List.set_cons_succ] at h9
 obtain ⟨w10, e10, h10, c10⟩ := set_step h9 c9 9 v9
 simp only [List.setIfInBounds_toArray, List.set_cons_zero, List.set_cons_succ] at h10
 obtain ⟨w11, e11, h11, c11⟩ := set_step h10 c10 10 v10
 simp only [List.setIfInBounds_toArray, List.set_cons_zero, List.set_cons_succ] at h11
 obtain ⟨w12, e12, h12, c12⟩ := set_step h11 c11 11 v11
 simp only [List.setIfInBounds_toArray, List.set_cons_zero, List.set_cons_succ] at h12
 exact ⟨w12, by rw [e1, e2, e3, e4, e5, e6, e7, e8, e9, e10, e11, e12], h12, c12⟩
theorem NB.cells {w : World} {b : Nat} {k : Int} {t v : ByteArray} {cv : Value} (h : NB w b k t v cv) : w.cell? ⟨b, 0, none⟩ = some (.int .u32 k) ∧ w.cell? ⟨b, 1, none⟩ = some (.int .u32 0) ∧ w.cell? ⟨b, 2, none⟩ = some (.string t) ∧ w.cell? ⟨b, 3, none⟩ = some (.string v) ∧ w.cell? ⟨b, 4, none⟩ = some (.string ⟨#[]⟩) ∧ w.cell? ⟨b, 5, none⟩ = some (.pointer none) ∧
  w.cell? ⟨b, 6, none⟩ = some cv ∧ w.cell? ⟨b, 7, none⟩ = some (.string ⟨#[]⟩) ∧ w.cell? ⟨b, 8, none⟩ = some (.string ⟨#[]⟩) ∧ w.cell? ⟨b, 9, none⟩ = some (.string ⟨#[]⟩) ∧ w.cell? ⟨b, 10, none⟩ = some (.int .i64 0) ∧ w.cell? ⟨b, 11, none⟩ = some (.int .i64 0) := by
 refine ⟨?_, ?_, ?_, ?_, ?_, ?_, ?_, ?_, ?_, ?_, ?_, ?_⟩ <;> (rw [cell_of_block h]; rfl)
def sety2.T : Bool × List (List Nat × List Nat) := (true, [([], []), ([0], [0]), ([1], [1]), ([2], [2]), ([], []), ([4], [4]), ([5], [5]), ([3, 0, 1, 2, 3, 4, 5, 6], [3]), ([7, 6, 0, 1, 2, 3, 4, 5, 6], [6, 7])])
def sety2.B : List Nat := [0, 1, 3, 7, 0, 16, 48, 127, 255]
theorem sety2.tab : rtab .any (opsOf Tryz.f165 2) = sety2.T := by kernel_rfl
theorem sety2.bits : waitsOk sety2.T.2 sety2.B = true := by kernel_rfl
set_option maxRecDepth 100000 in
set_option maxHeartbeats 1600000 in
theorem setynode_calls (w : World) (r b vb : Nat) (k k' : Int) (t v t' v' : ByteArray) (cv : Value) (A : Option Addr) (n c : Nat) (hr : RN w r b) (hn : NB w b k t v cv) (hv : NB w vb k' t' v' (.slice A n c)) :
  Calls Tryz.prog 165 #[ptr r, ptr vb] w fun e w' => e = .returned (.tuple #[]) ∧ NB w' b k' t' v' (.slice A n c) ∧ Chg (fun k => k = b) w w' := by
 have cr := hr.value
 have HN := Aside0.mk hn
 have HS := Aside0.mk (And.intro cr hv.cells)
 clear hr hn hv
 go_enter Tryz.func165, Tryz.ntmps165
 go_wp2_with fail
 refine start_ (n := 9) (S := fun w' => w'.cell? ⟨r, 1, none⟩ = some (ptr b) ∧ w'.cell? ⟨vb, 0, none⟩ = some (.int .u32 k') ∧ w'.cell? ⟨vb, 1, none⟩ = some (.int .u32 0) ∧ w'.cell? ⟨vb, 2, none⟩ = some (.string t') ∧ w'.cell? ⟨vb, 3, none⟩ = some (.string v') ∧ w'.cell? ⟨vb, 4, none⟩ = some (.string ⟨#[]⟩) ∧ w'.cell? ⟨vb, 5, none⟩ = some (.pointer none) ∧ w'.cell? ⟨vb, 6, none⟩ = some (.slice A n c) ∧ w'.cell? ⟨vb, 7, none⟩ = some (.string ⟨#[]⟩) ∧ w'.cell? ⟨vb, 8, none⟩ = some (.string ⟨#[]⟩) ∧ w'.cell? ⟨vb, 9, none⟩ = some (.string ⟨#[]⟩) ∧ w'.cell? ⟨vb, 10, none⟩ = some (.int .i64 0) ∧ w'.cell? ⟨vb, 11, none⟩ = some (.int .i64 0)) (ds := [8]) #[false, false, false, false, false, false, false, false, false] (by kernel_rfl) rfl rfl HS.out (fun hHeld => ?_)
 refine with_tabW (T := sety2.T) (B := sety2.B) sety2.tab sety2.bits (fun HT_ HW_ => ?_)
 refine ps_ 0 17 HT_ ?_
 refine ps_ 1 18 HT_ ?_
 refine ps_ 2 19 HT_ ?_
 refine ps_ 4 21 HT_ ?_
 refine ps_ 5 22 HT_ ?_
 refine ts_ 3 20 HT_ HW_ hHeld ?_
 refine ts_ 6 23 HT_ HW_ hHeld ?_
 refine ps_ 7 24 HT_ ?_
 refine last_ (i := 8) (N := none) #[true, true, true, true, true, true, true, true, true] rfl rfl (one_of HT_.out (by kernel_rfl)) (by decide) (fun K hK => ?_)
 have HR2 : Aside0 (NB w.drew b k t v cv) := ⟨HN.out⟩
 have HCD : Aside0 (Chg (fun k => k = b) w w.drew) := ⟨(Chg.refl _ w).drew⟩
 generalize w.drew = wc at HR2 HCD hHeld ⊢
 have hc := HR2.out.cells
 obtain ⟨n0, n1, n2, n3, n4, n5, n6, n7, n8, n9, n10, n11⟩ := hc
 have f0 := frozen_of_block (i := 0) HR2.out; have f1 := frozen_of_block (i := 1) HR2.out; have f2 := frozen_of_block (i := 2) HR2.out; have f3 := frozen_of_block (i := 3) HR2.out
 have f4 := frozen_of_block (i := 4) HR2.out; have f5 := frozen_of_block (i := 5) HR2.out; have f6 := frozen_of_block (i := 6) HR2.out; have f7 := frozen_of_block (i := 7) HR2.out
 have f8 := frozen_of_block (i := 8) HR2.out; have f9 := frozen_of_block (i := 9) HR2.out; have f10 := frozen_of_block (i := 10) HR2.out; have f11 := frozen_of_block (i := 11) HR2.out
 rw [if_pos (by rfl)]
 go_simp
 obtain ⟨wf, ef, hf, hcf⟩ := set12 (v0 := .int .u32 k') (v1 := .int .u32 0) (v2 := .string t') (v3 := .string v') (v4 := .string ⟨#[]⟩) (v5 := .pointer none) (v6 := .slice A n c) (v7 := .string ⟨#[]⟩) (v8 := .string ⟨#[]⟩) (v9 := .string ⟨#[]⟩) (v10 := .int .i64 0) (v11 := .int .i64 0) HR2.out
 rw [ef]
 refine hK.out _ _ ?_
 have HF := Aside0.mk (And.intro hf (HCD.out.trans hcf (fun k q => .inl q)))
 clear hK K
 refine ns_ ?_
 refine done_ (done_of HT_.out (by kernel_rfl)) ?_
 refine ⟨rfl, .tuple #[], ?_, ?_⟩
 ·simp [results, Tryz.results165, go_sem]
 ·exact ⟨rfl, HF.out.1, HF.out.2⟩
theorem YL.focus {w : World} : ∀ {F : Nat → Prop} {bs : List Nat} {ys : List Y} (j : Nat), YL w F bs ys → (hj : j < ys.length) → ∃ b F1, bs[j]? = some b ∧ (∀ k, F1 k → F k) ∧ YN w F1 b (ys[j]'hj) ∧
  ∀ (w' : World) (F2 : Nat → Prop) (y : Y), YN w' F2 b y → (∀ k, F k → ¬ F1 k → k < w.heap.size → w'.heap[k]? = w.heap[k]?) → (∀ k, F2 k → F1 k ∨ ¬ F k) → YL w' (fun k => (F k ∧ ¬ F1 k) ∨ F2 k) bs (ys.set j y)
 | _, [], [], j, _, hj => absurd hj (Nat.not_lt_zero _)
 |F, b :: bs, y :: ys, 0, h, _ => by
  simp only [YL] at h
  obtain ⟨F1, h1, h2, h3⟩ := h
  refine ⟨b, F1, rfl, h1, h2, fun w' F2 y' hy hm hd => ?_⟩
  simp only [List.set_cons_zero, YL]
  refine ⟨F2, fun k q => .inr q, hy, YL.move (fun k q => ⟨.inl q, fun r => ?_⟩) (fun k q hl => hm k q.1 q.2 hl) h3⟩
  rcases hd k r with h | h
  ·exact q.2 h
  ·exact h q.1
 |F, b :: bs, y :: ys, j + 1, h, hj => by
  simp only [YL] at h
  obtain ⟨G, g1, g2, g3⟩ := h
  obtain ⟨c, F1, e, hF, hy, hfr⟩ := YL.focus j g3 (by simpa using hj)
  refine ⟨c, F1, by simpa using e, fun k q => (hF k q).1, by simpa using hy, fun w' F2 y' hy' hm hd => ?_⟩
  simp only [List.set_cons_succ, YL]
  refine ⟨G, fun k q => .inl ⟨g1 k q, fun r => (hF k r).2 q⟩, YN.move (fun _ q => q) (fun k q hl => hm k (g1 k q) (fun r => (hF k r).2 q) hl) g2, ?_⟩
  refine (hfr w' F2 y' hy' (fun k q q2 hl => hm k q.1 q2 hl) (fun k q => ?_)).mono (fun k q => ?_)
  ·rcases hd k q with h | h
   ·exact .inl h
   ·exact .inr (fun r => h r.1)
  ·rcases q with ⟨q1, q2⟩ | q
   ·exact ⟨.inl ⟨q1.1, q2⟩, q1.2⟩
   ·refine ⟨.inr q, fun r => ?_⟩
    rcases hd k q with h | h
    ·exact (hF k h).2 r
    ·exact h (g1 k r)
 | _, [], _ :: _, _, h, _ => by simp only [YL] at h
 | _, _ :: _, [], _, h, _ => by simp only [YL] at h
theorem kv_set : ∀ (ks : List ByteArray) (ys : List Y) (j : Nat) (y : Y), (kv ks ys).set (2 * j + 1) y = kv ks (ys.set j y)
 | [], ys, j, y => by simp [kv]
 | k :: ks, [], j, y => by simp [kv]
 | k :: ks, a :: ys, 0, y => by simp [kv]
 |k :: ks, a :: ys, j + 1, y => by
  rw [show 2 * (j + 1) + 1 = (2 * j + 1) + 1 + 1 by omega]
  simp only [kv, List.set_cons_succ, kv_set ks ys j y]
theorem Y.eta (y : Y) : Y.mk y.kind y.tag y.value y.content = y := by cases y; rfl
theorem ynullg_calls (w : World) (b : Nat) (k : Int) (t v : ByteArray) (cv : Value) (hn : NB w b k t v cv) (hl : Live k t) :
  Calls Tryz.prog 132 #[ptr b] w fun e w' => e = .returned (.bool false) ∧ w = w' := by
 have c1 := hn.tag
 have h2 := hl.2
 clear hn hl
 go_enter Tryz.func132, Tryz.ntmps132
 go_wp2
 go_ret
 exact ⟨rfl, rfl⟩
theorem rnull_calls (w : World) (r b : Nat) (hr : RN w r b) (k : Int) (t v : ByteArray) (cv : Value) (hn : NB w b k t v cv) (hl : Live k t) :
  Calls Tryz.prog 159 #[ptr r] w fun e w' => e = .returned (.bool false) ∧ w = w' := by
 go_enter Tryz.func159, Tryz.ntmps159
 go_wp2_with (first | (go_at_call 37; refine (ynode_calls _ r b hr k t v cv hn hl).mono ?_; rintro e w' ⟨rfl, rfl⟩) | (go_at_call 67; refine (isnil_calls _ r b hr k t v cv hn hl).mono ?_; rintro e w' ⟨rfl, rfl⟩) | (go_at_call 132; refine (ynullg_calls _ b k t v cv hn hl).mono ?_; rintro e w' ⟨rfl, rfl⟩))
 go_ret
 exact ⟨rfl, rfl⟩
theorem grow_tree {w w4 w5 : World} {F F2 : Nat → Prop} {b g n m cap : Nat} {k0 : Int} {t v : ByteArray} {cv : Value} {bs nbs : List Nat} {ys nys : List Y} (hF : F b) (hn : NB w b k0 t v cv) (ho : w.ownsRow 0 66 1 cv bs.length (ptrs bs))
  (hfo : ∀ g, cv.ownBlock = some g → F g) (hyl : YL w (fun k => F k ∧ k ≠ b ∧ some k ≠ cv.ownBlock) bs ys) (hb4 : Below w.heap.size w w4) (hnew : YL w4 F2 nbs nys) (hd : ∀ k, F k → ¬ F2 k) (hbl : bs.length = n) (hml : nbs.length = m)
  (hown : w5.ownsRow 0 66 1 (.slice (some ⟨g, 0, none⟩) (n + m) cap) (n + m) (ptrs bs ++ ptrs nbs)) (hg : w4.grownBy w5 cv.ownBlock) (hat : cv.ownBlock = some g ∨ g = w4.heap.size) :
  YN (w5.setCell ⟨b, 6, none⟩ (.slice (some ⟨g, 0, none⟩) (n + m) cap)) (fun k => F k ∨ F2 k ∨ k = g) b (.mk k0 t v (ys ++ nys)) ∧ Chg (fun k => k = b ∨ some k = cv.ownBlock) w (w5.setCell ⟨b, 6, none⟩ (.slice (some ⟨g, 0, none⟩) (n + m) cap)) := by
 have hbw := lt_of_block hn
 have hs4 := hb4.size
 have hbo : cv.ownBlock ≠ some b := fun e => by
  obtain ⟨cells, hh⟩ := own_typed ho b e
  rw [hn] at hh
  simp at hh
 have hgb : g ≠ b := by
  rcases hat with h | h
  ·exact fun e => hbo (by rw [h, e])
  ·omega
 have hn5 : NB w5 b k0 t v cv := (hg.block b (by omega) (fun e => hbo e.symm)).trans ((hb4.block b hbw).trans hn)
 have hn6 := heap_set (a := ⟨b, 6, none⟩) (v := .slice (some ⟨g, 0, none⟩) (n + m) cap) hn5 rfl
 have hro : w5.ownsRow 0 66 1 (.slice (some ⟨g, 0, none⟩) (n + m) cap) (bs ++ nbs).length (ptrs (bs ++ nbs)) := by
  rw [ptrs_append, List.length_append, hbl, hml]; exact hown
 have hro6 := own_move (w1 := w5.setCell ⟨b, 6, none⟩ (.slice (some ⟨g, 0, none⟩) (n + m) cap)) hro (fun k hk => heap_set_ne (by
  have : g = k := by simpa [Value.ownBlock] using hk
  show k ≠ b
  omega))
 have hmv : ∀ k, k < w4.heap.size → some k ≠ cv.ownBlock → k ≠ b → (w5.setCell ⟨b, 6, none⟩ (.slice (some ⟨g, 0, none⟩) (n + m) cap)).heap[k]? = w4.heap[k]? := fun k hk h1 h2 => (heap_set_ne h2).trans (hg.block k hk h1)
 have hlen : (Value.slice (some ⟨g, 0, none⟩) (n + m) cap) = .slice (some ⟨g, 0, none⟩) (bs ++ nbs).length cap := by rw [List.length_append, hbl, hml]
 refine ⟨YN.close (.inl hF) hn6 hro6 (fun k hk => ?_) ?_, ?_⟩
 ·have : g = k := by simpa [Value.ownBlock] using hk
  exact .inr (.inr this.symm)
 ·refine YL.append (F1 := fun k => (F k ∧ k ≠ b ∧ some k ≠ cv.ownBlock) ∧ k < w.heap.size) (F2 := fun k => F2 k ∧ k < w4.heap.size) ?_ ?_ ?_ ?_ ?_
  ·refine YL.move (fun _ q => q) (fun k q _ => ?_) hyl.lt
   rw [hmv k (by omega) q.1.2.2 q.1.2.1, hb4.block k q.2]
  ·refine YL.move (fun _ q => q) (fun k q _ => ?_) hnew.lt
   exact hmv k q.2 (fun e => hd k (hfo k e.symm) q.1) (fun e => hd k (by rw [e]; exact hF) q.1)
  ·rintro k ⟨⟨h1, h2, h3⟩, h4⟩
   refine ⟨.inl h1, h2, fun e => ?_⟩
   have e' : k = g := by simpa [Value.ownBlock] using e
   rcases hat with h | h
   ·exact h3 (by rw [e', h])
   ·omega
  ·rintro k ⟨h1, h2⟩
   refine ⟨.inr (.inl h1), fun e => hd k (by rw [e]; exact hF) h1, fun e => ?_⟩
   have e' : k = g := by simpa [Value.ownBlock] using e
   rcases hat with h | h
   ·exact hd k (hfo k (by rw [e', h])) h1
   ·omega
  ·rintro k ⟨⟨h1, _⟩, _⟩ ⟨h2, _⟩
   exact hd k h1 h2
 ·refine Chg.setCell ?_ (.inl (.inl rfl)) _
  exact (Chg.of_below hb4).grown hg (fun k e => .inl (.inr e.symm))
end Go.Proofs.YtkpdkoafngjflaaGreat
