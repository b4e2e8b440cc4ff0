/-
  spec.count: a tree that is told right has at most sixty nodes, six deep.
-/
import Derived.Test.YtigpgkfgkjabmaaCount
namespace Go.Proofs.Ytigpgkfgkjabmaa
open Go.RowKit Go.Proofs.YtigpgkfgkjabmaaW.PrintWords Go.Proofs.YtigpgkfgkjabmaaW.PrintLast Go.Proofs.Ytigpgkfgkjabmaa.PFnFields
set_option linter.unusedVariables false
set_option linter.unusedSimpArgs false

/-- A tree as the laws ask for it, at most d deep. -/
def Wf : Nat → S25 → Prop
  | 0, _ => False
  | d + 1, x => (x.f0 = 1 ∧ x.f3 = [] ∧ x.f4 = [] ∧ Sc x.f1 x.f2) ∨ (x.f1 = ⟨#[]⟩ ∧ x.f2 = ⟨#[]⟩ ∧ x.f4 ≠ [] ∧ (∀ y ∈ x.f4, Wf d y) ∧
      ((x.f0 = 2 ∧ x.f3.length = x.f4.length ∧ (∀ k ∈ x.f3, Word k) ∧ x.f3.Nodup) ∨ (x.f0 = 3 ∧ x.f3 = [])))
/-- How many nodes it has. -/
def nodes : Nat → S25 → Nat
  | 0, _ => 0
  | d + 1, x => 1 + (x.f4.map (nodes d)).sum

theorem empty_of_toList {a : ByteArray} (h : a.toList = []) : a = ⟨#[]⟩ := bytes_ext (by rw [h, ByteArray.toList_eq])

theorem count_start {w : World} {nb : Nat} {nv : Int} (hn : w.heap[nb]? = some (.cells #[.int .i64 nv] 3 (0, 0))) (o : Obj) :
    ((w.setCell ⟨nb, 0, none⟩ (.int .i64 (nv + 1))).alloc o).heap[nb]? = some (.cells #[.int .i64 (nv + 1)] 3 (0, 0)) ∧ ((w.setCell ⟨nb, 0, none⟩ (.int .i64 (nv + 1))).alloc o).heap[w.heap.size]? = some o ∧
    Chg (fun k => k = nb) w ((w.setCell ⟨nb, 0, none⟩ (.int .i64 (nv + 1))).alloc o) := by
  have hlt := lt_of_block hn
  have h1 := heap_set (a := ⟨nb, 0, none⟩) (v := .int .i64 (nv + 1)) hn rfl
  have hs : (w.setCell ⟨nb, 0, none⟩ (.int .i64 (nv + 1))).heap.size = w.heap.size := by simp [World.setCell]
  exact ⟨(heap_old _ (by rw [hs]; exact hlt)).trans h1, heap_at _ hs.symm, ((Chg.refl (fun k => k = nb) w).setCell (p := ⟨nb, 0, none⟩) (.inl rfl) _).alloc _⟩

/-- What count leaves. -/
def CountPost (w : World) (nb : Nat) (nv : Int) (m : Nat) (x : S25) (e : Ending) (w' : World) : Prop :=
  ∃ r nv', e = .returned (.bool r) ∧ w'.heap[nb]? = some (.cells #[.int .i64 nv'] 3 (0, 0)) ∧ Chg (fun k => k = nb) w w' ∧ (r = true → Wf m x ∧ nv' = nv + nodes m x ∧ nv' ≤ 60)
theorem count_false {w : World} {nb : Nat} {nv : Int} {m : Nat} {x : S25} (hn : w.heap[nb]? = some (.cells #[.int .i64 nv] 3 (0, 0))) (o : Obj) :
    CountPost w nb nv m x (.returned (.bool false)) ((w.setCell ⟨nb, 0, none⟩ (.int .i64 (nv + 1))).alloc o) := by
  obtain ⟨q1, q2, q3⟩ := count_start hn o
  exact ⟨false, _, rfl, q1, q3, fun h => by cases h⟩

set_option maxRecDepth 100000 in
set_option maxHeartbeats 3200000 in
theorem count_calls (W : World) (m : Nat) : ∀ (x : S25) (dp nv : Int) (nb : Nat) (w : World) (A3 : Option Addr) (c3 : Nat) (A4 : Option Addr) (c4 : Nat),
    k25.K W x [.int .i64 x.f0, .string x.f1, .string x.f2, .slice A3 x.f3.length c3, .slice A4 x.f4.length c4] → Sz x → dp = 7 - (m : Int) → 0 ≤ dp → 0 ≤ nv → nv ≤ 60 → W.heap.size ≤ nb → Below W.heap.size W w → w.heap[nb]? = some (.cells #[.int .i64 nv] 3 (0, 0)) →
    Calls Try.prog 51 #[.agg #[.int .i64 x.f0, .string x.f1, .string x.f2, .slice A3 x.f3.length c3, .slice A4 x.f4.length c4], .int .i64 dp, ptr nb] w (CountPost w nb nv m x) := by
  induction m with
  | zero =>
    intro x dp nv nb w A3 c3 A4 c4 hK hz hd h0 hv0 hv1 hnb hb hn
    have hu := Try.underlying25
    have hlt := lt_of_block hn
    have hne : ¬ nb = w.heap.size := by omega
    have hn' : ∀ o, (w.alloc o).cell? ⟨nb, 0, none⟩ = some (.int .i64 nv) := fun o => by rw [World.cell?_alloc_lt _ _ _ hlt, cell_of_block hn]; rfl
    have hz' : ∀ o, (w.alloc o).frozen? ⟨nb, 0, none⟩ = false := fun o => frozen_of_block ((heap_old o hlt).trans hn)
    obtain rfl : dp = 7 := by omega
    have HN := Aside0.mk hn
    clear hd h0 hK hz hb hn
    go_enter Try.func51, Try.ntmps51
    go_wp2
    go_ret
    exact count_false HN.out _
  | succ m ih =>
    intro x dp nv nb w A3 c3 A4 c4 hK hz hd h0 hv0 hv1 hnb hb hn
    have hu := Try.underlying25
    have hlt := lt_of_block hn
    have hne : ¬ nb = w.heap.size := by omega
    have hn' : ∀ o, (w.alloc o).cell? ⟨nb, 0, none⟩ = some (.int .i64 nv) := fun o => by rw [World.cell?_alloc_lt _ _ _ hlt, cell_of_block hn]; rfl
    have hz' : ∀ o, (w.alloc o).frozen? ⟨nb, 0, none⟩ = false := fun o => frozen_of_block ((heap_old o hlt).trans hn)
    have hn2 : ∀ o, ((w.setCell ⟨nb, 0, none⟩ (.int .i64 (nv + 1))).alloc o).cell? ⟨nb, 0, none⟩ = some (.int .i64 (nv + 1)) := fun o => by rw [cell_of_block (count_start hn o).1]; rfl
    have HN := Aside0.mk hn
    have hdp : dp ≤ 6 := by omega
    have hdb : decide (6 < dp) = false := by simp; omega
    have HD := Aside0.mk hd
    have HK := Aside0.mk hK
    have HZ := Aside0.mk hz
    have HB := Aside0.mk hb
    have IH := Aside0.mk ih
    clear hd hK hz hb hn ih
    by_cases hfull : 60 < nv + 1
    · go_enter Try.func51, Try.ntmps51
      go_wp2
      go_ret
      exact count_false HN.out _
    by_cases k1 : x.f0 = 1
    · have K1 := Aside0.mk k1
      rw [k1]
      clear k1
      go_enter Try.func51, Try.ntmps51
      go_wp2_with fail
      obtain ⟨q1, q2, q3⟩ := count_start HN.out (.cells #[.int .i64 1, .string x.f1, .string x.f2, .slice A3 x.f3.length c3, .slice A4 x.f4.length c4] 25)
      have hsc := fun w0 (hb0 : Below W.heap.size W w0) => isScalar_calls x w0 A3 c3 A4 c4 (k25.K_below hb0 HK.out) HZ.out
      rw [K1.out] at hsc
      refine (hsc _ (HB.out.trans (q3.below HB.out.size (fun k e => by omega)))).mono ?_
      rintro e w1 ⟨r, rfl, hr, hb1⟩
      have HR := Aside0.mk (And.intro q1 (And.intro q3 (And.intro hr hb1)))
      clear q1 q2 q3 hr hb1 hsc
      go_wp2
      go_ret
      obtain ⟨q1, q3, hr, hb1⟩ := HR.out
      refine ⟨r, nv + 1, rfl, (hb1.block _ (lt_of_block q1)).trans q1, q3.trans (Chg.of_below hb1) (fun _ (q : False) => q.elim), fun h => ?_⟩
      obtain ⟨e3, e4, hsc⟩ := hr h
      refine ⟨.inl ⟨K1.out, e3, e4, hsc⟩, ?_, by omega⟩
      simp [nodes, e4]
    have k1' : (x.f0 == 1) = false := by simpa using k1
    by_cases k2 : x.f0 = 2
    · have K2 := Aside0.mk k2
      rw [k2]
      clear k1 k1' k2
      go_enter Try.func51, Try.ntmps51
      go_wp2_with fail
      all_goals try (go_ret; exact count_false HN.out _)
      have e1 : (x.f3.length : Int) = (x.f4.length : Int) := by assumption
      have e2 : x.f1.toList = [] := by assumption
      have e3 : (!x.f2.toList.isEmpty) = false := by assumption
      have HE : Aside0 (x.f3.length = x.f4.length ∧ x.f1 = ⟨#[]⟩ ∧ x.f2 = ⟨#[]⟩) := ⟨by omega, empty_of_toList e2, empty_of_toList (by simpa using e3)⟩
      clear e1 e2 e3
      rename_i h1 h2 h3
      clear h1 h2 h3
      obtain ⟨q1, q2, q3⟩ := count_start HN.out (.cells #[.int .i64 2, .string x.f1, .string x.f2, .slice A3 x.f3.length c3, .slice A4 x.f4.length c4] 25)
      have HQ := Aside0.mk (And.intro q1 (And.intro q2 q3))
      clear q1 q2 q3
      go_loopg [53] x.f3.length (fun k i wr => ∃ j : Nat, i = .int .i64 j ∧ Aside0 (j ≤ x.f3.length ∧ k + j = x.f3.length) ∧ Aside0 (wr.heap[nb]? = some (.cells #[.int .i64 (nv + 1)] 3 (0, 0))) ∧
        Aside0 (wr.heap[w.heap.size]? = some (.cells #[.int .i64 2, .string x.f1, .string x.f2, .slice A3 x.f3.length c3, .slice A4 x.f4.length c4] 25 (0, 0))) ∧ Aside0 (Chg (fun k => k = nb) w wr) ∧
        Aside0 ((∀ k ∈ x.f3.take j, Word k) ∧ (x.f3.take j).Nodup))
      case atStart => exact ⟨0, rfl, ⟨by omega⟩, ⟨HQ.out.1⟩, ⟨HQ.out.2.1⟩, ⟨HQ.out.2.2⟩, ⟨by simp⟩⟩
      case round =>
        obtain ⟨j, rfl, HJ, HNB, HXB, HC, HP⟩ := hrel
        by_cases hj : j < x.f3.length
        · obtain ⟨g3, hg3⟩ : ∃ q : Kd.string.C W A3 x.f3.length x.f3, x.f3.length ≤ c3 := by
            obtain ⟨B3, d3, B4, d4, he, l3, g3, l4, g4⟩ := k25_open HK.out
            simp only [List.cons.injEq, Value.slice.injEq, true_and, and_true] at he
            obtain ⟨⟨rfl, rfl⟩, rfl, rfl⟩ := he
            exact ⟨g3, l3⟩
          generalize hkk : x.f3.getD j ByteArray.empty = kk
          obtain ⟨ad3, ea, hs3⟩ := strAt g3 j hj
          rw [hkk] at hs3
          subst ea
          have HG3 := Aside0.mk g3
          have HKK := Aside0.mk hkk
          have hbw : Below W.heap.size W wr := HB.out.trans (HC.out.below HB.out.size (fun k e => by omega))
          have HBW := Aside0.mk hbw
          have hs3' := (hbw.cell (World.block_lt_of_cell? W _ hs3)).trans hs3
          have cx3 := (cell_of_block (i := 3) HXB.out).trans (show _ = some _ from rfl)
          have hjm : x.f3.length ≤ 9223372036854775807 := g3.2.1
          clear g3 hkk hs3 hbw
          have hj4 : ¬ (x.f4.length : Int) ≤ (j : Int) := by have := HE.out.1; omega
          have hkl : kk.size ≤ 9223372036854775807 := HZ.out.out.2.2.1 kk (by rw [← HKK.out, List.getD_eq_getElem?_getD, List.getElem?_eq_getElem hj]; exact List.getElem_mem _)
          go_wp2_with fail
          refine (isWord_calls kk _ hkl).mono ?_
          rintro e w1 ⟨r, rfl, hr, ⟨⟨n1, rfl⟩⟩⟩
          cases r
          · go_wp2_with fail
            go_ret
            exact ⟨false, _, rfl, HNB.out, HC.out.drewN _, fun h => by cases h⟩
          have HW := Aside0.mk (hr rfl)
          clear hr hkl
          have hjc : j ≤ c3 := by omega
          go_wp2_with fail
          refine (place_calls_n _ (some ad3) j c3 (x.f3.take j) kk (by simp; omega) (Kd.C_take (Kd.C_below HG3.out (pw_below_drewN HBW.out n1)) (by omega)) (by simp; omega)).mono ?_
          rintro e w1 ⟨rfl, ⟨⟨n2, rfl⟩⟩⟩
          by_cases hp : 0 ≤ plc (x.f3.take j) kk
          · go_wp2_with fail
            go_ret
            exact ⟨false, _, rfl, HNB.out, HC.out.drewN _, fun h => by cases h⟩
          have HNM := Aside0.mk (plc_neg (x.f3.take j) kk (by omega)).2
          go_wp2_with fail
          go_roundg (gk - 1)
          case measure => have := HJ.out; omega
          case rel =>
            refine ⟨j + 1, by go_num, ⟨by have := HJ.out; omega⟩, ⟨HNB.out⟩, ⟨HXB.out⟩, ⟨HC.out.drewN _⟩, ⟨?_⟩⟩
            have hke : kk = x.f3[j] := by rw [← HKK.out, List.getD_eq_getElem?_getD, List.getElem?_eq_getElem hj]; rfl
            rw [List.take_succ_eq_append_getElem hj, ← hke]
            refine ⟨fun k hk => ?_, ?_⟩
            · rcases List.mem_append.1 hk with h | h
              · exact HP.out.1 k h
              · rw [List.mem_singleton.1 h]; exact HW.out
            · rw [List.nodup_append]
              exact ⟨HP.out.2, by simp, fun a ha b hb e => HNM.out (by rw [← List.mem_singleton.1 hb, ← e]; exact ha)⟩
        · have hje : j = x.f3.length := by have := HJ.out; omega
          have HPA : Aside0 ((∀ k ∈ x.f3, Word k) ∧ x.f3.Nodup) := ⟨by have := HP.out; rwa [hje, List.take_length] at this⟩
          have cx4 := (cell_of_block (i := 4) HXB.out).trans (show _ = some _ from rfl)
          have hj4 : (x.f4.length : Int) ≤ (j : Int) := by have := HE.out.1; omega
          have hj5 : decide ((j : Int) < (x.f4.length : Int)) = false := by simp; omega
          have hj6 : decide (j < x.f4.length) = false := by simp; omega
          clear hje
          go_wp2_with fail
          obtain ⟨g4, hg4⟩ : ∃ q : k25.C W A4 x.f4.length x.f4, True := by
            obtain ⟨B3, d3, B4, d4, he, l3, g3, l4, g4⟩ := k25_open HK.out
            simp only [List.cons.injEq, Value.slice.injEq, true_and, and_true] at he
            obtain ⟨⟨rfl, rfl⟩, rfl, rfl⟩ := he
            exact ⟨g4, trivial⟩
          have hm4 : x.f4.length ≤ 9223372036854775807 := g4.2.1
          have HG4 := Aside0.mk g4
          clear g4 hg4
          go_loopg [90] x.f4.length (fun k i wr => ∃ q : Nat, i = .int .i64 q ∧ Aside0 (q ≤ x.f4.length ∧ k + q = x.f4.length) ∧ Aside0 (wr.heap[nb]? = some (.cells #[.int .i64 (nv + 1 + (((x.f4.take q).map (nodes m)).sum : Nat))] 3 (0, 0))) ∧
            Aside0 (wr.heap[w.heap.size]? = some (.cells #[.int .i64 2, .string x.f1, .string x.f2, .slice A3 x.f3.length c3, .slice A4 x.f4.length c4] 25 (0, 0))) ∧ Aside0 (Chg (fun k => k = nb) w wr) ∧
            Aside0 ((∀ y ∈ x.f4.take q, Wf m y) ∧ nv + 1 + (((x.f4.take q).map (nodes m)).sum : Nat) ≤ 60))
          case atStart => exact ⟨0, rfl, ⟨by omega⟩, ⟨by simpa using HNB.out⟩, ⟨HXB.out⟩, ⟨HC.out⟩, ⟨by simp; omega⟩⟩
          case round =>
            clear HNB HXB HC
            obtain ⟨q, rfl, HJ, HNB, HXB, HC, HP⟩ := hrel
            have hbw : Below W.heap.size W _ := HB.out.trans (HC.out.below HB.out.size (fun k e => by omega))
            have HBW := Aside0.mk hbw
            clear hbw
            have cx4 := (cell_of_block (i := 4) HXB.out).trans (show _ = some _ from rfl)
            by_cases hj : q < x.f4.length
            · generalize hyy : x.f4.getD q z25 = yy
              obtain ⟨ad4, B3, b3, B4, b4, e4, hKy, f0', f1', f2', f3', f4'⟩ := nodeAt HG4.out q hj yy hyy
              subst e4
              have f0 := (HBW.out.cell (World.block_lt_of_cell? W _ f0')).trans f0'
              have f1 := (HBW.out.cell (World.block_lt_of_cell? W _ f1')).trans f1'
              have f2 := (HBW.out.cell (World.block_lt_of_cell? W _ f2')).trans f2'
              have f3 := (HBW.out.cell (World.block_lt_of_cell? W _ f3')).trans f3'
              have f4 := (HBW.out.cell (World.block_lt_of_cell? W _ f4')).trans f4'
              have HYY := Aside0.mk hyy
              have HKY := Aside0.mk hKy
              clear hyy hKy f0' f1' f2' f3' f4'
              generalize hsum : nv + 1 + (((x.f4.take q).map (nodes m)).sum : Nat) = nq at HNB HP
              have HSUM := Aside0.mk hsum
              clear hsum
              have hnq0 : 0 ≤ nq := by have := HSUM.out; omega
              go_wp2_with fail
              refine (IH.out yy (dp + 1) nq nb _ B3 b3 B4 b4 HKY.out (HZ.out.out.2.2.2 yy (by rw [← HYY.out, List.getD_eq_getElem?_getD, List.getElem?_eq_getElem hj]; exact List.getElem_mem _)) (by have := HD.out; omega) (by omega) hnq0 HP.out.2 hnb (HBW.out.alloc HBW.out.size _) ((heap_old _ (lt_of_block HNB.out)).trans HNB.out)).mono ?_
              rintro e w1 ⟨r, nv', rfl, hn1, hc1, hr1⟩
              have hc2 := (HC.out.alloc (.cells #[.int .i64 yy.f0, .string yy.f1, .string yy.f2, .slice B3 yy.f3.length b3, .slice B4 yy.f4.length b4] 25)).trans hc1 (fun k e => .inl e)
              cases r
              · have HC2 := Aside0.mk (And.intro hn1 hc2)
                clear hn1 hc1 hc2 hr1
                go_wp2_with fail
                go_ret
                exact ⟨false, _, rfl, HC2.out.1, HC2.out.2, fun h => by cases h⟩
              obtain ⟨h1, h2, h3⟩ := hr1 rfl
              have hx1 := ((hc1.block w.heap.size (by have := lt_of_block HXB.out; simp; omega) (fun e => by omega)).trans (heap_old _ (lt_of_block HXB.out))).trans HXB.out
              have HX1 := Aside0.mk hx1
              have HC2 := Aside0.mk (And.intro hn1 (And.intro hc2 (And.intro h1 (And.intro h2 h3))))
              clear hn1 hc1 hc2 hr1 h1 h2 h3 hx1
              go_wp2_with fail
              go_roundg (gk - 1)
              case measure => have := HJ.out; omega
              case rel =>
                have e2 : x.f4.take (q + 1) = x.f4.take q ++ [yy] := by
                  rw [List.take_succ_eq_append_getElem hj, ← HYY.out, List.getD_eq_getElem?_getD, List.getElem?_eq_getElem hj]; rfl
                have hs := HSUM.out
                obtain ⟨h1, h2, h3, h4, h5⟩ := HC2.out
                have e3 : nv + 1 + (((x.f4.take (q + 1)).map (nodes m)).sum : Nat) = nv' := by
                  rw [e2, List.map_append, List.sum_append]; simp only [List.map_cons, List.map_nil, List.sum_cons, List.sum_nil]; omega
                refine ⟨q + 1, by go_num, ⟨by have := HJ.out; omega⟩, ⟨by rw [e3]; exact h1⟩, HX1, ⟨h2⟩, ⟨fun y hy => ?_, by rw [e3]; exact h5⟩⟩
                rw [e2] at hy
                rcases List.mem_append.1 hy with h | h
                · exact HP.out.1 y h
                · rw [List.mem_singleton.1 h]; exact h3
            · have hje : q = x.f4.length := by have := HJ.out; omega
              have hp := HP.out
              have hn := HNB.out
              rw [hje, List.take_length] at hp hn
              have HPB := Aside0.mk hp
              have HNC := Aside0.mk hn
              clear hp hn hje HP HNB
              go_wp2_with fail
              go_ret
              refine ⟨_, _, rfl, HNC.out, HC.out, fun h => ⟨.inr ?_, by simp only [nodes]; omega, HPB.out.2⟩⟩
              have h4 : x.f4 ≠ [] := by
                intro e
                rw [e] at h
                simp at h
              exact ⟨HE.out.2.1, HE.out.2.2, h4, HPB.out.1, .inl ⟨K2.out, HE.out.1, HPA.out.1, HPA.out.2⟩⟩
    have k2' : (x.f0 == 2) = false := by simpa using k2
    by_cases k3 : x.f0 = 3
    · have K3 := Aside0.mk k3
      rw [k3]
      clear k1 k1' k2 k2' k3
      by_cases n0 : x.f3 = []
      · have HN0 := Aside0.mk n0
        have n0' : x.f3.length = 0 := by rw [n0]; rfl
        rw [n0']
        clear n0 n0'
        go_enter Try.func51, Try.ntmps51
        go_wp2_with fail
        all_goals try (go_ret; exact count_false HN.out _)
        have e2 : x.f1.toList = [] := by assumption
        have e3 : (!x.f2.toList.isEmpty) = false := by assumption
        have HE : Aside0 (x.f1 = ⟨#[]⟩ ∧ x.f2 = ⟨#[]⟩) := ⟨empty_of_toList e2, empty_of_toList (by simpa using e3)⟩
        obtain ⟨q1, q2, q3⟩ := count_start HN.out (.cells #[.int .i64 3, .string x.f1, .string x.f2, .slice A3 0 c3, .slice A4 x.f4.length c4] 25)
        have HNB := Aside0.mk q1
        have HXB := Aside0.mk q2
        have HC := Aside0.mk q3
        clear q1 q2 q3
        obtain ⟨g4, hg4⟩ : ∃ q : k25.C W A4 x.f4.length x.f4, True := by
          obtain ⟨B3, d3, B4, d4, he, l3, g3, l4, g4⟩ := k25_open HK.out
          simp only [List.cons.injEq, Value.slice.injEq, true_and, and_true] at he
          obtain ⟨⟨rfl, rfl⟩, rfl, rfl⟩ := he
          exact ⟨g4, trivial⟩
        have hm4 : x.f4.length ≤ 9223372036854775807 := g4.2.1
        have HG4 := Aside0.mk g4
        clear g4 hg4
        go_loopg [90] x.f4.length (fun k i wr => ∃ q : Nat, i = .int .i64 q ∧ Aside0 (q ≤ x.f4.length ∧ k + q = x.f4.length) ∧ Aside0 (wr.heap[nb]? = some (.cells #[.int .i64 (nv + 1 + (((x.f4.take q).map (nodes m)).sum : Nat))] 3 (0, 0))) ∧
          Aside0 (wr.heap[w.heap.size]? = some (.cells #[.int .i64 3, .string x.f1, .string x.f2, .slice A3 0 c3, .slice A4 x.f4.length c4] 25 (0, 0))) ∧ Aside0 (Chg (fun k => k = nb) w wr) ∧
          Aside0 ((∀ y ∈ x.f4.take q, Wf m y) ∧ nv + 1 + (((x.f4.take q).map (nodes m)).sum : Nat) ≤ 60))
        case atStart => exact ⟨0, rfl, ⟨by omega⟩, ⟨by simpa using HNB.out⟩, ⟨HXB.out⟩, ⟨HC.out⟩, ⟨by simp; omega⟩⟩
        case round =>
          clear HNB HXB HC
          obtain ⟨q, rfl, HJ, HNB, HXB, HC, HP⟩ := hrel
          have hbw : Below W.heap.size W _ := HB.out.trans (HC.out.below HB.out.size (fun k e => by omega))
          have HBW := Aside0.mk hbw
          clear hbw
          have cx4 := (cell_of_block (i := 4) HXB.out).trans (show _ = some _ from rfl)
          by_cases hj : q < x.f4.length
          · generalize hyy : x.f4.getD q z25 = yy
            obtain ⟨ad4, B3, b3, B4, b4, e4, hKy, f0', f1', f2', f3', f4'⟩ := nodeAt HG4.out q hj yy hyy
            subst e4
            have f0 := (HBW.out.cell (World.block_lt_of_cell? W _ f0')).trans f0'
            have f1 := (HBW.out.cell (World.block_lt_of_cell? W _ f1')).trans f1'
            have f2 := (HBW.out.cell (World.block_lt_of_cell? W _ f2')).trans f2'
            have f3 := (HBW.out.cell (World.block_lt_of_cell? W _ f3')).trans f3'
            have f4 := (HBW.out.cell (World.block_lt_of_cell? W _ f4')).trans f4'
            have HYY := Aside0.mk hyy
            have HKY := Aside0.mk hKy
            clear hyy hKy f0' f1' f2' f3' f4'
            generalize hsum : nv + 1 + (((x.f4.take q).map (nodes m)).sum : Nat) = nq at HNB HP
            have HSUM := Aside0.mk hsum
            clear hsum
            have hnq0 : 0 ≤ nq := by have := HSUM.out; omega
            go_wp2_with fail
            refine (IH.out yy (dp + 1) nq nb _ B3 b3 B4 b4 HKY.out (HZ.out.out.2.2.2 yy (by rw [← HYY.out, List.getD_eq_getElem?_getD, List.getElem?_eq_getElem hj]; exact List.getElem_mem _)) (by have := HD.out; omega) (by omega) hnq0 HP.out.2 hnb (HBW.out.alloc HBW.out.size _) ((heap_old _ (lt_of_block HNB.out)).trans HNB.out)).mono ?_
            rintro e w1 ⟨r, nv', rfl, hn1, hc1, hr1⟩
            have hc2 := (HC.out.alloc (.cells #[.int .i64 yy.f0, .string yy.f1, .string yy.f2, .slice B3 yy.f3.length b3, .slice B4 yy.f4.length b4] 25)).trans hc1 (fun k e => .inl e)
            cases r
            · have HC2 := Aside0.mk (And.intro hn1 hc2)
              clear hn1 hc1 hc2 hr1
              go_wp2_with fail
              go_ret
              exact ⟨false, _, rfl, HC2.out.1, HC2.out.2, fun h => by cases h⟩
            obtain ⟨h1, h2, h3⟩ := hr1 rfl
            have hx1 := ((hc1.block w.heap.size (by have := lt_of_block HXB.out; simp; omega) (fun e => by omega)).trans (heap_old _ (lt_of_block HXB.out))).trans HXB.out
            have HX1 := Aside0.mk hx1
            have HC2 := Aside0.mk (And.intro hn1 (And.intro hc2 (And.intro h1 (And.intro h2 h3))))
            clear hn1 hc1 hc2 hr1 h1 h2 h3 hx1
            go_wp2_with fail
            go_roundg (gk - 1)
            case measure => have := HJ.out; omega
            case rel =>
              have e2 : x.f4.take (q + 1) = x.f4.take q ++ [yy] := by
                rw [List.take_succ_eq_append_getElem hj, ← HYY.out, List.getD_eq_getElem?_getD, List.getElem?_eq_getElem hj]; rfl
              have hs := HSUM.out
              obtain ⟨h1, h2, h3, h4, h5⟩ := HC2.out
              have e3 : nv + 1 + (((x.f4.take (q + 1)).map (nodes m)).sum : Nat) = nv' := by
                rw [e2, List.map_append, List.sum_append]; simp only [List.map_cons, List.map_nil, List.sum_cons, List.sum_nil]; omega
              refine ⟨q + 1, by go_num, ⟨by have := HJ.out; omega⟩, ⟨by rw [e3]; exact h1⟩, HX1, ⟨h2⟩, ⟨fun y hy => ?_, by rw [e3]; exact h5⟩⟩
              rw [e2] at hy
              rcases List.mem_append.1 hy with h | h
              · exact HP.out.1 y h
              · rw [List.mem_singleton.1 h]; exact h3
          · have hje : q = x.f4.length := by have := HJ.out; omega
            have hp := HP.out
            have hn := HNB.out
            rw [hje, List.take_length] at hp hn
            have HPB := Aside0.mk hp
            have HNC := Aside0.mk hn
            clear hp hn hje HP HNB
            go_wp2_with fail
            go_ret
            refine ⟨_, _, rfl, HNC.out, HC.out, fun h => ⟨.inr ?_, by simp only [nodes]; omega, HPB.out.2⟩⟩
            have h4 : x.f4 ≠ [] := by
              intro e
              rw [e] at h
              simp at h
            exact ⟨HE.out.1, HE.out.2, h4, HPB.out.1, .inr ⟨K3.out, HN0.out⟩⟩
      · have n0' : 0 < x.f3.length := List.length_pos_iff.2 n0
        generalize x.f3.length = n3 at n0'
        have n0b : decide (0 < (n3 : Int)) = true := by simp; omega
        clear n0
        go_enter Try.func51, Try.ntmps51
        go_wp2_with fail
        all_goals (go_ret; exact count_false HN.out _)
    have k3' : (x.f0 == 3) = false := by simpa using k3
    clear k1 k2 k3
    go_enter Try.func51, Try.ntmps51
    go_wp2
    go_ret
    exact count_false HN.out _
end Go.Proofs.Ytigpgkfgkjabmaa
