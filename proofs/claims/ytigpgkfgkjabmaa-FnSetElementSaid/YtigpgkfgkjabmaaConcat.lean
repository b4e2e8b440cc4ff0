/-
  slices.ContainsFunc of texts that are words; slices.Concat of two rows of one text each.
-/
import Derived.Test.YtigpgkfgkjabmaaOpen
import Derived.Test.YtigpgkfgkjabmaaClone
import Derived.Lib.AppendZerosOnto
import Derived.Lib.Walk
namespace Go.Proofs.Ytigpgkfgkjabmaa
open Go.RowKit Go.Proofs.YtigpgkfgkjabmaaW.PrintWords Go.Proofs.YtigpgkfgkjabmaaW.PrintLast Go.Proofs.Ytigpgkfgkjabmaa.PFnFields
set_option linter.unusedVariables false
set_option linter.unusedSimpArgs false

theorem plainfn_calls (s : ByteArray) (hs : Word s) (w : World) : Calls Try.prog 60 #[.string s] w fun e w' => e = .returned (.bool false) ∧ Below w.heap.size w w' := by
  go_enter Try.func60, Try.ntmps60
  go_wp2_with fail
  refine (plain_calls s w hs).mono ?_
  rintro e w1 ⟨rfl, ⟨⟨n1, rfl⟩⟩⟩
  have HB := Aside0.mk (pw_below_drewN (Below.refl w.heap.size w) n1)
  generalize w.drewN n1 = w1 at HB ⊢
  go_wp2
  go_ret
  exact ⟨rfl, HB.out⟩
set_option maxRecDepth 100000 in
theorem indexstr_calls (xs : List ByteArray) (hx : ∀ x ∈ xs, Word x) (w : World) (A : Option Addr) (c : Nat) (hC : Kd.string.C w A xs.length xs) :
    Calls Try.prog 79 #[.slice A xs.length c, .func (.func 60) #[] #[]] w fun e w' => e = .returned (.int .i64 (-1)) ∧ Below w.heap.size w w' := by
  have hmx : xs.length ≤ 9223372036854775807 := hC.2.1
  have hf : ∀ (zs : Array Value) (wa : World), (callFunc 60 zs).run Try.prog wa = .ok (.enter 60 zs) wa := fun zs wa => enters_ Try.func60 rfl rfl zs wa
  have HC := Aside0.mk (And.intro hC hx)
  clear hC hx
  go_enter Try.func79, Try.ntmps79
  go_wp2_with fail
  go_loopg [8] xs.length (fun k i wr => ∃ j : Nat, i = .int .i64 j ∧ Aside0 (j ≤ xs.length ∧ k + j = xs.length) ∧ Aside0 (Below w.heap.size w wr))
  case atStart => exact ⟨0, rfl, ⟨by omega⟩, ⟨Below.refl _ _⟩⟩
  case round =>
    obtain ⟨j, rfl, HJ, HB⟩ := hrel
    by_cases hj : j < xs.length
    · obtain ⟨am, e6, fp⟩ := strAt HC.out.1 j hj
      generalize hyy : xs.getD j ByteArray.empty = yy at fp
      subst e6
      have d0 := (HB.out.cell (World.block_lt_of_cell? w _ fp)).trans fp
      have hym : yy ∈ xs := by rw [← hyy, List.getD_eq_getElem?_getD, List.getElem?_eq_getElem hj]; exact List.getElem_mem _
      have HY := Aside0.mk (HC.out.2 yy hym)
      clear hyy fp hym
      go_wp2_with fail
      refine (plainfn_calls yy HY.out wr).mono ?_
      rintro e w1 ⟨rfl, hb⟩
      have HB1 := Aside0.mk (HB.out.trans (hb.mono HB.out.size))
      clear hb d0
      go_wp2_with fail
      go_roundg (gk - 1)
      case measure => have := HJ.out; omega
      case rel => exact ⟨j + 1, by go_num, ⟨by have := HJ.out; omega⟩, HB1⟩
    · go_wp2_with fail
      go_ret
      exact ⟨rfl, HB.out⟩
theorem containsstr_calls (xs : List ByteArray) (hx : ∀ x ∈ xs, Word x) (w : World) (A : Option Addr) (c : Nat) (hC : Kd.string.C w A xs.length xs) :
    Calls Try.prog 58 #[.slice A xs.length c, .func (.func 60) #[] #[]] w fun e w' => e = .returned (.bool false) ∧ Below w.heap.size w w' := by
  have HC := Aside0.mk (And.intro hC hx)
  clear hC hx
  go_enter Try.func58, Try.ntmps58
  go_wp2_with fail
  refine (indexstr_calls xs HC.out.2 w A c HC.out.1).mono ?_
  rintro e w1 ⟨rfl, hb⟩
  have HB := Aside0.mk hb
  clear hb
  go_wp2
  go_ret
  exact ⟨rfl, HB.out⟩
def GrowPost (w : World) (e : Ending) (w' : World) : Prop := ∃ g c, e = .returned (.slice (some ⟨g, 0, none⟩) 0 c) ∧ Kd.string.R 9 w' w.heap.size (fun _ => True) (.slice (some ⟨g, 0, none⟩) 0 c) [] ∧ Below w.heap.size w w'
set_option maxRecDepth 100000 in
theorem grow2_calls (w : World) : Calls Try.prog 80 #[.slice none 0 0, .int .i64 2] w (GrowPost w) := by
  obtain ⟨i0, hi0, hzz⟩ := Option.map_eq_some_iff.1 Try.infoStr
  simp only [Prod.mk.injEq] at hzz
  obtain ⟨hz0, hz1, hz2⟩ := hzz
  have hold : (Builtin.firstCells i0.size 0 (.slice none 0 0)).run Try.prog w.drew = .ok (([] : List Value).toArray) w.drew := run_firstCells_none w.drew i0.size 0 0 0
  have hrz : ∀ ty, (Builtin.append_ #[22, 3] ty #[.slice none 0 0, .int .i64 2]).run Try.prog w =
      .ok (.slice (some ⟨w.heap.size, 0, none⟩) 2 (grownCap w 2 0 9)) (w.drew.alloc (.cells (([] : List Value).toArray ++ Builtin.zeroCells (Value.string ⟨#[]⟩).cells 2 ++ Builtin.zeroCells (Value.string ⟨#[]⟩).cells (grownCap w 2 0 9 - 2)) 9)) := fun ty =>
    Lib.run_append_grow_zeros w 22 3 ty 9 i0 (.string ⟨#[]⟩) .i64 .i64 Try.underlying22 Try.underlying3 hi0 hz0 none 0 0 [] hold 2 (by decide) (by rw [hz1]; decide) (by decide) (by decide) (by rw [hz2]; decide) (by rw [hz2]; decide +kernel)
  have hGn : 2 ≤ grownCap w 2 0 9 := grownCap_ge w _ _ _
  have hGm : grownCap w 2 0 9 ≤ maxLen := grownCap_le_maxLen w 2 0 9 (by unfold maxLen; omega)
  generalize grownCap w 2 0 9 = G at hrz hGn hGm
  have hsz : (([] : List Value).toArray ++ Builtin.zeroCells (Value.string ⟨#[]⟩).cells 2 ++ Builtin.zeroCells (Value.string ⟨#[]⟩).cells (G - 2)).size = G * 1 := by
    simp only [Array.size_append, size_zeroCells]
    simp [Value.cells]
    omega
  generalize (([] : List Value).toArray ++ Builtin.zeroCells (Value.string ⟨#[]⟩).cells 2 ++ Builtin.zeroCells (Value.string ⟨#[]⟩).cells (G - 2)) = zs at hrz hsz
  have hG63 : G ≤ 9223372036854775807 := by unfold maxLen at hGm; omega
  have HG := Aside0.mk (And.intro hGn (And.intro hGm hsz))
  clear hold hi0 hz0 hz1 hz2 hsz
  go_enter Try.func80, Try.ntmps80
  go_wp2_with (at_builtin; refine Lib.wpList_append_run _ rfl _ _ _ _ rfl _ _ rfl rfl _ _ (hrz _) ?_)
  all_goals go_ret
  refine ⟨w.heap.size, G, rfl, ⟨fun _ _ => trivial, [], ⟨by simp, .inr ⟨w.heap.size, G, zs, rfl, Nat.le_refl _, heap_at _ rfl, Nat.zero_le _, HG.out.2.1, HG.out.2.2, by simp⟩⟩, Reps.none _ _⟩, ?_⟩
  exact (Below.refl _ _).drew.alloc (Nat.le_refl _) _
def ConcatPost (w : World) (xs : List ByteArray) (e : Ending) (w' : World) : Prop := Below w.heap.size w w' ∧ ∃ A c, e = .returned (.slice A xs.length c) ∧ Kd.string.R 9 w' w.heap.size (fun _ => True) (.slice A xs.length c) xs
set_option maxRecDepth 100000 in
set_option maxHeartbeats 800000 in
theorem concat2_calls (w : World) (g c : Nat) (xs : List ByteArray) (h2 : xs.length = 2) (A : Nat → Option Addr) (ca : Nat → Nat) (hcell : ∀ j, j < 2 → w.cell? ⟨g, j, none⟩ = some (.slice (A j) 1 (ca j))) (hC : ∀ j, j < 2 → Kd.string.C w (A j) 1 [xs.getD j ByteArray.empty]) :
    Calls Try.prog 59 #[.slice (some ⟨g, 0, none⟩) 2 c] w (ConcatPost w xs) := by
  have H := Aside0.mk (And.intro hcell (And.intro hC h2))
  clear hcell hC h2
  go_enter Try.func59, Try.ntmps59
  go_wp2_with fail
  go_loopg [11, 3] 2 (fun k i s wr => ∃ j : Nat, i = .int .i64 j ∧ s = .int .i64 j ∧ Aside0 (j ≤ 2 ∧ k + j = 2) ∧ Aside0 (wr = w))
  case atStart => exact ⟨0, rfl, rfl, ⟨by omega⟩, ⟨rfl⟩⟩
  case round =>
    obtain ⟨j, rfl, rfl, HJ, HW⟩ := hrel
    obtain rfl : w = wr := HW.out.symm
    have hq0 : (0 : Int) ≤ (j : Int) := Int.natCast_nonneg _
    have hq1 : (j : Int) ≤ 4000 := by have := HJ.out; omega
    by_cases hj : j < 2
    · have hcj := H.out.1 j hj
      generalize A j = Aj at hcj
      generalize ca j = cj at hcj
      have hj0 : decide ((j : Int) + 1 < 0) = false := by simp; omega
      go_wp2_with fail
      go_roundg (gk - 1)
      case measure => have := HJ.out; omega
      case rel => exact ⟨j + 1, by go_num, by go_num, ⟨by have := HJ.out; omega⟩, ⟨rfl⟩⟩
    · have hje : j = 2 := by have := HJ.out; omega
      subst hje
      go_wp2_with fail
      refine (grow2_calls w).mono ?_
      rintro e w1 ⟨g1, c1, rfl, hr1, hb1⟩
      have H1 := Aside0.mk (And.intro hr1 hb1)
      clear hr1 hb1
      go_wp2_with fail
      go_loopg [27, 6] 2 (fun k i l w2 => ∃ (j : Nat) (B : Option Addr) (d : Nat), i = .int .i64 j ∧ l = .slice B j d ∧ Aside0 (j ≤ 2 ∧ k + j = 2) ∧ Aside0 (Below w.heap.size w w2) ∧ Aside0 (Kd.string.R 9 w2 w.heap.size (fun _ => True) (.slice B j d) (xs.take j)))
      case atStart => exact ⟨0, some ⟨g1, 0, none⟩, c1, rfl, rfl, ⟨by omega⟩, ⟨H1.out.2⟩, ⟨by simpa using H1.out.1⟩⟩
      case round =>
        obtain ⟨j, B, d, rfl, rfl, HJ2, HB2, HR2⟩ := hrel
        have hq2 : (0 : Int) ≤ (j : Int) := Int.natCast_nonneg _
        have hq3 : (j : Int) ≤ 4000 := by have := HJ2.out; omega
        by_cases hj2 : j < 2
        · have hcj := H.out.1 j hj2
          have hCj := H.out.2.1 j hj2
          generalize A j = Aj at hcj hCj
          generalize ca j = cj at hcj
          obtain ⟨y, hy⟩ : ∃ y, y = xs.getD j ByteArray.empty := ⟨_, rfl⟩
          rw [← hy] at hCj
          have hcj2 := (HB2.out.cell (World.block_lt_of_cell? _ _ hcj)).trans hcj
          have HCJ := Aside0.mk (Kd.C_below hCj HB2.out)
          have hxl := H.out.2.2
          have htk : xs.take (j + 1) = xs.take j ++ [y] := by
            rw [List.take_succ_eq_append_getElem (by omega), hy, List.getD_eq_getElem?_getD, List.getElem?_eq_getElem (by omega)]; rfl
          have HTK := Aside0.mk htk
          have hlt : (xs.take j).length = j := by rw [List.length_take]; omega
          have HLT := Aside0.mk hlt
          obtain ⟨m, hm⟩ : ∃ m, m = 1 := ⟨_, rfl⟩
          rw [← hm] at hcj2
          have HM := Aside0.mk hm
          have HC1 : Aside0 (Kd.string.C wr Aj m [y]) := ⟨by rw [hm]; exact HCJ.out⟩
          clear hcj hCj hy htk hxl hlt hm HCJ
          go_wp2_with ((with_reducible refine gate_builtin (b := .append) (xs := #[.tmp 31, .tmp 32]) rfl ?_); at_builtin; (refine Kd.R_append_rows Kd.string (Rr := Kd.string.K _) (w0 := w) w.heap.size rfl (.tmp 31) (.tmp 32) 22 9 (.string ⟨#[]⟩) 16 rfl Try.underlying22 Try.infoStr rfl (by decide) (by decide) _ (xs.take j) [y] _ m cj (fun _ => True) (fun _ => False) rfl rfl HR2.out HC1.out (fun _ _ h => h) (fun _ h => h.elim) (fun _ _ => trivial) HB2.out HB2.out.size (by have := HJ2.out; have := HLT.out; have := HM.out; simp; omega) ?_); (intro v1 w4 hr4 hb4 hg4 hat4); (obtain ⟨B4, d4, rfl, _, _⟩ := Kd.R_reads hr4); (have HR4 := Aside0.mk (And.intro hr4 hb4)); clear hr4 hb4 hg4 hat4)
          go_roundg (gk - 1)
          case measure => have := HJ2.out; omega
          case rel =>
            have hlen : (xs.take j ++ [y]).length = j + 1 := by rw [List.length_append, HLT.out]; rfl
            refine ⟨j + 1, B4, d4, by go_num, by rw [show min j xs.length + 1 = j + 1 by have := H.out.2.2; omega], ⟨by have := HJ2.out; omega⟩, ⟨HR4.out.2⟩, ⟨?_⟩⟩
            rw [HTK.out, ← hlen]
            exact HR4.out.1
        · have hje2 : j = 2 := by have := HJ2.out; omega
          have hR := HR2.out
          rw [List.take_of_length_le (by have := H.out.2.2; omega)] at hR
          have hxl := H.out.2.2
          rw [hje2] at hR
          have HFIN := Aside0.mk (And.intro hxl hR)
          clear hR hxl HR2
          subst hje2
          go_wp2
          refine bodyPost_ret (v := .slice B 2 d) (by simp [results, Try.results59, go_sem]) rfl ⟨HB2.out, B, d, by rw [HFIN.out.1], by rw [HFIN.out.1]; exact HFIN.out.2⟩
end Go.Proofs.Ytigpgkfgkjabmaa
