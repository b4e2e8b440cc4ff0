/-
  laws.FnFields: a map's keys and values are told in order; a list has none.
-/
import Derived.Test.YtigpgkfgkjabmaaStep
namespace Go.Proofs.Ytigpgkfgkjabmaa
open Go.RowKit Go.Proofs.YtigpgkfgkjabmaaW.PrintWords Go.Proofs.YtigpgkfgkjabmaaW.PrintLast Go.Proofs.Ytigpgkfgkjabmaa.PFnFields
set_option linter.unusedVariables false
set_option linter.unusedSimpArgs false

theorem Wf.up : ∀ {d : Nat} {x : S25}, Wf d x → Wf (d + 1) x ∧ nodes (d + 1) x = nodes d x
  | 0, _, h => h.elim
  | d + 1, x, h => by
    have hi := h.items
    have hn : nodes (d + 2) x = nodes (d + 1) x := by
      simp only [nodes]
      congr 2
      exact List.map_congr_left fun y hy => (Wf.up (hi y hy)).2
    refine ⟨?_, hn⟩
    rcases h with h1 | ⟨h1, h2, h3, h4, h5⟩
    · exact .inl h1
    · exact .inr ⟨h1, h2, h3, fun y hy => (Wf.up (h4 y hy)).1, h5⟩
theorem Tree.item {x y : S25} (h : Tree x) (hy : y ∈ x.f4) : Tree y := by
  have h1 := h.1.items (d := 5) y hy
  have h2 := nodes_item (d := 5) hy
  have h3 : nodes (5 + 1) x ≤ 60 := h.2
  obtain ⟨h4, h5⟩ := h1.up
  exact ⟨h4, by show nodes (5 + 1) y ≤ 60; omega⟩

/-- Where the two arguments stand. -/
structure Vars2 (w wc : World) (x : S25) (A3 : Option Addr) (c3 : Nat) (A4 : Option Addr) (c4 : Nat) (y : S25) (B3 : Option Addr) (d3 : Nat) (B4 : Option Addr) (d4 : Nat) : Prop where
  below : Below w.heap.size w wc
  x : inVar wc w.heap.size x A3 c3 A4 c4
  y : inVar wc (w.heap.size + 1) y B3 d3 B4 d4
theorem Vars2.next {w wc w' : World} {x : S25} {A3 : Option Addr} {c3 : Nat} {A4 : Option Addr} {c4 : Nat} {y : S25} {B3 : Option Addr} {d3 : Nat} {B4 : Option Addr} {d4 : Nat}
    (h : Vars2 w wc x A3 c3 A4 c4 y B3 d3 B4 d4) (hb : Below wc.heap.size wc w') : Vars2 w w' x A3 c3 A4 c4 y B3 d3 B4 d4 :=
  ⟨h.below.trans (hb.mono h.below.size), (hb.block _ (lt_of_block h.x)).trans h.x, (hb.block _ (lt_of_block h.y)).trans h.y⟩

def law12.T : Bool × List (List Nat × List Nat) := (true, [([], []), ([], []), ([0, 1], [0, 1]), ([2], [2]), ([], []), ([4], [4]), ([], []), ([5, 6], [5, 6]), ([7], [7]), ([3, 8], [3, 8]), ([9], [9])])
def law12.B : List Nat := [0, 0, 3, 7, 0, 16, 0, 112, 240, 511, 1023]
theorem law12.tab : rtab .any (opsOf Try.f4 12) = law12.T := by kernel_rfl
theorem law12.bits : waitsOk law12.T.2 law12.B = true := by kernel_rfl
def LawPost2 (w : World) (e : Ending) (w' : World) : Prop := e = .returned (.bool true) ∧ Below w.heap.size w w'
set_option maxRecDepth 100000 in
set_option maxHeartbeats 3200000 in
theorem fieldslaw_calls (x y : S25) (hz : Sz x) (hz2 : Sz y) (w : World) (A3 : Option Addr) (c3 : Nat) (A4 : Option Addr) (c4 : Nat) (B3 : Option Addr) (d3 : Nat) (B4 : Option Addr) (d4 : Nat)
    (hK : k25.K w x [.int .i64 x.f0, .string x.f1, .string x.f2, .slice A3 x.f3.length c3, .slice A4 x.f4.length c4])
    (hK2 : k25.K w y [.int .i64 y.f0, .string y.f1, .string y.f2, .slice B3 y.f3.length d3, .slice B4 y.f4.length d4]) :
    Calls Try.prog 4 #[.agg #[.int .i64 x.f0, .string x.f1, .string x.f2, .slice A3 x.f3.length c3, .slice A4 x.f4.length c4], .agg #[.int .i64 y.f0, .string y.f1, .string y.f2, .slice B3 y.f3.length d3, .slice B4 y.f4.length d4]] w (LawPost2 w) := by
  have hu := Try.underlying25
  have HK := Aside0.mk hK
  have HK2 := Aside0.mk hK2
  have HZ := Aside0.mk (And.intro hz hz2)
  clear hK hK2 hz hz2
  go_enter Try.func4, Try.ntmps4
  go_wp2_with fail
  obtain ⟨w0, e0⟩ : ∃ w0, w0 = (w.alloc (.cells #[.int .i64 x.f0, .string x.f1, .string x.f2, .slice A3 x.f3.length c3, .slice A4 x.f4.length c4] 25)).alloc (.cells #[.int .i64 y.f0, .string y.f1, .string y.f2, .slice B3 y.f3.length d3, .slice B4 y.f4.length d4] 25) := ⟨_, rfl⟩
  rw [← e0]
  have HV0 : Aside0 (Vars2 w w0 x A3 c3 A4 c4 y B3 d3 B4 d4) := ⟨by rw [e0]; exact ((Below.refl _ _).alloc (Nat.le_refl _) _).alloc (by simp) _, by rw [e0]; exact (heap_old _ (by simp)).trans (heap_at _ rfl), by rw [e0]; exact heap_at _ (by simp)⟩
  clear e0
  refine (fits1_calls x w0 A3 c3 A4 c4 (k25.K_below HV0.out.below HK.out)).mono ?_
  rintro e w1 ⟨r, rfl, hb, _⟩
  have HV1 := Aside0.mk (HV0.out.next hb)
  clear hb HV0
  cases r
  · go_wp2
    go_ret
    exact ⟨rfl, HV1.out.below⟩
  have HX := Aside0.mk HV1.out.x
  have HY := Aside0.mk HV1.out.y
  have cr0 := (cell_of_block (i := 0) HX.out).trans (show _ = some _ from rfl); have cr1 := (cell_of_block (i := 1) HX.out).trans (show _ = some _ from rfl); have cr2 := (cell_of_block (i := 2) HX.out).trans (show _ = some _ from rfl); have cr3 := (cell_of_block (i := 3) HX.out).trans (show _ = some _ from rfl); have cr4 := (cell_of_block (i := 4) HX.out).trans (show _ = some _ from rfl); have zr0 := frozen_of_block (i := 0) HX.out; have zr1 := frozen_of_block (i := 1) HX.out; have zr2 := frozen_of_block (i := 2) HX.out; have zr3 := frozen_of_block (i := 3) HX.out; have zr4 := frozen_of_block (i := 4) HX.out
  have cs0 := (cell_of_block (i := 0) HY.out).trans (show _ = some _ from rfl); have cs1 := (cell_of_block (i := 1) HY.out).trans (show _ = some _ from rfl); have cs2 := (cell_of_block (i := 2) HY.out).trans (show _ = some _ from rfl); have cs3 := (cell_of_block (i := 3) HY.out).trans (show _ = some _ from rfl); have cs4 := (cell_of_block (i := 4) HY.out).trans (show _ = some _ from rfl); have zs0 := frozen_of_block (i := 0) HY.out; have zs1 := frozen_of_block (i := 1) HY.out; have zs2 := frozen_of_block (i := 2) HY.out; have zs3 := frozen_of_block (i := 3) HY.out; have zs4 := frozen_of_block (i := 4) HY.out
  go_wp2_with fail
  refine (fits1_calls y w1 B3 d3 B4 d4 (k25.K_below HV1.out.below HK2.out)).mono ?_
  rintro e w2 ⟨r, rfl, hb, _⟩
  have HV2 := Aside0.mk (HV1.out.next hb)
  clear hb HV1 HX HY cr0 cr1 cr2 cr3 cr4 zr0 zr1 zr2 zr3 zr4 cs0 cs1 cs2 cs3 cs4 zs0 zs1 zs2 zs3 zs4
  cases r
  · go_wp2
    go_ret
    exact ⟨rfl, HV2.out.below⟩
  have HX := Aside0.mk HV2.out.x
  have HY := Aside0.mk HV2.out.y
  have cr0 := (cell_of_block (i := 0) HX.out).trans (show _ = some _ from rfl); have cr1 := (cell_of_block (i := 1) HX.out).trans (show _ = some _ from rfl); have cr2 := (cell_of_block (i := 2) HX.out).trans (show _ = some _ from rfl); have cr3 := (cell_of_block (i := 3) HX.out).trans (show _ = some _ from rfl); have cr4 := (cell_of_block (i := 4) HX.out).trans (show _ = some _ from rfl); have zr0 := frozen_of_block (i := 0) HX.out; have zr1 := frozen_of_block (i := 1) HX.out; have zr2 := frozen_of_block (i := 2) HX.out; have zr3 := frozen_of_block (i := 3) HX.out; have zr4 := frozen_of_block (i := 4) HX.out
  have cs0 := (cell_of_block (i := 0) HY.out).trans (show _ = some _ from rfl); have cs1 := (cell_of_block (i := 1) HY.out).trans (show _ = some _ from rfl); have cs2 := (cell_of_block (i := 2) HY.out).trans (show _ = some _ from rfl); have cs3 := (cell_of_block (i := 3) HY.out).trans (show _ = some _ from rfl); have cs4 := (cell_of_block (i := 4) HY.out).trans (show _ = some _ from rfl); have zs0 := frozen_of_block (i := 0) HY.out; have zs1 := frozen_of_block (i := 1) HY.out; have zs2 := frozen_of_block (i := 2) HY.out; have zs3 := frozen_of_block (i := 3) HY.out; have zs4 := frozen_of_block (i := 4) HY.out
  go_wp2_with fail
  refine (isMap_calls x w2 A3 c3 A4 c4 (k25.K_below HV2.out.below HK.out) HZ.out.1).mono ?_
  rintro e w3 ⟨r, rfl, hb, hmap⟩
  have HV3 := Aside0.mk (HV2.out.next hb)
  clear hb HV2 HX HY cr0 cr1 cr2 cr3 cr4 zr0 zr1 zr2 zr3 zr4 cs0 cs1 cs2 cs3 cs4 zs0 zs1 zs2 zs3 zs4
  cases r
  · clear hmap
    go_wp2
    go_ret
    exact ⟨rfl, HV3.out.below⟩
  have HM := Aside0.mk (hmap rfl)
  clear hmap
  have HX := Aside0.mk HV3.out.x
  have HY := Aside0.mk HV3.out.y
  have cr0 := (cell_of_block (i := 0) HX.out).trans (show _ = some _ from rfl); have cr1 := (cell_of_block (i := 1) HX.out).trans (show _ = some _ from rfl); have cr2 := (cell_of_block (i := 2) HX.out).trans (show _ = some _ from rfl); have cr3 := (cell_of_block (i := 3) HX.out).trans (show _ = some _ from rfl); have cr4 := (cell_of_block (i := 4) HX.out).trans (show _ = some _ from rfl); have zr0 := frozen_of_block (i := 0) HX.out; have zr1 := frozen_of_block (i := 1) HX.out; have zr2 := frozen_of_block (i := 2) HX.out; have zr3 := frozen_of_block (i := 3) HX.out; have zr4 := frozen_of_block (i := 4) HX.out
  have cs0 := (cell_of_block (i := 0) HY.out).trans (show _ = some _ from rfl); have cs1 := (cell_of_block (i := 1) HY.out).trans (show _ = some _ from rfl); have cs2 := (cell_of_block (i := 2) HY.out).trans (show _ = some _ from rfl); have cs3 := (cell_of_block (i := 3) HY.out).trans (show _ = some _ from rfl); have cs4 := (cell_of_block (i := 4) HY.out).trans (show _ = some _ from rfl); have zs0 := frozen_of_block (i := 0) HY.out; have zs1 := frozen_of_block (i := 1) HY.out; have zs2 := frozen_of_block (i := 2) HY.out; have zs3 := frozen_of_block (i := 3) HY.out; have zs4 := frozen_of_block (i := 4) HY.out
  go_wp2_with fail
  refine (isList_calls y w3 B3 d3 B4 d4 (k25.K_below HV3.out.below HK2.out) HZ.out.2).mono ?_
  rintro e w4 ⟨r, rfl, hb, hlist⟩
  have HV4 := Aside0.mk (HV3.out.next hb)
  clear hb HV3 HX HY cr0 cr1 cr2 cr3 cr4 zr0 zr1 zr2 zr3 zr4 cs0 cs1 cs2 cs3 cs4 zs0 zs1 zs2 zs3 zs4
  cases r
  · clear hlist
    go_wp2
    go_ret
    exact ⟨rfl, HV4.out.below⟩
  have HM2 := Aside0.mk (hlist rfl)
  clear hlist
  have HX := Aside0.mk HV4.out.x
  have cr0 := (cell_of_block (i := 0) HX.out).trans (show _ = some _ from rfl); have cr1 := (cell_of_block (i := 1) HX.out).trans (show _ = some _ from rfl); have cr2 := (cell_of_block (i := 2) HX.out).trans (show _ = some _ from rfl); have cr3 := (cell_of_block (i := 3) HX.out).trans (show _ = some _ from rfl); have cr4 := (cell_of_block (i := 4) HX.out).trans (show _ = some _ from rfl); have zr0 := frozen_of_block (i := 0) HX.out; have zr1 := frozen_of_block (i := 1) HX.out; have zr2 := frozen_of_block (i := 2) HX.out; have zr3 := frozen_of_block (i := 3) HX.out; have zr4 := frozen_of_block (i := 4) HX.out
  go_wp2_with fail
  have hkx : keysIf x = x.f3 := if_pos HM.out.1
  have hix : itemsIf x = x.f4 := if_pos HM.out.1
  have h2b : (x.f0 == 2) = true := by simpa using HM.out.1
  have HKX := Aside0.mk (And.intro hkx (And.intro hix h2b))
  clear hkx hix h2b
  refine (fields_calls x HM.out.2 (.inl HM.out.1) w4 A3 c3 A4 c4 (k25.K_below HV4.out.below HK.out)).mono ?_
  rintro e w5 ⟨hb, kvv, rfl, hr⟩
  rw [HKX.out.2.2]
  rw [HKX.out.1] at hr
  obtain ⟨K5, k5, rfl, hk5, hC5⟩ := Kd.R_reads hr
  have HV5 := Aside0.mk (HV4.out.next hb)
  have HC5 := Aside0.mk (And.intro hC5 hk5)
  clear hb HV4 HX cr0 cr1 cr2 cr3 cr4 zr0 zr1 zr2 zr3 zr4 hr hC5 hk5
  have HX := Aside0.mk HV5.out.x
  have cr0 := (cell_of_block (i := 0) HX.out).trans (show _ = some _ from rfl); have cr1 := (cell_of_block (i := 1) HX.out).trans (show _ = some _ from rfl); have cr2 := (cell_of_block (i := 2) HX.out).trans (show _ = some _ from rfl); have cr3 := (cell_of_block (i := 3) HX.out).trans (show _ = some _ from rfl); have cr4 := (cell_of_block (i := 4) HX.out).trans (show _ = some _ from rfl); have zr0 := frozen_of_block (i := 0) HX.out; have zr1 := frozen_of_block (i := 1) HX.out; have zr2 := frozen_of_block (i := 2) HX.out; have zr3 := frozen_of_block (i := 3) HX.out; have zr4 := frozen_of_block (i := 4) HX.out
  go_wp2_with fail
  refine (visit_calls x HM.out.2 (.inl HM.out.1) w5 A3 c3 A4 c4 (k25.K_below HV5.out.below HK.out)).mono ?_
  rintro e w6 ⟨hb, kvv, ivv, rfl, hr, hr2⟩
  rw [HKX.out.2.2]
  rw [HKX.out.1] at hr
  rw [HKX.out.2.1] at hr2
  obtain ⟨K6, k6, rfl, hk6, hC6⟩ := Kd.R_reads hr
  obtain ⟨I6, i6, rfl, hi6, hI6⟩ := Kd.R_reads hr2
  have HV6 := Aside0.mk (HV5.out.next hb)
  have HC6 := Aside0.mk (And.intro (Kd.C_below HC5.out.1 hb) (And.intro HC5.out.2 (And.intro hC6 (And.intro hk6 (And.intro hI6 hi6)))))
  clear hb HV5 HC5 HX cr0 cr1 cr2 cr3 cr4 zr0 zr1 zr2 zr3 zr4 hr hr2 hC6 hk6 hI6 hi6
  obtain ⟨g3, hg3, g4⟩ : ∃ q : Kd.string.C w A3 x.f3.length x.f3, x.f3.length ≤ c3 ∧ k25.C w A4 x.f4.length x.f4 := by
    obtain ⟨_, _, _, _, he, l3, g3, l4, g4⟩ := k25_open HK.out
    simp only [List.cons.injEq, Value.slice.injEq, true_and, and_true] at he
    obtain ⟨⟨rfl, rfl⟩, rfl, rfl⟩ := he
    exact ⟨g3, l3, g4⟩
  have HG := Aside0.mk (And.intro g3 (And.intro hg3 g4))
  clear g3 hg3 g4
  have HX := Aside0.mk HV6.out.x
  have cr0 := (cell_of_block (i := 0) HX.out).trans (show _ = some _ from rfl); have cr1 := (cell_of_block (i := 1) HX.out).trans (show _ = some _ from rfl); have cr2 := (cell_of_block (i := 2) HX.out).trans (show _ = some _ from rfl); have cr3 := (cell_of_block (i := 3) HX.out).trans (show _ = some _ from rfl); have cr4 := (cell_of_block (i := 4) HX.out).trans (show _ = some _ from rfl); have zr0 := frozen_of_block (i := 0) HX.out; have zr1 := frozen_of_block (i := 1) HX.out; have zr2 := frozen_of_block (i := 2) HX.out; have zr3 := frozen_of_block (i := 3) HX.out; have zr4 := frozen_of_block (i := 4) HX.out
  go_wp2_with fail
  refine (lsame_calls x.f3 w6 K5 k5 A3 c3 HC6.out.1 HC6.out.2.1 (Kd.C_below HG.out.1 HV6.out.below) HG.out.2.1).mono ?_
  rintro e w7 ⟨rfl, ⟨⟨n1, rfl⟩⟩⟩
  go_wp2_with fail
  refine (lsame_calls x.f3 _ K6 k6 A3 c3 (Kd.C_drewN HC6.out.2.2.1 n1) HC6.out.2.2.2.1 (Kd.C_drewN (Kd.C_below HG.out.1 HV6.out.below) n1) HG.out.2.1).mono ?_
  rintro e w7 ⟨rfl, ⟨⟨n2, rfl⟩⟩⟩
  obtain ⟨w8, e8⟩ : ∃ w8, w8 = (w6.drewN n1).drewN n2 := ⟨_, rfl⟩
  have hb8 : Below w6.heap.size w6 w8 := by rw [e8]; exact pw_below_drewN (pw_below_drewN (Below.refl _ _) n1) n2
  have HV8 := Aside0.mk (HV6.out.next hb8)
  have HI8 := Aside0.mk (And.intro (Kd.C_below HC6.out.2.2.2.2.1 hb8) (Kd.C_below HG.out.2.2 HV8.out.below))
  try rw [← e8]
  clear hb8 e8 HV6 HC6 HX cr0 cr1 cr2 cr3 cr4 zr0 zr1 zr2 zr3 zr4
  have hm4 : x.f4.length ≤ 9223372036854775807 := HI8.out.1.2.1
  have HX := Aside0.mk HV8.out.x
  have cr0 := (cell_of_block (i := 0) HX.out).trans (show _ = some _ from rfl); have cr1 := (cell_of_block (i := 1) HX.out).trans (show _ = some _ from rfl); have cr2 := (cell_of_block (i := 2) HX.out).trans (show _ = some _ from rfl); have cr3 := (cell_of_block (i := 3) HX.out).trans (show _ = some _ from rfl); have cr4 := (cell_of_block (i := 4) HX.out).trans (show _ = some _ from rfl); have zr0 := frozen_of_block (i := 0) HX.out; have zr1 := frozen_of_block (i := 1) HX.out; have zr2 := frozen_of_block (i := 2) HX.out; have zr3 := frozen_of_block (i := 3) HX.out; have zr4 := frozen_of_block (i := 4) HX.out
  go_wp2_with fail
  clear HX cr0 cr1 cr2 cr3 cr4 zr0 zr1 zr2 zr3 zr4
  go_loopg [73] x.f4.length (fun k i wr => ∃ j : Nat, i = .int .i64 j ∧ Aside0 (j ≤ x.f4.length ∧ k + j = x.f4.length) ∧ Aside0 (Below w8.heap.size w8 wr))
  case atStart => exact ⟨0, rfl, ⟨by omega⟩, ⟨Below.refl _ _⟩⟩
  case round =>
    obtain ⟨j, rfl, HJ, HB⟩ := hrel
    by_cases hj : j < x.f4.length
    · generalize hyy : x.f4.getD j z25 = yy
      obtain ⟨am, P3, p3, P4, p4, e6, hKp, fp0, fp1, fp2, fp3, fp4⟩ := nodeAt HI8.out.1 j hj yy hyy
      obtain ⟨an, Q3, q3, Q4, q4, e7, hKq, fq0, fq1, fq2, fq3, fq4⟩ := nodeAt HI8.out.2 j hj yy hyy
      subst e6 e7
      have hym : yy ∈ x.f4 := by rw [← hyy, List.getD_eq_getElem?_getD, List.getElem?_eq_getElem hj]; exact List.getElem_mem _
      have old : ∀ {a : Addr} {v : Value}, w8.cell? a = some v → wr.drew.cell? a = some v := fun {a v} h => (HB.out.cell (World.block_lt_of_cell? w8 a h)).trans h
      have cx : w8.cell? ⟨w.heap.size, 4, none⟩ = some (.slice (some an) x.f4.length c4) := by rw [cell_of_block HV8.out.x]; rfl
      have HS := Aside0.mk (And.intro (old fp0) (And.intro (old fp1) (And.intro (old fp2) (And.intro (old fp3) (And.intro (old fp4) (And.intro (old cx) (And.intro (old fq0) (And.intro (old fq1) (And.intro (old fq2) (And.intro (old fq3) (old fq4)))))))))))
      have HSM := Aside0.mk (And.intro (HM.out.2.item hym) (And.intro (k25.K_below HB.out hKp) (k25.K_below HB.out hKq)))
      clear hyy hKp fp0 fp1 fp2 fp3 fp4 hKq fq0 fq1 fq2 fq3 fq4 hym old cx
      go_wp2_with fail
      refine start_ (n := 11) (S := fun w' => w'.cell? (am.add (j * 5)) = some (.int .i64 yy.f0) ∧ w'.cell? ⟨(am.add (j * 5)).block, (am.add (j * 5)).off + 1, none⟩ = some (.string yy.f1) ∧ w'.cell? ⟨(am.add (j * 5)).block, (am.add (j * 5)).off + 2, none⟩ = some (.string yy.f2) ∧ w'.cell? ⟨(am.add (j * 5)).block, (am.add (j * 5)).off + 3, none⟩ = some (.slice P3 yy.f3.length p3) ∧ w'.cell? ⟨(am.add (j * 5)).block, (am.add (j * 5)).off + 4, none⟩ = some (.slice P4 yy.f4.length p4) ∧ w'.cell? ⟨w.heap.size, 4, none⟩ = some (.slice (some an) x.f4.length c4) ∧ w'.cell? (an.add (j * 5)) = some (.int .i64 yy.f0) ∧ w'.cell? ⟨(an.add (j * 5)).block, (an.add (j * 5)).off + 1, none⟩ = some (.string yy.f1) ∧ w'.cell? ⟨(an.add (j * 5)).block, (an.add (j * 5)).off + 2, none⟩ = some (.string yy.f2) ∧ w'.cell? ⟨(an.add (j * 5)).block, (an.add (j * 5)).off + 3, none⟩ = some (.slice Q3 yy.f3.length q3) ∧ w'.cell? ⟨(an.add (j * 5)).block, (an.add (j * 5)).off + 4, none⟩ = some (.slice Q4 yy.f4.length q4)) (ds := [9]) #[false, false, false, false, false, false, false, false, false, false, false] (by kernel_rfl) rfl rfl HS.out (fun hHeld => ?_)
      refine with_tabW (T := law12.T) (B := law12.B) law12.tab law12.bits (fun HT_ HW_ => ?_)
      refine pure_ (i := 0) (N := (some 76)) (v := ?_) (a' := ?_) #[true, false, false, false, false, false, false, false, false, false, false] rfl rfl (any_of HT_.out (by kernel_rfl)) (fun _ _ _ h => h) (Or.inl ⟨by rfl, ?_⟩) ?_ ?_
      rotate_left
      · intro w'
        go_simp
        with_reducible rfl
      rotate_left
      · simp only [Act.put, List.setIfInBounds_toArray, List.set_cons_zero, List.set_cons_succ, i64_w, i32_w]
        rfl
      refine pure_ (i := 1) (N := (some 77)) (v := ?_) (a' := ?_) #[true, true, false, false, false, false, false, false, false, false, false] rfl rfl (any_of HT_.out (by kernel_rfl)) (fun _ _ _ h => h) (Or.inl ⟨by rfl, ?_⟩) ?_ ?_
      rotate_left
      · intro w'
        go_simp
        with_reducible rfl
      rotate_left
      · simp only [Act.put, List.setIfInBounds_toArray, List.set_cons_zero, List.set_cons_succ, i64_w, i32_w]
        rfl
      refine pure_ (i := 2) (N := (some 78)) (v := ?_) (a' := ?_) #[true, true, true, false, false, false, false, false, false, false, false] rfl rfl (any_of HT_.out (by kernel_rfl)) (fun _ _ _ h => h) (Or.inl ⟨by rfl, ?_⟩) ?_ ?_
      rotate_left
      · intro w'
        go_simp
        with_reducible rfl
      rotate_left
      · simp only [Act.put, List.setIfInBounds_toArray, List.set_cons_zero, List.set_cons_succ, i64_w, i32_w]
        rfl
      refine pure_ (i := 4) (N := (some 80)) (v := ?_) (a' := ?_) #[true, true, true, false, true, false, false, false, false, false, false] rfl rfl (any_of HT_.out (by kernel_rfl)) (fun _ _ _ h => h) (Or.inl ⟨by rfl, ?_⟩) ?_ ?_
      rotate_left
      · intro w'
        go_simp
        with_reducible rfl
      rotate_left
      · simp only [Act.put, List.setIfInBounds_toArray, List.set_cons_zero, List.set_cons_succ, i64_w, i32_w]
        rfl
      refine pure_ (i := 6) (N := (some 82)) (v := ?_) (a' := ?_) #[true, true, true, false, true, false, true, false, false, false, false] rfl rfl (any_of HT_.out (by kernel_rfl)) (fun _ _ _ h => h) (Or.inl ⟨by rfl, ?_⟩) ?_ ?_
      rotate_left
      · intro w'
        go_simp
        with_reducible rfl
      rotate_left
      · simp only [Act.put, List.setIfInBounds_toArray, List.set_cons_zero, List.set_cons_succ, i64_w, i32_w]
        rfl
      refine take_ (i := 3) (N := (some 79)) (v := ?_) (a' := ?_) #[true, true, true, true, true, false, true, false, false, false, false] rfl rfl (take_ofW HT_.out HW_.out (by kernel_rfl)) (fun _ _ _ h => h) (Or.inl ⟨by rfl, ?_⟩) hHeld ?_ ?_
      rotate_left
      · rintro w' ⟨s0, s1, s2, s3, s4, s5, s6, s7, s8, s9, s10⟩
        go_simp
        with_reducible rfl
      rotate_left
      · simp only [Act.put, List.setIfInBounds_toArray, List.set_cons_zero, List.set_cons_succ, i64_w, i32_w]
        rfl
      refine take_ (i := 5) (N := (some 81)) (v := ?_) (a' := ?_) #[true, true, true, true, true, true, true, false, false, false, false] rfl rfl (take_ofW HT_.out HW_.out (by kernel_rfl)) (fun _ _ _ h => h) (Or.inl ⟨by rfl, ?_⟩) hHeld ?_ ?_
      rotate_left
      · rintro w' ⟨s0, s1, s2, s3, s4, s5, s6, s7, s8, s9, s10⟩
        go_simp
        with_reducible rfl
      rotate_left
      · simp only [Act.put, List.setIfInBounds_toArray, List.set_cons_zero, List.set_cons_succ, i64_w, i32_w]
        rfl
      refine pure_ (i := 7) (N := (some 83)) (v := ?_) (a' := ?_) #[true, true, true, true, true, true, true, true, false, false, false] rfl rfl (any_of HT_.out (by kernel_rfl)) (fun _ _ _ h => h) (Or.inl ⟨by rfl, ?_⟩) ?_ ?_
      rotate_left
      · intro w'
        go_simp
        with_reducible rfl
      rotate_left
      · simp only [Act.put, List.setIfInBounds_toArray, List.set_cons_zero, List.set_cons_succ, i64_w, i32_w]
        rfl
      refine take_ (i := 8) (N := (some 84)) (v := ?_) (a' := ?_) #[true, true, true, true, true, true, true, true, true, false, false] rfl rfl (take_ofW HT_.out HW_.out (by kernel_rfl)) (fun _ _ _ h => h) (Or.inl ⟨by rfl, ?_⟩) hHeld ?_ ?_
      rotate_left
      · rintro w' ⟨s0, s1, s2, s3, s4, s5, s6, s7, s8, s9, s10⟩
        go_simp
        with_reducible rfl
      rotate_left
      · simp only [Act.put, List.setIfInBounds_toArray, List.set_cons_zero, List.set_cons_succ, i64_w, i32_w]
        rfl
      refine last_ (i := 9) (N := (some 85)) #[true, true, true, true, true, true, true, true, true, true, false] rfl rfl (one_of HT_.out (by kernel_rfl)) (by decide) (fun K hK => ?_)
      refine goes_ Try.func19 (by kernel_rfl) rfl #[.agg #[.int .i64 yy.f0, .string yy.f1, .string yy.f2, .slice P3 yy.f3.length p3, .slice P4 yy.f4.length p4], .agg #[.int .i64 yy.f0, .string yy.f1, .string yy.f2, .slice Q3 yy.f3.length q3, .slice Q4 yy.f4.length q4], .bool false] (by rfl) rfl rfl (by simp only [List.map_toArray, List.map_cons, List.map_nil]; rfl) ?_
      refine (same_calls yy HSM.out.1 false wr.drew P3 p3 P4 p4 Q3 q3 Q4 q4 (k25.K_below (Below.refl _ _).drew HSM.out.2.1) (k25.K_below (Below.refl _ _).drew HSM.out.2.2)).mono ?_
      rintro e w9 ⟨rfl, hb9⟩
      refine ⟨_, rfl, ?_⟩
      refine hK.out _ _ ?_
      have HB9 := Aside0.mk (HB.out.drew.trans (hb9.mono HB.out.size))
      clear hb9
      clear hK K
      refine norm_ (a' := ?_) ?_ ?_
      rotate_left
      · first | (simp only [Act.put, List.setIfInBounds_toArray, List.set_cons_zero, List.set_cons_succ, i64_w, i32_w]; rfl) | rfl
      refine pure_ (i := 10) (N := (some 86)) (v := ?_) (a' := ?_) #[true, true, true, true, true, true, true, true, true, true, true] rfl rfl (any_of HT_.out (by kernel_rfl)) (fun _ _ _ h => h) (Or.inl ⟨by rfl, ?_⟩) ?_ ?_
      rotate_left
      · intro w'
        go_simp
        with_reducible rfl
      rotate_left
      · simp only [Act.put, List.setIfInBounds_toArray, List.set_cons_zero, List.set_cons_succ, i64_w, i32_w]
        rfl
      refine done_ (done_of HT_.out (by kernel_rfl)) ?_
      go_wp2_with fail
      go_roundg (gk - 1)
      case measure => have := HJ.out; omega
      case rel => exact ⟨j + 1, by go_num, ⟨by have := HJ.out; omega⟩, HB9⟩
    · have HV9 := Aside0.mk (HV8.out.next HB.out)
      have HY := Aside0.mk HV9.out.y
      have cs0 := (cell_of_block (i := 0) HY.out).trans (show _ = some _ from rfl); have cs1 := (cell_of_block (i := 1) HY.out).trans (show _ = some _ from rfl); have cs2 := (cell_of_block (i := 2) HY.out).trans (show _ = some _ from rfl); have cs3 := (cell_of_block (i := 3) HY.out).trans (show _ = some _ from rfl); have cs4 := (cell_of_block (i := 4) HY.out).trans (show _ = some _ from rfl); have zs0 := frozen_of_block (i := 0) HY.out; have zs1 := frozen_of_block (i := 1) HY.out; have zs2 := frozen_of_block (i := 2) HY.out; have zs3 := frozen_of_block (i := 3) HY.out; have zs4 := frozen_of_block (i := 4) HY.out
      have hky : keysIf y = [] := if_neg (by have := HM2.out.1; omega)
      have hiy : itemsIf y = [] := if_neg (by have := HM2.out.1; omega)
      have h2y : (y.f0 == 2) = false := by have := HM2.out.1; simp; omega
      have HKY := Aside0.mk (And.intro hky (And.intro hiy h2y))
      clear hky hiy h2y
      go_wp2_with fail
      refine (fields_calls y HM2.out.2 (.inr HM2.out.1) wr B3 d3 B4 d4 (k25.K_below HV9.out.below HK2.out)).mono ?_
      rintro e w10 ⟨hb, kvv, rfl, hr⟩
      rw [HKY.out.2.2]
      have HV10 := Aside0.mk (HV9.out.next hb)
      clear hb hr HV9 HY cs0 cs1 cs2 cs3 cs4 zs0 zs1 zs2 zs3 zs4
      have HY := Aside0.mk HV10.out.y
      have cs0 := (cell_of_block (i := 0) HY.out).trans (show _ = some _ from rfl); have cs1 := (cell_of_block (i := 1) HY.out).trans (show _ = some _ from rfl); have cs2 := (cell_of_block (i := 2) HY.out).trans (show _ = some _ from rfl); have cs3 := (cell_of_block (i := 3) HY.out).trans (show _ = some _ from rfl); have cs4 := (cell_of_block (i := 4) HY.out).trans (show _ = some _ from rfl); have zs0 := frozen_of_block (i := 0) HY.out; have zs1 := frozen_of_block (i := 1) HY.out; have zs2 := frozen_of_block (i := 2) HY.out; have zs3 := frozen_of_block (i := 3) HY.out; have zs4 := frozen_of_block (i := 4) HY.out
      go_wp2_with fail
      refine (visit_calls y HM2.out.2 (.inr HM2.out.1) w10 B3 d3 B4 d4 (k25.K_below HV10.out.below HK2.out)).mono ?_
      rintro e w11 ⟨hb, kvv2, ivv2, rfl, hr, hr2⟩
      rw [HKY.out.2.2]
      have HV11 := Aside0.mk (HV10.out.next hb)
      clear hb hr hr2 HV10 HY cs0 cs1 cs2 cs3 cs4 zs0 zs1 zs2 zs3 zs4
      go_wp2
      go_ret
      exact ⟨rfl, HV11.out.below⟩
theorem fields_law (w : World) (x : S25) (hz : Sz x) (A3 : Option Addr) (c3 : Nat) (A4 : Option Addr) (c4 : Nat)
    (hK : k25.K w x [.int .i64 x.f0, .string x.f1, .string x.f2, .slice A3 x.f3.length c3, .slice A4 x.f4.length c4]) (y : S25) (hz2 : Sz y) (B3 : Option Addr) (d3 : Nat) (B4 : Option Addr) (d4 : Nat)
    (hK2 : k25.K w y [.int .i64 y.f0, .string y.f1, .string y.f2, .slice B3 y.f3.length d3, .slice B4 y.f4.length d4]) :
    Calls Try.prog 4 #[.agg #[.int .i64 x.f0, .string x.f1, .string x.f2, .slice A3 x.f3.length c3, .slice A4 x.f4.length c4], .agg #[.int .i64 y.f0, .string y.f1, .string y.f2, .slice B3 y.f3.length d3, .slice B4 y.f4.length d4]] w fun e w' => e = .returned (.bool true) ∧ Below w.heap.size w w' :=
  fieldslaw_calls x y hz hz2 w A3 c3 A4 c4 B3 d3 B4 d4 hK hK2
end Go.Proofs.Ytigpgkfgkjabmaa
