/-
  The names of a list's maps: spec.NameOf, spec.AreNamed, RNode.ElementValues and impl.Values.
-/
import Derived.Test.YtigpgkfgkjabmaaStep
import Derived.Test.YtigpgkfgkjabmaaEmpty
namespace Go.Proofs.Ytigpgkfgkjabmaa
open Go.RowKit Go.Proofs.YtigpgkfgkjabmaaW.PrintWords Go.Proofs.YtigpgkfgkjabmaaW.PrintLast Go.Proofs.Ytigpgkfgkjabmaa.PFnFields
set_option linter.unusedVariables false
set_option linter.unusedSimpArgs false

/-- spec.NameOf. -/
theorem nameOf_calls (x : S25) (hkl : x.f3.length ≤ x.f4.length) (w : World) (A3 : Option Addr) (c3 : Nat) (A4 : Option Addr) (c4 : Nat)
    (hK : k25.K w x [.int .i64 x.f0, .string x.f1, .string x.f2, .slice A3 x.f3.length c3, .slice A4 x.f4.length c4]) :
    Calls Try.prog 21 #[.agg #[.int .i64 x.f0, .string x.f1, .string x.f2, .slice A3 x.f3.length c3, .slice A4 x.f4.length c4]] w fun e w' => e = .returned (.string (spField x nameB).f1) ∧ Below w.heap.size w w' := by
  have hu := Try.underlying25
  have HK := Aside0.mk hK
  clear hK
  go_enter Try.func21, Try.ntmps21
  go_wp2_with fail
  refine (spField_calls x nameB hkl _ A3 c3 A4 c4 (k25.K_below ((Below.refl _ _).alloc (Nat.le_refl _) _) HK.out)).mono ?_
  rintro e w1 ⟨hb, B3, b3, B4, b4, rfl, _⟩
  have HB := Aside0.mk (((Below.refl w.heap.size w).alloc (Nat.le_refl _) _).trans (hb.mono (by simp)))
  clear hb
  obtain ⟨sf, hsf⟩ : ∃ sf, sf = spField x nameB := ⟨_, rfl⟩
  rw [← hsf]
  have HSF := Aside0.mk hsf
  generalize has nameB x = hs
  clear hsf
  go_wp2
  go_ret
  exact ⟨by rw [← HSF.out]; rfl, HB.out.alloc HB.out.size _⟩

/-- A list whose maps have names. -/
def Named (x : S25) : Prop := ∀ y ∈ x.f4, has nameB y = true ∧ (spField y nameB).f0 = 1
def NamedLPost (w : World) (x : S25) (e : Ending) (w' : World) : Prop := ∃ r, e = .returned (.bool r) ∧ Below w.heap.size w w' ∧ (r = true → Named x)
set_option maxRecDepth 100000 in
set_option maxHeartbeats 1600000 in
theorem areNamed_calls (x : S25) (hx : Tree x) (w : World) (A3 : Option Addr) (c3 : Nat) (A4 : Option Addr) (c4 : Nat)
    (hK : k25.K w x [.int .i64 x.f0, .string x.f1, .string x.f2, .slice A3 x.f3.length c3, .slice A4 x.f4.length c4]) :
    Calls Try.prog 20 #[.agg #[.int .i64 x.f0, .string x.f1, .string x.f2, .slice A3 x.f3.length c3, .slice A4 x.f4.length c4]] w (NamedLPost w x) := by
  have hu := Try.underlying25
  have HX := Aside0.mk hx
  have HK := Aside0.mk hK
  obtain ⟨g4, hg4⟩ : ∃ q : k25.C w A4 x.f4.length x.f4, True := by
    obtain ⟨_, _, _, _, he, l3, g3, l4, g4⟩ := k25_open hK
    simp only [List.cons.injEq, Value.slice.injEq, true_and, and_true] at he
    obtain ⟨⟨rfl, rfl⟩, rfl, rfl⟩ := he
    exact ⟨g4, trivial⟩
  have hl60 : x.f4.length ≤ 60 := by
    have h1 : x.f4.length + 1 ≤ nodes (5 + 1) x := hx.1.len
    have h2 : nodes (5 + 1) x ≤ 60 := hx.2
    omega
  have HG4 := Aside0.mk g4
  clear hx hK g4 hg4
  go_enter Try.func20, Try.ntmps20
  go_wp2_with fail
  obtain ⟨w0, e0⟩ : ∃ w0, w0 = (w.alloc (.cells #[.int .i64 x.f0, .string x.f1, .string x.f2, .slice A3 x.f3.length c3, .slice A4 x.f4.length c4] 25)).alloc (.cells #[] 9) := ⟨_, rfl⟩
  have hb0 : Below w.heap.size w w0 := by rw [e0]; exact ((Below.refl _ _).alloc (Nat.le_refl _) _).alloc (by simp) _
  have hx0 : inVar w0 w.heap.size x A3 c3 A4 c4 := by rw [e0]; exact (heap_old _ (by simp)).trans (heap_at _ rfl)
  have hr0 : Kd.string.R 9 w0 (w.heap.size + 1) (fun _ => True) (.slice (some ⟨w.heap.size + 1, 0, none⟩) 0 0) [] := R_empty _ (by rw [e0]; exact heap_at _ (by simp)) (Nat.le_refl _) trivial
  have H0 := Aside0.mk (And.intro hb0 (And.intro hx0 hr0))
  try rw [← e0]
  clear hb0 hx0 hr0
  go_loopg [3, 12] x.f4.length (fun k nv i wr => ∃ (j : Nat) (A : Option Addr) (n c : Nat) (ns : List ByteArray), nv = .slice A n c ∧ i = .int .i64 j ∧ Aside0 (j ≤ x.f4.length ∧ k + j = x.f4.length ∧ ns.length = j) ∧ Aside0 (inVar wr w.heap.size x A3 c3 A4 c4) ∧ Aside0 (Below w.heap.size w wr) ∧
    Aside0 (Kd.string.R 9 wr (w.heap.size + 1) (fun _ => True) (.slice A n c) ns) ∧ Aside0 (∀ y ∈ x.f4.take j, has nameB y = true ∧ (spField y nameB).f0 = 1))
  case atStart => exact ⟨0, _, _, _, [], rfl, rfl, ⟨by simp⟩, ⟨H0.out.2.1⟩, ⟨H0.out.1⟩, ⟨H0.out.2.2⟩, ⟨by simp⟩⟩
  case round =>
    clear H0
    obtain ⟨j, A, n, c, ns, rfl, rfl, HJ, HXV, HB, HR, HN⟩ := hrel
    by_cases hj : j < x.f4.length
    · generalize hyy : x.f4.getD j z25 = yy
      obtain ⟨ad4, P3, p3, P4, p4, e4, hKy, f0', f1', f2', f3', f4'⟩ := nodeAt HG4.out j hj yy hyy
      subst e4
      have f0 := (HB.out.cell (World.block_lt_of_cell? w _ f0')).trans f0'
      have f1 := (HB.out.cell (World.block_lt_of_cell? w _ f1')).trans f1'
      have f2 := (HB.out.cell (World.block_lt_of_cell? w _ f2')).trans f2'
      have f3 := (HB.out.cell (World.block_lt_of_cell? w _ f3')).trans f3'
      have f4 := (HB.out.cell (World.block_lt_of_cell? w _ f4')).trans f4'
      have hye : yy = x.f4[j] := by rw [← hyy, List.getD_eq_getElem?_getD, List.getElem?_eq_getElem hj]; rfl
      have hym : yy ∈ x.f4 := by rw [hye]; exact List.getElem_mem _
      have HYY := Aside0.mk (And.intro hye (And.intro hym hKy))
      clear hyy hKy f0' f1' f2' f3' f4' hye hym
      go_wp2_with fail
      have hbw : Below w.heap.size w (wr.alloc (.cells #[.int .i64 yy.f0, .string yy.f1, .string yy.f2, .slice P3 yy.f3.length p3, .slice P4 yy.f4.length p4] 25)) := HB.out.alloc HB.out.size _
      refine (spField_calls yy nameB (by have := (HX.out.1.items (d := 5) yy HYY.out.2.1).klen; exact this) _ P3 p3 P4 p4 (k25.K_below hbw HYY.out.2.2)).mono ?_
      rintro e w3 ⟨hb3, D3, q3, D4, q4, rfl, _⟩
      have hb4 : Below wr.heap.size wr w3 := ((Below.refl _ _).alloc (Nat.le_refl _) _).trans (hb3.mono (by simp))
      obtain ⟨sf, hsf⟩ : ∃ sf, sf = spField yy nameB := ⟨_, rfl⟩
      obtain ⟨hs, hhs⟩ : ∃ hs, hs = has nameB yy := ⟨_, rfl⟩
      rw [← hsf, ← hhs]
      have HSF := Aside0.mk (And.intro hsf hhs)
      have hxl := lt_of_block HXV.out
      have hx3 : inVar w3 w.heap.size x A3 c3 (some ad4) c4 := (hb4.block _ hxl).trans HXV.out
      have HX3 := Aside0.mk hx3
      have HB3 := Aside0.mk (And.intro (HB.out.trans (hb4.mono HB.out.size)) (R_upd HR.out (fun k _ _ hk => hb4.block k hk)))
      clear hbw hb3 hb4 hsf hhs f0 f1 f2 f3 f4 hxl hx3
      cases hs
      · go_wp2
        go_ret
        exact ⟨false, rfl, HB3.out.1.alloc HB3.out.1.size _, fun h => by cases h⟩
      by_cases k1 : ¬ sf.f0 = 1
      · have k1b : (sf.f0 != 1) = true := by simpa using k1
        go_wp2
        all_goals (go_ret; exact ⟨false, rfl, HB3.out.1.alloc HB3.out.1.size _, fun h => by cases h⟩)
      replace k1 : sf.f0 = 1 := Classical.not_not.1 k1
      have K1 := Aside0.mk k1
      have k1b : (sf.f0 != 1) = false := by simpa using k1
      clear k1
      go_wp2_with fail
      all_goals try (go_ret; exact ⟨false, rfl, HB3.out.1.alloc HB3.out.1.size _, fun h => by cases h⟩)
      have hnsl := (Kd.R_reads' HB3.out.2).1
      have hnsc := (Kd.R_reads' HB3.out.2).2.1
      have hjl := HJ.out.2.2
      obtain ⟨w4, e4⟩ : ∃ w4, w4 = (w3.alloc (.cells #[.int .i64 sf.f0, .string sf.f1, .string sf.f2, .slice D3 sf.f3.length q3, .slice D4 sf.f4.length q4] 25)) := ⟨_, rfl⟩
      rw [← e4]
      have hb4 : Below w3.heap.size w3 w4 := by rw [e4]; exact (Below.refl _ _).alloc (Nat.le_refl _) _
      have hv4 : w4.heap[w3.heap.size]? = some (.cells #[.int .i64 sf.f0, .string sf.f1, .string sf.f2, .slice D3 sf.f3.length q3, .slice D4 sf.f4.length q4] 25 (0, 0)) := by rw [e4]; exact heap_at _ rfl
      have hR4 : Kd.string.R 9 w4 (w.heap.size + 1) (fun _ => True) (.slice A n c) ns := R_upd HB3.out.2 (fun k _ _ hk => hb4.block k hk)
      refine (place_calls_n w4 A n c ns sf.f1 hnsl.symm (Kd.R_reads' hR4).2.2 (by omega)).mono ?_
      rintro e w5 ⟨rfl, ⟨⟨m1, rfl⟩⟩⟩
      have hb5 : Below w.heap.size w (w4.drewN m1) := pw_below_drewN (HB3.out.1.trans (hb4.mono HB3.out.1.size)) m1
      have hx5 : inVar (w4.drewN m1) w.heap.size x A3 c3 (some ad4) c4 := (hb4.block _ (lt_of_block HX3.out)).trans HX3.out
      have hr5 : Kd.string.R 9 (w4.drewN m1) (w.heap.size + 1) (fun _ => True) (.slice A n c) ns := R_upd hR4 (fun _ _ _ _ => rfl)
      have cv1 : (w4.drewN m1).cell? ⟨w3.heap.size, 1, none⟩ = some (.string sf.f1) := by rw [show (w4.drewN m1).cell? ⟨w3.heap.size, 1, none⟩ = w4.cell? ⟨w3.heap.size, 1, none⟩ from rfl, cell_of_block hv4]; rfl
      have H5 := Aside0.mk (And.intro hb5 (And.intro hx5 hr5))
      have hlt5 := lt_of_block hx5
      clear hb4 hv4 hR4 hb5 hx5 hr5 e4 hnsl hnsc
      generalize w4.drewN m1 = w5 at *
      generalize plc ns sf.f1 = p
      by_cases hp : 0 ≤ p
      · go_wp2
        go_ret
        exact ⟨false, rfl, H5.out.1, fun h => by cases h⟩
      · have hpb : decide (0 ≤ p) = false := by simpa using hp
        go_wp2_with ((with_reducible refine gate_builtin (b := .append) (xs := #[.tmp 40, .tmp 43]) rfl ?_); at_builtin; refine Kd.R_append Kd.string (w0 := w5) (w.heap.size + 1) rfl (.tmp 40) (.tmp 43) 22 9 (.string ⟨#[]⟩) 16 rfl Try.underlying22 Try.infoStr rfl (by decide) (by decide) (.slice A n c) ns sf.f1 [.string sf.f1] (fun _ => True) (fun _ => False) rfl rfl rfl (fun _ h => h.elim) (fun _ _ => trivial) H5.out.2.2 (Below.refl _ _) (by omega) (by omega) ?_; intro nv1 w6 hr6 hb6 _ _; (have HB6 := Aside0.mk (And.intro hr6 hb6)); clear hr6 hb6)
        obtain ⟨A9, n9, c9, rfl⟩ : ∃ A1 n1 c1, nv1 = .slice A1 n1 c1 := by obtain ⟨A1, c1, e⟩ := Kd.R_slice HB6.out.1; exact ⟨_, _, _, e⟩
        go_roundg (gk - 1)
        case measure => have := HJ.out; omega
        case rel =>
          refine ⟨j + 1, A9, n9, c9, ns ++ [sf.f1], rfl, by go_num, ⟨by have := HJ.out; simp; omega⟩, ⟨(HB6.out.2.block _ (by omega)).trans H5.out.2.1⟩, ⟨H5.out.1.trans (HB6.out.2.mono (by omega))⟩, ⟨HB6.out.1⟩, ⟨fun y hy => ?_⟩⟩
          rw [List.take_succ_eq_append_getElem hj, ← HYY.out.1] at hy
          rcases List.mem_append.1 hy with h | h
          · exact HN.out y h
          · rw [List.mem_singleton.1 h]; exact ⟨HSF.out.2.symm, by rw [← HSF.out.1]; exact K1.out⟩
    · have hje : j = x.f4.length := by have := HJ.out; omega
      have HNN := HN.out
      rw [hje, List.take_length] at HNN
      have HN2 := Aside0.mk HNN
      have HXV' := HXV
      have cr0 := (cell_of_block (i := 0) HXV'.out).trans (show _ = some _ from rfl); have cr1 := (cell_of_block (i := 1) HXV'.out).trans (show _ = some _ from rfl); have cr2 := (cell_of_block (i := 2) HXV'.out).trans (show _ = some _ from rfl); have cr3 := (cell_of_block (i := 3) HXV'.out).trans (show _ = some _ from rfl); have cr4 := (cell_of_block (i := 4) HXV'.out).trans (show _ = some _ from rfl); have zr0 := frozen_of_block (i := 0) HXV'.out; have zr1 := frozen_of_block (i := 1) HXV'.out; have zr2 := frozen_of_block (i := 2) HXV'.out; have zr3 := frozen_of_block (i := 3) HXV'.out; have zr4 := frozen_of_block (i := 4) HXV'.out
      clear hje HNN HN HXV'
      go_wp2
      go_ret
      exact ⟨_, rfl, HB.out, fun _ => HN2.out⟩

/-- A map's field by its place. -/
theorem spField_at {x : S25} {nm : ByteArray} {j : Nat} {y : S25} (h2 : x.f0 = 2) (hnd : x.f3.Nodup) (h1 : x.f3[j]? = some nm) (h3 : x.f4[j]? = some y) : spField x nm = y := by
  obtain ⟨hj, he⟩ := List.getElem?_eq_some_iff.1 h1
  have hp := plc_nodup hnd j hj
  rw [he] at hp
  unfold spField
  rw [if_pos ⟨h2, by omega⟩, hp, Int.toNat_natCast, List.getD_eq_getElem?_getD, h3]
  rfl

def EVPost (w : World) (ts : List ByteArray) (e : Ending) (w' : World) : Prop :=
  Below w.heap.size w w' ∧ ∃ kvv, e = .returned (.tuple #[kvv, .nilIface]) ∧ Kd.string.R 9 w' w.heap.size (fun _ => True) kvv ts
set_option maxRecDepth 100000 in
set_option maxHeartbeats 1600000 in
theorem evals_calls (x : S25) (hx : Tree x) (h3 : x.f0 = 3) (nm : ByteArray) (hN : ∀ y ∈ x.f4, has nm y = true ∧ (spField y nm).f0 = 1) (w : World) (r b : Nat) (F : Nat → Prop) (hr : RN w r b) (hY : YN w F b (toY 6 x)) :
    Calls Try.prog 48 #[ptr r, .string nm] w (EVPost w (x.f4.map (fun y => (spField y nm).f1))) := by
  obtain ⟨A, g, c, bs, F1, hn, hA, hm, hcell, hl⟩ := list_open (d := 5) h3 hY
  have hl60 : x.f4.length ≤ 60 := by
    have h1 : x.f4.length + 1 ≤ nodes (5 + 1) x := hx.1.len
    have h2 : nodes (5 + 1) x ≤ 60 := hx.2
    omega
  have HX := Aside0.mk (And.intro hx hN)
  have HR := Aside0.mk hr
  have HN := Aside0.mk hn
  have HC := Aside0.mk (And.intro hA (And.intro hm hcell))
  have HL := Aside0.mk hl
  have HLV : Aside0 (Live 2 ⟨#[]⟩) := ⟨⟨rfl, by rw [ByteArray.toList_eq]; rfl⟩⟩
  have hn60 : bs.length ≤ 60 := by omega
  clear hx h3 hN hr hY hn hA hcell hl
  go_enter Try.func48, Try.ntmps48
  go_wp2_with fail
  refine (valid_calls w r b HR.out 2 _ _ A bs.length c HN.out HLV.out (fun h => by cases h) (by omega)).mono ?_
  rintro e w1 ⟨rfl, rfl⟩
  go_wp2_with fail
  go_loopg [7, 8] x.f4.length (fun k ev i wr => ∃ (j : Nat) (A5 : Option Addr) (n5 c5 : Nat), ev = .slice A5 n5 c5 ∧ i = .int .i64 j ∧ Aside0 (j ≤ x.f4.length ∧ k + j = x.f4.length) ∧ Aside0 (Below w.heap.size w wr) ∧ Aside0 (Kd.string.R 9 wr w.heap.size (fun _ => True) (.slice A5 n5 c5) ((x.f4.take j).map (fun y => (spField y nm).f1))))
  case atStart => exact ⟨0, none, 0, 0, rfl, rfl, ⟨by omega⟩, ⟨Below.refl _ _⟩, ⟨Kd.R_nil _ _ _ _ _⟩⟩
  case round =>
    obtain ⟨j, A5, n5, c5, rfl, rfl, HJ, HB, HE⟩ := hrel
    by_cases hj : j < x.f4.length
    · have hjb : j < bs.length := by omega
      have hjd : decide ((j : Int) < (bs.length : Int)) = true := by simp; omega
      obtain rfl := HC.out.1 (by omega)
      obtain ⟨p, hp⟩ : ∃ p, p = bs[j] := ⟨_, rfl⟩
      have hcj := (HB.out.cell (World.block_lt_of_cell? w _ (HC.out.2.2 j hjb))).trans (HC.out.2.2 j hjb)
      rw [← hp] at hcj
      obtain ⟨b1, G1, eb, _, hyj⟩ := HL.out.get j (by simpa using hj)
      rw [List.getElem_map] at hyj
      obtain rfl : b1 = p := by rw [hp]; exact (Option.some.inj ((List.getElem?_eq_getElem hjb).symm.trans eb)).symm
      obtain ⟨yj, hyj'⟩ : ∃ yj, yj = x.f4[j] := ⟨_, rfl⟩
      rw [← hyj'] at hyj
      have hym : yj ∈ x.f4 := by rw [hyj']; exact List.getElem_mem _
      have HYJ := Aside0.mk (And.intro hyj (And.intro hyj' hym))
      have hwf : Wf (4 + 1) yj := HX.out.1.1.items (d := 5) yj hym
      have hnd : nodes (4 + 1) yj ≤ 60 := by
        have h1 := nodes_item (d := 5) hym
        have h2 : nodes (5 + 1) x ≤ 60 := HX.out.1.2
        show nodes 5 yj ≤ 60
        omega
      have HWF := Aside0.mk (And.intro hwf hnd)
      clear hp eb hyj hyj' hym hwf hnd
      go_wp2_with (go_at_call 66; refine (content_calls wr r b (HR.out.below HB.out) 2 _ _ (.slice (some ⟨g, 0, none⟩) bs.length c) (HN.out.below HB.out) HLV.out).mono ?_; rintro e w' ⟨rfl, rfl⟩)
      refine (newrnode_calls wr b1).mono ?_
      rintro e w1 ⟨rfl, rfl⟩
      have hb1 : Below wr.heap.size wr (wr.alloc (.cells (rcells (.slice none 0 0) (ptr b1) false (.slice none 0 0)) 124)) := (Below.refl _ _).alloc (Nat.le_refl _) _
      have hrn := RN.new wr b1
      generalize hw1 : wr.alloc (.cells (rcells (.slice none 0 0) (ptr b1) false (.slice none 0 0)) 124) = w1 at hb1 hrn
      have HB1 := Aside0.mk (And.intro (HB.out.trans (hb1.mono HB.out.size)) (And.intro hrn (R_upd HE.out (fun k _ _ hk => hb1.block k hk))))
      clear hb1 hrn hw1
      go_wp2_with fail
      refine (nodefield_calls 4 yj HWF.out.1 HWF.out.2 w1 wr.heap.size b1 G1 nm HB1.out.2.1 (HYJ.out.1.below HB1.out.1)).mono ?_
      rintro e w2 ⟨hb2, hcase⟩
      rcases hcase with ⟨h1, _⟩ | ⟨h2, jj, v, m, kr, vr, kb, vb, F2, F3, h4, h5, rfl, hm2, hkr, hvr, _, hkn, _, hvn⟩
      · exact absurd (has_iff.1 (HX.out.2 yj HYJ.out.2.2).1) h1
      have hsf : spField yj nm = v := spField_at h2 (Wf.map HWF.out.1 h2).2.1 h4 h5
      have hv1 : v.f0 = 1 := by rw [← hsf]; exact (HX.out.2 yj HYJ.out.2.2).2
      have hlv := (HWF.out.1.items v (List.mem_of_getElem? h5)).live
      rw [toY_one (d := 3) hv1] at hvn hlv
      obtain ⟨cv, hvb⟩ := node_open hvn
      have HV := Aside0.mk (And.intro hm2 (And.intro hvr (And.intro hvb (And.intro hlv hsf))))
      have HB2 := Aside0.mk (And.intro (HB1.out.1.trans (hb2.mono HB1.out.1.size)) (R_upd HB1.out.2.2 (fun k _ _ hk => hb2.block k hk)))
      have cm1 : w2.cell? ⟨m, 1, none⟩ = some (ptr vr) := by rw [cell_of_block hm2]; rfl
      have cvv : w2.cell? ⟨vb, 3, none⟩ = some (.string v.f1) := hvb.value
      clear hb2 h2 h4 h5 hm2 hkr hvr hkn hvn hsf hv1 hlv hvb
      go_wp2_with (first | (go_at_call 73; refine (mempty_calls w2 m kr vr vb _ _ cv HV.out.1 HV.out.2.1 HV.out.2.2.1 HV.out.2.2.2.1).mono ?_; rintro e w' ⟨rfl, rfl⟩) | (go_at_call 72; refine (ynode_calls _ vr vb HV.out.2.1 8 v.f2 v.f1 cv HV.out.2.2.1 HV.out.2.2.2.1).mono ?_; rintro e w' ⟨rfl, rfl⟩) | ((with_reducible refine gate_builtin (b := .append) (xs := #[.tmp 33, .tmp 42]) rfl ?_); at_builtin; refine Kd.R_append Kd.string (w0 := w2) w.heap.size rfl (.tmp 33) (.tmp 42) 22 9 (.string ⟨#[]⟩) 16 rfl Try.underlying22 Try.infoStr rfl (by decide) (by decide) (.slice A5 n5 c5) ((x.f4.take j).map (fun y => (spField y nm).f1)) v.f1 [.string v.f1] (fun _ => True) (fun _ => False) rfl rfl rfl (fun _ h => h.elim) (fun _ _ => trivial) HB2.out.2 (Below.refl _ _) HB2.out.1.size (by simp; omega) ?_; intro nv1 w6 hr6 hb6 _ _; (have HB6 := Aside0.mk (And.intro hr6 hb6)); clear hr6 hb6))
      obtain ⟨A9, n9, c9, rfl⟩ : ∃ A1 n1 c1, nv1 = .slice A1 n1 c1 := by obtain ⟨A1, c1, e⟩ := Kd.R_slice HB6.out.1; exact ⟨_, _, _, e⟩
      go_roundg (gk - 1)
      case measure => have := HJ.out; omega
      case rel =>
        refine ⟨j + 1, A9, n9, c9, rfl, by go_num, ⟨by have := HJ.out; omega⟩, ⟨HB2.out.1.trans HB6.out.2⟩, ⟨?_⟩⟩
        rw [List.take_succ_eq_append_getElem hj, ← HYJ.out.2.1, List.map_append, List.map_cons, List.map_nil, HV.out.2.2.2.2]
        exact HB6.out.1
    · have hje : j = x.f4.length := by have := HJ.out; omega
      have hjd : decide ((j : Int) < (bs.length : Int)) = false := by simp; omega
      have HEE := HE.out
      rw [hje, List.take_length] at HEE
      have HE2 := Aside0.mk HEE
      clear hje HEE HE
      go_wp2_with (go_at_call 66; refine (content_calls wr r b (HR.out.below HB.out) 2 _ _ (.slice A bs.length c) (HN.out.below HB.out) HLV.out).mono ?_; rintro e w' ⟨rfl, rfl⟩)
      refine bodyPost_ret (v := .tuple #[.slice A5 n5 c5, .nilIface]) (by simp [results, Try.results48, go_sem]) rfl ⟨HB.out, _, rfl, HE2.out⟩

def vals1.T : Bool × List (List Nat × List Nat) := (true, [([], []), ([0], [0]), ([], []), ([1, 2, 1], [1, 2]), ([3], [3]), ([4], [4]), ([4], [4]), ([5, 3, 0, 1, 2, 3, 4, 5], [5]), ([6, 7, 0, 1, 2, 3, 4, 5, 6, 7], [6])])
def vals1.B : List Nat := [0, 1, 0, 7, 15, 31, 31, 63, 255]
theorem vals1.tab : rtab .any (opsOf Try.f47 1) = vals1.T := by kernel_rfl
theorem vals1.bits : waitsOk vals1.T.2 vals1.B = true := by kernel_rfl
def W1Post (w : World) (o : Nat) (ts : List ByteArray) (e : Ending) (w' : World) : Prop := e = .returned (.bool true) ∧ FieldsOut w w' o w.heap.size ts ∧ Chg (fun k => k = o) w w'
set_option maxRecDepth 100000 in
set_option maxHeartbeats 1600000 in
theorem values1_calls (x : S25) (hx : Tree x) (h3 : x.f0 = 3) (nm : ByteArray) (hN : ∀ y ∈ x.f4, has nm y = true ∧ (spField y nm).f0 = 1) (ts : List ByteArray) (hts : x.f4.map (fun y => (spField y nm).f1) = ts) (w : World) (a ka o : Nat) (A3 : Option Addr) (c3 : Nat) (A4 : Option Addr) (c4 : Nat) (ha : inVar w a x A3 c3 A4 c4)
    (hk : w.heap[ka]? = some (.cells #[.string nm] 9 (0, 0))) (ho : w.heap[o]? = some (.cells #[.slice none 0 0] 22 (0, 0)))
    (hK : k25.K w x [.int .i64 x.f0, .string x.f1, .string x.f2, .slice A3 x.f3.length c3, .slice A4 x.f4.length c4]) :
    Calls Try.prog 47 #[.pointer (some ⟨a, 0, none⟩), .pointer (some ⟨ka, 0, none⟩), .pointer (some ⟨o, 0, none⟩)] w (W1Post w o ts) := by
  have hu := Try.underlying25
  have hl60 : x.f4.length ≤ 60 := by
    have h1 : x.f4.length + 1 ≤ nodes (5 + 1) x := hx.1.len
    have h2 : nodes (5 + 1) x ≤ 60 := hx.2
    omega
  have HX := Aside0.mk (And.intro hx (And.intro h3 hN))
  have hlts : ts.length ≤ 1000 := by rw [← hts]; simp; omega
  have HTS := Aside0.mk hts
  clear hx h3 hN hts hl60
  have HA := Aside0.mk ha
  have HO := Aside0.mk ho
  have HK := Aside0.mk hK
  have HKEY := Aside0.mk hk
  have HKS : Aside0 (∀ w', Below w.heap.size w w' → w'.cell? ⟨a, 0, none⟩ = some (.int .i64 x.f0) ∧ w'.cell? ⟨a, 1, none⟩ = some (.string x.f1) ∧ w'.cell? ⟨a, 2, none⟩ = some (.string x.f2) ∧ w'.cell? ⟨a, 3, none⟩ = some (.slice A3 x.f3.length c3) ∧ w'.cell? ⟨a, 4, none⟩ = some (.slice A4 x.f4.length c4) ∧ w'.cell? ⟨ka, 0, none⟩ = some (.string nm)) := by
    refine ⟨fun w' hb => ?_⟩
    have q := (hb.block _ (lt_of_block ha)).trans ha
    have q2 := (hb.block _ (lt_of_block hk)).trans hk
    refine ⟨?_, ?_, ?_, ?_, ?_, ?_⟩ <;> first | (rw [cell_of_block q]; rfl) | (rw [cell_of_block q2]; rfl)
  clear ha ho hK hk
  go_enter Try.func47, Try.ntmps47
  go_wp2_with fail
  refine start_ (n := 9) (S := fun w' => w'.cell? ⟨a, 0, none⟩ = some (.int .i64 x.f0) ∧ w'.cell? ⟨a, 1, none⟩ = some (.string x.f1) ∧ w'.cell? ⟨a, 2, none⟩ = some (.string x.f2) ∧ w'.cell? ⟨a, 3, none⟩ = some (.slice A3 x.f3.length c3) ∧ w'.cell? ⟨a, 4, none⟩ = some (.slice A4 x.f4.length c4) ∧ w'.cell? ⟨ka, 0, none⟩ = some (.string nm)) (ds := [3]) #[false, false, false, false, false, false, false, false, false] (by kernel_rfl) rfl rfl (HKS.out _ (Below.refl _ _).drew) (fun hHeld => ?_)
  refine with_tabW (T := vals1.T) (B := vals1.B) vals1.tab vals1.bits (fun HT_ HW_ => ?_)
  refine take_ (i := 0) (N := (some 7)) (v := ?_) (a' := ?_) #[true, false, false, false, false, false, false, false, false] rfl rfl (take_ofW HT_.out HW_.out (by kernel_rfl)) (fun _ _ _ h => h) (Or.inl ⟨by rfl, ?_⟩) hHeld ?_ ?_
  rotate_left
  · rintro w' ⟨s0, s1, s2, s3, s4, s5⟩
    go_simp
    with_reducible rfl
  rotate_left
  · simp only [Act.put, List.setIfInBounds_toArray, List.set_cons_zero, List.set_cons_succ, i64_w, i32_w]
    rfl
  refine take_ (i := 2) (N := (some 9)) (v := ?_) (a' := ?_) #[true, false, true, false, false, false, false, false, false] rfl rfl (take_ofW HT_.out HW_.out (by kernel_rfl)) (fun _ _ _ h => h) (Or.inl ⟨by rfl, ?_⟩) hHeld ?_ ?_
  rotate_left
  · rintro w' ⟨s0, s1, s2, s3, s4, s5⟩
    go_simp
    with_reducible rfl
  rotate_left
  · simp only [Act.put, List.setIfInBounds_toArray, List.set_cons_zero, List.set_cons_succ, i64_w, i32_w]
    rfl
  refine one_ (i := 1) (N := (some 8)) #[true, true, true, false, false, false, false, false, false] rfl rfl (one_of HT_.out (by kernel_rfl)) (by decide) (fun K hK => ?_)
  refine goes_ Try.func37 (by kernel_rfl) rfl #[.agg #[.int .i64 x.f0, .string x.f1, .string x.f2, .slice A3 x.f3.length c3, .slice A4 x.f4.length c4]] (by rfl) rfl rfl (by simp only [List.map_toArray, List.map_cons, List.map_nil]; rfl) ?_
  refine (rnodeOf_calls 6 x w.drew [.int .i64 x.f0, .string x.f1, .string x.f2, .slice A3 x.f3.length c3, .slice A4 x.f4.length c4] (k25.K_below (Below.refl _ _).drew HK.out) (HX.out.1.1.sh HX.out.1.2)).mono ?_
  rintro e w1 ⟨r, b, rfl, hr, hrl, hy, hb1⟩
  refine ⟨_, rfl, ?_⟩
  have hb1' : Below w.heap.size w w1 := (Below.refl w.heap.size w).drew.trans hb1
  refine hK.out _ _ (HKS.out _ hb1') (fun hHeld => ?_)
  have H1 := Aside0.mk (And.intro hr (And.intro hy hb1'))
  clear hr hy hb1 hb1'
  clear hK K
  refine norm_ (a' := ?_) ?_ ?_
  rotate_left
  · first | (simp only [Act.put, List.setIfInBounds_toArray, List.set_cons_zero, List.set_cons_succ, i64_w, i32_w]; rfl) | rfl
  refine last_ (i := 3) (N := (some 10)) #[true, true, true, true, false, false, false, false, false] rfl rfl (one_of HT_.out (by kernel_rfl)) (by decide) (fun K hK => ?_)
  refine goes_ Try.func48 (by kernel_rfl) rfl #[ptr r, .string nm] (by rfl) rfl rfl (by simp only [List.map_toArray, List.map_cons, List.map_nil]; rfl) ?_
  refine (evals_calls x HX.out.1 HX.out.2.1 nm HX.out.2.2 w1 r b _ H1.out.1 H1.out.2.1).mono ?_
  rintro e w2 ⟨hb2, kvv, rfl, hr2⟩
  rw [HTS.out] at hr2
  refine ⟨_, rfl, ?_⟩
  refine hK.out _ _ ?_
  have H2 := Aside0.mk (And.intro (H1.out.2.2.trans (hb2.mono H1.out.2.2.size)) hr2)
  clear hb2 hr2
  clear hK K
  refine norm_ (a' := ?_) ?_ ?_
  rotate_left
  · first | (simp only [Act.put, List.setIfInBounds_toArray, List.set_cons_zero, List.set_cons_succ, i64_w, i32_w]; rfl) | rfl
  refine pure_ (i := 4) (N := (some 6)) (v := ?_) (a' := ?_) #[true, true, true, true, true, false, false, false, false] rfl rfl (any_of HT_.out (by kernel_rfl)) (fun _ _ _ h => h) (Or.inl ⟨by rfl, ?_⟩) ?_ ?_
  rotate_left
  · intro w'
    go_simp
    with_reducible rfl
  rotate_left
  · simp only [Act.put, List.setIfInBounds_toArray, List.set_cons_zero, List.set_cons_succ, i64_w, i32_w]
    rfl
  refine pure_ (i := 5) (N := (some 11)) (v := ?_) (a' := ?_) #[true, true, true, true, true, true, false, false, false] rfl rfl (any_of HT_.out (by kernel_rfl)) (fun _ _ _ h => h) (Or.inl ⟨by rfl, ?_⟩) ?_ ?_
  rotate_left
  · intro w'
    go_simp
    with_reducible rfl
  rotate_left
  · simp only [Act.put, List.setIfInBounds_toArray, List.set_cons_zero, List.set_cons_succ, i64_w, i32_w]
    rfl
  refine pure_ (i := 6) (N := (some 12)) (v := ?_) (a' := ?_) #[true, true, true, true, true, true, true, false, false] rfl rfl (any_of HT_.out (by kernel_rfl)) (fun _ _ _ h => h) (Or.inl ⟨by rfl, ?_⟩) ?_ ?_
  rotate_left
  · intro w'
    go_simp
    with_reducible rfl
  rotate_left
  · simp only [Act.put, List.setIfInBounds_toArray, List.set_cons_zero, List.set_cons_succ, i64_w, i32_w]
    rfl
  refine pure_ (i := 7) (N := (some 4)) (v := ?_) (a' := ?_) #[true, true, true, true, true, true, true, true, false] rfl rfl (any_of HT_.out (by kernel_rfl)) (fun _ _ _ h => h) (Or.inl ⟨by rfl, ?_⟩) ?_ ?_
  rotate_left
  · intro w'
    go_simp
    with_reducible rfl
  rotate_left
  · simp only [Act.put, List.setIfInBounds_toArray, List.set_cons_zero, List.set_cons_succ, i64_w, i32_w]
    rfl
  refine pure_ (i := 8) (N := (some 5)) (v := ?_) (a' := ?_) #[true, true, true, true, true, true, true, true, true] rfl rfl (any_of HT_.out (by kernel_rfl)) (fun _ _ _ h => h) (Or.inl ⟨by rfl, ?_⟩) ?_ ?_
  rotate_left
  · intro w'
    go_simp
    with_reducible rfl
  rotate_left
  · simp only [Act.put, List.setIfInBounds_toArray, List.set_cons_zero, List.set_cons_succ, i64_w, i32_w]
    rfl
  refine done_ (done_of HT_.out (by kernel_rfl)) ?_
  have hr2 := H2.out.2
  obtain ⟨A1, c1, rfl, _, hC⟩ := Kd.R_reads hr2
  have HC := Aside0.mk hC
  clear hr2 hC
  go_wp2_with fail
  refine (clone_calls w2 A1 c1 ts HC.out hlts).mono ?_
  rintro e w3 ⟨hb3, kv3, rfl, hr3⟩
  have hb := H2.out.1.trans (hb3.mono H2.out.1.size)
  have ho3 := (hb.block _ (lt_of_block HO.out)).trans HO.out
  have co : w3.cell? ⟨o, 0, none⟩ = some (.slice none 0 0) := by rw [cell_of_block ho3]; rfl
  have zo : w3.frozen? ⟨o, 0, none⟩ = false := frozen_of_block ho3
  obtain ⟨A5, n5, c5, rfl⟩ : ∃ A1 n1 c1, kv3 = .slice A1 n1 c1 := by obtain ⟨A1, c1, e⟩ := Kd.R_slice hr3; exact ⟨_, _, _, e⟩
  have H3 := Aside0.mk (And.intro hb (And.intro ho3 (Kd.R_lower hr3 H2.out.1.size)))
  clear hb ho3 hr3 hb3
  go_wp2_with fail
  obtain ⟨w4, e4⟩ : ∃ w4, w3.setCell ⟨o, 0, none⟩ (.slice A5 n5 c5) = w4 := ⟨_, rfl⟩
  rw [e4]
  have ho4 : w4.heap[o]? = some (.cells #[.slice A5 n5 c5] 22 (0, 0)) := by rw [← e4]; exact heap_set (a := ⟨o, 0, none⟩) H3.out.2.1 rfl
  have hc4 : Chg (fun k => k = o) w w4 := by rw [← e4]; exact Chg.setCell (S := fun k => k = o) (Chg.of_below H3.out.1) (p := ⟨o, 0, none⟩) (.inl rfl) _
  have hr4 : Kd.string.R 9 w4 w.heap.size (fun _ => True) (.slice A5 n5 c5) ts := R_upd H3.out.2.2 (fun k _ hb hk => by rw [← e4]; exact heap_set_ne (by have := lt_of_block HO.out; simp; omega))
  have H4 := Aside0.mk (And.intro ho4 (And.intro hc4 hr4))
  clear co zo e4 ho4 hc4 hr4
  go_wp2
  go_ret
  exact ⟨rfl, ⟨_, H4.out.1, H4.out.2.2⟩, H4.out.2.1⟩

/-- impl.Values, of a list whose maps have that scalar. -/
def ValuesPost (w : World) (ts : List ByteArray) (e : Ending) (w' : World) : Prop :=
  Below w.heap.size w w' ∧ ∃ kvv, e = .returned (.tuple #[kvv, .bool true]) ∧ Kd.string.R 9 w' w.heap.size (fun _ => True) kvv ts
set_option maxRecDepth 100000 in
set_option maxHeartbeats 800000 in
theorem values_calls (x : S25) (hx : Tree x) (h3 : x.f0 = 3) (nm : ByteArray) (hnm : Word nm) (hN : ∀ y ∈ x.f4, has nm y = true ∧ (spField y nm).f0 = 1) (ts : List ByteArray) (hts : x.f4.map (fun y => (spField y nm).f1) = ts) (w : World) (A3 : Option Addr) (c3 : Nat) (A4 : Option Addr) (c4 : Nat)
    (hK : k25.K w x [.int .i64 x.f0, .string x.f1, .string x.f2, .slice A3 x.f3.length c3, .slice A4 x.f4.length c4]) :
    Calls Try.prog 22 #[.agg #[.int .i64 x.f0, .string x.f1, .string x.f2, .slice A3 x.f3.length c3, .slice A4 x.f4.length c4], .string nm] w (ValuesPost w ts) := by
  have hu := Try.underlying25
  have hmf : ∀ (fn : Fn) (first cap : Array Value) (w : World), (Instr.makeFunc fn first cap).run Try.prog w = .ok (.func fn first cap) w := fun _ _ _ _ => rfl
  have HX := Aside0.mk (And.intro hx (And.intro h3 (And.intro hN hnm)))
  have HK := Aside0.mk hK
  have HTS := Aside0.mk hts
  clear hx h3 hN hnm hK hts
  go_enter Try.func22, Try.ntmps22
  go_wp2_with fail
  obtain ⟨w0, e0⟩ : ∃ w0, w0 = ((w.alloc (.cells #[.int .i64 x.f0, .string x.f1, .string x.f2, .slice A3 x.f3.length c3, .slice A4 x.f4.length c4] 25)).alloc (.cells #[.string nm] 9)).alloc (.cells #[.slice none 0 0] 22) := ⟨_, rfl⟩
  rw [← e0]
  have hb0 : Below w.heap.size w w0 := by rw [e0]; exact (((Below.refl _ _).alloc (Nat.le_refl _) _).alloc (by simp) _).alloc (by simp; omega) _
  have hw3 : w0.heap[w.heap.size + 1]? = some (.cells #[.string nm] 9 (0, 0)) := by rw [e0]; exact (heap_old _ (by simp)).trans (heap_at _ (by simp))
  have hw5 : w0.heap[w.heap.size + 1 + 1]? = some (.cells #[.slice none 0 0] 22 (0, 0)) := by rw [e0]; exact heap_at _ (by simp)
  have hw4 : inVar w0 w.heap.size x A3 c3 A4 c4 := by rw [e0]; exact (heap_old _ (by simp; omega)).trans ((heap_old _ (by simp)).trans (heap_at _ rfl))
  have H0 := Aside0.mk (And.intro hb0 (And.intro hw3 (And.intro hw4 hw5)))
  clear hb0 hw3 hw4 hw5 e0
  refine (right_calls x w0 A3 c3 A4 c4 (k25.K_below H0.out.1 HK.out) HX.out.1).mono ?_
  rintro e w1 ⟨rfl, hb1⟩
  have hw3 := (hb1.block _ (lt_of_block H0.out.2.1)).trans H0.out.2.1
  have hw4 := (hb1.block _ (lt_of_block H0.out.2.2.1)).trans H0.out.2.2.1
  have hw5 := (hb1.block _ (lt_of_block H0.out.2.2.2)).trans H0.out.2.2.2
  have H1 := Aside0.mk (And.intro (H0.out.1.trans (hb1.mono H0.out.1.size)) (And.intro hw3 (And.intro hw4 hw5)))
  have ck : w1.cell? ⟨w.heap.size + 1, 0, none⟩ = some (.string nm) := by rw [cell_of_block hw3]; rfl
  clear hb1 hw3 hw4 hw5
  go_wp2_with fail
  refine (plain_calls nm w1 HX.out.2.2.2).mono ?_
  rintro e w1' ⟨rfl, ⟨⟨n1, rfl⟩⟩⟩
  have hbd : Below w1.heap.size w1 (w1.drewN n1) := pw_below_drewN (Below.refl _ _) n1
  have H2 : Aside0 (Below w.heap.size w (w1.drewN n1) ∧ (w1.drewN n1).heap[w.heap.size + 1]? = some (.cells #[.string nm] 9 (0, 0)) ∧ inVar (w1.drewN n1) w.heap.size x A3 c3 A4 c4 ∧ (w1.drewN n1).heap[w.heap.size + 1 + 1]? = some (.cells #[.slice none 0 0] 22 (0, 0))) :=
    ⟨H1.out.1.trans (hbd.mono H1.out.1.size), H1.out.2.1, H1.out.2.2.1, H1.out.2.2.2⟩
  clear hbd ck
  generalize w1.drewN n1 = w2 at *
  go_wp2_with fail
  refine (tried_calls w2 47 #[.pointer (some ⟨w.heap.size, 0, none⟩), .pointer (some ⟨w.heap.size + 1, 0, none⟩), .pointer (some ⟨w.heap.size + 1 + 1, 0, none⟩)] (fun k => k = w.heap.size + 1 + 1) (fun b w' => b = true ∧ FieldsOut w w' (w.heap.size + 1 + 1) (w2.heap.size + 1) ts)
    (fun k e => by rw [e]; exact lt_of_block H2.out.2.2.2) (fun wa hwa hws => ?_) (fun wa => enters_ Try.func47 rfl rfl _ wa)).mono ?_
  · refine (values1_calls x HX.out.1 HX.out.2.1 nm HX.out.2.2.1 ts HTS.out wa w.heap.size (w.heap.size + 1) (w.heap.size + 1 + 1) A3 c3 A4 c4 ((hwa.block _ (lt_of_block H2.out.2.2.1)).trans H2.out.2.2.1) ((hwa.block _ (lt_of_block H2.out.2.1)).trans H2.out.2.1) ((hwa.block _ (lt_of_block H2.out.2.2.2)).trans H2.out.2.2.2) (k25.K_below (H2.out.1.trans (hwa.mono H2.out.1.size)) HK.out)).mono ?_
    rintro e w3 ⟨rfl, ⟨kvv, h1, h2⟩, h3⟩
    exact ⟨_, rfl, ⟨rfl, kvv, h1, Kd.R_lower h2 (by omega)⟩, h3⟩
  rintro e w4 ⟨r, w3, rfl, ⟨rfl, kvv, hq1, hq2⟩, hc1, hc2⟩
  have hl3 := lt_of_block H2.out.2.2.2
  have hs := H2.out.1.size
  have ho2 := (hc1.block _ (lt_of_block hq1) (by omega)).trans hq1
  have co : w4.cell? ⟨w.heap.size + 1 + 1, 0, none⟩ = some kvv := by rw [cell_of_block ho2]; rfl
  have hs3 := hc2.size
  have hr2 : Kd.string.R 9 w4 w.heap.size (fun _ => True) kvv ts := Kd.R_lower (R_upd hq2 (fun k _ hb hk => hc1.block k hk (by omega))) (by omega)
  have HB := Aside0.mk (And.intro (H2.out.1.trans ((hc2.below hs (fun k e => by omega)).trans (hc1.below (by omega) (fun k e => by omega)))) hr2)
  obtain ⟨A5, n5, c5, rfl⟩ : ∃ A1 n1 c1, kvv = .slice A1 n1 c1 := by obtain ⟨A1, c1, e⟩ := Kd.R_slice hr2; exact ⟨_, _, _, e⟩
  clear hc1 hc2 hq1 hq2 ho2 hl3 hs hs3 hr2
  go_wp2
  refine bodyPost_ret (v := .tuple #[.slice A5 n5 c5, .bool true]) (by simp [results, Try.results22, go_sem]) rfl ⟨HB.out.1, _, rfl, HB.out.2⟩
end Go.Proofs.Ytigpgkfgkjabmaa
