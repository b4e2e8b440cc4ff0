-- PRINTED BY print.sh 35421559b90ae4d0a3588c463048766b98c2df88dd9212a6774a882060cdf62d: not written by this session
import Derived.Test.YtigpgkfgkjabmaaPFnFieldsx0
import Derived.Test.YtigpgkfgkjabmaaPFnFieldsx1
namespace Go.Proofs.Ytigpgkfgkjabmaa.PFnFields
open Go.RowKit Go.Proofs.YtigpgkfgkjabmaaW.PrintWords Go.Proofs.YtigpgkfgkjabmaaW.PrintLast Go.Proofs.YtigpgkfgkjabmaaW.PrintMore
attribute [local go_sem] max2_int min2_int max_two min_two max_three min_three max_four min_four   -- for this text's walks alone
set_option linter.unusedVariables false
set_option linter.unusedSimpArgs false

/-! ### spec_Same: function 19 -/
mutual
def spec_Same.j0 : Nat → Bool → Bool → Int → ByteArray → ByteArray → List ByteArray → List (S25) → Int → ByteArray → ByteArray → List ByteArray → List (S25) → Option (Bool)
  | 0, _, _, _, _, _, _, _, _, _, _, _, _ => none
  | k + 1, x2, x50, x126000, x126001, x126002, x126003, x126004, x127000, x127001, x127002, x127003, x127004 => if x50 = true then (some false) else (spec_Same.l0 k x2 (x126004.length : Int) 0 x126000 x126001 x126002 x126003 x126004 x127000 x127001 x127002 x127003 x127004)
def spec_Same.l0 : Nat → Bool → Int → Int → Int → ByteArray → ByteArray → List ByteArray → List (S25) → Int → ByteArray → ByteArray → List ByteArray → List (S25) → Option (Bool)
  | 0, _, _, _, _, _, _, _, _, _, _, _, _, _ => none
  | k + 1, x2, x53, x54, x126000, x126001, x126002, x126003, x126004, x127000, x127001, x127002, x127003, x127004 => if x54 < x53 then (if x126000 = 2 then (if 0 ≤ x54 then (if x54 < (x126003.length : Int) then ((spec_Place.f k x127003 (rdOf ByteArray.empty x126003 x54)).bind fun t128 => (if t128 < 0 then (spec_Same.j2 k x2 x54 t128 x53 x54 true x126000 x126001 x126002 x126003 x126004 x127000 x127001 x127002 x127003 x127004) else (if t128 = x54 then (spec_Same.j2 k x2 x54 t128 x53 x54 false x126000 x126001 x126002 x126003 x126004 x127000 x127001 x127002 x127003 x127004) else (spec_Same.j2 k x2 x54 t128 x53 x54 (!x2) x126000 x126001 x126002 x126003 x126004 x127000 x127001 x127002 x127003 x127004)))) else (none)) else (none)) else (if 0 ≤ x54 then (if x54 < (x126004.length : Int) then (if x54 < (x127004.length : Int) then ((spec_Same.f k ((rd_T25 x126004 x54).f0) ((rd_T25 x126004 x54).f1) ((rd_T25 x126004 x54).f2) ((rd_T25 x126004 x54).f3) ((rd_T25 x126004 x54).f4) ((rd_T25 x127004 x54).f0) ((rd_T25 x127004 x54).f1) ((rd_T25 x127004 x54).f2) ((rd_T25 x127004 x54).f3) ((rd_T25 x127004 x54).f4) x2).bind fun t134 => (if t134 = true then (spec_Same.l0 k x2 x53 (wrap64 (x54 + 1)) x126000 x126001 x126002 x126003 x126004 x127000 x127001 x127002 x127003 x127004) else (some false))) else (none)) else (none)) else (none))) else (some true)
def spec_Same.j2 : Nat → Bool → Int → Int → Int → Int → Bool → Int → ByteArray → ByteArray → List ByteArray → List (S25) → Int → ByteArray → ByteArray → List ByteArray → List (S25) → Option (Bool)
  | 0, _, _, _, _, _, _, _, _, _, _, _, _, _, _, _, _ => none
  | k + 1, x2, x7, x8, x53, x54, x79, x126000, x126001, x126002, x126003, x126004, x127000, x127001, x127002, x127003, x127004 => if x79 = true then (some false) else (if 0 ≤ x7 then (if x7 < (x126004.length : Int) then (if 0 ≤ x8 then (if x8 < (x127004.length : Int) then ((spec_Same.f k ((rd_T25 x126004 x7).f0) ((rd_T25 x126004 x7).f1) ((rd_T25 x126004 x7).f2) ((rd_T25 x126004 x7).f3) ((rd_T25 x126004 x7).f4) ((rd_T25 x127004 x8).f0) ((rd_T25 x127004 x8).f1) ((rd_T25 x127004 x8).f2) ((rd_T25 x127004 x8).f3) ((rd_T25 x127004 x8).f4) x2).bind fun t131 => (if t131 = true then (spec_Same.l0 k x2 x53 (wrap64 (x54 + 1)) x126000 x126001 x126002 x126003 x126004 x127000 x127001 x127002 x127003 x127004) else (some false))) else (none)) else (none)) else (none)) else (none))
def spec_Same.f : Nat → Int → ByteArray → ByteArray → List ByteArray → List (S25) → Int → ByteArray → ByteArray → List ByteArray → List (S25) → Bool → Option (Bool)
  | 0, _, _, _, _, _, _, _, _, _, _, _ => none
  | k + 1, a0_0, a0_1, a0_2, l0_3, l0_4, a1_0, a1_1, a1_2, l1_3, l1_4, a2 => if a0_0 = a1_0 then (if a0_1.toList = a1_1.toList then (if a0_0 = 1 then (if a0_2.toList = a1_2.toList then (if (l0_3.length : Int) = (l1_3.length : Int) then (spec_Same.j0 k a2 ((l0_4.length : Int) != (l1_4.length : Int)) a0_0 a0_1 a0_2 l0_3 l0_4 a1_0 a1_1 a1_2 l1_3 l1_4) else (spec_Same.j0 k a2 true a0_0 a0_1 a0_2 l0_3 l0_4 a1_0 a1_1 a1_2 l1_3 l1_4)) else (spec_Same.j0 k a2 true a0_0 a0_1 a0_2 l0_3 l0_4 a1_0 a1_1 a1_2 l1_3 l1_4)) else (if (l0_3.length : Int) = (l1_3.length : Int) then (spec_Same.j0 k a2 ((l0_4.length : Int) != (l1_4.length : Int)) a0_0 a0_1 a0_2 l0_3 l0_4 a1_0 a1_1 a1_2 l1_3 l1_4) else (spec_Same.j0 k a2 true a0_0 a0_1 a0_2 l0_3 l0_4 a1_0 a1_1 a1_2 l1_3 l1_4))) else (spec_Same.j0 k a2 true a0_0 a0_1 a0_2 l0_3 l0_4 a1_0 a1_1 a1_2 l1_3 l1_4)) else (spec_Same.j0 k a2 true a0_0 a0_1 a0_2 l0_3 l0_4 a1_0 a1_1 a1_2 l1_3 l1_4)
end
theorem spec_Same.mono_l : ∀ k, (∀ y0 y1 y2 y3 y4 y5 y6 y7 y8 y9 y10, LeO (spec_Same.f k y0 y1 y2 y3 y4 y5 y6 y7 y8 y9 y10) (spec_Same.f (k + 1) y0 y1 y2 y3 y4 y5 y6 y7 y8 y9 y10)) ∧ (∀ y0 y1 y2 y3 y4 y5 y6 y7 y8 y9 y10 y11, LeO (spec_Same.j0 k y0 y1 y2 y3 y4 y5 y6 y7 y8 y9 y10 y11) (spec_Same.j0 (k + 1) y0 y1 y2 y3 y4 y5 y6 y7 y8 y9 y10 y11)) ∧ (∀ y0 y1 y2 y3 y4 y5 y6 y7 y8 y9 y10 y11 y12, LeO (spec_Same.l0 k y0 y1 y2 y3 y4 y5 y6 y7 y8 y9 y10 y11 y12) (spec_Same.l0 (k + 1) y0 y1 y2 y3 y4 y5 y6 y7 y8 y9 y10 y11 y12)) ∧ (∀ y0 y1 y2 y3 y4 y5 y6 y7 y8 y9 y10 y11 y12 y13 y14 y15, LeO (spec_Same.j2 k y0 y1 y2 y3 y4 y5 y6 y7 y8 y9 y10 y11 y12 y13 y14 y15) (spec_Same.j2 (k + 1) y0 y1 y2 y3 y4 y5 y6 y7 y8 y9 y10 y11 y12 y13 y14 y15))
  | 0 => ⟨fun _ _ _ _ _ _ _ _ _ _ _ r h => by simp [spec_Same.f] at h, fun _ _ _ _ _ _ _ _ _ _ _ _ r h => by simp [spec_Same.j0] at h, fun _ _ _ _ _ _ _ _ _ _ _ _ _ r h => by simp [spec_Same.l0] at h, fun _ _ _ _ _ _ _ _ _ _ _ _ _ _ _ _ r h => by simp [spec_Same.j2] at h⟩
  | k + 1 => by
    obtain ⟨ih0, ih1, ih2, ih3⟩ := spec_Same.mono_l k
    refine ⟨?_, ?_, ?_, ?_⟩
    · intro y0 y1 y2 y3 y4 y5 y6 y7 y8 y9 y10
      unfold spec_Same.f
      repeat' first
      | (with_reducible exact ih0 _ _ _ _ _ _ _ _ _ _ _)
      | (with_reducible exact ih1 _ _ _ _ _ _ _ _ _ _ _ _)
      | (with_reducible exact ih2 _ _ _ _ _ _ _ _ _ _ _ _ _)
      | (with_reducible exact ih3 _ _ _ _ _ _ _ _ _ _ _ _ _ _ _ _)
      | (with_reducible exact spec_Place.mono _ _ _)
      | (with_reducible exact LeO.refl _)
      | (with_reducible exact LeO.none _)
      | (with_reducible refine LeO.ite ?_ ?_)
      | (with_reducible refine LeO.bind ?_ (fun _ => ?_))
      | exact ih0 _ _ _ _ _ _ _ _ _ _ _
      | exact ih1 _ _ _ _ _ _ _ _ _ _ _ _
      | exact ih2 _ _ _ _ _ _ _ _ _ _ _ _ _
      | exact ih3 _ _ _ _ _ _ _ _ _ _ _ _ _ _ _ _
      | exact spec_Place.mono _ _ _
      | exact LeO.none _
      | refine LeO.ite ?_ ?_
      | refine LeO.bind ?_ (fun _ => ?_)
    · intro y0 y1 y2 y3 y4 y5 y6 y7 y8 y9 y10 y11
      unfold spec_Same.j0
      repeat' first
      | (with_reducible exact ih0 _ _ _ _ _ _ _ _ _ _ _)
      | (with_reducible exact ih1 _ _ _ _ _ _ _ _ _ _ _ _)
      | (with_reducible exact ih2 _ _ _ _ _ _ _ _ _ _ _ _ _)
      | (with_reducible exact ih3 _ _ _ _ _ _ _ _ _ _ _ _ _ _ _ _)
      | (with_reducible exact spec_Place.mono _ _ _)
      | (with_reducible exact LeO.refl _)
      | (with_reducible exact LeO.none _)
      | (with_reducible refine LeO.ite ?_ ?_)
      | (with_reducible refine LeO.bind ?_ (fun _ => ?_))
      | exact ih0 _ _ _ _ _ _ _ _ _ _ _
      | exact ih1 _ _ _ _ _ _ _ _ _ _ _ _
      | exact ih2 _ _ _ _ _ _ _ _ _ _ _ _ _
      | exact ih3 _ _ _ _ _ _ _ _ _ _ _ _ _ _ _ _
      | exact spec_Place.mono _ _ _
      | exact LeO.none _
      | refine LeO.ite ?_ ?_
      | refine LeO.bind ?_ (fun _ => ?_)
    · intro y0 y1 y2 y3 y4 y5 y6 y7 y8 y9 y10 y11 y12
      unfold spec_Same.l0
      repeat' first
      | (with_reducible exact ih0 _ _ _ _ _ _ _ _ _ _ _)
      | (with_reducible exact ih1 _ _ _ _ _ _ _ _ _ _ _ _)
      | (with_reducible exact ih2 _ _ _ _ _ _ _ _ _ _ _ _ _)
      | (with_reducible exact ih3 _ _ _ _ _ _ _ _ _ _ _ _ _ _ _ _)
      | (with_reducible exact spec_Place.mono _ _ _)
      | (with_reducible exact LeO.refl _)
      | (with_reducible exact LeO.none _)
      | (with_reducible refine LeO.ite ?_ ?_)
      | (with_reducible refine LeO.bind ?_ (fun _ => ?_))
      | exact ih0 _ _ _ _ _ _ _ _ _ _ _
      | exact ih1 _ _ _ _ _ _ _ _ _ _ _ _
      | exact ih2 _ _ _ _ _ _ _ _ _ _ _ _ _
      | exact ih3 _ _ _ _ _ _ _ _ _ _ _ _ _ _ _ _
      | exact spec_Place.mono _ _ _
      | exact LeO.none _
      | refine LeO.ite ?_ ?_
      | refine LeO.bind ?_ (fun _ => ?_)
    · intro y0 y1 y2 y3 y4 y5 y6 y7 y8 y9 y10 y11 y12 y13 y14 y15
      unfold spec_Same.j2
      repeat' first
      | (with_reducible exact ih0 _ _ _ _ _ _ _ _ _ _ _)
      | (with_reducible exact ih1 _ _ _ _ _ _ _ _ _ _ _ _)
      | (with_reducible exact ih2 _ _ _ _ _ _ _ _ _ _ _ _ _)
      | (with_reducible exact ih3 _ _ _ _ _ _ _ _ _ _ _ _ _ _ _ _)
      | (with_reducible exact spec_Place.mono _ _ _)
      | (with_reducible exact LeO.refl _)
      | (with_reducible exact LeO.none _)
      | (with_reducible refine LeO.ite ?_ ?_)
      | (with_reducible refine LeO.bind ?_ (fun _ => ?_))
      | exact ih0 _ _ _ _ _ _ _ _ _ _ _
      | exact ih1 _ _ _ _ _ _ _ _ _ _ _ _
      | exact ih2 _ _ _ _ _ _ _ _ _ _ _ _ _
      | exact ih3 _ _ _ _ _ _ _ _ _ _ _ _ _ _ _ _
      | exact spec_Place.mono _ _ _
      | exact LeO.none _
      | refine LeO.ite ?_ ?_
      | refine LeO.bind ?_ (fun _ => ?_)
theorem spec_Same.mono : ∀ a0 a1 a2 a3 a4 a5 a6 a7 a8 a9 a10 k, LeO (spec_Same.f k a0 a1 a2 a3 a4 a5 a6 a7 a8 a9 a10) (spec_Same.f (k + 1) a0 a1 a2 a3 a4 a5 a6 a7 a8 a9 a10) := by
  intro a0 a1 a2 a3 a4 a5 a6 a7 a8 a9 a10 k
  obtain ⟨ih0, ih1, ih2, ih3⟩ := spec_Same.mono_l k
  exact ih0 a0 a1 a2 a3 a4 a5 a6 a7 a8 a9 a10
def spec_Same.T8 : Bool × List (List Nat × List Nat) := (true, [([], []), ([0], [0]), ([], []), ([2], [2]), ([], []), ([3, 4], [3, 4]), ([5], [5]), ([1, 6], [1, 6]), ([7, 7, 0, 1, 2, 3, 4, 5, 6, 7], [7])])
def spec_Same.B8 : List Nat := [0, 1, 0, 4, 0, 28, 60, 127, 255]
theorem spec_Same.tab8 : rtab .any (opsOf Try.f19 8) = spec_Same.T8 := by kernel_rfl
theorem spec_Same.bits8 : waitsOk spec_Same.T8.2 spec_Same.B8 = true := by kernel_rfl
def spec_Same.T11 : Bool × List (List Nat × List Nat) := (true, [([], []), ([0], [0]), ([], []), ([1, 2], [1, 2]), ([3], [3]), ([], []), ([5], [5]), ([], []), ([6, 7], [6, 7]), ([8], [8]), ([], []), ([4, 9, 10], [4, 9, 10]), ([11], [11])])
def spec_Same.B11 : List Nat := [0, 1, 0, 7, 15, 0, 32, 0, 224, 480, 0, 2047, 4095]
theorem spec_Same.tab11 : rtab .any (opsOf Try.f19 11) = spec_Same.T11 := by kernel_rfl
theorem spec_Same.bits11 : waitsOk spec_Same.T11.2 spec_Same.B11 = true := by kernel_rfl
set_option maxHeartbeats 8000000 in
set_option maxRecDepth 100000 in
theorem spec_Same.calls (k : Nat) : ∀ (a0_0 : Int) (a0_1 : ByteArray) (a0_2 : ByteArray) (A0_3 : Option Addr) (c0_3 : Nat) (l0_3 : List ByteArray) (A0_4 : Option Addr) (c0_4 : Nat) (l0_4 : List (S25)) (a1_0 : Int) (a1_1 : ByteArray) (a1_2 : ByteArray) (A1_3 : Option Addr) (c1_3 : Nat) (l1_3 : List ByteArray) (A1_4 : Option Addr) (c1_4 : Nat) (l1_4 : List (S25)) (a2 : Bool) (r : Bool) (w : World) (hr0_3 : Kd.C Kd.string w A0_3 l0_3.length l0_3) (hc0_3 : l0_3.length ≤ c0_3) (hr0_4 : Kd.C k25 w A0_4 l0_4.length l0_4) (hc0_4 : l0_4.length ≤ c0_4) (hr1_3 : Kd.C Kd.string w A1_3 l1_3.length l1_3) (hc1_3 : l1_3.length ≤ c1_3) (hr1_4 : Kd.C k25 w A1_4 l1_4.length l1_4) (hc1_4 : l1_4.length ≤ c1_4) (h : spec_Same.f k a0_0 a0_1 a0_2 l0_3 l0_4 a1_0 a1_1 a1_2 l1_3 l1_4 a2 = some r),
    Calls Try.prog 19 #[.agg #[.int .i64 a0_0, .string a0_1, .string a0_2, .slice A0_3 l0_3.length c0_3, .slice A0_4 l0_4.length c0_4], .agg #[.int .i64 a1_0, .string a1_1, .string a1_2, .slice A1_3 l1_3.length c1_3, .slice A1_4 l1_4.length c1_4], .bool a2] w fun e w' => e = .returned (.bool r) ∧ Below w.heap.size w w' := by
  induction k using Nat.strongRecOn with
  | _ k ih =>
  intro a0_0 a0_1 a0_2 A0_3 c0_3 l0_3 A0_4 c0_4 l0_4 a1_0 a1_1 a1_2 A1_3 c1_3 l1_3 A1_4 c1_4 l1_4 a2 r w hr0_3 hc0_3 hr0_4 hc0_4 hr1_3 hc1_3 hr1_4 hc1_4 h
  cases k with
  | zero => exact absurd h (by simp [spec_Same.f])
  | succ k =>
  simp only [spec_Same.f] at h
  have hu25 := Try.underlying25
  have HR0_3 := Aside0.mk hr0_3
  have HC0_3 := Aside0.mk hc0_3
  clear hr0_3 hc0_3
  have HR0_4 := Aside0.mk hr0_4
  have HC0_4 := Aside0.mk hc0_4
  clear hr0_4 hc0_4
  have HR1_3 := Aside0.mk hr1_3
  have HC1_3 := Aside0.mk hc1_3
  clear hr1_3 hc1_3
  have HR1_4 := Aside0.mk hr1_4
  have HC1_4 := Aside0.mk hc1_4
  clear hr1_4 hc1_4
  have HB := Aside0.mk (Below.refl w.heap.size w)
  have H : (if a0_0 = a1_0 then (if a0_1.toList = a1_1.toList then (if a0_0 = 1 then (if a0_2.toList = a1_2.toList then (if (l0_3.length : Int) = (l1_3.length : Int) then (spec_Same.j0 k a2 ((l0_4.length : Int) != (l1_4.length : Int)) a0_0 a0_1 a0_2 l0_3 l0_4 a1_0 a1_1 a1_2 l1_3 l1_4) else (spec_Same.j0 k a2 true a0_0 a0_1 a0_2 l0_3 l0_4 a1_0 a1_1 a1_2 l1_3 l1_4)) else (spec_Same.j0 k a2 true a0_0 a0_1 a0_2 l0_3 l0_4 a1_0 a1_1 a1_2 l1_3 l1_4)) else (if (l0_3.length : Int) = (l1_3.length : Int) then (spec_Same.j0 k a2 ((l0_4.length : Int) != (l1_4.length : Int)) a0_0 a0_1 a0_2 l0_3 l0_4 a1_0 a1_1 a1_2 l1_3 l1_4) else (spec_Same.j0 k a2 true a0_0 a0_1 a0_2 l0_3 l0_4 a1_0 a1_1 a1_2 l1_3 l1_4))) else (spec_Same.j0 k a2 true a0_0 a0_1 a0_2 l0_3 l0_4 a1_0 a1_1 a1_2 l1_3 l1_4)) else (spec_Same.j0 k a2 true a0_0 a0_1 a0_2 l0_3 l0_4 a1_0 a1_1 a1_2 l1_3 l1_4)) = some r := h
  clear h
  have HC4 := Aside0.mk H
  clear H
  go_enter Try.func19, Try.ntmps19
  go_upto_region 1 with (first | ((with_reducible refine gate_dst (N := 3) rfl ?_); (try (refine gate_guard (by rfl) ?_; dsimp only)); refine box_event ?hg (N := 3) ?hd (cs := #[.int .i64 a0_0, .string a0_1, .string a0_2, .slice A0_3 l0_3.length c0_3, .slice A0_4 l0_4.length c0_4]) (t := 25) ?hr ?_; (case hd => rfl); (case hg => rfl); (case hr => first | (go_simp; done) | (go_simp; rfl)); intro gb125 hg w5 hbox hb; have n0_ := Aside0.mk (below_step (by repeat (first | (with_reducible first | exact HB.out | apply below_alloc | apply pw_below_drewN | apply below_drew1) | exact HB.out)) hb); have n1_ := Aside0.mk (hbox); have n2_ := Aside0.mk ((by rw [hg]; exact (below_size (by repeat (first | (with_reducible first | exact HB.out | apply below_alloc | apply pw_below_drewN | apply below_drew1) | exact HB.out))) : w.heap.size ≤ gb125)); have n3_ := Aside0.mk ((by rw [hg]; exact (below_size (by repeat (first | (with_reducible first | exact HB.out | apply below_alloc | apply pw_below_drewN | apply below_drew1) | exact HB.out))) : w.heap.size ≤ gb125)); clear HB; have HB := n0_; have BK125 := n1_; have GW125 := n2_; have GE125 := n3_; clear n0_ n1_ n2_ n3_; clear hb hbox hg) | ((with_reducible refine gate_dst (N := 4) rfl ?_); (try (refine gate_guard (by rfl) ?_; dsimp only)); refine box_event ?hg (N := 4) ?hd (cs := #[.int .i64 a1_0, .string a1_1, .string a1_2, .slice A1_3 l1_3.length c1_3, .slice A1_4 l1_4.length c1_4]) (t := 25) ?hr ?_; (case hd => rfl); (case hg => rfl); (case hr => first | (go_simp; done) | (go_simp; rfl)); intro gb126 hg w6 hbox hb; have n0_ := Aside0.mk (blk_below (g := gb125) (o := .cells #[.int .i64 a0_0, .string a0_1, .string a0_2, .slice A0_3 l0_3.length c0_3, .slice A0_4 l0_4.length c0_4] 25 (0, 0)) (by (with_reducible repeat (first | refine blk_drewN ?_ _ | refine blk_drew ?_ | refine blk_alloc ?_ _)); exact BK125.out) hb); have n1_ := Aside0.mk (below_step (by repeat (first | (with_reducible first | exact HB.out | apply below_alloc | apply pw_below_drewN | apply below_drew1 | refine below_set ?_ GE125.out) | exact HB.out)) hb); have n2_ := Aside0.mk (hbox); have n3_ := Aside0.mk ((by rw [hg]; exact (below_size (by repeat (first | (with_reducible first | exact HB.out | apply below_alloc | apply pw_below_drewN | apply below_drew1 | refine below_set ?_ GE125.out) | exact HB.out))) : w.heap.size ≤ gb126)); have n4_ := Aside0.mk ((by rw [hg]; exact (below_size (by repeat (first | (with_reducible first | exact HB.out | apply below_alloc | apply pw_below_drewN | apply below_drew1 | refine below_set ?_ GE125.out) | exact HB.out))) : w.heap.size ≤ gb126)); have n5_ := Aside0.mk ((by rw [hg]; exact Nat.ne_of_lt (blk_lt (g := gb125) (o := .cells #[.int .i64 a0_0, .string a0_1, .string a0_2, .slice A0_3 l0_3.length c0_3, .slice A0_4 l0_4.length c0_4] 25 (0, 0)) (by (with_reducible repeat (first | refine blk_drewN ?_ _ | refine blk_drew ?_ | refine blk_alloc ?_ _)); exact BK125.out)) : gb125 ≠ gb126)); have n6_ := Aside0.mk ((by rw [hg]; exact Nat.ne_of_gt (blk_lt (g := gb125) (o := .cells #[.int .i64 a0_0, .string a0_1, .string a0_2, .slice A0_3 l0_3.length c0_3, .slice A0_4 l0_4.length c0_4] 25 (0, 0)) (by (with_reducible repeat (first | refine blk_drewN ?_ _ | refine blk_drew ?_ | refine blk_alloc ?_ _)); exact BK125.out)) : gb126 ≠ gb125)); clear BK125; clear HB; have BK125 := n0_; have HB := n1_; have BK126 := n2_; have GW126 := n3_; have GE126 := n4_; have NB125_126 := n5_; have NB126_125 := n6_; clear n0_ n1_ n2_ n3_ n4_ n5_ n6_; clear hb hbox hg))
  (try simp only [Act.put, List.setIfInBounds_toArray, List.set_cons_zero, List.set_cons_succ])
  go_cut [50] (fun v50 wc => ∃ (kq : Nat) (x50_3 : Bool), v50 = .bool x50_3 ∧ Aside0 (spec_Same.j0 kq a2 x50_3 a0_0 a0_1 a0_2 l0_3 l0_4 a1_0 a1_1 a1_2 l1_3 l1_4 = some r) ∧ Aside0 (kq ≤ k) ∧ Aside0 (wc.heap[gb125]? = some (.cells #[.int .i64 a0_0, .string a0_1, .string a0_2, (.slice A0_3 l0_3.length c0_3), (.slice A0_4 l0_4.length c0_4)] 25 (0, 0))) ∧ Aside0 (wc.heap[gb126]? = some (.cells #[.int .i64 a1_0, .string a1_1, .string a1_2, (.slice A1_3 l1_3.length c1_3), (.slice A1_4 l1_4.length c1_4)] 25 (0, 0))) ∧ Aside0 (Below w.heap.size w wc))
  case first =>
    have H := HC4.out
    clear HC4
    by_cases c7 : a0_0 = a1_0
    · rw [if_pos c7] at H
      have c7b0 : (a0_0 == a1_0) = true := beq_iff_eq.mpr c7
      have c7b1 : (a0_0 != a1_0) = false := bne_eq_false_iff_eq.mpr c7
      clear c7
      (first | rw [c7b0] | (simp only [i64_w, i32_w]; rw [c7b0]) | skip)
      by_cases c8 : a0_1.toList = a1_1.toList
      · rw [if_pos c8] at H
        have c8b0 : (a0_1.toList == a1_1.toList) = true := beq_iff_eq.mpr c8
        have c8b1 : (a0_1.toList != a1_1.toList) = false := bne_eq_false_iff_eq.mpr c8
        clear c8
        by_cases c9 : a0_0 = 1
        · rw [if_pos c9] at H
          have c9b0 : (a0_0 == 1) = true := beq_iff_eq.mpr c9
          have c9b1 : (a0_0 != 1) = false := bne_eq_false_iff_eq.mpr c9
          clear c9
          by_cases c10 : a0_2.toList = a1_2.toList
          · rw [if_pos c10] at H
            have c10b0 : (a0_2.toList == a1_2.toList) = true := beq_iff_eq.mpr c10
            have c10b1 : (a0_2.toList != a1_2.toList) = false := bne_eq_false_iff_eq.mpr c10
            clear c10
            by_cases c11 : (l0_3.length : Int) = (l1_3.length : Int)
            · rw [if_pos c11] at H
              have c11b0 : ((l0_3.length : Int) == (l1_3.length : Int)) = true := beq_iff_eq.mpr c11
              have c11b1 : ((l0_3.length : Int) != (l1_3.length : Int)) = false := bne_eq_false_iff_eq.mpr c11
              have c11b2 : (l0_3.length == l1_3.length) = true := by first | simpa using c11 | (simp at c11 ⊢; omega)
              clear c11
              have H' := Aside0.mk H
              clear H
              have hnb12 := NB125_126.out
              have hnc12 := NB126_125.out
              have hcz13_0 : w6.cell? ⟨gb125, 0, none⟩ = some (.int .i64 a0_0) := (blk_cell BK125.out 0).trans rfl
              have hcz13_1 : w6.cell? ⟨gb125, 1, none⟩ = some (.string a0_1) := (blk_cell BK125.out 1).trans rfl
              have hcz13_2 : w6.cell? ⟨gb125, 2, none⟩ = some (.string a0_2) := (blk_cell BK125.out 2).trans rfl
              have hcz13_3 : w6.cell? ⟨gb125, 3, none⟩ = some (.slice A0_3 l0_3.length c0_3) := (blk_cell BK125.out 3).trans rfl
              have hcz13_4 : w6.cell? ⟨gb125, 4, none⟩ = some (.slice A0_4 l0_4.length c0_4) := (blk_cell BK125.out 4).trans rfl
              have hfz13_0 := blk_frozen BK125.out 0
              have hfz13_1 := blk_frozen BK125.out 1
              have hfz13_2 := blk_frozen BK125.out 2
              have hfz13_3 := blk_frozen BK125.out 3
              have hfz13_4 := blk_frozen BK125.out 4
              have hcz14_0 : w6.cell? ⟨gb126, 0, none⟩ = some (.int .i64 a1_0) := (blk_cell BK126.out 0).trans rfl
              have hcz14_1 : w6.cell? ⟨gb126, 1, none⟩ = some (.string a1_1) := (blk_cell BK126.out 1).trans rfl
              have hcz14_2 : w6.cell? ⟨gb126, 2, none⟩ = some (.string a1_2) := (blk_cell BK126.out 2).trans rfl
              have hcz14_3 : w6.cell? ⟨gb126, 3, none⟩ = some (.slice A1_3 l1_3.length c1_3) := (blk_cell BK126.out 3).trans rfl
              have hcz14_4 : w6.cell? ⟨gb126, 4, none⟩ = some (.slice A1_4 l1_4.length c1_4) := (blk_cell BK126.out 4).trans rfl
              have hfz14_0 := blk_frozen BK126.out 0
              have hfz14_1 := blk_frozen BK126.out 1
              have hfz14_2 := blk_frozen BK126.out 2
              have hfz14_3 := blk_frozen BK126.out 3
              have hfz14_4 := blk_frozen BK126.out 4
              go_wp2
              go_meet
              case rel => exact ⟨_, (((l0_4.length : Int) != (l1_4.length : Int))), (by first | rfl | (simp; done) | (simp [*]; done)), H', ⟨by first | omega | exact Nat.le_refl _⟩, ⟨by (with_reducible repeat (first | refine blk_drewN ?_ _ | refine blk_drew ?_ | refine blk_alloc ?_ _)); exact BK125.out⟩, ⟨by (with_reducible repeat (first | refine blk_drewN ?_ _ | refine blk_drew ?_ | refine blk_alloc ?_ _)); exact BK126.out⟩, ⟨by repeat (first | (with_reducible first | exact HB.out | apply below_alloc | apply pw_below_drewN | apply below_drew1 | refine below_set ?_ GE125.out | refine below_set ?_ GE126.out) | exact HB.out)⟩⟩
            · rw [if_neg c11] at H
              have c11b0 : ((l0_3.length : Int) == (l1_3.length : Int)) = false := beq_eq_false_iff_ne.mpr c11
              have c11b1 : ((l0_3.length : Int) != (l1_3.length : Int)) = true := bne_iff_ne.mpr c11
              have c11b2 : (l0_3.length == l1_3.length) = false := by first | simpa using c11 | (simp at c11 ⊢; omega)
              have H' := Aside0.mk H
              clear H
              have hnb15 := NB125_126.out
              have hnc15 := NB126_125.out
              have hcz16_0 : w6.cell? ⟨gb125, 0, none⟩ = some (.int .i64 a0_0) := (blk_cell BK125.out 0).trans rfl
              have hcz16_1 : w6.cell? ⟨gb125, 1, none⟩ = some (.string a0_1) := (blk_cell BK125.out 1).trans rfl
              have hcz16_2 : w6.cell? ⟨gb125, 2, none⟩ = some (.string a0_2) := (blk_cell BK125.out 2).trans rfl
              have hcz16_3 : w6.cell? ⟨gb125, 3, none⟩ = some (.slice A0_3 l0_3.length c0_3) := (blk_cell BK125.out 3).trans rfl
              have hcz16_4 : w6.cell? ⟨gb125, 4, none⟩ = some (.slice A0_4 l0_4.length c0_4) := (blk_cell BK125.out 4).trans rfl
              have hfz16_0 := blk_frozen BK125.out 0
              have hfz16_1 := blk_frozen BK125.out 1
              have hfz16_2 := blk_frozen BK125.out 2
              have hfz16_3 := blk_frozen BK125.out 3
              have hfz16_4 := blk_frozen BK125.out 4
              have hcz17_0 : w6.cell? ⟨gb126, 0, none⟩ = some (.int .i64 a1_0) := (blk_cell BK126.out 0).trans rfl
              have hcz17_1 : w6.cell? ⟨gb126, 1, none⟩ = some (.string a1_1) := (blk_cell BK126.out 1).trans rfl
              have hcz17_2 : w6.cell? ⟨gb126, 2, none⟩ = some (.string a1_2) := (blk_cell BK126.out 2).trans rfl
              have hcz17_3 : w6.cell? ⟨gb126, 3, none⟩ = some (.slice A1_3 l1_3.length c1_3) := (blk_cell BK126.out 3).trans rfl
              have hcz17_4 : w6.cell? ⟨gb126, 4, none⟩ = some (.slice A1_4 l1_4.length c1_4) := (blk_cell BK126.out 4).trans rfl
              have hfz17_0 := blk_frozen BK126.out 0
              have hfz17_1 := blk_frozen BK126.out 1
              have hfz17_2 := blk_frozen BK126.out 2
              have hfz17_3 := blk_frozen BK126.out 3
              have hfz17_4 := blk_frozen BK126.out 4
              go_wp2
              go_meet
              case rel => exact ⟨_, (true), (by first | rfl | (simp; done) | (simp [*]; done)), H', ⟨by first | omega | exact Nat.le_refl _⟩, ⟨by (with_reducible repeat (first | refine blk_drewN ?_ _ | refine blk_drew ?_ | refine blk_alloc ?_ _)); exact BK125.out⟩, ⟨by (with_reducible repeat (first | refine blk_drewN ?_ _ | refine blk_drew ?_ | refine blk_alloc ?_ _)); exact BK126.out⟩, ⟨by repeat (first | (with_reducible first | exact HB.out | apply below_alloc | apply pw_below_drewN | apply below_drew1 | refine below_set ?_ GE125.out | refine below_set ?_ GE126.out) | exact HB.out)⟩⟩
          · rw [if_neg c10] at H
            have c10b0 : (a0_2.toList == a1_2.toList) = false := beq_eq_false_iff_ne.mpr c10
            have c10b1 : (a0_2.toList != a1_2.toList) = true := bne_iff_ne.mpr c10
            have H' := Aside0.mk H
            clear H
            have hnb18 := NB125_126.out
            have hnc18 := NB126_125.out
            have hcz19_0 : w6.cell? ⟨gb125, 0, none⟩ = some (.int .i64 a0_0) := (blk_cell BK125.out 0).trans rfl
            have hcz19_1 : w6.cell? ⟨gb125, 1, none⟩ = some (.string a0_1) := (blk_cell BK125.out 1).trans rfl
            have hcz19_2 : w6.cell? ⟨gb125, 2, none⟩ = some (.string a0_2) := (blk_cell BK125.out 2).trans rfl
            have hcz19_3 : w6.cell? ⟨gb125, 3, none⟩ = some (.slice A0_3 l0_3.length c0_3) := (blk_cell BK125.out 3).trans rfl
            have hcz19_4 : w6.cell? ⟨gb125, 4, none⟩ = some (.slice A0_4 l0_4.length c0_4) := (blk_cell BK125.out 4).trans rfl
            have hfz19_0 := blk_frozen BK125.out 0
            have hfz19_1 := blk_frozen BK125.out 1
            have hfz19_2 := blk_frozen BK125.out 2
            have hfz19_3 := blk_frozen BK125.out 3
            have hfz19_4 := blk_frozen BK125.out 4
            have hcz20_0 : w6.cell? ⟨gb126, 0, none⟩ = some (.int .i64 a1_0) := (blk_cell BK126.out 0).trans rfl
            have hcz20_1 : w6.cell? ⟨gb126, 1, none⟩ = some (.string a1_1) := (blk_cell BK126.out 1).trans rfl
            have hcz20_2 : w6.cell? ⟨gb126, 2, none⟩ = some (.string a1_2) := (blk_cell BK126.out 2).trans rfl
            have hcz20_3 : w6.cell? ⟨gb126, 3, none⟩ = some (.slice A1_3 l1_3.length c1_3) := (blk_cell BK126.out 3).trans rfl
            have hcz20_4 : w6.cell? ⟨gb126, 4, none⟩ = some (.slice A1_4 l1_4.length c1_4) := (blk_cell BK126.out 4).trans rfl
            have hfz20_0 := blk_frozen BK126.out 0
            have hfz20_1 := blk_frozen BK126.out 1
            have hfz20_2 := blk_frozen BK126.out 2
            have hfz20_3 := blk_frozen BK126.out 3
            have hfz20_4 := blk_frozen BK126.out 4
            go_wp2
            go_meet
            case rel => exact ⟨_, (true), (by first | rfl | (simp; done) | (simp [*]; done)), H', ⟨by first | omega | exact Nat.le_refl _⟩, ⟨by (with_reducible repeat (first | refine blk_drewN ?_ _ | refine blk_drew ?_ | refine blk_alloc ?_ _)); exact BK125.out⟩, ⟨by (with_reducible repeat (first | refine blk_drewN ?_ _ | refine blk_drew ?_ | refine blk_alloc ?_ _)); exact BK126.out⟩, ⟨by repeat (first | (with_reducible first | exact HB.out | apply below_alloc | apply pw_below_drewN | apply below_drew1 | refine below_set ?_ GE125.out | refine below_set ?_ GE126.out) | exact HB.out)⟩⟩
        · rw [if_neg c9] at H
          have c9b0 : (a0_0 == 1) = false := beq_eq_false_iff_ne.mpr c9
          have c9b1 : (a0_0 != 1) = true := bne_iff_ne.mpr c9
          by_cases c21 : (l0_3.length : Int) = (l1_3.length : Int)
          · rw [if_pos c21] at H
            have c21b0 : ((l0_3.length : Int) == (l1_3.length : Int)) = true := beq_iff_eq.mpr c21
            have c21b1 : ((l0_3.length : Int) != (l1_3.length : Int)) = false := bne_eq_false_iff_eq.mpr c21
            have c21b2 : (l0_3.length == l1_3.length) = true := by first | simpa using c21 | (simp at c21 ⊢; omega)
            clear c21
            have H' := Aside0.mk H
            clear H
            have hnb22 := NB125_126.out
            have hnc22 := NB126_125.out
            have hcz23_0 : w6.cell? ⟨gb125, 0, none⟩ = some (.int .i64 a0_0) := (blk_cell BK125.out 0).trans rfl
            have hcz23_1 : w6.cell? ⟨gb125, 1, none⟩ = some (.string a0_1) := (blk_cell BK125.out 1).trans rfl
            have hcz23_2 : w6.cell? ⟨gb125, 2, none⟩ = some (.string a0_2) := (blk_cell BK125.out 2).trans rfl
            have hcz23_3 : w6.cell? ⟨gb125, 3, none⟩ = some (.slice A0_3 l0_3.length c0_3) := (blk_cell BK125.out 3).trans rfl
            have hcz23_4 : w6.cell? ⟨gb125, 4, none⟩ = some (.slice A0_4 l0_4.length c0_4) := (blk_cell BK125.out 4).trans rfl
            have hfz23_0 := blk_frozen BK125.out 0
            have hfz23_1 := blk_frozen BK125.out 1
            have hfz23_2 := blk_frozen BK125.out 2
            have hfz23_3 := blk_frozen BK125.out 3
            have hfz23_4 := blk_frozen BK125.out 4
            have hcz24_0 : w6.cell? ⟨gb126, 0, none⟩ = some (.int .i64 a1_0) := (blk_cell BK126.out 0).trans rfl
            have hcz24_1 : w6.cell? ⟨gb126, 1, none⟩ = some (.string a1_1) := (blk_cell BK126.out 1).trans rfl
            have hcz24_2 : w6.cell? ⟨gb126, 2, none⟩ = some (.string a1_2) := (blk_cell BK126.out 2).trans rfl
            have hcz24_3 : w6.cell? ⟨gb126, 3, none⟩ = some (.slice A1_3 l1_3.length c1_3) := (blk_cell BK126.out 3).trans rfl
            have hcz24_4 : w6.cell? ⟨gb126, 4, none⟩ = some (.slice A1_4 l1_4.length c1_4) := (blk_cell BK126.out 4).trans rfl
            have hfz24_0 := blk_frozen BK126.out 0
            have hfz24_1 := blk_frozen BK126.out 1
            have hfz24_2 := blk_frozen BK126.out 2
            have hfz24_3 := blk_frozen BK126.out 3
            have hfz24_4 := blk_frozen BK126.out 4
            go_wp2
            go_meet
            case rel => exact ⟨_, (((l0_4.length : Int) != (l1_4.length : Int))), (by first | rfl | (simp; done) | (simp [*]; done)), H', ⟨by first | omega | exact Nat.le_refl _⟩, ⟨by (with_reducible repeat (first | refine blk_drewN ?_ _ | refine blk_drew ?_ | refine blk_alloc ?_ _)); exact BK125.out⟩, ⟨by (with_reducible repeat (first | refine blk_drewN ?_ _ | refine blk_drew ?_ | refine blk_alloc ?_ _)); exact BK126.out⟩, ⟨by repeat (first | (with_reducible first | exact HB.out | apply below_alloc | apply pw_below_drewN | apply below_drew1 | refine below_set ?_ GE125.out | refine below_set ?_ GE126.out) | exact HB.out)⟩⟩
          · rw [if_neg c21] at H
            have c21b0 : ((l0_3.length : Int) == (l1_3.length : Int)) = false := beq_eq_false_iff_ne.mpr c21
            have c21b1 : ((l0_3.length : Int) != (l1_3.length : Int)) = true := bne_iff_ne.mpr c21
            have c21b2 : (l0_3.length == l1_3.length) = false := by first | simpa using c21 | (simp at c21 ⊢; omega)
            have H' := Aside0.mk H
            clear H
            have hnb25 := NB125_126.out
            have hnc25 := NB126_125.out
            have hcz26_0 : w6.cell? ⟨gb125, 0, none⟩ = some (.int .i64 a0_0) := (blk_cell BK125.out 0).trans rfl
            have hcz26_1 : w6.cell? ⟨gb125, 1, none⟩ = some (.string a0_1) := (blk_cell BK125.out 1).trans rfl
            have hcz26_2 : w6.cell? ⟨gb125, 2, none⟩ = some (.string a0_2) := (blk_cell BK125.out 2).trans rfl
            have hcz26_3 : w6.cell? ⟨gb125, 3, none⟩ = some (.slice A0_3 l0_3.length c0_3) := (blk_cell BK125.out 3).trans rfl
            have hcz26_4 : w6.cell? ⟨gb125, 4, none⟩ = some (.slice A0_4 l0_4.length c0_4) := (blk_cell BK125.out 4).trans rfl
            have hfz26_0 := blk_frozen BK125.out 0
            have hfz26_1 := blk_frozen BK125.out 1
            have hfz26_2 := blk_frozen BK125.out 2
            have hfz26_3 := blk_frozen BK125.out 3
            have hfz26_4 := blk_frozen BK125.out 4
            have hcz27_0 : w6.cell? ⟨gb126, 0, none⟩ = some (.int .i64 a1_0) := (blk_cell BK126.out 0).trans rfl
            have hcz27_1 : w6.cell? ⟨gb126, 1, none⟩ = some (.string a1_1) := (blk_cell BK126.out 1).trans rfl
            have hcz27_2 : w6.cell? ⟨gb126, 2, none⟩ = some (.string a1_2) := (blk_cell BK126.out 2).trans rfl
            have hcz27_3 : w6.cell? ⟨gb126, 3, none⟩ = some (.slice A1_3 l1_3.length c1_3) := (blk_cell BK126.out 3).trans rfl
            have hcz27_4 : w6.cell? ⟨gb126, 4, none⟩ = some (.slice A1_4 l1_4.length c1_4) := (blk_cell BK126.out 4).trans rfl
            have hfz27_0 := blk_frozen BK126.out 0
            have hfz27_1 := blk_frozen BK126.out 1
            have hfz27_2 := blk_frozen BK126.out 2
            have hfz27_3 := blk_frozen BK126.out 3
            have hfz27_4 := blk_frozen BK126.out 4
            go_wp2
            go_meet
            case rel => exact ⟨_, (true), (by first | rfl | (simp; done) | (simp [*]; done)), H', ⟨by first | omega | exact Nat.le_refl _⟩, ⟨by (with_reducible repeat (first | refine blk_drewN ?_ _ | refine blk_drew ?_ | refine blk_alloc ?_ _)); exact BK125.out⟩, ⟨by (with_reducible repeat (first | refine blk_drewN ?_ _ | refine blk_drew ?_ | refine blk_alloc ?_ _)); exact BK126.out⟩, ⟨by repeat (first | (with_reducible first | exact HB.out | apply below_alloc | apply pw_below_drewN | apply below_drew1 | refine below_set ?_ GE125.out | refine below_set ?_ GE126.out) | exact HB.out)⟩⟩
      · rw [if_neg c8] at H
        have c8b0 : (a0_1.toList == a1_1.toList) = false := beq_eq_false_iff_ne.mpr c8
        have c8b1 : (a0_1.toList != a1_1.toList) = true := bne_iff_ne.mpr c8
        have H' := Aside0.mk H
        clear H
        have hnb28 := NB125_126.out
        have hnc28 := NB126_125.out
        have hcz29_0 : w6.cell? ⟨gb125, 0, none⟩ = some (.int .i64 a0_0) := (blk_cell BK125.out 0).trans rfl
        have hcz29_1 : w6.cell? ⟨gb125, 1, none⟩ = some (.string a0_1) := (blk_cell BK125.out 1).trans rfl
        have hcz29_2 : w6.cell? ⟨gb125, 2, none⟩ = some (.string a0_2) := (blk_cell BK125.out 2).trans rfl
        have hcz29_3 : w6.cell? ⟨gb125, 3, none⟩ = some (.slice A0_3 l0_3.length c0_3) := (blk_cell BK125.out 3).trans rfl
        have hcz29_4 : w6.cell? ⟨gb125, 4, none⟩ = some (.slice A0_4 l0_4.length c0_4) := (blk_cell BK125.out 4).trans rfl
        have hfz29_0 := blk_frozen BK125.out 0
        have hfz29_1 := blk_frozen BK125.out 1
        have hfz29_2 := blk_frozen BK125.out 2
        have hfz29_3 := blk_frozen BK125.out 3
        have hfz29_4 := blk_frozen BK125.out 4
        have hcz30_0 : w6.cell? ⟨gb126, 0, none⟩ = some (.int .i64 a1_0) := (blk_cell BK126.out 0).trans rfl
        have hcz30_1 : w6.cell? ⟨gb126, 1, none⟩ = some (.string a1_1) := (blk_cell BK126.out 1).trans rfl
        have hcz30_2 : w6.cell? ⟨gb126, 2, none⟩ = some (.string a1_2) := (blk_cell BK126.out 2).trans rfl
        have hcz30_3 : w6.cell? ⟨gb126, 3, none⟩ = some (.slice A1_3 l1_3.length c1_3) := (blk_cell BK126.out 3).trans rfl
        have hcz30_4 : w6.cell? ⟨gb126, 4, none⟩ = some (.slice A1_4 l1_4.length c1_4) := (blk_cell BK126.out 4).trans rfl
        have hfz30_0 := blk_frozen BK126.out 0
        have hfz30_1 := blk_frozen BK126.out 1
        have hfz30_2 := blk_frozen BK126.out 2
        have hfz30_3 := blk_frozen BK126.out 3
        have hfz30_4 := blk_frozen BK126.out 4
        go_wp2
        go_meet
        case rel => exact ⟨_, (true), (by first | rfl | (simp; done) | (simp [*]; done)), H', ⟨by first | omega | exact Nat.le_refl _⟩, ⟨by (with_reducible repeat (first | refine blk_drewN ?_ _ | refine blk_drew ?_ | refine blk_alloc ?_ _)); exact BK125.out⟩, ⟨by (with_reducible repeat (first | refine blk_drewN ?_ _ | refine blk_drew ?_ | refine blk_alloc ?_ _)); exact BK126.out⟩, ⟨by repeat (first | (with_reducible first | exact HB.out | apply below_alloc | apply pw_below_drewN | apply below_drew1 | refine below_set ?_ GE125.out | refine below_set ?_ GE126.out) | exact HB.out)⟩⟩
    · rw [if_neg c7] at H
      have c7b0 : (a0_0 == a1_0) = false := beq_eq_false_iff_ne.mpr c7
      have c7b1 : (a0_0 != a1_0) = true := bne_iff_ne.mpr c7
      (first | rw [c7b0] | (simp only [i64_w, i32_w]; rw [c7b0]) | skip)
      have H' := Aside0.mk H
      clear H
      have hnb31 := NB125_126.out
      have hnc31 := NB126_125.out
      have hcz32_0 : w6.cell? ⟨gb125, 0, none⟩ = some (.int .i64 a0_0) := (blk_cell BK125.out 0).trans rfl
      have hcz32_1 : w6.cell? ⟨gb125, 1, none⟩ = some (.string a0_1) := (blk_cell BK125.out 1).trans rfl
      have hcz32_2 : w6.cell? ⟨gb125, 2, none⟩ = some (.string a0_2) := (blk_cell BK125.out 2).trans rfl
      have hcz32_3 : w6.cell? ⟨gb125, 3, none⟩ = some (.slice A0_3 l0_3.length c0_3) := (blk_cell BK125.out 3).trans rfl
      have hcz32_4 : w6.cell? ⟨gb125, 4, none⟩ = some (.slice A0_4 l0_4.length c0_4) := (blk_cell BK125.out 4).trans rfl
      have hfz32_0 := blk_frozen BK125.out 0
      have hfz32_1 := blk_frozen BK125.out 1
      have hfz32_2 := blk_frozen BK125.out 2
      have hfz32_3 := blk_frozen BK125.out 3
      have hfz32_4 := blk_frozen BK125.out 4
      have hcz33_0 : w6.cell? ⟨gb126, 0, none⟩ = some (.int .i64 a1_0) := (blk_cell BK126.out 0).trans rfl
      have hcz33_1 : w6.cell? ⟨gb126, 1, none⟩ = some (.string a1_1) := (blk_cell BK126.out 1).trans rfl
      have hcz33_2 : w6.cell? ⟨gb126, 2, none⟩ = some (.string a1_2) := (blk_cell BK126.out 2).trans rfl
      have hcz33_3 : w6.cell? ⟨gb126, 3, none⟩ = some (.slice A1_3 l1_3.length c1_3) := (blk_cell BK126.out 3).trans rfl
      have hcz33_4 : w6.cell? ⟨gb126, 4, none⟩ = some (.slice A1_4 l1_4.length c1_4) := (blk_cell BK126.out 4).trans rfl
      have hfz33_0 := blk_frozen BK126.out 0
      have hfz33_1 := blk_frozen BK126.out 1
      have hfz33_2 := blk_frozen BK126.out 2
      have hfz33_3 := blk_frozen BK126.out 3
      have hfz33_4 := blk_frozen BK126.out 4
      go_wp2
      go_meet
      case rel => exact ⟨_, (true), (by first | rfl | (simp; done) | (simp [*]; done)), H', ⟨by first | omega | exact Nat.le_refl _⟩, ⟨by (with_reducible repeat (first | refine blk_drewN ?_ _ | refine blk_drew ?_ | refine blk_alloc ?_ _)); exact BK125.out⟩, ⟨by (with_reducible repeat (first | refine blk_drewN ?_ _ | refine blk_drew ?_ | refine blk_alloc ?_ _)); exact BK126.out⟩, ⟨by repeat (first | (with_reducible first | exact HB.out | apply below_alloc | apply pw_below_drewN | apply below_drew1 | refine below_set ?_ GE125.out | refine below_set ?_ GE126.out) | exact HB.out)⟩⟩
  case rest =>
    clear HC4
    try clear c1
    try clear c2
    try clear p2
    try clear c3
    try clear c7
    try clear c7b0
    try clear c7b1
    try clear c8
    try clear c8b0
    try clear c8b1
    try clear c9
    try clear c9b0
    try clear c9b1
    try clear c10
    try clear c10b0
    try clear c10b1
    try clear c11
    try clear c11b0
    try clear c11b1
    try clear c11b2
    try clear c12
    try clear c15
    try clear c18
    try clear c19
    try clear c21
    try clear c21b0
    try clear c21b1
    try clear c21b2
    try clear c22
    try clear c25
    try clear c28
    try clear c31
    try clear hcz13_0
    try clear hcz13_1
    try clear hcz13_2
    try clear hcz13_3
    try clear hcz13_4
    try clear hcz14_0
    try clear hcz14_1
    try clear hcz14_2
    try clear hcz14_3
    try clear hcz14_4
    try clear hcz16_0
    try clear hcz16_1
    try clear hcz16_2
    try clear hcz16_3
    try clear hcz16_4
    try clear hcz17_0
    try clear hcz17_1
    try clear hcz17_2
    try clear hcz17_3
    try clear hcz17_4
    try clear hcz19_0
    try clear hcz19_1
    try clear hcz19_2
    try clear hcz19_3
    try clear hcz19_4
    try clear hcz20_0
    try clear hcz20_1
    try clear hcz20_2
    try clear hcz20_3
    try clear hcz20_4
    try clear hcz23_0
    try clear hcz23_1
    try clear hcz23_2
    try clear hcz23_3
    try clear hcz23_4
    try clear hcz24_0
    try clear hcz24_1
    try clear hcz24_2
    try clear hcz24_3
    try clear hcz24_4
    try clear hcz26_0
    try clear hcz26_1
    try clear hcz26_2
    try clear hcz26_3
    try clear hcz26_4
    try clear hcz27_0
    try clear hcz27_1
    try clear hcz27_2
    try clear hcz27_3
    try clear hcz27_4
    try clear hcz29_0
    try clear hcz29_1
    try clear hcz29_2
    try clear hcz29_3
    try clear hcz29_4
    try clear hcz30_0
    try clear hcz30_1
    try clear hcz30_2
    try clear hcz30_3
    try clear hcz30_4
    try clear hcz32_0
    try clear hcz32_1
    try clear hcz32_2
    try clear hcz32_3
    try clear hcz32_4
    try clear hcz33_0
    try clear hcz33_1
    try clear hcz33_2
    try clear hcz33_3
    try clear hcz33_4
    try clear hfz13_0
    try clear hfz13_1
    try clear hfz13_2
    try clear hfz13_3
    try clear hfz13_4
    try clear hfz14_0
    try clear hfz14_1
    try clear hfz14_2
    try clear hfz14_3
    try clear hfz14_4
    try clear hfz16_0
    try clear hfz16_1
    try clear hfz16_2
    try clear hfz16_3
    try clear hfz16_4
    try clear hfz17_0
    try clear hfz17_1
    try clear hfz17_2
    try clear hfz17_3
    try clear hfz17_4
    try clear hfz19_0
    try clear hfz19_1
    try clear hfz19_2
    try clear hfz19_3
    try clear hfz19_4
    try clear hfz20_0
    try clear hfz20_1
    try clear hfz20_2
    try clear hfz20_3
    try clear hfz20_4
    try clear hfz23_0
    try clear hfz23_1
    try clear hfz23_2
    try clear hfz23_3
    try clear hfz23_4
    try clear hfz24_0
    try clear hfz24_1
    try clear hfz24_2
    try clear hfz24_3
    try clear hfz24_4
    try clear hfz26_0
    try clear hfz26_1
    try clear hfz26_2
    try clear hfz26_3
    try clear hfz26_4
    try clear hfz27_0
    try clear hfz27_1
    try clear hfz27_2
    try clear hfz27_3
    try clear hfz27_4
    try clear hfz29_0
    try clear hfz29_1
    try clear hfz29_2
    try clear hfz29_3
    try clear hfz29_4
    try clear hfz30_0
    try clear hfz30_1
    try clear hfz30_2
    try clear hfz30_3
    try clear hfz30_4
    try clear hfz32_0
    try clear hfz32_1
    try clear hfz32_2
    try clear hfz32_3
    try clear hfz32_4
    try clear hfz33_0
    try clear hfz33_1
    try clear hfz33_2
    try clear hfz33_3
    try clear hfz33_4
    obtain ⟨kq, x50_3, rfl, HA, HJ3, BK125, BK126, HB⟩ := hcut
    cases kq with
    | zero => exact absurd HA.out (by simp [spec_Same.j0])
    | succ kj3 =>
      have H := HA.out
      clear HA
      simp only [spec_Same.j0] at H
      by_cases c34 : x50_3 = true
      · subst c34
        have H1 : (some false) = some r := by rw [if_pos rfl] at H; exact H
        clear H
        have H := H1
        clear H1
        obtain rfl := Option.some.inj H
        go_wp2
        go_ret
        exact ⟨by first | rfl | (simp [errW_none, errW_some] <;> rfl) | (simp [*, errW_none, errW_some] <;> rfl), by repeat (first | (with_reducible first | exact HB.out | apply below_alloc | apply pw_below_drewN | apply below_drew1 | refine below_set ?_ GE125.out | refine below_set ?_ GE126.out) | exact HB.out)⟩
      · replace c34 := Bool.eq_false_iff.mpr c34
        subst c34
        have H1 : (spec_Same.l0 kj3 a2 (l0_4.length : Int) 0 a0_0 a0_1 a0_2 l0_3 l0_4 a1_0 a1_1 a1_2 l1_3 l1_4) = some r := by rw [if_neg (show ¬ (false = true) by decide)] at H; exact H
        clear H
        have H := H1
        clear H1
        have H' := Aside0.mk H
        clear H
        have hnb35 := NB125_126.out
        have hnc35 := NB126_125.out
        have hcz36_0 : wc.cell? ⟨gb125, 0, none⟩ = some (.int .i64 a0_0) := (blk_cell BK125.out 0).trans rfl
        have hcz36_1 : wc.cell? ⟨gb125, 1, none⟩ = some (.string a0_1) := (blk_cell BK125.out 1).trans rfl
        have hcz36_2 : wc.cell? ⟨gb125, 2, none⟩ = some (.string a0_2) := (blk_cell BK125.out 2).trans rfl
        have hcz36_3 : wc.cell? ⟨gb125, 3, none⟩ = some (.slice A0_3 l0_3.length c0_3) := (blk_cell BK125.out 3).trans rfl
        have hcz36_4 : wc.cell? ⟨gb125, 4, none⟩ = some (.slice A0_4 l0_4.length c0_4) := (blk_cell BK125.out 4).trans rfl
        have hfz36_0 := blk_frozen BK125.out 0
        have hfz36_1 := blk_frozen BK125.out 1
        have hfz36_2 := blk_frozen BK125.out 2
        have hfz36_3 := blk_frozen BK125.out 3
        have hfz36_4 := blk_frozen BK125.out 4
        go_wp2
        go_loopg [54] kj3 (fun kq v54 w' => ∃ (x54_2 : Int), v54 = .int .i64 x54_2 ∧ Aside0 (spec_Same.l0 kq a2 (l0_4.length : Int) x54_2 a0_0 a0_1 a0_2 l0_3 l0_4 a1_0 a1_1 a1_2 l1_3 l1_4 = some r) ∧ Aside0 (kq ≤ kj3) ∧ Aside0 (w'.heap[gb125]? = some (.cells #[.int .i64 a0_0, .string a0_1, .string a0_2, (.slice A0_3 l0_3.length c0_3), (.slice A0_4 l0_4.length c0_4)] 25 (0, 0))) ∧ Aside0 (w'.heap[gb126]? = some (.cells #[.int .i64 a1_0, .string a1_1, .string a1_2, (.slice A1_3 l1_3.length c1_3), (.slice A1_4 l1_4.length c1_4)] 25 (0, 0))) ∧ Aside0 (Below w.heap.size w w'))
        case atStart => exact ⟨(0), (by first | rfl | (simp; done) | (simp [*]; done)), H', ⟨Nat.le_refl _⟩, ⟨by (with_reducible repeat (first | refine blk_drewN ?_ _ | refine blk_drew ?_ | refine blk_alloc ?_ _)); exact BK125.out⟩, ⟨by (with_reducible repeat (first | refine blk_drewN ?_ _ | refine blk_drew ?_ | refine blk_alloc ?_ _)); exact BK126.out⟩, ⟨by repeat (first | (with_reducible first | exact HB.out | apply below_alloc | apply pw_below_drewN | apply below_drew1 | refine below_set ?_ GE125.out | refine below_set ?_ GE126.out) | exact HB.out)⟩⟩
        case round =>
          clear H'
          try clear c1
          try clear c2
          try clear p2
          try clear c3
          try clear c7
          try clear c7b0
          try clear c7b1
          try clear c8
          try clear c8b0
          try clear c8b1
          try clear c9
          try clear c9b0
          try clear c9b1
          try clear c10
          try clear c10b0
          try clear c10b1
          try clear c11
          try clear c11b0
          try clear c11b1
          try clear c11b2
          try clear c12
          try clear c15
          try clear c18
          try clear c19
          try clear c21
          try clear c21b0
          try clear c21b1
          try clear c21b2
          try clear c22
          try clear c25
          try clear c28
          try clear c31
          try clear c34
          try clear c35
          try clear hcz13_0
          try clear hcz13_1
          try clear hcz13_2
          try clear hcz13_3
          try clear hcz13_4
          try clear hcz14_0
          try clear hcz14_1
          try clear hcz14_2
          try clear hcz14_3
          try clear hcz14_4
          try clear hcz16_0
          try clear hcz16_1
          try clear hcz16_2
          try clear hcz16_3
          try clear hcz16_4
          try clear hcz17_0
          try clear hcz17_1
          try clear hcz17_2
          try clear hcz17_3
          try clear hcz17_4
          try clear hcz19_0
          try clear hcz19_1
          try clear hcz19_2
          try clear hcz19_3
          try clear hcz19_4
          try clear hcz20_0
          try clear hcz20_1
          try clear hcz20_2
          try clear hcz20_3
          try clear hcz20_4
          try clear hcz23_0
          try clear hcz23_1
          try clear hcz23_2
          try clear hcz23_3
          try clear hcz23_4
          try clear hcz24_0
          try clear hcz24_1
          try clear hcz24_2
          try clear hcz24_3
          try clear hcz24_4
          try clear hcz26_0
          try clear hcz26_1
          try clear hcz26_2
          try clear hcz26_3
          try clear hcz26_4
          try clear hcz27_0
          try clear hcz27_1
          try clear hcz27_2
          try clear hcz27_3
          try clear hcz27_4
          try clear hcz29_0
          try clear hcz29_1
          try clear hcz29_2
          try clear hcz29_3
          try clear hcz29_4
          try clear hcz30_0
          try clear hcz30_1
          try clear hcz30_2
          try clear hcz30_3
          try clear hcz30_4
          try clear hcz32_0
          try clear hcz32_1
          try clear hcz32_2
          try clear hcz32_3
          try clear hcz32_4
          try clear hcz33_0
          try clear hcz33_1
          try clear hcz33_2
          try clear hcz33_3
          try clear hcz33_4
          try clear hcz36_0
          try clear hcz36_1
          try clear hcz36_2
          try clear hcz36_3
          try clear hcz36_4
          try clear hfz13_0
          try clear hfz13_1
          try clear hfz13_2
          try clear hfz13_3
          try clear hfz13_4
          try clear hfz14_0
          try clear hfz14_1
          try clear hfz14_2
          try clear hfz14_3
          try clear hfz14_4
          try clear hfz16_0
          try clear hfz16_1
          try clear hfz16_2
          try clear hfz16_3
          try clear hfz16_4
          try clear hfz17_0
          try clear hfz17_1
          try clear hfz17_2
          try clear hfz17_3
          try clear hfz17_4
          try clear hfz19_0
          try clear hfz19_1
          try clear hfz19_2
          try clear hfz19_3
          try clear hfz19_4
          try clear hfz20_0
          try clear hfz20_1
          try clear hfz20_2
          try clear hfz20_3
          try clear hfz20_4
          try clear hfz23_0
          try clear hfz23_1
          try clear hfz23_2
          try clear hfz23_3
          try clear hfz23_4
          try clear hfz24_0
          try clear hfz24_1
          try clear hfz24_2
          try clear hfz24_3
          try clear hfz24_4
          try clear hfz26_0
          try clear hfz26_1
          try clear hfz26_2
          try clear hfz26_3
          try clear hfz26_4
          try clear hfz27_0
          try clear hfz27_1
          try clear hfz27_2
          try clear hfz27_3
          try clear hfz27_4
          try clear hfz29_0
          try clear hfz29_1
          try clear hfz29_2
          try clear hfz29_3
          try clear hfz29_4
          try clear hfz30_0
          try clear hfz30_1
          try clear hfz30_2
          try clear hfz30_3
          try clear hfz30_4
          try clear hfz32_0
          try clear hfz32_1
          try clear hfz32_2
          try clear hfz32_3
          try clear hfz32_4
          try clear hfz33_0
          try clear hfz33_1
          try clear hfz33_2
          try clear hfz33_3
          try clear hfz33_4
          try clear hfz36_0
          try clear hfz36_1
          try clear hfz36_2
          try clear hfz36_3
          try clear hfz36_4
          try clear p2
          obtain ⟨x54_2, rfl, HA, HK2, BK125, BK126, HB⟩ := hrel
          cases gk with
          | zero => exact absurd HA.out (by simp [spec_Same.l0])
          | succ k2 =>
            have H := HA.out
            clear HA
            simp only [spec_Same.l0] at H
            by_cases c37 : x54_2 < (l0_4.length : Int)
            · rw [if_pos c37] at H
              have c37b0 : decide (x54_2 < (l0_4.length : Int)) = true := decide_eq_true c37
              clear c37
              by_cases c38 : a0_0 = 2
              · rw [if_pos c38] at H
                have c38b0 : (a0_0 == 2) = true := beq_iff_eq.mpr c38
                have c38b1 : (a0_0 != 2) = false := bne_eq_false_iff_eq.mpr c38
                clear c38
                by_cases c39 : 0 ≤ x54_2
                · rw [if_pos c39] at H
                  have c39b0 : decide (0 ≤ x54_2) = true := decide_eq_true c39
                  clear c39
                  by_cases c40 : x54_2 < (l0_3.length : Int)
                  · rw [if_pos c40] at H
                    have c40b0 : decide (x54_2 < (l0_3.length : Int)) = true := decide_eq_true c40
                    clear c40
                    replace H := Option.bind_eq_some_iff.mp H
                    obtain ⟨t128, A410, H⟩ := H
                    replace H : (if t128 < 0 then (spec_Same.j2 k2 a2 x54_2 t128 (l0_4.length : Int) x54_2 true a0_0 a0_1 a0_2 l0_3 l0_4 a1_0 a1_1 a1_2 l1_3 l1_4) else (if t128 = x54_2 then (spec_Same.j2 k2 a2 x54_2 t128 (l0_4.length : Int) x54_2 false a0_0 a0_1 a0_2 l0_3 l0_4 a1_0 a1_1 a1_2 l1_3 l1_4) else (spec_Same.j2 k2 a2 x54_2 t128 (l0_4.length : Int) x54_2 (!a2) a0_0 a0_1 a0_2 l0_3 l0_4 a1_0 a1_1 a1_2 l1_3 l1_4))) = some r := H
                    have A41 := Aside0.mk A410
                    clear A410
                    have HC42 := Aside0.mk H
                    clear H
                    have hnb43 := NB125_126.out
                    have hnc43 := NB126_125.out
                    have hcz44_0 : wr.cell? ⟨gb125, 0, none⟩ = some (.int .i64 a0_0) := (blk_cell BK125.out 0).trans rfl
                    have hcz44_1 : wr.cell? ⟨gb125, 1, none⟩ = some (.string a0_1) := (blk_cell BK125.out 1).trans rfl
                    have hcz44_2 : wr.cell? ⟨gb125, 2, none⟩ = some (.string a0_2) := (blk_cell BK125.out 2).trans rfl
                    have hcz44_3 : wr.cell? ⟨gb125, 3, none⟩ = some (.slice A0_3 l0_3.length c0_3) := (blk_cell BK125.out 3).trans rfl
                    have hcz44_4 : wr.cell? ⟨gb125, 4, none⟩ = some (.slice A0_4 l0_4.length c0_4) := (blk_cell BK125.out 4).trans rfl
                    have hfz44_0 := blk_frozen BK125.out 0
                    have hfz44_1 := blk_frozen BK125.out 1
                    have hfz44_2 := blk_frozen BK125.out 2
                    have hfz44_3 := blk_frozen BK125.out 3
                    have hfz44_4 := blk_frozen BK125.out 4
                    try go_wp2
                    have n0_ := Aside0.mk (blk_drew BK125.out)
                    have n1_ := Aside0.mk (blk_drew BK126.out)
                    have n2_ := Aside0.mk (below_drew1 HB.out)
                    clear BK125
                    clear BK126
                    clear HB
                    have BK125 := n0_
                    have BK126 := n1_
                    have HB := n2_
                    clear n0_ n1_ n2_
                    have p127 : 0 ≤ (x54_2 : Int) := of_decide_eq_true (by first | (with_reducible assumption) | assumption)
                    have q127 : x54_2 < (l0_3.length : Int) := of_decide_eq_true (by first | (with_reducible assumption) | assumption)
                    obtain ⟨ad127, e127, hx127_0⟩ := Kd.at_string HR0_3.out x54_2 p127 q127
                    have hw127_0 := hx127_0
                    cases e127
                    replace hx127_0 := (HB.out.cell (World.block_lt_of_cell? w _ hx127_0)).trans hx127_0
                    replace p127 := eq_true p127
                    replace q127 := eq_true q127
                    refine start_ (n := 9) (S := fun w' => w'.cell? ⟨gb126, 0, none⟩ = some (.int .i64 a1_0) ∧ w'.cell? ⟨gb126, 1, none⟩ = some (.string a1_1) ∧ w'.cell? ⟨gb126, 2, none⟩ = some (.string a1_2) ∧ w'.cell? ⟨gb126, 3, none⟩ = some (.slice A1_3 l1_3.length c1_3) ∧ w'.cell? ⟨gb126, 4, none⟩ = some (.slice A1_4 l1_4.length c1_4) ∧ w'.cell? ⟨gb125, 0, none⟩ = some (.int .i64 a0_0) ∧ w'.cell? ⟨gb125, 1, none⟩ = some (.string a0_1) ∧ w'.cell? ⟨gb125, 2, none⟩ = some (.string a0_2) ∧ w'.cell? ⟨gb125, 3, none⟩ = some (.slice (some ad127) l0_3.length c0_3) ∧ w'.cell? ⟨gb125, 4, none⟩ = some (.slice A0_4 l0_4.length c0_4) ∧ w'.cell? (ad127.add (x54_2).toNat) = some (.string (rdOf ByteArray.empty l0_3 x54_2))) (ds := []) #[false, false, false, false, false, false, false, false, false] (by kernel_rfl) rfl rfl ⟨(blk_cell BK126.out 0).trans rfl, (blk_cell BK126.out 1).trans rfl, (blk_cell BK126.out 2).trans rfl, (blk_cell BK126.out 3).trans rfl, (blk_cell BK126.out 4).trans rfl, (blk_cell BK125.out 0).trans rfl, (blk_cell BK125.out 1).trans rfl, (blk_cell BK125.out 2).trans rfl, (blk_cell BK125.out 3).trans rfl, (blk_cell BK125.out 4).trans rfl, ((HB.out.cell (World.block_lt_of_cell? w _ hw127_0)).trans hw127_0)⟩ (fun hHeld => ?_); refine with_tabW spec_Same.tab8 spec_Same.bits8 (fun HT_ HW_ => ?_)
                    generalize wr.drew = w45 at BK125 BK126 HB hx127_0 hHeld ⊢
                    refine pure_ (i := 0) (N := some 61) (v := ?_) (a' := ?_) #[true, false, false, false, false, false, false, false, false] rfl rfl (any_of HT_.out (by kernel_rfl)) (fun _ _ _ h => h) (Or.inl ⟨by rfl, ?_⟩) ?_ ?_
                    rotate_left
                    · intro w'
                      go_simp
                      with_reducible rfl
                    rotate_left
                    · simp only [Act.put, List.setIfInBounds_toArray, List.set_cons_zero, List.set_cons_succ, i64_w, i32_w]
                      rfl
                    refine pure_ (i := 2) (N := some 63) (v := ?_) (a' := ?_) #[true, false, true, false, false, false, false, false, false] rfl rfl (any_of HT_.out (by kernel_rfl)) (fun _ _ _ h => h) (Or.inl ⟨by rfl, ?_⟩) ?_ ?_
                    rotate_left
                    · intro w'
                      go_simp
                      with_reducible rfl
                    rotate_left
                    · simp only [Act.put, List.setIfInBounds_toArray, List.set_cons_zero, List.set_cons_succ, i64_w, i32_w]
                      rfl
                    refine pure_ (i := 4) (N := some 65) (v := ?_) (a' := ?_) #[true, false, true, false, true, false, false, false, false] rfl rfl (any_of HT_.out (by kernel_rfl)) (fun _ _ _ h => h) (Or.inl ⟨by rfl, ?_⟩) ?_ ?_
                    rotate_left
                    · intro w'
                      go_simp
                      with_reducible rfl
                    rotate_left
                    · simp only [Act.put, List.setIfInBounds_toArray, List.set_cons_zero, List.set_cons_succ, i64_w, i32_w]
                      rfl
                    refine take_ (i := 1) (N := some 62) (v := ?_) (a' := ?_) #[true, true, true, false, true, false, false, false, false] rfl rfl (take_ofW HT_.out HW_.out (by kernel_rfl)) (fun _ _ _ h => h) (Or.inl ⟨by rfl, ?_⟩) hHeld ?_ ?_
                    rotate_left
                    · rintro w' ⟨s0, s1, s2, s3, s4, s5, s6, s7, s8, s9, s10⟩
                      go_simp
                      with_reducible rfl
                    rotate_left
                    · simp only [Act.put, List.setIfInBounds_toArray, List.set_cons_zero, List.set_cons_succ, i64_w, i32_w]
                      rfl
                    refine take_ (i := 3) (N := some 64) (v := ?_) (a' := ?_) #[true, true, true, true, true, false, false, false, false] rfl rfl (take_ofW HT_.out HW_.out (by kernel_rfl)) (fun _ _ _ h => h) (Or.inl ⟨by rfl, ?_⟩) hHeld ?_ ?_
                    rotate_left
                    · rintro w' ⟨s0, s1, s2, s3, s4, s5, s6, s7, s8, s9, s10⟩
                      go_simp
                      with_reducible rfl
                    rotate_left
                    · simp only [Act.put, List.setIfInBounds_toArray, List.set_cons_zero, List.set_cons_succ, i64_w, i32_w]
                      rfl
                    refine pure_ (i := 5) (N := some 66) (v := ?_) (a' := ?_) #[true, true, true, true, true, true, false, false, false] rfl rfl (any_of HT_.out (by kernel_rfl)) (fun _ _ _ h => h) (Or.inl ⟨by rfl, ?_⟩) ?_ ?_
                    rotate_left
                    · intro w'
                      go_simp
                      with_reducible rfl
                    rotate_left
                    · simp only [Act.put, List.setIfInBounds_toArray, List.set_cons_zero, List.set_cons_succ, i64_w, i32_w]
                      rfl
                    refine take_ (i := 6) (N := some 67) (v := ?_) (a' := ?_) #[true, true, true, true, true, true, true, false, false] rfl rfl (take_ofW HT_.out HW_.out (by kernel_rfl)) (fun _ _ _ h => h) (Or.inl ⟨by rfl, ?_⟩) hHeld ?_ ?_
                    rotate_left
                    · rintro w' ⟨s0, s1, s2, s3, s4, s5, s6, s7, s8, s9, s10⟩
                      go_simp
                      with_reducible rfl
                    rotate_left
                    · simp only [Act.put, List.setIfInBounds_toArray, List.set_cons_zero, List.set_cons_succ, i64_w, i32_w]
                      rfl
                    refine one_ (i := 7) (N := some 68) #[true, true, true, true, true, true, true, true, false] rfl rfl (one_of HT_.out (by kernel_rfl)) (by decide) (fun K hK => ?_)
                    refine goes_ Try.func33 (by kernel_rfl) rfl #[.slice A1_3 l1_3.length c1_3, .string (rdOf ByteArray.empty l0_3 x54_2)] (by rfl) rfl rfl (by (try simp only [List.map_toArray, List.map_cons, List.map_nil]); first | done | rfl | (simp only [List.length_drop, List.length_take]; rfl)) ?_
                    with_reducible refine (spec_Place.calls k2 _ _ l1_3 (rdOf ByteArray.empty l0_3 x54_2) t128 _ ?side1 ?side2 A41.out).mono ?_
                    (case side1 => repeat (first | exact (Kd.C_below HR1_3.out HB.out) | (with_reducible refine Kd.C_alloc ?_ _) | (with_reducible refine Kd.C_drewN ?_ _) | (with_reducible refine Kd.C_drew ?_)))
                    (case side2 => exact HC1_3.out)
                    rintro e w' ⟨rfl, ⟨nd, rfl⟩⟩
                    refine ⟨_, rfl, ?_⟩
                    refine hK.out _ _ ⟨(blk_cell BK126.out 0).trans rfl, (blk_cell BK126.out 1).trans rfl, (blk_cell BK126.out 2).trans rfl, (blk_cell BK126.out 3).trans rfl, (blk_cell BK126.out 4).trans rfl, (blk_cell BK125.out 0).trans rfl, (blk_cell BK125.out 1).trans rfl, (blk_cell BK125.out 2).trans rfl, (blk_cell BK125.out 3).trans rfl, (blk_cell BK125.out 4).trans rfl, ((HB.out.cell (World.block_lt_of_cell? w _ hw127_0)).trans hw127_0)⟩ (fun hHeld => ?_)
                    clear hK K
                    refine norm_ (a' := ?_) ?_ ?_
                    rotate_left
                    · show Act.put _ (some 68) _ = _
                      simp only [Act.put, List.setIfInBounds_toArray, List.set_cons_zero, List.set_cons_succ, i64_w, i32_w]
                      rfl
                    refine pure_ (i := 8) (N := some 8) (v := ?_) (a' := ?_) #[true, true, true, true, true, true, true, true, true] rfl rfl (any_of HT_.out (by kernel_rfl)) (fun _ _ _ h => h) (Or.inl ⟨by rfl, ?_⟩) ?_ ?_
                    rotate_left
                    · intro w'
                      go_simp
                      with_reducible rfl
                    rotate_left
                    · simp only [Act.put, List.setIfInBounds_toArray, List.set_cons_zero, List.set_cons_succ, i64_w, i32_w]
                      rfl
                    refine done_ (done_of HT_.out (by kernel_rfl)) ?_
                    go_upto_region 9 with (fail)
                    go_cut [79] (fun v79 wc => ∃ (kq : Nat) (x79_41 : Bool), v79 = .bool x79_41 ∧ Aside0 (spec_Same.j2 kq a2 x54_2 t128 (l0_4.length : Int) x54_2 x79_41 a0_0 a0_1 a0_2 l0_3 l0_4 a1_0 a1_1 a1_2 l1_3 l1_4 = some r) ∧ Aside0 (kq ≤ k2) ∧ Aside0 (wc.heap[gb125]? = some (.cells #[.int .i64 a0_0, .string a0_1, .string a0_2, (.slice (some ad127) l0_3.length c0_3), (.slice A0_4 l0_4.length c0_4)] 25 (0, 0))) ∧ Aside0 (wc.heap[gb126]? = some (.cells #[.int .i64 a1_0, .string a1_1, .string a1_2, (.slice A1_3 l1_3.length c1_3), (.slice A1_4 l1_4.length c1_4)] 25 (0, 0))) ∧ Aside0 (Below w.heap.size w wc))
                    case first =>
                      have H := HC42.out
                      clear HC42
                      by_cases c46 : t128 < 0
                      · rw [if_pos c46] at H
                        have c46b0 : decide (t128 < 0) = true := decide_eq_true c46
                        clear c46
                        (first | rw [c46b0] | (simp only [i64_w, i32_w]; rw [c46b0]) | skip)
                        have H' := Aside0.mk H
                        clear H
                        go_wp2
                        go_meet
                        case rel => exact ⟨_, (true), (by first | rfl | (simp; done) | (simp [*]; done)), H', ⟨by have := HJ3.out; have := HK2.out; first | omega | exact Nat.le_refl _⟩, ⟨by (with_reducible repeat (first | refine blk_drewN ?_ _ | refine blk_drew ?_ | refine blk_alloc ?_ _)); exact BK125.out⟩, ⟨by (with_reducible repeat (first | refine blk_drewN ?_ _ | refine blk_drew ?_ | refine blk_alloc ?_ _)); exact BK126.out⟩, ⟨by repeat (first | (with_reducible first | exact HB.out | apply below_alloc | apply pw_below_drewN | apply below_drew1 | refine below_set ?_ GE125.out | refine below_set ?_ GE126.out) | exact HB.out)⟩⟩
                      · rw [if_neg c46] at H
                        have c46b0 : decide (t128 < 0) = false := decide_eq_false c46
                        clear c46
                        (first | rw [c46b0] | (simp only [i64_w, i32_w]; rw [c46b0]) | skip)
                        by_cases c47 : t128 = x54_2
                        · rw [if_pos c47] at H
                          have c47b0 : (t128 == x54_2) = true := beq_iff_eq.mpr c47
                          have c47b1 : (t128 != x54_2) = false := bne_eq_false_iff_eq.mpr c47
                          clear c47
                          have H' := Aside0.mk H
                          clear H
                          go_wp2
                          go_meet
                          case rel => exact ⟨_, (false), (by first | rfl | (simp; done) | (simp [*]; done)), H', ⟨by have := HJ3.out; have := HK2.out; first | omega | exact Nat.le_refl _⟩, ⟨by (with_reducible repeat (first | refine blk_drewN ?_ _ | refine blk_drew ?_ | refine blk_alloc ?_ _)); exact BK125.out⟩, ⟨by (with_reducible repeat (first | refine blk_drewN ?_ _ | refine blk_drew ?_ | refine blk_alloc ?_ _)); exact BK126.out⟩, ⟨by repeat (first | (with_reducible first | exact HB.out | apply below_alloc | apply pw_below_drewN | apply below_drew1 | refine below_set ?_ GE125.out | refine below_set ?_ GE126.out) | exact HB.out)⟩⟩
                        · rw [if_neg c47] at H
                          have c47b0 : (t128 == x54_2) = false := beq_eq_false_iff_ne.mpr c47
                          have c47b1 : (t128 != x54_2) = true := bne_iff_ne.mpr c47
                          have H' := Aside0.mk H
                          clear H
                          go_wp2
                          go_meet
                          case rel => exact ⟨_, (!a2), (by first | rfl | (simp; done) | (simp [*]; done)), H', ⟨by have := HJ3.out; have := HK2.out; first | omega | exact Nat.le_refl _⟩, ⟨by (with_reducible repeat (first | refine blk_drewN ?_ _ | refine blk_drew ?_ | refine blk_alloc ?_ _)); exact BK125.out⟩, ⟨by (with_reducible repeat (first | refine blk_drewN ?_ _ | refine blk_drew ?_ | refine blk_alloc ?_ _)); exact BK126.out⟩, ⟨by repeat (first | (with_reducible first | exact HB.out | apply below_alloc | apply pw_below_drewN | apply below_drew1 | refine below_set ?_ GE125.out | refine below_set ?_ GE126.out) | exact HB.out)⟩⟩
                    case rest =>
                      clear HC42
                      try clear c1
                      try clear p1
                      try clear q1
                      try clear hx1
                      try clear c2
                      try clear p2
                      try clear c3
                      try clear c4
                      try clear c7
                      try clear c7b0
                      try clear c7b1
                      try clear c8
                      try clear c8b0
                      try clear c8b1
                      try clear c9
                      try clear c9b0
                      try clear c9b1
                      try clear c10
                      try clear c10b0
                      try clear c10b1
                      try clear c11
                      try clear c11b0
                      try clear c11b1
                      try clear c11b2
                      try clear c12
                      try clear p12
                      try clear q12
                      try clear hx12
                      try clear c15
                      try clear c18
                      try clear c19
                      try clear c21
                      try clear c21b0
                      try clear c21b1
                      try clear c21b2
                      try clear c22
                      try clear c25
                      try clear c28
                      try clear c31
                      try clear c33
                      try clear c34
                      try clear c35
                      try clear c37
                      try clear c37b0
                      try clear c38
                      try clear c38b0
                      try clear c38b1
                      try clear c39
                      try clear c39b0
                      try clear c40
                      try clear c40b0
                      try clear c43
                      try clear c46
                      try clear c46b0
                      try clear c47
                      try clear c47b0
                      try clear c47b1
                      try clear hcz13_0
                      try clear hcz13_1
                      try clear hcz13_2
                      try clear hcz13_3
                      try clear hcz13_4
                      try clear hcz14_0
                      try clear hcz14_1
                      try clear hcz14_2
                      try clear hcz14_3
                      try clear hcz14_4
                      try clear hcz16_0
                      try clear hcz16_1
                      try clear hcz16_2
                      try clear hcz16_3
                      try clear hcz16_4
                      try clear hcz17_0
                      try clear hcz17_1
                      try clear hcz17_2
                      try clear hcz17_3
                      try clear hcz17_4
                      try clear hcz19_0
                      try clear hcz19_1
                      try clear hcz19_2
                      try clear hcz19_3
                      try clear hcz19_4
                      try clear hcz20_0
                      try clear hcz20_1
                      try clear hcz20_2
                      try clear hcz20_3
                      try clear hcz20_4
                      try clear hcz23_0
                      try clear hcz23_1
                      try clear hcz23_2
                      try clear hcz23_3
                      try clear hcz23_4
                      try clear hcz24_0
                      try clear hcz24_1
                      try clear hcz24_2
                      try clear hcz24_3
                      try clear hcz24_4
                      try clear hcz26_0
                      try clear hcz26_1
                      try clear hcz26_2
                      try clear hcz26_3
                      try clear hcz26_4
                      try clear hcz27_0
                      try clear hcz27_1
                      try clear hcz27_2
                      try clear hcz27_3
                      try clear hcz27_4
                      try clear hcz29_0
                      try clear hcz29_1
                      try clear hcz29_2
                      try clear hcz29_3
                      try clear hcz29_4
                      try clear hcz30_0
                      try clear hcz30_1
                      try clear hcz30_2
                      try clear hcz30_3
                      try clear hcz30_4
                      try clear hcz32_0
                      try clear hcz32_1
                      try clear hcz32_2
                      try clear hcz32_3
                      try clear hcz32_4
                      try clear hcz33_0
                      try clear hcz33_1
                      try clear hcz33_2
                      try clear hcz33_3
                      try clear hcz33_4
                      try clear hcz36_0
                      try clear hcz36_1
                      try clear hcz36_2
                      try clear hcz36_3
                      try clear hcz36_4
                      try clear hcz44_0
                      try clear hcz44_1
                      try clear hcz44_2
                      try clear hcz44_3
                      try clear hcz44_4
                      try clear hfz13_0
                      try clear hfz13_1
                      try clear hfz13_2
                      try clear hfz13_3
                      try clear hfz13_4
                      try clear hfz14_0
                      try clear hfz14_1
                      try clear hfz14_2
                      try clear hfz14_3
                      try clear hfz14_4
                      try clear hfz16_0
                      try clear hfz16_1
                      try clear hfz16_2
                      try clear hfz16_3
                      try clear hfz16_4
                      try clear hfz17_0
                      try clear hfz17_1
                      try clear hfz17_2
                      try clear hfz17_3
                      try clear hfz17_4
                      try clear hfz19_0
                      try clear hfz19_1
                      try clear hfz19_2
                      try clear hfz19_3
                      try clear hfz19_4
                      try clear hfz20_0
                      try clear hfz20_1
                      try clear hfz20_2
                      try clear hfz20_3
                      try clear hfz20_4
                      try clear hfz23_0
                      try clear hfz23_1
                      try clear hfz23_2
                      try clear hfz23_3
                      try clear hfz23_4
                      try clear hfz24_0
                      try clear hfz24_1
                      try clear hfz24_2
                      try clear hfz24_3
                      try clear hfz24_4
                      try clear hfz26_0
                      try clear hfz26_1
                      try clear hfz26_2
                      try clear hfz26_3
                      try clear hfz26_4
                      try clear hfz27_0
                      try clear hfz27_1
                      try clear hfz27_2
                      try clear hfz27_3
                      try clear hfz27_4
                      try clear hfz29_0
                      try clear hfz29_1
                      try clear hfz29_2
                      try clear hfz29_3
                      try clear hfz29_4
                      try clear hfz30_0
                      try clear hfz30_1
                      try clear hfz30_2
                      try clear hfz30_3
                      try clear hfz30_4
                      try clear hfz32_0
                      try clear hfz32_1
                      try clear hfz32_2
                      try clear hfz32_3
                      try clear hfz32_4
                      try clear hfz33_0
                      try clear hfz33_1
                      try clear hfz33_2
                      try clear hfz33_3
                      try clear hfz33_4
                      try clear hfz36_0
                      try clear hfz36_1
                      try clear hfz36_2
                      try clear hfz36_3
                      try clear hfz36_4
                      try clear hfz44_0
                      try clear hfz44_1
                      try clear hfz44_2
                      try clear hfz44_3
                      try clear hfz44_4
                      try clear hx127_0
                      try clear p127
                      try clear p2
                      try clear q127
                      obtain ⟨kq, x79_41, rfl, HA, HJ41, BK125, BK126, HB⟩ := hcut
                      cases kq with
                      | zero => exact absurd HA.out (by simp [spec_Same.j2])
                      | succ kj41 =>
                        have H := HA.out
                        clear HA
                        simp only [spec_Same.j2] at H
                        by_cases c48 : x79_41 = true
                        · subst c48
                          have H1 : (some false) = some r := by rw [if_pos rfl] at H; exact H
                          clear H
                          have H := H1
                          clear H1
                          obtain rfl := Option.some.inj H
                          go_wp2
                          go_ret
                          exact ⟨by first | rfl | (simp [errW_none, errW_some] <;> rfl) | (simp [*, errW_none, errW_some] <;> rfl), by repeat (first | (with_reducible first | exact HB.out | apply below_alloc | apply pw_below_drewN | apply below_drew1 | refine below_set ?_ GE125.out | refine below_set ?_ GE126.out) | exact HB.out)⟩
                        · replace c48 := Bool.eq_false_iff.mpr c48
                          subst c48
                          have H1 : (if 0 ≤ x54_2 then (if x54_2 < (l0_4.length : Int) then (if 0 ≤ t128 then (if t128 < (l1_4.length : Int) then ((spec_Same.f kj41 ((rd_T25 l0_4 x54_2).f0) ((rd_T25 l0_4 x54_2).f1) ((rd_T25 l0_4 x54_2).f2) ((rd_T25 l0_4 x54_2).f3) ((rd_T25 l0_4 x54_2).f4) ((rd_T25 l1_4 t128).f0) ((rd_T25 l1_4 t128).f1) ((rd_T25 l1_4 t128).f2) ((rd_T25 l1_4 t128).f3) ((rd_T25 l1_4 t128).f4) a2).bind fun t131 => (if t131 = true then (spec_Same.l0 kj41 a2 (l0_4.length : Int) (wrap64 (x54_2 + 1)) a0_0 a0_1 a0_2 l0_3 l0_4 a1_0 a1_1 a1_2 l1_3 l1_4) else (some false))) else (none)) else (none)) else (none)) else (none)) = some r := by rw [if_neg (show ¬ (false = true) by decide)] at H; exact H
                          clear H
                          have H := H1
                          clear H1
                          by_cases c49 : 0 ≤ x54_2
                          · rw [if_pos c49] at H
                            have c49b0 : decide (0 ≤ x54_2) = true := decide_eq_true c49
                            clear c49
                            by_cases c50 : x54_2 < (l0_4.length : Int)
                            · rw [if_pos c50] at H
                              have c50b0 : decide (x54_2 < (l0_4.length : Int)) = true := decide_eq_true c50
                              clear c50
                              by_cases c51 : 0 ≤ t128
                              · rw [if_pos c51] at H
                                have c51b0 : decide (0 ≤ t128) = true := decide_eq_true c51
                                clear c51
                                by_cases c52 : t128 < (l1_4.length : Int)
                                · rw [if_pos c52] at H
                                  have c52b0 : decide (t128 < (l1_4.length : Int)) = true := decide_eq_true c52
                                  clear c52
                                  replace H := Option.bind_eq_some_iff.mp H
                                  obtain ⟨t131, A530, H⟩ := H
                                  replace H : (if t131 = true then (spec_Same.l0 kj41 a2 (l0_4.length : Int) (wrap64 (x54_2 + 1)) a0_0 a0_1 a0_2 l0_3 l0_4 a1_0 a1_1 a1_2 l1_3 l1_4) else (some false)) = some r := H
                                  have A53 := Aside0.mk A530
                                  clear A530
                                  by_cases c54 : t131 = true
                                  · subst c54
                                    have H1 : (spec_Same.l0 kj41 a2 (l0_4.length : Int) (wrap64 (x54_2 + 1)) a0_0 a0_1 a0_2 l0_3 l0_4 a1_0 a1_1 a1_2 l1_3 l1_4) = some r := by rw [if_pos rfl] at H; exact H
                                    clear H
                                    have H := H1
                                    clear H1
                                    have H' := Aside0.mk H
                                    clear H
                                    try go_wp2
                                    have n0_ := Aside0.mk (blk_drew BK125.out)
                                    have n1_ := Aside0.mk (blk_drew BK126.out)
                                    have n2_ := Aside0.mk (below_drew1 HB.out)
                                    clear BK125
                                    clear BK126
                                    clear HB
                                    have BK125 := n0_
                                    have BK126 := n1_
                                    have HB := n2_
                                    clear n0_ n1_ n2_
                                    have p129 : 0 ≤ (x54_2 : Int) := of_decide_eq_true (by first | (with_reducible assumption) | assumption)
                                    have q129 : x54_2 < (l0_4.length : Int) := of_decide_eq_true (by first | (with_reducible assumption) | assumption)
                                    obtain ⟨ad129, A129_3, c129_3, A129_4, c129_4, e129, hx129_0, hx129_1, hx129_2, hx129_3, hx129_4, hl129_3, hi129_3, hl129_4, hi129_4⟩ := at_T25 HR0_4.out x54_2 p129 q129
                                    have hw129_4 := hx129_4
                                    have hw129_3 := hx129_3
                                    have hw129_2 := hx129_2
                                    have hw129_1 := hx129_1
                                    have hw129_0 := hx129_0
                                    cases e129
                                    replace hx129_0 := (HB.out.cell (World.block_lt_of_cell? w _ hx129_0)).trans hx129_0
                                    replace hx129_1 := (HB.out.cell (World.block_lt_of_cell? w _ hx129_1)).trans hx129_1
                                    replace hx129_2 := (HB.out.cell (World.block_lt_of_cell? w _ hx129_2)).trans hx129_2
                                    replace hx129_3 := (HB.out.cell (World.block_lt_of_cell? w _ hx129_3)).trans hx129_3
                                    replace hx129_4 := (HB.out.cell (World.block_lt_of_cell? w _ hx129_4)).trans hx129_4
                                    have HR129_3 := Aside0.mk hi129_3
                                    have HC129_3 := Aside0.mk hl129_3
                                    clear hi129_3 hl129_3
                                    have HR129_4 := Aside0.mk hi129_4
                                    have HC129_4 := Aside0.mk hl129_4
                                    clear hi129_4 hl129_4
                                    replace p129 := eq_true p129
                                    replace q129 := eq_true q129
                                    have p130 : 0 ≤ (t128 : Int) := of_decide_eq_true (by first | (with_reducible assumption) | assumption)
                                    have q130 : t128 < (l1_4.length : Int) := of_decide_eq_true (by first | (with_reducible assumption) | assumption)
                                    obtain ⟨ad130, A130_3, c130_3, A130_4, c130_4, e130, hx130_0, hx130_1, hx130_2, hx130_3, hx130_4, hl130_3, hi130_3, hl130_4, hi130_4⟩ := at_T25 HR1_4.out t128 p130 q130
                                    have hw130_4 := hx130_4
                                    have hw130_3 := hx130_3
                                    have hw130_2 := hx130_2
                                    have hw130_1 := hx130_1
                                    have hw130_0 := hx130_0
                                    cases e130
                                    replace hx130_0 := (HB.out.cell (World.block_lt_of_cell? w _ hx130_0)).trans hx130_0
                                    replace hx130_1 := (HB.out.cell (World.block_lt_of_cell? w _ hx130_1)).trans hx130_1
                                    replace hx130_2 := (HB.out.cell (World.block_lt_of_cell? w _ hx130_2)).trans hx130_2
                                    replace hx130_3 := (HB.out.cell (World.block_lt_of_cell? w _ hx130_3)).trans hx130_3
                                    replace hx130_4 := (HB.out.cell (World.block_lt_of_cell? w _ hx130_4)).trans hx130_4
                                    have HR130_3 := Aside0.mk hi130_3
                                    have HC130_3 := Aside0.mk hl130_3
                                    clear hi130_3 hl130_3
                                    have HR130_4 := Aside0.mk hi130_4
                                    have HC130_4 := Aside0.mk hl130_4
                                    clear hi130_4 hl130_4
                                    replace p130 := eq_true p130
                                    replace q130 := eq_true q130
                                    refine start_ (n := 13) (S := fun w' => w'.cell? ⟨gb125, 0, none⟩ = some (.int .i64 a0_0) ∧ w'.cell? ⟨gb125, 1, none⟩ = some (.string a0_1) ∧ w'.cell? ⟨gb125, 2, none⟩ = some (.string a0_2) ∧ w'.cell? ⟨gb125, 3, none⟩ = some (.slice (some ad127) l0_3.length c0_3) ∧ w'.cell? ⟨gb125, 4, none⟩ = some (.slice (some ad129) l0_4.length c0_4) ∧ w'.cell? ⟨gb126, 0, none⟩ = some (.int .i64 a1_0) ∧ w'.cell? ⟨gb126, 1, none⟩ = some (.string a1_1) ∧ w'.cell? ⟨gb126, 2, none⟩ = some (.string a1_2) ∧ w'.cell? ⟨gb126, 3, none⟩ = some (.slice A1_3 l1_3.length c1_3) ∧ w'.cell? ⟨gb126, 4, none⟩ = some (.slice (some ad130) l1_4.length c1_4) ∧ w'.cell? (ad129.add ((x54_2).toNat * 5)) = some (.int .i64 ((rd_T25 l0_4 x54_2).f0)) ∧ w'.cell? ⟨(ad129.add ((x54_2).toNat * 5)).block, (ad129.add ((x54_2).toNat * 5)).off + 1, none⟩ = some (.string ((rd_T25 l0_4 x54_2).f1)) ∧ w'.cell? ⟨(ad129.add ((x54_2).toNat * 5)).block, (ad129.add ((x54_2).toNat * 5)).off + 2, none⟩ = some (.string ((rd_T25 l0_4 x54_2).f2)) ∧ w'.cell? ⟨(ad129.add ((x54_2).toNat * 5)).block, (ad129.add ((x54_2).toNat * 5)).off + 3, none⟩ = some (.slice A129_3 ((rd_T25 l0_4 x54_2).f3).length c129_3) ∧ w'.cell? ⟨(ad129.add ((x54_2).toNat * 5)).block, (ad129.add ((x54_2).toNat * 5)).off + 4, none⟩ = some (.slice A129_4 ((rd_T25 l0_4 x54_2).f4).length c129_4) ∧ w'.cell? (ad130.add ((t128).toNat * 5)) = some (.int .i64 ((rd_T25 l1_4 t128).f0)) ∧ w'.cell? ⟨(ad130.add ((t128).toNat * 5)).block, (ad130.add ((t128).toNat * 5)).off + 1, none⟩ = some (.string ((rd_T25 l1_4 t128).f1)) ∧ w'.cell? ⟨(ad130.add ((t128).toNat * 5)).block, (ad130.add ((t128).toNat * 5)).off + 2, none⟩ = some (.string ((rd_T25 l1_4 t128).f2)) ∧ w'.cell? ⟨(ad130.add ((t128).toNat * 5)).block, (ad130.add ((t128).toNat * 5)).off + 3, none⟩ = some (.slice A130_3 ((rd_T25 l1_4 t128).f3).length c130_3) ∧ w'.cell? ⟨(ad130.add ((t128).toNat * 5)).block, (ad130.add ((t128).toNat * 5)).off + 4, none⟩ = some (.slice A130_4 ((rd_T25 l1_4 t128).f4).length c130_4)) (ds := []) #[false, false, false, false, false, false, false, false, false, false, false, false, false] (by kernel_rfl) rfl rfl ⟨(blk_cell BK125.out 0).trans rfl, (blk_cell BK125.out 1).trans rfl, (blk_cell BK125.out 2).trans rfl, (blk_cell BK125.out 3).trans rfl, (blk_cell BK125.out 4).trans rfl, (blk_cell BK126.out 0).trans rfl, (blk_cell BK126.out 1).trans rfl, (blk_cell BK126.out 2).trans rfl, (blk_cell BK126.out 3).trans rfl, (blk_cell BK126.out 4).trans rfl, ((HB.out.cell (World.block_lt_of_cell? w _ hw129_0)).trans hw129_0), ((HB.out.cell (World.block_lt_of_cell? w _ hw129_1)).trans hw129_1), ((HB.out.cell (World.block_lt_of_cell? w _ hw129_2)).trans hw129_2), ((HB.out.cell (World.block_lt_of_cell? w _ hw129_3)).trans hw129_3), ((HB.out.cell (World.block_lt_of_cell? w _ hw129_4)).trans hw129_4), ((HB.out.cell (World.block_lt_of_cell? w _ hw130_0)).trans hw130_0), ((HB.out.cell (World.block_lt_of_cell? w _ hw130_1)).trans hw130_1), ((HB.out.cell (World.block_lt_of_cell? w _ hw130_2)).trans hw130_2), ((HB.out.cell (World.block_lt_of_cell? w _ hw130_3)).trans hw130_3), ((HB.out.cell (World.block_lt_of_cell? w _ hw130_4)).trans hw130_4)⟩ (fun hHeld => ?_); refine with_tabW spec_Same.tab11 spec_Same.bits11 (fun HT_ HW_ => ?_)
                                    generalize wc.drew = w55 at BK125 BK126 HB HR129_3 HR129_4 HR130_3 HR130_4 hx129_0 hx129_1 hx129_2 hx129_3 hx129_4 hx130_0 hx130_1 hx130_2 hx130_3 hx130_4 hHeld ⊢
                                    refine pure_ (i := 0) (N := some 80) (v := ?_) (a' := ?_) #[true, false, false, false, false, false, false, false, false, false, false, false, false] rfl rfl (any_of HT_.out (by kernel_rfl)) (fun _ _ _ h => h) (Or.inl ⟨by rfl, ?_⟩) ?_ ?_
                                    rotate_left
                                    · intro w'
                                      go_simp
                                      with_reducible rfl
                                    rotate_left
                                    · simp only [Act.put, List.setIfInBounds_toArray, List.set_cons_zero, List.set_cons_succ, i64_w, i32_w]
                                      rfl
                                    refine pure_ (i := 2) (N := some 82) (v := ?_) (a' := ?_) #[true, false, true, false, false, false, false, false, false, false, false, false, false] rfl rfl (any_of HT_.out (by kernel_rfl)) (fun _ _ _ h => h) (Or.inl ⟨by rfl, ?_⟩) ?_ ?_
                                    rotate_left
                                    · intro w'
                                      go_simp
                                      with_reducible rfl
                                    rotate_left
                                    · simp only [Act.put, List.setIfInBounds_toArray, List.set_cons_zero, List.set_cons_succ, i64_w, i32_w]
                                      rfl
                                    refine pure_ (i := 5) (N := some 85) (v := ?_) (a' := ?_) #[true, false, true, false, false, true, false, false, false, false, false, false, false] rfl rfl (any_of HT_.out (by kernel_rfl)) (fun _ _ _ h => h) (Or.inl ⟨by rfl, ?_⟩) ?_ ?_
                                    rotate_left
                                    · intro w'
                                      go_simp
                                      with_reducible rfl
                                    rotate_left
                                    · simp only [Act.put, List.setIfInBounds_toArray, List.set_cons_zero, List.set_cons_succ, i64_w, i32_w]
                                      rfl
                                    refine pure_ (i := 7) (N := some 87) (v := ?_) (a' := ?_) #[true, false, true, false, false, true, false, true, false, false, false, false, false] rfl rfl (any_of HT_.out (by kernel_rfl)) (fun _ _ _ h => h) (Or.inl ⟨by rfl, ?_⟩) ?_ ?_
                                    rotate_left
                                    · intro w'
                                      go_simp
                                      with_reducible rfl
                                    rotate_left
                                    · simp only [Act.put, List.setIfInBounds_toArray, List.set_cons_zero, List.set_cons_succ, i64_w, i32_w]
                                      rfl
                                    refine pure_ (i := 10) (N := some 90) (v := ?_) (a' := ?_) #[true, false, true, false, false, true, false, true, false, false, true, false, false] rfl rfl (any_of HT_.out (by kernel_rfl)) (fun _ _ _ h => h) (Or.inl ⟨by rfl, ?_⟩) ?_ ?_
                                    rotate_left
                                    · intro w'
                                      go_simp
                                      with_reducible rfl
                                    rotate_left
                                    · simp only [Act.put, List.setIfInBounds_toArray, List.set_cons_zero, List.set_cons_succ, i64_w, i32_w]
                                      rfl
                                    refine take_ (i := 1) (N := some 81) (v := ?_) (a' := ?_) #[true, true, true, false, false, true, false, true, false, false, true, false, false] rfl rfl (take_ofW HT_.out HW_.out (by kernel_rfl)) (fun _ _ _ h => h) (Or.inl ⟨by rfl, ?_⟩) hHeld ?_ ?_
                                    rotate_left
                                    · rintro w' ⟨s0, s1, s2, s3, s4, s5, s6, s7, s8, s9, s10, s11, s12, s13, s14, s15, s16, s17, s18, s19⟩
                                      go_simp
                                      with_reducible rfl
                                    rotate_left
                                    · simp only [Act.put, List.setIfInBounds_toArray, List.set_cons_zero, List.set_cons_succ, i64_w, i32_w]
                                      rfl
                                    refine pure_ (i := 3) (N := some 83) (v := ?_) (a' := ?_) #[true, true, true, true, false, true, false, true, false, false, true, false, false] rfl rfl (any_of HT_.out (by kernel_rfl)) (fun _ _ _ h => h) (Or.inl ⟨by rfl, ?_⟩) ?_ ?_
                                    rotate_left
                                    · intro w'
                                      go_simp
                                      with_reducible rfl
                                    rotate_left
                                    · simp only [Act.put, List.setIfInBounds_toArray, List.set_cons_zero, List.set_cons_succ, i64_w, i32_w]
                                      rfl
                                    refine take_ (i := 4) (N := some 84) (v := ?_) (a' := ?_) #[true, true, true, true, true, true, false, true, false, false, true, false, false] rfl rfl (take_ofW HT_.out HW_.out (by kernel_rfl)) (fun _ _ _ h => h) (Or.inl ⟨by rfl, ?_⟩) hHeld ?_ ?_
                                    rotate_left
                                    · rintro w' ⟨s0, s1, s2, s3, s4, s5, s6, s7, s8, s9, s10, s11, s12, s13, s14, s15, s16, s17, s18, s19⟩
                                      go_simp
                                      with_reducible rfl
                                    rotate_left
                                    · simp only [Act.put, List.setIfInBounds_toArray, List.set_cons_zero, List.set_cons_succ, i64_w, i32_w]
                                      rfl
                                    refine take_ (i := 6) (N := some 86) (v := ?_) (a' := ?_) #[true, true, true, true, true, true, true, true, false, false, true, false, false] rfl rfl (take_ofW HT_.out HW_.out (by kernel_rfl)) (fun _ _ _ h => h) (Or.inl ⟨by rfl, ?_⟩) hHeld ?_ ?_
                                    rotate_left
                                    · rintro w' ⟨s0, s1, s2, s3, s4, s5, s6, s7, s8, s9, s10, s11, s12, s13, s14, s15, s16, s17, s18, s19⟩
                                      go_simp
                                      with_reducible rfl
                                    rotate_left
                                    · simp only [Act.put, List.setIfInBounds_toArray, List.set_cons_zero, List.set_cons_succ, i64_w, i32_w]
                                      rfl
                                    refine pure_ (i := 8) (N := some 88) (v := ?_) (a' := ?_) #[true, true, true, true, true, true, true, true, true, false, true, false, false] rfl rfl (any_of HT_.out (by kernel_rfl)) (fun _ _ _ h => h) (Or.inl ⟨by rfl, ?_⟩) ?_ ?_
                                    rotate_left
                                    · intro w'
                                      go_simp
                                      with_reducible rfl
                                    rotate_left
                                    · simp only [Act.put, List.setIfInBounds_toArray, List.set_cons_zero, List.set_cons_succ, i64_w, i32_w]
                                      rfl
                                    refine take_ (i := 9) (N := some 89) (v := ?_) (a' := ?_) #[true, true, true, true, true, true, true, true, true, true, true, false, false] rfl rfl (take_ofW HT_.out HW_.out (by kernel_rfl)) (fun _ _ _ h => h) (Or.inl ⟨by rfl, ?_⟩) hHeld ?_ ?_
                                    rotate_left
                                    · rintro w' ⟨s0, s1, s2, s3, s4, s5, s6, s7, s8, s9, s10, s11, s12, s13, s14, s15, s16, s17, s18, s19⟩
                                      go_simp
                                      with_reducible rfl
                                    rotate_left
                                    · simp only [Act.put, List.setIfInBounds_toArray, List.set_cons_zero, List.set_cons_succ, i64_w, i32_w]
                                      rfl
                                    refine one_ (i := 11) (N := some 91) #[true, true, true, true, true, true, true, true, true, true, true, true, false] rfl rfl (one_of HT_.out (by kernel_rfl)) (by decide) (fun K hK => ?_)
                                    refine goes_ Try.func19 (by kernel_rfl) rfl #[.agg #[.int .i64 ((rd_T25 l0_4 x54_2).f0), .string ((rd_T25 l0_4 x54_2).f1), .string ((rd_T25 l0_4 x54_2).f2), .slice A129_3 ((rd_T25 l0_4 x54_2).f3).length c129_3, .slice A129_4 ((rd_T25 l0_4 x54_2).f4).length c129_4], .agg #[.int .i64 ((rd_T25 l1_4 t128).f0), .string ((rd_T25 l1_4 t128).f1), .string ((rd_T25 l1_4 t128).f2), .slice A130_3 ((rd_T25 l1_4 t128).f3).length c130_3, .slice A130_4 ((rd_T25 l1_4 t128).f4).length c130_4], .bool a2] (by rfl) rfl rfl (by (try simp only [List.map_toArray, List.map_cons, List.map_nil]); first | done | rfl | (simp only [List.length_drop, List.length_take]; rfl)) ?_
                                    with_reducible refine (ih kj41 (by have := HJ3.out; have := HK2.out; have := HJ41.out; omega) ((rd_T25 l0_4 x54_2).f0) ((rd_T25 l0_4 x54_2).f1) ((rd_T25 l0_4 x54_2).f2) _ _ ((rd_T25 l0_4 x54_2).f3) _ _ ((rd_T25 l0_4 x54_2).f4) ((rd_T25 l1_4 t128).f0) ((rd_T25 l1_4 t128).f1) ((rd_T25 l1_4 t128).f2) _ _ ((rd_T25 l1_4 t128).f3) _ _ ((rd_T25 l1_4 t128).f4) a2 true _ ?side1 ?side2 ?side3 ?side4 ?side5 ?side6 ?side7 ?side8 A53.out).mono ?_
                                    (case side1 => repeat (first | exact (Kd.C_below HR129_3.out HB.out) | (with_reducible refine Kd.C_alloc ?_ _) | (with_reducible refine Kd.C_drewN ?_ _) | (with_reducible refine Kd.C_drew ?_)))
                                    (case side2 => exact HC129_3.out)
                                    (case side3 => repeat (first | exact (Kd.C_below HR129_4.out HB.out) | (with_reducible refine Kd.C_alloc ?_ _) | (with_reducible refine Kd.C_drewN ?_ _) | (with_reducible refine Kd.C_drew ?_)))
                                    (case side4 => exact HC129_4.out)
                                    (case side5 => repeat (first | exact (Kd.C_below HR130_3.out HB.out) | (with_reducible refine Kd.C_alloc ?_ _) | (with_reducible refine Kd.C_drewN ?_ _) | (with_reducible refine Kd.C_drew ?_)))
                                    (case side6 => exact HC130_3.out)
                                    (case side7 => repeat (first | exact (Kd.C_below HR130_4.out HB.out) | (with_reducible refine Kd.C_alloc ?_ _) | (with_reducible refine Kd.C_drewN ?_ _) | (with_reducible refine Kd.C_drew ?_)))
                                    (case side8 => exact HC130_4.out)
                                    rintro e w56 ⟨rfl, hb⟩
                                    refine ⟨_, rfl, ?_⟩
                                    have n0_ := Aside0.mk (blk_below (g := gb125) (o := .cells #[.int .i64 a0_0, .string a0_1, .string a0_2, .slice (some ad127) l0_3.length c0_3, .slice (some ad129) l0_4.length c0_4] 25 (0, 0)) (by (with_reducible repeat (first | refine blk_drewN ?_ _ | refine blk_drew ?_ | refine blk_alloc ?_ _)); exact BK125.out) hb)
                                    have n1_ := Aside0.mk (blk_below (g := gb126) (o := .cells #[.int .i64 a1_0, .string a1_1, .string a1_2, .slice A1_3 l1_3.length c1_3, .slice (some ad130) l1_4.length c1_4] 25 (0, 0)) (by (with_reducible repeat (first | refine blk_drewN ?_ _ | refine blk_drew ?_ | refine blk_alloc ?_ _)); exact BK126.out) hb)
                                    have n2_ := Aside0.mk (below_step (by repeat (first | (with_reducible first | exact HB.out | apply below_alloc | apply pw_below_drewN | apply below_drew1 | refine below_set ?_ GE125.out | refine below_set ?_ GE126.out) | exact HB.out)) hb)
                                    clear BK125
                                    clear BK126
                                    clear HB
                                    have BK125 := n0_
                                    have BK126 := n1_
                                    have HB := n2_
                                    clear n0_ n1_ n2_
                                    (try clear hb)
                                    (try clear hb2)
                                    (try clear hk)
                                    (try clear hi)
                                    refine hK.out _ _ ⟨(blk_cell BK125.out 0).trans rfl, (blk_cell BK125.out 1).trans rfl, (blk_cell BK125.out 2).trans rfl, (blk_cell BK125.out 3).trans rfl, (blk_cell BK125.out 4).trans rfl, (blk_cell BK126.out 0).trans rfl, (blk_cell BK126.out 1).trans rfl, (blk_cell BK126.out 2).trans rfl, (blk_cell BK126.out 3).trans rfl, (blk_cell BK126.out 4).trans rfl, ((HB.out.cell (World.block_lt_of_cell? w _ hw129_0)).trans hw129_0), ((HB.out.cell (World.block_lt_of_cell? w _ hw129_1)).trans hw129_1), ((HB.out.cell (World.block_lt_of_cell? w _ hw129_2)).trans hw129_2), ((HB.out.cell (World.block_lt_of_cell? w _ hw129_3)).trans hw129_3), ((HB.out.cell (World.block_lt_of_cell? w _ hw129_4)).trans hw129_4), ((HB.out.cell (World.block_lt_of_cell? w _ hw130_0)).trans hw130_0), ((HB.out.cell (World.block_lt_of_cell? w _ hw130_1)).trans hw130_1), ((HB.out.cell (World.block_lt_of_cell? w _ hw130_2)).trans hw130_2), ((HB.out.cell (World.block_lt_of_cell? w _ hw130_3)).trans hw130_3), ((HB.out.cell (World.block_lt_of_cell? w _ hw130_4)).trans hw130_4)⟩ (fun hHeld => ?_)
                                    clear hK K
                                    refine norm_ (a' := ?_) ?_ ?_
                                    rotate_left
                                    · show Act.put _ (some 91) _ = _
                                      simp only [Act.put, List.setIfInBounds_toArray, List.set_cons_zero, List.set_cons_succ, i64_w, i32_w]
                                      rfl
                                    refine pure_ (i := 12) (N := some 92) (v := ?_) (a' := ?_) #[true, true, true, true, true, true, true, true, true, true, true, true, true] rfl rfl (any_of HT_.out (by kernel_rfl)) (fun _ _ _ h => h) (Or.inl ⟨by rfl, ?_⟩) ?_ ?_
                                    rotate_left
                                    · intro w'
                                      go_simp
                                      with_reducible rfl
                                    rotate_left
                                    · simp only [Act.put, List.setIfInBounds_toArray, List.set_cons_zero, List.set_cons_succ, i64_w, i32_w]
                                      rfl
                                    refine done_ (done_of HT_.out (by kernel_rfl)) ?_
                                    try go_wp2
                                    go_roundg kj41
                                    case measure => have := HJ3.out; have := HK2.out; have := HJ41.out; omega
                                    case rel => exact ⟨(wrap64 (x54_2 + 1)), (by first | rfl | (simp; done) | (simp [*]; done)), H', ⟨by have := HJ3.out; have := HK2.out; have := HJ41.out; omega⟩, ⟨by (with_reducible repeat (first | refine blk_drewN ?_ _ | refine blk_drew ?_ | refine blk_alloc ?_ _)); exact BK125.out⟩, ⟨by (with_reducible repeat (first | refine blk_drewN ?_ _ | refine blk_drew ?_ | refine blk_alloc ?_ _)); exact BK126.out⟩, ⟨by repeat (first | (with_reducible first | exact HB.out | apply below_alloc | apply pw_below_drewN | apply below_drew1 | refine below_set ?_ GE125.out | refine below_set ?_ GE126.out) | exact HB.out)⟩⟩
                                  · replace c54 := Bool.eq_false_iff.mpr c54
                                    subst c54
                                    have H1 : (some false) = some r := by rw [if_neg (show ¬ (false = true) by decide)] at H; exact H
                                    clear H
                                    have H := H1
                                    clear H1
                                    obtain rfl := Option.some.inj H
                                    try go_wp2
                                    have n0_ := Aside0.mk (blk_drew BK125.out)
                                    have n1_ := Aside0.mk (blk_drew BK126.out)
                                    have n2_ := Aside0.mk (below_drew1 HB.out)
                                    clear BK125
                                    clear BK126
                                    clear HB
                                    have BK125 := n0_
                                    have BK126 := n1_
                                    have HB := n2_
                                    clear n0_ n1_ n2_
                                    have p129 : 0 ≤ (x54_2 : Int) := of_decide_eq_true (by first | (with_reducible assumption) | assumption)
                                    have q129 : x54_2 < (l0_4.length : Int) := of_decide_eq_true (by first | (with_reducible assumption) | assumption)
                                    obtain ⟨ad129, A129_3, c129_3, A129_4, c129_4, e129, hx129_0, hx129_1, hx129_2, hx129_3, hx129_4, hl129_3, hi129_3, hl129_4, hi129_4⟩ := at_T25 HR0_4.out x54_2 p129 q129
                                    have hw129_4 := hx129_4
                                    have hw129_3 := hx129_3
                                    have hw129_2 := hx129_2
                                    have hw129_1 := hx129_1
                                    have hw129_0 := hx129_0
                                    cases e129
                                    replace hx129_0 := (HB.out.cell (World.block_lt_of_cell? w _ hx129_0)).trans hx129_0
                                    replace hx129_1 := (HB.out.cell (World.block_lt_of_cell? w _ hx129_1)).trans hx129_1
                                    replace hx129_2 := (HB.out.cell (World.block_lt_of_cell? w _ hx129_2)).trans hx129_2
                                    replace hx129_3 := (HB.out.cell (World.block_lt_of_cell? w _ hx129_3)).trans hx129_3
                                    replace hx129_4 := (HB.out.cell (World.block_lt_of_cell? w _ hx129_4)).trans hx129_4
                                    have HR129_3 := Aside0.mk hi129_3
                                    have HC129_3 := Aside0.mk hl129_3
                                    clear hi129_3 hl129_3
                                    have HR129_4 := Aside0.mk hi129_4
                                    have HC129_4 := Aside0.mk hl129_4
                                    clear hi129_4 hl129_4
                                    replace p129 := eq_true p129
                                    replace q129 := eq_true q129
                                    have p130 : 0 ≤ (t128 : Int) := of_decide_eq_true (by first | (with_reducible assumption) | assumption)
                                    have q130 : t128 < (l1_4.length : Int) := of_decide_eq_true (by first | (with_reducible assumption) | assumption)
                                    obtain ⟨ad130, A130_3, c130_3, A130_4, c130_4, e130, hx130_0, hx130_1, hx130_2, hx130_3, hx130_4, hl130_3, hi130_3, hl130_4, hi130_4⟩ := at_T25 HR1_4.out t128 p130 q130
                                    have hw130_4 := hx130_4
                                    have hw130_3 := hx130_3
                                    have hw130_2 := hx130_2
                                    have hw130_1 := hx130_1
                                    have hw130_0 := hx130_0
                                    cases e130
                                    replace hx130_0 := (HB.out.cell (World.block_lt_of_cell? w _ hx130_0)).trans hx130_0
                                    replace hx130_1 := (HB.out.cell (World.block_lt_of_cell? w _ hx130_1)).trans hx130_1
                                    replace hx130_2 := (HB.out.cell (World.block_lt_of_cell? w _ hx130_2)).trans hx130_2
                                    replace hx130_3 := (HB.out.cell (World.block_lt_of_cell? w _ hx130_3)).trans hx130_3
                                    replace hx130_4 := (HB.out.cell (World.block_lt_of_cell? w _ hx130_4)).trans hx130_4
                                    have HR130_3 := Aside0.mk hi130_3
                                    have HC130_3 := Aside0.mk hl130_3
                                    clear hi130_3 hl130_3
                                    have HR130_4 := Aside0.mk hi130_4
                                    have HC130_4 := Aside0.mk hl130_4
                                    clear hi130_4 hl130_4
                                    replace p130 := eq_true p130
                                    replace q130 := eq_true q130
                                    refine start_ (n := 13) (S := fun w' => w'.cell? ⟨gb125, 0, none⟩ = some (.int .i64 a0_0) ∧ w'.cell? ⟨gb125, 1, none⟩ = some (.string a0_1) ∧ w'.cell? ⟨gb125, 2, none⟩ = some (.string a0_2) ∧ w'.cell? ⟨gb125, 3, none⟩ = some (.slice (some ad127) l0_3.length c0_3) ∧ w'.cell? ⟨gb125, 4, none⟩ = some (.slice (some ad129) l0_4.length c0_4) ∧ w'.cell? ⟨gb126, 0, none⟩ = some (.int .i64 a1_0) ∧ w'.cell? ⟨gb126, 1, none⟩ = some (.string a1_1) ∧ w'.cell? ⟨gb126, 2, none⟩ = some (.string a1_2) ∧ w'.cell? ⟨gb126, 3, none⟩ = some (.slice A1_3 l1_3.length c1_3) ∧ w'.cell? ⟨gb126, 4, none⟩ = some (.slice (some ad130) l1_4.length c1_4) ∧ w'.cell? (ad129.add ((x54_2).toNat * 5)) = some (.int .i64 ((rd_T25 l0_4 x54_2).f0)) ∧ w'.cell? ⟨(ad129.add ((x54_2).toNat * 5)).block, (ad129.add ((x54_2).toNat * 5)).off + 1, none⟩ = some (.string ((rd_T25 l0_4 x54_2).f1)) ∧ w'.cell? ⟨(ad129.add ((x54_2).toNat * 5)).block, (ad129.add ((x54_2).toNat * 5)).off + 2, none⟩ = some (.string ((rd_T25 l0_4 x54_2).f2)) ∧ w'.cell? ⟨(ad129.add ((x54_2).toNat * 5)).block, (ad129.add ((x54_2).toNat * 5)).off + 3, none⟩ = some (.slice A129_3 ((rd_T25 l0_4 x54_2).f3).length c129_3) ∧ w'.cell? ⟨(ad129.add ((x54_2).toNat * 5)).block, (ad129.add ((x54_2).toNat * 5)).off + 4, none⟩ = some (.slice A129_4 ((rd_T25 l0_4 x54_2).f4).length c129_4) ∧ w'.cell? (ad130.add ((t128).toNat * 5)) = some (.int .i64 ((rd_T25 l1_4 t128).f0)) ∧ w'.cell? ⟨(ad130.add ((t128).toNat * 5)).block, (ad130.add ((t128).toNat * 5)).off + 1, none⟩ = some (.string ((rd_T25 l1_4 t128).f1)) ∧ w'.cell? ⟨(ad130.add ((t128).toNat * 5)).block, (ad130.add ((t128).toNat * 5)).off + 2, none⟩ = some (.string ((rd_T25 l1_4 t128).f2)) ∧ w'.cell? ⟨(ad130.add ((t128).toNat * 5)).block, (ad130.add ((t128).toNat * 5)).off + 3, none⟩ = some (.slice A130_3 ((rd_T25 l1_4 t128).f3).length c130_3) ∧ w'.cell? ⟨(ad130.add ((t128).toNat * 5)).block, (ad130.add ((t128).toNat * 5)).off + 4, none⟩ = some (.slice A130_4 ((rd_T25 l1_4 t128).f4).length c130_4)) (ds := []) #[false, false, false, false, false, false, false, false, false, false, false, false, false] (by kernel_rfl) rfl rfl ⟨(blk_cell BK125.out 0).trans rfl, (blk_cell BK125.out 1).trans rfl, (blk_cell BK125.out 2).trans rfl, (blk_cell BK125.out 3).trans rfl, (blk_cell BK125.out 4).trans rfl, (blk_cell BK126.out 0).trans rfl, (blk_cell BK126.out 1).trans rfl, (blk_cell BK126.out 2).trans rfl, (blk_cell BK126.out 3).trans rfl, (blk_cell BK126.out 4).trans rfl, ((HB.out.cell (World.block_lt_of_cell? w _ hw129_0)).trans hw129_0), ((HB.out.cell (World.block_lt_of_cell? w _ hw129_1)).trans hw129_1), ((HB.out.cell (World.block_lt_of_cell? w _ hw129_2)).trans hw129_2), ((HB.out.cell (World.block_lt_of_cell? w _ hw129_3)).trans hw129_3), ((HB.out.cell (World.block_lt_of_cell? w _ hw129_4)).trans hw129_4), ((HB.out.cell (World.block_lt_of_cell? w _ hw130_0)).trans hw130_0), ((HB.out.cell (World.block_lt_of_cell? w _ hw130_1)).trans hw130_1), ((HB.out.cell (World.block_lt_of_cell? w _ hw130_2)).trans hw130_2), ((HB.out.cell (World.block_lt_of_cell? w _ hw130_3)).trans hw130_3), ((HB.out.cell (World.block_lt_of_cell? w _ hw130_4)).trans hw130_4)⟩ (fun hHeld => ?_); refine with_tabW spec_Same.tab11 spec_Same.bits11 (fun HT_ HW_ => ?_)
                                    generalize wc.drew = w57 at BK125 BK126 HB HR129_3 HR129_4 HR130_3 HR130_4 hx129_0 hx129_1 hx129_2 hx129_3 hx129_4 hx130_0 hx130_1 hx130_2 hx130_3 hx130_4 hHeld ⊢
                                    refine pure_ (i := 0) (N := some 80) (v := ?_) (a' := ?_) #[true, false, false, false, false, false, false, false, false, false, false, false, false] rfl rfl (any_of HT_.out (by kernel_rfl)) (fun _ _ _ h => h) (Or.inl ⟨by rfl, ?_⟩) ?_ ?_
                                    rotate_left
                                    · intro w'
                                      go_simp
                                      with_reducible rfl
                                    rotate_left
                                    · simp only [Act.put, List.setIfInBounds_toArray, List.set_cons_zero, List.set_cons_succ, i64_w, i32_w]
                                      rfl
                                    refine pure_ (i := 2) (N := some 82) (v := ?_) (a' := ?_) #[true, false, true, false, false, false, false, false, false, false, false, false, false] rfl rfl (any_of HT_.out (by kernel_rfl)) (fun _ _ _ h => h) (Or.inl ⟨by rfl, ?_⟩) ?_ ?_
                                    rotate_left
                                    · intro w'
                                      go_simp
                                      with_reducible rfl
                                    rotate_left
                                    · simp only [Act.put, List.setIfInBounds_toArray, List.set_cons_zero, List.set_cons_succ, i64_w, i32_w]
                                      rfl
                                    refine pure_ (i := 5) (N := some 85) (v := ?_) (a' := ?_) #[true, false, true, false, false, true, false, false, false, false, false, false, false] rfl rfl (any_of HT_.out (by kernel_rfl)) (fun _ _ _ h => h) (Or.inl ⟨by rfl, ?_⟩) ?_ ?_
                                    rotate_left
                                    · intro w'
                                      go_simp
                                      with_reducible rfl
                                    rotate_left
                                    · simp only [Act.put, List.setIfInBounds_toArray, List.set_cons_zero, List.set_cons_succ, i64_w, i32_w]
                                      rfl
                                    refine pure_ (i := 7) (N := some 87) (v := ?_) (a' := ?_) #[true, false, true, false, false, true, false, true, false, false, false, false, false] rfl rfl (any_of HT_.out (by kernel_rfl)) (fun _ _ _ h => h) (Or.inl ⟨by rfl, ?_⟩) ?_ ?_
                                    rotate_left
                                    · intro w'
                                      go_simp
                                      with_reducible rfl
                                    rotate_left
                                    · simp only [Act.put, List.setIfInBounds_toArray, List.set_cons_zero, List.set_cons_succ, i64_w, i32_w]
                                      rfl
                                    refine pure_ (i := 10) (N := some 90) (v := ?_) (a' := ?_) #[true, false, true, false, false, true, false, true, false, false, true, false, false] rfl rfl (any_of HT_.out (by kernel_rfl)) (fun _ _ _ h => h) (Or.inl ⟨by rfl, ?_⟩) ?_ ?_
                                    rotate_left
                                    · intro w'
                                      go_simp
                                      with_reducible rfl
                                    rotate_left
                                    · simp only [Act.put, List.setIfInBounds_toArray, List.set_cons_zero, List.set_cons_succ, i64_w, i32_w]
                                      rfl
                                    refine take_ (i := 1) (N := some 81) (v := ?_) (a' := ?_) #[true, true, true, false, false, true, false, true, false, false, true, false, false] rfl rfl (take_ofW HT_.out HW_.out (by kernel_rfl)) (fun _ _ _ h => h) (Or.inl ⟨by rfl, ?_⟩) hHeld ?_ ?_
                                    rotate_left
                                    · rintro w' ⟨s0, s1, s2, s3, s4, s5, s6, s7, s8, s9, s10, s11, s12, s13, s14, s15, s16, s17, s18, s19⟩
                                      go_simp
                                      with_reducible rfl
                                    rotate_left
                                    · simp only [Act.put, List.setIfInBounds_toArray, List.set_cons_zero, List.set_cons_succ, i64_w, i32_w]
                                      rfl
                                    refine pure_ (i := 3) (N := some 83) (v := ?_) (a' := ?_) #[true, true, true, true, false, true, false, true, false, false, true, false, false] rfl rfl (any_of HT_.out (by kernel_rfl)) (fun _ _ _ h => h) (Or.inl ⟨by rfl, ?_⟩) ?_ ?_
                                    rotate_left
                                    · intro w'
                                      go_simp
                                      with_reducible rfl
                                    rotate_left
                                    · simp only [Act.put, List.setIfInBounds_toArray, List.set_cons_zero, List.set_cons_succ, i64_w, i32_w]
                                      rfl
                                    refine take_ (i := 4) (N := some 84) (v := ?_) (a' := ?_) #[true, true, true, true, true, true, false, true, false, false, true, false, false] rfl rfl (take_ofW HT_.out HW_.out (by kernel_rfl)) (fun _ _ _ h => h) (Or.inl ⟨by rfl, ?_⟩) hHeld ?_ ?_
                                    rotate_left
                                    · rintro w' ⟨s0, s1, s2, s3, s4, s5, s6, s7, s8, s9, s10, s11, s12, s13, s14, s15, s16, s17, s18, s19⟩
                                      go_simp
                                      with_reducible rfl
                                    rotate_left
                                    · simp only [Act.put, List.setIfInBounds_toArray, List.set_cons_zero, List.set_cons_succ, i64_w, i32_w]
                                      rfl
                                    refine take_ (i := 6) (N := some 86) (v := ?_) (a' := ?_) #[true, true, true, true, true, true, true, true, false, false, true, false, false] rfl rfl (take_ofW HT_.out HW_.out (by kernel_rfl)) (fun _ _ _ h => h) (Or.inl ⟨by rfl, ?_⟩) hHeld ?_ ?_
                                    rotate_left
                                    · rintro w' ⟨s0, s1, s2, s3, s4, s5, s6, s7, s8, s9, s10, s11, s12, s13, s14, s15, s16, s17, s18, s19⟩
                                      go_simp
                                      with_reducible rfl
                                    rotate_left
                                    · simp only [Act.put, List.setIfInBounds_toArray, List.set_cons_zero, List.set_cons_succ, i64_w, i32_w]
                                      rfl
                                    refine pure_ (i := 8) (N := some 88) (v := ?_) (a' := ?_) #[true, true, true, true, true, true, true, true, true, false, true, false, false] rfl rfl (any_of HT_.out (by kernel_rfl)) (fun _ _ _ h => h) (Or.inl ⟨by rfl, ?_⟩) ?_ ?_
                                    rotate_left
                                    · intro w'
                                      go_simp
                                      with_reducible rfl
                                    rotate_left
                                    · simp only [Act.put, List.setIfInBounds_toArray, List.set_cons_zero, List.set_cons_succ, i64_w, i32_w]
                                      rfl
                                    refine take_ (i := 9) (N := some 89) (v := ?_) (a' := ?_) #[true, true, true, true, true, true, true, true, true, true, true, false, false] rfl rfl (take_ofW HT_.out HW_.out (by kernel_rfl)) (fun _ _ _ h => h) (Or.inl ⟨by rfl, ?_⟩) hHeld ?_ ?_
                                    rotate_left
                                    · rintro w' ⟨s0, s1, s2, s3, s4, s5, s6, s7, s8, s9, s10, s11, s12, s13, s14, s15, s16, s17, s18, s19⟩
                                      go_simp
                                      with_reducible rfl
                                    rotate_left
                                    · simp only [Act.put, List.setIfInBounds_toArray, List.set_cons_zero, List.set_cons_succ, i64_w, i32_w]
                                      rfl
                                    refine one_ (i := 11) (N := some 91) #[true, true, true, true, true, true, true, true, true, true, true, true, false] rfl rfl (one_of HT_.out (by kernel_rfl)) (by decide) (fun K hK => ?_)
                                    refine goes_ Try.func19 (by kernel_rfl) rfl #[.agg #[.int .i64 ((rd_T25 l0_4 x54_2).f0), .string ((rd_T25 l0_4 x54_2).f1), .string ((rd_T25 l0_4 x54_2).f2), .slice A129_3 ((rd_T25 l0_4 x54_2).f3).length c129_3, .slice A129_4 ((rd_T25 l0_4 x54_2).f4).length c129_4], .agg #[.int .i64 ((rd_T25 l1_4 t128).f0), .string ((rd_T25 l1_4 t128).f1), .string ((rd_T25 l1_4 t128).f2), .slice A130_3 ((rd_T25 l1_4 t128).f3).length c130_3, .slice A130_4 ((rd_T25 l1_4 t128).f4).length c130_4], .bool a2] (by rfl) rfl rfl (by (try simp only [List.map_toArray, List.map_cons, List.map_nil]); first | done | rfl | (simp only [List.length_drop, List.length_take]; rfl)) ?_
                                    with_reducible refine (ih kj41 (by have := HJ3.out; have := HK2.out; have := HJ41.out; omega) ((rd_T25 l0_4 x54_2).f0) ((rd_T25 l0_4 x54_2).f1) ((rd_T25 l0_4 x54_2).f2) _ _ ((rd_T25 l0_4 x54_2).f3) _ _ ((rd_T25 l0_4 x54_2).f4) ((rd_T25 l1_4 t128).f0) ((rd_T25 l1_4 t128).f1) ((rd_T25 l1_4 t128).f2) _ _ ((rd_T25 l1_4 t128).f3) _ _ ((rd_T25 l1_4 t128).f4) a2 false _ ?side1 ?side2 ?side3 ?side4 ?side5 ?side6 ?side7 ?side8 A53.out).mono ?_
                                    (case side1 => repeat (first | exact (Kd.C_below HR129_3.out HB.out) | (with_reducible refine Kd.C_alloc ?_ _) | (with_reducible refine Kd.C_drewN ?_ _) | (with_reducible refine Kd.C_drew ?_)))
                                    (case side2 => exact HC129_3.out)
                                    (case side3 => repeat (first | exact (Kd.C_below HR129_4.out HB.out) | (with_reducible refine Kd.C_alloc ?_ _) | (with_reducible refine Kd.C_drewN ?_ _) | (with_reducible refine Kd.C_drew ?_)))
                                    (case side4 => exact HC129_4.out)
                                    (case side5 => repeat (first | exact (Kd.C_below HR130_3.out HB.out) | (with_reducible refine Kd.C_alloc ?_ _) | (with_reducible refine Kd.C_drewN ?_ _) | (with_reducible refine Kd.C_drew ?_)))
                                    (case side6 => exact HC130_3.out)
                                    (case side7 => repeat (first | exact (Kd.C_below HR130_4.out HB.out) | (with_reducible refine Kd.C_alloc ?_ _) | (with_reducible refine Kd.C_drewN ?_ _) | (with_reducible refine Kd.C_drew ?_)))
                                    (case side8 => exact HC130_4.out)
                                    rintro e w58 ⟨rfl, hb⟩
                                    refine ⟨_, rfl, ?_⟩
                                    have n0_ := Aside0.mk (blk_below (g := gb125) (o := .cells #[.int .i64 a0_0, .string a0_1, .string a0_2, .slice (some ad127) l0_3.length c0_3, .slice (some ad129) l0_4.length c0_4] 25 (0, 0)) (by (with_reducible repeat (first | refine blk_drewN ?_ _ | refine blk_drew ?_ | refine blk_alloc ?_ _)); exact BK125.out) hb)
                                    have n1_ := Aside0.mk (blk_below (g := gb126) (o := .cells #[.int .i64 a1_0, .string a1_1, .string a1_2, .slice A1_3 l1_3.length c1_3, .slice (some ad130) l1_4.length c1_4] 25 (0, 0)) (by (with_reducible repeat (first | refine blk_drewN ?_ _ | refine blk_drew ?_ | refine blk_alloc ?_ _)); exact BK126.out) hb)
                                    have n2_ := Aside0.mk (below_step (by repeat (first | (with_reducible first | exact HB.out | apply below_alloc | apply pw_below_drewN | apply below_drew1 | refine below_set ?_ GE125.out | refine below_set ?_ GE126.out) | exact HB.out)) hb)
                                    clear BK125
                                    clear BK126
                                    clear HB
                                    have BK125 := n0_
                                    have BK126 := n1_
                                    have HB := n2_
                                    clear n0_ n1_ n2_
                                    (try clear hb)
                                    (try clear hb2)
                                    (try clear hk)
                                    (try clear hi)
                                    refine hK.out _ _ ⟨(blk_cell BK125.out 0).trans rfl, (blk_cell BK125.out 1).trans rfl, (blk_cell BK125.out 2).trans rfl, (blk_cell BK125.out 3).trans rfl, (blk_cell BK125.out 4).trans rfl, (blk_cell BK126.out 0).trans rfl, (blk_cell BK126.out 1).trans rfl, (blk_cell BK126.out 2).trans rfl, (blk_cell BK126.out 3).trans rfl, (blk_cell BK126.out 4).trans rfl, ((HB.out.cell (World.block_lt_of_cell? w _ hw129_0)).trans hw129_0), ((HB.out.cell (World.block_lt_of_cell? w _ hw129_1)).trans hw129_1), ((HB.out.cell (World.block_lt_of_cell? w _ hw129_2)).trans hw129_2), ((HB.out.cell (World.block_lt_of_cell? w _ hw129_3)).trans hw129_3), ((HB.out.cell (World.block_lt_of_cell? w _ hw129_4)).trans hw129_4), ((HB.out.cell (World.block_lt_of_cell? w _ hw130_0)).trans hw130_0), ((HB.out.cell (World.block_lt_of_cell? w _ hw130_1)).trans hw130_1), ((HB.out.cell (World.block_lt_of_cell? w _ hw130_2)).trans hw130_2), ((HB.out.cell (World.block_lt_of_cell? w _ hw130_3)).trans hw130_3), ((HB.out.cell (World.block_lt_of_cell? w _ hw130_4)).trans hw130_4)⟩ (fun hHeld => ?_)
                                    clear hK K
                                    refine norm_ (a' := ?_) ?_ ?_
                                    rotate_left
                                    · show Act.put _ (some 91) _ = _
                                      simp only [Act.put, List.setIfInBounds_toArray, List.set_cons_zero, List.set_cons_succ, i64_w, i32_w]
                                      rfl
                                    refine pure_ (i := 12) (N := some 92) (v := ?_) (a' := ?_) #[true, true, true, true, true, true, true, true, true, true, true, true, true] rfl rfl (any_of HT_.out (by kernel_rfl)) (fun _ _ _ h => h) (Or.inl ⟨by rfl, ?_⟩) ?_ ?_
                                    rotate_left
                                    · intro w'
                                      go_simp
                                      with_reducible rfl
                                    rotate_left
                                    · simp only [Act.put, List.setIfInBounds_toArray, List.set_cons_zero, List.set_cons_succ, i64_w, i32_w]
                                      rfl
                                    refine done_ (done_of HT_.out (by kernel_rfl)) ?_
                                    try go_wp2
                                    go_ret
                                    exact ⟨by first | rfl | (simp [errW_none, errW_some] <;> rfl) | (simp [*, errW_none, errW_some] <;> rfl), by repeat (first | (with_reducible first | exact HB.out | apply below_alloc | apply pw_below_drewN | apply below_drew1 | refine below_set ?_ GE125.out | refine below_set ?_ GE126.out) | exact HB.out)⟩
                                · rw [if_neg c52] at H
                                  exact absurd H (by simp)
                              · rw [if_neg c51] at H
                                exact absurd H (by simp)
                            · rw [if_neg c50] at H
                              exact absurd H (by simp)
                          · rw [if_neg c49] at H
                            exact absurd H (by simp)
                  · rw [if_neg c40] at H
                    exact absurd H (by simp)
                · rw [if_neg c39] at H
                  exact absurd H (by simp)
              · rw [if_neg c38] at H
                have c38b0 : (a0_0 == 2) = false := beq_eq_false_iff_ne.mpr c38
                have c38b1 : (a0_0 != 2) = true := bne_iff_ne.mpr c38
                by_cases c59 : 0 ≤ x54_2
                · rw [if_pos c59] at H
                  have c59b0 : decide (0 ≤ x54_2) = true := decide_eq_true c59
                  clear c59
                  by_cases c60 : x54_2 < (l0_4.length : Int)
                  · rw [if_pos c60] at H
                    have c60b0 : decide (x54_2 < (l0_4.length : Int)) = true := decide_eq_true c60
                    clear c60
                    by_cases c61 : x54_2 < (l1_4.length : Int)
                    · rw [if_pos c61] at H
                      have c61b0 : decide (x54_2 < (l1_4.length : Int)) = true := decide_eq_true c61
                      clear c61
                      replace H := Option.bind_eq_some_iff.mp H
                      obtain ⟨t134, A620, H⟩ := H
                      replace H : (if t134 = true then (spec_Same.l0 k2 a2 (l0_4.length : Int) (wrap64 (x54_2 + 1)) a0_0 a0_1 a0_2 l0_3 l0_4 a1_0 a1_1 a1_2 l1_3 l1_4) else (some false)) = some r := H
                      have A62 := Aside0.mk A620
                      clear A620
                      by_cases c63 : t134 = true
                      · subst c63
                        have H1 : (spec_Same.l0 k2 a2 (l0_4.length : Int) (wrap64 (x54_2 + 1)) a0_0 a0_1 a0_2 l0_3 l0_4 a1_0 a1_1 a1_2 l1_3 l1_4) = some r := by rw [if_pos rfl] at H; exact H
                        clear H
                        have H := H1
                        clear H1
                        have H' := Aside0.mk H
                        clear H
                        have hnb64 := NB125_126.out
                        have hnc64 := NB126_125.out
                        have hcz65_0 : wr.cell? ⟨gb125, 0, none⟩ = some (.int .i64 a0_0) := (blk_cell BK125.out 0).trans rfl
                        have hcz65_1 : wr.cell? ⟨gb125, 1, none⟩ = some (.string a0_1) := (blk_cell BK125.out 1).trans rfl
                        have hcz65_2 : wr.cell? ⟨gb125, 2, none⟩ = some (.string a0_2) := (blk_cell BK125.out 2).trans rfl
                        have hcz65_3 : wr.cell? ⟨gb125, 3, none⟩ = some (.slice A0_3 l0_3.length c0_3) := (blk_cell BK125.out 3).trans rfl
                        have hcz65_4 : wr.cell? ⟨gb125, 4, none⟩ = some (.slice A0_4 l0_4.length c0_4) := (blk_cell BK125.out 4).trans rfl
                        have hfz65_0 := blk_frozen BK125.out 0
                        have hfz65_1 := blk_frozen BK125.out 1
                        have hfz65_2 := blk_frozen BK125.out 2
                        have hfz65_3 := blk_frozen BK125.out 3
                        have hfz65_4 := blk_frozen BK125.out 4
                        try go_wp2
                        have n0_ := Aside0.mk (blk_drew BK125.out)
                        have n1_ := Aside0.mk (blk_drew BK126.out)
                        have n2_ := Aside0.mk (below_drew1 HB.out)
                        clear BK125
                        clear BK126
                        clear HB
                        have BK125 := n0_
                        have BK126 := n1_
                        have HB := n2_
                        clear n0_ n1_ n2_
                        have p132 : 0 ≤ (x54_2 : Int) := of_decide_eq_true (by first | (with_reducible assumption) | assumption)
                        have q132 : x54_2 < (l0_4.length : Int) := of_decide_eq_true (by first | (with_reducible assumption) | assumption)
                        obtain ⟨ad132, A132_3, c132_3, A132_4, c132_4, e132, hx132_0, hx132_1, hx132_2, hx132_3, hx132_4, hl132_3, hi132_3, hl132_4, hi132_4⟩ := at_T25 HR0_4.out x54_2 p132 q132
                        have hw132_4 := hx132_4
                        have hw132_3 := hx132_3
                        have hw132_2 := hx132_2
                        have hw132_1 := hx132_1
                        have hw132_0 := hx132_0
                        cases e132
                        replace hx132_0 := (HB.out.cell (World.block_lt_of_cell? w _ hx132_0)).trans hx132_0
                        replace hx132_1 := (HB.out.cell (World.block_lt_of_cell? w _ hx132_1)).trans hx132_1
                        replace hx132_2 := (HB.out.cell (World.block_lt_of_cell? w _ hx132_2)).trans hx132_2
                        replace hx132_3 := (HB.out.cell (World.block_lt_of_cell? w _ hx132_3)).trans hx132_3
                        replace hx132_4 := (HB.out.cell (World.block_lt_of_cell? w _ hx132_4)).trans hx132_4
                        have HR132_3 := Aside0.mk hi132_3
                        have HC132_3 := Aside0.mk hl132_3
                        clear hi132_3 hl132_3
                        have HR132_4 := Aside0.mk hi132_4
                        have HC132_4 := Aside0.mk hl132_4
                        clear hi132_4 hl132_4
                        replace p132 := eq_true p132
                        replace q132 := eq_true q132
                        have p133 : 0 ≤ (x54_2 : Int) := of_decide_eq_true (by first | (with_reducible assumption) | assumption)
                        have q133 : x54_2 < (l1_4.length : Int) := of_decide_eq_true (by first | (with_reducible assumption) | assumption)
                        obtain ⟨ad133, A133_3, c133_3, A133_4, c133_4, e133, hx133_0, hx133_1, hx133_2, hx133_3, hx133_4, hl133_3, hi133_3, hl133_4, hi133_4⟩ := at_T25 HR1_4.out x54_2 p133 q133
                        have hw133_4 := hx133_4
                        have hw133_3 := hx133_3
                        have hw133_2 := hx133_2
                        have hw133_1 := hx133_1
                        have hw133_0 := hx133_0
                        cases e133
                        replace hx133_0 := (HB.out.cell (World.block_lt_of_cell? w _ hx133_0)).trans hx133_0
                        replace hx133_1 := (HB.out.cell (World.block_lt_of_cell? w _ hx133_1)).trans hx133_1
                        replace hx133_2 := (HB.out.cell (World.block_lt_of_cell? w _ hx133_2)).trans hx133_2
                        replace hx133_3 := (HB.out.cell (World.block_lt_of_cell? w _ hx133_3)).trans hx133_3
                        replace hx133_4 := (HB.out.cell (World.block_lt_of_cell? w _ hx133_4)).trans hx133_4
                        have HR133_3 := Aside0.mk hi133_3
                        have HC133_3 := Aside0.mk hl133_3
                        clear hi133_3 hl133_3
                        have HR133_4 := Aside0.mk hi133_4
                        have HC133_4 := Aside0.mk hl133_4
                        clear hi133_4 hl133_4
                        replace p133 := eq_true p133
                        replace q133 := eq_true q133
                        refine start_ (n := 13) (S := fun w' => w'.cell? ⟨gb125, 0, none⟩ = some (.int .i64 a0_0) ∧ w'.cell? ⟨gb125, 1, none⟩ = some (.string a0_1) ∧ w'.cell? ⟨gb125, 2, none⟩ = some (.string a0_2) ∧ w'.cell? ⟨gb125, 3, none⟩ = some (.slice A0_3 l0_3.length c0_3) ∧ w'.cell? ⟨gb125, 4, none⟩ = some (.slice (some ad132) l0_4.length c0_4) ∧ w'.cell? ⟨gb126, 0, none⟩ = some (.int .i64 a1_0) ∧ w'.cell? ⟨gb126, 1, none⟩ = some (.string a1_1) ∧ w'.cell? ⟨gb126, 2, none⟩ = some (.string a1_2) ∧ w'.cell? ⟨gb126, 3, none⟩ = some (.slice A1_3 l1_3.length c1_3) ∧ w'.cell? ⟨gb126, 4, none⟩ = some (.slice (some ad133) l1_4.length c1_4) ∧ w'.cell? (ad132.add ((x54_2).toNat * 5)) = some (.int .i64 ((rd_T25 l0_4 x54_2).f0)) ∧ w'.cell? ⟨(ad132.add ((x54_2).toNat * 5)).block, (ad132.add ((x54_2).toNat * 5)).off + 1, none⟩ = some (.string ((rd_T25 l0_4 x54_2).f1)) ∧ w'.cell? ⟨(ad132.add ((x54_2).toNat * 5)).block, (ad132.add ((x54_2).toNat * 5)).off + 2, none⟩ = some (.string ((rd_T25 l0_4 x54_2).f2)) ∧ w'.cell? ⟨(ad132.add ((x54_2).toNat * 5)).block, (ad132.add ((x54_2).toNat * 5)).off + 3, none⟩ = some (.slice A132_3 ((rd_T25 l0_4 x54_2).f3).length c132_3) ∧ w'.cell? ⟨(ad132.add ((x54_2).toNat * 5)).block, (ad132.add ((x54_2).toNat * 5)).off + 4, none⟩ = some (.slice A132_4 ((rd_T25 l0_4 x54_2).f4).length c132_4) ∧ w'.cell? (ad133.add ((x54_2).toNat * 5)) = some (.int .i64 ((rd_T25 l1_4 x54_2).f0)) ∧ w'.cell? ⟨(ad133.add ((x54_2).toNat * 5)).block, (ad133.add ((x54_2).toNat * 5)).off + 1, none⟩ = some (.string ((rd_T25 l1_4 x54_2).f1)) ∧ w'.cell? ⟨(ad133.add ((x54_2).toNat * 5)).block, (ad133.add ((x54_2).toNat * 5)).off + 2, none⟩ = some (.string ((rd_T25 l1_4 x54_2).f2)) ∧ w'.cell? ⟨(ad133.add ((x54_2).toNat * 5)).block, (ad133.add ((x54_2).toNat * 5)).off + 3, none⟩ = some (.slice A133_3 ((rd_T25 l1_4 x54_2).f3).length c133_3) ∧ w'.cell? ⟨(ad133.add ((x54_2).toNat * 5)).block, (ad133.add ((x54_2).toNat * 5)).off + 4, none⟩ = some (.slice A133_4 ((rd_T25 l1_4 x54_2).f4).length c133_4)) (ds := []) #[false, false, false, false, false, false, false, false, false, false, false, false, false] (by kernel_rfl) rfl rfl ⟨(blk_cell BK125.out 0).trans rfl, (blk_cell BK125.out 1).trans rfl, (blk_cell BK125.out 2).trans rfl, (blk_cell BK125.out 3).trans rfl, (blk_cell BK125.out 4).trans rfl, (blk_cell BK126.out 0).trans rfl, (blk_cell BK126.out 1).trans rfl, (blk_cell BK126.out 2).trans rfl, (blk_cell BK126.out 3).trans rfl, (blk_cell BK126.out 4).trans rfl, ((HB.out.cell (World.block_lt_of_cell? w _ hw132_0)).trans hw132_0), ((HB.out.cell (World.block_lt_of_cell? w _ hw132_1)).trans hw132_1), ((HB.out.cell (World.block_lt_of_cell? w _ hw132_2)).trans hw132_2), ((HB.out.cell (World.block_lt_of_cell? w _ hw132_3)).trans hw132_3), ((HB.out.cell (World.block_lt_of_cell? w _ hw132_4)).trans hw132_4), ((HB.out.cell (World.block_lt_of_cell? w _ hw133_0)).trans hw133_0), ((HB.out.cell (World.block_lt_of_cell? w _ hw133_1)).trans hw133_1), ((HB.out.cell (World.block_lt_of_cell? w _ hw133_2)).trans hw133_2), ((HB.out.cell (World.block_lt_of_cell? w _ hw133_3)).trans hw133_3), ((HB.out.cell (World.block_lt_of_cell? w _ hw133_4)).trans hw133_4)⟩ (fun hHeld => ?_); refine with_tabW spec_Same.tab11 spec_Same.bits11 (fun HT_ HW_ => ?_)
                        generalize wr.drew = w66 at BK125 BK126 HB HR132_3 HR132_4 HR133_3 HR133_4 hx132_0 hx132_1 hx132_2 hx132_3 hx132_4 hx133_0 hx133_1 hx133_2 hx133_3 hx133_4 hHeld ⊢
                        refine pure_ (i := 0) (N := some 80) (v := ?_) (a' := ?_) #[true, false, false, false, false, false, false, false, false, false, false, false, false] rfl rfl (any_of HT_.out (by kernel_rfl)) (fun _ _ _ h => h) (Or.inl ⟨by rfl, ?_⟩) ?_ ?_
                        rotate_left
                        · intro w'
                          go_simp
                          with_reducible rfl
                        rotate_left
                        · simp only [Act.put, List.setIfInBounds_toArray, List.set_cons_zero, List.set_cons_succ, i64_w, i32_w]
                          rfl
                        refine pure_ (i := 2) (N := some 82) (v := ?_) (a' := ?_) #[true, false, true, false, false, false, false, false, false, false, false, false, false] rfl rfl (any_of HT_.out (by kernel_rfl)) (fun _ _ _ h => h) (Or.inl ⟨by rfl, ?_⟩) ?_ ?_
                        rotate_left
                        · intro w'
                          go_simp
                          with_reducible rfl
                        rotate_left
                        · simp only [Act.put, List.setIfInBounds_toArray, List.set_cons_zero, List.set_cons_succ, i64_w, i32_w]
                          rfl
                        refine pure_ (i := 5) (N := some 85) (v := ?_) (a' := ?_) #[true, false, true, false, false, true, false, false, false, false, false, false, false] rfl rfl (any_of HT_.out (by kernel_rfl)) (fun _ _ _ h => h) (Or.inl ⟨by rfl, ?_⟩) ?_ ?_
                        rotate_left
                        · intro w'
                          go_simp
                          with_reducible rfl
                        rotate_left
                        · simp only [Act.put, List.setIfInBounds_toArray, List.set_cons_zero, List.set_cons_succ, i64_w, i32_w]
                          rfl
                        refine pure_ (i := 7) (N := some 87) (v := ?_) (a' := ?_) #[true, false, true, false, false, true, false, true, false, false, false, false, false] rfl rfl (any_of HT_.out (by kernel_rfl)) (fun _ _ _ h => h) (Or.inl ⟨by rfl, ?_⟩) ?_ ?_
                        rotate_left
                        · intro w'
                          go_simp
                          with_reducible rfl
                        rotate_left
                        · simp only [Act.put, List.setIfInBounds_toArray, List.set_cons_zero, List.set_cons_succ, i64_w, i32_w]
                          rfl
                        refine pure_ (i := 10) (N := some 90) (v := ?_) (a' := ?_) #[true, false, true, false, false, true, false, true, false, false, true, false, false] rfl rfl (any_of HT_.out (by kernel_rfl)) (fun _ _ _ h => h) (Or.inl ⟨by rfl, ?_⟩) ?_ ?_
                        rotate_left
                        · intro w'
                          go_simp
                          with_reducible rfl
                        rotate_left
                        · simp only [Act.put, List.setIfInBounds_toArray, List.set_cons_zero, List.set_cons_succ, i64_w, i32_w]
                          rfl
                        refine take_ (i := 1) (N := some 81) (v := ?_) (a' := ?_) #[true, true, true, false, false, true, false, true, false, false, true, false, false] rfl rfl (take_ofW HT_.out HW_.out (by kernel_rfl)) (fun _ _ _ h => h) (Or.inl ⟨by rfl, ?_⟩) hHeld ?_ ?_
                        rotate_left
                        · rintro w' ⟨s0, s1, s2, s3, s4, s5, s6, s7, s8, s9, s10, s11, s12, s13, s14, s15, s16, s17, s18, s19⟩
                          go_simp
                          with_reducible rfl
                        rotate_left
                        · simp only [Act.put, List.setIfInBounds_toArray, List.set_cons_zero, List.set_cons_succ, i64_w, i32_w]
                          rfl
                        refine pure_ (i := 3) (N := some 83) (v := ?_) (a' := ?_) #[true, true, true, true, false, true, false, true, false, false, true, false, false] rfl rfl (any_of HT_.out (by kernel_rfl)) (fun _ _ _ h => h) (Or.inl ⟨by rfl, ?_⟩) ?_ ?_
                        rotate_left
                        · intro w'
                          go_simp
                          with_reducible rfl
                        rotate_left
                        · simp only [Act.put, List.setIfInBounds_toArray, List.set_cons_zero, List.set_cons_succ, i64_w, i32_w]
                          rfl
                        refine take_ (i := 4) (N := some 84) (v := ?_) (a' := ?_) #[true, true, true, true, true, true, false, true, false, false, true, false, false] rfl rfl (take_ofW HT_.out HW_.out (by kernel_rfl)) (fun _ _ _ h => h) (Or.inl ⟨by rfl, ?_⟩) hHeld ?_ ?_
                        rotate_left
                        · rintro w' ⟨s0, s1, s2, s3, s4, s5, s6, s7, s8, s9, s10, s11, s12, s13, s14, s15, s16, s17, s18, s19⟩
                          go_simp
                          with_reducible rfl
                        rotate_left
                        · simp only [Act.put, List.setIfInBounds_toArray, List.set_cons_zero, List.set_cons_succ, i64_w, i32_w]
                          rfl
                        refine take_ (i := 6) (N := some 86) (v := ?_) (a' := ?_) #[true, true, true, true, true, true, true, true, false, false, true, false, false] rfl rfl (take_ofW HT_.out HW_.out (by kernel_rfl)) (fun _ _ _ h => h) (Or.inl ⟨by rfl, ?_⟩) hHeld ?_ ?_
                        rotate_left
                        · rintro w' ⟨s0, s1, s2, s3, s4, s5, s6, s7, s8, s9, s10, s11, s12, s13, s14, s15, s16, s17, s18, s19⟩
                          go_simp
                          with_reducible rfl
                        rotate_left
                        · simp only [Act.put, List.setIfInBounds_toArray, List.set_cons_zero, List.set_cons_succ, i64_w, i32_w]
                          rfl
                        refine pure_ (i := 8) (N := some 88) (v := ?_) (a' := ?_) #[true, true, true, true, true, true, true, true, true, false, true, false, false] rfl rfl (any_of HT_.out (by kernel_rfl)) (fun _ _ _ h => h) (Or.inl ⟨by rfl, ?_⟩) ?_ ?_
                        rotate_left
                        · intro w'
                          go_simp
                          with_reducible rfl
                        rotate_left
                        · simp only [Act.put, List.setIfInBounds_toArray, List.set_cons_zero, List.set_cons_succ, i64_w, i32_w]
                          rfl
                        refine take_ (i := 9) (N := some 89) (v := ?_) (a' := ?_) #[true, true, true, true, true, true, true, true, true, true, true, false, false] rfl rfl (take_ofW HT_.out HW_.out (by kernel_rfl)) (fun _ _ _ h => h) (Or.inl ⟨by rfl, ?_⟩) hHeld ?_ ?_
                        rotate_left
                        · rintro w' ⟨s0, s1, s2, s3, s4, s5, s6, s7, s8, s9, s10, s11, s12, s13, s14, s15, s16, s17, s18, s19⟩
                          go_simp
                          with_reducible rfl
                        rotate_left
                        · simp only [Act.put, List.setIfInBounds_toArray, List.set_cons_zero, List.set_cons_succ, i64_w, i32_w]
                          rfl
                        refine one_ (i := 11) (N := some 91) #[true, true, true, true, true, true, true, true, true, true, true, true, false] rfl rfl (one_of HT_.out (by kernel_rfl)) (by decide) (fun K hK => ?_)
                        refine goes_ Try.func19 (by kernel_rfl) rfl #[.agg #[.int .i64 ((rd_T25 l0_4 x54_2).f0), .string ((rd_T25 l0_4 x54_2).f1), .string ((rd_T25 l0_4 x54_2).f2), .slice A132_3 ((rd_T25 l0_4 x54_2).f3).length c132_3, .slice A132_4 ((rd_T25 l0_4 x54_2).f4).length c132_4], .agg #[.int .i64 ((rd_T25 l1_4 x54_2).f0), .string ((rd_T25 l1_4 x54_2).f1), .string ((rd_T25 l1_4 x54_2).f2), .slice A133_3 ((rd_T25 l1_4 x54_2).f3).length c133_3, .slice A133_4 ((rd_T25 l1_4 x54_2).f4).length c133_4], .bool a2] (by rfl) rfl rfl (by (try simp only [List.map_toArray, List.map_cons, List.map_nil]); first | done | rfl | (simp only [List.length_drop, List.length_take]; rfl)) ?_
                        with_reducible refine (ih k2 (by have := HJ3.out; have := HK2.out; omega) ((rd_T25 l0_4 x54_2).f0) ((rd_T25 l0_4 x54_2).f1) ((rd_T25 l0_4 x54_2).f2) _ _ ((rd_T25 l0_4 x54_2).f3) _ _ ((rd_T25 l0_4 x54_2).f4) ((rd_T25 l1_4 x54_2).f0) ((rd_T25 l1_4 x54_2).f1) ((rd_T25 l1_4 x54_2).f2) _ _ ((rd_T25 l1_4 x54_2).f3) _ _ ((rd_T25 l1_4 x54_2).f4) a2 true _ ?side1 ?side2 ?side3 ?side4 ?side5 ?side6 ?side7 ?side8 A62.out).mono ?_
                        (case side1 => repeat (first | exact (Kd.C_below HR132_3.out HB.out) | (with_reducible refine Kd.C_alloc ?_ _) | (with_reducible refine Kd.C_drewN ?_ _) | (with_reducible refine Kd.C_drew ?_)))
                        (case side2 => exact HC132_3.out)
                        (case side3 => repeat (first | exact (Kd.C_below HR132_4.out HB.out) | (with_reducible refine Kd.C_alloc ?_ _) | (with_reducible refine Kd.C_drewN ?_ _) | (with_reducible refine Kd.C_drew ?_)))
                        (case side4 => exact HC132_4.out)
                        (case side5 => repeat (first | exact (Kd.C_below HR133_3.out HB.out) | (with_reducible refine Kd.C_alloc ?_ _) | (with_reducible refine Kd.C_drewN ?_ _) | (with_reducible refine Kd.C_drew ?_)))
                        (case side6 => exact HC133_3.out)
                        (case side7 => repeat (first | exact (Kd.C_below HR133_4.out HB.out) | (with_reducible refine Kd.C_alloc ?_ _) | (with_reducible refine Kd.C_drewN ?_ _) | (with_reducible refine Kd.C_drew ?_)))
                        (case side8 => exact HC133_4.out)
                        rintro e w67 ⟨rfl, hb⟩
                        refine ⟨_, rfl, ?_⟩
                        have n0_ := Aside0.mk (blk_below (g := gb125) (o := .cells #[.int .i64 a0_0, .string a0_1, .string a0_2, .slice A0_3 l0_3.length c0_3, .slice (some ad132) l0_4.length c0_4] 25 (0, 0)) (by (with_reducible repeat (first | refine blk_drewN ?_ _ | refine blk_drew ?_ | refine blk_alloc ?_ _)); exact BK125.out) hb)
                        have n1_ := Aside0.mk (blk_below (g := gb126) (o := .cells #[.int .i64 a1_0, .string a1_1, .string a1_2, .slice A1_3 l1_3.length c1_3, .slice (some ad133) l1_4.length c1_4] 25 (0, 0)) (by (with_reducible repeat (first | refine blk_drewN ?_ _ | refine blk_drew ?_ | refine blk_alloc ?_ _)); exact BK126.out) hb)
                        have n2_ := Aside0.mk (below_step (by repeat (first | (with_reducible first | exact HB.out | apply below_alloc | apply pw_below_drewN | apply below_drew1 | refine below_set ?_ GE125.out | refine below_set ?_ GE126.out) | exact HB.out)) hb)
                        clear BK125
                        clear BK126
                        clear HB
                        have BK125 := n0_
                        have BK126 := n1_
                        have HB := n2_
                        clear n0_ n1_ n2_
                        (try clear hb)
                        (try clear hb2)
                        (try clear hk)
                        (try clear hi)
                        refine hK.out _ _ ⟨(blk_cell BK125.out 0).trans rfl, (blk_cell BK125.out 1).trans rfl, (blk_cell BK125.out 2).trans rfl, (blk_cell BK125.out 3).trans rfl, (blk_cell BK125.out 4).trans rfl, (blk_cell BK126.out 0).trans rfl, (blk_cell BK126.out 1).trans rfl, (blk_cell BK126.out 2).trans rfl, (blk_cell BK126.out 3).trans rfl, (blk_cell BK126.out 4).trans rfl, ((HB.out.cell (World.block_lt_of_cell? w _ hw132_0)).trans hw132_0), ((HB.out.cell (World.block_lt_of_cell? w _ hw132_1)).trans hw132_1), ((HB.out.cell (World.block_lt_of_cell? w _ hw132_2)).trans hw132_2), ((HB.out.cell (World.block_lt_of_cell? w _ hw132_3)).trans hw132_3), ((HB.out.cell (World.block_lt_of_cell? w _ hw132_4)).trans hw132_4), ((HB.out.cell (World.block_lt_of_cell? w _ hw133_0)).trans hw133_0), ((HB.out.cell (World.block_lt_of_cell? w _ hw133_1)).trans hw133_1), ((HB.out.cell (World.block_lt_of_cell? w _ hw133_2)).trans hw133_2), ((HB.out.cell (World.block_lt_of_cell? w _ hw133_3)).trans hw133_3), ((HB.out.cell (World.block_lt_of_cell? w _ hw133_4)).trans hw133_4)⟩ (fun hHeld => ?_)
                        clear hK K
                        refine norm_ (a' := ?_) ?_ ?_
                        rotate_left
                        · show Act.put _ (some 91) _ = _
                          simp only [Act.put, List.setIfInBounds_toArray, List.set_cons_zero, List.set_cons_succ, i64_w, i32_w]
                          rfl
                        refine pure_ (i := 12) (N := some 92) (v := ?_) (a' := ?_) #[true, true, true, true, true, true, true, true, true, true, true, true, true] rfl rfl (any_of HT_.out (by kernel_rfl)) (fun _ _ _ h => h) (Or.inl ⟨by rfl, ?_⟩) ?_ ?_
                        rotate_left
                        · intro w'
                          go_simp
                          with_reducible rfl
                        rotate_left
                        · simp only [Act.put, List.setIfInBounds_toArray, List.set_cons_zero, List.set_cons_succ, i64_w, i32_w]
                          rfl
                        refine done_ (done_of HT_.out (by kernel_rfl)) ?_
                        try go_wp2
                        go_roundg k2
                        case measure => have := HJ3.out; have := HK2.out; omega
                        case rel => exact ⟨(wrap64 (x54_2 + 1)), (by first | rfl | (simp; done) | (simp [*]; done)), H', ⟨by have := HJ3.out; have := HK2.out; omega⟩, ⟨by (with_reducible repeat (first | refine blk_drewN ?_ _ | refine blk_drew ?_ | refine blk_alloc ?_ _)); exact BK125.out⟩, ⟨by (with_reducible repeat (first | refine blk_drewN ?_ _ | refine blk_drew ?_ | refine blk_alloc ?_ _)); exact BK126.out⟩, ⟨by repeat (first | (with_reducible first | exact HB.out | apply below_alloc | apply pw_below_drewN | apply below_drew1 | refine below_set ?_ GE125.out | refine below_set ?_ GE126.out) | exact HB.out)⟩⟩
                      · replace c63 := Bool.eq_false_iff.mpr c63
                        subst c63
                        have H1 : (some false) = some r := by rw [if_neg (show ¬ (false = true) by decide)] at H; exact H
                        clear H
                        have H := H1
                        clear H1
                        obtain rfl := Option.some.inj H
                        have hnb68 := NB125_126.out
                        have hnc68 := NB126_125.out
                        have hcz69_0 : wr.cell? ⟨gb125, 0, none⟩ = some (.int .i64 a0_0) := (blk_cell BK125.out 0).trans rfl
                        have hcz69_1 : wr.cell? ⟨gb125, 1, none⟩ = some (.string a0_1) := (blk_cell BK125.out 1).trans rfl
                        have hcz69_2 : wr.cell? ⟨gb125, 2, none⟩ = some (.string a0_2) := (blk_cell BK125.out 2).trans rfl
                        have hcz69_3 : wr.cell? ⟨gb125, 3, none⟩ = some (.slice A0_3 l0_3.length c0_3) := (blk_cell BK125.out 3).trans rfl
                        have hcz69_4 : wr.cell? ⟨gb125, 4, none⟩ = some (.slice A0_4 l0_4.length c0_4) := (blk_cell BK125.out 4).trans rfl
                        have hfz69_0 := blk_frozen BK125.out 0
                        have hfz69_1 := blk_frozen BK125.out 1
                        have hfz69_2 := blk_frozen BK125.out 2
                        have hfz69_3 := blk_frozen BK125.out 3
                        have hfz69_4 := blk_frozen BK125.out 4
                        try go_wp2
                        have n0_ := Aside0.mk (blk_drew BK125.out)
                        have n1_ := Aside0.mk (blk_drew BK126.out)
                        have n2_ := Aside0.mk (below_drew1 HB.out)
                        clear BK125
                        clear BK126
                        clear HB
                        have BK125 := n0_
                        have BK126 := n1_
                        have HB := n2_
                        clear n0_ n1_ n2_
                        have p132 : 0 ≤ (x54_2 : Int) := of_decide_eq_true (by first | (with_reducible assumption) | assumption)
                        have q132 : x54_2 < (l0_4.length : Int) := of_decide_eq_true (by first | (with_reducible assumption) | assumption)
                        obtain ⟨ad132, A132_3, c132_3, A132_4, c132_4, e132, hx132_0, hx132_1, hx132_2, hx132_3, hx132_4, hl132_3, hi132_3, hl132_4, hi132_4⟩ := at_T25 HR0_4.out x54_2 p132 q132
                        have hw132_4 := hx132_4
                        have hw132_3 := hx132_3
                        have hw132_2 := hx132_2
                        have hw132_1 := hx132_1
                        have hw132_0 := hx132_0
                        cases e132
                        replace hx132_0 := (HB.out.cell (World.block_lt_of_cell? w _ hx132_0)).trans hx132_0
                        replace hx132_1 := (HB.out.cell (World.block_lt_of_cell? w _ hx132_1)).trans hx132_1
                        replace hx132_2 := (HB.out.cell (World.block_lt_of_cell? w _ hx132_2)).trans hx132_2
                        replace hx132_3 := (HB.out.cell (World.block_lt_of_cell? w _ hx132_3)).trans hx132_3
                        replace hx132_4 := (HB.out.cell (World.block_lt_of_cell? w _ hx132_4)).trans hx132_4
                        have HR132_3 := Aside0.mk hi132_3
                        have HC132_3 := Aside0.mk hl132_3
                        clear hi132_3 hl132_3
                        have HR132_4 := Aside0.mk hi132_4
                        have HC132_4 := Aside0.mk hl132_4
                        clear hi132_4 hl132_4
                        replace p132 := eq_true p132
                        replace q132 := eq_true q132
                        have p133 : 0 ≤ (x54_2 : Int) := of_decide_eq_true (by first | (with_reducible assumption) | assumption)
                        have q133 : x54_2 < (l1_4.length : Int) := of_decide_eq_true (by first | (with_reducible assumption) | assumption)
                        obtain ⟨ad133, A133_3, c133_3, A133_4, c133_4, e133, hx133_0, hx133_1, hx133_2, hx133_3, hx133_4, hl133_3, hi133_3, hl133_4, hi133_4⟩ := at_T25 HR1_4.out x54_2 p133 q133
                        have hw133_4 := hx133_4
                        have hw133_3 := hx133_3
                        have hw133_2 := hx133_2
                        have hw133_1 := hx133_1
                        have hw133_0 := hx133_0
                        cases e133
                        replace hx133_0 := (HB.out.cell (World.block_lt_of_cell? w _ hx133_0)).trans hx133_0
                        replace hx133_1 := (HB.out.cell (World.block_lt_of_cell? w _ hx133_1)).trans hx133_1
                        replace hx133_2 := (HB.out.cell (World.block_lt_of_cell? w _ hx133_2)).trans hx133_2
                        replace hx133_3 := (HB.out.cell (World.block_lt_of_cell? w _ hx133_3)).trans hx133_3
                        replace hx133_4 := (HB.out.cell (World.block_lt_of_cell? w _ hx133_4)).trans hx133_4
                        have HR133_3 := Aside0.mk hi133_3
                        have HC133_3 := Aside0.mk hl133_3
                        clear hi133_3 hl133_3
                        have HR133_4 := Aside0.mk hi133_4
                        have HC133_4 := Aside0.mk hl133_4
                        clear hi133_4 hl133_4
                        replace p133 := eq_true p133
                        replace q133 := eq_true q133
                        refine start_ (n := 13) (S := fun w' => w'.cell? ⟨gb125, 0, none⟩ = some (.int .i64 a0_0) ∧ w'.cell? ⟨gb125, 1, none⟩ = some (.string a0_1) ∧ w'.cell? ⟨gb125, 2, none⟩ = some (.string a0_2) ∧ w'.cell? ⟨gb125, 3, none⟩ = some (.slice A0_3 l0_3.length c0_3) ∧ w'.cell? ⟨gb125, 4, none⟩ = some (.slice (some ad132) l0_4.length c0_4) ∧ w'.cell? ⟨gb126, 0, none⟩ = some (.int .i64 a1_0) ∧ w'.cell? ⟨gb126, 1, none⟩ = some (.string a1_1) ∧ w'.cell? ⟨gb126, 2, none⟩ = some (.string a1_2) ∧ w'.cell? ⟨gb126, 3, none⟩ = some (.slice A1_3 l1_3.length c1_3) ∧ w'.cell? ⟨gb126, 4, none⟩ = some (.slice (some ad133) l1_4.length c1_4) ∧ w'.cell? (ad132.add ((x54_2).toNat * 5)) = some (.int .i64 ((rd_T25 l0_4 x54_2).f0)) ∧ w'.cell? ⟨(ad132.add ((x54_2).toNat * 5)).block, (ad132.add ((x54_2).toNat * 5)).off + 1, none⟩ = some (.string ((rd_T25 l0_4 x54_2).f1)) ∧ w'.cell? ⟨(ad132.add ((x54_2).toNat * 5)).block, (ad132.add ((x54_2).toNat * 5)).off + 2, none⟩ = some (.string ((rd_T25 l0_4 x54_2).f2)) ∧ w'.cell? ⟨(ad132.add ((x54_2).toNat * 5)).block, (ad132.add ((x54_2).toNat * 5)).off + 3, none⟩ = some (.slice A132_3 ((rd_T25 l0_4 x54_2).f3).length c132_3) ∧ w'.cell? ⟨(ad132.add ((x54_2).toNat * 5)).block, (ad132.add ((x54_2).toNat * 5)).off + 4, none⟩ = some (.slice A132_4 ((rd_T25 l0_4 x54_2).f4).length c132_4) ∧ w'.cell? (ad133.add ((x54_2).toNat * 5)) = some (.int .i64 ((rd_T25 l1_4 x54_2).f0)) ∧ w'.cell? ⟨(ad133.add ((x54_2).toNat * 5)).block, (ad133.add ((x54_2).toNat * 5)).off + 1, none⟩ = some (.string ((rd_T25 l1_4 x54_2).f1)) ∧ w'.cell? ⟨(ad133.add ((x54_2).toNat * 5)).block, (ad133.add ((x54_2).toNat * 5)).off + 2, none⟩ = some (.string ((rd_T25 l1_4 x54_2).f2)) ∧ w'.cell? ⟨(ad133.add ((x54_2).toNat * 5)).block, (ad133.add ((x54_2).toNat * 5)).off + 3, none⟩ = some (.slice A133_3 ((rd_T25 l1_4 x54_2).f3).length c133_3) ∧ w'.cell? ⟨(ad133.add ((x54_2).toNat * 5)).block, (ad133.add ((x54_2).toNat * 5)).off + 4, none⟩ = some (.slice A133_4 ((rd_T25 l1_4 x54_2).f4).length c133_4)) (ds := []) #[false, false, false, false, false, false, false, false, false, false, false, false, false] (by kernel_rfl) rfl rfl ⟨(blk_cell BK125.out 0).trans rfl, (blk_cell BK125.out 1).trans rfl, (blk_cell BK125.out 2).trans rfl, (blk_cell BK125.out 3).trans rfl, (blk_cell BK125.out 4).trans rfl, (blk_cell BK126.out 0).trans rfl, (blk_cell BK126.out 1).trans rfl, (blk_cell BK126.out 2).trans rfl, (blk_cell BK126.out 3).trans rfl, (blk_cell BK126.out 4).trans rfl, ((HB.out.cell (World.block_lt_of_cell? w _ hw132_0)).trans hw132_0), ((HB.out.cell (World.block_lt_of_cell? w _ hw132_1)).trans hw132_1), ((HB.out.cell (World.block_lt_of_cell? w _ hw132_2)).trans hw132_2), ((HB.out.cell (World.block_lt_of_cell? w _ hw132_3)).trans hw132_3), ((HB.out.cell (World.block_lt_of_cell? w _ hw132_4)).trans hw132_4), ((HB.out.cell (World.block_lt_of_cell? w _ hw133_0)).trans hw133_0), ((HB.out.cell (World.block_lt_of_cell? w _ hw133_1)).trans hw133_1), ((HB.out.cell (World.block_lt_of_cell? w _ hw133_2)).trans hw133_2), ((HB.out.cell (World.block_lt_of_cell? w _ hw133_3)).trans hw133_3), ((HB.out.cell (World.block_lt_of_cell? w _ hw133_4)).trans hw133_4)⟩ (fun hHeld => ?_); refine with_tabW spec_Same.tab11 spec_Same.bits11 (fun HT_ HW_ => ?_)
                        generalize wr.drew = w70 at BK125 BK126 HB HR132_3 HR132_4 HR133_3 HR133_4 hx132_0 hx132_1 hx132_2 hx132_3 hx132_4 hx133_0 hx133_1 hx133_2 hx133_3 hx133_4 hHeld ⊢
                        refine pure_ (i := 0) (N := some 80) (v := ?_) (a' := ?_) #[true, false, false, false, false, false, false, false, false, false, false, false, false] rfl rfl (any_of HT_.out (by kernel_rfl)) (fun _ _ _ h => h) (Or.inl ⟨by rfl, ?_⟩) ?_ ?_
                        rotate_left
                        · intro w'
                          go_simp
                          with_reducible rfl
                        rotate_left
                        · simp only [Act.put, List.setIfInBounds_toArray, List.set_cons_zero, List.set_cons_succ, i64_w, i32_w]
                          rfl
                        refine pure_ (i := 2) (N := some 82) (v := ?_) (a' := ?_) #[true, false, true, false, false, false, false, false, false, false, false, false, false] rfl rfl (any_of HT_.out (by kernel_rfl)) (fun _ _ _ h => h) (Or.inl ⟨by rfl, ?_⟩) ?_ ?_
                        rotate_left
                        · intro w'
                          go_simp
                          with_reducible rfl
                        rotate_left
                        · simp only [Act.put, List.setIfInBounds_toArray, List.set_cons_zero, List.set_cons_succ, i64_w, i32_w]
                          rfl
                        refine pure_ (i := 5) (N := some 85) (v := ?_) (a' := ?_) #[true, false, true, false, false, true, false, false, false, false, false, false, false] rfl rfl (any_of HT_.out (by kernel_rfl)) (fun _ _ _ h => h) (Or.inl ⟨by rfl, ?_⟩) ?_ ?_
                        rotate_left
                        · intro w'
                          go_simp
                          with_reducible rfl
                        rotate_left
                        · simp only [Act.put, List.setIfInBounds_toArray, List.set_cons_zero, List.set_cons_succ, i64_w, i32_w]
                          rfl
                        refine pure_ (i := 7) (N := some 87) (v := ?_) (a' := ?_) #[true, false, true, false, false, true, false, true, false, false, false, false, false] rfl rfl (any_of HT_.out (by kernel_rfl)) (fun _ _ _ h => h) (Or.inl ⟨by rfl, ?_⟩) ?_ ?_
                        rotate_left
                        · intro w'
                          go_simp
                          with_reducible rfl
                        rotate_left
                        · simp only [Act.put, List.setIfInBounds_toArray, List.set_cons_zero, List.set_cons_succ, i64_w, i32_w]
                          rfl
                        refine pure_ (i := 10) (N := some 90) (v := ?_) (a' := ?_) #[true, false, true, false, false, true, false, true, false, false, true, false, false] rfl rfl (any_of HT_.out (by kernel_rfl)) (fun _ _ _ h => h) (Or.inl ⟨by rfl, ?_⟩) ?_ ?_
                        rotate_left
                        · intro w'
                          go_simp
                          with_reducible rfl
                        rotate_left
                        · simp only [Act.put, List.setIfInBounds_toArray, List.set_cons_zero, List.set_cons_succ, i64_w, i32_w]
                          rfl
                        refine take_ (i := 1) (N := some 81) (v := ?_) (a' := ?_) #[true, true, true, false, false, true, false, true, false, false, true, false, false] rfl rfl (take_ofW HT_.out HW_.out (by kernel_rfl)) (fun _ _ _ h => h) (Or.inl ⟨by rfl, ?_⟩) hHeld ?_ ?_
                        rotate_left
                        · rintro w' ⟨s0, s1, s2, s3, s4, s5, s6, s7, s8, s9, s10, s11, s12, s13, s14, s15, s16, s17, s18, s19⟩
                          go_simp
                          with_reducible rfl
                        rotate_left
                        · simp only [Act.put, List.setIfInBounds_toArray, List.set_cons_zero, List.set_cons_succ, i64_w, i32_w]
                          rfl
                        refine pure_ (i := 3) (N := some 83) (v := ?_) (a' := ?_) #[true, true, true, true, false, true, false, true, false, false, true, false, false] rfl rfl (any_of HT_.out (by kernel_rfl)) (fun _ _ _ h => h) (Or.inl ⟨by rfl, ?_⟩) ?_ ?_
                        rotate_left
                        · intro w'
                          go_simp
                          with_reducible rfl
                        rotate_left
                        · simp only [Act.put, List.setIfInBounds_toArray, List.set_cons_zero, List.set_cons_succ, i64_w, i32_w]
                          rfl
                        refine take_ (i := 4) (N := some 84) (v := ?_) (a' := ?_) #[true, true, true, true, true, true, false, true, false, false, true, false, false] rfl rfl (take_ofW HT_.out HW_.out (by kernel_rfl)) (fun _ _ _ h => h) (Or.inl ⟨by rfl, ?_⟩) hHeld ?_ ?_
                        rotate_left
                        · rintro w' ⟨s0, s1, s2, s3, s4, s5, s6, s7, s8, s9, s10, s11, s12, s13, s14, s15, s16, s17, s18, s19⟩
                          go_simp
                          with_reducible rfl
                        rotate_left
                        · simp only [Act.put, List.setIfInBounds_toArray, List.set_cons_zero, List.set_cons_succ, i64_w, i32_w]
                          rfl
                        refine take_ (i := 6) (N := some 86) (v := ?_) (a' := ?_) #[true, true, true, true, true, true, true, true, false, false, true, false, false] rfl rfl (take_ofW HT_.out HW_.out (by kernel_rfl)) (fun _ _ _ h => h) (Or.inl ⟨by rfl, ?_⟩) hHeld ?_ ?_
                        rotate_left
                        · rintro w' ⟨s0, s1, s2, s3, s4, s5, s6, s7, s8, s9, s10, s11, s12, s13, s14, s15, s16, s17, s18, s19⟩
                          go_simp
                          with_reducible rfl
                        rotate_left
                        · simp only [Act.put, List.setIfInBounds_toArray, List.set_cons_zero, List.set_cons_succ, i64_w, i32_w]
                          rfl
                        refine pure_ (i := 8) (N := some 88) (v := ?_) (a' := ?_) #[true, true, true, true, true, true, true, true, true, false, true, false, false] rfl rfl (any_of HT_.out (by kernel_rfl)) (fun _ _ _ h => h) (Or.inl ⟨by rfl, ?_⟩) ?_ ?_
                        rotate_left
                        · intro w'
                          go_simp
                          with_reducible rfl
                        rotate_left
                        · simp only [Act.put, List.setIfInBounds_toArray, List.set_cons_zero, List.set_cons_succ, i64_w, i32_w]
                          rfl
                        refine take_ (i := 9) (N := some 89) (v := ?_) (a' := ?_) #[true, true, true, true, true, true, true, true, true, true, true, false, false] rfl rfl (take_ofW HT_.out HW_.out (by kernel_rfl)) (fun _ _ _ h => h) (Or.inl ⟨by rfl, ?_⟩) hHeld ?_ ?_
                        rotate_left
                        · rintro w' ⟨s0, s1, s2, s3, s4, s5, s6, s7, s8, s9, s10, s11, s12, s13, s14, s15, s16, s17, s18, s19⟩
                          go_simp
                          with_reducible rfl
                        rotate_left
                        · simp only [Act.put, List.setIfInBounds_toArray, List.set_cons_zero, List.set_cons_succ, i64_w, i32_w]
                          rfl
                        refine one_ (i := 11) (N := some 91) #[true, true, true, true, true, true, true, true, true, true, true, true, false] rfl rfl (one_of HT_.out (by kernel_rfl)) (by decide) (fun K hK => ?_)
                        refine goes_ Try.func19 (by kernel_rfl) rfl #[.agg #[.int .i64 ((rd_T25 l0_4 x54_2).f0), .string ((rd_T25 l0_4 x54_2).f1), .string ((rd_T25 l0_4 x54_2).f2), .slice A132_3 ((rd_T25 l0_4 x54_2).f3).length c132_3, .slice A132_4 ((rd_T25 l0_4 x54_2).f4).length c132_4], .agg #[.int .i64 ((rd_T25 l1_4 x54_2).f0), .string ((rd_T25 l1_4 x54_2).f1), .string ((rd_T25 l1_4 x54_2).f2), .slice A133_3 ((rd_T25 l1_4 x54_2).f3).length c133_3, .slice A133_4 ((rd_T25 l1_4 x54_2).f4).length c133_4], .bool a2] (by rfl) rfl rfl (by (try simp only [List.map_toArray, List.map_cons, List.map_nil]); first | done | rfl | (simp only [List.length_drop, List.length_take]; rfl)) ?_
                        with_reducible refine (ih k2 (by have := HJ3.out; have := HK2.out; omega) ((rd_T25 l0_4 x54_2).f0) ((rd_T25 l0_4 x54_2).f1) ((rd_T25 l0_4 x54_2).f2) _ _ ((rd_T25 l0_4 x54_2).f3) _ _ ((rd_T25 l0_4 x54_2).f4) ((rd_T25 l1_4 x54_2).f0) ((rd_T25 l1_4 x54_2).f1) ((rd_T25 l1_4 x54_2).f2) _ _ ((rd_T25 l1_4 x54_2).f3) _ _ ((rd_T25 l1_4 x54_2).f4) a2 false _ ?side1 ?side2 ?side3 ?side4 ?side5 ?side6 ?side7 ?side8 A62.out).mono ?_
                        (case side1 => repeat (first | exact (Kd.C_below HR132_3.out HB.out) | (with_reducible refine Kd.C_alloc ?_ _) | (with_reducible refine Kd.C_drewN ?_ _) | (with_reducible refine Kd.C_drew ?_)))
                        (case side2 => exact HC132_3.out)
                        (case side3 => repeat (first | exact (Kd.C_below HR132_4.out HB.out) | (with_reducible refine Kd.C_alloc ?_ _) | (with_reducible refine Kd.C_drewN ?_ _) | (with_reducible refine Kd.C_drew ?_)))
                        (case side4 => exact HC132_4.out)
                        (case side5 => repeat (first | exact (Kd.C_below HR133_3.out HB.out) | (with_reducible refine Kd.C_alloc ?_ _) | (with_reducible refine Kd.C_drewN ?_ _) | (with_reducible refine Kd.C_drew ?_)))
                        (case side6 => exact HC133_3.out)
                        (case side7 => repeat (first | exact (Kd.C_below HR133_4.out HB.out) | (with_reducible refine Kd.C_alloc ?_ _) | (with_reducible refine Kd.C_drewN ?_ _) | (with_reducible refine Kd.C_drew ?_)))
                        (case side8 => exact HC133_4.out)
                        rintro e w71 ⟨rfl, hb⟩
                        refine ⟨_, rfl, ?_⟩
                        have n0_ := Aside0.mk (blk_below (g := gb125) (o := .cells #[.int .i64 a0_0, .string a0_1, .string a0_2, .slice A0_3 l0_3.length c0_3, .slice (some ad132) l0_4.length c0_4] 25 (0, 0)) (by (with_reducible repeat (first | refine blk_drewN ?_ _ | refine blk_drew ?_ | refine blk_alloc ?_ _)); exact BK125.out) hb)
                        have n1_ := Aside0.mk (blk_below (g := gb126) (o := .cells #[.int .i64 a1_0, .string a1_1, .string a1_2, .slice A1_3 l1_3.length c1_3, .slice (some ad133) l1_4.length c1_4] 25 (0, 0)) (by (with_reducible repeat (first | refine blk_drewN ?_ _ | refine blk_drew ?_ | refine blk_alloc ?_ _)); exact BK126.out) hb)
                        have n2_ := Aside0.mk (below_step (by repeat (first | (with_reducible first | exact HB.out | apply below_alloc | apply pw_below_drewN | apply below_drew1 | refine below_set ?_ GE125.out | refine below_set ?_ GE126.out) | exact HB.out)) hb)
                        clear BK125
                        clear BK126
                        clear HB
                        have BK125 := n0_
                        have BK126 := n1_
                        have HB := n2_
                        clear n0_ n1_ n2_
                        (try clear hb)
                        (try clear hb2)
                        (try clear hk)
                        (try clear hi)
                        refine hK.out _ _ ⟨(blk_cell BK125.out 0).trans rfl, (blk_cell BK125.out 1).trans rfl, (blk_cell BK125.out 2).trans rfl, (blk_cell BK125.out 3).trans rfl, (blk_cell BK125.out 4).trans rfl, (blk_cell BK126.out 0).trans rfl, (blk_cell BK126.out 1).trans rfl, (blk_cell BK126.out 2).trans rfl, (blk_cell BK126.out 3).trans rfl, (blk_cell BK126.out 4).trans rfl, ((HB.out.cell (World.block_lt_of_cell? w _ hw132_0)).trans hw132_0), ((HB.out.cell (World.block_lt_of_cell? w _ hw132_1)).trans hw132_1), ((HB.out.cell (World.block_lt_of_cell? w _ hw132_2)).trans hw132_2), ((HB.out.cell (World.block_lt_of_cell? w _ hw132_3)).trans hw132_3), ((HB.out.cell (World.block_lt_of_cell? w _ hw132_4)).trans hw132_4), ((HB.out.cell (World.block_lt_of_cell? w _ hw133_0)).trans hw133_0), ((HB.out.cell (World.block_lt_of_cell? w _ hw133_1)).trans hw133_1), ((HB.out.cell (World.block_lt_of_cell? w _ hw133_2)).trans hw133_2), ((HB.out.cell (World.block_lt_of_cell? w _ hw133_3)).trans hw133_3), ((HB.out.cell (World.block_lt_of_cell? w _ hw133_4)).trans hw133_4)⟩ (fun hHeld => ?_)
                        clear hK K
                        refine norm_ (a' := ?_) ?_ ?_
                        rotate_left
                        · show Act.put _ (some 91) _ = _
                          simp only [Act.put, List.setIfInBounds_toArray, List.set_cons_zero, List.set_cons_succ, i64_w, i32_w]
                          rfl
                        refine pure_ (i := 12) (N := some 92) (v := ?_) (a' := ?_) #[true, true, true, true, true, true, true, true, true, true, true, true, true] rfl rfl (any_of HT_.out (by kernel_rfl)) (fun _ _ _ h => h) (Or.inl ⟨by rfl, ?_⟩) ?_ ?_
                        rotate_left
                        · intro w'
                          go_simp
                          with_reducible rfl
                        rotate_left
                        · simp only [Act.put, List.setIfInBounds_toArray, List.set_cons_zero, List.set_cons_succ, i64_w, i32_w]
                          rfl
                        refine done_ (done_of HT_.out (by kernel_rfl)) ?_
                        try go_wp2
                        go_ret
                        exact ⟨by first | rfl | (simp [errW_none, errW_some] <;> rfl) | (simp [*, errW_none, errW_some] <;> rfl), by repeat (first | (with_reducible first | exact HB.out | apply below_alloc | apply pw_below_drewN | apply below_drew1 | refine below_set ?_ GE125.out | refine below_set ?_ GE126.out) | exact HB.out)⟩
                    · rw [if_neg c61] at H
                      exact absurd H (by simp)
                  · rw [if_neg c60] at H
                    exact absurd H (by simp)
                · rw [if_neg c59] at H
                  exact absurd H (by simp)
            · rw [if_neg c37] at H
              have c37b0 : decide (x54_2 < (l0_4.length : Int)) = false := decide_eq_false c37
              clear c37
              obtain rfl := Option.some.inj H
              go_wp2
              go_ret
              exact ⟨by first | rfl | (simp [errW_none, errW_some] <;> rfl) | (simp [*, errW_none, errW_some] <;> rfl), by repeat (first | (with_reducible first | exact HB.out | apply below_alloc | apply pw_below_drewN | apply below_drew1 | refine below_set ?_ GE125.out | refine below_set ?_ GE126.out) | exact HB.out)⟩

end Go.Proofs.Ytigpgkfgkjabmaa.PFnFields
