import Derived.Test.YtkpdkoafngjflaaGreatPFnFieldsx0
import Derived.Test.YtkpdkoafngjflaaGreatPFnFieldsx1
namespace Go.Proofs.YtkpdkoafngjflaaGreat.PFnFields
open Go.RowKit Go.Proofs.YtkpdkoafngjflaaGreatW.PrintWords Go.Proofs.YtkpdkoafngjflaaGreatW.PrintLast Go.Proofs.YtkpdkoafngjflaaGreatW.PrintMore
set_option linter.unusedVariables false
set_option linter.unusedSimpArgs false
mutual
def spec_isScalar.j0 : Nat → Bool → Int → ByteArray → ByteArray → List ByteArray → List (S25) → Option (Bool)
 | 0, _, _, _, _, _, _ => none
 | k + 1, x13, x106000, x106001, x106002, x106003, x106004 => if x13 = true then (some false) else (if x106002.toList = ([33, 33, 115, 116, 114] : List UInt8) then ((spec_IsWord.f k x106001).bind fun t106 => (some t106)) else (spec_isScalar.l0 k 0 x106000 x106001 x106002 x106003 x106004))
def spec_isScalar.l0 : Nat → Int → Int → ByteArray → ByteArray → List ByteArray → List (S25) → Option (Bool)
 | 0, _, _, _, _, _, _ => none
 | k + 1, x3, x106000, x106001, x106002, x106003, x106004 => if x3 < (x106001.size : Int) then (if 0 ≤ x3 then (if (bt x106001 x3) < 48 then (some false) else (if (bt x106001 x3) > 57 then (some false) else (if 0 < (x106001.size : Int) then (if (bt x106001 0) = 48 then (some false) else (spec_isScalar.l0 k (wrap64 (x3 + 1)) x106000 x106001 x106002 x106003 x106004)) else (none)))) else (none)) else (if x106002.toList = ([33, 33, 105, 110, 116] : List UInt8) then (if (x106001.size : Int) ≥ 1 then (some (decide ((x106001.size : Int) ≤ 9))) else (some false)) else (some false))
end
def spec_isScalar.f (k : Nat) (a0_0 : Int) (a0_1 : ByteArray) (a0_2 : ByteArray) (l0_3 : List ByteArray) (l0_4 : List (S25)) : Option (Bool) := if (l0_3.length : Int) > 0 then (spec_isScalar.j0 k true a0_0 a0_1 a0_2 l0_3 l0_4) else (spec_isScalar.j0 k (decide ((l0_4.length : Int) > 0)) a0_0 a0_1 a0_2 l0_3 l0_4)
theorem spec_isScalar.mono_l : ∀ k, (∀ y0 y1 y2 y3 y4 y5, LeO (spec_isScalar.j0 k y0 y1 y2 y3 y4 y5) (spec_isScalar.j0 (k + 1) y0 y1 y2 y3 y4 y5)) ∧ (∀ y0 y1 y2 y3 y4 y5, LeO (spec_isScalar.l0 k y0 y1 y2 y3 y4 y5) (spec_isScalar.l0 (k + 1) y0 y1 y2 y3 y4 y5))
 | 0 => ⟨fun _ _ _ _ _ _ r h => by simp [spec_isScalar.j0] at h, fun _ _ _ _ _ _ r h => by simp [spec_isScalar.l0] at h⟩
 |k + 1 => by
  obtain ⟨ih0, ih1⟩ := spec_isScalar.mono_l k
  refine ⟨?_, ?_⟩
  ·intro y0 y1 y2 y3 y4 y5
   unfold spec_isScalar.j0
   repeat' first
   | (with_reducible exact ih0 _ _ _ _ _ _)
   | (with_reducible exact ih1 _ _ _ _ _ _)
   | (with_reducible exact spec_IsWord.mono _ _)
   | (with_reducible exact LeO.refl _)
   | (with_reducible exact LeO.none _)
   | (with_reducible refine LeO.ite ?_ ?_)
   | (with_reducible refine LeO.bind ?_ (fun _ => ?_))
   | exact ih0 _ _ _ _ _ _
   | exact ih1 _ _ _ _ _ _
   | exact spec_IsWord.mono _ _
   | exact LeO.none _
   | refine LeO.ite ?_ ?_
   | refine LeO.bind ?_ (fun _ => ?_)
  ·intro y0 y1 y2 y3 y4 y5
   unfold spec_isScalar.l0
   repeat' first
   | (with_reducible exact ih0 _ _ _ _ _ _)
   | (with_reducible exact ih1 _ _ _ _ _ _)
   | (with_reducible exact spec_IsWord.mono _ _)
   | (with_reducible exact LeO.refl _)
   | (with_reducible exact LeO.none _)
   | (with_reducible refine LeO.ite ?_ ?_)
   | (with_reducible refine LeO.bind ?_ (fun _ => ?_))
   | exact ih0 _ _ _ _ _ _
   | exact ih1 _ _ _ _ _ _
   | exact spec_IsWord.mono _ _
   | exact LeO.none _
   | refine LeO.ite ?_ ?_
   | refine LeO.bind ?_ (fun _ => ?_)
theorem spec_isScalar.mono : ∀ a0 a1 a2 a3 a4 k, LeO (spec_isScalar.f k a0 a1 a2 a3 a4) (spec_isScalar.f (k + 1) a0 a1 a2 a3 a4) := by
 intro a0 a1 a2 a3 a4 k
 obtain ⟨ih0, ih1⟩ := spec_isScalar.mono_l k
 unfold spec_isScalar.f
 repeat' first
   | (with_reducible exact ih0 _ _ _ _ _ _)
   | (with_reducible exact ih1 _ _ _ _ _ _)
   | (with_reducible exact spec_IsWord.mono _ _)
   | (with_reducible exact LeO.refl _)
   | (with_reducible exact LeO.none _)
   | (with_reducible refine LeO.ite ?_ ?_)
   | (with_reducible refine LeO.bind ?_ (fun _ => ?_))
   | exact ih0 _ _ _ _ _ _
   | exact ih1 _ _ _ _ _ _
   | exact spec_IsWord.mono _ _
   | exact LeO.none _
   | refine LeO.ite ?_ ?_
   | refine LeO.bind ?_ (fun _ => ?_)
set_option maxHeartbeats 8000000 in
set_option maxRecDepth 100000 in
theorem spec_isScalar.calls (k : Nat) (a0_0 : Int) (a0_1 : ByteArray) (a0_2 : ByteArray) (A0_3 : Option Addr) (c0_3 : Nat) (l0_3 : List ByteArray) (A0_4 : Option Addr) (c0_4 : Nat) (l0_4 : List (S25)) (r : Bool) (w : World) (hr0_3 : Kd.C Kd.string w A0_3 l0_3.length l0_3) (hc0_3 : l0_3.length ≤ c0_3) (hr0_4 : Kd.C k25 w A0_4 l0_4.length l0_4) (hc0_4 : l0_4.length ≤ c0_4) (h : spec_isScalar.f k a0_0 a0_1 a0_2 l0_3 l0_4 = some r) :
  Calls Tryz.prog 29 #[.agg #[.int .i64 a0_0, .string a0_1, .string a0_2, .slice A0_3 l0_3.length c0_3, .slice A0_4 l0_4.length c0_4]] w fun e w' => e = .returned (.bool r) ∧ Below w.heap.size w w' := by
 have hu25 := Tryz.underlying25
 have HR0_3 := Aside0.mk hr0_3
 have HC0_3 := Aside0.mk hc0_3
 clear hr0_3 hc0_3
 have HR0_4 := Aside0.mk hr0_4
 have HC0_4 := Aside0.mk hc0_4
 clear hr0_4 hc0_4
 have HB := Aside0.mk (Below.refl w.heap.size w)
 have H : (if (l0_3.length : Int) > 0 then (spec_isScalar.j0 k true a0_0 a0_1 a0_2 l0_3 l0_4) else (spec_isScalar.j0 k (decide ((l0_4.length : Int) > 0)) a0_0 a0_1 a0_2 l0_3 l0_4)) = some r := h
 clear h
 have HC2 := Aside0.mk H
 clear H
 go_enter Tryz.func29, Tryz.ntmps29
 go_upto_region 1 with (first | ((with_reducible refine gate_dst (N := 1) rfl ?_); (try (refine gate_guard (by rfl) ?_; dsimp only)); refine box_event ?hg (N := 1) ?hd (cs := #[.int .i64 a0_0, .string a0_1, .string a0_2, .slice A0_3 l0_3.length c0_3, .slice A0_4 l0_4.length c0_4]) (t := 25) ?hr ?_; (case hd => rfl); (case hg => rfl); (case hr => first | (go_simp; done) | (go_simp; rfl)); intro gb105 hg w3 hbox hb; have n0_ := Aside0.mk (below_step (by repeat (first | (with_reducible first | exact HB.out | apply below_alloc | apply pw_below_drewN | apply below_drew1) | exact HB.out)) hb); have n1_ := Aside0.mk (hbox); have n2_ := Aside0.mk ((by rw [hg]; exact (below_size (by repeat (first | (with_reducible first | exact HB.out | apply below_alloc | apply pw_below_drewN | apply below_drew1) | exact HB.out))) : w.heap.size ≤ gb105)); have n3_ := Aside0.mk ((by rw [hg]; exact (below_size (by repeat (first | (with_reducible first | exact HB.out | apply below_alloc | apply pw_below_drewN | apply below_drew1) | exact HB.out))) : w.heap.size ≤ gb105)); clear HB; have HB := n0_; have BK105 := n1_; have GW105 := n2_; have GE105 := n3_; clear n0_ n1_ n2_ n3_; clear hb hbox hg))
 (try simp only [Act.put, List.setIfInBounds_toArray, List.set_cons_zero, List.set_cons_succ])
 go_cut [13] (fun v13 wc => ∃ (kq : Nat) (x13_1 : Bool), v13 = .bool x13_1 ∧ Aside0 (spec_isScalar.j0 kq x13_1 a0_0 a0_1 a0_2 l0_3 l0_4 = some r) ∧ Aside0 (kq ≤ k) ∧ Aside0 (wc.heap[gb105]? = some (.cells #[.int .i64 a0_0, .string a0_1, .string a0_2, (.slice A0_3 l0_3.length c0_3), (.slice A0_4 l0_4.length c0_4)] 25 (0, 0))) ∧ Aside0 (Below w.heap.size w wc))
 case first =>
  have H := HC2.out
  clear HC2
  by_cases c4 : (l0_3.length : Int) > 0
  ·rw [if_pos c4] at H
   have c4b0 : decide (0 < (l0_3.length : Int)) = true := decide_eq_true c4
   have c4b1 : decide (0 < l0_3.length) = true := decide_eq_true (by omega)
   clear c4
   (first | rw [c4b0] | (simp only [i64_w, i32_w]; rw [c4b0]) | skip)
   have H' := Aside0.mk H
   clear H
   have hcz5_0 : w3.cell? ⟨gb105, 0, none⟩ = some (.int .i64 a0_0) := (blk_cell BK105.out 0).trans rfl
   have hcz5_1 : w3.cell? ⟨gb105, 1, none⟩ = some (.string a0_1) := (blk_cell BK105.out 1).trans rfl
   have hcz5_2 : w3.cell? ⟨gb105, 2, none⟩ = some (.string a0_2) := (blk_cell BK105.out 2).trans rfl
   have hcz5_3 : w3.cell? ⟨gb105, 3, none⟩ = some (.slice A0_3 l0_3.length c0_3) := (blk_cell BK105.out 3).trans rfl
   have hcz5_4 : w3.cell? ⟨gb105, 4, none⟩ = some (.slice A0_4 l0_4.length c0_4) := (blk_cell BK105.out 4).trans rfl
   have hfz5_0 := blk_frozen BK105.out 0
   have hfz5_1 := blk_frozen BK105.out 1
   have hfz5_2 := blk_frozen BK105.out 2
   have hfz5_3 := blk_frozen BK105.out 3
   have hfz5_4 := blk_frozen BK105.out 4
   go_wp2
   go_meet
   case rel => exact ⟨_, (true), (by first | rfl | (simp; done) | (simp [*]; done)), H', ⟨by first | omega | exact Nat.le_refl _⟩, ⟨by (with_reducible repeat (first | refine blk_drewN ?_ _ | refine blk_drew ?_ | refine blk_alloc ?_ _)); exact BK105.out⟩, ⟨by repeat (first | (with_reducible first | exact HB.out | apply below_alloc | apply pw_below_drewN | apply below_drew1 | refine below_set ?_ GE105.out) | exact HB.out)⟩⟩
  ·rw [if_neg c4] at H
   have c4b0 : decide (0 < (l0_3.length : Int)) = false := decide_eq_false c4
   have c4b1 : decide (0 < l0_3.length) = false := decide_eq_false (by omega)
   clear c4
   (first | rw [c4b0] | (simp only [i64_w, i32_w]; rw [c4b0]) | skip)
   have H' := Aside0.mk H
   clear H
   have hcz6_0 : w3.cell? ⟨gb105, 0, none⟩ = some (.int .i64 a0_0) := (blk_cell BK105.out 0).trans rfl
   have hcz6_1 : w3.cell? ⟨gb105, 1, none⟩ = some (.string a0_1) := (blk_cell BK105.out 1).trans rfl
   have hcz6_2 : w3.cell? ⟨gb105, 2, none⟩ = some (.string a0_2) := (blk_cell BK105.out 2).trans rfl
   have hcz6_3 : w3.cell? ⟨gb105, 3, none⟩ = some (.slice A0_3 l0_3.length c0_3) := (blk_cell BK105.out 3).trans rfl
   have hcz6_4 : w3.cell? ⟨gb105, 4, none⟩ = some (.slice A0_4 l0_4.length c0_4) := (blk_cell BK105.out 4).trans rfl
   have hfz6_0 := blk_frozen BK105.out 0
   have hfz6_1 := blk_frozen BK105.out 1
   have hfz6_2 := blk_frozen BK105.out 2
   have hfz6_3 := blk_frozen BK105.out 3
   have hfz6_4 := blk_frozen BK105.out 4
   go_wp2
   go_meet
   case rel => exact ⟨_, (decide ((l0_4.length : Int) > 0)), (by first | rfl | (simp; done) | (simp [*]; done)), H', ⟨by first | omega | exact Nat.le_refl _⟩, ⟨by (with_reducible repeat (first | refine blk_drewN ?_ _ | refine blk_drew ?_ | refine blk_alloc ?_ _)); exact BK105.out⟩, ⟨by repeat (first | (with_reducible first | exact HB.out | apply below_alloc | apply pw_below_drewN | apply below_drew1 | refine below_set ?_ GE105.out) | exact HB.out)⟩⟩
 case rest =>
  clear HC2
  try clear c2
  try clear p2
  try clear c4
  try clear c4b0
  try clear c4b1
  try clear hcz5_0
  try clear hcz5_1
  try clear hcz5_2
  try clear hcz5_3
  try clear hcz5_4
  try clear hcz6_0
  try clear hcz6_1
  try clear hcz6_2
  try clear hcz6_3
  try clear hcz6_4
  try clear hfz5_0
  try clear hfz5_1
  try clear hfz5_2
  try clear hfz5_3
  try clear hfz5_4
  try clear hfz6_0
  try clear hfz6_1
  try clear hfz6_2
  try clear hfz6_3
  try clear hfz6_4
  obtain ⟨kq, x13_1, rfl, HA, HJ1, BK105, HB⟩ := hcut
  cases kq with
  | zero => exact absurd HA.out (by simp [spec_isScalar.j0])
  |succ kj1 =>
   have H := HA.out
   clear HA
   simp only [spec_isScalar.j0] at H
   by_cases c7 : x13_1 = true
   ·subst c7
    have H1 : (some false) = some r := by rw [if_pos rfl] at H; exact H
    clear H
    have H := H1
    clear H1
    obtain rfl := Option.some.inj H
    go_wp2
    go_ret
    exact ⟨by first | rfl | (simp [errW_none, errW_some] <;> rfl) | (simp [*, errW_none, errW_some] <;> rfl), by repeat (first | (with_reducible first | exact HB.out | apply below_alloc | apply pw_below_drewN | apply below_drew1 | refine below_set ?_ GE105.out) | exact HB.out)⟩
   ·replace c7 := Bool.eq_false_iff.mpr c7
    subst c7
    have H1 : (if a0_2.toList = ([33, 33, 115, 116, 114] : List UInt8) then ((spec_IsWord.f kj1 a0_1).bind fun t106 => (some t106)) else (spec_isScalar.l0 kj1 0 a0_0 a0_1 a0_2 l0_3 l0_4)) = some r := by rw [if_neg (show ¬ (false = true) by decide)] at H; exact H
    clear H
    have H := H1
    clear H1
    by_cases c8 : a0_2.toList = ([33, 33, 115, 116, 114] : List UInt8)
    ·rw [if_pos c8] at H
     have c8b0 : (a0_2.toList == ([33, 33, 115, 116, 114] : List UInt8)) = true := beq_iff_eq.mpr c8
     have c8b1 : (a0_2.toList != ([33, 33, 115, 116, 114] : List UInt8)) = false := bne_eq_false_iff_eq.mpr c8
     clear c8
     replace H := Option.bind_eq_some_iff.mp H
     obtain ⟨t106, A90, H⟩ := H
     replace H : (some t106) = some r := H
     have A9 := Aside0.mk A90
     clear A90
     obtain rfl := Option.some.inj H
     have hcz10_0 : wc.cell? ⟨gb105, 0, none⟩ = some (.int .i64 a0_0) := (blk_cell BK105.out 0).trans rfl
     have hcz10_1 : wc.cell? ⟨gb105, 1, none⟩ = some (.string a0_1) := (blk_cell BK105.out 1).trans rfl
     have hcz10_2 : wc.cell? ⟨gb105, 2, none⟩ = some (.string a0_2) := (blk_cell BK105.out 2).trans rfl
     have hcz10_3 : wc.cell? ⟨gb105, 3, none⟩ = some (.slice A0_3 l0_3.length c0_3) := (blk_cell BK105.out 3).trans rfl
     have hcz10_4 : wc.cell? ⟨gb105, 4, none⟩ = some (.slice A0_4 l0_4.length c0_4) := (blk_cell BK105.out 4).trans rfl
     have hfz10_0 := blk_frozen BK105.out 0
     have hfz10_1 := blk_frozen BK105.out 1
     have hfz10_2 := blk_frozen BK105.out 2
     have hfz10_3 := blk_frozen BK105.out 3
     have hfz10_4 := blk_frozen BK105.out 4
     go_wp2_with (first | ((with_reducible refine gate_callee (f := 30) rfl ?_); refine goesL_ (some 19) rfl rfl Tryz.func30 (by kernel_rfl) rfl #[.string a0_1] rfl (by (try simp only [List.map_toArray, List.map_cons, List.map_nil]); first | done | rfl | (simp only [List.length_drop, List.length_take]; rfl)) ?_; (with_reducible refine (spec_IsWord.calls kj1 a0_1 t106 _ A9.out).mono ?_); rintro e w' ⟨rfl, ⟨nd, rfl⟩⟩; refine ⟨_, rfl, ?_⟩))
     go_ret
     exact ⟨by first | rfl | (simp [errW_none, errW_some] <;> rfl) | (simp [*, errW_none, errW_some] <;> rfl), by repeat (first | (with_reducible first | exact HB.out | apply below_alloc | apply pw_below_drewN | apply below_drew1 | refine below_set ?_ GE105.out) | exact HB.out)⟩
    ·rw [if_neg c8] at H
     have c8b0 : (a0_2.toList == ([33, 33, 115, 116, 114] : List UInt8)) = false := beq_eq_false_iff_ne.mpr c8
     have c8b1 : (a0_2.toList != ([33, 33, 115, 116, 114] : List UInt8)) = true := bne_iff_ne.mpr c8
     have H' := Aside0.mk H
     clear H
     have hcz11_0 : wc.cell? ⟨gb105, 0, none⟩ = some (.int .i64 a0_0) := (blk_cell BK105.out 0).trans rfl
     have hcz11_1 : wc.cell? ⟨gb105, 1, none⟩ = some (.string a0_1) := (blk_cell BK105.out 1).trans rfl
     have hcz11_2 : wc.cell? ⟨gb105, 2, none⟩ = some (.string a0_2) := (blk_cell BK105.out 2).trans rfl
     have hcz11_3 : wc.cell? ⟨gb105, 3, none⟩ = some (.slice A0_3 l0_3.length c0_3) := (blk_cell BK105.out 3).trans rfl
     have hcz11_4 : wc.cell? ⟨gb105, 4, none⟩ = some (.slice A0_4 l0_4.length c0_4) := (blk_cell BK105.out 4).trans rfl
     have hfz11_0 := blk_frozen BK105.out 0
     have hfz11_1 := blk_frozen BK105.out 1
     have hfz11_2 := blk_frozen BK105.out 2
     have hfz11_3 := blk_frozen BK105.out 3
     have hfz11_4 := blk_frozen BK105.out 4
     go_wp2
     go_loopg [3] kj1 (fun kq v3 w' => ∃ (x3_2 : Int), v3 = .int .i64 x3_2 ∧ Aside0 (spec_isScalar.l0 kq x3_2 a0_0 a0_1 a0_2 l0_3 l0_4 = some r) ∧ Aside0 (kq ≤ kj1) ∧ Aside0 (w'.heap[gb105]? = some (.cells #[.int .i64 a0_0, .string a0_1, .string a0_2, (.slice A0_3 l0_3.length c0_3), (.slice A0_4 l0_4.length c0_4)] 25 (0, 0))) ∧ Aside0 (Below w.heap.size w w'))
     case atStart => exact ⟨(0), (by first | rfl | (simp; done) | (simp [*]; done)), H', ⟨Nat.le_refl _⟩, ⟨by (with_reducible repeat (first | refine blk_drewN ?_ _ | refine blk_drew ?_ | refine blk_alloc ?_ _)); exact BK105.out⟩, ⟨by repeat (first | (with_reducible first | exact HB.out | apply below_alloc | apply pw_below_drewN | apply below_drew1 | refine below_set ?_ GE105.out) | exact HB.out)⟩⟩
     case round =>
      clear H'
      try clear c2
      try clear p2
      try clear c3
      try clear c4
      try clear c4b0
      try clear c4b1
      try clear c7
      try clear c8
      try clear c8b0
      try clear c8b1
      try clear hcz10_0
      try clear hcz10_1
      try clear hcz10_2
      try clear hcz10_3
      try clear hcz10_4
      try clear hcz11_0
      try clear hcz11_1
      try clear hcz11_2
      try clear hcz11_3
      try clear hcz11_4
      try clear hcz5_0
      try clear hcz5_1
      try clear hcz5_2
      try clear hcz5_3
      try clear hcz5_4
      try clear hcz6_0
      try clear hcz6_1
      try clear hcz6_2
      try clear hcz6_3
      try clear hcz6_4
      try clear hfz10_0
      try clear hfz10_1
      try clear hfz10_2
      try clear hfz10_3
      try clear hfz10_4
      try clear hfz11_0
      try clear hfz11_1
      try clear hfz11_2
      try clear hfz11_3
      try clear hfz11_4
      try clear hfz5_0
      try clear hfz5_1
      try clear hfz5_2
      try clear hfz5_3
      try clear hfz5_4
      try clear hfz6_0
      try clear hfz6_1
      try clear hfz6_2
      try clear hfz6_3
      try clear hfz6_4
      try clear p2
      obtain ⟨x3_2, rfl, HA, HK2, BK105, HB⟩ := hrel
      cases gk with
      | zero => exact absurd HA.out (by simp [spec_isScalar.l0])
      |succ k2 =>
       have H := HA.out
       clear HA
       simp only [spec_isScalar.l0] at H
       by_cases c12 : x3_2 < (a0_1.size : Int)
       ·rw [if_pos c12] at H
        have c12b0 : decide (x3_2 < (a0_1.size : Int)) = true := decide_eq_true c12
        clear c12
        by_cases c13 : 0 ≤ x3_2
        ·rw [if_pos c13] at H
         have c13b0 : decide (0 ≤ x3_2) = true := decide_eq_true c13
         clear c13
         by_cases c15 : (bt a0_1 x3_2) < 48
         ·rw [if_pos c15] at H
          have c15b0 : decide ((bt a0_1 x3_2) < 48) = true := decide_eq_true c15
          clear c15
          obtain rfl := Option.some.inj H
          have hcz16_0 : wr.cell? ⟨gb105, 0, none⟩ = some (.int .i64 a0_0) := (blk_cell BK105.out 0).trans rfl
          have hcz16_1 : wr.cell? ⟨gb105, 1, none⟩ = some (.string a0_1) := (blk_cell BK105.out 1).trans rfl
          have hcz16_2 : wr.cell? ⟨gb105, 2, none⟩ = some (.string a0_2) := (blk_cell BK105.out 2).trans rfl
          have hcz16_3 : wr.cell? ⟨gb105, 3, none⟩ = some (.slice A0_3 l0_3.length c0_3) := (blk_cell BK105.out 3).trans rfl
          have hcz16_4 : wr.cell? ⟨gb105, 4, none⟩ = some (.slice A0_4 l0_4.length c0_4) := (blk_cell BK105.out 4).trans rfl
          have hfz16_0 := blk_frozen BK105.out 0
          have hfz16_1 := blk_frozen BK105.out 1
          have hfz16_2 := blk_frozen BK105.out 2
          have hfz16_3 := blk_frozen BK105.out 3
          have hfz16_4 := blk_frozen BK105.out 4
          have p14 : 0 ≤ (x3_2 : Int) := of_decide_eq_true (by first | (with_reducible assumption) | assumption)
          have q14 : x3_2 < (a0_1.size : Int) := of_decide_eq_true (by first | (with_reducible assumption) | assumption)
          have hx14 := bt_at a0_1 x3_2
          replace p14 := eq_true p14
          replace q14 := eq_true q14
          go_wp2
          go_ret
          exact ⟨by first | rfl | (simp [errW_none, errW_some] <;> rfl) | (simp [*, errW_none, errW_some] <;> rfl), by repeat (first | (with_reducible first | exact HB.out | apply below_alloc | apply pw_below_drewN | apply below_drew1 | refine below_set ?_ GE105.out) | exact HB.out)⟩
         ·rw [if_neg c15] at H
          have c15b0 : decide ((bt a0_1 x3_2) < 48) = false := decide_eq_false c15
          clear c15
          by_cases c18 : (bt a0_1 x3_2) > 57
          ·rw [if_pos c18] at H
           have c18b0 : decide (57 < (bt a0_1 x3_2)) = true := decide_eq_true c18
           clear c18
           obtain rfl := Option.some.inj H
           have hcz19_0 : wr.cell? ⟨gb105, 0, none⟩ = some (.int .i64 a0_0) := (blk_cell BK105.out 0).trans rfl
           have hcz19_1 : wr.cell? ⟨gb105, 1, none⟩ = some (.string a0_1) := (blk_cell BK105.out 1).trans rfl
           have hcz19_2 : wr.cell? ⟨gb105, 2, none⟩ = some (.string a0_2) := (blk_cell BK105.out 2).trans rfl
           have hcz19_3 : wr.cell? ⟨gb105, 3, none⟩ = some (.slice A0_3 l0_3.length c0_3) := (blk_cell BK105.out 3).trans rfl
           have hcz19_4 : wr.cell? ⟨gb105, 4, none⟩ = some (.slice A0_4 l0_4.length c0_4) := (blk_cell BK105.out 4).trans rfl
           have hfz19_0 := blk_frozen BK105.out 0
           have hfz19_1 := blk_frozen BK105.out 1
           have hfz19_2 := blk_frozen BK105.out 2
           have hfz19_3 := blk_frozen BK105.out 3
           have hfz19_4 := blk_frozen BK105.out 4
           have p14 : 0 ≤ (x3_2 : Int) := of_decide_eq_true (by first | (with_reducible assumption) | assumption)
           have q14 : x3_2 < (a0_1.size : Int) := of_decide_eq_true (by first | (with_reducible assumption) | assumption)
           have hx14 := bt_at a0_1 x3_2
           replace p14 := eq_true p14
           replace q14 := eq_true q14
           have p17 : 0 ≤ (x3_2 : Int) := of_decide_eq_true (by first | (with_reducible assumption) | assumption)
           have q17 : x3_2 < (a0_1.size : Int) := of_decide_eq_true (by first | (with_reducible assumption) | assumption)
           have hx17 := bt_at a0_1 x3_2
           replace p17 := eq_true p17
           replace q17 := eq_true q17
           go_wp2
           go_ret
           exact ⟨by first | rfl | (simp [errW_none, errW_some] <;> rfl) | (simp [*, errW_none, errW_some] <;> rfl), by repeat (first | (with_reducible first | exact HB.out | apply below_alloc | apply pw_below_drewN | apply below_drew1 | refine below_set ?_ GE105.out) | exact HB.out)⟩
          ·rw [if_neg c18] at H
           have c18b0 : decide (57 < (bt a0_1 x3_2)) = false := decide_eq_false c18
           clear c18
           by_cases c20 : 0 < (a0_1.size : Int)
           ·rw [if_pos c20] at H
            have c20b0 : decide (0 < (a0_1.size : Int)) = true := decide_eq_true c20
            have c20b1 : decide (0 < a0_1.size) = true := decide_eq_true (by omega)
            clear c20
            by_cases c22 : (bt a0_1 0) = 48
            ·rw [if_pos c22] at H
             have c22b0 : ((bt a0_1 0) == 48) = true := beq_iff_eq.mpr c22
             have c22b1 : ((bt a0_1 0) != 48) = false := bne_eq_false_iff_eq.mpr c22
             clear c22
             obtain rfl := Option.some.inj H
             have hcz23_0 : wr.cell? ⟨gb105, 0, none⟩ = some (.int .i64 a0_0) := (blk_cell BK105.out 0).trans rfl
             have hcz23_1 : wr.cell? ⟨gb105, 1, none⟩ = some (.string a0_1) := (blk_cell BK105.out 1).trans rfl
             have hcz23_2 : wr.cell? ⟨gb105, 2, none⟩ = some (.string a0_2) := (blk_cell BK105.out 2).trans rfl
             have hcz23_3 : wr.cell? ⟨gb105, 3, none⟩ = some (.slice A0_3 l0_3.length c0_3) := (blk_cell BK105.out 3).trans rfl
             have hcz23_4 : wr.cell? ⟨gb105, 4, none⟩ = some (.slice A0_4 l0_4.length c0_4) := (blk_cell BK105.out 4).trans rfl
             have hfz23_0 := blk_frozen BK105.out 0
             have hfz23_1 := blk_frozen BK105.out 1
             have hfz23_2 := blk_frozen BK105.out 2
             have hfz23_3 := blk_frozen BK105.out 3
             have hfz23_4 := blk_frozen BK105.out 4
             have p14 : 0 ≤ (x3_2 : Int) := of_decide_eq_true (by first | (with_reducible assumption) | assumption)
             have q14 : x3_2 < (a0_1.size : Int) := of_decide_eq_true (by first | (with_reducible assumption) | assumption)
             have hx14 := bt_at a0_1 x3_2
             replace p14 := eq_true p14
             replace q14 := eq_true q14
             have p17 : 0 ≤ (x3_2 : Int) := of_decide_eq_true (by first | (with_reducible assumption) | assumption)
             have q17 : x3_2 < (a0_1.size : Int) := of_decide_eq_true (by first | (with_reducible assumption) | assumption)
             have hx17 := bt_at a0_1 x3_2
             replace p17 := eq_true p17
             replace q17 := eq_true q17
             have p21 : 0 ≤ (0 : Int) := (by omega)
             have q21 : 0 < a0_1.size := (by have : (0 : Int) < (a0_1.size : Int) := of_decide_eq_true (by first | (with_reducible assumption) | assumption); omega)
             have hx21 : ∀ h : 0 < a0_1.size, ((a0_1[0]'h).toNat : Int) = bt a0_1 0 := bt_at a0_1 0
             clear p21
             have qi21 : (0 < (a0_1.size : Int)) = True := eq_true (of_decide_eq_true (by first | (with_reducible assumption) | assumption))
             replace q21 := eq_true q21
             go_wp2
             go_ret
             exact ⟨by first | rfl | (simp [errW_none, errW_some] <;> rfl) | (simp [*, errW_none, errW_some] <;> rfl), by repeat (first | (with_reducible first | exact HB.out | apply below_alloc | apply pw_below_drewN | apply below_drew1 | refine below_set ?_ GE105.out) | exact HB.out)⟩
            ·rw [if_neg c22] at H
             have c22b0 : ((bt a0_1 0) == 48) = false := beq_eq_false_iff_ne.mpr c22
             have c22b1 : ((bt a0_1 0) != 48) = true := bne_iff_ne.mpr c22
             have H' := Aside0.mk H
             clear H
             have hcz24_0 : wr.cell? ⟨gb105, 0, none⟩ = some (.int .i64 a0_0) := (blk_cell BK105.out 0).trans rfl
             have hcz24_1 : wr.cell? ⟨gb105, 1, none⟩ = some (.string a0_1) := (blk_cell BK105.out 1).trans rfl
             have hcz24_2 : wr.cell? ⟨gb105, 2, none⟩ = some (.string a0_2) := (blk_cell BK105.out 2).trans rfl
             have hcz24_3 : wr.cell? ⟨gb105, 3, none⟩ = some (.slice A0_3 l0_3.length c0_3) := (blk_cell BK105.out 3).trans rfl
             have hcz24_4 : wr.cell? ⟨gb105, 4, none⟩ = some (.slice A0_4 l0_4.length c0_4) := (blk_cell BK105.out 4).trans rfl
             have hfz24_0 := blk_frozen BK105.out 0
             have hfz24_1 := blk_frozen BK105.out 1
             have hfz24_2 := blk_frozen BK105.out 2
             have hfz24_3 := blk_frozen BK105.out 3
             have hfz24_4 := blk_frozen BK105.out 4
             have p14 : 0 ≤ (x3_2 : Int) := of_decide_eq_true (by first | (with_reducible assumption) | assumption)
             have q14 : x3_2 < (a0_1.size : Int) := of_decide_eq_true (by first | (with_reducible assumption) | assumption)
             have hx14 := bt_at a0_1 x3_2
             replace p14 := eq_true p14
             replace q14 := eq_true q14
             have p17 : 0 ≤ (x3_2 : Int) := of_decide_eq_true (by first | (with_reducible assumption) | assumption)
             have q17 : x3_2 < (a0_1.size : Int) := of_decide_eq_true (by first | (with_reducible assumption) | assumption)
             have hx17 := bt_at a0_1 x3_2
             replace p17 := eq_true p17
             replace q17 := eq_true q17
             have p21 : 0 ≤ (0 : Int) := (by omega)
             have q21 : 0 < a0_1.size := (by have : (0 : Int) < (a0_1.size : Int) := of_decide_eq_true (by first | (with_reducible assumption) | assumption); omega)
             have hx21 : ∀ h : 0 < a0_1.size, ((a0_1[0]'h).toNat : Int) = bt a0_1 0 := bt_at a0_1 0
             clear p21
             have qi21 : (0 < (a0_1.size : Int)) = True := eq_true (of_decide_eq_true (by first | (with_reducible assumption) | assumption))
             replace q21 := eq_true q21
             go_wp2
             go_roundg k2
             case measure => have := HJ1.out; have := HK2.out; omega
             case rel => exact ⟨(wrap64 (x3_2 + 1)), (by first | rfl | (simp; done) | (simp [*]; done)), H', ⟨by have := HJ1.out; have := HK2.out; omega⟩, ⟨by (with_reducible repeat (first | refine blk_drewN ?_ _ | refine blk_drew ?_ | refine blk_alloc ?_ _)); exact BK105.out⟩, ⟨by repeat (first | (with_reducible first | exact HB.out | apply below_alloc | apply pw_below_drewN | apply below_drew1 | refine below_set ?_ GE105.out) | exact HB.out)⟩⟩
           ·rw [if_neg c20] at H
            exact absurd H (by simp)
        ·rw [if_neg c13] at H
         exact absurd H (by simp)
       ·rw [if_neg c12] at H
        have c12b0 : decide (x3_2 < (a0_1.size : Int)) = false := decide_eq_false c12
        clear c12
        by_cases c25 : a0_2.toList = ([33, 33, 105, 110, 116] : List UInt8)
        ·rw [if_pos c25] at H
         have c25b0 : (a0_2.toList == ([33, 33, 105, 110, 116] : List UInt8)) = true := beq_iff_eq.mpr c25
         have c25b1 : (a0_2.toList != ([33, 33, 105, 110, 116] : List UInt8)) = false := bne_eq_false_iff_eq.mpr c25
         clear c25
         by_cases c26 : (a0_1.size : Int) ≥ 1
         ·rw [if_pos c26] at H
          have c26b0 : decide (1 ≤ (a0_1.size : Int)) = true := decide_eq_true c26
          have c26b1 : decide (1 ≤ a0_1.size) = true := decide_eq_true (by omega)
          clear c26
          obtain rfl := Option.some.inj H
          have hcz27_0 : wr.cell? ⟨gb105, 0, none⟩ = some (.int .i64 a0_0) := (blk_cell BK105.out 0).trans rfl
          have hcz27_1 : wr.cell? ⟨gb105, 1, none⟩ = some (.string a0_1) := (blk_cell BK105.out 1).trans rfl
          have hcz27_2 : wr.cell? ⟨gb105, 2, none⟩ = some (.string a0_2) := (blk_cell BK105.out 2).trans rfl
          have hcz27_3 : wr.cell? ⟨gb105, 3, none⟩ = some (.slice A0_3 l0_3.length c0_3) := (blk_cell BK105.out 3).trans rfl
          have hcz27_4 : wr.cell? ⟨gb105, 4, none⟩ = some (.slice A0_4 l0_4.length c0_4) := (blk_cell BK105.out 4).trans rfl
          have hfz27_0 := blk_frozen BK105.out 0
          have hfz27_1 := blk_frozen BK105.out 1
          have hfz27_2 := blk_frozen BK105.out 2
          have hfz27_3 := blk_frozen BK105.out 3
          have hfz27_4 := blk_frozen BK105.out 4
          go_wp2
          go_ret
          exact ⟨by first | rfl | (simp [errW_none, errW_some] <;> rfl) | (simp [*, errW_none, errW_some] <;> rfl), by repeat (first | (with_reducible first | exact HB.out | apply below_alloc | apply pw_below_drewN | apply below_drew1 | refine below_set ?_ GE105.out) | exact HB.out)⟩
         ·rw [if_neg c26] at H
          have c26b0 : decide (1 ≤ (a0_1.size : Int)) = false := decide_eq_false c26
          have c26b1 : decide (1 ≤ a0_1.size) = false := decide_eq_false (by omega)
          clear c26
          obtain rfl := Option.some.inj H
          have hcz28_0 : wr.cell? ⟨gb105, 0, none⟩ = some (.int .i64 a0_0) := (blk_cell BK105.out 0).trans rfl
          have hcz28_1 : wr.cell? ⟨gb105, 1, none⟩ = some (.string a0_1) := (blk_cell BK105.out 1).trans rfl
          have hcz28_2 : wr.cell? ⟨gb105, 2, none⟩ = some (.string a0_2) := (blk_cell BK105.out 2).trans rfl
          have hcz28_3 : wr.cell? ⟨gb105, 3, none⟩ = some (.slice A0_3 l0_3.length c0_3) := (blk_cell BK105.out 3).trans rfl
          have hcz28_4 : wr.cell? ⟨gb105, 4, none⟩ = some (.slice A0_4 l0_4.length c0_4) := (blk_cell BK105.out 4).trans rfl
          have hfz28_0 := blk_frozen BK105.out 0
          have hfz28_1 := blk_frozen BK105.out 1
          have hfz28_2 := blk_frozen BK105.out 2
          have hfz28_3 := blk_frozen BK105.out 3
          have hfz28_4 := blk_frozen BK105.out 4
          go_wp2
          go_ret
          exact ⟨by first | rfl | (simp [errW_none, errW_some] <;> rfl) | (simp [*, errW_none, errW_some] <;> rfl), by repeat (first | (with_reducible first | exact HB.out | apply below_alloc | apply pw_below_drewN | apply below_drew1 | refine below_set ?_ GE105.out) | exact HB.out)⟩
        ·rw [if_neg c25] at H
         have c25b0 : (a0_2.toList == ([33, 33, 105, 110, 116] : List UInt8)) = false := beq_eq_false_iff_ne.mpr c25
         have c25b1 : (a0_2.toList != ([33, 33, 105, 110, 116] : List UInt8)) = true := bne_iff_ne.mpr c25
         obtain rfl := Option.some.inj H
         have hcz29_0 : wr.cell? ⟨gb105, 0, none⟩ = some (.int .i64 a0_0) := (blk_cell BK105.out 0).trans rfl
         have hcz29_1 : wr.cell? ⟨gb105, 1, none⟩ = some (.string a0_1) := (blk_cell BK105.out 1).trans rfl
         have hcz29_2 : wr.cell? ⟨gb105, 2, none⟩ = some (.string a0_2) := (blk_cell BK105.out 2).trans rfl
         have hcz29_3 : wr.cell? ⟨gb105, 3, none⟩ = some (.slice A0_3 l0_3.length c0_3) := (blk_cell BK105.out 3).trans rfl
         have hcz29_4 : wr.cell? ⟨gb105, 4, none⟩ = some (.slice A0_4 l0_4.length c0_4) := (blk_cell BK105.out 4).trans rfl
         have hfz29_0 := blk_frozen BK105.out 0
         have hfz29_1 := blk_frozen BK105.out 1
         have hfz29_2 := blk_frozen BK105.out 2
         have hfz29_3 := blk_frozen BK105.out 3
         have hfz29_4 := blk_frozen BK105.out 4
         go_wp2
         go_ret
         exact ⟨by first | rfl | (simp [errW_none, errW_some] <;> rfl) | (simp [*, errW_none, errW_some] <;> rfl), by repeat (first | (with_reducible first | exact HB.out | apply below_alloc | apply pw_below_drewN | apply below_drew1 | refine below_set ?_ GE105.out) | exact HB.out)⟩
end Go.Proofs.YtkpdkoafngjflaaGreat.PFnFields
