import Derived.Test.YtkpdkoafngjflaaGreatPFnFieldsx0
namespace Go.Proofs.YtkpdkoafngjflaaGreat.PFnFields
open Go.RowKit Go.Proofs.YtkpdkoafngjflaaGreatW.PrintWords Go.Proofs.YtkpdkoafngjflaaGreatW.PrintLast Go.Proofs.YtkpdkoafngjflaaGreatW.PrintMore
set_option linter.unusedVariables false
set_option linter.unusedSimpArgs false
def laws_zzFits2.l0 : Nat → List ByteArray → Int → Int → Option (Bool)
 | 0, _, _, _ => none
 | k + 1, x8, x9, x10 => if x10 < x9 then (if 0 ≤ x10 then (if x10 < (x8.length : Int) then (if ((rdOf ByteArray.empty x8 x10).size : Int) > 2147483647 then (some false) else (laws_zzFits2.l0 k x8 x9 (wrap64 (x10 + 1)))) else (none)) else (none)) else (some true)
def laws_zzFits2.f (k : Nat) (l0 : List ByteArray) : Option (Bool) := if (l0.length : Int) > 2147483647 then (some false) else (laws_zzFits2.l0 k l0 (l0.length : Int) 0)
theorem laws_zzFits2.mono_l : ∀ k, (∀ y0 y1 y2, LeO (laws_zzFits2.l0 k y0 y1 y2) (laws_zzFits2.l0 (k + 1) y0 y1 y2))
 | 0 => fun _ _ _ r h => by simp [laws_zzFits2.l0] at h
 |k + 1 => by
  have ih0 := laws_zzFits2.mono_l k
  ·intro y0 y1 y2
   unfold laws_zzFits2.l0
   repeat' first
   | (with_reducible exact ih0 _ _ _)
   | (with_reducible exact LeO.refl _)
   | (with_reducible exact LeO.none _)
   | (with_reducible refine LeO.ite ?_ ?_)
   | (with_reducible refine LeO.bind ?_ (fun _ => ?_))
   | exact ih0 _ _ _
   | exact LeO.none _
   | refine LeO.ite ?_ ?_
   | refine LeO.bind ?_ (fun _ => ?_)
theorem laws_zzFits2.mono : ∀ a0 k, LeO (laws_zzFits2.f k a0) (laws_zzFits2.f (k + 1) a0) := by
 intro a0 k
 have ih0 := laws_zzFits2.mono_l k
 unfold laws_zzFits2.f
 repeat' first
   | (with_reducible exact ih0 _ _ _)
   | (with_reducible exact LeO.refl _)
   | (with_reducible exact LeO.none _)
   | (with_reducible refine LeO.ite ?_ ?_)
   | (with_reducible refine LeO.bind ?_ (fun _ => ?_))
   | exact ih0 _ _ _
   | exact LeO.none _
   | refine LeO.ite ?_ ?_
   | refine LeO.bind ?_ (fun _ => ?_)
set_option maxHeartbeats 8000000 in
set_option maxRecDepth 100000 in
theorem laws_zzFits2.calls (k : Nat) (A0 : Option Addr) (c0 : Nat) (l0 : List ByteArray) (r : Bool) (w : World) (hr0 : Kd.C Kd.string w A0 l0.length l0) (hc0 : l0.length ≤ c0) (h : laws_zzFits2.f k l0 = some r) :
  Calls Tryz.prog 14 #[.slice A0 l0.length c0] w fun e w' => e = .returned (.bool r) ∧ Drawn0 w w' := by
 have HR0 := Aside0.mk hr0
 have HC0 := Aside0.mk hc0
 clear hr0 hc0
 have H : (if (l0.length : Int) > 2147483647 then (some false) else (laws_zzFits2.l0 k l0 (l0.length : Int) 0)) = some r := h
 clear h
 by_cases c2 : (l0.length : Int) > 2147483647
 ·rw [if_pos c2] at H
  have c2b0 : decide (2147483647 < (l0.length : Int)) = true := decide_eq_true c2
  have c2b1 : decide (2147483647 < l0.length) = true := decide_eq_true (by omega)
  clear c2
  obtain rfl := Option.some.inj H
  go_enter Tryz.func14, Tryz.ntmps14
  go_wp2
  go_ret
  exact ⟨by first | rfl | (simp; done) | (simp [*]; done), by repeat (first | exact Drawn0.refl _ | apply Drawn0.step)⟩
 ·rw [if_neg c2] at H
  have c2b0 : decide (2147483647 < (l0.length : Int)) = false := decide_eq_false c2
  have c2b1 : decide (2147483647 < l0.length) = false := decide_eq_false (by omega)
  clear c2
  have H' := Aside0.mk H
  clear H
  go_enter Tryz.func14, Tryz.ntmps14
  go_wp2
  go_loopg [10] k (fun kq v10 w' => ∃ (x10_1 : Int), v10 = .int .i64 x10_1 ∧ Aside0 (laws_zzFits2.l0 kq l0 (l0.length : Int) x10_1 = some r) ∧ Aside0 (kq ≤ k) ∧ Drawn0 w w')
  case atStart => exact ⟨(0), (by first | rfl | (simp; done) | (simp [*]; done)), H', ⟨Nat.le_refl _⟩, by repeat (first | exact Drawn0.refl _ | apply Drawn0.step)⟩
  case round =>
   clear H'
   try clear c1
   try clear c2
   try clear c2b0
   try clear c2b1
   try clear p2
   obtain ⟨x10_1, rfl, HA, HK1, ⟨m1, rfl⟩⟩ := hrel
   cases gk with
   | zero => exact absurd HA.out (by simp [laws_zzFits2.l0])
   |succ k1 =>
    have H := HA.out
    clear HA
    simp only [laws_zzFits2.l0] at H
    by_cases c3 : x10_1 < (l0.length : Int)
    ·rw [if_pos c3] at H
     have c3b0 : decide (x10_1 < (l0.length : Int)) = true := decide_eq_true c3
     clear c3
     by_cases c4 : 0 ≤ x10_1
     ·rw [if_pos c4] at H
      have c4b0 : decide (0 ≤ x10_1) = true := decide_eq_true c4
      clear c4
      by_cases c5 : x10_1 < (l0.length : Int)
      ·rw [if_pos c5] at H
       have c5b0 : decide (x10_1 < (l0.length : Int)) = true := decide_eq_true c5
       clear c5
       by_cases c6 : ((rdOf ByteArray.empty l0 x10_1).size : Int) > 2147483647
       ·rw [if_pos c6] at H
        have c6b0 : decide (2147483647 < ((rdOf ByteArray.empty l0 x10_1).size : Int)) = true := decide_eq_true c6
        have c6b1 : decide (2147483647 < (rdOf ByteArray.empty l0 x10_1).size) = true := decide_eq_true (by omega)
        clear c6
        obtain rfl := Option.some.inj H
        have p101 : 0 ≤ (x10_1 : Int) := of_decide_eq_true (by first | (with_reducible assumption) | assumption)
        have q101 : x10_1 < (l0.length : Int) := of_decide_eq_true (by first | (with_reducible assumption) | assumption)
        obtain ⟨ad101, e101, hx101_0⟩ := Kd.at_string HR0.out x10_1 p101 q101
        cases e101
        replace p101 := eq_true p101
        replace q101 := eq_true q101
        go_wp2
        go_ret
        exact ⟨by first | rfl | (simp; done) | (simp [*]; done), by repeat (first | exact Drawn0.refl _ | apply Drawn0.step)⟩
       ·rw [if_neg c6] at H
        have c6b0 : decide (2147483647 < ((rdOf ByteArray.empty l0 x10_1).size : Int)) = false := decide_eq_false c6
        have c6b1 : decide (2147483647 < (rdOf ByteArray.empty l0 x10_1).size) = false := decide_eq_false (by omega)
        clear c6
        have H' := Aside0.mk H
        clear H
        have p101 : 0 ≤ (x10_1 : Int) := of_decide_eq_true (by first | (with_reducible assumption) | assumption)
        have q101 : x10_1 < (l0.length : Int) := of_decide_eq_true (by first | (with_reducible assumption) | assumption)
        obtain ⟨ad101, e101, hx101_0⟩ := Kd.at_string HR0.out x10_1 p101 q101
        cases e101
        replace p101 := eq_true p101
        replace q101 := eq_true q101
        go_wp2
        go_roundg k1
        case measure => have := HK1.out; omega
        case rel => exact ⟨(wrap64 (x10_1 + 1)), (by first | rfl | (simp; done) | (simp [*]; done)), H', ⟨by have := HK1.out; omega⟩, by repeat (first | exact Drawn0.refl _ | apply Drawn0.step)⟩
      ·rw [if_neg c5] at H
       exact absurd H (by simp)
     ·rw [if_neg c4] at H
      exact absurd H (by simp)
    ·rw [if_neg c3] at H
     have c3b0 : decide (x10_1 < (l0.length : Int)) = false := decide_eq_false c3
     clear c3
     obtain rfl := Option.some.inj H
     go_wp2
     go_ret
     exact ⟨by first | rfl | (simp; done) | (simp [*]; done), by repeat (first | exact Drawn0.refl _ | apply Drawn0.step)⟩
def laws_zzFits1.f (k : Nat) (a0_0 : Int) (a0_1 : ByteArray) (a0_2 : ByteArray) (l0_3 : List ByteArray) (l0_4 : List (S25)) : Option (Bool) := if (a0_1.size : Int) > 2147483647 then (some false) else (if (a0_2.size : Int) > 2147483647 then (some false) else ((laws_zzFits2.f k l0_3).bind fun t103 => (if t103 = true then (if (l0_4.length : Int) > 2147483647 then (some false) else (some true)) else (some false))))
theorem laws_zzFits1.mono : ∀ a0 a1 a2 a3 a4 k, LeO (laws_zzFits1.f k a0 a1 a2 a3 a4) (laws_zzFits1.f (k + 1) a0 a1 a2 a3 a4) := by
 intro a0 a1 a2 a3 a4 k
 unfold laws_zzFits1.f
 repeat' first
   | (with_reducible exact laws_zzFits2.mono _ _)
   | (with_reducible exact LeO.refl _)
   | (with_reducible exact LeO.none _)
   | (with_reducible refine LeO.ite ?_ ?_)
   | (with_reducible refine LeO.bind ?_ (fun _ => ?_))
   | exact laws_zzFits2.mono _ _
   | exact LeO.none _
   | refine LeO.ite ?_ ?_
   | refine LeO.bind ?_ (fun _ => ?_)
set_option maxHeartbeats 8000000 in
set_option maxRecDepth 100000 in
theorem laws_zzFits1.calls (k : Nat) (a0_0 : Int) (a0_1 : ByteArray) (a0_2 : ByteArray) (A0_3 : Option Addr) (c0_3 : Nat) (l0_3 : List ByteArray) (A0_4 : Option Addr) (c0_4 : Nat) (l0_4 : List (S25)) (r : Bool) (w : World) (hr0_3 : Kd.C Kd.string w A0_3 l0_3.length l0_3) (hc0_3 : l0_3.length ≤ c0_3) (hr0_4 : Kd.C k25 w A0_4 l0_4.length l0_4) (hc0_4 : l0_4.length ≤ c0_4) (h : laws_zzFits1.f k a0_0 a0_1 a0_2 l0_3 l0_4 = some r) :
  Calls Tryz.prog 4 #[.agg #[.int .i64 a0_0, .string a0_1, .string a0_2, .slice A0_3 l0_3.length c0_3, .slice A0_4 l0_4.length c0_4]] w fun e w' => e = .returned (.bool r) ∧ Below w.heap.size w w' := by
 have hu25 := Tryz.underlying25
 have HR0_3 := Aside0.mk hr0_3
 have HC0_3 := Aside0.mk hc0_3
 clear hr0_3 hc0_3
 have HR0_4 := Aside0.mk hr0_4
 have HC0_4 := Aside0.mk hc0_4
 clear hr0_4 hc0_4
 have HB := Aside0.mk (Below.refl w.heap.size w)
 have H : (if (a0_1.size : Int) > 2147483647 then (some false) else (if (a0_2.size : Int) > 2147483647 then (some false) else ((laws_zzFits2.f k l0_3).bind fun t103 => (if t103 = true then (if (l0_4.length : Int) > 2147483647 then (some false) else (some true)) else (some false))))) = some r := h
 clear h
 by_cases c2 : (a0_1.size : Int) > 2147483647
 ·rw [if_pos c2] at H
  have c2b0 : decide (2147483647 < (a0_1.size : Int)) = true := decide_eq_true c2
  have c2b1 : decide (2147483647 < a0_1.size) = true := decide_eq_true (by omega)
  clear c2
  obtain rfl := Option.some.inj H
  go_enter Tryz.func4, Tryz.ntmps4
  go_wp2_with (first | ((with_reducible refine gate_dst (N := 1) rfl ?_); refine box_event ?hg (N := 1) ?hd (cs := #[.int .i64 a0_0, .string a0_1, .string a0_2, .slice A0_3 l0_3.length c0_3, .slice A0_4 l0_4.length c0_4]) (t := 25) ?hr ?_; (case hd => rfl); (case hg => rfl); (case hr => first | (go_simp; done) | (go_simp; rfl)); intro gb102 hg w3 hbox hb; have n0_ := Aside0.mk (below_step (by repeat (first | (with_reducible first | exact HB.out | apply below_alloc | apply pw_below_drewN | apply below_drew1) | exact HB.out)) hb); have n1_ := Aside0.mk (hbox); have n2_ := Aside0.mk ((by rw [hg]; exact (below_size (by repeat (first | (with_reducible first | exact HB.out | apply below_alloc | apply pw_below_drewN | apply below_drew1) | exact HB.out))) : w.heap.size ≤ gb102)); have n3_ := Aside0.mk ((by rw [hg]; exact (below_size (by repeat (first | (with_reducible first | exact HB.out | apply below_alloc | apply pw_below_drewN | apply below_drew1) | exact HB.out))) : w.heap.size ≤ gb102)); clear HB; have HB := n0_; have BK102 := n1_; have GW102 := n2_; have GE102 := n3_; clear n0_ n1_ n2_ n3_; clear hb hbox hg; have hcz4_0 : w3.cell? ⟨gb102, 0, none⟩ = some (.int .i64 a0_0) := (blk_cell BK102.out 0).trans rfl; have hcz4_1 : w3.cell? ⟨gb102, 1, none⟩ = some (.string a0_1) := (blk_cell BK102.out 1).trans rfl; have hcz4_2 : w3.cell? ⟨gb102, 2, none⟩ = some (.string a0_2) := (blk_cell BK102.out 2).trans rfl; have hcz4_3 : w3.cell? ⟨gb102, 3, none⟩ = some (.slice A0_3 l0_3.length c0_3) := (blk_cell BK102.out 3).trans rfl; have hcz4_4 : w3.cell? ⟨gb102, 4, none⟩ = some (.slice A0_4 l0_4.length c0_4) := (blk_cell BK102.out 4).trans rfl; have hfz4_0 := blk_frozen BK102.out 0; have hfz4_1 := blk_frozen BK102.out 1; have hfz4_2 := blk_frozen BK102.out 2; have hfz4_3 := blk_frozen BK102.out 3; have hfz4_4 := blk_frozen BK102.out 4))
  go_ret
  exact ⟨by first | rfl | (simp [errW_none, errW_some] <;> rfl) | (simp [*, errW_none, errW_some] <;> rfl), by repeat (first | (with_reducible first | exact HB.out | apply below_alloc | apply pw_below_drewN | apply below_drew1 | refine below_set ?_ GE102.out) | exact HB.out)⟩
 ·rw [if_neg c2] at H
  have c2b0 : decide (2147483647 < (a0_1.size : Int)) = false := decide_eq_false c2
  have c2b1 : decide (2147483647 < a0_1.size) = false := decide_eq_false (by omega)
  clear c2
  by_cases c5 : (a0_2.size : Int) > 2147483647
  ·rw [if_pos c5] at H
   have c5b0 : decide (2147483647 < (a0_2.size : Int)) = true := decide_eq_true c5
   have c5b1 : decide (2147483647 < a0_2.size) = true := decide_eq_true (by omega)
   clear c5
   obtain rfl := Option.some.inj H
   go_enter Tryz.func4, Tryz.ntmps4
   go_wp2_with (first | ((with_reducible refine gate_dst (N := 1) rfl ?_); refine box_event ?hg (N := 1) ?hd (cs := #[.int .i64 a0_0, .string a0_1, .string a0_2, .slice A0_3 l0_3.length c0_3, .slice A0_4 l0_4.length c0_4]) (t := 25) ?hr ?_; (case hd => rfl); (case hg => rfl); (case hr => first | (go_simp; done) | (go_simp; rfl)); intro gb102 hg w6 hbox hb; have n0_ := Aside0.mk (below_step (by repeat (first | (with_reducible first | exact HB.out | apply below_alloc | apply pw_below_drewN | apply below_drew1) | exact HB.out)) hb); have n1_ := Aside0.mk (hbox); have n2_ := Aside0.mk ((by rw [hg]; exact (below_size (by repeat (first | (with_reducible first | exact HB.out | apply below_alloc | apply pw_below_drewN | apply below_drew1) | exact HB.out))) : w.heap.size ≤ gb102)); have n3_ := Aside0.mk ((by rw [hg]; exact (below_size (by repeat (first | (with_reducible first | exact HB.out | apply below_alloc | apply pw_below_drewN | apply below_drew1) | exact HB.out))) : w.heap.size ≤ gb102)); clear HB; have HB := n0_; have BK102 := n1_; have GW102 := n2_; have GE102 := n3_; clear n0_ n1_ n2_ n3_; clear hb hbox hg; have hcz7_0 : w6.cell? ⟨gb102, 0, none⟩ = some (.int .i64 a0_0) := (blk_cell BK102.out 0).trans rfl; have hcz7_1 : w6.cell? ⟨gb102, 1, none⟩ = some (.string a0_1) := (blk_cell BK102.out 1).trans rfl; have hcz7_2 : w6.cell? ⟨gb102, 2, none⟩ = some (.string a0_2) := (blk_cell BK102.out 2).trans rfl; have hcz7_3 : w6.cell? ⟨gb102, 3, none⟩ = some (.slice A0_3 l0_3.length c0_3) := (blk_cell BK102.out 3).trans rfl; have hcz7_4 : w6.cell? ⟨gb102, 4, none⟩ = some (.slice A0_4 l0_4.length c0_4) := (blk_cell BK102.out 4).trans rfl; have hfz7_0 := blk_frozen BK102.out 0; have hfz7_1 := blk_frozen BK102.out 1; have hfz7_2 := blk_frozen BK102.out 2; have hfz7_3 := blk_frozen BK102.out 3; have hfz7_4 := blk_frozen BK102.out 4))
   go_ret
   exact ⟨by first | rfl | (simp [errW_none, errW_some] <;> rfl) | (simp [*, errW_none, errW_some] <;> rfl), by repeat (first | (with_reducible first | exact HB.out | apply below_alloc | apply pw_below_drewN | apply below_drew1 | refine below_set ?_ GE102.out) | exact HB.out)⟩
  ·rw [if_neg c5] at H
   have c5b0 : decide (2147483647 < (a0_2.size : Int)) = false := decide_eq_false c5
   have c5b1 : decide (2147483647 < a0_2.size) = false := decide_eq_false (by omega)
   clear c5
   replace H := Option.bind_eq_some_iff.mp H
   obtain ⟨t103, A80, H⟩ := H
   replace H : (if t103 = true then (if (l0_4.length : Int) > 2147483647 then (some false) else (some true)) else (some false)) = some r := H
   have A8 := Aside0.mk A80
   clear A80
   by_cases c9 : t103 = true
   ·subst c9
    have H1 : (if (l0_4.length : Int) > 2147483647 then (some false) else (some true)) = some r := by rw [if_pos rfl] at H; exact H
    clear H
    have H := H1
    clear H1
    by_cases c10 : (l0_4.length : Int) > 2147483647
    ·rw [if_pos c10] at H
     have c10b0 : decide (2147483647 < (l0_4.length : Int)) = true := decide_eq_true c10
     have c10b1 : decide (2147483647 < l0_4.length) = true := decide_eq_true (by omega)
     clear c10
     obtain rfl := Option.some.inj H
     go_enter Tryz.func4, Tryz.ntmps4
     go_wp2_with (first | ((with_reducible refine gate_dst (N := 1) rfl ?_); refine box_event ?hg (N := 1) ?hd (cs := #[.int .i64 a0_0, .string a0_1, .string a0_2, .slice A0_3 l0_3.length c0_3, .slice A0_4 l0_4.length c0_4]) (t := 25) ?hr ?_; (case hd => rfl); (case hg => rfl); (case hr => first | (go_simp; done) | (go_simp; rfl)); intro gb102 hg w11 hbox hb; have n0_ := Aside0.mk (below_step (by repeat (first | (with_reducible first | exact HB.out | apply below_alloc | apply pw_below_drewN | apply below_drew1) | exact HB.out)) hb); have n1_ := Aside0.mk (hbox); have n2_ := Aside0.mk ((by rw [hg]; exact (below_size (by repeat (first | (with_reducible first | exact HB.out | apply below_alloc | apply pw_below_drewN | apply below_drew1) | exact HB.out))) : w.heap.size ≤ gb102)); have n3_ := Aside0.mk ((by rw [hg]; exact (below_size (by repeat (first | (with_reducible first | exact HB.out | apply below_alloc | apply pw_below_drewN | apply below_drew1) | exact HB.out))) : w.heap.size ≤ gb102)); clear HB; have HB := n0_; have BK102 := n1_; have GW102 := n2_; have GE102 := n3_; clear n0_ n1_ n2_ n3_; clear hb hbox hg; have hcz12_0 : w11.cell? ⟨gb102, 0, none⟩ = some (.int .i64 a0_0) := (blk_cell BK102.out 0).trans rfl; have hcz12_1 : w11.cell? ⟨gb102, 1, none⟩ = some (.string a0_1) := (blk_cell BK102.out 1).trans rfl; have hcz12_2 : w11.cell? ⟨gb102, 2, none⟩ = some (.string a0_2) := (blk_cell BK102.out 2).trans rfl; have hcz12_3 : w11.cell? ⟨gb102, 3, none⟩ = some (.slice A0_3 l0_3.length c0_3) := (blk_cell BK102.out 3).trans rfl; have hcz12_4 : w11.cell? ⟨gb102, 4, none⟩ = some (.slice A0_4 l0_4.length c0_4) := (blk_cell BK102.out 4).trans rfl; have hfz12_0 := blk_frozen BK102.out 0; have hfz12_1 := blk_frozen BK102.out 1; have hfz12_2 := blk_frozen BK102.out 2; have hfz12_3 := blk_frozen BK102.out 3; have hfz12_4 := blk_frozen BK102.out 4) | ((with_reducible refine gate_callee (f := 14) rfl ?_); refine goesL_ (some 13) rfl rfl Tryz.func14 (by kernel_rfl) rfl #[.slice A0_3 l0_3.length c0_3] rfl (by (try simp only [List.map_toArray, List.map_cons, List.map_nil]); first | done | rfl | (simp only [List.length_drop, List.length_take]; rfl)) ?_; (with_reducible refine (laws_zzFits2.calls k _ _ l0_3 true _ ?side1 ?side2 A8.out).mono ?_); (case side1 => repeat (first | exact (Kd.C_below HR0_3.out HB.out) | (with_reducible refine Kd.C_alloc ?_ _) | (with_reducible refine Kd.C_drewN ?_ _) | (with_reducible refine Kd.C_drew ?_))); (case side2 => exact HC0_3.out); rintro e w' ⟨rfl, ⟨nd, rfl⟩⟩; refine ⟨_, rfl, ?_⟩))
     go_ret
     exact ⟨by first | rfl | (simp [errW_none, errW_some] <;> rfl) | (simp [*, errW_none, errW_some] <;> rfl), by repeat (first | (with_reducible first | exact HB.out | apply below_alloc | apply pw_below_drewN | apply below_drew1 | refine below_set ?_ GE102.out) | exact HB.out)⟩
    ·rw [if_neg c10] at H
     have c10b0 : decide (2147483647 < (l0_4.length : Int)) = false := decide_eq_false c10
     have c10b1 : decide (2147483647 < l0_4.length) = false := decide_eq_false (by omega)
     clear c10
     obtain rfl := Option.some.inj H
     go_enter Tryz.func4, Tryz.ntmps4
     go_wp2_with (first | ((with_reducible refine gate_dst (N := 1) rfl ?_); refine box_event ?hg (N := 1) ?hd (cs := #[.int .i64 a0_0, .string a0_1, .string a0_2, .slice A0_3 l0_3.length c0_3, .slice A0_4 l0_4.length c0_4]) (t := 25) ?hr ?_; (case hd => rfl); (case hg => rfl); (case hr => first | (go_simp; done) | (go_simp; rfl)); intro gb102 hg w13 hbox hb; have n0_ := Aside0.mk (below_step (by repeat (first | (with_reducible first | exact HB.out | apply below_alloc | apply pw_below_drewN | apply below_drew1) | exact HB.out)) hb); have n1_ := Aside0.mk (hbox); have n2_ := Aside0.mk ((by rw [hg]; exact (below_size (by repeat (first | (with_reducible first | exact HB.out | apply below_alloc | apply pw_below_drewN | apply below_drew1) | exact HB.out))) : w.heap.size ≤ gb102)); have n3_ := Aside0.mk ((by rw [hg]; exact (below_size (by repeat (first | (with_reducible first | exact HB.out | apply below_alloc | apply pw_below_drewN | apply below_drew1) | exact HB.out))) : w.heap.size ≤ gb102)); clear HB; have HB := n0_; have BK102 := n1_; have GW102 := n2_; have GE102 := n3_; clear n0_ n1_ n2_ n3_; clear hb hbox hg; have hcz14_0 : w13.cell? ⟨gb102, 0, none⟩ = some (.int .i64 a0_0) := (blk_cell BK102.out 0).trans rfl; have hcz14_1 : w13.cell? ⟨gb102, 1, none⟩ = some (.string a0_1) := (blk_cell BK102.out 1).trans rfl; have hcz14_2 : w13.cell? ⟨gb102, 2, none⟩ = some (.string a0_2) := (blk_cell BK102.out 2).trans rfl; have hcz14_3 : w13.cell? ⟨gb102, 3, none⟩ = some (.slice A0_3 l0_3.length c0_3) := (blk_cell BK102.out 3).trans rfl; have hcz14_4 : w13.cell? ⟨gb102, 4, none⟩ = some (.slice A0_4 l0_4.length c0_4) := (blk_cell BK102.out 4).trans rfl; have hfz14_0 := blk_frozen BK102.out 0; have hfz14_1 := blk_frozen BK102.out 1; have hfz14_2 := blk_frozen BK102.out 2; have hfz14_3 := blk_frozen BK102.out 3; have hfz14_4 := blk_frozen BK102.out 4) | ((with_reducible refine gate_callee (f := 14) rfl ?_); refine goesL_ (some 13) rfl rfl Tryz.func14 (by kernel_rfl) rfl #[.slice A0_3 l0_3.length c0_3] rfl (by (try simp only [List.map_toArray, List.map_cons, List.map_nil]); first | done | rfl | (simp only [List.length_drop, List.length_take]; rfl)) ?_; (with_reducible refine (laws_zzFits2.calls k _ _ l0_3 true _ ?side1 ?side2 A8.out).mono ?_); (case side1 => repeat (first | exact (Kd.C_below HR0_3.out HB.out) | (with_reducible refine Kd.C_alloc ?_ _) | (with_reducible refine Kd.C_drewN ?_ _) | (with_reducible refine Kd.C_drew ?_))); (case side2 => exact HC0_3.out); rintro e w' ⟨rfl, ⟨nd, rfl⟩⟩; refine ⟨_, rfl, ?_⟩))
     go_ret
     exact ⟨by first | rfl | (simp [errW_none, errW_some] <;> rfl) | (simp [*, errW_none, errW_some] <;> rfl), by repeat (first | (with_reducible first | exact HB.out | apply below_alloc | apply pw_below_drewN | apply below_drew1 | refine below_set ?_ GE102.out) | exact HB.out)⟩
   ·replace c9 := Bool.eq_false_iff.mpr c9
    subst c9
    have H1 : (some false) = some r := by rw [if_neg (show ¬ (false = true) by decide)] at H; exact H
    clear H
    have H := H1
    clear H1
    obtain rfl := Option.some.inj H
    go_enter Tryz.func4, Tryz.ntmps4
    go_wp2_with (first | ((with_reducible refine gate_dst (N := 1) rfl ?_); refine box_event ?hg (N := 1) ?hd (cs := #[.int .i64 a0_0, .string a0_1, .string a0_2, .slice A0_3 l0_3.length c0_3, .slice A0_4 l0_4.length c0_4]) (t := 25) ?hr ?_; (case hd => rfl); (case hg => rfl); (case hr => first | (go_simp; done) | (go_simp; rfl)); intro gb102 hg w15 hbox hb; have n0_ := Aside0.mk (below_step (by repeat (first | (with_reducible first | exact HB.out | apply below_alloc | apply pw_below_drewN | apply below_drew1) | exact HB.out)) hb); have n1_ := Aside0.mk (hbox); have n2_ := Aside0.mk ((by rw [hg]; exact (below_size (by repeat (first | (with_reducible first | exact HB.out | apply below_alloc | apply pw_below_drewN | apply below_drew1) | exact HB.out))) : w.heap.size ≤ gb102)); have n3_ := Aside0.mk ((by rw [hg]; exact (below_size (by repeat (first | (with_reducible first | exact HB.out | apply below_alloc | apply pw_below_drewN | apply below_drew1) | exact HB.out))) : w.heap.size ≤ gb102)); clear HB; have HB := n0_; have BK102 := n1_; have GW102 := n2_; have GE102 := n3_; clear n0_ n1_ n2_ n3_; clear hb hbox hg; have hcz16_0 : w15.cell? ⟨gb102, 0, none⟩ = some (.int .i64 a0_0) := (blk_cell BK102.out 0).trans rfl; have hcz16_1 : w15.cell? ⟨gb102, 1, none⟩ = some (.string a0_1) := (blk_cell BK102.out 1).trans rfl; have hcz16_2 : w15.cell? ⟨gb102, 2, none⟩ = some (.string a0_2) := (blk_cell BK102.out 2).trans rfl; have hcz16_3 : w15.cell? ⟨gb102, 3, none⟩ = some (.slice A0_3 l0_3.length c0_3) := (blk_cell BK102.out 3).trans rfl; have hcz16_4 : w15.cell? ⟨gb102, 4, none⟩ = some (.slice A0_4 l0_4.length c0_4) := (blk_cell BK102.out 4).trans rfl; have hfz16_0 := blk_frozen BK102.out 0; have hfz16_1 := blk_frozen BK102.out 1; have hfz16_2 := blk_frozen BK102.out 2; have hfz16_3 := blk_frozen BK102.out 3; have hfz16_4 := blk_frozen BK102.out 4) | ((with_reducible refine gate_callee (f := 14) rfl ?_); refine goesL_ (some 13) rfl rfl Tryz.func14 (by kernel_rfl) rfl #[.slice A0_3 l0_3.length c0_3] rfl (by (try simp only [List.map_toArray, List.map_cons, List.map_nil]); first | done | rfl | (simp only [List.length_drop, List.length_take]; rfl)) ?_; (with_reducible refine (laws_zzFits2.calls k _ _ l0_3 false _ ?side1 ?side2 A8.out).mono ?_); (case side1 => repeat (first | exact (Kd.C_below HR0_3.out HB.out) | (with_reducible refine Kd.C_alloc ?_ _) | (with_reducible refine Kd.C_drewN ?_ _) | (with_reducible refine Kd.C_drew ?_))); (case side2 => exact HC0_3.out); rintro e w' ⟨rfl, ⟨nd, rfl⟩⟩; refine ⟨_, rfl, ?_⟩))
    go_ret
    exact ⟨by first | rfl | (simp [errW_none, errW_some] <;> rfl) | (simp [*, errW_none, errW_some] <;> rfl), by repeat (first | (with_reducible first | exact HB.out | apply below_alloc | apply pw_below_drewN | apply below_drew1 | refine below_set ?_ GE102.out) | exact HB.out)⟩
def spec_Place.l0 : Nat → List ByteArray → ByteArray → Int → Int → Option (Int)
 | 0, _, _, _, _ => none
 | k + 1, x0, x1, x7, x8 => if x8 < x7 then (if 0 ≤ x8 then (if x8 < (x0.length : Int) then (if (rdOf ByteArray.empty x0 x8).toList = x1.toList then (some x8) else (spec_Place.l0 k x0 x1 x7 (wrap64 (x8 + 1)))) else (none)) else (none)) else (some (-1))
def spec_Place.f (k : Nat) (l0 : List ByteArray) (a1 : ByteArray) : Option (Int) := spec_Place.l0 k l0 a1 (l0.length : Int) 0
theorem spec_Place.mono_l : ∀ k, (∀ y0 y1 y2 y3, LeO (spec_Place.l0 k y0 y1 y2 y3) (spec_Place.l0 (k + 1) y0 y1 y2 y3))
 | 0 => fun _ _ _ _ r h => by simp [spec_Place.l0] at h
 |k + 1 => by
  have ih0 := spec_Place.mono_l k
  ·intro y0 y1 y2 y3
   unfold spec_Place.l0
   repeat' first
   | (with_reducible exact ih0 _ _ _ _)
   | (with_reducible exact LeO.refl _)
   | (with_reducible exact LeO.none _)
   | (with_reducible refine LeO.ite ?_ ?_)
   | (with_reducible refine LeO.bind ?_ (fun _ => ?_))
   | exact ih0 _ _ _ _
   | exact LeO.none _
   | refine LeO.ite ?_ ?_
   | refine LeO.bind ?_ (fun _ => ?_)
theorem spec_Place.mono : ∀ a0 a1 k, LeO (spec_Place.f k a0 a1) (spec_Place.f (k + 1) a0 a1) := by
 intro a0 a1 k
 have ih0 := spec_Place.mono_l k
 unfold spec_Place.f
 repeat' first
   | (with_reducible exact ih0 _ _ _ _)
   | (with_reducible exact LeO.refl _)
   | (with_reducible exact LeO.none _)
   | (with_reducible refine LeO.ite ?_ ?_)
   | (with_reducible refine LeO.bind ?_ (fun _ => ?_))
   | exact ih0 _ _ _ _
   | exact LeO.none _
   | refine LeO.ite ?_ ?_
   | refine LeO.bind ?_ (fun _ => ?_)
set_option maxHeartbeats 8000000 in
set_option maxRecDepth 100000 in
theorem spec_Place.calls (k : Nat) (A0 : Option Addr) (c0 : Nat) (l0 : List ByteArray) (a1 : ByteArray) (r : Int) (w : World) (hr0 : Kd.C Kd.string w A0 l0.length l0) (hc0 : l0.length ≤ c0) (h : spec_Place.f k l0 a1 = some r) :
  Calls Tryz.prog 19 #[.slice A0 l0.length c0, .string a1] w fun e w' => e = .returned (.int .i64 r) ∧ Drawn0 w w' := by
 have HR0 := Aside0.mk hr0
 have HC0 := Aside0.mk hc0
 clear hr0 hc0
 have H : (spec_Place.l0 k l0 a1 (l0.length : Int) 0) = some r := h
 clear h
 have H' := Aside0.mk H
 clear H
 go_enter Tryz.func19, Tryz.ntmps19
 go_wp2
 go_loopg [8] k (fun kq v8 w' => ∃ (x8_1 : Int), v8 = .int .i64 x8_1 ∧ Aside0 (spec_Place.l0 kq l0 a1 (l0.length : Int) x8_1 = some r) ∧ Aside0 (kq ≤ k) ∧ Drawn0 w w')
 case atStart => exact ⟨(0), (by first | rfl | (simp; done) | (simp [*]; done)), H', ⟨Nat.le_refl _⟩, by repeat (first | exact Drawn0.refl _ | apply Drawn0.step)⟩
 case round =>
  clear H'
  try clear c1
  try clear p2
  obtain ⟨x8_1, rfl, HA, HK1, ⟨m1, rfl⟩⟩ := hrel
  cases gk with
  | zero => exact absurd HA.out (by simp [spec_Place.l0])
  |succ k1 =>
   have H := HA.out
   clear HA
   simp only [spec_Place.l0] at H
   by_cases c3 : x8_1 < (l0.length : Int)
   ·rw [if_pos c3] at H
    have c3b0 : decide (x8_1 < (l0.length : Int)) = true := decide_eq_true c3
    clear c3
    by_cases c4 : 0 ≤ x8_1
    ·rw [if_pos c4] at H
     have c4b0 : decide (0 ≤ x8_1) = true := decide_eq_true c4
     clear c4
     by_cases c5 : x8_1 < (l0.length : Int)
     ·rw [if_pos c5] at H
      have c5b0 : decide (x8_1 < (l0.length : Int)) = true := decide_eq_true c5
      clear c5
      by_cases c6 : (rdOf ByteArray.empty l0 x8_1).toList = a1.toList
      ·rw [if_pos c6] at H
       have c6b0 : ((rdOf ByteArray.empty l0 x8_1).toList == a1.toList) = true := beq_iff_eq.mpr c6
       have c6b1 : ((rdOf ByteArray.empty l0 x8_1).toList != a1.toList) = false := bne_eq_false_iff_eq.mpr c6
       clear c6
       obtain rfl := Option.some.inj H
       have p104 : 0 ≤ (x8_1 : Int) := of_decide_eq_true (by first | (with_reducible assumption) | assumption)
       have q104 : x8_1 < (l0.length : Int) := of_decide_eq_true (by first | (with_reducible assumption) | assumption)
       obtain ⟨ad104, e104, hx104_0⟩ := Kd.at_string HR0.out x8_1 p104 q104
       cases e104
       replace p104 := eq_true p104
       replace q104 := eq_true q104
       go_wp2
       go_ret
       exact ⟨by first | rfl | (simp; done) | (simp [*]; done), by repeat (first | exact Drawn0.refl _ | apply Drawn0.step)⟩
      ·rw [if_neg c6] at H
       have c6b0 : ((rdOf ByteArray.empty l0 x8_1).toList == a1.toList) = false := beq_eq_false_iff_ne.mpr c6
       have c6b1 : ((rdOf ByteArray.empty l0 x8_1).toList != a1.toList) = true := bne_iff_ne.mpr c6
       have H' := Aside0.mk H
       clear H
       have p104 : 0 ≤ (x8_1 : Int) := of_decide_eq_true (by first | (with_reducible assumption) | assumption)
       have q104 : x8_1 < (l0.length : Int) := of_decide_eq_true (by first | (with_reducible assumption) | assumption)
       obtain ⟨ad104, e104, hx104_0⟩ := Kd.at_string HR0.out x8_1 p104 q104
       cases e104
       replace p104 := eq_true p104
       replace q104 := eq_true q104
       go_wp2
       go_roundg k1
       case measure => have := HK1.out; omega
       case rel => exact ⟨(wrap64 (x8_1 + 1)), (by first | rfl | (simp; done) | (simp [*]; done)), H', ⟨by have := HK1.out; omega⟩, by repeat (first | exact Drawn0.refl _ | apply Drawn0.step)⟩
     ·rw [if_neg c5] at H
      exact absurd H (by simp)
    ·rw [if_neg c4] at H
     exact absurd H (by simp)
   ·rw [if_neg c3] at H
    have c3b0 : decide (x8_1 < (l0.length : Int)) = false := decide_eq_false c3
    clear c3
    obtain rfl := Option.some.inj H
    go_wp2
    go_ret
    exact ⟨by first | rfl | (simp; done) | (simp [*]; done), by repeat (first | exact Drawn0.refl _ | apply Drawn0.step)⟩
def spec_IsWord.l0 : Nat → ByteArray → Int → Option (Bool)
 | 0, _, _ => none
 | k + 1, x0, x3 => if x3 < (x0.size : Int) then (if 0 ≤ x3 then (if (bt x0 x3) ≥ 97 then (if ((bt x0 x3) ≤ 122) then (spec_IsWord.l0 k x0 (wrap64 (x3 + 1))) else (if x3 = 0 then (some false) else (if (bt x0 x3) < 48 then (if (bt x0 x3) = 45 then (spec_IsWord.l0 k x0 (wrap64 (x3 + 1))) else (some false)) else (if (bt x0 x3) > 57 then (if (bt x0 x3) = 45 then (spec_IsWord.l0 k x0 (wrap64 (x3 + 1))) else (some false)) else (spec_IsWord.l0 k x0 (wrap64 (x3 + 1))))))) else (if x3 = 0 then (some false) else (if (bt x0 x3) < 48 then (if (bt x0 x3) = 45 then (spec_IsWord.l0 k x0 (wrap64 (x3 + 1))) else (some false)) else (if (bt x0 x3) > 57 then (if (bt x0 x3) = 45 then (spec_IsWord.l0 k x0 (wrap64 (x3 + 1))) else (some false)) else (spec_IsWord.l0 k x0 (wrap64 (x3 + 1))))))) else (none)) else (if x0.toList = ([116, 114, 117, 101] : List UInt8) then (some false) else (if x0.toList = ([102, 97, 108, 115, 101] : List UInt8) then (some false) else (if x0.toList = ([110, 117, 108, 108] : List UInt8) then (some false) else (if x0.toList = ([121, 101, 115] : List UInt8) then (some false) else (if x0.toList = ([110, 111] : List UInt8) then (some false) else (if x0.toList = ([111, 110] : List UInt8) then (some false) else (if x0.toList = ([111, 102, 102] : List UInt8) then (some false) else (if x0.toList = ([121] : List UInt8) then (some false) else (if x0.toList = ([110] : List UInt8) then (some false) else (if (x0.size : Int) ≥ 1 then (if (x0.size : Int) ≤ 20 then (if 0 ≤ (wrap64 ((x0.size : Int) - 1)) then (if (wrap64 ((x0.size : Int) - 1)) < (x0.size : Int) then (some ((bt x0 (wrap64 ((x0.size : Int) - 1))) != 45)) else (none)) else (none)) else (some false)) else (some false)))))))))))
def spec_IsWord.f (k : Nat) (a0 : ByteArray) : Option (Bool) := spec_IsWord.l0 k a0 0
theorem spec_IsWord.mono_l : ∀ k, (∀ y0 y1, LeO (spec_IsWord.l0 k y0 y1) (spec_IsWord.l0 (k + 1) y0 y1))
 | 0 => fun _ _ r h => by simp [spec_IsWord.l0] at h
 |k + 1 => by
  have ih0 := spec_IsWord.mono_l k
  ·intro y0 y1
   unfold spec_IsWord.l0
   repeat' first
   | (with_reducible exact ih0 _ _)
   | (with_reducible exact LeO.refl _)
   | (with_reducible exact LeO.none _)
   | (with_reducible refine LeO.ite ?_ ?_)
   | (with_reducible refine LeO.bind ?_ (fun _ => ?_))
   | exact ih0 _ _
   | exact LeO.none _
   | refine LeO.ite ?_ ?_
   | refine LeO.bind ?_ (fun _ => ?_)
theorem spec_IsWord.mono : ∀ a0 k, LeO (spec_IsWord.f k a0) (spec_IsWord.f (k + 1) a0) := by
 intro a0 k
 have ih0 := spec_IsWord.mono_l k
 unfold spec_IsWord.f
 repeat' first
   | (with_reducible exact ih0 _ _)
   | (with_reducible exact LeO.refl _)
   | (with_reducible exact LeO.none _)
   | (with_reducible refine LeO.ite ?_ ?_)
   | (with_reducible refine LeO.bind ?_ (fun _ => ?_))
   | exact ih0 _ _
   | exact LeO.none _
   | refine LeO.ite ?_ ?_
   | refine LeO.bind ?_ (fun _ => ?_)
set_option maxHeartbeats 8000000 in
set_option maxRecDepth 100000 in
theorem spec_IsWord.calls (k : Nat) (a0 : ByteArray) (r : Bool) (w : World) (h : spec_IsWord.f k a0 = some r) :
  Calls Tryz.prog 30 #[.string a0] w fun e w' => e = .returned (.bool r) ∧ Drawn0 w w' := by
 have H : (spec_IsWord.l0 k a0 0) = some r := h
 clear h
 have H' := Aside0.mk H
 clear H
 go_enter Tryz.func30, Tryz.ntmps30
 go_wp2
 go_loopg [3] k (fun kq v3 w' => ∃ (x3_1 : Int), v3 = .int .i64 x3_1 ∧ Aside0 (spec_IsWord.l0 kq a0 x3_1 = some r) ∧ Aside0 (kq ≤ k) ∧ Drawn0 w w')
 case atStart => exact ⟨(0), (by first | rfl | (simp; done) | (simp [*]; done)), H', ⟨Nat.le_refl _⟩, by repeat (first | exact Drawn0.refl _ | apply Drawn0.step)⟩
 case round =>
  clear H'
  obtain ⟨x3_1, rfl, HA, HK1, ⟨m1, rfl⟩⟩ := hrel
  cases gk with
  | zero => exact absurd HA.out (by simp [spec_IsWord.l0])
  |succ k1 =>
   have H := HA.out
   clear HA
   simp only [spec_IsWord.l0] at H
   by_cases c2 : x3_1 < (a0.size : Int)
   ·rw [if_pos c2] at H
    have c2b0 : decide (x3_1 < (a0.size : Int)) = true := decide_eq_true c2
    clear c2
    by_cases c3 : 0 ≤ x3_1
    ·rw [if_pos c3] at H
     have c3b0 : decide (0 ≤ x3_1) = true := decide_eq_true c3
     clear c3
     by_cases c5 : (bt a0 x3_1) ≥ 97
     ·rw [if_pos c5] at H
      have c5b0 : decide (97 ≤ (bt a0 x3_1)) = true := decide_eq_true c5
      clear c5
      by_cases c6 : ((bt a0 x3_1) ≤ 122)
      ·rw [if_pos c6] at H
       have c6b0 : decide ((bt a0 x3_1) ≤ 122) = true := decide_eq_true c6
       clear c6
       have H' := Aside0.mk H
       clear H
       have p4 : 0 ≤ (x3_1 : Int) := of_decide_eq_true (by first | (with_reducible assumption) | assumption)
       have q4 : x3_1 < (a0.size : Int) := of_decide_eq_true (by first | (with_reducible assumption) | assumption)
       have hx4 := bt_at a0 x3_1
       replace p4 := eq_true p4
       replace q4 := eq_true q4
       go_wp2
       go_roundg k1
       case measure => have := HK1.out; omega
       case rel => exact ⟨(wrap64 (x3_1 + 1)), (by first | rfl | (simp; done) | (simp [*]; done)), H', ⟨by have := HK1.out; omega⟩, by repeat (first | exact Drawn0.refl _ | apply Drawn0.step)⟩
      ·rw [if_neg c6] at H
       have c6b0 : decide ((bt a0 x3_1) ≤ 122) = false := decide_eq_false c6
       clear c6
       by_cases c7 : x3_1 = 0
       ·rw [if_pos c7] at H
        have c7b0 : (x3_1 == 0) = true := beq_iff_eq.mpr c7
        have c7b1 : (x3_1 != 0) = false := bne_eq_false_iff_eq.mpr c7
        clear c7
        obtain rfl := Option.some.inj H
        have p4 : 0 ≤ (x3_1 : Int) := of_decide_eq_true (by first | (with_reducible assumption) | assumption)
        have q4 : x3_1 < (a0.size : Int) := of_decide_eq_true (by first | (with_reducible assumption) | assumption)
        have hx4 := bt_at a0 x3_1
        replace p4 := eq_true p4
        replace q4 := eq_true q4
        go_wp2
        go_ret
        exact ⟨by first | rfl | (simp; done) | (simp [*]; done), by repeat (first | exact Drawn0.refl _ | apply Drawn0.step)⟩
       ·rw [if_neg c7] at H
        have c7b0 : (x3_1 == 0) = false := beq_eq_false_iff_ne.mpr c7
        have c7b1 : (x3_1 != 0) = true := bne_iff_ne.mpr c7
        by_cases c8 : (bt a0 x3_1) < 48
        ·rw [if_pos c8] at H
         have c8b0 : decide ((bt a0 x3_1) < 48) = true := decide_eq_true c8
         clear c8
         by_cases c9 : (bt a0 x3_1) = 45
         ·rw [if_pos c9] at H
          have c9b0 : ((bt a0 x3_1) == 45) = true := beq_iff_eq.mpr c9
          have c9b1 : ((bt a0 x3_1) != 45) = false := bne_eq_false_iff_eq.mpr c9
          clear c9
          have H' := Aside0.mk H
          clear H
          have p4 : 0 ≤ (x3_1 : Int) := of_decide_eq_true (by first | (with_reducible assumption) | assumption)
          have q4 : x3_1 < (a0.size : Int) := of_decide_eq_true (by first | (with_reducible assumption) | assumption)
          have hx4 := bt_at a0 x3_1
          replace p4 := eq_true p4
          replace q4 := eq_true q4
          go_wp2
          go_roundg k1
          case measure => have := HK1.out; omega
          case rel => exact ⟨(wrap64 (x3_1 + 1)), (by first | rfl | (simp; done) | (simp [*]; done)), H', ⟨by have := HK1.out; omega⟩, by repeat (first | exact Drawn0.refl _ | apply Drawn0.step)⟩
         ·rw [if_neg c9] at H
          have c9b0 : ((bt a0 x3_1) == 45) = false := beq_eq_false_iff_ne.mpr c9
          have c9b1 : ((bt a0 x3_1) != 45) = true := bne_iff_ne.mpr c9
          obtain rfl := Option.some.inj H
          have p4 : 0 ≤ (x3_1 : Int) := of_decide_eq_true (by first | (with_reducible assumption) | assumption)
          have q4 : x3_1 < (a0.size : Int) := of_decide_eq_true (by first | (with_reducible assumption) | assumption)
          have hx4 := bt_at a0 x3_1
          replace p4 := eq_true p4
          replace q4 := eq_true q4
          go_wp2
          go_ret
          exact ⟨by first | rfl | (simp; done) | (simp [*]; done), by repeat (first | exact Drawn0.refl _ | apply Drawn0.step)⟩
        ·rw [if_neg c8] at H
         have c8b0 : decide ((bt a0 x3_1) < 48) = false := decide_eq_false c8
         clear c8
         by_cases c10 : (bt a0 x3_1) > 57
         ·rw [if_pos c10] at H
          have c10b0 : decide (57 < (bt a0 x3_1)) = true := decide_eq_true c10
          clear c10
          by_cases c11 : (bt a0 x3_1) = 45
          ·rw [if_pos c11] at H
           have c11b0 : ((bt a0 x3_1) == 45) = true := beq_iff_eq.mpr c11
           have c11b1 : ((bt a0 x3_1) != 45) = false := bne_eq_false_iff_eq.mpr c11
           clear c11
           have H' := Aside0.mk H
           clear H
           have p4 : 0 ≤ (x3_1 : Int) := of_decide_eq_true (by first | (with_reducible assumption) | assumption)
           have q4 : x3_1 < (a0.size : Int) := of_decide_eq_true (by first | (with_reducible assumption) | assumption)
           have hx4 := bt_at a0 x3_1
           replace p4 := eq_true p4
           replace q4 := eq_true q4
           go_wp2
           go_roundg k1
           case measure => have := HK1.out; omega
           case rel => exact ⟨(wrap64 (x3_1 + 1)), (by first | rfl | (simp; done) | (simp [*]; done)), H', ⟨by have := HK1.out; omega⟩, by repeat (first | exact Drawn0.refl _ | apply Drawn0.step)⟩
          ·rw [if_neg c11] at H
           have c11b0 : ((bt a0 x3_1) == 45) = false := beq_eq_false_iff_ne.mpr c11
           have c11b1 : ((bt a0 x3_1) != 45) = true := bne_iff_ne.mpr c11
           obtain rfl := Option.some.inj H
           have p4 : 0 ≤ (x3_1 : Int) := of_decide_eq_true (by first | (with_reducible assumption) | assumption)
           have q4 : x3_1 < (a0.size : Int) := of_decide_eq_true (by first | (with_reducible assumption) | assumption)
           have hx4 := bt_at a0 x3_1
           replace p4 := eq_true p4
           replace q4 := eq_true q4
           go_wp2
           go_ret
           exact ⟨by first | rfl | (simp; done) | (simp [*]; done), by repeat (first | exact Drawn0.refl _ | apply Drawn0.step)⟩
         ·rw [if_neg c10] at H
          have c10b0 : decide (57 < (bt a0 x3_1)) = false := decide_eq_false c10
          clear c10
          have H' := Aside0.mk H
          clear H
          have p4 : 0 ≤ (x3_1 : Int) := of_decide_eq_true (by first | (with_reducible assumption) | assumption)
          have q4 : x3_1 < (a0.size : Int) := of_decide_eq_true (by first | (with_reducible assumption) | assumption)
          have hx4 := bt_at a0 x3_1
          replace p4 := eq_true p4
          replace q4 := eq_true q4
          go_wp2
          go_roundg k1
          case measure => have := HK1.out; omega
          case rel => exact ⟨(wrap64 (x3_1 + 1)), (by first | rfl | (simp; done) | (simp [*]; done)), H', ⟨by have := HK1.out; omega⟩, by repeat (first | exact Drawn0.refl _ | apply Drawn0.step)⟩
     ·rw [if_neg c5] at H
      have c5b0 : decide (97 ≤ (bt a0 x3_1)) = false := decide_eq_false c5
      clear c5
      by_cases c12 : x3_1 = 0
      ·rw [if_pos c12] at H
       have c12b0 : (x3_1 == 0) = true := beq_iff_eq.mpr c12
       have c12b1 : (x3_1 != 0) = false := bne_eq_false_iff_eq.mpr c12
       clear c12
       obtain rfl := Option.some.inj H
       have p4 : 0 ≤ (x3_1 : Int) := of_decide_eq_true (by first | (with_reducible assumption) | assumption)
       have q4 : x3_1 < (a0.size : Int) := of_decide_eq_true (by first | (with_reducible assumption) | assumption)
       have hx4 := bt_at a0 x3_1
       replace p4 := eq_true p4
       replace q4 := eq_true q4
       go_wp2
       go_ret
       exact ⟨by first | rfl | (simp; done) | (simp [*]; done), by repeat (first | exact Drawn0.refl _ | apply Drawn0.step)⟩
      ·rw [if_neg c12] at H
       have c12b0 : (x3_1 == 0) = false := beq_eq_false_iff_ne.mpr c12
       have c12b1 : (x3_1 != 0) = true := bne_iff_ne.mpr c12
       by_cases c13 : (bt a0 x3_1) < 48
       ·rw [if_pos c13] at H
        have c13b0 : decide ((bt a0 x3_1) < 48) = true := decide_eq_true c13
        clear c13
        by_cases c14 : (bt a0 x3_1) = 45
        ·rw [if_pos c14] at H
         have c14b0 : ((bt a0 x3_1) == 45) = true := beq_iff_eq.mpr c14
         have c14b1 : ((bt a0 x3_1) != 45) = false := bne_eq_false_iff_eq.mpr c14
         clear c14
         have H' := Aside0.mk H
         clear H
         have p4 : 0 ≤ (x3_1 : Int) := of_decide_eq_true (by first | (with_reducible assumption) | assumption)
         have q4 : x3_1 < (a0.size : Int) := of_decide_eq_true (by first | (with_reducible assumption) | assumption)
         have hx4 := bt_at a0 x3_1
         replace p4 := eq_true p4
         replace q4 := eq_true q4
         go_wp2
         go_roundg k1
         case measure => have := HK1.out; omega
         case rel => exact ⟨(wrap64 (x3_1 + 1)), (by first | rfl | (simp; done) | (simp [*]; done)), H', ⟨by have := HK1.out; omega⟩, by repeat (first | exact Drawn0.refl _ | apply Drawn0.step)⟩
        ·rw [if_neg c14] at H
         have c14b0 : ((bt a0 x3_1) == 45) = false := beq_eq_false_iff_ne.mpr c14
         have c14b1 : ((bt a0 x3_1) != 45) = true := bne_iff_ne.mpr c14
         obtain rfl := Option.some.inj H
         have p4 : 0 ≤ (x3_1 : Int) := of_decide_eq_true (by first | (with_reducible assumption) | assumption)
         have q4 : x3_1 < (a0.size : Int) := of_decide_eq_true (by first | (with_reducible assumption) | assumption)
         have hx4 := bt_at a0 x3_1
         replace p4 := eq_true p4
         replace q4 := eq_true q4
         go_wp2
         go_ret
         exact ⟨by first | rfl | (simp; done) | (simp [*]; done), by repeat (first | exact Drawn0.refl _ | apply Drawn0.step)⟩
       ·rw [if_neg c13] at H
        have c13b0 : decide ((bt a0 x3_1) < 48) = false := decide_eq_false c13
        clear c13
        by_cases c15 : (bt a0 x3_1) > 57
        ·rw [if_pos c15] at H
         have c15b0 : decide (57 < (bt a0 x3_1)) = true := decide_eq_true c15
         clear c15
         by_cases c16 : (bt a0 x3_1) = 45
         ·rw [if_pos c16] at H
          have c16b0 : ((bt a0 x3_1) == 45) = true := beq_iff_eq.mpr c16
          have c16b1 : ((bt a0 x3_1) != 45) = false := bne_eq_false_iff_eq.mpr c16
          clear c16
          have H' := Aside0.mk H
          clear H
          have p4 : 0 ≤ (x3_1 : Int) := of_decide_eq_true (by first | (with_reducible assumption) | assumption)
          have q4 : x3_1 < (a0.size : Int) := of_decide_eq_true (by first | (with_reducible assumption) | assumption)
          have hx4 := bt_at a0 x3_1
          replace p4 := eq_true p4
          replace q4 := eq_true q4
          go_wp2
          go_roundg k1
          case measure => have := HK1.out; omega
          case rel => exact ⟨(wrap64 (x3_1 + 1)), (by first | rfl | (simp; done) | (simp [*]; done)), H', ⟨by have := HK1.out; omega⟩, by repeat (first | exact Drawn0.refl _ | apply Drawn0.step)⟩
         ·rw [if_neg c16] at H
          have c16b0 : ((bt a0 x3_1) == 45) = false := beq_eq_false_iff_ne.mpr c16
          have c16b1 : ((bt a0 x3_1) != 45) = true := bne_iff_ne.mpr c16
          obtain rfl := Option.some.inj H
          have p4 : 0 ≤ (x3_1 : Int) := of_decide_eq_true (by first | (with_reducible assumption) | assumption)
          have q4 : x3_1 < (a0.size : Int) := of_decide_eq_true (by first | (with_reducible assumption) | assumption)
          have hx4 := bt_at a0 x3_1
          replace p4 := eq_true p4
          replace q4 := eq_true q4
          go_wp2
          go_ret
          exact ⟨by first | rfl | (simp; done) | (simp [*]; done), by repeat (first | exact Drawn0.refl _ | apply Drawn0.step)⟩
        ·rw [if_neg c15] at H
         have c15b0 : decide (57 < (bt a0 x3_1)) = false := decide_eq_false c15
         clear c15
         have H' := Aside0.mk H
         clear H
         have p4 : 0 ≤ (x3_1 : Int) := of_decide_eq_true (by first | (with_reducible assumption) | assumption)
         have q4 : x3_1 < (a0.size : Int) := of_decide_eq_true (by first | (with_reducible assumption) | assumption)
         have hx4 := bt_at a0 x3_1
         replace p4 := eq_true p4
         replace q4 := eq_true q4
         go_wp2
         go_roundg k1
         case measure => have := HK1.out; omega
         case rel => exact ⟨(wrap64 (x3_1 + 1)), (by first | rfl | (simp; done) | (simp [*]; done)), H', ⟨by have := HK1.out; omega⟩, by repeat (first | exact Drawn0.refl _ | apply Drawn0.step)⟩
    ·rw [if_neg c3] at H
     exact absurd H (by simp)
   ·rw [if_neg c2] at H
    have c2b0 : decide (x3_1 < (a0.size : Int)) = false := decide_eq_false c2
    clear c2
    by_cases c17 : a0.toList = ([116, 114, 117, 101] : List UInt8)
    ·rw [if_pos c17] at H
     have c17b0 : (a0.toList == ([116, 114, 117, 101] : List UInt8)) = true := beq_iff_eq.mpr c17
     have c17b1 : (a0.toList != ([116, 114, 117, 101] : List UInt8)) = false := bne_eq_false_iff_eq.mpr c17
     clear c17
     obtain rfl := Option.some.inj H
     go_wp2
     go_ret
     exact ⟨by first | rfl | (simp; done) | (simp [*]; done), by repeat (first | exact Drawn0.refl _ | apply Drawn0.step)⟩
    ·rw [if_neg c17] at H
     have c17b0 : (a0.toList == ([116, 114, 117, 101] : List UInt8)) = false := beq_eq_false_iff_ne.mpr c17
     have c17b1 : (a0.toList != ([116, 114, 117, 101] : List UInt8)) = true := bne_iff_ne.mpr c17
     by_cases c18 : a0.toList = ([102, 97, 108, 115, 101] : List UInt8)
     ·rw [if_pos c18] at H
      have c18b0 : (a0.toList == ([102, 97, 108, 115, 101] : List UInt8)) = true := beq_iff_eq.mpr c18
      have c18b1 : (a0.toList != ([102, 97, 108, 115, 101] : List UInt8)) = false := bne_eq_false_iff_eq.mpr c18
      clear c18
      obtain rfl := Option.some.inj H
      go_wp2
      go_ret
      exact ⟨by first | rfl | (simp; done) | (simp [*]; done), by repeat (first | exact Drawn0.refl _ | apply Drawn0.step)⟩
     ·rw [if_neg c18] at H
      have c18b0 : (a0.toList == ([102, 97, 108, 115, 101] : List UInt8)) = false := beq_eq_false_iff_ne.mpr c18
      have c18b1 : (a0.toList != ([102, 97, 108, 115, 101] : List UInt8)) = true := bne_iff_ne.mpr c18
      by_cases c19 : a0.toList = ([110, 117, 108, 108] : List UInt8)
      ·rw [if_pos c19] at H
       have c19b0 : (a0.toList == ([110, 117, 108, 108] : List UInt8)) = true := beq_iff_eq.mpr c19
       have c19b1 : (a0.toList != ([110, 117, 108, 108] : List UInt8)) = false := bne_eq_false_iff_eq.mpr c19
       clear c19
       obtain rfl := Option.some.inj H
       go_wp2
       go_ret
       exact ⟨by first | rfl | (simp; done) | (simp [*]; done), by repeat (first | exact Drawn0.refl _ | apply Drawn0.step)⟩
      ·rw [if_neg c19] at H
       have c19b0 : (a0.toList == ([110, 117, 108, 108] : List UInt8)) = false := beq_eq_false_iff_ne.mpr c19
       have c19b1 : (a0.toList != ([110, 117, 108, 108] : List UInt8)) = true := bne_iff_ne.mpr c19
       by_cases c20 : a0.toList = ([121, 101, 115] : List UInt8)
       ·rw [if_pos c20] at H
        have c20b0 : (a0.toList == ([121, 101, 115] : List UInt8)) = true := beq_iff_eq.mpr c20
        have c20b1 : (a0.toList != ([121, 101, 115] : List UInt8)) = false := bne_eq_false_iff_eq.mpr c20
        clear c20
        obtain rfl := Option.some.inj H
        go_wp2
        go_ret
        exact ⟨by first | rfl | (simp; done) | (simp [*]; done), by repeat (first | exact Drawn0.refl _ | apply Drawn0.step)⟩
       ·rw [if_neg c20] at H
        have c20b0 : (a0.toList == ([121, 101, 115] : List UInt8)) = false := beq_eq_false_iff_ne.mpr c20
        have c20b1 : (a0.toList != ([121, 101, 115] : List UInt8)) = true := bne_iff_ne.mpr c20
        by_cases c21 : a0.toList = ([110, 111] : List UInt8)
        ·rw [if_pos c21] at H
         have c21b0 : (a0.toList == ([110, 111] : List UInt8)) = true := beq_iff_eq.mpr c21
         have c21b1 : (a0.toList != ([110, 111] : List UInt8)) = false := bne_eq_false_iff_eq.mpr c21
         clear c21
         obtain rfl := Option.some.inj H
         go_wp2
         go_ret
         exact ⟨by first | rfl | (simp; done) | (simp [*]; done), by repeat (first | exact Drawn0.refl _ | apply Drawn0.step)⟩
        ·rw [if_neg c21] at H
         have c21b0 : (a0.toList == ([110, 111] : List UInt8)) = false := beq_eq_false_iff_ne.mpr c21
         have c21b1 : (a0.toList != ([110, 111] : List UInt8)) = true := bne_iff_ne.mpr c21
         by_cases c22 : a0.toList = ([111, 110] : List UInt8)
         ·rw [if_pos c22] at H
          have c22b0 : (a0.toList == ([111, 110] : List UInt8)) = true := beq_iff_eq.mpr c22
          have c22b1 : (a0.toList != ([111, 110] : List UInt8)) = false := bne_eq_false_iff_eq.mpr c22
          clear c22
          obtain rfl := Option.some.inj H
          go_wp2
          go_ret
          exact ⟨by first | rfl | (simp; done) | (simp [*]; done), by repeat (first | exact Drawn0.refl _ | apply Drawn0.step)⟩
         ·rw [if_neg c22] at H
          have c22b0 : (a0.toList == ([111, 110] : List UInt8)) = false := beq_eq_false_iff_ne.mpr c22
          have c22b1 : (a0.toList != ([111, 110] : List UInt8)) = true := bne_iff_ne.mpr c22
          by_cases c23 : a0.toList = ([111, 102, 102] : List UInt8)
          ·rw [if_pos c23] at H
           have c23b0 : (a0.toList == ([111, 102, 102] : List UInt8)) = true := beq_iff_eq.mpr c23
           have c23b1 : (a0.toList != ([111, 102, 102] : List UInt8)) = false := bne_eq_false_iff_eq.mpr c23
           clear c23
           obtain rfl := Option.some.inj H
           go_wp2
           go_ret
           exact ⟨by first | rfl | (simp; done) | (simp [*]; done), by repeat (first | exact Drawn0.refl _ | apply Drawn0.step)⟩
          ·rw [if_neg c23] at H
           have c23b0 : (a0.toList == ([111, 102, 102] : List UInt8)) = false := beq_eq_false_iff_ne.mpr c23
           have c23b1 : (a0.toList != ([111, 102, 102] : List UInt8)) = true := bne_iff_ne.mpr c23
           by_cases c24 : a0.toList = ([121] : List UInt8)
           ·rw [if_pos c24] at H
            have c24b0 : (a0.toList == ([121] : List UInt8)) = true := beq_iff_eq.mpr c24
            have c24b1 : (a0.toList != ([121] : List UInt8)) = false := bne_eq_false_iff_eq.mpr c24
            clear c24
            obtain rfl := Option.some.inj H
            go_wp2
            go_ret
            exact ⟨by first | rfl | (simp; done) | (simp [*]; done), by repeat (first | exact Drawn0.refl _ | apply Drawn0.step)⟩
           ·rw [if_neg c24] at H
            have c24b0 : (a0.toList == ([121] : List UInt8)) = false := beq_eq_false_iff_ne.mpr c24
            have c24b1 : (a0.toList != ([121] : List UInt8)) = true := bne_iff_ne.mpr c24
            by_cases c25 : a0.toList = ([110] : List UInt8)
            ·rw [if_pos c25] at H
             have c25b0 : (a0.toList == ([110] : List UInt8)) = true := beq_iff_eq.mpr c25
             have c25b1 : (a0.toList != ([110] : List UInt8)) = false := bne_eq_false_iff_eq.mpr c25
             clear c25
             obtain rfl := Option.some.inj H
             go_wp2
             go_ret
             exact ⟨by first | rfl | (simp; done) | (simp [*]; done), by repeat (first | exact Drawn0.refl _ | apply Drawn0.step)⟩
            ·rw [if_neg c25] at H
             have c25b0 : (a0.toList == ([110] : List UInt8)) = false := beq_eq_false_iff_ne.mpr c25
             have c25b1 : (a0.toList != ([110] : List UInt8)) = true := bne_iff_ne.mpr c25
             by_cases c26 : (a0.size : Int) ≥ 1
             ·rw [if_pos c26] at H
              have c26b0 : decide (1 ≤ (a0.size : Int)) = true := decide_eq_true c26
              have c26b1 : decide (1 ≤ a0.size) = true := decide_eq_true (by omega)
              clear c26
              by_cases c27 : (a0.size : Int) ≤ 20
              ·rw [if_pos c27] at H
               have c27b0 : decide ((a0.size : Int) ≤ 20) = true := decide_eq_true c27
               have c27b1 : decide (a0.size ≤ 20) = true := decide_eq_true (by omega)
               clear c27
               obtain ⟨ji28, hji28⟩ : ∃ j_ : Int, (wrap64 ((a0.size : Int) - 1)) = j_ := ⟨_, rfl⟩
               replace H : (if 0 ≤ (ji28) then (if (ji28) < (a0.size : Int) then (some ((bt a0 (ji28)) != 45)) else (none)) else (none)) = some r := by first | (rw [hji28] at H; exact H) | (simp only [hji28] at H ⊢; exact H)
               have hji28w : (IntKind.i64.wrap ((a0.size : Int) - 1)) = ji28 := (i64_w _).trans hji28
               by_cases c29 : 0 ≤ (ji28)
               ·rw [if_pos c29] at H
                have c29b0 : decide (0 ≤ (ji28)) = true := decide_eq_true c29
                clear c29
                by_cases c30 : (ji28) < (a0.size : Int)
                ·rw [if_pos c30] at H
                 have c30b0 : decide ((ji28) < (a0.size : Int)) = true := decide_eq_true c30
                 clear c30
                 obtain rfl := Option.some.inj H
                 have p31 : 0 ≤ ((ji28) : Int) := of_decide_eq_true (by first | (with_reducible assumption) | assumption)
                 have q31 : (ji28) < (a0.size : Int) := of_decide_eq_true (by first | (with_reducible assumption) | assumption)
                 have hx31 := bt_at a0 (ji28)
                 replace p31 := eq_true p31
                 replace q31 := eq_true q31
                 go_wp2
                 go_ret
                 exact ⟨by first | rfl | (simp; done) | (simp only [← hji28] <;> (first | rfl | simp)) | (simp [*]; done), by repeat (first | exact Drawn0.refl _ | apply Drawn0.step)⟩
                ·rw [if_neg c30] at H
                 exact absurd H (by simp)
               ·rw [if_neg c29] at H
                exact absurd H (by simp)
              ·rw [if_neg c27] at H
               have c27b0 : decide ((a0.size : Int) ≤ 20) = false := decide_eq_false c27
               have c27b1 : decide (a0.size ≤ 20) = false := decide_eq_false (by omega)
               clear c27
               obtain rfl := Option.some.inj H
               go_wp2
               go_ret
               exact ⟨by first | rfl | (simp; done) | (simp [*]; done), by repeat (first | exact Drawn0.refl _ | apply Drawn0.step)⟩
             ·rw [if_neg c26] at H
              have c26b0 : decide (1 ≤ (a0.size : Int)) = false := decide_eq_false c26
              have c26b1 : decide (1 ≤ a0.size) = false := decide_eq_false (by omega)
              clear c26
              obtain rfl := Option.some.inj H
              go_wp2
              go_ret
              exact ⟨by first | rfl | (simp; done) | (simp [*]; done), by repeat (first | exact Drawn0.refl _ | apply Drawn0.step)⟩
end Go.Proofs.YtkpdkoafngjflaaGreat.PFnFields
