import Derived.Test.YtkpdkoafngjflaaGreatPFnFieldsx0
namespace Go.Proofs.YtkpdkoafngjflaaGreat.PFnFields
open Go.RowKit Go.Proofs.YtkpdkoafngjflaaGreatW.PrintWords Go.Proofs.YtkpdkoafngjflaaGreatW.PrintLast Go.Proofs.YtkpdkoafngjflaaGreatW.PrintMore
set_option linter.unusedVariables false
set_option linter.unusedSimpArgs false
def impl_digits.l0 : Nat → ByteArray → Int → Int → Option (Bool)
 | 0, _, _, _ => none
 | k + 1, x0, x5, x6 => if x6 < x5 then (if 0 ≤ x6 then (if x6 < (x0.size : Int) then (if (bt x0 x6) < 48 then (some false) else (if (bt x0 x6) > 57 then (some false) else (impl_digits.l0 k x0 x5 (wrap64 (x6 + 1))))) else (none)) else (none)) else (some (decide ((x0.size : Int) > 0)))
def impl_digits.f (k : Nat) (a0 : ByteArray) : Option (Bool) := impl_digits.l0 k a0 (a0.size : Int) 0
theorem impl_digits.mono_l : ∀ k, (∀ y0 y1 y2, LeO (impl_digits.l0 k y0 y1 y2) (impl_digits.l0 (k + 1) y0 y1 y2))
 | 0 => fun _ _ _ r h => by simp [impl_digits.l0] at h
 |k + 1 => by
  have ih0 := impl_digits.mono_l k
  ·intro y0 y1 y2
   unfold impl_digits.l0
   repeat' first
   | (with_reducible exact ih0 _ _ _)
   | (with_reducible exact LeO.refl _)
   | (with_reducible exact LeO.none _)
   | (with_reducible refine LeO.ite ?_ ?_)
   | (with_reducible refine LeO.bind ?_ (fun _ => ?_))
   | exact ih0 _ _ _
   | exact LeO.none _
   | refine LeO.ite ?_ ?_
   | refine LeO.bind ?_ (fun _ => ?_)
theorem impl_digits.mono : ∀ a0 k, LeO (impl_digits.f k a0) (impl_digits.f (k + 1) a0) := by
 intro a0 k
 have ih0 := impl_digits.mono_l k
 unfold impl_digits.f
 repeat' first
   | (with_reducible exact ih0 _ _ _)
   | (with_reducible exact LeO.refl _)
   | (with_reducible exact LeO.none _)
   | (with_reducible refine LeO.ite ?_ ?_)
   | (with_reducible refine LeO.bind ?_ (fun _ => ?_))
   | exact ih0 _ _ _
   | exact LeO.none _
   | refine LeO.ite ?_ ?_
   | refine LeO.bind ?_ (fun _ => ?_)
set_option maxHeartbeats 8000000 in
set_option maxRecDepth 100000 in
theorem impl_digits.calls (k : Nat) (a0 : ByteArray) (r : Bool) (w : World) (h : impl_digits.f k a0 = some r) :
  Calls Tryz.prog 65 #[.string a0] w fun e w' => e = .returned (.bool r) ∧ Drawn0 w w' := by
 have H : (impl_digits.l0 k a0 (a0.size : Int) 0) = some r := h
 clear h
 have H' := Aside0.mk H
 clear H
 go_enter Tryz.func65, Tryz.ntmps65
 go_wp2
 go_loopg [6] k (fun kq v6 w' => ∃ (x6_1 : Int), v6 = .int .i64 x6_1 ∧ Aside0 (impl_digits.l0 kq a0 (a0.size : Int) x6_1 = some r) ∧ Aside0 (kq ≤ k) ∧ Drawn0 w w')
 case atStart => exact ⟨(0), (by first | rfl | (simp; done) | (simp [*]; done)), H', ⟨Nat.le_refl _⟩, by repeat (first | exact Drawn0.refl _ | apply Drawn0.step)⟩
 case round =>
  clear H'
  obtain ⟨x6_1, rfl, HA, HK1, ⟨m1, rfl⟩⟩ := hrel
  cases gk with
  | zero => exact absurd HA.out (by simp [impl_digits.l0])
  |succ k1 =>
   have H := HA.out
   clear HA
   simp only [impl_digits.l0] at H
   by_cases c2 : x6_1 < (a0.size : Int)
   ·rw [if_pos c2] at H
    have c2b0 : decide (x6_1 < (a0.size : Int)) = true := decide_eq_true c2
    clear c2
    by_cases c3 : 0 ≤ x6_1
    ·rw [if_pos c3] at H
     have c3b0 : decide (0 ≤ x6_1) = true := decide_eq_true c3
     clear c3
     by_cases c4 : x6_1 < (a0.size : Int)
     ·rw [if_pos c4] at H
      have c4b0 : decide (x6_1 < (a0.size : Int)) = true := decide_eq_true c4
      clear c4
      by_cases c6 : (bt a0 x6_1) < 48
      ·rw [if_pos c6] at H
       have c6b0 : decide ((bt a0 x6_1) < 48) = true := decide_eq_true c6
       clear c6
       obtain rfl := Option.some.inj H
       have p5 : 0 ≤ (x6_1 : Int) := of_decide_eq_true (by first | (with_reducible assumption) | assumption)
       have q5 : x6_1 < (a0.size : Int) := of_decide_eq_true (by first | (with_reducible assumption) | assumption)
       have hx5 := bt_at a0 x6_1
       replace p5 := eq_true p5
       replace q5 := eq_true q5
       go_wp2
       go_ret
       exact ⟨by first | rfl | (simp; done) | (simp [*]; done), by repeat (first | exact Drawn0.refl _ | apply Drawn0.step)⟩
      ·rw [if_neg c6] at H
       have c6b0 : decide ((bt a0 x6_1) < 48) = false := decide_eq_false c6
       clear c6
       by_cases c8 : (bt a0 x6_1) > 57
       ·rw [if_pos c8] at H
        have c8b0 : decide (57 < (bt a0 x6_1)) = true := decide_eq_true c8
        clear c8
        obtain rfl := Option.some.inj H
        have p5 : 0 ≤ (x6_1 : Int) := of_decide_eq_true (by first | (with_reducible assumption) | assumption)
        have q5 : x6_1 < (a0.size : Int) := of_decide_eq_true (by first | (with_reducible assumption) | assumption)
        have hx5 := bt_at a0 x6_1
        replace p5 := eq_true p5
        replace q5 := eq_true q5
        have p7 : 0 ≤ (x6_1 : Int) := of_decide_eq_true (by first | (with_reducible assumption) | assumption)
        have q7 : x6_1 < (a0.size : Int) := of_decide_eq_true (by first | (with_reducible assumption) | assumption)
        have hx7 := bt_at a0 x6_1
        replace p7 := eq_true p7
        replace q7 := eq_true q7
        go_wp2
        go_ret
        exact ⟨by first | rfl | (simp; done) | (simp [*]; done), by repeat (first | exact Drawn0.refl _ | apply Drawn0.step)⟩
       ·rw [if_neg c8] at H
        have c8b0 : decide (57 < (bt a0 x6_1)) = false := decide_eq_false c8
        clear c8
        have H' := Aside0.mk H
        clear H
        have p5 : 0 ≤ (x6_1 : Int) := of_decide_eq_true (by first | (with_reducible assumption) | assumption)
        have q5 : x6_1 < (a0.size : Int) := of_decide_eq_true (by first | (with_reducible assumption) | assumption)
        have hx5 := bt_at a0 x6_1
        replace p5 := eq_true p5
        replace q5 := eq_true q5
        have p7 : 0 ≤ (x6_1 : Int) := of_decide_eq_true (by first | (with_reducible assumption) | assumption)
        have q7 : x6_1 < (a0.size : Int) := of_decide_eq_true (by first | (with_reducible assumption) | assumption)
        have hx7 := bt_at a0 x6_1
        replace p7 := eq_true p7
        replace q7 := eq_true q7
        go_wp2
        go_roundg k1
        case measure => have := HK1.out; omega
        case rel => exact ⟨(wrap64 (x6_1 + 1)), (by first | rfl | (simp; done) | (simp [*]; done)), H', ⟨by have := HK1.out; omega⟩, by repeat (first | exact Drawn0.refl _ | apply Drawn0.step)⟩
     ·rw [if_neg c4] at H
      exact absurd H (by simp)
    ·rw [if_neg c3] at H
     exact absurd H (by simp)
   ·rw [if_neg c2] at H
    have c2b0 : decide (x6_1 < (a0.size : Int)) = false := decide_eq_false c2
    clear c2
    obtain rfl := Option.some.inj H
    go_wp2
    go_ret
    exact ⟨by first | rfl | (simp; done) | (simp [*]; done), by repeat (first | exact Drawn0.refl _ | apply Drawn0.step)⟩
def impl_typed.j0 : Nat → ByteArray → ByteArray → Bool → Option (Bool)
 | 0, _, _, _ => none
 | k + 1, x0, x1, x13 => if x13 = true then (some (x1.toList == ([33, 33, 98, 111, 111, 108] : List UInt8))) else ((impl_digits.f k x0).bind fun t109 => (if t109 = true then (some (x1.toList == ([33, 33, 105, 110, 116] : List UInt8))) else (if x1.toList = ([33, 33, 115, 116, 114] : List UInt8) then (if 0 < (x0.size : Int) then (some (decide ((bt x0 0) > 57))) else (none)) else (some false))))
def impl_typed.f (k : Nat) (a0 : ByteArray) (a1 : ByteArray) : Option (Bool) := if a0.toList = ([110, 117, 108, 108] : List UInt8) then (some (a1.toList == ([33, 33, 110, 117, 108, 108] : List UInt8))) else (if a1.toList = ([] : List UInt8) then (some true) else (if a0.toList = ([116, 114, 117, 101] : List UInt8) then (impl_typed.j0 k a0 a1 true) else (impl_typed.j0 k a0 a1 (a0.toList == ([102, 97, 108, 115, 101] : List UInt8)))))
theorem impl_typed.mono_l : ∀ k, (∀ y0 y1 y2, LeO (impl_typed.j0 k y0 y1 y2) (impl_typed.j0 (k + 1) y0 y1 y2))
 | 0 => fun _ _ _ r h => by simp [impl_typed.j0] at h
 |k + 1 => by
  have ih0 := impl_typed.mono_l k
  ·intro y0 y1 y2
   unfold impl_typed.j0
   repeat' first
   | (with_reducible exact ih0 _ _ _)
   | (with_reducible exact impl_digits.mono _ _)
   | (with_reducible exact LeO.refl _)
   | (with_reducible exact LeO.none _)
   | (with_reducible refine LeO.ite ?_ ?_)
   | (with_reducible refine LeO.bind ?_ (fun _ => ?_))
   | exact ih0 _ _ _
   | exact impl_digits.mono _ _
   | exact LeO.none _
   | refine LeO.ite ?_ ?_
   | refine LeO.bind ?_ (fun _ => ?_)
theorem impl_typed.mono : ∀ a0 a1 k, LeO (impl_typed.f k a0 a1) (impl_typed.f (k + 1) a0 a1) := by
 intro a0 a1 k
 have ih0 := impl_typed.mono_l k
 unfold impl_typed.f
 repeat' first
   | (with_reducible exact ih0 _ _ _)
   | (with_reducible exact impl_digits.mono _ _)
   | (with_reducible exact LeO.refl _)
   | (with_reducible exact LeO.none _)
   | (with_reducible refine LeO.ite ?_ ?_)
   | (with_reducible refine LeO.bind ?_ (fun _ => ?_))
   | exact ih0 _ _ _
   | exact impl_digits.mono _ _
   | exact LeO.none _
   | refine LeO.ite ?_ ?_
   | refine LeO.bind ?_ (fun _ => ?_)
set_option maxHeartbeats 8000000 in
set_option maxRecDepth 100000 in
theorem impl_typed.calls (k : Nat) (a0 : ByteArray) (a1 : ByteArray) (r : Bool) (w : World) (h : impl_typed.f k a0 a1 = some r) :
  Calls Tryz.prog 48 #[.string a0, .string a1] w fun e w' => e = .returned (.bool r) ∧ Drawn0 w w' := by
 have H : (if a0.toList = ([110, 117, 108, 108] : List UInt8) then (some (a1.toList == ([33, 33, 110, 117, 108, 108] : List UInt8))) else (if a1.toList = ([] : List UInt8) then (some true) else (if a0.toList = ([116, 114, 117, 101] : List UInt8) then (impl_typed.j0 k a0 a1 true) else (impl_typed.j0 k a0 a1 (a0.toList == ([102, 97, 108, 115, 101] : List UInt8)))))) = some r := h
 clear h
 by_cases c3 : a0.toList = ([110, 117, 108, 108] : List UInt8)
 ·rw [if_pos c3] at H
  have c3b0 : (a0.toList == ([110, 117, 108, 108] : List UInt8)) = true := beq_iff_eq.mpr c3
  have c3b1 : (a0.toList != ([110, 117, 108, 108] : List UInt8)) = false := bne_eq_false_iff_eq.mpr c3
  clear c3
  obtain rfl := Option.some.inj H
  go_enter Tryz.func48, Tryz.ntmps48
  go_wp2
  go_ret
  exact ⟨by first | rfl | (simp; done) | (simp [*]; done), by repeat (first | exact Drawn0.refl _ | apply Drawn0.step)⟩
 ·rw [if_neg c3] at H
  have c3b0 : (a0.toList == ([110, 117, 108, 108] : List UInt8)) = false := beq_eq_false_iff_ne.mpr c3
  have c3b1 : (a0.toList != ([110, 117, 108, 108] : List UInt8)) = true := bne_iff_ne.mpr c3
  by_cases c4 : a1.toList = ([] : List UInt8)
  ·rw [if_pos c4] at H
   have c4b0 : (a1.toList == ([] : List UInt8)) = true := beq_iff_eq.mpr c4
   have c4b1 : (a1.toList != ([] : List UInt8)) = false := bne_eq_false_iff_eq.mpr c4
   clear c4
   obtain rfl := Option.some.inj H
   go_enter Tryz.func48, Tryz.ntmps48
   go_wp2
   go_ret
   exact ⟨by first | rfl | (simp; done) | (simp [*]; done), by repeat (first | exact Drawn0.refl _ | apply Drawn0.step)⟩
  ·rw [if_neg c4] at H
   have c4b0 : (a1.toList == ([] : List UInt8)) = false := beq_eq_false_iff_ne.mpr c4
   have c4b1 : (a1.toList != ([] : List UInt8)) = true := bne_iff_ne.mpr c4
   have HC5 := Aside0.mk H
   clear H
   go_enter Tryz.func48, Tryz.ntmps48
   go_upto_region 5 with (fail)
   go_cut [13] (fun v13 wc => ∃ (kq : Nat) (x13_4 : Bool), v13 = .bool x13_4 ∧ Aside0 (impl_typed.j0 kq a0 a1 x13_4 = some r) ∧ Aside0 (kq ≤ k) ∧ Drawn0 w wc)
   case first =>
    have H := HC5.out
    clear HC5
    by_cases c6 : a0.toList = ([116, 114, 117, 101] : List UInt8)
    ·rw [if_pos c6] at H
     have c6b0 : (a0.toList == ([116, 114, 117, 101] : List UInt8)) = true := beq_iff_eq.mpr c6
     have c6b1 : (a0.toList != ([116, 114, 117, 101] : List UInt8)) = false := bne_eq_false_iff_eq.mpr c6
     clear c6
     (first | rw [c6b0] | (simp only [i64_w, i32_w]; rw [c6b0]) | skip)
     have H' := Aside0.mk H
     clear H
     go_wp2
     go_meet
     case rel => exact ⟨_, (true), (by first | rfl | (simp; done) | (simp [*]; done)), H', ⟨by first | omega | exact Nat.le_refl _⟩, by repeat (first | exact Drawn0.refl _ | apply Drawn0.step)⟩
    ·rw [if_neg c6] at H
     have c6b0 : (a0.toList == ([116, 114, 117, 101] : List UInt8)) = false := beq_eq_false_iff_ne.mpr c6
     have c6b1 : (a0.toList != ([116, 114, 117, 101] : List UInt8)) = true := bne_iff_ne.mpr c6
     (first | rw [c6b0] | (simp only [i64_w, i32_w]; rw [c6b0]) | skip)
     have H' := Aside0.mk H
     clear H
     go_wp2
     go_meet
     case rel => exact ⟨_, ((a0.toList == ([102, 97, 108, 115, 101] : List UInt8))), (by first | rfl | (simp; done) | (simp [*]; done)), H', ⟨by first | omega | exact Nat.le_refl _⟩, by repeat (first | exact Drawn0.refl _ | apply Drawn0.step)⟩
   case rest =>
    clear HC5
    try clear p2
    try clear c3
    try clear c3b0
    try clear c3b1
    try clear c4
    try clear c4b0
    try clear c4b1
    try clear c6
    try clear c6b0
    try clear c6b1
    obtain ⟨kq, x13_4, rfl, HA, HJ4, ⟨mc4, rfl⟩⟩ := hcut
    cases kq with
    | zero => exact absurd HA.out (by simp [impl_typed.j0])
    |succ kj4 =>
     have H := HA.out
     clear HA
     simp only [impl_typed.j0] at H
     by_cases c7 : x13_4 = true
     ·subst c7
      have H1 : (some (a1.toList == ([33, 33, 98, 111, 111, 108] : List UInt8))) = some r := by rw [if_pos rfl] at H; exact H
      clear H
      have H := H1
      clear H1
      obtain rfl := Option.some.inj H
      go_wp2
      go_ret
      exact ⟨by first | rfl | (simp; done) | (simp [*]; done), by repeat (first | exact Drawn0.refl _ | apply Drawn0.step)⟩
     ·replace c7 := Bool.eq_false_iff.mpr c7
      subst c7
      have H1 : ((impl_digits.f kj4 a0).bind fun t109 => (if t109 = true then (some (a1.toList == ([33, 33, 105, 110, 116] : List UInt8))) else (if a1.toList = ([33, 33, 115, 116, 114] : List UInt8) then (if 0 < (a0.size : Int) then (some (decide ((bt a0 0) > 57))) else (none)) else (some false)))) = some r := by rw [if_neg (show ¬ (false = true) by decide)] at H; exact H
      clear H
      have H := H1
      clear H1
      replace H := Option.bind_eq_some_iff.mp H
      obtain ⟨t109, A80, H⟩ := H
      replace H : (if t109 = true then (some (a1.toList == ([33, 33, 105, 110, 116] : List UInt8))) else (if a1.toList = ([33, 33, 115, 116, 114] : List UInt8) then (if 0 < (a0.size : Int) then (some (decide ((bt a0 0) > 57))) else (none)) else (some false))) = some r := H
      have A8 := Aside0.mk A80
      clear A80
      by_cases c9 : t109 = true
      ·subst c9
       have H1 : (some (a1.toList == ([33, 33, 105, 110, 116] : List UInt8))) = some r := by rw [if_pos rfl] at H; exact H
       clear H
       have H := H1
       clear H1
       obtain rfl := Option.some.inj H
       go_wp2_with (first | ((with_reducible refine gate_callee (f := 65) rfl ?_); refine goesL_ (some 24) rfl rfl Tryz.func65 (by kernel_rfl) rfl #[.string a0] rfl (by (try simp only [List.map_toArray, List.map_cons, List.map_nil]); first | done | rfl | (simp only [List.length_drop, List.length_take]; rfl)) ?_; (with_reducible refine (impl_digits.calls kj4 a0 true _ A8.out).mono ?_); rintro e w' ⟨rfl, ⟨nd, rfl⟩⟩; refine ⟨_, rfl, ?_⟩))
       go_ret
       exact ⟨by first | rfl | (simp; done) | (simp [*]; done), by repeat (first | exact Drawn0.refl _ | apply Drawn0.step)⟩
      ·replace c9 := Bool.eq_false_iff.mpr c9
       subst c9
       have H1 : (if a1.toList = ([33, 33, 115, 116, 114] : List UInt8) then (if 0 < (a0.size : Int) then (some (decide ((bt a0 0) > 57))) else (none)) else (some false)) = some r := by rw [if_neg (show ¬ (false = true) by decide)] at H; exact H
       clear H
       have H := H1
       clear H1
       by_cases c10 : a1.toList = ([33, 33, 115, 116, 114] : List UInt8)
       ·rw [if_pos c10] at H
        have c10b0 : (a1.toList == ([33, 33, 115, 116, 114] : List UInt8)) = true := beq_iff_eq.mpr c10
        have c10b1 : (a1.toList != ([33, 33, 115, 116, 114] : List UInt8)) = false := bne_eq_false_iff_eq.mpr c10
        clear c10
        by_cases c11 : 0 < (a0.size : Int)
        ·rw [if_pos c11] at H
         have c11b0 : decide (0 < (a0.size : Int)) = true := decide_eq_true c11
         have c11b1 : decide (0 < a0.size) = true := decide_eq_true (by omega)
         clear c11
         obtain rfl := Option.some.inj H
         go_wp2_with (first | ((with_reducible refine gate_callee (f := 65) rfl ?_); refine goesL_ (some 24) rfl rfl Tryz.func65 (by kernel_rfl) rfl #[.string a0] rfl (by (try simp only [List.map_toArray, List.map_cons, List.map_nil]); first | done | rfl | (simp only [List.length_drop, List.length_take]; rfl)) ?_; (with_reducible refine (impl_digits.calls kj4 a0 false _ A8.out).mono ?_); rintro e w' ⟨rfl, ⟨nd, rfl⟩⟩; refine ⟨_, rfl, ?_⟩; have p12 : 0 ≤ (0 : Int) := (by omega); have q12 : 0 < a0.size := (by have : (0 : Int) < (a0.size : Int) := of_decide_eq_true (by first | (with_reducible assumption) | assumption); omega); have hx12 : ∀ h : 0 < a0.size, ((a0[0]'h).toNat : Int) = bt a0 0 := bt_at a0 0; clear p12; have qi12 : (0 < (a0.size : Int)) = True := eq_true (of_decide_eq_true (by first | (with_reducible assumption) | assumption)); replace q12 := eq_true q12))
         go_ret
         exact ⟨by first | rfl | (simp; done) | (simp [*]; done), by repeat (first | exact Drawn0.refl _ | apply Drawn0.step)⟩
        ·rw [if_neg c11] at H
         exact absurd H (by simp)
       ·rw [if_neg c10] at H
        have c10b0 : (a1.toList == ([33, 33, 115, 116, 114] : List UInt8)) = false := beq_eq_false_iff_ne.mpr c10
        have c10b1 : (a1.toList != ([33, 33, 115, 116, 114] : List UInt8)) = true := bne_iff_ne.mpr c10
        obtain rfl := Option.some.inj H
        go_wp2_with (first | ((with_reducible refine gate_callee (f := 65) rfl ?_); refine goesL_ (some 24) rfl rfl Tryz.func65 (by kernel_rfl) rfl #[.string a0] rfl (by (try simp only [List.map_toArray, List.map_cons, List.map_nil]); first | done | rfl | (simp only [List.length_drop, List.length_take]; rfl)) ?_; (with_reducible refine (impl_digits.calls kj4 a0 false _ A8.out).mono ?_); rintro e w' ⟨rfl, ⟨nd, rfl⟩⟩; refine ⟨_, rfl, ?_⟩))
        go_ret
        exact ⟨by first | rfl | (simp; done) | (simp [*]; done), by repeat (first | exact Drawn0.refl _ | apply Drawn0.step)⟩
def slices_Index_string_string.l0 : Nat → List ByteArray → ByteArray → Int → Int → Option (Int)
 | 0, _, _, _, _ => none
 | k + 1, x0, x1, x7, x8 => if x8 < x7 then (if 0 ≤ x8 then (if x8 < (x0.length : Int) then (if x1.toList = (rdOf ByteArray.empty x0 x8).toList then (some x8) else (slices_Index_string_string.l0 k x0 x1 x7 (wrap64 (x8 + 1)))) else (none)) else (none)) else (some (-1))
def slices_Index_string_string.f (k : Nat) (l0 : List ByteArray) (a1 : ByteArray) : Option (Int) := slices_Index_string_string.l0 k l0 a1 (l0.length : Int) 0
theorem slices_Index_string_string.mono_l : ∀ k, (∀ y0 y1 y2 y3, LeO (slices_Index_string_string.l0 k y0 y1 y2 y3) (slices_Index_string_string.l0 (k + 1) y0 y1 y2 y3))
 | 0 => fun _ _ _ _ r h => by simp [slices_Index_string_string.l0] at h
 |k + 1 => by
  have ih0 := slices_Index_string_string.mono_l k
  ·intro y0 y1 y2 y3
   unfold slices_Index_string_string.l0
   repeat' first
   | (with_reducible exact ih0 _ _ _ _)
   | (with_reducible exact LeO.refl _)
   | (with_reducible exact LeO.none _)
   | (with_reducible refine LeO.ite ?_ ?_)
   | (with_reducible refine LeO.bind ?_ (fun _ => ?_))
   | exact ih0 _ _ _ _
   | exact LeO.none _
   | refine LeO.ite ?_ ?_
   | refine LeO.bind ?_ (fun _ => ?_)
theorem slices_Index_string_string.mono : ∀ a0 a1 k, LeO (slices_Index_string_string.f k a0 a1) (slices_Index_string_string.f (k + 1) a0 a1) := by
 intro a0 a1 k
 have ih0 := slices_Index_string_string.mono_l k
 unfold slices_Index_string_string.f
 repeat' first
   | (with_reducible exact ih0 _ _ _ _)
   | (with_reducible exact LeO.refl _)
   | (with_reducible exact LeO.none _)
   | (with_reducible refine LeO.ite ?_ ?_)
   | (with_reducible refine LeO.bind ?_ (fun _ => ?_))
   | exact ih0 _ _ _ _
   | exact LeO.none _
   | refine LeO.ite ?_ ?_
   | refine LeO.bind ?_ (fun _ => ?_)
set_option maxHeartbeats 8000000 in
set_option maxRecDepth 100000 in
theorem slices_Index_string_string.calls (k : Nat) (A0 : Option Addr) (c0 : Nat) (l0 : List ByteArray) (a1 : ByteArray) (r : Int) (w : World) (hr0 : Kd.C Kd.string w A0 l0.length l0) (hc0 : l0.length ≤ c0) (h : slices_Index_string_string.f k l0 a1 = some r) :
  Calls Tryz.prog 66 #[.slice A0 l0.length c0, .string a1] w fun e w' => e = .returned (.int .i64 r) ∧ Drawn0 w w' := by
 have HR0 := Aside0.mk hr0
 have HC0 := Aside0.mk hc0
 clear hr0 hc0
 have H : (slices_Index_string_string.l0 k l0 a1 (l0.length : Int) 0) = some r := h
 clear h
 have H' := Aside0.mk H
 clear H
 go_enter Tryz.func66, Tryz.ntmps66
 go_wp2
 go_loopg [8] k (fun kq v8 w' => ∃ (x8_1 : Int), v8 = .int .i64 x8_1 ∧ Aside0 (slices_Index_string_string.l0 kq l0 a1 (l0.length : Int) x8_1 = some r) ∧ Aside0 (kq ≤ k) ∧ Drawn0 w w')
 case atStart => exact ⟨(0), (by first | rfl | (simp; done) | (simp [*]; done)), H', ⟨Nat.le_refl _⟩, by repeat (first | exact Drawn0.refl _ | apply Drawn0.step)⟩
 case round =>
  clear H'
  try clear p2
  obtain ⟨x8_1, rfl, HA, HK1, ⟨m1, rfl⟩⟩ := hrel
  cases gk with
  | zero => exact absurd HA.out (by simp [slices_Index_string_string.l0])
  |succ k1 =>
   have H := HA.out
   clear HA
   simp only [slices_Index_string_string.l0] at H
   by_cases c3 : x8_1 < (l0.length : Int)
   ·rw [if_pos c3] at H
    have c3b0 : decide (x8_1 < (l0.length : Int)) = true := decide_eq_true c3
    clear c3
    by_cases c4 : 0 ≤ x8_1
    ·rw [if_pos c4] at H
     have c4b0 : decide (0 ≤ x8_1) = true := decide_eq_true c4
     clear c4
     by_cases c5 : x8_1 < (l0.length : Int)
     ·rw [if_pos c5] at H
      have c5b0 : decide (x8_1 < (l0.length : Int)) = true := decide_eq_true c5
      clear c5
      by_cases c6 : a1.toList = (rdOf ByteArray.empty l0 x8_1).toList
      ·rw [if_pos c6] at H
       have c6b0 : (a1.toList == (rdOf ByteArray.empty l0 x8_1).toList) = true := beq_iff_eq.mpr c6
       have c6b1 : (a1.toList != (rdOf ByteArray.empty l0 x8_1).toList) = false := bne_eq_false_iff_eq.mpr c6
       clear c6
       obtain rfl := Option.some.inj H
       have p110 : 0 ≤ (x8_1 : Int) := of_decide_eq_true (by first | (with_reducible assumption) | assumption)
       have q110 : x8_1 < (l0.length : Int) := of_decide_eq_true (by first | (with_reducible assumption) | assumption)
       obtain ⟨ad110, e110, hx110_0⟩ := Kd.at_string HR0.out x8_1 p110 q110
       cases e110
       replace p110 := eq_true p110
       replace q110 := eq_true q110
       go_wp2
       go_ret
       exact ⟨by first | rfl | (simp; done) | (simp [*]; done), by repeat (first | exact Drawn0.refl _ | apply Drawn0.step)⟩
      ·rw [if_neg c6] at H
       have c6b0 : (a1.toList == (rdOf ByteArray.empty l0 x8_1).toList) = false := beq_eq_false_iff_ne.mpr c6
       have c6b1 : (a1.toList != (rdOf ByteArray.empty l0 x8_1).toList) = true := bne_iff_ne.mpr c6
       have H' := Aside0.mk H
       clear H
       have p110 : 0 ≤ (x8_1 : Int) := of_decide_eq_true (by first | (with_reducible assumption) | assumption)
       have q110 : x8_1 < (l0.length : Int) := of_decide_eq_true (by first | (with_reducible assumption) | assumption)
       obtain ⟨ad110, e110, hx110_0⟩ := Kd.at_string HR0.out x8_1 p110 q110
       cases e110
       replace p110 := eq_true p110
       replace q110 := eq_true q110
       go_wp2
       go_roundg k1
       case measure => have := HK1.out; omega
       case rel => exact ⟨(wrap64 (x8_1 + 1)), (by first | rfl | (simp; done) | (simp [*]; done)), H', ⟨by have := HK1.out; omega⟩, by repeat (first | exact Drawn0.refl _ | apply Drawn0.step)⟩
     ·rw [if_neg c5] at H
      exact absurd H (by simp)
    ·rw [if_neg c4] at H
     exact absurd H (by simp)
   ·rw [if_neg c3] at H
    have c3b0 : decide (x8_1 < (l0.length : Int)) = false := decide_eq_false c3
    clear c3
    obtain rfl := Option.some.inj H
    go_wp2
    go_ret
    exact ⟨by first | rfl | (simp; done) | (simp [*]; done), by repeat (first | exact Drawn0.refl _ | apply Drawn0.step)⟩
def slices_Contains_string_string.f (k : Nat) (l0 : List ByteArray) (a1 : ByteArray) : Option (Bool) := (slices_Index_string_string.f k l0 a1).bind fun t111 => (some (decide (t111 ≥ 0)))
theorem slices_Contains_string_string.mono : ∀ a0 a1 k, LeO (slices_Contains_string_string.f k a0 a1) (slices_Contains_string_string.f (k + 1) a0 a1) := by
 intro a0 a1 k
 unfold slices_Contains_string_string.f
 repeat' first
   | (with_reducible exact slices_Index_string_string.mono _ _ _)
   | (with_reducible exact LeO.refl _)
   | (with_reducible exact LeO.none _)
   | (with_reducible refine LeO.ite ?_ ?_)
   | (with_reducible refine LeO.bind ?_ (fun _ => ?_))
   | exact slices_Index_string_string.mono _ _ _
   | exact LeO.none _
   | refine LeO.ite ?_ ?_
   | refine LeO.bind ?_ (fun _ => ?_)
set_option maxHeartbeats 8000000 in
set_option maxRecDepth 100000 in
theorem slices_Contains_string_string.calls (k : Nat) (A0 : Option Addr) (c0 : Nat) (l0 : List ByteArray) (a1 : ByteArray) (r : Bool) (w : World) (hr0 : Kd.C Kd.string w A0 l0.length l0) (hc0 : l0.length ≤ c0) (h : slices_Contains_string_string.f k l0 a1 = some r) :
  Calls Tryz.prog 49 #[.slice A0 l0.length c0, .string a1] w fun e w' => e = .returned (.bool r) ∧ Drawn0 w w' := by
 have HR0 := Aside0.mk hr0
 have HC0 := Aside0.mk hc0
 clear hr0 hc0
 have H : ((slices_Index_string_string.f k l0 a1).bind fun t111 => (some (decide (t111 ≥ 0)))) = some r := h
 clear h
 replace H := Option.bind_eq_some_iff.mp H
 obtain ⟨t111, A30, H⟩ := H
 replace H : (some (decide (t111 ≥ 0))) = some r := H
 have A3 := Aside0.mk A30
 clear A30
 obtain rfl := Option.some.inj H
 go_enter Tryz.func49, Tryz.ntmps49
 go_wp2_with (first | ((with_reducible refine gate_callee (f := 66) rfl ?_); refine goesL_ (some 7) rfl rfl Tryz.func66 (by kernel_rfl) rfl #[.slice A0 l0.length c0, .string a1] rfl (by (try simp only [List.map_toArray, List.map_cons, List.map_nil]); first | done | rfl | (simp only [List.length_drop, List.length_take]; rfl)) ?_; (with_reducible refine (slices_Index_string_string.calls k _ _ l0 a1 t111 _ ?side1 ?side2 A3.out).mono ?_); (case side1 => repeat (first | exact HR0.out | (with_reducible refine Kd.C_alloc ?_ _) | (with_reducible refine Kd.C_drewN ?_ _) | (with_reducible refine Kd.C_drew ?_))); (case side2 => exact HC0.out); rintro e w' ⟨rfl, ⟨nd, rfl⟩⟩; refine ⟨_, rfl, ?_⟩))
 go_ret
 exact ⟨by first | rfl | (simp; done) | (simp [*]; done), by repeat (first | exact Drawn0.refl _ | apply Drawn0.step)⟩
end Go.Proofs.YtkpdkoafngjflaaGreat.PFnFields
