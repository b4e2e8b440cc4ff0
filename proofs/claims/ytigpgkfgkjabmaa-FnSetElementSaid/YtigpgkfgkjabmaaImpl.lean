/-
  The thin package: a tree laid and told; a closure that is tried.
-/
import Derived.Test.YtigpgkfgkjabmaaTold
import Derived.Defers
import Derived.Recover
namespace Go.Proofs.Ytigpgkfgkjabmaa
open Go.RowKit Go.Proofs.YtigpgkfgkjabmaaW.PrintWords Go.Proofs.YtigpgkfgkjabmaaW.PrintLast Go.Proofs.Ytigpgkfgkjabmaa.PFnFields
set_option linter.unusedVariables false
set_option linter.unusedSimpArgs false

theorem catch_idle (p : Addr) (w : World) :
    CallsD Try.prog 62 #[.pointer (some p)] .returning w fun e u' w' => u' = .returning ∧ e = .returned (.tuple #[]) ∧ w = w' := by
  refine callsD_of_wpS Try.func62 rfl fun c₀ cs hu => ?_
  apply wpS_seq
  apply wpS_region
  simp [wpOpsS, go_sem, recoverD, hu, Try.ntmps62, Exit.thenS]
  refine wpS_cond (t := false) (by simp [Act.eval, Array.replicate]) ?_
  simp
  refine wpS_of_wp (wp_skip ?_)
  cases c₀
  simp_all [bodyPostS, results, Try.results62]

/-- What is tried ends well: the closure's answer is handed back, behind what the closure left (S: what it may turn of what was there). -/
theorem tried_calls (w : World) (f : FuncId) (cap : Array Value) (S : Nat → Prop) (Q : Bool → World → Prop) (hS : ∀ k, S k → k < w.heap.size)
    (h : ∀ wa, Below w.heap.size w wa → w.heap.size < wa.heap.size → Calls Try.prog f cap wa fun e w' => ∃ b, e = .returned (.bool b) ∧ Q b w' ∧ Chg S wa w') (hf : ∀ wa, (callFunc f cap).run Try.prog wa = .ok (.enter f cap) wa) :
    Calls Try.prog 35 #[.func (.func f) #[] cap] w fun e w' => ∃ b w1, e = .returned (.bool b) ∧ Q b w1 ∧ Chg (fun k => k = w.heap.size) w1 w' ∧ Chg S w w1 := by
  have hmf : ∀ (fn : Fn) (first cap : Array Value) (w : World), (Instr.makeFunc fn first cap).run Try.prog w = .ok (.func fn first cap) w := fun _ _ _ _ => rfl
  have H := Aside0.mk h
  clear h
  go_enter_defers Try.func35, Try.ntmps35
  go_wp2_with fail
  refine (H.out _ ((Below.refl _ _).alloc (Nat.le_refl _) _) (by simp)).mono ?_
  rintro e w1 ⟨b, rfl, hq, hc⟩
  have hblk : w1.heap[w.heap.size]? = some (.cells #[.bool false] 4 (0, 0)) := (hc.block _ (by simp) (fun q => by have := hS _ q; omega)).trans (heap_at _ rfl)
  have hcell : w1.cell? ⟨w.heap.size, 0, none⟩ = some (.bool false) := by rw [cell_of_block hblk]; rfl
  have hfr : w1.frozen? ⟨w.heap.size, 0, none⟩ = false := frozen_of_block hblk
  have HQ := Aside0.mk hq
  have HC := Aside0.mk hc
  have HBK := Aside0.mk hblk
  clear hq hc hblk
  go_wp2
  refine leaves_cons (f := 62) (args := #[.pointer (some ⟨w.heap.size, 0, none⟩)]) (by simp) (by simp [go_sem]) ?_
  refine (catch_idle ⟨w.heap.size, 0, none⟩ _).mono ?_
  rintro e u' w'' ⟨rfl, rfl, rfl⟩
  have hb2 := heap_set (a := ⟨w.heap.size, 0, none⟩) (v := .bool b) HBK.out rfl
  have hcell2 : (w1.setCell ⟨w.heap.size, 0, none⟩ (.bool b)).cell? ⟨w.heap.size, 0, none⟩ = some (.bool b) := by
    rw [cell_of_block hb2]; rfl
  refine ⟨.bool b, ?_, ?_⟩
  · simp [results, Try.results35, go_sem, hcell2]
  · refine ⟨b, w1, rfl, HQ.out, (Chg.refl (fun k => k = w.heap.size) w1).setCell (p := ⟨w.heap.size, 0, none⟩) (.inl rfl) _, ?_⟩
    exact ((Chg.refl S w).alloc _).trans HC.out (fun k q => .inl q)

/-- A tree is laid in new memory, behind an RNode. -/
theorem rnodeOf0_calls (d : Nat) (x : S25) (w : World) (cs : List Value) (hK : k25.K w x cs) (hS : Sh d x) :
    Calls Try.prog 37 #[.agg cs.toArray] w fun e w' => ∃ r b, e = .returned (ptr r) ∧ RN0 w' r b ∧ w.heap.size ≤ r ∧ YN w' (fun k => w.heap.size ≤ k ∧ k ≠ r) b (toY d x) ∧ Below w.heap.size w w' := by
  obtain ⟨A3, c3, A4, c4, rfl, l3, g3, l4, g4⟩ := k25_open hK
  have hu := Try.underlying25
  have h0 : (x.f0 == 0) = false := by
    cases d with
    | zero => exact hS.elim
    | succ d => rcases hS.2 with h | ⟨h, _⟩ | ⟨h, _⟩ <;> rw [h] <;> rfl
  have HK := Aside0.mk hK
  have HS := Aside0.mk hS
  clear hK hS g3 g4
  go_enter Try.func37, Try.ntmps37
  go_wp2_with (first | (go_at_call 54; refine (treeOf_calls d x _ [.int .i64 x.f0, .string x.f1, .string x.f2, .slice A3 x.f3.length c3, .slice A4 x.f4.length c4] (k25.K_below ((Below.refl _ _).alloc (Nat.le_refl _) _) HK.out) HS.out).mono ?_; rintro e w1 ⟨b, rfl, hy, hb1⟩; have HY := Aside0.mk hy; have HB := Aside0.mk hb1; clear hy hb1) | (go_at_call 63; refine (newrnode_calls _ b).mono ?_; rintro e w2 ⟨rfl, rfl⟩))
  go_ret
  have hb0 : Below w.heap.size w w1 := ((Below.refl _ _).alloc (Nat.le_refl _) _).trans (HB.out.mono (by simp))
  have hs := HB.out.size
  simp only [World.size_alloc] at hs
  refine ⟨w1.heap.size, b, rfl, RN0.new w1 b, by omega, ?_, hb0.alloc hb0.size _⟩
  refine YN.move (fun k q => ?_) (fun k q hlt => heap_old _ hlt) HY.out.lt
  simp only [World.size_alloc] at q
  exact ⟨by omega, by omega⟩

theorem rnodeOf_calls (d : Nat) (x : S25) (w : World) (cs : List Value) (hK : k25.K w x cs) (hS : Sh d x) :
    Calls Try.prog 37 #[.agg cs.toArray] w fun e w' => ∃ r b, e = .returned (ptr r) ∧ RN w' r b ∧ w.heap.size ≤ r ∧ YN w' (fun k => w.heap.size ≤ k ∧ k ≠ r) b (toY d x) ∧ Below w.heap.size w w' :=
  (rnodeOf0_calls d x w cs hK hS).mono fun _ _ ⟨r, b, h1, h2, h3⟩ => ⟨r, b, h1, h2.rn, h3⟩

/-- A tree is told. -/
theorem told_calls (d : Nat) (y : Y) (w : World) (r b : Nat) (F : Nat → Prop) (hr : RN w r b) (hY : YN w F b y) (hS : YSh d y) (hl : Live y.kind y.tag) (o : S25) (ho : ofY d y = o) :
    Calls Try.prog 45 #[ptr r] w fun e w' => ∃ A3 n3 c3 A4 n4 c4, e = .returned (.agg #[.int .i64 o.f0, .string o.f1, .string o.f2, .slice A3 n3 c3, .slice A4 n4 c4]) ∧
      k25.M w' w.heap.size (fun _ => True) o [.int .i64 o.f0, .string o.f1, .string o.f2, .slice A3 n3 c3, .slice A4 n4 c4] ∧ Below w.heap.size w w' := by
  obtain ⟨_, cv, bs, hn, _⟩ := hY.open_
  have HN : Aside0 (NB w b y.kind y.tag y.value cv) := ⟨hn⟩
  have HR := Aside0.mk hr
  have HY := Aside0.mk hY
  have HS := Aside0.mk hS
  have HL := Aside0.mk hl
  have hu := Try.underlying25
  clear hr hY hS hl hn
  go_enter Try.func45, Try.ntmps45
  have hb0 : ∀ o, Below w.heap.size w (w.alloc o) := fun o => (Below.refl _ _).alloc (Nat.le_refl _) _
  have HO := Aside0.mk ho
  clear ho
  go_wp2_with (first | (go_at_call 72; refine (ynode_calls _ r b (HR.out.below (hb0 _)) _ _ _ _ (HN.out.below (hb0 _)) HL.out).mono ?_; rintro e w' ⟨rfl, rfl⟩) | (go_at_call 71; fail))
  refine (nodeOf_lit d y b F _ (HY.out.below (hb0 _)) HS.out o HO.out).mono ?_
  rintro e w1 ⟨A3, n3, c3, A4, n4, c4, rfl, him, hb1⟩
  have HB := Aside0.mk hb1
  have hw1 : w1.heap[w.heap.size]? = some (.cells #[.int .i64 0, .string ⟨#[]⟩, .string ⟨#[]⟩, .slice none 0 0, .slice none 0 0] 25 (0, 0)) := (hb1.block _ (by simp)).trans (heap_at _ rfl)
  have HW1 := Aside0.mk hw1
  have HIM := Aside0.mk (k25.M_lower (show w.heap.size + 1 ≤ _ by simp) him)
  clear him hb1 hw1
  have cr0 := (cell_of_block (i := 0) HW1.out).trans (show _ = some _ from rfl); have cr1 := (cell_of_block (i := 1) HW1.out).trans (show _ = some _ from rfl); have cr2 := (cell_of_block (i := 2) HW1.out).trans (show _ = some _ from rfl); have cr3 := (cell_of_block (i := 3) HW1.out).trans (show _ = some _ from rfl); have cr4 := (cell_of_block (i := 4) HW1.out).trans (show _ = some _ from rfl); have zr0 := frozen_of_block (i := 0) HW1.out; have zr1 := frozen_of_block (i := 1) HW1.out; have zr2 := frozen_of_block (i := 2) HW1.out; have zr3 := frozen_of_block (i := 3) HW1.out; have zr4 := frozen_of_block (i := 4) HW1.out
  go_wp2
  obtain ⟨wf, ef, hf, hcf⟩ := set5 (v0 := .int .i64 o.f0) (v1 := .string o.f1) (v2 := .string o.f2) (v3 := .slice A3 n3 c3) (v4 := .slice A4 n4 c4) HW1.out
  rw [ef]
  have HF := Aside0.mk hf
  have cf0 := (cell_of_block (i := 0) HF.out).trans (show _ = some _ from rfl); have cf1 := (cell_of_block (i := 1) HF.out).trans (show _ = some _ from rfl); have cf2 := (cell_of_block (i := 2) HF.out).trans (show _ = some _ from rfl); have cf3 := (cell_of_block (i := 3) HF.out).trans (show _ = some _ from rfl); have cf4 := (cell_of_block (i := 4) HF.out).trans (show _ = some _ from rfl); have zf0 := frozen_of_block (i := 0) HF.out; have zf1 := frozen_of_block (i := 1) HF.out; have zf2 := frozen_of_block (i := 2) HF.out; have zf3 := frozen_of_block (i := 3) HF.out; have zf4 := frozen_of_block (i := 4) HF.out
  clear cr0 cr1 cr2 cr3 cr4 zr0 zr1 zr2 zr3 zr4 hf ef
  refine bodyPost_ret (v := .agg #[.int .i64 o.f0, .string o.f1, .string o.f2, .slice A3 n3 c3, .slice A4 n4 c4]) (by simp [results, Try.results45, go_sem, cf0, cf1, cf2, cf3, cf4]) rfl ⟨A3, n3, c3, A4, n4, c4, rfl, ?_, ?_⟩
  · refine k25.M_lower (show w.heap.size ≤ w.heap.size + 1 by omega) (k25.M_mono (fun _ _ => trivial) (k25.M_move (w := w1) (fun k hk => ?_) (k25.M_bound HIM.out)))
    exact hcf.block k hk.2.2.1 (fun q => by have := hk.2.1; omega)
  · have hb2 := (hb0 _).trans (HB.out.mono (show w.heap.size ≤ _ by simp))
    exact hb2.trans (hcf.below hb2.size (fun k q => by omega))
end Go.Proofs.Ytigpgkfgkjabmaa
