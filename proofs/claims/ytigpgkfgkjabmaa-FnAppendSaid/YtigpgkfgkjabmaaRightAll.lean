/-
  impl.rightAll: trees that are let in are right.
-/
import Derived.Test.YtigpgkfgkjabmaaOpen
namespace Go.Proofs.Ytigpgkfgkjabmaa
open Go.RowKit Go.Proofs.YtigpgkfgkjabmaaW.PrintWords Go.Proofs.YtigpgkfgkjabmaaW.PrintLast Go.Proofs.Ytigpgkfgkjabmaa.PFnFields
set_option linter.unusedVariables false
set_option linter.unusedSimpArgs false

theorem rightfn_calls (x : S25) (hx : Tree x) (w : World) (A3 : Option Addr) (c3 : Nat) (A4 : Option Addr) (c4 : Nat) (hK : k25.K w x [.int .i64 x.f0, .string x.f1, .string x.f2, .slice A3 x.f3.length c3, .slice A4 x.f4.length c4]) :
    Calls Try.prog 78 #[.agg #[.int .i64 x.f0, .string x.f1, .string x.f2, .slice A3 x.f3.length c3, .slice A4 x.f4.length c4]] w fun e w' => e = .returned (.bool false) ∧ Below w.heap.size w w' := by
  have hu := Try.underlying25
  have HX := Aside0.mk (And.intro hx hK)
  clear hx hK
  go_enter Try.func78, Try.ntmps78
  go_wp2_with fail
  have hb0 : ∀ o, Below w.heap.size w (w.alloc o) := fun o => (Below.refl _ _).alloc (Nat.le_refl _) _
  refine (right_calls x _ A3 c3 A4 c4 (k25.K_below (hb0 _) HX.out.2) HX.out.1).mono ?_
  rintro e w1 ⟨rfl, hb1⟩
  have HB := Aside0.mk ((hb0 _).trans (hb1.mono (hb0 _).size))
  clear hb0 hb1
  go_wp2
  go_ret
  exact ⟨rfl, HB.out⟩
set_option maxRecDepth 100000 in
theorem indexfn_calls (xs : List S25) (hx : ∀ x ∈ xs, Tree x) (w : World) (A : Option Addr) (c : Nat) (hC : k25.C w A xs.length xs) :
    Calls Try.prog 91 #[.slice A xs.length c, .func (.func 78) #[] #[]] w fun e w' => e = .returned (.int .i64 (-1)) ∧ Below w.heap.size w w' := by
  have hmx : xs.length ≤ 9223372036854775807 := hC.2.1
  have hf : ∀ (zs : Array Value) (wa : World), (callFunc 78 zs).run Try.prog wa = .ok (.enter 78 zs) wa := fun zs wa => enters_ Try.func78 rfl rfl zs wa
  have HC := Aside0.mk (And.intro hC hx)
  clear hC hx
  go_enter Try.func91, Try.ntmps91
  go_wp2_with fail
  go_loopg [8] xs.length (fun k i wr => ∃ j : Nat, i = .int .i64 j ∧ Aside0 (j ≤ xs.length ∧ k + j = xs.length) ∧ Aside0 (Below w.heap.size w wr))
  case atStart => exact ⟨0, rfl, ⟨by omega⟩, ⟨Below.refl _ _⟩⟩
  case round =>
    obtain ⟨j, rfl, HJ, HB⟩ := hrel
    by_cases hj : j < xs.length
    · generalize hyy : xs.getD j z25 = yy
      obtain ⟨am, P3, p3, P4, p4, e6, hKp, fp0, fp1, fp2, fp3, fp4⟩ := nodeAt HC.out.1 j hj yy hyy
      subst e6
      have old : ∀ {a : Addr} {v : Value}, w.cell? a = some v → wr.cell? a = some v := fun {a v} h => (HB.out.cell (World.block_lt_of_cell? w a h)).trans h
      have d0 := old fp0
      have d1 := old fp1
      have d2 := old fp2
      have d3 := old fp3
      have d4 := old fp4
      have hym : yy ∈ xs := by rw [← hyy, List.getD_eq_getElem?_getD, List.getElem?_eq_getElem hj]; exact List.getElem_mem _
      have HY := Aside0.mk (And.intro (HC.out.2 yy hym) (k25.K_below HB.out hKp))
      clear hyy hKp fp0 fp1 fp2 fp3 fp4 old hym
      go_wp2_with fail
      refine (rightfn_calls yy HY.out.1 wr P3 p3 P4 p4 HY.out.2).mono ?_
      rintro e w1 ⟨rfl, hb⟩
      have HB1 := Aside0.mk (HB.out.trans (hb.mono HB.out.size))
      clear hb d0 d1 d2 d3 d4
      go_wp2_with fail
      go_roundg (gk - 1)
      case measure => have := HJ.out; omega
      case rel => exact ⟨j + 1, by go_num, ⟨by have := HJ.out; omega⟩, HB1⟩
    · go_wp2_with fail
      go_ret
      exact ⟨rfl, HB.out⟩
theorem containsfn_calls (xs : List S25) (hx : ∀ x ∈ xs, Tree x) (w : World) (A : Option Addr) (c : Nat) (hC : k25.C w A xs.length xs) :
    Calls Try.prog 77 #[.slice A xs.length c, .func (.func 78) #[] #[]] w fun e w' => e = .returned (.bool false) ∧ Below w.heap.size w w' := by
  have HC := Aside0.mk (And.intro hC hx)
  clear hC hx
  go_enter Try.func77, Try.ntmps77
  go_wp2_with fail
  refine (indexfn_calls xs HC.out.2 w A c HC.out.1).mono ?_
  rintro e w1 ⟨rfl, hb⟩
  have HB := Aside0.mk hb
  clear hb
  go_wp2
  go_ret
  exact ⟨rfl, HB.out⟩
theorem rightAll_calls (xs : List S25) (hx : ∀ x ∈ xs, Tree x) (hl : xs.length ≤ 20) (w : World) (A : Option Addr) (c : Nat) (hC : k25.C w A xs.length xs) :
    Calls Try.prog 53 #[.slice A xs.length c] w fun e w' => e = .returned (.bool true) ∧ Below w.heap.size w w' := by
  have HC := Aside0.mk (And.intro hC hx)
  have hlb : decide ((xs.length : Int) ≤ 20) = true := by simp; omega
  clear hC hx
  go_enter Try.func53, Try.ntmps53
  go_wp2_with fail
  refine (containsfn_calls xs HC.out.2 w A c HC.out.1).mono ?_
  rintro e w1 ⟨rfl, hb⟩
  have HB := Aside0.mk hb
  clear hb
  go_wp2
  go_ret
  exact ⟨rfl, HB.out⟩
end Go.Proofs.Ytigpgkfgkjabmaa
