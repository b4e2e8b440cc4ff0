/-
  impl.Elements.
-/
import Derived.Test.YtigpgkfgkjabmaaElemA
namespace Go.Proofs.Ytigpgkfgkjabmaa
open Go.RowKit Go.Proofs.YtigpgkfgkjabmaaW.PrintWords Go.Proofs.YtigpgkfgkjabmaaW.PrintLast Go.Proofs.Ytigpgkfgkjabmaa.PFnFields
set_option linter.unusedVariables false
set_option linter.unusedSimpArgs false

def ElementsPost (w : World) (x : S25) (e : Ending) (w' : World) : Prop :=
  Below w.heap.size w w' ∧ ∃ iv, e = .returned (.tuple #[iv, .bool true]) ∧ k25.R 25 w' w.heap.size (fun _ => True) iv x.f4
def E1Out (w' : World) (o base : Nat) (xs : List S25) : Prop := ∃ iv, w'.heap[o]? = some (.cells #[iv] 23 (0, 0)) ∧ k25.R 25 w' base (fun _ => True) iv xs
set_option maxRecDepth 100000 in
set_option maxHeartbeats 800000 in
theorem elements_calls (x : S25) (hx : Tree x) (h3 : x.f0 = 3) (w : World) (A3 : Option Addr) (c3 : Nat) (A4 : Option Addr) (c4 : Nat)
    (hK : k25.K w x [.int .i64 x.f0, .string x.f1, .string x.f2, .slice A3 x.f3.length c3, .slice A4 x.f4.length c4]) :
    Calls Try.prog 30 #[.agg #[.int .i64 x.f0, .string x.f1, .string x.f2, .slice A3 x.f3.length c3, .slice A4 x.f4.length c4]] w (ElementsPost w x) := by
  have hu := Try.underlying25
  have hmf : ∀ (fn : Fn) (first cap : Array Value) (w : World), (Instr.makeFunc fn first cap).run Try.prog w = .ok (.func fn first cap) w := fun _ _ _ _ => rfl
  have HX := Aside0.mk (And.intro hx h3)
  have HK := Aside0.mk hK
  clear hx h3 hK
  go_enter Try.func30, Try.ntmps30
  go_wp2_with fail
  obtain ⟨w0, e0⟩ : ∃ w0, w0 = (w.alloc (.cells #[.int .i64 x.f0, .string x.f1, .string x.f2, .slice A3 x.f3.length c3, .slice A4 x.f4.length c4] 25)).alloc (.cells #[.slice none 0 0] 23) := ⟨_, rfl⟩
  rw [← e0]
  have hb0 : Below w.heap.size w w0 := by rw [e0]; exact ((Below.refl _ _).alloc (Nat.le_refl _) _).alloc (by simp) _
  have hw3 : w0.heap[w.heap.size + 1]? = some (.cells #[.slice none 0 0] 23 (0, 0)) := by rw [e0]; exact heap_at _ (by simp)
  have hw4 : inVar w0 w.heap.size x A3 c3 A4 c4 := by rw [e0]; exact (heap_old _ (by simp)).trans (heap_at _ rfl)
  have H0 := Aside0.mk (And.intro hb0 (And.intro hw3 hw4))
  clear hb0 hw3 hw4 e0
  refine (right_calls x w0 A3 c3 A4 c4 (k25.K_below H0.out.1 HK.out) HX.out.1).mono ?_
  rintro e w1 ⟨rfl, hb1⟩
  have hw3 := (hb1.block _ (lt_of_block H0.out.2.1)).trans H0.out.2.1
  have hw4 := (hb1.block _ (lt_of_block H0.out.2.2)).trans H0.out.2.2
  have H1 := Aside0.mk (And.intro (H0.out.1.trans (hb1.mono H0.out.1.size)) (And.intro hw3 hw4))
  clear hb1 hw3 hw4
  go_wp2_with fail
  refine (tried_calls w1 56 #[.pointer (some ⟨w.heap.size, 0, none⟩), .pointer (some ⟨w.heap.size + 1, 0, none⟩)] (fun k => k = w.heap.size + 1) (fun b w' => b = true ∧ E1Out w' (w.heap.size + 1) (w1.heap.size + 1) x.f4)
    (fun k e => by rw [e]; exact lt_of_block H1.out.2.1) (fun wa hwa hws => ?_) (fun wa => enters_ Try.func56 rfl rfl _ wa)).mono ?_
  · refine (elems1_calls x HX.out.1 HX.out.2 wa w.heap.size (w.heap.size + 1) A3 c3 A4 c4 ((hwa.block _ (lt_of_block H1.out.2.2)).trans H1.out.2.2) ((hwa.block _ (lt_of_block H1.out.2.1)).trans H1.out.2.1) (k25.K_below (H1.out.1.trans (hwa.mono H1.out.1.size)) HK.out)).mono ?_
    rintro e w2 ⟨rfl, ⟨kvv, h1, h2⟩, h3⟩
    exact ⟨_, rfl, ⟨rfl, kvv, h1, Kd.R_lower h2 (by omega)⟩, h3⟩
  rintro e w2 ⟨r, w3, rfl, ⟨rfl, kvv, hq1, hq2⟩, hc1, hc2⟩
  have hl3 := lt_of_block H1.out.2.1
  have hs := H1.out.1.size
  have ho2 := (hc1.block _ (lt_of_block hq1) (by omega)).trans hq1
  have co : w2.cell? ⟨w.heap.size + 1, 0, none⟩ = some kvv := by rw [cell_of_block ho2]; rfl
  have hs3 := hc2.size
  have hr2 : k25.R 25 w2 w.heap.size (fun _ => True) kvv x.f4 := Kd.R_lower (R_upd hq2 (fun k _ hb hk => hc1.block k hk (by omega))) (by omega)
  have HB := Aside0.mk (And.intro (H1.out.1.trans ((hc2.below hs (fun k e => by omega)).trans (hc1.below (by omega) (fun k e => by omega)))) hr2)
  obtain ⟨A5, n5, c5, rfl⟩ : ∃ A1 n1 c1, kvv = .slice A1 n1 c1 := by obtain ⟨A1, c1, e⟩ := Kd.R_slice hr2; exact ⟨_, _, _, e⟩
  clear hc1 hc2 hq1 hq2 ho2 hl3 hs hs3 hr2
  go_wp2
  refine bodyPost_ret (v := .tuple #[.slice A5 n5 c5, .bool true]) (by simp [results, Try.results30, go_sem]) rfl ⟨HB.out.1, _, rfl, HB.out.2⟩
end Go.Proofs.Ytigpgkfgkjabmaa
