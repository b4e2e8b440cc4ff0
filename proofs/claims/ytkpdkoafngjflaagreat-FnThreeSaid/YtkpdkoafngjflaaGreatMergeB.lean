import Derived.Test.YtkpdkoafngjflaaGreatMerge
namespace Go.Proofs.YtkpdkoafngjflaaGreat
open Go.RowKit Go.Proofs.YtkpdkoafngjflaaGreatW.PrintWords Go.Proofs.YtkpdkoafngjflaaGreatW.PrintLast Go.Proofs.YtkpdkoafngjflaaGreat.PFnFields
set_option linter.unusedVariables false
set_option linter.unusedSimpArgs false
def MergePost (w : World) (Q : S25 → Prop) (e : Ending) (w' : World) : Prop := ∃ (R : S25) (A3 : Option Addr) (c3 : Nat) (A4 : Option Addr) (c4 : Nat), Q R ∧ e = .returned (.tuple #[nodeV R A3 c3 A4 c4, .bool true]) ∧ nodeK w' R A3 c3 A4 c4 ∧ Below w.heap.size w w'
set_option maxRecDepth 100000 in
set_option maxHeartbeats 6400000 in
theorem merge3_calls (w : World) (D O U : S25) (A3 : Option Addr) (c3 : Nat) (A4 : Option Addr) (c4 : Nat) (B3 : Option Addr) (d3 : Nat) (B4 : Option Addr) (d4 : Nat) (C3 : Option Addr) (e3 : Nat) (C4 : Option Addr) (e4 : Nat)
  (hK0 : nodeK w D A3 c3 A4 c4) (hK1 : nodeK w O B3 d3 B4 d4) (hK2 : nodeK w U C3 e3 C4 e4) (h2 : D.f0 = 2 ∧ O.f0 = 2 ∧ U.f0 = 2) (hok : OK3 6 D O U) (hf : Fit 6 D ∧ Fit 6 O ∧ Fit 6 U) (hw : ∀ R, MR 6 (some D) (some O) (some U) (some R) → Wf 6 R ∧ nodes 6 R ≤ 60) :
  Calls Tryz.prog 12 #[nodeV D A3 c3 A4 c4, nodeV O B3 d3 B4 d4, nodeV U C3 e3 C4 e4, .bool false] w (MergePost w (fun R => MR 6 (some D) (some O) (some U) (some R))) := by
 have hu := Tryz.underlying25
 have hmf : ∀ (fn : Fn) (first cap : Array Value) (w : World), (Instr.makeFunc fn first cap).run Tryz.prog w = .ok (.func fn first cap) w := fun _ _ _ _ => rfl
 have HK := Aside0.mk (And.intro hK0 (And.intro hK1 hK2))
 have HO := Aside0.mk (And.intro hok (And.intro hf (And.intro hw h2)))
 clear hK0 hK1 hK2 hok hf hw h2
 go_enter Tryz.func12, Tryz.ntmps12
 go_wp2_with fail
 obtain ⟨w0, e0⟩ : ∃ w0, w0 = (((((w.alloc (.cells #[.int .i64 D.f0, .string D.f1, .string D.f2, .slice A3 D.f3.length c3, .slice A4 D.f4.length c4] 25)).alloc (.cells #[.int .i64 O.f0, .string O.f1, .string O.f2, .slice B3 O.f3.length d3, .slice B4 O.f4.length d4] 25)).alloc (.cells #[.int .i64 U.f0, .string U.f1, .string U.f2, .slice C3 U.f3.length e3, .slice C4 U.f4.length e4] 25)).alloc (.cells #[.bool false] 4)).alloc (.cells #[.int .i64 0, .string ⟨#[]⟩, .string ⟨#[]⟩, .slice none 0 0, .slice none 0 0] 25)).alloc (.cells #[.int .i64 0, .string ⟨#[]⟩, .string ⟨#[]⟩, .slice none 0 0, .slice none 0 0] 25) := ⟨_, rfl⟩
 rw [← e0]
 have hb0 : Below w.heap.size w w0 := by rw [e0]; exact ((((((Below.refl _ _).alloc (Nat.le_refl _) _).alloc (by simp) _).alloc (by simp; omega) _).alloc (by simp; omega) _).alloc (by simp; omega) _).alloc (by simp; omega) _
 have hs0 : w0.heap.size = w.heap.size + 6 := by rw [e0]; simp
 have q0 : inVar w0 w.heap.size D A3 c3 A4 c4 := by rw [e0]; exact (heap_old _ (by simp; omega)).trans ((heap_old _ (by simp; omega)).trans ((heap_old _ (by simp; omega)).trans ((heap_old _ (by simp; omega)).trans ((heap_old _ (by simp)).trans (heap_at _ rfl)))))
 have q1 : inVar w0 (w.heap.size + 1) O B3 d3 B4 d4 := by rw [e0]; exact (heap_old _ (by simp)).trans ((heap_old _ (by simp)).trans ((heap_old _ (by simp)).trans ((heap_old _ (by simp)).trans (heap_at _ (by simp)))))
 have q2 : inVar w0 (w.heap.size + 1 + 1) U C3 e3 C4 e4 := by rw [e0]; exact (heap_old _ (by simp)).trans ((heap_old _ (by simp)).trans ((heap_old _ (by simp)).trans (heap_at _ (by simp))))
 have q3 : w0.heap[w.heap.size + 1 + 1 + 1]? = some (.cells #[.bool false] 4 (0, 0)) := by rw [e0]; exact (heap_old _ (by simp)).trans ((heap_old _ (by simp)).trans (heap_at _ (by simp)))
 have q4 : w0.heap[w.heap.size + 1 + 1 + 1 + 1]? = some (.cells #[.int .i64 0, .string ⟨#[]⟩, .string ⟨#[]⟩, .slice none 0 0, .slice none 0 0] 25 (0, 0)) := by rw [e0]; exact (heap_old _ (by simp)).trans (heap_at _ (by simp))
 have q5 : w0.heap[w.heap.size + 1 + 1 + 1 + 1 + 1]? = some (.cells #[.int .i64 0, .string ⟨#[]⟩, .string ⟨#[]⟩, .slice none 0 0, .slice none 0 0] 25 (0, 0)) := by rw [e0]; exact heap_at _ (by simp)
 have H0 := Aside0.mk (And.intro hb0 (And.intro hs0 (And.intro q0 (And.intro q1 (And.intro q2 (And.intro q3 (And.intro q4 q5)))))))
 clear hb0 hs0 q0 q1 q2 q3 q4 q5 e0
 have hz : ∀ x : S25, x.f0 = 2 → (x.f0 == 0) = false := fun x e => by rw [e]; rfl
 have HZ := Aside0.mk hz
 clear hz
 refine (taken_calls D HO.out.2.1.1 (HZ.out D HO.out.2.2.2.1) w0 A3 c3 A4 c4 (k25.K_below H0.out.1 HK.out.1)).mono ?_
 rintro e w1 ⟨rfl, hb1⟩
 have H1 := Aside0.mk (And.intro hb1 (H0.out.1.trans (hb1.mono H0.out.1.size)))
 have HO1 := Aside0.mk ((hb1.block _ (lt_of_block H0.out.2.2.2.1)).trans H0.out.2.2.2.1)
 clear hb1
 obtain ⟨co0, co1, co2, co3, co4, zo0, zo1, zo2, zo3, zo4⟩ := fc_ HO1.out
 go_wp2_with fail
 refine (taken_calls O HO.out.2.1.2.1 (HZ.out O HO.out.2.2.2.2.1) w1 B3 d3 B4 d4 (k25.K_below H1.out.2 HK.out.2.1)).mono ?_
 rintro e w2 ⟨rfl, hb2⟩
 have H2 := Aside0.mk (And.intro (H1.out.1.trans (hb2.mono H1.out.1.size)) (H1.out.2.trans (hb2.mono H1.out.2.size)))
 clear hb2
 have HU2 := Aside0.mk ((H2.out.1.block _ (lt_of_block H0.out.2.2.2.2.1)).trans H0.out.2.2.2.2.1)
 obtain ⟨cu0, cu1, cu2, cu3, cu4, zu0, zu1, zu2, zu3, zu4⟩ := fc_ HU2.out
 go_wp2_with fail
 refine (taken_calls U HO.out.2.1.2.2 (HZ.out U HO.out.2.2.2.2.2) w2 C3 e3 C4 e4 (k25.K_below H2.out.2 HK.out.2.2)).mono ?_
 rintro e w3 ⟨rfl, hb3⟩
 have H3 := Aside0.mk (And.intro (H2.out.1.trans (hb3.mono H2.out.1.size)) (H2.out.2.trans (hb3.mono H2.out.2.size)))
 clear hb3
 go_wp2_with fail
 refine (tried_calls w3 23 #[.pointer (some ⟨w.heap.size, 0, none⟩), .pointer (some ⟨w.heap.size + 1, 0, none⟩), .pointer (some ⟨w.heap.size + 1 + 1, 0, none⟩), .pointer (some ⟨w.heap.size + 1 + 1 + 1, 0, none⟩), .pointer (some ⟨w.heap.size + 1 + 1 + 1 + 1 + 1, 0, none⟩)] (fun k => k = w.heap.size + 1 + 1 + 1 + 1 + 1)
  (fun b w' => b = true ∧ ∃ R, MR 6 (some D) (some O) (some U) (some R) ∧ NodeAt w' (w3.heap.size + 1) (w.heap.size + 1 + 1 + 1 + 1 + 1) R)
  (fun k e => by have := H0.out.2.1; have := H3.out.1.size; omega) (fun wa hwa hws => ?_) (fun wa => enters_ Tryz.func23 rfl rfl _ wa)).mono ?_
 ·have hba : Below w.heap.size w wa := H3.out.2.trans (hwa.mono H3.out.2.size)
  have mv : ∀ {k : Nat} {o : Obj}, w0.heap[k]? = some o → wa.heap[k]? = some o := fun {k o} h => (hwa.block _ (Nat.lt_of_lt_of_le (lt_of_block h) H3.out.1.size)).trans ((H3.out.1.block _ (lt_of_block h)).trans h)
  refine (merge31_calls wa _ _ _ _ _ D O U A3 c3 A4 c4 B3 d3 B4 d4 C3 e3 C4 e4 (mv H0.out.2.2.1) (mv H0.out.2.2.2.1) (mv H0.out.2.2.2.2.1) (mv H0.out.2.2.2.2.2.1) (mv H0.out.2.2.2.2.2.2.2)
   (k25.K_below hba HK.out.1) (k25.K_below hba HK.out.2.1) (k25.K_below hba HK.out.2.2) HO.out.1 HO.out.2.1 HO.out.2.2.1).mono ?_
  rintro e w4 ⟨rfl, ⟨R, hR, E3, f3, E4, f4, q1, q2⟩, hc⟩
  exact ⟨true, rfl, ⟨rfl, R, hR, E3, f3, E4, f4, q1, k25.M_lower hws q2⟩, hc⟩
 rintro e w4 ⟨r, w5, rfl, ⟨rfl, R, hR, E3, f3, E4, f4, q1, q2⟩, hc1, hc2⟩
 have hs3 := H3.out.1.size
 have hs0 := H0.out.2.1
 have hs35 := hc2.size
 have p5 := (hc1.block _ (lt_of_block q1) (by omega)).trans q1
 have p4 := (hc1.block _ (by omega) (by omega)).trans ((hc2.block _ (by omega) (by omega)).trans ((H3.out.1.block _ (lt_of_block H0.out.2.2.2.2.2.2.1)).trans H0.out.2.2.2.2.2.2.1))
 have m1 := M_upd (w1 := w4) q2 (fun k hb hk => hc1.block k hk (by omega))
 have hb4 : Below w.heap.size w w4 := H3.out.2.trans ((hc2.below H3.out.2.size (fun k e => by omega)).trans (hc1.below (by have := H3.out.2.size; omega) (fun k e => by have := H3.out.2.size; omega)))
 have H4 := Aside0.mk (And.intro hR (And.intro hb4 m1))
 have HP5 := Aside0.mk p5
 have HP4 := Aside0.mk p4
 clear hR q1 q2 hc1 hc2 hs3 hs35 p5 p4 m1 hb4 co0 co1 co2 co3 co4 cu0 cu1 cu2 cu3 cu4
 obtain ⟨ca0, ca1, ca2, ca3, ca4, za0, za1, za2, za3, za4⟩ := fc_ HP5.out
 obtain ⟨cr0, cr1, cr2, cr3, cr4, zr0, zr1, zr2, zr3, zr4⟩ := fc_ HP4.out
 go_wp2_with fail
 obtain ⟨wf, ef, hff, hcf⟩ := set5 (v0 := .int .i64 R.f0) (v1 := .string R.f1) (v2 := .string R.f2) (v3 := .slice E3 R.f3.length f3) (v4 := .slice E4 R.f4.length f4) HP4.out
 rw [ef]
 have HF := Aside0.mk hff
 clear cr0 cr1 cr2 cr3 cr4 zr0 zr1 zr2 zr3 zr4 ca0 ca1 ca2 ca3 ca4 za0 za1 za2 za3 za4 ef
 obtain ⟨cf0, cf1, cf2, cf3, cf4, zf0, zf1, zf2, zf3, zf4⟩ := fc_ HF.out
 have hs3 := H3.out.1.size
 refine bodyPost_ret (v := .tuple #[nodeV R E3 f3 E4 f4, .bool true]) (by simp [results, Tryz.results12, go_sem, cf0, cf1, cf2, cf3, cf4]) rfl ⟨R, E3, f3, E4, f4, H4.out.1, rfl, ?_, H4.out.2.1.trans (hcf.below H4.out.2.1.size (fun k e => by omega))⟩
 exact k25.K_of_M (k25.M_lower (show w.heap.size ≤ w3.heap.size + 1 by omega) (M_upd H4.out.2.2 (fun k hb hk => hcf.block k hk (by omega))))
end Go.Proofs.YtkpdkoafngjflaaGreat
