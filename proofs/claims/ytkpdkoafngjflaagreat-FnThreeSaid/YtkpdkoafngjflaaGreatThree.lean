import Derived.Test.YtkpdkoafngjflaaGreatSh
import Derived.Test.YtkpdkoafngjflaaGreatSameG
import Derived.Test.YtkpdkoafngjflaaGreatWith
import Derived.Test.YtkpdkoafngjflaaGreatWithout
import Derived.Test.YtkpdkoafngjflaaGreatSpField
namespace Go.Proofs.YtkpdkoafngjflaaGreat
open Go.RowKit Go.Proofs.YtkpdkoafngjflaaGreatW.PrintWords Go.Proofs.YtkpdkoafngjflaaGreatW.PrintLast Go.Proofs.YtkpdkoafngjflaaGreat.PFnFields
set_option linter.unusedVariables false
set_option linter.unusedSimpArgs false
def TS (S : Nat → Prop) (w : World) (k : Nat) : Prop := S k ∨ k = w.heap.size + 1 + 1 + 1 ∨ k = w.heap.size + 1 + 1 + 1 + 1
def VarsT (S : Nat → Prop) (w wr : World) (D : S25) (A3 : Option Addr) (c3 : Nat) (A4 : Option Addr) (c4 : Nat) (O : S25) (B3 : Option Addr) (b3 : Nat) (B4 : Option Addr) (b4 : Nat) (U : S25) (E3 : Option Addr) (e3 : Nat) (E4 : Option Addr) (e4 : Nat) (out : S25) (X3 : Option Addr) (x3 : Nat) (X4 : Option Addr) (x4 : Nat) : Prop := Below w.heap.size w wr ∧ inVar wr (w.heap.size) D A3 c3 A4 c4 ∧ inVar wr (w.heap.size + 1) O B3 b3 B4 b4 ∧ inVar wr (w.heap.size + 1 + 1) U E3 e3 E4 e4 ∧ wr.heap[w.heap.size + 1 + 1 + 1]? = some (.cells #[.int .i64 0, .string ⟨#[]⟩, .string ⟨#[]⟩, .slice none 0 0, .slice none 0 0] 25 (0, 0)) ∧ inVar wr (w.heap.size + 1 + 1 + 1 + 1) out X3 x3 X4 x4 ∧ nodeR (TS S w) wr out X3 x3 X4 x4
theorem VarsT.next {S : Nat → Prop} {w wr w' : World} {D : S25} {A3 : Option Addr} {c3 : Nat} {A4 : Option Addr} {c4 : Nat} {O : S25} {B3 : Option Addr} {b3 : Nat} {B4 : Option Addr} {b4 : Nat} {U : S25} {E3 : Option Addr} {e3 : Nat} {E4 : Option Addr} {e4 : Nat} {out : S25} {X3 : Option Addr} {x3 : Nat} {X4 : Option Addr} {x4 : Nat}
  (h : VarsT S w wr D A3 c3 A4 c4 O B3 b3 B4 b4 U E3 e3 E4 e4 out X3 x3 X4 x4) (hb : Below wr.heap.size wr w') : VarsT S w w' D A3 c3 A4 c4 O B3 b3 B4 b4 U E3 e3 E4 e4 out X3 x3 X4 x4 := by
 obtain ⟨h1, h2, h3, h4, h5, h6, h7⟩ := h
 exact ⟨h1.trans (hb.mono h1.size), (hb.block _ (lt_of_block h2)).trans h2, (hb.block _ (lt_of_block h3)).trans h3, (hb.block _ (lt_of_block h4)).trans h4, (hb.block _ (lt_of_block h5)).trans h5, (hb.block _ (lt_of_block h6)).trans h6, h7.below hb⟩
theorem zip_drop {ks : List ByteArray} {ys : List S25} {j : Nat} {k : ByteArray} {y : S25} (h1 : j < ks.length) (h2 : j < ys.length) (hk : ks.getD j ByteArray.empty = k) (hy : ys.getD j z25 = y) : (ks.zip ys).drop j = (k, y) :: (ks.zip ys).drop (j + 1) := by
 rw [List.getD_eq_getElem?_getD, List.getElem?_eq_getElem h1, Option.getD_some] at hk
 rw [List.getD_eq_getElem?_getD, List.getElem?_eq_getElem h2, Option.getD_some] at hy
 rw [List.drop_eq_getElem_cons (by rw [List.length_zip]; omega), List.getElem_zip, hk, hy]
theorem wo_bound {x : S25} {nm : ByteArray} {n j : Nat} (h : x.f3.length = x.f4.length) (hn : x.f4.length ≤ n + j) : (wo x nm).f3.length = (wo x nm).f4.length ∧ (wo x nm).f4.length ≤ n + (j + 1) := by
 have h1 := woI_len nm x.f3 x.f4 h
 have h2 := woK_len nm x.f3
 exact ⟨h1.symm, by show (woI nm x.f3 x.f4).length ≤ _; omega⟩
theorem wi_bound {x v : S25} {nm : ByteArray} {n j : Nat} (h : x.f3.length = x.f4.length) (hn : x.f4.length ≤ n + j) : (wi x nm v).f3.length = (wi x nm v).f4.length ∧ (wi x nm v).f4.length ≤ n + (j + 1) := by
 unfold wi
 split
 ·exact ⟨by simpa using h, by simp <;> omega⟩
 ·exact ⟨by simp [h], by simp <;> omega⟩
theorem VarsT.put {S : Nat → Prop} {w wr wf : World} {D : S25} {A3 : Option Addr} {c3 : Nat} {A4 : Option Addr} {c4 : Nat} {O : S25} {B3 : Option Addr} {b3 : Nat} {B4 : Option Addr} {b4 : Nat} {U : S25} {E3 : Option Addr} {e3 : Nat} {E4 : Option Addr} {e4 : Nat} {out : S25} {X3 : Option Addr} {x3 : Nat} {X4 : Option Addr} {x4 : Nat} {r : S25} {R3 : Option Addr} {r3 : Nat} {R4 : Option Addr} {r4 : Nat}
  (h : VarsT S w wr D A3 c3 A4 c4 O B3 b3 B4 b4 U E3 e3 E4 e4 out X3 x3 X4 x4) (hf : wf.heap[w.heap.size + 1 + 1 + 1 + 1]? = some (.cells #[.int .i64 r.f0, .string r.f1, .string r.f2, .slice R3 r.f3.length r3, .slice R4 r.f4.length r4] 25 (0, 0))) (hc : Chg (fun k => k = w.heap.size + 1 + 1 + 1 + 1) wr wf) (hr : nodeR (TS S w) wr r R3 r3 R4 r4) : VarsT S w wf D A3 c3 A4 c4 O B3 b3 B4 b4 U E3 e3 E4 e4 r R3 r3 R4 r4 := by
 obtain ⟨h1, h2, h3, h4, h5, h6, h7⟩ := h
 have hs := h1.size
 exact ⟨h1.trans (hc.below hs (fun k e => by omega)), (hc.block _ (lt_of_block h2) (by omega)).trans h2, (hc.block _ (lt_of_block h3) (by omega)).trans h3, (hc.block _ (lt_of_block h4) (by omega)).trans h4, (hc.block _ (lt_of_block h5) (by omega)).trans h5, hf, hr.chg (hc.mono fun k e => .inr (.inr e))⟩
theorem VarsT.lt {S : Nat → Prop} {w wr : World} {D : S25} {A3 : Option Addr} {c3 : Nat} {A4 : Option Addr} {c4 : Nat} {O : S25} {B3 : Option Addr} {b3 : Nat} {B4 : Option Addr} {b4 : Nat} {U : S25} {E3 : Option Addr} {e3 : Nat} {E4 : Option Addr} {e4 : Nat} {out : S25} {X3 : Option Addr} {x3 : Nat} {X4 : Option Addr} {x4 : Nat} (h : VarsT S w wr D A3 c3 A4 c4 O B3 b3 B4 b4 U E3 e3 E4 e4 out X3 x3 X4 x4) (hS : ∀ k, S k → k < w.heap.size) (k : Nat) (q : TS S w k) : k < wr.heap.size := by
 obtain ⟨h1, h2, h3, h4, h5, h6, h7⟩ := h
 have hs := h1.size
 have := lt_of_block h6
 rcases q with q | q | q
 ·have := hS k q; omega
 ·omega
 ·omega
theorem nodeR.ts {S : Nat → Prop} {w wr : World} {x : S25} {A3 : Option Addr} {c3 : Nat} {A4 : Option Addr} {c4 : Nat} (h : nodeR S w x A3 c3 A4 c4) (hb : Below w.heap.size w wr) : nodeR (TS S w) wr x A3 c3 A4 c4 :=
 h.late (Chg.of_below hb) fun k q => by
  rcases q with q | q | q
  ·exact .inl q
  ·exact .inr (by omega)
  ·exact .inr (by omega)
theorem VarsT.kput {S : Nat → Prop} {w wr wf : World} {D : S25} {A3 : Option Addr} {c3 : Nat} {A4 : Option Addr} {c4 : Nat} {O : S25} {B3 : Option Addr} {b3 : Nat} {B4 : Option Addr} {b4 : Nat} {U : S25} {E3 : Option Addr} {e3 : Nat} {E4 : Option Addr} {e4 : Nat} {out : S25} {X3 : Option Addr} {x3 : Nat} {X4 : Option Addr} {x4 : Nat} (h : VarsT S w wr D A3 c3 A4 c4 O B3 b3 B4 b4 U E3 e3 E4 e4 out X3 x3 X4 x4) (hc : Chg (fun k => k = w.heap.size + 1 + 1 + 1) wr wf) : nodeR S wf out X3 x3 X4 x4 := fun W' hW =>
 h.2.2.2.2.2.2 W' ((hc.mono fun k e => (.inr (.inl e) : TS S w k)).trans (hW.mono fun k q => (.inl q : TS S w k)) fun k q => .inl q)
def three14.T : Bool × List (List Nat × List Nat) := (true, [([], []), ([], []), ([], []), ([], []), ([3], [3]), ([], []), ([4, 5], [4, 5]), ([6], [6]), ([], []), ([2, 7, 8], [2, 7, 8]), ([0, 1, 9, 9], [0, 1, 9]), ([10, 10, 0, 1, 2, 3, 4, 5, 6, 7, 8, 9, 10], [10])])
def three14.B : List Nat := [0, 0, 0, 0, 8, 0, 56, 120, 0, 508, 1023, 2047]
theorem three14.tab : rtab .any (opsOf Tryz.f7 14) = three14.T := by kernel_rfl
theorem three14.bits : waitsOk three14.T.2 three14.B = true := by kernel_rfl
def three20.T : Bool × List (List Nat × List Nat) := (true, [([], []), ([], []), ([], []), ([2], [2]), ([], []), ([3, 4], [3, 4]), ([5], [5]), ([0, 1, 6], [0, 1, 6]), ([7, 7, 0, 1, 2, 3, 4, 5, 6, 7], [7])])
def three20.B : List Nat := [0, 0, 0, 4, 0, 28, 60, 127, 255]
theorem three20.tab : rtab .any (opsOf Tryz.f7 20) = three20.T := by kernel_rfl
theorem three20.bits : waitsOk three20.T.2 three20.B = true := by kernel_rfl
set_option maxRecDepth 100000 in
set_option maxHeartbeats 3200000 in
theorem threeM (d : Nat) (ih : ∀ (D O U : S25) (hD : Fit d D) (hO : Fit d O) (hU : Fit d U) (S : Nat → Prop) (w : World) (hS : ∀ k, S k → k < w.heap.size) (A3 : Option Addr) (c3 : Nat) (A4 : Option Addr) (c4 : Nat) (B3 : Option Addr) (b3 : Nat) (B4 : Option Addr) (b4 : Nat) (E3 : Option Addr) (e3 : Nat) (E4 : Option Addr) (e4 : Nat)
  (hK : nodeR S w D A3 c3 A4 c4) (hK' : nodeR S w O B3 b3 B4 b4) (hK'' : nodeR S w U E3 e3 E4 e4), Calls Tryz.prog 7 #[nodeV D A3 c3 A4 c4, nodeV O B3 b3 B4 b4, nodeV U E3 e3 E4 e4] w (NodePostS S w (thD d D O U))) (D O U : S25) (hD : Fit (d + 1) D) (hO : Fit (d + 1) O) (hU : Fit (d + 1) U) (h2 : D.f0 = 2) (S : Nat → Prop) (w : World) (hS : ∀ k, S k → k < w.heap.size) (A3 : Option Addr) (c3 : Nat) (A4 : Option Addr) (c4 : Nat) (B3 : Option Addr) (b3 : Nat) (B4 : Option Addr) (b4 : Nat) (E3 : Option Addr) (e3 : Nat) (E4 : Option Addr) (e4 : Nat)
  (hK : nodeR S w D A3 c3 A4 c4) (hK' : nodeR S w O B3 b3 B4 b4) (hK'' : nodeR S w U E3 e3 E4 e4) :
  Calls Tryz.prog 7 #[nodeV D A3 c3 A4 c4, nodeV O B3 b3 B4 b4, nodeV U E3 e3 E4 e4] w (NodePostS S w (thD (d + 1) D O U)) := by
 have hu := Tryz.underlying25
 have HK := Aside0.mk (And.intro hK (And.intro hK' hK''))
 have HSS := Aside0.mk hS
 have HX := Aside0.mk (And.intro hD (And.intro hO hU))
 have IH := Aside0.mk ih
 have hlB : O.f3.length ≤ b3 := by
  obtain ⟨_, _, _, _, he, l3, g3, l4, g4⟩ := k25_open hK'.now
  simp only [List.cons.injEq, Value.slice.injEq, true_and, and_true] at he
  obtain ⟨⟨rfl, rfl⟩, rfl, rfl⟩ := he
  exact l3
 have HG := Aside0.mk (And.intro (node_rows hK'.now).1 (And.intro (node_rows hK'.now).2 (And.intro (node_rows hK''.now).1 (And.intro (node_rows hK''.now).2 hlB))))
 have hn3 : O.f3.length ≤ 60 := hO.len.2
 have hm3 : U.f3.length ≤ 60 := hU.len.2
 have hn4 : O.f4.length ≤ 60 := hO.len.1
 have hm4 : U.f4.length ≤ 60 := hU.len.1
 have hd4 : D.f4.length ≤ 60 := hD.len.1
 have h21 : (D.f0 == 2) = true := by simpa using h2
 have h22 : (D.f0 != 2) = false := by simp only [bne, h21]; rfl
 have H2 := Aside0.mk h2
 have HKL := Aside0.mk (hD.1.mp h2).len
 clear hK hK' hK'' hS hD hO hU ih h2 hlB
 go_enter Tryz.func7, Tryz.ntmps7
 go_wp2_with fail
 clear h21 h22
 obtain ⟨w0, e0⟩ : ∃ w0, w0 = ((((w.alloc (.cells #[.int .i64 D.f0, .string D.f1, .string D.f2, .slice A3 D.f3.length c3, .slice A4 D.f4.length c4] 25)).alloc (.cells #[.int .i64 O.f0, .string O.f1, .string O.f2, .slice B3 O.f3.length b3, .slice B4 O.f4.length b4] 25)).alloc (.cells #[.int .i64 U.f0, .string U.f1, .string U.f2, .slice E3 U.f3.length e3, .slice E4 U.f4.length e4] 25)).alloc (.cells #[.int .i64 0, .string ⟨#[]⟩, .string ⟨#[]⟩, .slice none 0 0, .slice none 0 0] 25)).alloc (.cells #[.int .i64 D.f0, .string D.f1, .string D.f2, .slice A3 D.f3.length c3, .slice A4 D.f4.length c4] 25) := ⟨_, rfl⟩
 try rw [← e0]
 have H0 : Aside0 (VarsT S w w0 D A3 c3 A4 c4 O B3 b3 B4 b4 U E3 e3 E4 e4 D A3 c3 A4 c4) := ⟨by
  have hb0 : Below w.heap.size w w0 := by rw [e0]; exact (((((Below.refl _ _).alloc (Nat.le_refl _) _).alloc (by simp) _).alloc (by simp <;> omega) _).alloc (by simp <;> omega) _).alloc (by simp <;> omega) _
  refine ⟨hb0, ?_, ?_, ?_, ?_, ?_, HK.out.1.ts hb0⟩
  all_goals rw [e0]
  ·exact (heap_old _ (by simp <;> omega)).trans ((heap_old _ (by simp <;> omega)).trans ((heap_old _ (by simp <;> omega)).trans ((heap_old _ (by simp)).trans (heap_at _ rfl))))
  ·exact (heap_old _ (by simp <;> omega)).trans ((heap_old _ (by simp <;> omega)).trans ((heap_old _ (by simp)).trans (heap_at _ (by simp))))
  ·exact (heap_old _ (by simp <;> omega)).trans ((heap_old _ (by simp)).trans (heap_at _ (by simp)))
  ·exact (heap_old _ (by simp)).trans (heap_at _ (by simp))
  ·exact heap_at _ (by simp)⟩
 clear e0
 go_loopg [28] O.f3.length (fun k i wr => ∃ (j : Nat) (out : S25) (X3 : Option Addr) (x3 : Nat) (X4 : Option Addr) (x4 : Nat), i = .int .i64 j ∧ Aside0 (j ≤ O.f3.length ∧ k + j = O.f3.length) ∧ Aside0 (VarsT S w wr D A3 c3 A4 c4 O B3 b3 B4 b4 U E3 e3 E4 e4 out X3 x3 X4 x4) ∧ Aside0 (thO (thD d) D U ((O.f3.zip O.f4).drop j) out = thO (thD d) D U (O.f3.zip O.f4) D ∧ out.f3.length = out.f4.length ∧ out.f4.length ≤ 60 + j))
 case atStart => exact ⟨0, D, A3, c3, A4, c4, rfl, ⟨by omega⟩, H0, ⟨rfl, HKL.out, by omega⟩⟩
 case round =>
  clear H0
  obtain ⟨j, out, X3, x3, X4, x4, rfl, HJ, HV, HE⟩ := hrel
  by_cases hj : j < O.f3.length
  ·have hj4 : j < O.f4.length := by have := HX.out.2.1.1.klen; omega
   generalize hkk : O.f3.getD j ByteArray.empty = kk
   generalize hoo : O.f4.getD j z25 = oo
   obtain ⟨ad3, ea, hs3⟩ := strAt HG.out.1 j hj
   obtain ⟨am, P3, p3, P4, p4, e6, hKp, fp0, fp1, fp2, fp3, fp4⟩ := nodeAt HG.out.2.1 j hj4 oo hoo
   rw [hkk] at hs3
   subst ea e6
   have hom : oo ∈ O.f4 := by rw [← hoo, List.getD_eq_getElem?_getD, List.getElem?_eq_getElem hj4]; exact List.getElem_mem _
   have hdrop : (O.f3.zip O.f4).drop j = (kk, oo) :: (O.f3.zip O.f4).drop (j + 1) := zip_drop hj hj4 hkk hoo
   have hKH : nodeR S w oo P3 p3 P4 p4 := held_item HK.out.2.1.rows j hj4 hoo fp0 fp1 fp2 fp3 fp4
   have HY := Aside0.mk (And.intro hdrop (And.intro hKH (HX.out.2.1.item hom)))
   have HEL := Aside0.mk (And.intro fp0 (And.intro fp1 (And.intro fp2 (And.intro fp3 fp4))))
   have hs3' := (HV.out.1.cell (World.block_lt_of_cell? w _ hs3)).trans hs3
   have HXU := Aside0.mk HV.out.2.2.2.1
   obtain ⟨cu0, cu1, cu2, cu3, cu4, zu0, zu1, zu2, zu3, zu4⟩ := fc_ HXU.out
   clear hkk hoo hKp hKH fp0 fp1 fp2 fp3 fp4 hs3 hom hdrop
   go_wp2_with fail
   refine (spFieldS_calls (TS S w) U kk HX.out.2.2.1.klen wr E3 e3 E4 e4 (HK.out.2.2.ts HV.out.1)).mono ?_
   rintro e w3 ⟨hb3, V3, v3, V4, v4, rfl, hKs⟩
   obtain ⟨uu, huu⟩ : ∃ uu, uu = spField U kk := ⟨_, rfl⟩
   obtain ⟨hsu, hhsu⟩ : ∃ hsu, hsu = has kk U := ⟨_, rfl⟩
   rw [← huu, ← hhsu]
   rw [← huu] at hKs
   have HUU := Aside0.mk (And.intro huu hhsu)
   have HKU := Aside0.mk (hKs.below hb3)
   have HV3 := Aside0.mk (HV.out.next hb3)
   clear hb3 hKs huu hhsu HXU cu0 cu1 cu2 cu3 cu4 zu0 zu1 zu2 zu3 zu4 hs3' HV
   have hxd := HV3.out.2.1
   have cd0 : ∀ o : Obj, (w3.alloc o).cell? ⟨w.heap.size, 0, none⟩ = some (.int .i64 D.f0) := fun o => by rw [World.cell?_alloc_lt _ _ _ (lt_of_block hxd), cell_of_block hxd]; rfl
   have cd1 : ∀ o : Obj, (w3.alloc o).cell? ⟨w.heap.size, 1, none⟩ = some (.string D.f1) := fun o => by rw [World.cell?_alloc_lt _ _ _ (lt_of_block hxd), cell_of_block hxd]; rfl
   have cd2 : ∀ o : Obj, (w3.alloc o).cell? ⟨w.heap.size, 2, none⟩ = some (.string D.f2) := fun o => by rw [World.cell?_alloc_lt _ _ _ (lt_of_block hxd), cell_of_block hxd]; rfl
   have cd3 : ∀ o : Obj, (w3.alloc o).cell? ⟨w.heap.size, 3, none⟩ = some (.slice A3 D.f3.length c3) := fun o => by rw [World.cell?_alloc_lt _ _ _ (lt_of_block hxd), cell_of_block hxd]; rfl
   have cd4 : ∀ o : Obj, (w3.alloc o).cell? ⟨w.heap.size, 4, none⟩ = some (.slice A4 D.f4.length c4) := fun o => by rw [World.cell?_alloc_lt _ _ _ (lt_of_block hxd), cell_of_block hxd]; rfl
   clear hxd
   go_wp2_with fail
   obtain ⟨w4, e4_⟩ : ∃ w4, w4 = w3.alloc (.cells #[.int .i64 uu.f0, .string uu.f1, .string uu.f2, .slice V3 uu.f3.length v3, .slice V4 uu.f4.length v4] 25) := ⟨_, rfl⟩
   rw [← e4_]
   obtain ⟨ub, hub⟩ : ∃ ub, ub = w3.heap.size := ⟨_, rfl⟩
   try rw [← hub]
   have hb4 : Below w3.heap.size w3 w4 := by rw [e4_]; exact (Below.refl _ _).alloc (Nat.le_refl _) _
   have hv4 : w4.heap[ub]? = some (.cells #[.int .i64 uu.f0, .string uu.f1, .string uu.f2, .slice V3 uu.f3.length v3, .slice V4 uu.f4.length v4] 25 (0, 0)) := by rw [e4_]; exact heap_at _ hub
   have HV4 := Aside0.mk (HV3.out.next hb4)
   have HU4 := Aside0.mk (And.intro hv4 (HKU.out.below hb4))
   clear hb4 hv4 e4_ hub HV3 HKU cd0 cd1 cd2 cd3 cd4
   refine (spFieldS_calls (TS S w) D kk HX.out.1.1.klen w4 A3 c3 A4 c4 (HK.out.1.ts HV4.out.1)).mono ?_
   rintro e w5 ⟨hb5, M3, m3, M4, m4, rfl, hKs⟩
   obtain ⟨mm, hmm⟩ : ∃ mm, mm = spField D kk := ⟨_, rfl⟩
   obtain ⟨hsd, hhsd⟩ : ∃ hsd, hsd = has kk D := ⟨_, rfl⟩
   rw [← hmm, ← hhsd]
   rw [← hmm] at hKs
   have HMM := Aside0.mk (And.intro hmm hhsd)
   have HKM := Aside0.mk (hKs.below hb5)
   have HV5 := Aside0.mk (HV4.out.next hb5)
   have HU5 := Aside0.mk (And.intro ((hb5.block _ (lt_of_block HU4.out.1)).trans HU4.out.1) (HU4.out.2.below hb5))
   clear hb5 hKs hmm hhsd HV4 HU4
   have hxo := HV5.out.2.2.2.2.2.1
   have co0 : ∀ o : Obj, (w5.alloc o).cell? ⟨w.heap.size + 1 + 1 + 1 + 1, 0, none⟩ = some (.int .i64 out.f0) := fun o => by rw [World.cell?_alloc_lt _ _ _ (lt_of_block hxo), cell_of_block hxo]; rfl
   have co1 : ∀ o : Obj, (w5.alloc o).cell? ⟨w.heap.size + 1 + 1 + 1 + 1, 1, none⟩ = some (.string out.f1) := fun o => by rw [World.cell?_alloc_lt _ _ _ (lt_of_block hxo), cell_of_block hxo]; rfl
   have co2 : ∀ o : Obj, (w5.alloc o).cell? ⟨w.heap.size + 1 + 1 + 1 + 1, 2, none⟩ = some (.string out.f2) := fun o => by rw [World.cell?_alloc_lt _ _ _ (lt_of_block hxo), cell_of_block hxo]; rfl
   have co3 : ∀ o : Obj, (w5.alloc o).cell? ⟨w.heap.size + 1 + 1 + 1 + 1, 3, none⟩ = some (.slice X3 out.f3.length x3) := fun o => by rw [World.cell?_alloc_lt _ _ _ (lt_of_block hxo), cell_of_block hxo]; rfl
   have co4 : ∀ o : Obj, (w5.alloc o).cell? ⟨w.heap.size + 1 + 1 + 1 + 1, 4, none⟩ = some (.slice X4 out.f4.length x4) := fun o => by rw [World.cell?_alloc_lt _ _ _ (lt_of_block hxo), cell_of_block hxo]; rfl
   clear hxo
   cases hsu with
   |false =>
    have hst : thO (thD d) D U ((kk, oo) :: (O.f3.zip O.f4).drop (j + 1)) out = thO (thD d) D U ((O.f3.zip O.f4).drop (j + 1)) (wo out kk) := by
     conv => lhs; unfold thO
     rw [if_neg (by rw [← HUU.out.2]; decide)]
     rfl
    have HST := Aside0.mk hst
    clear hst
    go_wp2_with fail
    obtain ⟨w6, e6_⟩ : ∃ w6, w6 = w5.alloc (.cells #[.int .i64 mm.f0, .string mm.f1, .string mm.f2, .slice M3 mm.f3.length m3, .slice M4 mm.f4.length m4] 25) := ⟨_, rfl⟩
    rw [← e6_]
    have hb6 : Below w5.heap.size w5 w6 := by rw [e6_]; exact (Below.refl _ _).alloc (Nat.le_refl _) _
    have HV6 := Aside0.mk (HV5.out.next hb6)
    clear hb6 e6_ HV5 HU5 HKM co0 co1 co2 co3 co4
    refine (withoutS_calls (TS S w) out kk HE.out.2.1 (by have := HE.out.2.2; have := HX.out.2.1.len; omega) w6 (HV6.out.lt HSS.out) X3 x3 X4 x4 HV6.out.2.2.2.2.2.2).mono ?_
    rintro e w7 ⟨R3, r3, R4, r4, rfl, hKr, hb7⟩
    have HV7 := Aside0.mk (HV6.out.next hb7)
    obtain ⟨rr, hrr⟩ : ∃ rr, rr = wo out kk := ⟨_, rfl⟩
    rw [← hrr] at hKr ⊢
    have HKR := Aside0.mk hKr
    have HRR := Aside0.mk hrr
    clear hKr hb7 hrr HV6
    have hxo := Aside0.mk HV7.out.2.2.2.2.2.1
    obtain ⟨co0, co1, co2, co3, co4, zo0, zo1, zo2, zo3, zo4⟩ := fc_ hxo.out
    clear hxo
    go_wp2_with fail
    clear co0 co1 co2 co3 co4 zo0 zo1 zo2 zo3 zo4
    obtain ⟨wf, ef, hf, hcf⟩ := set5 (v0 := .int .i64 rr.f0) (v1 := .string rr.f1) (v2 := .string rr.f2) (v3 := .slice R3 rr.f3.length r3) (v4 := .slice R4 rr.f4.length r4) HV7.out.2.2.2.2.2.1
    rw [ef]
    have HV2 := Aside0.mk (HV7.out.put hf hcf HKR.out)
    clear ef hf hcf
    go_roundg (gk - 1)
    case measure => have := HJ.out; omega
    case rel => exact ⟨j + 1, rr, R3, r3, R4, r4, by go_num, ⟨by have := HJ.out; omega⟩, HV2, ⟨by rw [HRR.out, ← HST.out, ← HY.out.1]; exact HE.out.1, by rw [HRR.out]; exact wo_bound HE.out.2.1 HE.out.2.2⟩⟩
   |true =>
    cases hsd with
    |false =>
     have hst : thO (thD d) D U ((kk, oo) :: (O.f3.zip O.f4).drop (j + 1)) out = thO (thD d) D U ((O.f3.zip O.f4).drop (j + 1)) out := by
      conv => lhs; unfold thO
      rw [if_pos (by rw [← HUU.out.2]), if_neg (by rw [← HMM.out.2]; decide)]
     have HST := Aside0.mk hst
     clear hst
     go_wp2_with fail
     obtain ⟨w6, e6_⟩ : ∃ w6, w6 = w5.alloc (.cells #[.int .i64 mm.f0, .string mm.f1, .string mm.f2, .slice M3 mm.f3.length m3, .slice M4 mm.f4.length m4] 25) := ⟨_, rfl⟩
     rw [← e6_]
     have hb6 : Below w5.heap.size w5 w6 := by rw [e6_]; exact (Below.refl _ _).alloc (Nat.le_refl _) _
     have HV6 := Aside0.mk (HV5.out.next hb6)
     clear hb6 e6_ HV5 HU5 HKM co0 co1 co2 co3 co4
     go_roundg (gk - 1)
     case measure => have := HJ.out; omega
     case rel => exact ⟨j + 1, out, X3, x3, X4, x4, by go_num, ⟨by have := HJ.out; omega⟩, HV6, ⟨by rw [← HST.out, ← HY.out.1]; exact HE.out.1, HE.out.2.1, by have := HE.out.2.2; omega⟩⟩
    |true =>
     have hst : thO (thD d) D U ((kk, oo) :: (O.f3.zip O.f4).drop (j + 1)) out = thO (thD d) D U ((O.f3.zip O.f4).drop (j + 1)) (wi out kk (thD d mm oo uu)) := by
      conv => lhs; unfold thO
      rw [if_pos (by rw [← HUU.out.2]), if_pos (by rw [← HMM.out.2]), ← HMM.out.1, ← HUU.out.1]
     have HST := Aside0.mk hst
     have HFM := Aside0.mk (show Fit d mm ∧ Fit d uu from ⟨by rw [HMM.out.1]; exact HX.out.1.sub HMM.out.2.symm, by rw [HUU.out.1]; exact HX.out.2.2.sub HUU.out.2.symm⟩)
     clear hst
     go_wp2_with fail
     obtain ⟨w6, e6_⟩ : ∃ w6, w6 = w5.alloc (.cells #[.int .i64 mm.f0, .string mm.f1, .string mm.f2, .slice M3 mm.f3.length m3, .slice M4 mm.f4.length m4] 25) := ⟨_, rfl⟩
     rw [← e6_]
     obtain ⟨mb, hmb⟩ : ∃ mb, mb = w5.heap.size := ⟨_, rfl⟩
     rw [← hmb]
     have hb6 : Below w5.heap.size w5 w6 := by rw [e6_]; exact (Below.refl _ _).alloc (Nat.le_refl _) _
     have hv6 : w6.heap[mb]? = some (.cells #[.int .i64 mm.f0, .string mm.f1, .string mm.f2, .slice M3 mm.f3.length m3, .slice M4 mm.f4.length m4] 25 (0, 0)) := by rw [e6_]; exact heap_at _ hmb
     have HV6 := Aside0.mk (HV5.out.next hb6)
     have HU6 := Aside0.mk (And.intro ((hb6.block _ (lt_of_block HU5.out.1)).trans HU5.out.1) (HU5.out.2.below hb6))
     have HM6 := Aside0.mk (And.intro hv6 (HKM.out.below hb6))
     clear hb6 hv6 e6_ hmb HV5 HU5 HKM co0 co1 co2 co3 co4
     have HS14 : Aside0 (∀ w', Below w6.heap.size w6 w' → w'.cell? ⟨w.heap.size + 1 + 1 + 1 + 1, 0, none⟩ = some (.int .i64 out.f0) ∧ w'.cell? ⟨w.heap.size + 1 + 1 + 1 + 1, 1, none⟩ = some (.string out.f1) ∧ w'.cell? ⟨w.heap.size + 1 + 1 + 1 + 1, 2, none⟩ = some (.string out.f2) ∧ w'.cell? ⟨w.heap.size + 1 + 1 + 1 + 1, 3, none⟩ = some (.slice X3 out.f3.length x3) ∧ w'.cell? ⟨w.heap.size + 1 + 1 + 1 + 1, 4, none⟩ = some (.slice X4 out.f4.length x4) ∧ w'.cell? ⟨mb, 0, none⟩ = some (.int .i64 mm.f0) ∧ w'.cell? ⟨mb, 1, none⟩ = some (.string mm.f1) ∧ w'.cell? ⟨mb, 2, none⟩ = some (.string mm.f2) ∧ w'.cell? ⟨mb, 3, none⟩ = some (.slice M3 mm.f3.length m3) ∧ w'.cell? ⟨mb, 4, none⟩ = some (.slice M4 mm.f4.length m4) ∧ w'.cell? ⟨ub, 0, none⟩ = some (.int .i64 uu.f0) ∧ w'.cell? ⟨ub, 1, none⟩ = some (.string uu.f1) ∧ w'.cell? ⟨ub, 2, none⟩ = some (.string uu.f2) ∧ w'.cell? ⟨ub, 3, none⟩ = some (.slice V3 uu.f3.length v3) ∧ w'.cell? ⟨ub, 4, none⟩ = some (.slice V4 uu.f4.length v4) ∧ w'.cell? ⟨w.heap.size + 1, 4, none⟩ = some (.slice (some am) O.f4.length b4) ∧ w'.cell? (am.add (j * 5)) = some (.int .i64 oo.f0) ∧ w'.cell? ⟨(am.add (j * 5)).block, (am.add (j * 5)).off + 1, none⟩ = some (.string oo.f1) ∧ w'.cell? ⟨(am.add (j * 5)).block, (am.add (j * 5)).off + 2, none⟩ = some (.string oo.f2) ∧ w'.cell? ⟨(am.add (j * 5)).block, (am.add (j * 5)).off + 3, none⟩ = some (.slice P3 oo.f3.length p3) ∧ w'.cell? ⟨(am.add (j * 5)).block, (am.add (j * 5)).off + 4, none⟩ = some (.slice P4 oo.f4.length p4)) := ⟨fun w' hc => by
      have old : ∀ {a : Addr} {v : Value}, w.cell? a = some v → w'.cell? a = some v := fun {a v} h => by
       have h1 := (HV6.out.1.cell (World.block_lt_of_cell? w a h)).trans h
       exact (hc.cell (World.block_lt_of_cell? _ _ h1)).trans h1
      have hx := Aside0.mk ((hc.block _ (lt_of_block HV6.out.2.2.2.2.2.1)).trans HV6.out.2.2.2.2.2.1)
      have hm := Aside0.mk ((hc.block _ (lt_of_block HM6.out.1)).trans HM6.out.1)
      have hv := Aside0.mk ((hc.block _ (lt_of_block HU6.out.1)).trans HU6.out.1)
      have ho := Aside0.mk ((hc.block _ (lt_of_block HV6.out.2.2.1)).trans HV6.out.2.2.1)
      obtain ⟨cx0, cx1, cx2, cx3, cx4, zx0, zx1, zx2, zx3, zx4⟩ := fc_ hx.out
      obtain ⟨cm0, cm1, cm2, cm3, cm4, zm0, zm1, zm2, zm3, zm4⟩ := fc_ hm.out
      obtain ⟨cv0, cv1, cv2, cv3, cv4, zv0, zv1, zv2, zv3, zv4⟩ := fc_ hv.out
      obtain ⟨co0, co1, co2, co3, co4, zo0, zo1, zo2, zo3, zo4⟩ := fc_ ho.out
      exact ⟨cx0, cx1, cx2, cx3, cx4, cm0, cm1, cm2, cm3, cm4, cv0, cv1, cv2, cv3, cv4, co4, old HEL.out.1, old HEL.out.2.1, old HEL.out.2.2.1, old HEL.out.2.2.2.1, old HEL.out.2.2.2.2⟩⟩
     refine start_ (n := 12) (S := fun w' => w'.cell? ⟨w.heap.size + 1 + 1 + 1 + 1, 0, none⟩ = some (.int .i64 out.f0) ∧ w'.cell? ⟨w.heap.size + 1 + 1 + 1 + 1, 1, none⟩ = some (.string out.f1) ∧ w'.cell? ⟨w.heap.size + 1 + 1 + 1 + 1, 2, none⟩ = some (.string out.f2) ∧ w'.cell? ⟨w.heap.size + 1 + 1 + 1 + 1, 3, none⟩ = some (.slice X3 out.f3.length x3) ∧ w'.cell? ⟨w.heap.size + 1 + 1 + 1 + 1, 4, none⟩ = some (.slice X4 out.f4.length x4) ∧ w'.cell? ⟨mb, 0, none⟩ = some (.int .i64 mm.f0) ∧ w'.cell? ⟨mb, 1, none⟩ = some (.string mm.f1) ∧ w'.cell? ⟨mb, 2, none⟩ = some (.string mm.f2) ∧ w'.cell? ⟨mb, 3, none⟩ = some (.slice M3 mm.f3.length m3) ∧ w'.cell? ⟨mb, 4, none⟩ = some (.slice M4 mm.f4.length m4) ∧ w'.cell? ⟨ub, 0, none⟩ = some (.int .i64 uu.f0) ∧ w'.cell? ⟨ub, 1, none⟩ = some (.string uu.f1) ∧ w'.cell? ⟨ub, 2, none⟩ = some (.string uu.f2) ∧ w'.cell? ⟨ub, 3, none⟩ = some (.slice V3 uu.f3.length v3) ∧ w'.cell? ⟨ub, 4, none⟩ = some (.slice V4 uu.f4.length v4) ∧ w'.cell? ⟨w.heap.size + 1, 4, none⟩ = some (.slice (some am) O.f4.length b4) ∧ w'.cell? (am.add (j * 5)) = some (.int .i64 oo.f0) ∧ w'.cell? ⟨(am.add (j * 5)).block, (am.add (j * 5)).off + 1, none⟩ = some (.string oo.f1) ∧ w'.cell? ⟨(am.add (j * 5)).block, (am.add (j * 5)).off + 2, none⟩ = some (.string oo.f2) ∧ w'.cell? ⟨(am.add (j * 5)).block, (am.add (j * 5)).off + 3, none⟩ = some (.slice P3 oo.f3.length p3) ∧ w'.cell? ⟨(am.add (j * 5)).block, (am.add (j * 5)).off + 4, none⟩ = some (.slice P4 oo.f4.length p4)) (ds := [10, 11]) #[false, false, false, false, false, false, false, false, false, false, false, false] (by kernel_rfl) rfl rfl (HS14.out _ (Below.refl _ _).drew) (fun hHeld => ?_)
     refine with_tabW (T := three14.T) (B := three14.B) three14.tab three14.bits (fun HT_ HW_ => ?_)
     have HBW := Aside0.mk ((Below.refl w6.heap.size w6).drew)
     generalize w6.drew = wc at HBW hHeld ⊢
     refine ps_ 1 54 HT_ ?_
     refine ps_ 3 56 HT_ ?_
     refine ps_ 5 58 HT_ ?_
     refine ts_ 0 53 HT_ HW_ hHeld ?_
     refine ts_ 2 55 HT_ HW_ hHeld ?_
     refine ts_ 4 57 HT_ HW_ hHeld ?_
     refine ps_ 6 59 HT_ ?_
     refine ts_ 7 60 HT_ HW_ hHeld ?_
     refine ts_ 8 61 HT_ HW_ hHeld ?_
     refine one_ (i := 9) (N := (some 62)) #[true, true, true, true, true, true, true, true, true, true, false, false] rfl rfl (one_of HT_.out (by kernel_rfl)) (by decide) (fun K hK => ?_)
     refine goes_ Tryz.func7 (by kernel_rfl) rfl #[nodeV mm M3 m3 M4 m4, nodeV oo P3 p3 P4 p4, nodeV uu V3 v3 V4 v4] (by rfl) rfl rfl (by simp only [List.map_toArray, List.map_cons, List.map_nil]; rfl) ?_
     have hbd : Below w.heap.size w wc := HV6.out.1.trans (HBW.out.mono HV6.out.1.size)
     refine (IH.out mm oo uu HFM.out.1 HY.out.2.2 HFM.out.2 (TS S w) wc (fun k q => Nat.lt_of_lt_of_le (HV6.out.lt HSS.out k q) HBW.out.size) M3 m3 M4 m4 P3 p3 P4 p4 V3 v3 V4 v4 (HM6.out.2.below HBW.out) (HY.out.2.1.ts hbd) (HU6.out.2.below HBW.out)).mono ?_
     rintro e w8 ⟨T3, t3, T4, t4, rfl, hKt, hb8⟩
     obtain ⟨tt, htt⟩ : ∃ tt, tt = thD d mm oo uu := ⟨_, rfl⟩
     rw [← htt] at hKt ⊢
     refine ⟨_, rfl, ?_⟩
     have HB8 := Aside0.mk (HBW.out.trans (hb8.mono HBW.out.size))
     refine hK.out _ _ (HS14.out _ HB8.out) (fun hHeld => ?_)
     have HKT := Aside0.mk hKt
     have HTT := Aside0.mk htt
     clear HBW hb8 hKt htt hbd
     have HBW := Aside0.mk HB8.out
     clear HB8
     rename World => wc
     clear hK K
     refine ns_ ?_
     refine last_ (i := 10) (N := (some 63)) #[true, true, true, true, true, true, true, true, true, true, true, false] rfl rfl (one_of HT_.out (by kernel_rfl)) (by decide) (fun K hK => ?_)
     refine goes_ Tryz.func18 (by kernel_rfl) rfl #[nodeV out X3 x3 X4 x4, .string kk, nodeV tt T3 t3 T4 t4] (by rfl) rfl rfl (by simp only [List.map_toArray, List.map_cons, List.map_nil]; rfl) ?_
     have hV8 := HV6.out.next HBW.out
     refine (withS_calls (TS S w) out tt kk HE.out.2.1 (by have := HE.out.2.2; have := HX.out.2.1.len; omega) wc (hV8.lt HSS.out) X3 x3 X4 x4 hV8.2.2.2.2.2.2 T3 t3 T4 t4 HKT.out).mono ?_
     rintro e w7 ⟨R3, r3, R4, r4, rfl, hKr, hb7⟩
     obtain ⟨rr, hrr⟩ : ∃ rr, rr = wi out kk tt := ⟨_, rfl⟩
     rw [← hrr] at hKr ⊢
     refine ⟨_, rfl, ?_⟩
     refine hK.out _ _ ?_
     have HV7 := Aside0.mk (hV8.next hb7)
     have HKR := Aside0.mk hKr
     have HRR := Aside0.mk hrr
     clear hV8 hb7 hKr hrr HBW hHeld
     clear hK K
     refine ns_ ?_
     refine last_ (i := 11) (N := none) #[true, true, true, true, true, true, true, true, true, true, true, true] rfl rfl (one_of HT_.out (by kernel_rfl)) (by decide) (fun K hK => ?_)
     have hxo := Aside0.mk HV7.out.2.2.2.2.2.1
     obtain ⟨co0, co1, co2, co3, co4, zo0, zo1, zo2, zo3, zo4⟩ := fc_ hxo.out
     rw [if_pos (by rfl)]
     go_simp
     clear hxo co0 co1 co2 co3 co4 zo0 zo1 zo2 zo3 zo4
     obtain ⟨wf, ef, hf, hcf⟩ := set5 (v0 := .int .i64 rr.f0) (v1 := .string rr.f1) (v2 := .string rr.f2) (v3 := .slice R3 rr.f3.length r3) (v4 := .slice R4 rr.f4.length r4) HV7.out.2.2.2.2.2.1
     rw [ef]
     have HV2 := Aside0.mk (HV7.out.put hf hcf HKR.out)
     clear ef hf hcf
     refine hK.out _ _ ?_
     clear hK K
     refine ns_ ?_
     refine done_ (done_of HT_.out (by kernel_rfl)) ?_
     go_wp2_with fail
     go_roundg (gk - 1)
     case measure => have := HJ.out; omega
     case rel => exact ⟨j + 1, rr, R3, r3, R4, r4, by go_num, ⟨by have := HJ.out; omega⟩, HV2, ⟨by rw [HRR.out, HTT.out, ← HST.out, ← HY.out.1]; exact HE.out.1, by rw [HRR.out]; exact wi_bound HE.out.2.1 HE.out.2.2⟩⟩
  ·have hje : j = O.f3.length := by have := HJ.out; omega
   have HM2 : Aside0 (out = thO (thD d) D U (O.f3.zip O.f4) D ∧ out.f3.length = out.f4.length ∧ out.f4.length ≤ 120) := ⟨by
    have h := HE.out.1
    rw [hje, List.drop_eq_nil_of_le (by rw [List.length_zip]; omega)] at h
    exact h, HE.out.2.1, by have := HE.out.2.2; have := HX.out.2.1.len; omega⟩
   have HXU := Aside0.mk HV.out.2.2.2.1
   obtain ⟨cu0, cu1, cu2, cu3, cu4, zu0, zu1, zu2, zu3, zu4⟩ := fc_ HXU.out
   clear hje HE
   go_wp2_with fail
   clear HXU cu0 cu1 cu2 cu3 cu4 zu0 zu1 zu2 zu3 zu4
   go_loopg [68] U.f3.length (fun k i wr => ∃ (j : Nat) (out : S25) (X3 : Option Addr) (x3 : Nat) (X4 : Option Addr) (x4 : Nat), i = .int .i64 j ∧ Aside0 (j ≤ U.f3.length ∧ k + j = U.f3.length) ∧ Aside0 (VarsT S w wr D A3 c3 A4 c4 O B3 b3 B4 b4 U E3 e3 E4 e4 out X3 x3 X4 x4) ∧ Aside0 (thU O ((U.f3.zip U.f4).drop j) out = thU O (U.f3.zip U.f4) (thO (thD d) D U (O.f3.zip O.f4) D) ∧ out.f3.length = out.f4.length ∧ out.f4.length ≤ 120 + j))
   case atStart => exact ⟨0, out, X3, x3, X4, x4, rfl, ⟨by omega⟩, HV, ⟨by rw [HM2.out.1]; rfl, HM2.out.2.1, by have := HM2.out.2.2; omega⟩⟩
   case round =>
    clear HV HM2
    clear out X3 x3 X4 x4
    obtain ⟨j, out, X3, x3, X4, x4, rfl, HJ, HV, HE⟩ := hrel
    by_cases hj : j < U.f3.length
    ·have hj4 : j < U.f4.length := by have := HX.out.2.2.1.klen; omega
     generalize hkk : U.f3.getD j ByteArray.empty = kk
     generalize hoo : U.f4.getD j z25 = oo
     obtain ⟨ad3, ea, hs3⟩ := strAt HG.out.2.2.1 j hj
     obtain ⟨am, P3, p3, P4, p4, e6, hKp, fp0, fp1, fp2, fp3, fp4⟩ := nodeAt HG.out.2.2.2.1 j hj4 oo hoo
     rw [hkk] at hs3
     subst ea e6
     have hdrop : (U.f3.zip U.f4).drop j = (kk, oo) :: (U.f3.zip U.f4).drop (j + 1) := zip_drop hj hj4 hkk hoo
     have hKH : nodeR S w oo P3 p3 P4 p4 := held_item HK.out.2.2.rows j hj4 hoo fp0 fp1 fp2 fp3 fp4
     have HY := Aside0.mk (And.intro hdrop hKH)
     have HEL := Aside0.mk (And.intro fp0 (And.intro fp1 (And.intro fp2 (And.intro fp3 fp4))))
     have hs3' := (HV.out.1.cell (World.block_lt_of_cell? w _ hs3)).trans hs3
     have HXO := Aside0.mk HV.out.2.2.1
     obtain ⟨co0, co1, co2, co3, co4, zo0, zo1, zo2, zo3, zo4⟩ := fc_ HXO.out
     clear hkk hoo hKp hKH fp0 fp1 fp2 fp3 fp4 hs3 hdrop
     go_wp2_with fail
     refine (place_calls wr B3 b3 O.f3 kk (Kd.C_below HG.out.1 HV.out.1) HG.out.2.2.2.2).mono ?_
     rintro e w3 ⟨rfl, ⟨⟨n1, rfl⟩⟩⟩
     obtain ⟨pp, hpp⟩ : ∃ pp, pp = plc O.f3 kk := ⟨_, rfl⟩
     rw [← hpp]
     have hb3 : Below wr.heap.size wr (wr.drewN n1) := pw_below_drewN (Below.refl _ _) n1
     generalize wr.drewN n1 = w3 at hb3 ⊢
     have HV3 := Aside0.mk (HV.out.next hb3)
     have HPP := Aside0.mk hpp
     clear hb3 hpp HXO co0 co1 co2 co3 co4 zo0 zo1 zo2 zo3 zo4 hs3' HV
     by_cases hneg : pp < 0
     ·have hst : thU O ((kk, oo) :: (U.f3.zip U.f4).drop (j + 1)) out = thU O ((U.f3.zip U.f4).drop (j + 1)) (wi out kk oo) := by
       conv => lhs; unfold thU
       rw [if_neg (by rw [← HPP.out]; omega)]
      have HST := Aside0.mk hst
      clear hst
      go_wp2_with fail
      clear hneg
      have HS20 : Aside0 (∀ w', Below w3.heap.size w3 w' → w'.cell? ⟨w.heap.size + 1 + 1 + 1 + 1, 0, none⟩ = some (.int .i64 out.f0) ∧ w'.cell? ⟨w.heap.size + 1 + 1 + 1 + 1, 1, none⟩ = some (.string out.f1) ∧ w'.cell? ⟨w.heap.size + 1 + 1 + 1 + 1, 2, none⟩ = some (.string out.f2) ∧ w'.cell? ⟨w.heap.size + 1 + 1 + 1 + 1, 3, none⟩ = some (.slice X3 out.f3.length x3) ∧ w'.cell? ⟨w.heap.size + 1 + 1 + 1 + 1, 4, none⟩ = some (.slice X4 out.f4.length x4) ∧ w'.cell? ⟨w.heap.size + 1 + 1, 4, none⟩ = some (.slice (some am) U.f4.length e4) ∧ w'.cell? (am.add (j * 5)) = some (.int .i64 oo.f0) ∧ w'.cell? ⟨(am.add (j * 5)).block, (am.add (j * 5)).off + 1, none⟩ = some (.string oo.f1) ∧ w'.cell? ⟨(am.add (j * 5)).block, (am.add (j * 5)).off + 2, none⟩ = some (.string oo.f2) ∧ w'.cell? ⟨(am.add (j * 5)).block, (am.add (j * 5)).off + 3, none⟩ = some (.slice P3 oo.f3.length p3) ∧ w'.cell? ⟨(am.add (j * 5)).block, (am.add (j * 5)).off + 4, none⟩ = some (.slice P4 oo.f4.length p4)) := ⟨fun w' hc => by
       have old : ∀ {a : Addr} {v : Value}, w.cell? a = some v → w'.cell? a = some v := fun {a v} h => by
        have h1 := (HV3.out.1.cell (World.block_lt_of_cell? w a h)).trans h
        exact (hc.cell (World.block_lt_of_cell? _ _ h1)).trans h1
       have hx := Aside0.mk ((hc.block _ (lt_of_block HV3.out.2.2.2.2.2.1)).trans HV3.out.2.2.2.2.2.1)
       have ho := Aside0.mk ((hc.block _ (lt_of_block HV3.out.2.2.2.1)).trans HV3.out.2.2.2.1)
       obtain ⟨cx0, cx1, cx2, cx3, cx4, zx0, zx1, zx2, zx3, zx4⟩ := fc_ hx.out
       obtain ⟨co0, co1, co2, co3, co4, zo0, zo1, zo2, zo3, zo4⟩ := fc_ ho.out
       exact ⟨cx0, cx1, cx2, cx3, cx4, co4, old HEL.out.1, old HEL.out.2.1, old HEL.out.2.2.1, old HEL.out.2.2.2.1, old HEL.out.2.2.2.2⟩⟩
      refine start_ (n := 9) (S := fun w' => w'.cell? ⟨w.heap.size + 1 + 1 + 1 + 1, 0, none⟩ = some (.int .i64 out.f0) ∧ w'.cell? ⟨w.heap.size + 1 + 1 + 1 + 1, 1, none⟩ = some (.string out.f1) ∧ w'.cell? ⟨w.heap.size + 1 + 1 + 1 + 1, 2, none⟩ = some (.string out.f2) ∧ w'.cell? ⟨w.heap.size + 1 + 1 + 1 + 1, 3, none⟩ = some (.slice X3 out.f3.length x3) ∧ w'.cell? ⟨w.heap.size + 1 + 1 + 1 + 1, 4, none⟩ = some (.slice X4 out.f4.length x4) ∧ w'.cell? ⟨w.heap.size + 1 + 1, 4, none⟩ = some (.slice (some am) U.f4.length e4) ∧ w'.cell? (am.add (j * 5)) = some (.int .i64 oo.f0) ∧ w'.cell? ⟨(am.add (j * 5)).block, (am.add (j * 5)).off + 1, none⟩ = some (.string oo.f1) ∧ w'.cell? ⟨(am.add (j * 5)).block, (am.add (j * 5)).off + 2, none⟩ = some (.string oo.f2) ∧ w'.cell? ⟨(am.add (j * 5)).block, (am.add (j * 5)).off + 3, none⟩ = some (.slice P3 oo.f3.length p3) ∧ w'.cell? ⟨(am.add (j * 5)).block, (am.add (j * 5)).off + 4, none⟩ = some (.slice P4 oo.f4.length p4)) (ds := [7, 8]) #[false, false, false, false, false, false, false, false, false] (by kernel_rfl) rfl rfl (HS20.out _ (Below.refl _ _).drew) (fun hHeld => ?_)
      refine with_tabW (T := three20.T) (B := three20.B) three20.tab three20.bits (fun HT_ HW_ => ?_)
      refine ps_ 1 79 HT_ ?_
      refine ps_ 2 80 HT_ ?_
      refine ps_ 4 82 HT_ ?_
      refine ts_ 0 78 HT_ HW_ hHeld ?_
      refine ts_ 3 81 HT_ HW_ hHeld ?_
      refine ps_ 5 83 HT_ ?_
      refine ts_ 6 84 HT_ HW_ hHeld ?_
      refine last_ (i := 7) (N := (some 85)) #[true, true, true, true, true, true, true, true, false] rfl rfl (one_of HT_.out (by kernel_rfl)) (by decide) (fun K hK => ?_)
      refine goes_ Tryz.func18 (by kernel_rfl) rfl #[nodeV out X3 x3 X4 x4, .string kk, nodeV oo P3 p3 P4 p4] (by rfl) rfl rfl (by simp only [List.map_toArray, List.map_cons, List.map_nil]; rfl) ?_
      have hV8 := HV3.out.next (Below.refl w3.heap.size w3).drew
      refine (withS_calls (TS S w) out oo kk HE.out.2.1 (by have := HE.out.2.2; have := HX.out.2.2.len; omega) w3.drew (hV8.lt HSS.out) X3 x3 X4 x4 hV8.2.2.2.2.2.2 P3 p3 P4 p4 (HY.out.2.ts hV8.1)).mono ?_
      rintro e w7 ⟨R3, r3, R4, r4, rfl, hKr, hb7⟩
      obtain ⟨rr, hrr⟩ : ∃ rr, rr = wi out kk oo := ⟨_, rfl⟩
      rw [← hrr] at hKr ⊢
      refine ⟨_, rfl, ?_⟩
      refine hK.out _ _ ?_
      have HV7 := Aside0.mk (hV8.next hb7)
      have HKR := Aside0.mk hKr
      have HRR := Aside0.mk hrr
      clear hV8 hb7 hKr hrr hHeld
      clear hK K
      refine ns_ ?_
      refine last_ (i := 8) (N := none) #[true, true, true, true, true, true, true, true, true] rfl rfl (one_of HT_.out (by kernel_rfl)) (by decide) (fun K hK => ?_)
      have hxo := Aside0.mk HV7.out.2.2.2.2.2.1
      obtain ⟨co0, co1, co2, co3, co4, zo0, zo1, zo2, zo3, zo4⟩ := fc_ hxo.out
      rw [if_pos (by rfl)]
      go_simp
      clear hxo co0 co1 co2 co3 co4 zo0 zo1 zo2 zo3 zo4
      obtain ⟨wf, ef, hf, hcf⟩ := set5 (v0 := .int .i64 rr.f0) (v1 := .string rr.f1) (v2 := .string rr.f2) (v3 := .slice R3 rr.f3.length r3) (v4 := .slice R4 rr.f4.length r4) HV7.out.2.2.2.2.2.1
      rw [ef]
      have HV2 := Aside0.mk (HV7.out.put hf hcf HKR.out)
      clear ef hf hcf
      refine hK.out _ _ ?_
      clear hK K
      refine ns_ ?_
      refine done_ (done_of HT_.out (by kernel_rfl)) ?_
      go_wp2_with fail
      go_roundg (gk - 1)
      case measure => have := HJ.out; omega
      case rel => exact ⟨j + 1, rr, R3, r3, R4, r4, by go_num, ⟨by have := HJ.out; omega⟩, HV2, ⟨by rw [HRR.out, ← HST.out, ← HY.out.1]; exact HE.out.1, by rw [HRR.out]; exact wi_bound HE.out.2.1 HE.out.2.2⟩⟩
     ·have hst : thU O ((kk, oo) :: (U.f3.zip U.f4).drop (j + 1)) out = thU O ((U.f3.zip U.f4).drop (j + 1)) out := by
       conv => lhs; unfold thU
       rw [if_pos (by rw [← HPP.out]; omega)]
      have HST := Aside0.mk hst
      clear hst
      go_wp2_with fail
      go_roundg (gk - 1)
      case measure => have := HJ.out; omega
      case rel => exact ⟨j + 1, out, X3, x3, X4, x4, by go_num, ⟨by have := HJ.out; omega⟩, HV3, ⟨by rw [← HST.out, ← HY.out.1]; exact HE.out.1, HE.out.2.1, by have := HE.out.2.2; omega⟩⟩
    ·have hje : j = U.f3.length := by have := HJ.out; omega
     have HFI : Aside0 (out = thD (d + 1) D O U) := ⟨by
      have h := HE.out.1
      rw [hje, List.drop_eq_nil_of_le (by rw [List.length_zip]; omega)] at h
      refine Eq.trans h ?_
      conv => rhs; unfold thD
      rw [if_pos H2.out]⟩
     have hxo := Aside0.mk HV.out.2.2.2.2.2.1
     have hxz := Aside0.mk HV.out.2.2.2.2.1
     obtain ⟨co0, co1, co2, co3, co4, zo0, zo1, zo2, zo3, zo4⟩ := fc_ hxo.out
     obtain ⟨cr0, cr1, cr2, cr3, cr4, zr0, zr1, zr2, zr3, zr4⟩ := fc_ hxz.out
     clear hje HE hxo hxz
     go_wp2_with fail
     clear co0 co1 co2 co3 co4 zo0 zo1 zo2 zo3 zo4 cr0 cr1 cr2 cr3 cr4 zr0 zr1 zr2 zr3 zr4
     obtain ⟨wf, ef, hf, hcf⟩ := set5 (v0 := .int .i64 out.f0) (v1 := .string out.f1) (v2 := .string out.f2) (v3 := .slice X3 out.f3.length x3) (v4 := .slice X4 out.f4.length x4) HV.out.2.2.2.2.1
     rw [ef]
     have HFF := Aside0.mk hf
     obtain ⟨cf0, cf1, cf2, cf3, cf4, zf0, zf1, zf2, zf3, zf4⟩ := fc_ HFF.out
     have hbz : Below w.heap.size wr wf := hcf.below HV.out.1.size (fun k e => by omega)
     have HFK := Aside0.mk (And.intro (HV.out.kput hcf) (HV.out.1.trans hbz))
     clear hbz hcf ef hf
     refine bodyPost_ret (v := nodeV out X3 x3 X4 x4) (by simp [results, Tryz.results7, go_sem, cf0, cf1, cf2, cf3, cf4]) rfl ?_
     rw [← HFI.out]
     exact ⟨_, _, _, _, rfl, HFK.out.1, HFK.out.2⟩
set_option maxRecDepth 100000 in
set_option maxHeartbeats 1600000 in
theorem threeL (d : Nat) (D O U : S25) (hD : Fit (d + 1) D) (hO : Fit (d + 1) O) (hU : Fit (d + 1) U) (h2 : D.f0 ≠ 2) (S : Nat → Prop) (w : World) (hS : ∀ k, S k → k < w.heap.size) (A3 : Option Addr) (c3 : Nat) (A4 : Option Addr) (c4 : Nat) (B3 : Option Addr) (b3 : Nat) (B4 : Option Addr) (b4 : Nat) (E3 : Option Addr) (e3 : Nat) (E4 : Option Addr) (e4 : Nat)
  (hK : nodeR S w D A3 c3 A4 c4) (hK' : nodeR S w O B3 b3 B4 b4) (hK'' : nodeR S w U E3 e3 E4 e4) :
  Calls Tryz.prog 7 #[nodeV D A3 c3 A4 c4, nodeV O B3 b3 B4 b4, nodeV U E3 e3 E4 e4] w (NodePostS S w (thD (d + 1) D O U)) := by
 have hu := Tryz.underlying25
 have HK := Aside0.mk (And.intro hK (And.intro hK' hK''))
 have HX := Aside0.mk (And.intro hO hU)
 have h21 : (D.f0 == 2) = false := by simpa using h2
 have h22 : (D.f0 != 2) = true := by simp only [bne, h21]; rfl
 have HTH : Aside0 (thD (d + 1) D O U = if smD false (d + 1) U O then D else U) := ⟨by
  conv => lhs; unfold thD
  rw [if_neg h2]⟩
 clear hK hK' hK'' hS hD hO hU h2
 go_enter Tryz.func7, Tryz.ntmps7
 go_wp2_with fail
 clear h21 h22
 obtain ⟨w0, e0⟩ : ∃ w0, w0 = (((w.alloc (.cells #[.int .i64 D.f0, .string D.f1, .string D.f2, .slice A3 D.f3.length c3, .slice A4 D.f4.length c4] 25)).alloc (.cells #[.int .i64 O.f0, .string O.f1, .string O.f2, .slice B3 O.f3.length b3, .slice B4 O.f4.length b4] 25)).alloc (.cells #[.int .i64 U.f0, .string U.f1, .string U.f2, .slice E3 U.f3.length e3, .slice E4 U.f4.length e4] 25)).alloc (.cells #[.int .i64 0, .string ⟨#[]⟩, .string ⟨#[]⟩, .slice none 0 0, .slice none 0 0] 25) := ⟨_, rfl⟩
 rw [← e0]
 have H0 : Aside0 (Below w.heap.size w w0 ∧ inVar w0 (w.heap.size) D A3 c3 A4 c4 ∧ inVar w0 (w.heap.size + 1 + 1) U E3 e3 E4 e4 ∧ w0.heap[w.heap.size + 1 + 1 + 1]? = some (.cells #[.int .i64 0, .string ⟨#[]⟩, .string ⟨#[]⟩, .slice none 0 0, .slice none 0 0] 25 (0, 0))) := ⟨by
  have hb0 : Below w.heap.size w w0 := by rw [e0]; exact ((((Below.refl _ _).alloc (Nat.le_refl _) _).alloc (by simp) _).alloc (by simp <;> omega) _).alloc (by simp <;> omega) _
  refine ⟨hb0, ?_, ?_, ?_⟩
  all_goals rw [e0]
  ·exact (heap_old _ (by simp <;> omega)).trans ((heap_old _ (by simp <;> omega)).trans ((heap_old _ (by simp)).trans (heap_at _ rfl)))
  ·exact (heap_old _ (by simp)).trans (heap_at _ (by simp))
  ·exact heap_at _ (by simp)⟩
 clear e0
 refine (sameG_calls false (d + 1) U O (HX.out.2.1.sm HX.out.2.2) (HX.out.1.1.sm HX.out.1.2) w0 E3 e3 E4 e4 B3 b3 B4 b4 (HK.out.2.2.below H0.out.1).now (HK.out.2.1.below H0.out.1).now).mono ?_
 rintro e w1 ⟨rfl, hb1⟩
 have H1 : Aside0 (Below w.heap.size w w1 ∧ inVar w1 (w.heap.size) D A3 c3 A4 c4 ∧ inVar w1 (w.heap.size + 1 + 1) U E3 e3 E4 e4 ∧ w1.heap[w.heap.size + 1 + 1 + 1]? = some (.cells #[.int .i64 0, .string ⟨#[]⟩, .string ⟨#[]⟩, .slice none 0 0, .slice none 0 0] 25 (0, 0))) :=
  ⟨H0.out.1.trans (hb1.mono H0.out.1.size), (hb1.block _ (lt_of_block H0.out.2.1)).trans H0.out.2.1, (hb1.block _ (lt_of_block H0.out.2.2.1)).trans H0.out.2.2.1, (hb1.block _ (lt_of_block H0.out.2.2.2)).trans H0.out.2.2.2⟩
 obtain ⟨bb, hbb⟩ : ∃ bb, bb = smD false (d + 1) U O := ⟨_, rfl⟩
 rw [← hbb]
 have HBB := Aside0.mk hbb
 clear hb1 hbb H0
 have hxd := Aside0.mk H1.out.2.1
 have hxu := Aside0.mk H1.out.2.2.1
 have hxz := Aside0.mk H1.out.2.2.2
 cases bb with
 |true =>
  obtain ⟨cd0, cd1, cd2, cd3, cd4, zd0, zd1, zd2, zd3, zd4⟩ := fc_ hxd.out
  obtain ⟨cr0, cr1, cr2, cr3, cr4, zr0, zr1, zr2, zr3, zr4⟩ := fc_ hxz.out
  clear hxd hxu hxz
  go_wp2_with fail
  clear cd0 cd1 cd2 cd3 cd4 zd0 zd1 zd2 zd3 zd4 cr0 cr1 cr2 cr3 cr4 zr0 zr1 zr2 zr3 zr4
  obtain ⟨wf, ef, hf, hcf⟩ := set5 (v0 := .int .i64 D.f0) (v1 := .string D.f1) (v2 := .string D.f2) (v3 := .slice A3 D.f3.length c3) (v4 := .slice A4 D.f4.length c4) H1.out.2.2.2
  rw [ef]
  have HFF := Aside0.mk hf
  obtain ⟨cf0, cf1, cf2, cf3, cf4, zf0, zf1, zf2, zf3, zf4⟩ := fc_ HFF.out
  have hbz : Below w.heap.size w1 wf := hcf.below H1.out.1.size (fun k e => by omega)
  have HFB := Aside0.mk (H1.out.1.trans hbz)
  clear hbz hcf ef hf
  refine bodyPost_ret (v := nodeV D A3 c3 A4 c4) (by simp [results, Tryz.results7, go_sem, cf0, cf1, cf2, cf3, cf4]) rfl ?_
  rw [HTH.out, ← HBB.out]
  exact ⟨_, _, _, _, rfl, HK.out.1.below HFB.out, HFB.out⟩
 |false =>
  obtain ⟨cu0, cu1, cu2, cu3, cu4, zu0, zu1, zu2, zu3, zu4⟩ := fc_ hxu.out
  obtain ⟨cr0, cr1, cr2, cr3, cr4, zr0, zr1, zr2, zr3, zr4⟩ := fc_ hxz.out
  clear hxd hxu hxz
  go_wp2_with fail
  clear cu0 cu1 cu2 cu3 cu4 zu0 zu1 zu2 zu3 zu4 cr0 cr1 cr2 cr3 cr4 zr0 zr1 zr2 zr3 zr4
  obtain ⟨wf, ef, hf, hcf⟩ := set5 (v0 := .int .i64 U.f0) (v1 := .string U.f1) (v2 := .string U.f2) (v3 := .slice E3 U.f3.length e3) (v4 := .slice E4 U.f4.length e4) H1.out.2.2.2
  rw [ef]
  have HFF := Aside0.mk hf
  obtain ⟨cf0, cf1, cf2, cf3, cf4, zf0, zf1, zf2, zf3, zf4⟩ := fc_ HFF.out
  have hbz : Below w.heap.size w1 wf := hcf.below H1.out.1.size (fun k e => by omega)
  have HFB := Aside0.mk (H1.out.1.trans hbz)
  clear hbz hcf ef hf
  refine bodyPost_ret (v := nodeV U E3 e3 E4 e4) (by simp [results, Tryz.results7, go_sem, cf0, cf1, cf2, cf3, cf4]) rfl ?_
  rw [HTH.out, ← HBB.out]
  exact ⟨_, _, _, _, rfl, HK.out.2.2.below HFB.out, HFB.out⟩
theorem three_calls (d : Nat) : ∀ (D O U : S25) (hD : Fit d D) (hO : Fit d O) (hU : Fit d U) (S : Nat → Prop) (w : World) (hS : ∀ k, S k → k < w.heap.size) (A3 : Option Addr) (c3 : Nat) (A4 : Option Addr) (c4 : Nat) (B3 : Option Addr) (b3 : Nat) (B4 : Option Addr) (b4 : Nat) (E3 : Option Addr) (e3 : Nat) (E4 : Option Addr) (e4 : Nat)
  (hK : nodeR S w D A3 c3 A4 c4) (hK' : nodeR S w O B3 b3 B4 b4) (hK'' : nodeR S w U E3 e3 E4 e4), Calls Tryz.prog 7 #[nodeV D A3 c3 A4 c4, nodeV O B3 b3 B4 b4, nodeV U E3 e3 E4 e4] w (NodePostS S w (thD d D O U)) := by
 induction d with
 | zero => intro D O U hD; exact hD.1.elim
 |succ d ih =>
  intro D O U hD hO hU S w hS A3 c3 A4 c4 B3 b3 B4 b4 E3 e3 E4 e4 hK hK' hK''
  by_cases h2 : D.f0 = 2
  ·exact threeM d ih D O U hD hO hU h2 S w hS A3 c3 A4 c4 B3 b3 B4 b4 E3 e3 E4 e4 hK hK' hK''
  ·exact threeL d D O U hD hO hU h2 S w hS A3 c3 A4 c4 B3 b3 B4 b4 E3 e3 E4 e4 hK hK' hK''
end Go.Proofs.YtkpdkoafngjflaaGreat
