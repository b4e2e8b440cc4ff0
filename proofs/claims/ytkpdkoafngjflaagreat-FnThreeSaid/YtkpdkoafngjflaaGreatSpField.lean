import Derived.Test.YtkpdkoafngjflaaGreatFixed
namespace Go.Proofs.YtkpdkoafngjflaaGreat
open Go.RowKit Go.Proofs.YtkpdkoafngjflaaGreatW.PrintWords Go.Proofs.YtkpdkoafngjflaaGreatW.PrintLast Go.Proofs.YtkpdkoafngjflaaGreat.PFnFields
set_option linter.unusedVariables false
set_option linter.unusedSimpArgs false
def SpFieldPostS (S : Nat → Prop) (w : World) (x : S25) (nm : ByteArray) (e : Ending) (w' : World) : Prop :=
 Below w.heap.size w w' ∧ ∃ (A3 : Option Addr) (c3 : Nat) (A4 : Option Addr) (c4 : Nat), e = .returned (.tuple #[nodeV (spField x nm) A3 c3 A4 c4, .bool (has nm x)]) ∧ nodeR S w (spField x nm) A3 c3 A4 c4
set_option maxRecDepth 100000 in
theorem spFieldS_calls (S : Nat → Prop) (x : S25) (nm : ByteArray) (hkl : x.f3.length ≤ x.f4.length) (w : World) (A3 : Option Addr) (c3 : Nat) (A4 : Option Addr) (c4 : Nat)
  (hK : nodeR S w x A3 c3 A4 c4) :
  Calls Tryz.prog 16 #[.agg #[.int .i64 x.f0, .string x.f1, .string x.f2, .slice A3 x.f3.length c3, .slice A4 x.f4.length c4], .string nm] w (SpFieldPostS S w x nm) := by
 have hu := Tryz.underlying25
 have HK := Aside0.mk hK
 have g4 := hK.rows
 obtain ⟨g3, l3⟩ : ∃ q : Kd.string.C w A3 x.f3.length x.f3, x.f3.length ≤ c3 := by
  obtain ⟨B3, d3, B4, d4, he, l3, g3, l4, g4⟩ := k25_open hK.now
  simp only [List.cons.injEq, Value.slice.injEq, true_and, and_true] at he
  obtain ⟨⟨rfl, rfl⟩, rfl, rfl⟩ := he
  exact ⟨g3, l3⟩
 have HG := Aside0.mk (And.intro g3 (And.intro l3 g4))
 have hn4 : x.f4.length ≤ 9223372036854775807 := (g4 w (Chg.refl S w)).2.1
 have HKL := Aside0.mk hkl
 clear hK g3 l3 g4 hkl
 go_enter Tryz.func16, Tryz.ntmps16
 go_wp2_with fail
 refine (place_calls _ A3 c3 x.f3 nm (Kd.C_below HG.out.1 (((Below.refl _ _).alloc (Nat.le_refl _) _).alloc (by simp) _)) HG.out.2.1).mono ?_
 rintro e w1 ⟨rfl, ⟨⟨n1, rfl⟩⟩⟩
 obtain ⟨w1, e1⟩ : ∃ w1, w1 = ((w.alloc (.cells #[.int .i64 x.f0, .string x.f1, .string x.f2, .slice A3 x.f3.length c3, .slice A4 x.f4.length c4] 25)).alloc (.cells #[.int .i64 0, .string ⟨#[]⟩, .string ⟨#[]⟩, .slice none 0 0, .slice none 0 0] 25)).drewN n1 := ⟨_, rfl⟩
 rw [← e1]
 have hb1 : Below w.heap.size w w1 := by rw [e1]; exact pw_below_drewN (((Below.refl _ _).alloc (Nat.le_refl _) _).alloc (by simp) _) n1
 have hx1 : w1.heap[w.heap.size]? = some (.cells #[.int .i64 x.f0, .string x.f1, .string x.f2, .slice A3 x.f3.length c3, .slice A4 x.f4.length c4] 25 (0, 0)) := by rw [e1]; exact (heap_old _ (by simp)).trans (heap_at _ rfl)
 have hr1 : w1.heap[w.heap.size + 1]? = some (.cells #[.int .i64 0, .string ⟨#[]⟩, .string ⟨#[]⟩, .slice none 0 0, .slice none 0 0] 25 (0, 0)) := by rw [e1]; exact heap_at _ (by simp)
 have HB := Aside0.mk hb1
 have HX := Aside0.mk hx1
 have HR := Aside0.mk hr1
 clear hb1 hx1 hr1 e1
 obtain ⟨p, hp⟩ : ∃ p, p = plc x.f3 nm := ⟨_, rfl⟩
 rw [← hp]
 have cx0 := (cell_of_block (i := 0) HX.out).trans (show _ = some _ from rfl)
 have cx4 := (cell_of_block (i := 4) HX.out).trans (show _ = some _ from rfl)
 by_cases hc : x.f0 = 2 ∧ 0 ≤ p
 ·obtain ⟨h2, h0⟩ := hc
  obtain ⟨i, hpi, hi, hie⟩ := plc_pos x.f3 nm (by rw [← hp]; exact h0)
  have hi4 : i < x.f4.length := by have := HKL.out; omega
  generalize hyy : x.f4.getD i z25 = yy
  obtain ⟨ad4, B3, b3, B4, b4, e4, hKy, f0', f1', f2', f3', f4'⟩ := nodeAt (HG.out.2.2 w (Chg.refl S w)) i hi4 yy hyy
  subst e4
  have hKH : nodeR S w yy B3 b3 B4 b4 := held_item HG.out.2.2 i hi4 hyy f0' f1' f2' f3' f4'
  have f0 := (HB.out.cell (World.block_lt_of_cell? w _ f0')).trans f0'
  have f1 := (HB.out.cell (World.block_lt_of_cell? w _ f1')).trans f1'
  have f2 := (HB.out.cell (World.block_lt_of_cell? w _ f2')).trans f2'
  have f3 := (HB.out.cell (World.block_lt_of_cell? w _ f3')).trans f3'
  have f4 := (HB.out.cell (World.block_lt_of_cell? w _ f4')).trans f4'
  have hsp : spField x nm = yy := by
   unfold spField
   rw [← hp, if_pos ⟨h2, h0⟩, hp, hpi, Int.toNat_natCast, hyy]
  have hhas : has nm x = true := has_iff.2 ⟨h2, by rw [← hie]; exact List.getElem_mem _⟩
  obtain rfl : p = (i : Int) := by rw [hp, hpi]
  have HS := Aside0.mk (And.intro hsp (And.intro hhas hKH))
  have H2 := Aside0.mk h2
  rw [h2] at cx0
  clear hp hpi hi hie hyy hKy hKH f0' f1' f2' f3' f4' hsp hhas h0 h2
  obtain ⟨cr0, cr1, cr2, cr3, cr4, zr0, zr1, zr2, zr3, zr4⟩ := fc_ HR.out
  go_wp2
  obtain ⟨wf, ef, hf, hcf⟩ := set5 (v0 := .int .i64 yy.f0) (v1 := .string yy.f1) (v2 := .string yy.f2) (v3 := .slice B3 yy.f3.length b3) (v4 := .slice B4 yy.f4.length b4) HR.out
  rw [ef]
  have HF := Aside0.mk hf
  obtain ⟨cf0, cf1, cf2, cf3, cf4, zf0, zf1, zf2, zf3, zf4⟩ := fc_ HF.out
  clear cr0 cr1 cr2 cr3 cr4 zr0 zr1 zr2 zr3 zr4 hf ef
  refine bodyPost_ret (v := .tuple #[.agg #[.int .i64 yy.f0, .string yy.f1, .string yy.f2, .slice B3 yy.f3.length b3, .slice B4 yy.f4.length b4], .bool true]) (by simp [results, Tryz.results16, go_sem, cf0, cf1, cf2, cf3, cf4]) rfl ⟨HB.out.trans (hcf.below HB.out.size (fun k q => by omega)), ?_⟩
  rw [HS.out.1, HS.out.2.1]
  exact ⟨B3, b3, B4, b4, rfl, HS.out.2.2⟩
 ·have hsp : spField x nm = z25 := by
   unfold spField
   rw [← hp, if_neg hc]
  have hhas : has nm x = false := by
   rw [← Bool.not_eq_true, has_iff, ← plc_iff, ← hp]; exact hc
  have HS := Aside0.mk (And.intro hsp hhas)
  clear hsp hhas hp
  by_cases h2 : x.f0 = 2
  ·have hpb : decide (0 ≤ p) = false := by
    rw [decide_eq_false_iff_not]; exact fun h => hc ⟨h2, h⟩
   have hpn : ¬ 0 ≤ p := fun h => hc ⟨h2, h⟩
   rw [h2] at cx0
   clear hc h2
   obtain ⟨cr0, cr1, cr2, cr3, cr4, zr0, zr1, zr2, zr3, zr4⟩ := fc_ HR.out
   go_wp2
   obtain ⟨wf, ef, hf, hcf⟩ := set5 (v0 := .int .i64 0) (v1 := .string ⟨#[]⟩) (v2 := .string ⟨#[]⟩) (v3 := .slice none 0 0) (v4 := .slice none 0 0) HR.out
   rw [ef]
   have HF := Aside0.mk hf
   obtain ⟨cf0, cf1, cf2, cf3, cf4, zf0, zf1, zf2, zf3, zf4⟩ := fc_ HF.out
   clear cr0 cr1 cr2 cr3 cr4 zr0 zr1 zr2 zr3 zr4 hf ef
   refine bodyPost_ret (v := .tuple #[.agg #[.int .i64 0, .string ⟨#[]⟩, .string ⟨#[]⟩, .slice none 0 0, .slice none 0 0], .bool false]) (by simp [results, Tryz.results16, go_sem, cf0, cf1, cf2, cf3, cf4]) rfl ⟨HB.out.trans (hcf.below HB.out.size (fun k q => by omega)), ?_⟩
   rw [HS.out.1, HS.out.2]
   exact ⟨none, 0, none, 0, rfl, fun W' _ => k25_mk W' z25 (Nat.le_refl _) (Kd.C_nil _ _) (Nat.le_refl _) (Kd.C_nil _ _)⟩
  ·have hkb : (x.f0 == 2) = false := by simpa using h2
   clear hc h2
   obtain ⟨cr0, cr1, cr2, cr3, cr4, zr0, zr1, zr2, zr3, zr4⟩ := fc_ HR.out
   go_wp2
   obtain ⟨wf, ef, hf, hcf⟩ := set5 (v0 := .int .i64 0) (v1 := .string ⟨#[]⟩) (v2 := .string ⟨#[]⟩) (v3 := .slice none 0 0) (v4 := .slice none 0 0) HR.out
   rw [ef]
   have HF := Aside0.mk hf
   obtain ⟨cf0, cf1, cf2, cf3, cf4, zf0, zf1, zf2, zf3, zf4⟩ := fc_ HF.out
   clear cr0 cr1 cr2 cr3 cr4 zr0 zr1 zr2 zr3 zr4 hf ef
   refine bodyPost_ret (v := .tuple #[.agg #[.int .i64 0, .string ⟨#[]⟩, .string ⟨#[]⟩, .slice none 0 0, .slice none 0 0], .bool false]) (by simp [results, Tryz.results16, go_sem, cf0, cf1, cf2, cf3, cf4]) rfl ⟨HB.out.trans (hcf.below HB.out.size (fun k q => by omega)), ?_⟩
   rw [HS.out.1, HS.out.2]
   exact ⟨none, 0, none, 0, rfl, fun W' _ => k25_mk W' z25 (Nat.le_refl _) (Kd.C_nil _ _) (Nat.le_refl _) (Kd.C_nil _ _)⟩
end Go.Proofs.YtkpdkoafngjflaaGreat
