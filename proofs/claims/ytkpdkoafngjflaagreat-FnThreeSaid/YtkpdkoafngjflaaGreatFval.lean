import Derived.Test.YtkpdkoafngjflaaGreatRFields
import Derived.Test.YtkpdkoafngjflaaGreatCovers
namespace Go.Proofs.YtkpdkoafngjflaaGreat
open Go.RowKit Go.Proofs.YtkpdkoafngjflaaGreatW.PrintWords Go.Proofs.YtkpdkoafngjflaaGreatW.PrintLast Go.Proofs.YtkpdkoafngjflaaGreat.PFnFields Go.Maps
set_option linter.unusedVariables false
set_option linter.unusedSimpArgs false
def pick3 {α : Type} (a b c : α) : Nat → α
 | 0 => a
 | 1 => b
 | _ => c
theorem Src.at_ {w : World} {s : Nat} {v0 v1 v2 : Value} (h : Src w s v0 v1 v2) : ∀ j, j < 3 → w.cell? ⟨s, j, none⟩ = some (pick3 v0 v1 v2 j)
 | 0, _ => h.c0
 | 1, _ => h.c1
 | 2, _ => h.c2
 | _ + 3, h => by omega
def SM (w : World) (v : Value) : Option (List ByteArray × List Nat) → Prop
 | none => v = .pointer none
 | some (ks, bs) => ∃ r b A g c, v = ptr r ∧ RN w r b ∧ FM w b ks bs A g c
theorem SM.below {w w' : World} {v : Value} {o : Option (List ByteArray × List Nat)} (h : SM w v o) (hb : Below w.heap.size w w') : SM w' v o := by
 cases o with
 | none => exact h
 | some x => obtain ⟨ks, bs⟩ := x; obtain ⟨r, b, A, g, c, e, hr, hf⟩ := h; exact ⟨r, b, A, g, c, e, hr.below hb, hf.below hb⟩
def okeys (o : Option (List ByteArray × List Nat)) : List ByteArray := match o with
 | none => []
 | some x => x.1
def NamesIn (w w' : World) (has : ByteArray → Prop) (most : Nat) (e : Ending) : Prop :=
 ∃ (g cap : Nat) (ns : List ByteArray), e = .returned (.slice (some ⟨g, 0, none⟩) ns.length cap) ∧ ns.Nodup ∧ (∀ x, x ∈ ns ↔ has x) ∧ ns.length ≤ most ∧ w.heap.size ≤ g ∧ (∀ i (h : i < ns.length), w'.cell? ⟨g, i, none⟩ = some (.string ns[i])) ∧ Below w.heap.size w w'
set_option maxRecDepth 100000 in
set_option maxHeartbeats 1600000 in
theorem fieldnames_calls (w : World) (s c : Nat) (vis P : Value) (i v : Bool) (n : Int) (v0 v1 v2 : Value) (o0 o1 o2 : Option (List ByteArray × List Nat)) (h : Src w s v0 v1 v2) (h0 : SM w v0 o0) (h1 : SM w v1 o1) (h2 : SM w v2 o2) (hsz : ∀ j, j < 3 → ∀ x ∈ okeys (pick3 o0 o1 o2 j), x.size ≤ maxLen) :
  Calls Tryz.prog 53 #[.agg #[vis, .pointer none, srcV s c, P, .bool i, .bool v, .int .i64 n]] w fun e w' => NamesIn w w' (fun x => x ∈ okeys o0 ∨ x ∈ okeys o1 ∨ x ∈ okeys o2) 3000 e := by
 have hmm := @run_makeMap Tryz.prog
 have hS : ∀ j, j < 3 → SM w (pick3 v0 v1 v2 j) (pick3 o0 o1 o2 j) := fun j hj => by
  match j, hj with
  | 0, _ => exact h0
  | 1, _ => exact h1
  | 2, _ => exact h2
 have HS := Aside0.mk (And.intro h.at_ (And.intro hS hsz))
 clear h h0 h1 h2 hsz hS
 go_enter Tryz.func53, Tryz.ntmps53
 go_wp2_with fail
 obtain ⟨w1, e1⟩ : ∃ w1, w1 = (w.alloc (.cells #[vis, .pointer none, srcV s c, P, .bool i, .bool v, .int .i64 n] 63)).alloc (.map #[] 0) := ⟨_, rfl⟩
 rw [← e1]
 have hb1 : Below w.heap.size w w1 := by rw [e1]; exact ((Below.refl _ _).alloc (Nat.le_refl _) _).alloc (by simp) _
 have hm1 : w1.ownsMap Tryz.prog 9 nilE (w.heap.size + 1) 0 (.map []) := by
  have := World.ownsMap_made (w.alloc (.cells #[vis, .pointer none, srcV s c, P, .bool i, .bool v, .int .i64 n] 63)) Tryz.prog 9 nilE
  rw [e1]
  simpa using this
 have H1 := Aside0.mk (And.intro hb1 hm1)
 clear hb1 hm1 e1 hmm
 go_loopg [13] 3 (fun k i wr => ∃ j : Nat, i = .int .i64 j ∧ Aside0 (j ≤ 3 ∧ k + j = 3) ∧ Aside0 (∃ D m, wr.ownsMap Tryz.prog 9 nilE (w.heap.size + 1) m D ∧ m ≤ 1000 * j ∧ (∀ x, Maps.has D (kl x) = true ↔ ∃ q, q < j ∧ x ∈ okeys (pick3 o0 o1 o2 q)) ∧ Below w.heap.size w wr))
 case atStart => exact ⟨0, rfl, ⟨by omega⟩, ⟨_, _, H1.out.2, by omega, fun x => ⟨fun h => (by cases h), fun ⟨q, h, _⟩ => absurd h (Nat.not_lt_zero q)⟩, H1.out.1⟩⟩
 case round =>
  obtain ⟨j, rfl, HJ, HD⟩ := hrel
  obtain ⟨D, m, hown, hmm, hmem, hbw⟩ := HD.out
  have HM := Aside0.mk (And.intro hown (And.intro hmm (And.intro hmem hbw)))
  clear hown hmm hmem hbw HD
  by_cases hj : j < 3
  ·have hc := (HM.out.2.2.2.cell (World.block_lt_of_cell? w _ (HS.out.1 j hj))).trans (HS.out.1 j hj)
   have hjb : decide ((j : Int) < 3) = true := by simp; omega
   have hS := HS.out.2.1 j hj
   have hz := HS.out.2.2 j hj
   have hstep : ∀ x, (∃ q, q < j + 1 ∧ x ∈ okeys (pick3 o0 o1 o2 q)) ↔ ((∃ q, q < j ∧ x ∈ okeys (pick3 o0 o1 o2 q)) ∨ x ∈ okeys (pick3 o0 o1 o2 j)) := fun x =>
    ⟨fun ⟨q, h, hx⟩ => (Nat.lt_succ_iff_lt_or_eq.1 h).elim (fun h => .inl ⟨q, h, hx⟩) (fun e => .inr (by rw [← e]; exact hx)), fun h => h.elim (fun ⟨q, h, hx⟩ => ⟨q, by omega, hx⟩) (fun hx => ⟨j, by omega, hx⟩)⟩
   have HST := Aside0.mk hstep
   clear hstep
   generalize pick3 v0 v1 v2 j = vj at hc hS
   generalize pick3 o0 o1 o2 j = oj at hS hz HST
   have HSJ := Aside0.mk (And.intro hS hz)
   clear hS hz
   rcases oj with _ | ⟨ks, bs⟩
   ·obtain rfl : vj = .pointer none := HSJ.out.1
    go_wp2_with fail
    go_roundg (gk - 1)
    case measure => have := HJ.out; omega
    case rel => exact ⟨j + 1, by go_num, ⟨by have := HJ.out; omega⟩, ⟨D, m, HM.out.1, by have := HM.out.2.1; omega, fun x => by rw [HST.out x, HM.out.2.2.1 x]; simp [okeys], HM.out.2.2.2⟩⟩
   ·obtain ⟨r, b, A, g, cc, e, hr, hf⟩ := HSJ.out.1
    subst e
    have HF := Aside0.mk (And.intro hr hf)
    clear hr hf
    go_wp2_with fail
    refine (fmfields_calls _ r b ks bs A g cc (HF.out.1.below HM.out.2.2.2) (HF.out.2.below HM.out.2.2.2)).mono ?_
    rintro e w2 ⟨hb2, kvv, rfl, hR⟩
    obtain ⟨A1, c1, rfl, _, hC⟩ := Kd.R_reads hR
    have hown2 := HM.out.1.kept ⟨hb2.os, hb2.tape, hb2.output, hb2.size, fun k hk _ => hb2.block k hk⟩ (row := none) (by simp)
    have H2 := Aside0.mk (And.intro (HM.out.2.2.2.trans (hb2.mono HM.out.2.2.2.size)) (And.intro hown2 hC))
    clear hb2 hR hown2 hC
    go_wp2_with fail
    refine (insert_calls w2 (w.heap.size + 1) m c1 D A1 ks H2.out.2.1 H2.out.2.2 HF.out.2.most (by have := HM.out.2.1; have := HF.out.2.most; omega) HSJ.out.2).mono ?_
    rintro e w3 ⟨rfl, D', hown3, hmem3, hg3⟩
    have H3 := Aside0.mk (And.intro hown3 (And.intro hmem3 (H2.out.1.grown hg3 H2.out.1.size (fun j hj => by cases hj; omega))))
    clear hown3 hmem3 hg3
    go_wp2_with fail
    go_roundg (gk - 1)
    case measure => have := HJ.out; omega
    case rel => exact ⟨j + 1, by go_num, ⟨by have := HJ.out; omega⟩, ⟨D', _, H3.out.1, by have := HM.out.2.1; have := HF.out.2.most; omega, fun x => by rw [HST.out x, H3.out.2.1 x, HM.out.2.2.1 x]; rfl, H3.out.2.2⟩⟩
  ·have hjb : decide ((j : Int) < 3) = false := by simp; have := HJ.out; omega
   have hje : j = 3 := by have := HJ.out; omega
   subst hje
   clear hjb hj
   go_wp2_with fail
   refine (list_calls _ (w.heap.size + 1) m D HM.out.1 (by have := HM.out.2.1; omega)).mono ?_
   rintro e w2 ⟨g, cap, ss, rfl, hnd, hss, hlen, hrow, hb2⟩
   have H2 := Aside0.mk (And.intro hnd (And.intro hss (And.intro hlen (And.intro hrow (HM.out.2.2.2.trans (hb2.mono HM.out.2.2.2.size))))))
   clear hnd hss hlen hrow hb2
   go_wp2_with fail
   rcases H2.out.2.2.2.1.2 with ⟨hnil, _⟩ | ⟨g', cap', cur, ev, hbase, hb, h1, h2, h3, h4⟩
   ·cases hnil
   cases ev
   have hH : Go.Sort.Holds Go.Proofs.encStr w2 g 0 ss.toArray := holds_of_block hb (by simpa using h4)
   have hgl : g < w2.heap.size := (Array.getElem?_eq_some_iff.1 hb).1
   have hc : Calls Tryz.prog 72 #[.slice (some ⟨g, 0, none⟩) ss.length cap] w2 _ := Any.sort_Strings lays192 g 0 cap ss w2 hH hgl (by have := H2.out.2.2.1; have := HM.out.2.1; omega)
   have HB := Aside0.mk (And.intro hbase (And.intro hb (And.intro h1 (And.intro h2 h3))))
   have HC := Aside0.mk hc
   clear hbase hb h1 h2 h3 h4 hH hc hgl
   refine HC.out.mono ?_
   rintro e w3 ⟨rfl, nn, os, e3⟩
   have hrow3 := ownsRow_sorted (w := w2) (n := nn) (os := os) (ts := ss.mergeSort fun x y => decide (x ≤ y)) (by simp) HB.out.1 HB.out.2.1 HB.out.2.2.1 HB.out.2.2.2.1 HB.out.2.2.2.2
   rw [← e3] at hrow3
   have hg3 : w2.grownBy w3 (some g) := by rw [e3]; exact grownBy_sorted _
   have H3 := Aside0.mk (And.intro hrow3 (H2.out.2.2.2.2.grown hg3 H2.out.2.2.2.2.size (fun j hj => by cases hj; have := HB.out.1; have := HM.out.2.2.2.size; omega)))
   clear hrow3 hg3 e3
   go_wp2_with fail
   refine bodyPost_ret (v := .slice (some ⟨g, 0, none⟩) ss.length cap) (by simp [results, Tryz.results53, go_sem]) rfl ?_
   have hl : (ss.mergeSort fun x y => decide (x ≤ y)).length = ss.length := List.length_mergeSort ss
   refine ⟨g, cap, (ss.mergeSort fun x y => decide (x ≤ y)).map fun l => ⟨l.toArray⟩, ?_, ?_, fun x => ?_, ?_, ?_, fun i hi => ?_, H3.out.2⟩
   ·rw [List.length_map, hl]
   ·refine List.pairwise_map.2 (((List.mergeSort_perm ss _).nodup_iff.2 H2.out.1).imp fun {a b} hab e => hab ?_)
    simpa using e
   ·rw [List.mem_map]
    have hx := HM.out.2.2.1 x
    constructor
    ·rintro ⟨l, hl, rfl⟩
     have := (H2.out.2.1 l).1 ((List.mergeSort_perm ss _).mem_iff.1 hl)
     obtain ⟨q, hq, hm⟩ := hx.1 (by simpa [kl] using this)
     match q, hq with
     | 0, _ => exact .inl hm
     | 1, _ => exact .inr (.inl hm)
     | 2, _ => exact .inr (.inr hm)
    ·intro h
     refine ⟨x.data.toList, (List.mergeSort_perm ss _).mem_iff.2 ((H2.out.2.1 _).2 (hx.2 ?_)), by simp⟩
     rcases h with h | h | h
     ·exact ⟨0, by omega, h⟩
     ·exact ⟨1, by omega, h⟩
     ·exact ⟨2, by omega, h⟩
   ·rw [List.length_map, hl]
    have := H2.out.2.2.1; have := HM.out.2.1; omega
   ·have := HB.out.1; have := HM.out.2.2.2.size; omega
   ·refine own_cell H3.out.1 i _ ?_
    rw [List.length_map] at hi
    simp only [List.getElem?_map, List.getElem?_eq_getElem hi, Option.map_some, List.getElem_map]
end Go.Proofs.YtkpdkoafngjflaaGreat
namespace Go.Proofs.YtkpdkoafngjflaaGreat
open Go.RowKit Go.Proofs.YtkpdkoafngjflaaGreatW.PrintWords Go.Proofs.YtkpdkoafngjflaaGreatW.PrintLast Go.Proofs.YtkpdkoafngjflaaGreat.PFnFields
set_option linter.unusedVariables false
set_option linter.unusedSimpArgs false
theorem vip_nil (w : World) (vis src P : Value) (i v : Bool) (n : Int) : Calls Tryz.prog 76 #[.agg #[vis, .pointer none, src, P, .bool i, .bool v, .int .i64 n], .pointer none] w fun e w' => e = .returned (.tuple #[.pointer none, .pointer none]) ∧ Below w.heap.size w w' := by
 have HB : Aside0 (∀ o : Obj, Below w.heap.size w (w.alloc o)) := ⟨fun o => (Below.refl _ _).alloc (Nat.le_refl _) o⟩
 go_enter Tryz.func76, Tryz.ntmps76
 go_wp2
 exact bodyPost_ret (v := .tuple #[.pointer none, .pointer none]) (by simp [results, Tryz.results76, go_sem]) rfl ⟨rfl, HB.out _⟩
theorem vip_some (w : World) (vis src P : Value) (i v : Bool) (n : Int) (m kr vr : Nat) (h : w.heap[m]? = some (.cells #[ptr kr, ptr vr] 93 (0, 0))) :
  Calls Tryz.prog 76 #[.agg #[vis, .pointer none, src, P, .bool i, .bool v, .int .i64 n], ptr m] w fun e w' => e = .returned (.tuple #[ptr vr, .pointer none]) ∧ Below w.heap.size w w' := by
 have HB : Aside0 (∀ o : Obj, Below w.heap.size w (w.alloc o)) := ⟨fun o => (Below.refl _ _).alloc (Nat.le_refl _) o⟩
 have c1 : ∀ o : Obj, (w.alloc o).cell? ⟨m, 1, none⟩ = some (ptr vr) := fun o => by rw [World.cell?_alloc_lt _ _ _ (lt_of_block h), cell_of_block h]; rfl
 clear h
 go_enter Tryz.func76, Tryz.ntmps76
 go_wp2
 exact bodyPost_ret (v := .tuple #[ptr vr, .pointer none]) (by simp [results, Tryz.results76, go_sem]) rfl ⟨rfl, HB.out _⟩
theorem smiss_calls (w : World) (p : Option Addr) : Calls Tryz.prog 77 #[.pointer p] w fun e w' => e = .returned (.bool true) ∧ w = w' := by
 go_enter Tryz.func77, Tryz.ntmps77
 go_wp2
 go_ret
 exact ⟨rfl, rfl⟩
theorem Tryz.infoPRN : (Tryz.prog.info? 42).map (fun i => (i.zero, i.size, i.bytes)) = some (some (.pointer none), 1, 8) := by kernel_rfl
theorem RN.grown {w w' : World} {r b base n : Nat} {v : Value} {xs : List Value} (h : RN w r b) (ho : w.ownsRow base 42 1 v n xs) (hg : w.grownBy w' v.ownBlock) : RN w' r b :=
 h.move (fun l => hg.block r l (fun e => by
  obtain ⟨cs, hh⟩ := own_typed ho r e.symm
  obtain ⟨_, _, _, h⟩ := h
  rw [h] at hh
  simp at hh))
theorem AZ.grown {w w' : World} {base b m base' n : Nat} {v : Value} {xs : List Value} (h : AZ w base b m) (ho : w.ownsRow base' 42 1 v n xs) (hg : w.grownBy w' v.ownBlock) : AZ w' base b m :=
 h.move (fun k _ l q => hg.block k l (fun e => by
  obtain ⟨cs, hh⟩ := own_typed ho k e.symm
  have := q cs _ hh
  simp at this))
theorem row_keeps {w w' : World} {base e size n m : Nat} {v : Value} {xs : List Value} {cs : Array Value} {t : TypeId} (ho : w.ownsRow base e size v n xs) (hg : w.grownBy w' v.ownBlock) (h : w.heap[m]? = some (.cells cs t (0, 0))) (hne : t ≠ e) : w'.heap[m]? = some (.cells cs t (0, 0)) :=
 (hg.block m (lt_of_block h) (fun q => by
  obtain ⟨cs', hh⟩ := own_typed ho m q.symm
  rw [h] at hh
  simp only [Option.some.injEq, Obj.cells.injEq] at hh
  exact hne hh.2.1)).trans h
theorem live_key : Live 8 ⟨#[]⟩ := ⟨rfl, by rw [ByteArray.toList_eq]; rfl⟩
def FV (w : World) (base : Nat) (nm : ByteArray) (o : Option (List ByteArray × List Nat)) (x : Value) : Prop :=
 (nm ∉ okeys o ∧ x = .pointer none) ∨ ∃ ks bs j vr, o = some (ks, bs) ∧ ks[j]? = some nm ∧ x = ptr vr ∧ RN w vr (bs.getD (2 * j + 1) 0) ∧ base ≤ vr
theorem FV.below {w w' : World} {base : Nat} {nm : ByteArray} {o : Option (List ByteArray × List Nat)} {x : Value} (h : FV w base nm o x) (hb : Below w.heap.size w w') : FV w' base nm o x := by
 rcases h with h | ⟨ks, bs, j, vr, h1, h2, h3, h4, h5⟩
 ·exact .inl h
 ·exact .inr ⟨ks, bs, j, vr, h1, h2, h3, h4.below hb, h5⟩
theorem FV.imp {w w' : World} {base : Nat} {nm : ByteArray} {o : Option (List ByteArray × List Nat)} {x : Value} (h : FV w base nm o x) (hr : ∀ r b, RN w r b → RN w' r b) : FV w' base nm o x := by
 rcases h with h | ⟨ks, bs, j, vr, h1, h2, h3, h4, h5⟩
 ·exact .inl h
 ·exact .inr ⟨ks, bs, j, vr, h1, h2, h3, hr _ _ h4, h5⟩
theorem FVs_step {w w' : World} {base j : Nat} {nm : ByteArray} {o0 o1 o2 : Option (List ByteArray × List Nat)} {xs : List Value} {x' : Value} (h : ∀ q x, xs[q]? = some x → FV w base nm (pick3 o0 o1 o2 q) x) (hr : ∀ r b, RN w r b → RN w' r b) (hl : xs.length = j)
  (hn : FV w' base nm (pick3 o0 o1 o2 j) x') : ∀ q x, (xs ++ [x'])[q]? = some x → FV w' base nm (pick3 o0 o1 o2 q) x := fun q x hx => by
 rcases Nat.lt_or_ge q xs.length with hq | hq
 ·rw [List.getElem?_append_left hq] at hx
  exact (h q x hx).imp hr
 ·rw [List.getElem?_append_right hq] at hx
  have hq0 : q - xs.length = 0 := by
   rcases Nat.eq_zero_or_pos (q - xs.length) with e | e
   ·exact e
   ·rw [List.getElem?_eq_none (by simp; omega)] at hx; cases hx
  rw [hq0] at hx
  obtain rfl := Option.some.inj hx
  obtain rfl : q = j := by omega
  exact hn
theorem AZ.mono {w : World} {base b n n' : Nat} (h : AZ w base b n) (hn : n ≤ n') : AZ w base b n' := by
 obtain ⟨es, clock, h1, h2, h3, h4⟩ := h
 exact ⟨es, clock, h1, Nat.le_trans h2 hn, h3, h4⟩
def FvalIn (w w' : World) (nm : ByteArray) (o0 o1 o2 : Option (List ByteArray × List Nat)) (e : Ending) : Prop :=
 ∃ (g cap mb : Nat) (x0 x1 x2 : Value), e = .returned (.tuple #[srcV g cap, .pointer none, .map (some mb)]) ∧ w'.ownsRow w.heap.size 42 1 (srcV g cap) 3 [x0, x1, x2] ∧
  FV w' w.heap.size nm o0 x0 ∧ FV w' w.heap.size nm o1 x1 ∧ FV w' w.heap.size nm o2 x2 ∧ AZ w' w.heap.size mb 3 ∧ Below w.heap.size w w' ∧ w.heap.size ≤ g
set_option maxRecDepth 100000 in
set_option maxHeartbeats 1600000 in
theorem fieldvalue_calls (w : World) (s c : Nat) (vis P : Value) (inf keys : Bool) (n : Int) (nm : ByteArray) (v0 v1 v2 : Value) (o0 o1 o2 : Option (List ByteArray × List Nat)) (h : Src w s v0 v1 v2) (h0 : SM w v0 o0) (h1 : SM w v1 o1) (h2 : SM w v2 o2) :
  Calls Tryz.prog 56 #[.agg #[vis, .pointer none, srcV s c, P, .bool inf, .bool keys, .int .i64 n], .string nm] w fun e w' => FvalIn w w' nm o0 o1 o2 e := by
 obtain ⟨i0, hi, hz0, hz1, hz2⟩ := info_parts Tryz.infoPRN
 have hmm : ∀ (k : Int) (w : World), (Instr.makeMap 95 (some (.int .i64 k))).run Tryz.prog w = .ok (.map (some w.heap.size)) (w.alloc (.map #[] 0)) := fun k w => by
  simp [Instr.makeMap, run_underlying Tryz.underlying95, Result.andThen, asInt, newObj]
  rfl
 have hS : ∀ j, j < 3 → SM w (pick3 v0 v1 v2 j) (pick3 o0 o1 o2 j) := fun j hj => by
  match j, hj with
  | 0, _ => exact h0
  | 1, _ => exact h1
  | 2, _ => exact h2
 have HS := Aside0.mk (And.intro h.at_ hS)
 clear h h0 h1 h2 hS
 go_enter Tryz.func56, Tryz.ntmps56
 go_wp2_with fail
 obtain ⟨w1, e1⟩ : ∃ w1, w1 = (w.alloc (.cells #[vis, .pointer none, srcV s c, P, .bool inf, .bool keys, .int .i64 n] 63)).alloc (.map #[] 0) := ⟨_, rfl⟩
 rw [← e1]
 have hb1 : Below w.heap.size w w1 := by rw [e1]; exact ((Below.refl _ _).alloc (Nat.le_refl _) _).alloc (by simp) _
 have hm1 : AZ w1 w.heap.size (w.heap.size + 1) 0 := by
  have := AZ.made (w.alloc (.cells #[vis, .pointer none, srcV s c, P, .bool inf, .bool keys, .int .i64 n] 63)) w.heap.size (by simp)
  rw [e1]
  simpa using this
 have hl1 : w1.heap[w.heap.size]? = some (.cells #[vis, .pointer none, srcV s c, P, .bool inf, .bool keys, .int .i64 n] 63 (0, 0)) := by
  rw [e1]; exact (heap_old _ (by simp)).trans (heap_at _ rfl)
 have H1 := Aside0.mk (And.intro hb1 (And.intro hm1 hl1))
 clear hb1 hm1 e1 hmm hl1
 go_loopg [21, 7, 8] 3 (fun k i v8 v9 wr => v9 = .pointer none ∧ ∃ (j : Nat) (A : Option Addr) (cp : Nat) (xs : List Value), i = .int .i64 j ∧ v8 = .slice A j cp ∧ Aside0 (j ≤ 3 ∧ k + j = 3) ∧ Aside0 (wr.ownsRow w.heap.size 42 1 (.slice A j cp) j xs) ∧
  Aside0 (xs.length = j ∧ (∀ q x, xs[q]? = some x → FV wr w.heap.size nm (pick3 o0 o1 o2 q) x) ∧ AZ wr w.heap.size (w.heap.size + 1) j ∧ Below w.heap.size w wr ∧ wr.heap[w.heap.size]? = some (.cells #[vis, .pointer none, srcV s c, P, .bool inf, .bool keys, .int .i64 n] 63 (0, 0))))
 case atStart => exact ⟨rfl, 0, none, 0, [], rfl, rfl, ⟨by omega⟩, ⟨own_nil _ _ _ _⟩, ⟨rfl, fun q x hx => by simp at hx, H1.out.2.1, H1.out.1, H1.out.2.2⟩⟩
 case round =>
  obtain ⟨rfl, j, A, cp, xs, rfl, rfl, HJ, HROW, HM⟩ := hrel
  obtain ⟨hxl, hxs, hm, hbw, hlb⟩ := HM.out
  have HX := Aside0.mk (And.intro hxl (And.intro hxs (And.intro hm hbw)))
  have HL := Aside0.mk hlb
  have l0 := (cell_of_block (i := 0) hlb).trans (show _ = some _ from rfl)
  have l1 := (cell_of_block (i := 1) hlb).trans (show _ = some _ from rfl)
  have l2 := (cell_of_block (i := 2) hlb).trans (show _ = some _ from rfl)
  have l3 := (cell_of_block (i := 3) hlb).trans (show _ = some _ from rfl)
  have l4 := (cell_of_block (i := 4) hlb).trans (show _ = some _ from rfl)
  have l5 := (cell_of_block (i := 5) hlb).trans (show _ = some _ from rfl)
  have l6 := (cell_of_block (i := 6) hlb).trans (show _ = some _ from rfl)
  have hbs := hbw.size
  clear hxl hxs hm hbw hlb HM
  by_cases hj : j < 3
  ·have hc := (HX.out.2.2.2.cell (World.block_lt_of_cell? w _ (HS.out.1 j hj))).trans (HS.out.1 j hj)
   have hjb : decide ((j : Int) < 3) = true := by simp; omega
   have hS := HS.out.2 j hj
   have HJ3 := Aside0.mk hj
   generalize pick3 v0 v1 v2 j = vj at hc hS
   generalize ho : pick3 o0 o1 o2 j = oj at hS
   have HSJ := Aside0.mk (And.intro hS ho)
   clear hS ho
   rcases oj with _ | ⟨ks, bs⟩
   ·obtain rfl : vj = .pointer none := HSJ.out.1
    clear l0 l1 l3 l4 l5 l6
    go_wp2_with (first
     | (at_builtin; refine wpList_append_own _ rfl _ _ 54 rfl w.heap.size 42 i0 (.pointer none) 1 8 Tryz.underlying54 hi hz0 hz1 hz2 rfl (by decide) _ j xs rfl (HROW.out.alloc _) ⟨wr.heap.size, 0, none⟩ 1 1 [Value.pointer none] rfl rfl (cell_one_new _ _ _) (by simp [Value.oneCell']) (by unfold maxLen; have := HJ.out; omega) (by have := HJ.out; omega) (by simp; omega) ?_; intro v' w3 hown' hg3 hnil3; go_frame)
     | go_in)
    have HN := Aside0.mk (And.intro hown' hg3)
    obtain ⟨A', cp', rfl⟩ := own_slice hown'
    clear hown' hg3 hnil3
    go_roundg (gk - 1)
    case measure => have := HJ.out; omega
    case rel =>
     have ha : Below wr.heap.size wr (wr.alloc (.cells #[.pointer none] 42)) := (Below.refl _ _).alloc (Nat.le_refl _) _
     have hro := HROW.out.alloc (.cells #[.pointer none] 42)
     refine ⟨rfl, j + 1, A', cp', xs ++ [.pointer none], by go_num, rfl, ⟨by have := HJ.out; omega⟩, ⟨HN.out.1⟩, ⟨by simp [HX.out.1], FVs_step HX.out.2.1 (fun r b hr => (hr.below ha).grown hro HN.out.2) HX.out.1 (.inl ⟨by rw [HSJ.out.2]; simp [okeys], rfl⟩), ?_, ?_, ?_⟩⟩
     ·exact ((HX.out.2.2.1.below ha).grown hro HN.out.2).mono (Nat.le_succ _)
     ·exact (HX.out.2.2.2.trans (ha.mono hbs)).grown HN.out.2 (Nat.le_trans hbs ha.size) (fun k hk => own_base hro k hk)
     ·exact row_keeps hro HN.out.2 ((ha.block _ (lt_of_block HL.out)).trans HL.out) (by decide)
   ·obtain ⟨r, b, A1, g1, cc, e, hr, hf⟩ := HSJ.out.1
    subst e
    have HF := Aside0.mk (And.intro hr hf)
    clear hr hf
    go_wp2_with fail
    refine (fmfield_calls _ r b nm ks bs A1 g1 cc (HF.out.1.below HX.out.2.2.2) (HF.out.2.below HX.out.2.2.2)).mono ?_
    rintro e w2 ⟨hb2, hcase⟩
    clear l0 l1 l2 l3 l4 l5 l6 hc
    have HB2 := Aside0.mk (And.intro hb2 ((hb2.block _ (lt_of_block HL.out)).trans HL.out))
    have hbs2 : w.heap.size ≤ w2.heap.size := Nat.le_trans hbs hb2.size
    clear hb2
    rcases hcase with ⟨hnin, rfl⟩ | ⟨q, m, kr, vr, hq, rfl, hm, hkr, hvr, hlm, hlk, hlv⟩
    ·have HNI := Aside0.mk hnin
     clear hnin
     have l0 := (cell_of_block (i := 0) (HB2.out.2)).trans (show _ = some _ from rfl); have l1 := (cell_of_block (i := 1) (HB2.out.2)).trans (show _ = some _ from rfl); have l2 := (cell_of_block (i := 2) (HB2.out.2)).trans (show _ = some _ from rfl); have l3 := (cell_of_block (i := 3) (HB2.out.2)).trans (show _ = some _ from rfl); have l4 := (cell_of_block (i := 4) (HB2.out.2)).trans (show _ = some _ from rfl); have l5 := (cell_of_block (i := 5) (HB2.out.2)).trans (show _ = some _ from rfl); have l6 := (cell_of_block (i := 6) (HB2.out.2)).trans (show _ = some _ from rfl)
     go_wp2_with fail
     refine (vip_nil w2 vis (srcV s c) P inf keys n).mono ?_
     rintro e w4 ⟨rfl, hb4⟩
     have hbs4 : w.heap.size ≤ w4.heap.size := Nat.le_trans hbs2 hb4.size
     have HB4 := Aside0.mk (And.intro (HB2.out.1.trans (hb4.mono HB2.out.1.size)) ((hb4.block _ (lt_of_block HB2.out.2)).trans HB2.out.2))
     have HR4 := Aside0.mk (HROW.out.kept ⟨HB4.out.1.os, HB4.out.1.tape, HB4.out.1.output, HB4.out.1.size, fun k hk _ => HB4.out.1.block k hk⟩ (row := none) (by cases A <;> simp [Value.ownBlock]))
     clear hb4 l0 l1 l2 l3 l4 l5 l6
     go_wp2_with (first
      | (at_builtin; refine wpList_append_own _ rfl _ _ 54 rfl w.heap.size 42 i0 (.pointer none) 1 8 Tryz.underlying54 hi hz0 hz1 hz2 rfl (by decide) _ j xs rfl (HR4.out.alloc _) ⟨w4.heap.size, 0, none⟩ 1 1 [Value.pointer none] rfl rfl (cell_one_new _ _ _) (by simp [Value.oneCell']) (by unfold maxLen; have := HJ.out; omega) (by have := HJ.out; omega) (by simp; omega) ?_; intro v' w3 hown' hg3 hnil3; go_frame)
      | (go_at_call 77; refine (smiss_calls _ _).mono ?_; rintro e w' ⟨rfl, rfl⟩)
      | go_in)
     have HN := Aside0.mk (And.intro hown' hg3)
     obtain ⟨A', cp', rfl⟩ := own_slice hown'
     clear hown' hg3 hnil3
     go_roundg (gk - 1)
     case measure => have := HJ.out; omega
     case rel =>
      have ha : Below w4.heap.size w4 (w4.alloc (.cells #[.pointer none] 42)) := (Below.refl _ _).alloc (Nat.le_refl _) _
      have hro := HR4.out.alloc (.cells #[.pointer none] 42)
      refine ⟨rfl, j + 1, A', cp', xs ++ [.pointer none], by go_num, rfl, ⟨by have := HJ.out; omega⟩, ⟨HN.out.1⟩, ⟨by simp [HX.out.1], FVs_step HX.out.2.1 (fun r b hr => ((hr.below HB4.out.1).below ha).grown hro HN.out.2) HX.out.1 (.inl ⟨by rw [HSJ.out.2]; exact HNI.out, rfl⟩), ?_, ?_, ?_⟩⟩
      ·exact (((HX.out.2.2.1.below HB4.out.1).below ha).grown hro HN.out.2).mono (Nat.le_succ _)
      ·exact ((HX.out.2.2.2.trans (HB4.out.1.mono hbs)).trans (ha.mono hbs4)).grown HN.out.2 (Nat.le_trans hbs4 ha.size) (fun k hk => own_base hro k hk)
      ·exact row_keeps hro HN.out.2 ((ha.block _ (lt_of_block HB4.out.2)).trans HB4.out.2) (by decide)
    ·obtain ⟨kb, hkbe⟩ : ∃ kb, kb = bs.getD (2 * q) 0 := ⟨_, rfl⟩
     rw [← hkbe] at hkr
     have HKE := Aside0.mk hkbe
     clear hkbe
     have HQ := Aside0.mk (And.intro hq (And.intro hm (And.intro hkr (And.intro hvr (And.intro hlm (And.intro hlk hlv))))))
     clear hq hm hkr hvr hlm hlk hlv
     have l0 := (cell_of_block (i := 0) (HB2.out.2)).trans (show _ = some _ from rfl); have l1 := (cell_of_block (i := 1) (HB2.out.2)).trans (show _ = some _ from rfl); have l2 := (cell_of_block (i := 2) (HB2.out.2)).trans (show _ = some _ from rfl); have l3 := (cell_of_block (i := 3) (HB2.out.2)).trans (show _ = some _ from rfl); have l4 := (cell_of_block (i := 4) (HB2.out.2)).trans (show _ = some _ from rfl); have l5 := (cell_of_block (i := 5) (HB2.out.2)).trans (show _ = some _ from rfl); have l6 := (cell_of_block (i := 6) (HB2.out.2)).trans (show _ = some _ from rfl)
     go_wp2_with fail
     refine (vip_some w2 vis (srcV s c) P inf keys n m kr vr HQ.out.2.1).mono ?_
     rintro e w4 ⟨rfl, hb4⟩
     have hbs4 : w.heap.size ≤ w4.heap.size := Nat.le_trans hbs2 hb4.size
     have HB4 := Aside0.mk (And.intro (HB2.out.1.trans (hb4.mono HB2.out.1.size)) ((hb4.block _ (lt_of_block HB2.out.2)).trans HB2.out.2))
     have HR4 := Aside0.mk (HROW.out.kept ⟨HB4.out.1.os, HB4.out.1.tape, HB4.out.1.output, HB4.out.1.size, fun k hk _ => HB4.out.1.block k hk⟩ (row := none) (by cases A <;> simp [Value.ownBlock]))
     have hq1 : q < ks.length := (List.getElem?_eq_some_iff.1 HQ.out.1).1
     obtain ⟨cvk, hkb⟩ := (HF.out.2.below (HX.out.2.2.2.trans (HB4.out.1.mono HX.out.2.2.2.size))).keys q hq1
     rw [show ks[q] = nm from Option.some.inj ((List.getElem?_eq_getElem hq1).symm.trans HQ.out.1)] at hkb
     rw [← HKE.out] at hkb
     have HQ4 := Aside0.mk (And.intro ((hb4.block _ (lt_of_block HQ.out.2.1)).trans HQ.out.2.1) (And.intro (HQ.out.2.2.1.below hb4) (HQ.out.2.2.2.1.below hb4)))
     have hfacts : ∀ (o : Obj) (w3 : World), (w4.alloc o).grownBy w3 (Value.slice A j cp).ownBlock → w3.heap[m]? = some (.cells #[ptr kr, ptr vr] 93 (0, 0)) ∧ RN w3 kr kb ∧ RN w3 vr (bs.getD (2 * q + 1) 0) ∧ NB w3 kb 8 ⟨#[]⟩ nm cvk ∧ AZ w3 w.heap.size (w.heap.size + 1) j := fun o w3 hg => by
      have hb : Below w4.heap.size w4 (w4.alloc o) := (Below.refl _ _).alloc (Nat.le_refl _) _
      have ho := HR4.out.alloc o
      refine ⟨row_keeps ho hg ((hb.block _ (lt_of_block HQ4.out.1)).trans HQ4.out.1) (by decide), (HQ4.out.2.1.below hb).grown ho hg, (HQ4.out.2.2.below hb).grown ho hg, row_keeps ho hg ((hb.block _ hkb.lt).trans hkb) (by decide), ?_⟩
      exact ((HX.out.2.2.1.below HB4.out.1).below hb).grown ho hg
     have HFA := Aside0.mk hfacts
     have HVR : Aside0 (w.heap.size ≤ vr ∧ vr ≠ w.heap.size + 1) := ⟨by have := HQ.out.2.2.2.2.2.2; omega, by have := HQ.out.2.2.2.2.2.2; have := lt_of_block HX.out.2.2.1.choose_spec.choose_spec.1; omega⟩
     clear hb4 l0 l1 l2 l3 l4 l5 l6 hfacts hkb hq1
     go_wp2_with (first
      | (at_builtin; refine wpList_append_own _ rfl _ _ 54 rfl w.heap.size 42 i0 (.pointer none) 1 8 Tryz.underlying54 hi hz0 hz1 hz2 rfl (by decide) _ j xs rfl (HR4.out.alloc _) ⟨w4.heap.size, 0, none⟩ 1 1 [ptr vr] rfl rfl (cell_one_new _ _ _) (by simp [Value.oneCell']) (by unfold maxLen; have := HJ.out; omega) (by have := HJ.out; omega) (by simp; omega) ?_; intro v' w3 hown' hg3 hnil3; have HZ := Aside0.mk (HFA.out _ _ hg3); have cm0 := (cell_of_block (i := 0) HZ.out.1).trans (show _ = some _ from rfl); have ck1 := HZ.out.2.2.2.1.style; obtain ⟨w6, hrun, haz6, hg6⟩ := HZ.out.2.2.2.2.store HZ.out.2.2.1 HVR.out.1 HVR.out.2; have H6 := Aside0.mk (And.intro haz6 hg6); clear haz6 hg6; go_frame)
      | (go_at_call 37; refine (ynode_calls _ kr _ HZ.out.2.1 8 _ _ _ HZ.out.2.2.2.1 live_key).mono ?_; rintro e w' ⟨rfl, rfl⟩)
      | (go_at_call 77; refine (smiss_calls _ _).mono ?_; rintro e w' ⟨rfl, rfl⟩)
      | go_in)
     have HN := Aside0.mk (And.intro hown' hg3)
     obtain ⟨A', cp', rfl⟩ := own_slice hown'
     clear hown' hg3 hnil3 cm0 ck1 hrun
     go_roundg (gk - 1)
     case measure => have := HJ.out; omega
     case rel =>
      have ha : Below w4.heap.size w4 (w4.alloc (.cells #[ptr vr] 42)) := (Below.refl _ _).alloc (Nat.le_refl _) _
      have hro := HR4.out.alloc (.cells #[ptr vr] 42)
      have haz3 := HZ.out.2.2.2.2
      have hmb : ∀ k cs t, w3.heap[k]? = some (.cells cs t (0, 0)) → some k ≠ some (w.heap.size + 1) := fun k cs t hk e => by
       obtain ⟨es, clock, hb, _⟩ := haz3
       cases e
       rw [hk] at hb; cases hb
      have hr6 : ∀ r b, RN w3 r b → RN w6 r b := fun r b hr => hr.move (fun l => H6.out.2.block r l (by obtain ⟨_, _, _, h⟩ := hr; exact hmb _ _ _ h))
      refine ⟨rfl, j + 1, A', cp', xs ++ [ptr vr], by go_num, rfl, ⟨by have := HJ.out; omega⟩, ⟨HN.out.1.kept H6.out.2 ?_⟩, ⟨by simp [HX.out.1], FVs_step HX.out.2.1 (fun r b hr => hr6 _ _ (((hr.below HB4.out.1).below ha).grown hro HN.out.2)) HX.out.1 (.inr ⟨ks, bs, q, vr, HSJ.out.2, HQ.out.1, rfl, hr6 _ _ HZ.out.2.2.1, HVR.out.1⟩), H6.out.1, ?_, ?_⟩⟩
      ·rcases hv : (Value.slice A' (j + 1) cp').ownBlock with _ | k
       ·exact .inl rfl
       ·obtain ⟨cs, hh⟩ := own_typed HN.out.1 k hv
        exact .inr (hmb k _ _ hh)
      ·exact (((HX.out.2.2.2.trans (HB4.out.1.mono hbs)).trans (ha.mono hbs4)).grown HN.out.2 (Nat.le_trans hbs4 ha.size) (fun k hk => own_base hro k hk)).grown H6.out.2 (by have := HN.out.2.size; have := ha.size; omega) (fun k hk => by cases hk; omega)
      ·have h3 := row_keeps hro HN.out.2 ((ha.block _ (lt_of_block HB4.out.2)).trans HB4.out.2) (by decide)
       exact (H6.out.2.block _ (lt_of_block h3) (hmb _ _ _ h3)).trans h3
  ·have hjb : decide ((j : Int) < 3) = false := by simp; have := HJ.out; omega
   have hje : j = 3 := by have := HJ.out; omega
   subst hje
   clear hjb hj l0 l1 l2 l3 l4 l5 l6
   go_wp2_with fail
   refine bodyPost_ret (v := .tuple #[.slice A 3 cp, .pointer none, .map (some (w.heap.size + 1))]) (by simp [results, Tryz.results56, go_sem]) rfl ?_
   obtain ⟨hxl, hxs, hm, hbw⟩ := HX.out
   obtain ⟨g, cp', hAe, hgb, hglt⟩ := HROW.out.form (by omega)
   simp only [Value.slice.injEq, true_and] at hAe
   obtain ⟨rfl, rfl⟩ := hAe
   match xs, hxl, hxs, HROW with
   | [x0, x1, x2], _, hxs, HROW => exact ⟨g, cp, w.heap.size + 1, x0, x1, x2, rfl, HROW.out, hxs 0 x0 rfl, hxs 1 x1 rfl, hxs 2 x2 rfl, hm, hbw, hgb⟩
end Go.Proofs.YtkpdkoafngjflaaGreat
