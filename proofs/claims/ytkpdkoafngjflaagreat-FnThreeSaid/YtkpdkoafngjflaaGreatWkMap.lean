import Derived.Test.YtkpdkoafngjflaaGreatSh
import Derived.Test.YtkpdkoafngjflaaGreatWkEnv
import Derived.Deep.Cut
namespace Go.Proofs.YtkpdkoafngjflaaGreat
open Go.RowKit Go.Proofs.YtkpdkoafngjflaaGreatW.PrintWords Go.Proofs.YtkpdkoafngjflaaGreatW.PrintLast Go.Proofs.YtkpdkoafngjflaaGreat.PFnFields
set_option linter.unusedVariables false
set_option linter.unusedSimpArgs false
theorem KPs_step {w w' : World} {a base : Nat} {nm : ByteArray} {o0 o1 o2 : Option (List ByteArray × List Nat)} {xs : List Value} {x' : Value} (h : ∀ q x, xs[q]? = some x → KP w base nm (pick3 o0 o1 o2 q) x) (hr : ∀ r b, RN w r b → RN w' r b) (hn : ∀ b cv, NB w b 8 ⟨#[]⟩ nm cv → NB w' b 8 ⟨#[]⟩ nm cv) (hl : xs.length = a)
  (hx : KP w' base nm (pick3 o0 o1 o2 a) x') : ∀ q x, (xs ++ [x'])[q]? = some x → KP w' base nm (pick3 o0 o1 o2 q) x := fun q x hq => by
 rcases Nat.lt_or_ge q xs.length with hlt | hge
 ·rw [List.getElem?_append_left hlt] at hq
  exact (h q x hq).imp hr hn
 ·rw [List.getElem?_append_right hge] at hq
  have hq0 : q - xs.length = 0 := by
   rcases Nat.eq_zero_or_pos (q - xs.length) with e | e
   ·exact e
   ·rw [List.getElem?_eq_none (by simp; omega)] at hq; cases hq
  rw [hq0] at hq
  obtain rfl := Option.some.inj hq
  obtain rfl : q = a := by omega
  exact hx
theorem setter_method (nm : ByteArray) (V : Value) (n : Nat) (wa : World) : (method (n + 1) 101 (.agg (fsc nm V)) "Filter").run Tryz.prog wa = .ok (164, .agg (fsc nm V)) wa := by kernel_rfl
def wm1.T : Bool × List (List Nat × List Nat) := (true, [([], []), ([0], [0]), ([], []), ([2], [2]), ([], []), ([4], [4]), ([], []), ([6], [6]), ([3, 5, 7], [3, 5, 7]), ([8], [8]), ([8], [8]), ([1, 9, 10, 8], [1, 9, 10]), ([11], [11]), ([12], [12]), ([12], [12]), ([13, 11, 0, 1, 2, 3, 4, 5, 6, 7, 8, 9, 10, 11, 12, 13], [13]), ([14, 15, 0, 1, 2, 3, 4, 5, 6, 7, 8, 9, 10, 11, 12, 13, 14, 15], [14])])
def wm1.B : List Nat := [0, 1, 0, 4, 0, 16, 0, 64, 252, 508, 508, 2047, 4095, 8191, 8191, 16383, 65535]
theorem wm1.tab : rtab .any (opsOf Tryz.f42 1) = wm1.T := by kernel_rfl
theorem wm1.bits : waitsOk wm1.T.2 wm1.B = true := by kernel_rfl
def wm29.T : Bool × List (List Nat × List Nat) := (true, [([], []), ([0], [0]), ([], []), ([2], [2]), ([], []), ([4], [4]), ([], []), ([], []), ([], []), ([8], [8]), ([], []), ([10], [10]), ([], []), ([12], [12]), ([11, 13], [11, 13]), ([1, 3, 5, 6, 7, 9, 14], [1, 3, 5, 6, 7, 9, 14]), ([15, 14], [15]), ([16], [16]), ([17], [17]), ([17], [17]), ([18, 16, 0, 1, 2, 3, 4, 5, 6, 7, 8, 9, 10, 11, 12, 13, 14, 15, 16, 17, 18], [18]), ([19, 20, 0, 1, 2, 3, 4, 5, 6, 7, 8, 9, 10, 11, 12, 13, 14, 15, 16, 17, 18, 19, 20], [19])])
def wm29.B : List Nat := [0, 1, 0, 4, 0, 16, 0, 0, 0, 256, 0, 1024, 0, 4096, 15360, 32767, 65535, 131071, 262143, 262143, 524287, 2097151]
theorem wm29.tab : rtab .any (opsOf Tryz.f42 29) = wm29.T := by kernel_rfl
theorem wm29.bits : waitsOk wm29.T.2 wm29.B = true := by kernel_rfl
def wm34.T : Bool × List (List Nat × List Nat) := (true, [([], []), ([0], [0]), ([1], [1]), ([2], [2]), ([3], [3]), ([], []), ([5, 1], [5]), ([6], [6]), ([7], [7]), ([8], [8]), ([], []), ([10, 6], [10]), ([11], [11]), ([12], [12]), ([13], [13]), ([4, 9, 14], [4, 9, 14]), ([15, 11, 0, 1, 2, 3, 4, 5, 6, 7, 8, 9, 10, 11, 12, 13, 14, 15], [15])])
def wm34.B : List Nat := [0, 1, 3, 7, 15, 0, 35, 99, 227, 483, 0, 1123, 3171, 7267, 15459, 32767, 65535]
theorem wm34.tab : rtab .any (opsOf Tryz.f42 34) = wm34.T := by kernel_rfl
theorem wm34.bits : waitsOk wm34.T.2 wm34.B = true := by kernel_rfl
set_option maxRecDepth 100000 in
set_option maxHeartbeats 32000000 in
theorem walkmap_in {d : Nat} (IH : WalkOK d) (w : World) (s c : Nat) (vis P : Value) (n m : Nat) (v0 v1 v2 : Value) (FD FO FU : Nat → Prop) (oD oO oU : Option (Nat × S25)) (h : Pre (d + 1) w s c vis P n m v0 v1 v2 FD FO FU oD oO oU) (hlt : ∀ k, FD k ∨ FO k ∨ FU k → k < w.heap.size) (h2 : ∀ x, oD = some x ∨ oO = some x ∨ oU = some x → x.2.f0 = 2) :
  Calls Tryz.prog 42 #[.agg (wk vis s c P)] w (WalkPost (d + 1) w s P n v0 v2 FD FU oD oO oU) := by
 obtain ⟨T, fv, rfl, hv⟩ := h.vis.more (m' := 20) (by have := h.few; omega)
 have HVM := Aside0.mk (Vis.vmap (fun n wa => (hv n wa).1))
 have hm : ∀ n wa, (method (n + 20) T fv "VisitScalar").run Tryz.prog wa = .ok (154, .agg #[]) wa := fun n wa => (hv n wa).2.1
 have HVS := Aside0.mk hm
 obtain ⟨i0, hi, hz0, hz1, hz2⟩ := info_parts Tryz.infoPRN
 have HB : Aside0 (∀ o : Obj, Below w.heap.size w (w.alloc o)) := ⟨fun o => (Below.refl _ _).alloc (Nat.le_refl _) o⟩
 have H := Aside0.mk (And.intro h (And.intro hlt h2))
 clear hv h hm hlt h2
 go_enter Tryz.func42, Tryz.ntmps42
 go_wp2_with fail
 obtain ⟨w1, e1⟩ : ∃ w1, w1 = w.alloc (.cells (wk (.iface T fv) s c P) 63) := ⟨_, rfl⟩
 try rw [← e1]
 have hb1 : Below w.heap.size w w1 := by rw [e1]; exact HB.out _
 have hl1 : w1.heap[w.heap.size]? = some (.cells (wk (.iface T fv) s c P) 63 (0, 0)) := by rw [e1]; exact heap_at _ rfl
 have H1 := Aside0.mk (And.intro hb1 hl1)
 have HZ1 : Aside0 (w1.heap.size = w.heap.size + 1) := ⟨by rw [e1]; simp⟩
 have HS : Aside0 (∀ w' : World, Below w1.heap.size w1 w' → w'.cell? ⟨w.heap.size, 0, none⟩ = some (.iface T fv) ∧ w'.cell? ⟨w.heap.size, 1, none⟩ = some (.pointer none) ∧ w'.cell? ⟨w.heap.size, 2, none⟩ = some (srcV s c)) := ⟨fun w' hb => by
  have hf := (hb.block _ (lt_of_block H1.out.2)).trans H1.out.2
  refine ⟨?_, ?_, ?_⟩ <;> (rw [cell_of_block hf]; rfl)⟩
 clear hb1 hl1 e1
 refine start_ (n := 17) (S := fun w' => w'.cell? ⟨w.heap.size, 0, none⟩ = some (.iface T fv) ∧ w'.cell? ⟨w.heap.size, 1, none⟩ = some (.pointer none) ∧ w'.cell? ⟨w.heap.size, 2, none⟩ = some (srcV s c)) (ds := [11]) #[false, false, false, false, false, false, false, false, false, false, false, false, false, false, false, false, false] (by kernel_rfl) rfl rfl (HS.out _ (Below.refl _ _).drew) (fun hHeld => ?_)
 refine with_tabW (T := wm1.T) (B := wm1.B) wm1.tab wm1.bits (fun HT_ HW_ => ?_)
 have HB1 := Aside0.mk ((Below.refl w1.heap.size w1).drew)
 generalize w1.drew = wc at HB1 hHeld ⊢
 refine ps_ 0 21 HT_ ?_
 refine ps_ 2 23 HT_ ?_
 refine ps_ 4 25 HT_ ?_
 refine ps_ 6 27 HT_ ?_
 refine ts_ 1 22 HT_ HW_ hHeld ?_
 refine ts_ 3 24 HT_ HW_ hHeld ?_
 refine ts_ 5 26 HT_ HW_ hHeld ?_
 refine ts_ 7 28 HT_ HW_ hHeld ?_
 refine one_ (i := 8) (N := (some 29)) #[true, true, true, true, true, true, true, true, true, false, false, false, false, false, false, false, false] rfl rfl (one_of HT_.out (by kernel_rfl)) (by decide) (fun K hK => ?_)
 refine goesM_ #[srcV s c, .pointer none] (by rfl) rfl rfl rfl (by simp only [List.map_toArray, List.map_cons, List.map_nil]; rfl) (HVM.out wc) (fun xs wa => enters_ Tryz.func153 rfl rfl xs wa) ?_
 refine (vmap_any ((H.out.1.below H1.out.1).below HB1.out)).mono ?_
 rintro e w2 ⟨rr, rfl, hb, hd⟩
 refine ⟨_, rfl, ?_⟩
 have hd' : DestIs w1 w2 v0 oD rr := hd.imp id (fun ⟨a, b, q1, q2, q3, q4, q5⟩ => ⟨a, b, q1, q2, Nat.le_trans HB1.out.size q3, Nat.le_trans HB1.out.size q4, q5⟩)
 have HD := Aside0.mk (And.intro (HB1.out.trans (hb.mono HB1.out.size)) (And.intro hd' rr.zero_le))
 clear hd'
 clear hb hd HB1
 refine hK.out _ _ (HS.out _ HD.out.1) (fun hHeld => ?_)
 clear hK K
 refine ns_ ?_
 refine ps_ 9 30 HT_ ?_
 refine ps_ 10 31 HT_ ?_
 refine last_ (i := 11) (N := (some 32)) #[true, true, true, true, true, true, true, true, true, true, true, true, false, false, false, false, false] rfl rfl (one_of HT_.out (by kernel_rfl)) (by decide) (fun K hK => ?_)
 have hfz : w2.frozen? ⟨s, 0, none⟩ = false := by
  have hr := own_move H.out.1.row (fun k hk => (HD.out.1.block k (Nat.lt_of_lt_of_le (own_lt H.out.1.row k hk) H1.out.1.size)).trans (H1.out.1.block k (own_lt H.out.1.row k hk)))
  obtain ⟨cs, hh⟩ := own_typed hr s rfl
  exact frozen_of_block hh
 refine goes_ Tryz.func52 (by kernel_rfl) rfl #[srcV s c, ptr rr, .nilIface] (by rfl) rfl rfl (by simp only [List.map_toArray, List.map_cons, List.map_nil]; rfl) ?_
 refine (setdest_calls w2 s c v0 v1 v2 (some ⟨rr, 0, none⟩) ((H.out.1.below H1.out.1).below HD.out.1).src hfz).mono ?_
 rintro e wd ⟨rfl, ed⟩
 refine ⟨_, rfl, ?_⟩
 have HE := Aside0.mk ed
 clear ed hfz
 refine hK.out _ _ ?_
 clear hK K
 refine ns_ ?_
 refine ps_ 12 20 HT_ ?_
 refine ps_ 13 33 HT_ ?_
 refine ps_ 14 34 HT_ ?_
 refine ps_ 15 4 HT_ ?_
 refine ps_ 16 5 HT_ ?_
 refine done_ (done_of HT_.out (by kernel_rfl)) ?_
 obtain ⟨dn, FDl, FsO, FsU, q0, q1, q2, X0, hsrc, hsm0, hsm1, hsm2, hk0, hsz, h60, hiff, hiff3, hkeep, hFDl, henv⟩ := env_start (H.out.1.below H1.out.1) (fun k q => Nat.lt_of_lt_of_le (H.out.2.1 k q) H1.out.1.size) H.out.2.2 HD.out.1 HD.out.2.1 HE.out
 have hsz1 := HZ1.out
 have hlb : wd.heap[w.heap.size]? = some (.cells (wk (.iface T fv) s c P) 63 (0, 0)) := by
  rw [← HE.out]
  exact (heap_set_ne (by have := own_lt H.out.1.row s rfl; show w.heap.size ≠ s; omega)).trans ((HD.out.1.block _ (lt_of_block H1.out.2)).trans H1.out.2)
 have HX := Aside0.mk (And.intro hsrc (And.intro hsm0 (And.intro hsm1 (And.intro hsm2 (And.intro hk0 (And.intro hsz (And.intro h60 (And.intro hiff hiff3))))))))
 have HEN := Aside0.mk henv
 have HLB := Aside0.mk hlb
 have HFL := Aside0.mk (And.intro hFDl (show w1.heap.size = w.heap.size + 1 from hsz1))
 clear hsrc hsm0 hsm1 hsm2 hk0 hsz h60 hiff hiff3 hkeep henv hlb hFDl hsz1
 have l0 := (cell_of_block (i := 0) (HLB.out)).trans (show _ = some _ from rfl); have l1 := (cell_of_block (i := 1) (HLB.out)).trans (show _ = some _ from rfl); have l2 := (cell_of_block (i := 2) (HLB.out)).trans (show _ = some _ from rfl); have l3 := (cell_of_block (i := 3) (HLB.out)).trans (show _ = some _ from rfl); have l4 := (cell_of_block (i := 4) (HLB.out)).trans (show _ = some _ from rfl); have l5 := (cell_of_block (i := 5) (HLB.out)).trans (show _ = some _ from rfl); have l6 := (cell_of_block (i := 6) (HLB.out)).trans (show _ = some _ from rfl)
 go_wp2_with fail
 refine (fieldnames_calls wd s c (.iface T fv) P false true 0 (ptr rr) v1 v2 q0 q1 q2 HX.out.1 HX.out.2.1 HX.out.2.2.1 HX.out.2.2.2.1 (fun j hj x hx => (HX.out.2.2.2.2.2.1 j hj x hx).1)).mono ?_
 rintro e ws ⟨gn, capn, ns, rfl, hnd, hmem, hmost, hgn, hcells, hbs⟩
 have hlbs := (hbs.block _ (lt_of_block HLB.out)).trans HLB.out
 obtain ⟨hE, hI, hfin⟩ := HEN.out ws hbs
 have hn180 : ns.length ≤ 180 := by
  have hle := len_le (m := okeys q0 ++ (okeys q1 ++ okeys q2)) hnd (fun a ha => by
   rcases (hmem a).1 ha with q | q | q
   ·exact List.mem_append.2 (.inl q)
   ·exact List.mem_append.2 (.inr (List.mem_append.2 (.inl q)))
   ·exact List.mem_append.2 (.inr (List.mem_append.2 (.inr q))))
  simp only [List.length_append] at hle
  have := HX.out.2.2.2.2.2.2.1
  omega
 have HN := Aside0.mk (And.intro hnd (And.intro hmem (And.intro hn180 (And.intro hgn (And.intro hcells hbs)))))
 have HE1 := Aside0.mk (And.intro hE (And.intro hI hfin))
 have HLS := Aside0.mk hlbs
 have hlen : ns.length ≤ 9223372036854775807 := by omega
 have hcells_size : Aside0 (w.heap.size ≤ wd.heap.size) := ⟨by rw [← HE.out]; have := HD.out.1.size; have := H1.out.1.size; simp [World.setCell]; omega⟩
 clear hnd hmem hmost hgn hcells hbs hE hI hfin hlbs hn180 l0 l1 l2 l3 l4 l5 l6
 go_wp2_with fail
 go_loopg [45] ns.length (fun k i wr => ∃ j : Nat, i = .int .i64 j ∧ Aside0 (j ≤ ns.length ∧ k + j = ns.length) ∧ Aside0 (∃ X G, Inv d ws dn P n FDl FsU (sn oD) oO oU q2 (fun a => a ∈ ns.take j) j wr X G))
 case atStart => exact ⟨0, rfl, ⟨by omega⟩, ⟨X0, FDl, by simpa using HE1.out.2.1⟩⟩
 case round =>
  obtain ⟨j, rfl, HJ, HI⟩ := hrel
  rename World => wo
  by_cases hj : j < ns.length
  ·obtain ⟨X, G, hI⟩ := HI.out
   have hj180 : j ≤ 800 := by have := HN.out.2.2.1; omega
   have hstay : ∀ k, k < ws.heap.size → (FDl k → False) → (FU k → False) → P.ownBlock ≠ some k → wo.heap[k]? = ws.heap[k]? := fun k a b e f => hI.stay HE1.out.1 a b e f
   have hPl : ∀ k, P.ownBlock = some k → k < w.heap.size := fun k hk => by
    obtain ⟨xs, ho⟩ := H.out.1.path
    exact own_lt ho k hk
   have hwss : w.heap.size < ws.heap.size := lt_of_block HLS.out
   have hlr : wo.heap[w.heap.size]? = some (.cells (wk (.iface T fv) s c P) 63 (0, 0)) := (hstay _ hwss (fun q => by
    have := (HFL.out.1 _ q).1
    rcases this with q | q
    ·have := H.out.2.1 _ (.inl q); omega
    ·have := HFL.out.2; omega) (fun q => by have := H.out.2.1 _ (.inr (.inr q)); omega) (fun q => by have := hPl _ q; omega)).trans HLS.out
   have hcn := HN.out.2.2.2.2.1 j hj
   have hgnl := World.block_lt_of_cell? ws _ hcn
   have hgnl' : gn < ws.heap.size := hgnl
   have hcn' : wo.cell? ⟨gn, j, none⟩ = some (.string ns[j]) := (World.cell?_of_block (w := ws) (hstay gn hgnl' (fun q => by
    have := (HFL.out.1 _ q).2; have := HN.out.2.2.2.1; omega) (fun q => by have := H.out.2.1 _ (.inr (.inr q)); have := HN.out.2.2.2.1; have := HD.out.1.size; have := hcells_size.out; omega) (fun q => by have := hPl _ q; have := HN.out.2.2.2.1; have := hcells_size.out; omega))).trans hcn
   have hrow : wo.ownsRow 0 42 1 (srcV s c) 3 [ptr rr, v1, v2] := own_move HE1.out.1.row (fun k hk => by
    have e : s = k := by simpa [Value.ownBlock] using hk
    subst e
    exact hstay s (own_lt HE1.out.1.row s rfl) HE1.out.1.hs.1 HE1.out.1.hs.2.1 HE1.out.1.hs.2.2)
   obtain ⟨nm, hnm⟩ : ∃ nm, nm = ns[j] := ⟨_, rfl⟩
   rw [← hnm] at hcn'
   have hin : nm ∈ ns := by rw [hnm]; exact List.getElem_mem _
   have hnin : ¬ nm ∈ ns.take j := fun q => by
    rw [hnm] at q
    obtain ⟨i, hi, e⟩ := List.getElem_of_mem q
    rw [List.getElem_take] at e
    rw [List.length_take] at hi
    have e1 := plc_nodup HN.out.1 i (by omega)
    have e2 := plc_nodup HN.out.1 j hj
    rw [e] at e1
    omega
   have hins := (HX.out.2.2.2.2.2.2.2.1 nm).1 ((HN.out.2.1 nm).1 hin)
   have hne : nm.toList.isEmpty = false := by
    rcases (HN.out.2.1 nm).1 hin with q | q | q
    ·exact (HX.out.2.2.2.2.2.1 0 (by omega) nm q).2
    ·exact (HX.out.2.2.2.2.2.1 1 (by omega) nm q).2
    ·exact (HX.out.2.2.2.2.2.1 2 (by omega) nm q).2
   obtain ⟨bs, A0, g0, c0, hfm, hrest⟩ := iter HE1.out.1 hI hj180 hne hnin hins
   have hc1 : nm ∈ okeys q1 → nm ∈ okeys (some (X.f3, bs)) := fun q => by
    have h1 := (HX.out.2.2.2.2.2.2.2.2 nm).2.1.1 q
    have hcs := HE1.out.1.cs.sub HE1.out.1.maps nm
    have htd := hI.part.todo nm hnin
    show nm ∈ X.f3
    refine Classical.byContradiction fun hno => ?_
    rw [hI.part.mp.none_.2 hno] at htd
    rw [← htd] at hcs
    rcases hz : olk (sn oO) nm with _ | z
    ·exact h1 hz
    ·rw [hz] at hcs
     rcases hu : olk (sn oU) nm with _ | u <;> (rw [hu] at hcs; exact hcs)
   have hsmr : ∀ i, i < 3 → wo.cell? ⟨s, i, none⟩ = some (pick3 (ptr rr) v1 v2 i) ∧ SM wo (pick3 (ptr rr) v1 v2 i) (pick3 (some (X.f3, bs)) q1 q2 i) := fun i hi => by
    match i, hi with
    | 0, _ => exact ⟨own_cell hrow 0 _ rfl, rr, dn, A0, g0, c0, rfl, hI.rn HE1.out.1, hfm⟩
    | 1, _ => exact ⟨own_cell hrow 1 _ rfl, hI.sm1 HE1.out.1⟩
    | 2, _ => exact ⟨own_cell hrow 2 _ rfl, hI.sm2 HE1.out.1⟩
   have HIT := Aside0.mk (And.intro hfm (And.intro hrest (And.intro hc1 (And.intro hsmr hI))))
   have HNM := Aside0.mk (And.intro hnm (And.intro hne (And.intro hnin hins)))
   have HLR := Aside0.mk hlr
   have HRW := Aside0.mk hrow
   have HJJ := Aside0.mk hj
   clear hstay hPl hcn hgnl hgnl' hnm hne hnin hins hfm hrest hc1 hsmr hI hrow hin HI
   have l0 := (cell_of_block (i := 0) (HLR.out)).trans (show _ = some _ from rfl); have l1 := (cell_of_block (i := 1) (HLR.out)).trans (show _ = some _ from rfl); have l2 := (cell_of_block (i := 2) (HLR.out)).trans (show _ = some _ from rfl); have l3 := (cell_of_block (i := 3) (HLR.out)).trans (show _ = some _ from rfl); have l4 := (cell_of_block (i := 4) (HLR.out)).trans (show _ = some _ from rfl); have l5 := (cell_of_block (i := 5) (HLR.out)).trans (show _ = some _ from rfl); have l6 := (cell_of_block (i := 6) (HLR.out)).trans (show _ = some _ from rfl)
   go_wp2_with fail
   obtain ⟨gq, hgq⟩ : ∃ gq, gq = gk := ⟨_, rfl⟩
   have HGQ := Aside0.mk hgq
   have HJQ : Aside0 (gq + j = ns.length) := ⟨by have := HJ.out; omega⟩
   clear hgq l0 l1 l2 l3 l4 l5 l6 HJ
   go_loopg [54, 9] 3 (fun k i v9 wq => ∃ (a : Nat) (A9 : Option Addr) (c9 : Nat) (xs : List Value), i = .int .i64 a ∧ v9 = .slice A9 a c9 ∧ Aside0 (a ≤ 3 ∧ k + a = 3) ∧ Aside0 (wq.ownsRow wo.heap.size 42 1 (.slice A9 a c9) a xs) ∧ Aside0 (xs.length = a ∧ (∀ q x, xs[q]? = some x → KP wq wo.heap.size nm (pick3 (some (X.f3, bs)) q1 q2 q) x) ∧ Below wo.heap.size wo wq))
   case atStart => exact ⟨0, none, 0, [], rfl, rfl, ⟨by omega⟩, ⟨own_nil _ _ _ _⟩, ⟨rfl, fun q x hx => by simp at hx, Below.refl _ _⟩⟩
   case round =>
    obtain ⟨a, A9, c9, xs, rfl, rfl, HA, HR9, HX9⟩ := hrel
    rename World => wq
    obtain ⟨hxl, hxs, hbq⟩ := HX9.out
    have hlq := (hbq.block _ (lt_of_block HLR.out)).trans HLR.out
    have hbqs := hbq.size
    have HQ := Aside0.mk (And.intro hxl (And.intro hxs (And.intro hbq hlq)))
    clear hxl hxs hbq hlq HX9
    by_cases ha : a < 3
    ·have hc := (HQ.out.2.2.1.cell (World.block_lt_of_cell? wo _ (HIT.out.2.2.2.1 a ha).1)).trans (HIT.out.2.2.2.1 a ha).1
     have hab : decide ((a : Int) < 3) = true := by simp; omega
     have hS := (HIT.out.2.2.2.1 a ha).2
     generalize pick3 (ptr rr) v1 v2 a = vj at hc hS
     generalize ho : pick3 (some (X.f3, bs)) q1 q2 a = oj at hS
     have HSJ := Aside0.mk (And.intro hS ho)
     clear hS ho
     have l0 := (cell_of_block (i := 0) (HQ.out.2.2.2)).trans (show _ = some _ from rfl); have l1 := (cell_of_block (i := 1) (HQ.out.2.2.2)).trans (show _ = some _ from rfl); have l2 := (cell_of_block (i := 2) (HQ.out.2.2.2)).trans (show _ = some _ from rfl); have l3 := (cell_of_block (i := 3) (HQ.out.2.2.2)).trans (show _ = some _ from rfl); have l4 := (cell_of_block (i := 4) (HQ.out.2.2.2)).trans (show _ = some _ from rfl); have l5 := (cell_of_block (i := 5) (HQ.out.2.2.2)).trans (show _ = some _ from rfl); have l6 := (cell_of_block (i := 6) (HQ.out.2.2.2)).trans (show _ = some _ from rfl)
     rcases oj with _ | ⟨ks, bs'⟩
     ·obtain rfl : vj = .pointer none := HSJ.out.1
      clear l0 l1 l3 l4 l5 l6
      go_wp2_with (first
       | (at_builtin; refine wpList_append_own _ rfl _ _ 54 rfl wo.heap.size 42 i0 (.pointer none) 1 8 Tryz.underlying54 hi hz0 hz1 hz2 rfl (by decide) _ a xs rfl (HR9.out.alloc _) ⟨wq.heap.size, 0, none⟩ 1 1 [Value.pointer none] rfl rfl (cell_one_new _ _ _) (by simp [Value.oneCell']) (by unfold maxLen; have := HA.out; omega) (by have := HA.out; omega) (by simp; omega) ?_; intro v' w3 hown' hg3 hnil3; go_frame)
       | go_in)
      have HN3 := Aside0.mk (And.intro hown' hg3)
      obtain ⟨A', cp', rfl⟩ := own_slice hown'
      clear hown' hg3 hnil3
      go_roundg (gk - 1)
      case measure => have := HA.out; omega
      case rel =>
       have hal : Below wq.heap.size wq (wq.alloc (.cells #[.pointer none] 42)) := (Below.refl _ _).alloc (Nat.le_refl _) _
       have hro := HR9.out.alloc (.cells #[.pointer none] 42)
       refine ⟨a + 1, A', cp', xs ++ [.pointer none], by go_num, rfl, ⟨by have := HA.out; omega⟩, ⟨HN3.out.1⟩, ⟨by simp [HQ.out.1], ?_, (HQ.out.2.2.1.trans (hal.mono hbqs)).grown HN3.out.2 (Nat.le_trans hbqs hal.size) (fun k hk => own_base hro k hk)⟩⟩
       refine KPs_step HQ.out.2.1 (fun k b h => (h.below hal).grown hro HN3.out.2) (fun b cv h => row_keeps hro HN3.out.2 ((hal.block _ h.lt).trans h) (by decide)) HQ.out.1 (.inl ⟨by rw [HSJ.out.2]; simp [okeys], rfl⟩)
     ·obtain ⟨r2, b2, A2, g2, cc2, e, hr, hf⟩ := HSJ.out.1
      subst e
      have HF := Aside0.mk (And.intro hr hf)
      clear hr hf
      go_wp2_with fail
      refine (fmfield_calls _ r2 b2 nm ks bs' A2 g2 cc2 (HF.out.1.below HQ.out.2.2.1) (HF.out.2.below HQ.out.2.2.1)).mono ?_
      rintro e wf ⟨hbf, hcase⟩
      clear l0 l1 l2 l3 l4 l5 l6 hc
      have HBF := Aside0.mk hbf
      have hbqf : wo.heap.size ≤ wf.heap.size := Nat.le_trans hbqs hbf.size
      have HRf := Aside0.mk (HR9.out.kept ⟨hbf.os, hbf.tape, hbf.output, hbf.size, fun k hk _ => hbf.block k hk⟩ (row := none) (by cases A9 <;> simp [Value.ownBlock]))
      rcases hcase with ⟨hnin, rfl⟩ | ⟨q, mm, kr, vr, hq, rfl, hm, hkr, hvr, hlm, hlk, hlv⟩
      ·have HNI := Aside0.mk hnin
       clear hnin hbf
       go_wp2_with (first
        | (at_builtin; refine wpList_append_own _ rfl _ _ 54 rfl wo.heap.size 42 i0 (.pointer none) 1 8 Tryz.underlying54 hi hz0 hz1 hz2 rfl (by decide) _ a xs rfl (HRf.out.alloc _) ⟨wf.heap.size, 0, none⟩ 1 1 [Value.pointer none] rfl rfl (cell_one_new _ _ _) (by simp [Value.oneCell']) (by unfold maxLen; have := HA.out; omega) (by have := HA.out; omega) (by simp; omega) ?_; intro v' w3 hown' hg3 hnil3; go_frame)
        | go_in)
       have HN3 := Aside0.mk (And.intro hown' hg3)
       obtain ⟨A', cp', rfl⟩ := own_slice hown'
       clear hown' hg3 hnil3
       go_roundg (gk - 1)
       case measure => have := HA.out; omega
       case rel =>
        have hal : Below wf.heap.size wf (wf.alloc (.cells #[.pointer none] 42)) := (Below.refl _ _).alloc (Nat.le_refl _) _
        have hro := HRf.out.alloc (.cells #[.pointer none] 42)
        refine ⟨a + 1, A', cp', xs ++ [.pointer none], by go_num, rfl, ⟨by have := HA.out; omega⟩, ⟨HN3.out.1⟩, ⟨by simp [HQ.out.1], ?_, ((HQ.out.2.2.1.trans (HBF.out.mono hbqs)).trans (hal.mono hbqf)).grown HN3.out.2 (Nat.le_trans hbqf hal.size) (fun k hk => own_base hro k hk)⟩⟩
        have hnb : ∀ b cv, NB wf b 8 ⟨#[]⟩ nm cv → NB w3 b 8 ⟨#[]⟩ nm cv := fun b cv h => row_keeps hro HN3.out.2 ((hal.block _ h.lt).trans h) (by decide)
        exact KPs_step HQ.out.2.1 (fun k b h => ((h.below HBF.out).below hal).grown hro HN3.out.2) (fun b cv h => hnb b cv (h.below HBF.out)) HQ.out.1 (.inl ⟨by rw [HSJ.out.2]; exact HNI.out, rfl⟩)
      ·have hq1 : q < ks.length := (List.getElem?_eq_some_iff.1 hq).1
       obtain ⟨cvk, hkb⟩ := ((HF.out.2.below HQ.out.2.2.1).below hbf).keys q hq1
       rw [show ks[q] = nm from Option.some.inj ((List.getElem?_eq_getElem hq1).symm.trans hq)] at hkb
       have hkrs : wo.heap.size ≤ kr := by have := hlk; omega
       have HQQ := Aside0.mk (And.intro hq hkrs)
       obtain ⟨kb, ekb⟩ : ∃ kb, kb = bs'.getD (2 * q) 0 := ⟨_, rfl⟩
       rw [← ekb] at hkb hkr
       have HK := Aside0.mk (And.intro hkr (And.intro hkb ekb))
       clear ekb hkrs
       have cm0 := (cell_of_block (i := 0) hm).trans (show _ = some _ from rfl)
       have cm1 : ∀ o : Obj, (wf.alloc o).cell? ⟨mm, 0, none⟩ = some (ptr kr) := fun o => by rw [World.cell?_alloc_lt _ _ _ (lt_of_block hm)]; exact cm0
       clear hq1 hkb hkr hm hvr hlm hlk hlv hbf hq
       go_wp2_with (first
        | (go_at_call 50; refine (missing_calls _ kr kb HK.out.1 8 _ _ _ HK.out.2.1 live_key).mono ?_; rintro e w' ⟨rfl, rfl⟩)
        | (at_builtin; refine wpList_append_own _ rfl _ _ 54 rfl wo.heap.size 42 i0 (.pointer none) 1 8 Tryz.underlying54 hi hz0 hz1 hz2 rfl (by decide) _ a xs rfl (HRf.out.alloc _) ⟨wf.heap.size, 0, none⟩ 1 1 [ptr kr] rfl rfl (cell_one_new _ _ _) (by simp [Value.oneCell']) (by unfold maxLen; have := HA.out; omega) (by have := HA.out; omega) (by simp; omega) ?_; intro v' w3 hown' hg3 hnil3; go_frame)
        | go_in)
       have HN3 := Aside0.mk (And.intro hown' hg3)
       obtain ⟨A', cp', rfl⟩ := own_slice hown'
       clear hown' hg3 hnil3 cm0 cm1
       go_roundg (gk - 1)
       case measure => have := HA.out; omega
       case rel =>
        have hal : Below wf.heap.size wf (wf.alloc (.cells #[ptr kr] 42)) := (Below.refl _ _).alloc (Nat.le_refl _) _
        have hro := HRf.out.alloc (.cells #[ptr kr] 42)
        refine ⟨a + 1, A', cp', xs ++ [ptr kr], by go_num, rfl, ⟨by have := HA.out; omega⟩, ⟨HN3.out.1⟩, ⟨by simp [HQ.out.1], ?_, ((HQ.out.2.2.1.trans (HBF.out.mono hbqs)).trans (hal.mono hbqf)).grown HN3.out.2 (Nat.le_trans hbqf hal.size) (fun k hk => own_base hro k hk)⟩⟩
        have hnb : ∀ b cv, NB wf b 8 ⟨#[]⟩ nm cv → NB w3 b 8 ⟨#[]⟩ nm cv := fun b cv h => row_keeps hro HN3.out.2 ((hal.block _ h.lt).trans h) (by decide)
        exact KPs_step HQ.out.2.1 (fun k b h => ((h.below HBF.out).below hal).grown hro HN3.out.2) (fun b cv h => hnb b cv (h.below HBF.out)) HQ.out.1 (.inr ⟨ks, bs', q, kr, cvk, HSJ.out.2, HQQ.out.1, rfl, by rw [← HK.out.2.2]; exact (HK.out.1.below hal).grown hro HN3.out.2, by rw [← HK.out.2.2]; exact hnb _ _ HK.out.2.1, HQQ.out.2⟩)
    ·have hae : a = 3 := by have := HA.out; omega
     subst hae
     have hab : decide ((3 : Int) < 3) = false := by decide
     clear ha
     obtain ⟨g9, cap9, e9, hg9, hg9l⟩ := HR9.out.form (by omega)
     simp only [Value.slice.injEq, true_and] at e9
     obtain ⟨rfl, rfl⟩ := e9
     obtain ⟨x0, x1, x2, rfl⟩ : ∃ x0 x1 x2, xs = [x0, x1, x2] := by
      match xs, HQ.out.1 with
      | [x0, x1, x2], _ => exact ⟨x0, x1, x2, rfl⟩
     have hk0 := HQ.out.2.1 0 x0 rfl
     have hk1 := HQ.out.2.1 1 x1 rfl
     have hk2 := HQ.out.2.1 2 x2 rfl
     obtain ⟨vr, hvr, hcall⟩ := vkeys (w := wq) (g := g9) (cap := c9) ⟨own_cell HR9.out 0 _ rfl, own_cell HR9.out 1 _ rfl, own_cell HR9.out 2 _ rfl⟩ hk0 hk1 hk2 HIT.out.2.2.1
     obtain ⟨pk, rfl⟩ : ∃ pk, vr = .pointer pk := by
      rcases hvr with rfl | rfl
      ·exact hk0.ptr_
      ·exact hk2.ptr_
     have HKS := Aside0.mk (And.intro hk0 (And.intro hk2 (And.intro hvr (And.intro hg9 hg9l))))
     have HCALL := Aside0.mk hcall
     clear hk0 hk1 hk2 hvr hcall hg9 hg9l
     have l0 := (cell_of_block (i := 0) (HQ.out.2.2.2)).trans (show _ = some _ from rfl); have l1 := (cell_of_block (i := 1) (HQ.out.2.2.2)).trans (show _ = some _ from rfl); have l2 := (cell_of_block (i := 2) (HQ.out.2.2.2)).trans (show _ = some _ from rfl); have l3 := (cell_of_block (i := 3) (HQ.out.2.2.2)).trans (show _ = some _ from rfl); have l4 := (cell_of_block (i := 4) (HQ.out.2.2.2)).trans (show _ = some _ from rfl); have l5 := (cell_of_block (i := 5) (HQ.out.2.2.2)).trans (show _ = some _ from rfl); have l6 := (cell_of_block (i := 6) (HQ.out.2.2.2)).trans (show _ = some _ from rfl)
     have hm := HVS.out
     go_wp2_with fail
     refine HCALL.out.mono ?_
     rintro e wv ⟨rfl, hbv⟩
     have hlv := (hbv.block _ (lt_of_block HQ.out.2.2.2)).trans HQ.out.2.2.2
     have hbov : Below wo.heap.size wo wv := HQ.out.2.2.1.trans (hbv.mono HQ.out.2.2.1.size)
     have HV := Aside0.mk (And.intro hlv (And.intro hbv hbov))
     clear hlv hbv hbov l0 l1 l2 l3 l4 l5 l6 hm
     have l0 := (cell_of_block (i := 0) (HV.out.1)).trans (show _ = some _ from rfl); have l1 := (cell_of_block (i := 1) (HV.out.1)).trans (show _ = some _ from rfl); have l2 := (cell_of_block (i := 2) (HV.out.1)).trans (show _ = some _ from rfl); have l3 := (cell_of_block (i := 3) (HV.out.1)).trans (show _ = some _ from rfl); have l4 := (cell_of_block (i := 4) (HV.out.1)).trans (show _ = some _ from rfl); have l5 := (cell_of_block (i := 5) (HV.out.1)).trans (show _ = some _ from rfl); have l6 := (cell_of_block (i := 6) (HV.out.1)).trans (show _ = some _ from rfl)
     go_wp2_with fail
     refine (fieldvalue_calls wv s c (.iface T fv) P false true 0 nm (ptr rr) v1 v2 (some (X.f3, bs)) q1 q2 ⟨(HV.out.2.2.cell (World.block_lt_of_cell? wo _ (HIT.out.2.2.2.1 0 (by omega)).1)).trans (HIT.out.2.2.2.1 0 (by omega)).1, (HV.out.2.2.cell (World.block_lt_of_cell? wo _ (HIT.out.2.2.2.1 1 (by omega)).1)).trans (HIT.out.2.2.2.1 1 (by omega)).1, (HV.out.2.2.cell (World.block_lt_of_cell? wo _ (HIT.out.2.2.2.1 2 (by omega)).1)).trans (HIT.out.2.2.2.1 2 (by omega)).1⟩ ((HIT.out.2.2.2.1 0 (by omega)).2.below HV.out.2.2) ((HIT.out.2.2.2.1 1 (by omega)).2.below HV.out.2.2) ((HIT.out.2.2.2.1 2 (by omega)).2.below HV.out.2.2)).mono ?_
     rintro e wx ⟨gx, capx, mb, y0, y1, y2, rfl, hrowx, f0, f1, f2, haz, hbx, hgx⟩
     have hlx := (hbx.block _ (lt_of_block HV.out.1)).trans HV.out.1
     have hbox : Below wo.heap.size wo wx := HV.out.2.2.trans (hbx.mono HV.out.2.2.size)
     have HFV := Aside0.mk (And.intro hrowx (And.intro f0 (And.intro f1 (And.intro f2 (And.intro haz (And.intro hbx hgx))))))
     have HXL := Aside0.mk (And.intro hlx hbox)
     clear hrowx f0 f1 f2 haz hbx hgx hlx hbox l0 l1 l2 l3 l4 l5 l6
     go_wp2_with fail
     have HSX : Aside0 (∀ w' : World, w'.heap[w.heap.size]? = some (.cells (wk (.iface T fv) s c P) 63 (0, 0)) → w'.cell? ⟨w.heap.size, 0, none⟩ = some (.iface T fv) ∧ w'.cell? ⟨w.heap.size, 1, none⟩ = some (.pointer none) ∧ w'.cell? ⟨w.heap.size, 2, none⟩ = some (srcV s c) ∧ w'.cell? ⟨w.heap.size, 3, none⟩ = some P ∧ w'.cell? ⟨w.heap.size, 4, none⟩ = some (.bool false) ∧ w'.cell? ⟨w.heap.size, 5, none⟩ = some (.bool true) ∧ w'.cell? ⟨w.heap.size, 6, none⟩ = some (.int .i64 0)) := ⟨fun w' hf => by
      refine ⟨?_, ?_, ?_, ?_, ?_, ?_, ?_⟩ <;> (rw [cell_of_block hf]; rfl)⟩
     refine start_ (n := 22) (S := fun w' => w'.cell? ⟨w.heap.size, 0, none⟩ = some (.iface T fv) ∧ w'.cell? ⟨w.heap.size, 1, none⟩ = some (.pointer none) ∧ w'.cell? ⟨w.heap.size, 2, none⟩ = some (srcV s c) ∧ w'.cell? ⟨w.heap.size, 3, none⟩ = some P ∧ w'.cell? ⟨w.heap.size, 4, none⟩ = some (.bool false) ∧ w'.cell? ⟨w.heap.size, 5, none⟩ = some (.bool true) ∧ w'.cell? ⟨w.heap.size, 6, none⟩ = some (.int .i64 0)) (ds := [16]) #[false, false, false, false, false, false, false, false, false, false, false, false, false, false, false, false, false, false, false, false, false, false] (by kernel_rfl) rfl rfl (HSX.out _ HXL.out.1) (fun hHeld => ?_)
     refine with_tabW (T := wm29.T) (B := wm29.B) wm29.tab wm29.bits (fun HT_ HW_ => ?_)
     have HB2 := Aside0.mk ((Below.refl wx.heap.size wx).drew)
     generalize wx.drew = wc at HB2 hHeld ⊢
     refine ps_ 0 121 HT_ ?_
     refine ps_ 2 123 HT_ ?_
     refine ps_ 6 127 HT_ ?_
     refine ps_ 7 128 HT_ ?_
     refine ps_ 8 129 HT_ ?_
     refine ps_ 10 131 HT_ ?_
     refine ps_ 12 133 HT_ ?_
     refine ts_ 1 122 HT_ HW_ hHeld ?_
     refine ts_ 3 124 HT_ HW_ hHeld ?_
     refine ts_ 4 125 HT_ HW_ hHeld ?_
     refine ps_ 5 126 HT_ ?_
     refine ts_ 9 130 HT_ HW_ hHeld ?_
     refine ts_ 11 132 HT_ HW_ hHeld ?_
     refine one_ (i := 13) (N := (some 134)) #[true, true, true, true, true, true, true, true, true, true, true, true, true, true, false, false, false, false, false, false, false, false] rfl rfl (one_of HT_.out (by kernel_rfl)) (by decide) (fun K hK => ?_)
     rw [if_pos (by rfl)]
     go_simp
     obtain ⟨wn, gb, e3, eg, _, hb3, hh3, hs3⟩ := alloc_step (Chg.refl (fun _ => False) wc) (.cells #[.string nm] 9)
     rw [e3, eg]
     have HB3 := Aside0.mk (And.intro (HB2.out.trans (hb3.mono HB2.out.size)) hh3)
     refine hK.out _ _ (HSX.out _ ((HB3.out.1.block _ (lt_of_block HXL.out.1)).trans HXL.out.1)) (fun hHeld => ?_)
     clear e3 eg hb3 hh3 hs3 HB2
     rename World => wc
     clear hK K
     refine ns_ ?_
     refine one_ (i := 14) (N := (some 135)) #[true, true, true, true, true, true, true, true, true, true, true, true, true, true, true, false, false, false, false, false, false, false] rfl rfl (one_of HT_.out (by kernel_rfl)) (by decide) (fun K hK => ?_)
     rw [if_pos (by rfl)]
     have hbo : Below wo.heap.size wo wc := HXL.out.2.trans (HB3.out.1.mono HXL.out.2.size)
     have hPl : ∀ k, P.ownBlock = some k → k < w.heap.size := fun k hk => by
      obtain ⟨xs, ho⟩ := H.out.1.path
      exact own_lt ho k hk
     have hpo : PathOK wc P n := HIT.out.2.2.2.2.path.move (fun k hk => by
      obtain ⟨xs, ho⟩ := HIT.out.2.2.2.2.path
      exact hbo.block k (own_lt ho k hk))
     refine wp_longer (.tmp 132) (.tmp 134) rfl P n (by rfl) hpo (by have := H.out.1.few; omega) nm ⟨gb, 0, none⟩ 1 (by rfl) (by rw [cell_of_block HB3.out.2]; rfl) ?_
     intro p' w3 hlo
     obtain ⟨Ap, cp, rfl⟩ : ∃ Ap cp, p' = .slice Ap (n + 1) cp := by
      obtain ⟨xs, ho⟩ := hlo.1
      obtain ⟨A, c, e⟩ := own_slice ho
      exact ⟨A, c, e⟩
     obtain ⟨F1, F2, F3, oD', oO', oU', hpre, hpost⟩ := HIT.out.2.1 wc w3 gx capx wv.heap.size y0 y1 y2 (.slice Ap (n + 1) cp) hbo HV.out.2.2.size (Nat.le_trans HFV.out.2.2.2.2.2.1.size HB3.out.1.size) (own_move HFV.out.1 (fun k hk => HB3.out.1.block k (own_lt HFV.out.1 k hk))) (HFV.out.2.1.below HB3.out.1) (HFV.out.2.2.1.below HB3.out.1) (HFV.out.2.2.2.1.below HB3.out.1) hlo
     have hbl3 : w3.heap[w.heap.size]? = some (.cells (wk (.iface T fv) s c P) 63 (0, 0)) := (hlo.chg.block _ (Nat.lt_of_lt_of_le (lt_of_block HXL.out.1) HB3.out.1.size) (fun q => by have := hPl _ q; omega)).trans ((HB3.out.1.block _ (lt_of_block HXL.out.1)).trans HXL.out.1)
     have H3 := Aside0.mk (And.intro hlo (And.intro hpre (And.intro hpost (And.intro hbl3 hbo))))
     clear hlo hpre hpost hbo hPl hpo
     refine hK.out _ _ (HSX.out _ hbl3) (fun hHeld => ?_)
     clear hbl3
     clear hK K
     refine ns_ ?_
     refine ps_ 15 136 HT_ ?_
     refine last_ (i := 16) (N := (some 137)) #[true, true, true, true, true, true, true, true, true, true, true, true, true, true, true, true, true, false, false, false, false, false] rfl rfl (one_of HT_.out (by kernel_rfl)) (by decide) (fun K hK => ?_)
     refine goes_ Tryz.func33 (by kernel_rfl) rfl #[.agg (wk (.iface 63 (.agg (wk (.iface T fv) s c P))) gx capx (.slice Ap (n + 1) cp))] (by rfl) rfl rfl (by simp only [List.map_toArray, List.map_cons, List.map_nil]; rfl) ?_
     refine (IH _ _ _ _ _ _ _ _ _ _ _ _ _ _ _ _ H3.out.2.1).mono ?_
     rintro e w4 ⟨p, rfl, hleft⟩
     refine ⟨_, rfl, ?_⟩
     have HLF := Aside0.mk hleft
     clear hleft
     refine hK.out _ _ ?_
     clear hK K
     refine ns_ ?_
     refine ps_ 17 120 HT_ ?_
     refine ps_ 18 138 HT_ ?_
     refine ps_ 19 139 HT_ ?_
     refine ps_ 20 16 HT_ ?_
     refine ps_ 21 17 HT_ ?_
     refine done_ (done_of HT_.out (by kernel_rfl)) ?_
     have hPl : ∀ k, P.ownBlock = some k → k < w.heap.size := fun k hk => by
      obtain ⟨xs, ho⟩ := H.out.1.path
      exact own_lt ho k hk
     have hwo : w.heap.size < wo.heap.size := lt_of_block HLR.out
     have hqv : wq.heap.size ≤ wv.heap.size := HV.out.2.1.size
     have hvx : wv.heap.size ≤ wx.heap.size := HFV.out.2.2.2.2.2.1.size
     have hxc : wx.heap.size ≤ wc.heap.size := HB3.out.1.size
     have hc3 : wc.heap.size ≤ w3.heap.size := H3.out.1.chg.size
     obtain ⟨hA4, hB4, hfm4, hsm14, hsm24, hrn4, hpr4, hset4⟩ := H3.out.2.2.1 w4 p HLF.out
     have hpo : ∀ k, wo.heap.size ≤ k → k < wc.heap.size → (Value.slice Ap (n + 1) cp).ownBlock ≠ some k := fun k h1 h2 e => by
      rcases H3.out.1.own e with q | q
      ·have := hPl k q; omega
      ·omega
     have hqc : ∀ k, k < wq.heap.size → wc.heap[k]? = wq.heap[k]? := fun k hk => (HB3.out.1.block k (by omega)).trans ((HFV.out.2.2.2.2.2.1.block k (by omega)).trans (HV.out.2.1.block k hk))
     have hq4 : ∀ k, wo.heap.size ≤ k → k < wq.heap.size → w4.heap[k]? = wq.heap[k]? := fun k h1 h2 => (hA4 k h1 (by omega) (by have := HFV.out.2.2.2.2.2.2; omega) (hpo k h1 (by omega))).trans ((H3.out.1.chg.block k (by omega) (fun q => by have := hPl k q; omega)).trans (hqc k h2))
     have hrnq : ∀ k b, wo.heap.size ≤ k → RN wq k b → RN w4 k b := fun k b h1 hr => hr.move (fun l => hq4 k h1 l)
     have hKR0 : KR w4 nm x0 := HKS.out.1.kr (v := ptr rr) ⟨rr, dn, A0, g0, c0, rfl, hrn4, hfm4⟩ hrnq
     have hKRv : KR w4 nm (.pointer pk) := by
      rcases HKS.out.2.2.1 with e | e
      ·rw [e]; exact hKR0
      ·rw [e]; exact HKS.out.2.1.kr hsm24 hrnq
     have hx04 : w4.cell? ⟨g9, 0, none⟩ = some x0 := (World.cell?_of_block (w := wq) (hq4 g9 HKS.out.2.2.2.1 HKS.out.2.2.2.2)).trans (own_cell HR9.out 0 _ rfl)
     have haz3 : AZ w3 wv.heap.size mb 3 := (HFV.out.2.2.2.2.1.below HB3.out.1).move (fun k h1 h2 _ => H3.out.1.chg.block k h2 (fun q => by have := hPl k q; omega))
     have hrow3 : w3.ownsRow wv.heap.size 42 1 (srcV gx capx) 3 [y0, y1, y2] := own_move (own_move HFV.out.1 (fun k hk => HB3.out.1.block k (own_lt HFV.out.1 k hk))) (fun k hk => H3.out.1.chg.block k (by have := own_lt HFV.out.1 k hk; omega) (fun q => by have := hPl k q; have := own_base HFV.out.1 k hk; omega))
     have haz4 : AZ w4 wv.heap.size mb 3 := haz3.move (fun k h1 h2 ht => hA4 k (by omega) h2 (fun e => by
      obtain ⟨cs, hh⟩ := own_typed hrow3 gx rfl
      have := ht cs _ (by rw [e]; exact hh)
      simp at this) (fun e => by
      obtain ⟨xs, ho⟩ := H3.out.1.1
      obtain ⟨cs, hh⟩ := own_typed ho k e
      have := ht cs _ hh
      simp at this))
     have hl4 : w4.heap[w.heap.size]? = some (.cells (wk (.iface T fv) s c P) 63 (0, 0)) := (hB4 _ (lt_of_block HLS.out) (fun q => by
      have := (HFL.out.1 _ q).1
      rcases this with q | q
      ·have := H.out.2.1 _ (.inl q); omega
      ·have := HFL.out.2; omega) (fun q => by have := H.out.2.1 _ (.inr (.inr q)); omega) (fun q => by have := hPl _ q; omega)).trans HLS.out
     obtain ⟨w5, e5⟩ : ∃ w5, w5 = w4.alloc (.cells #[.string ⟨#[]⟩, .string ⟨#[]⟩, .string ⟨#[]⟩] 99) := ⟨_, rfl⟩
     have hb5 : Below w4.heap.size w4 w5 := by rw [e5]; exact (Below.refl _ _).alloc (Nat.le_refl _) _
     have hcb5 : w5.heap[w4.heap.size]? = some (.cells #[.string ⟨#[]⟩, .string ⟨#[]⟩, .string ⟨#[]⟩] 99 (0, 0)) := by rw [e5]; exact heap_at _ rfl
     have hKR05 : KR w5 nm x0 := hKR0.imp id (fun ⟨a, b, cc, h1, h2, h3⟩ => ⟨a, b, cc, h1, h2.below hb5, h3.below hb5⟩)
     have hKRv5 : KR w5 nm (.pointer pk) := hKRv.imp id (fun ⟨a, b, cc, h1, h2, h3⟩ => ⟨a, b, cc, h1, h2.below hb5, h3.below hb5⟩)
     have hx05 : w5.cell? ⟨g9, 0, none⟩ = some x0 := (hb5.cell (World.block_lt_of_cell? w4 _ hx04)).trans hx04
     have haz5 := haz4.below hb5
     have HL5 := Aside0.mk (And.intro ((hb5.block _ (lt_of_block hl4)).trans hl4) (And.intro hcb5 (And.intro hKR05 (And.intro hKRv5 (And.intro hx05 haz5)))))
     have HS5 := Aside0.mk (And.intro (hrn4.below hb5) (And.intro (hfm4.below hb5) (And.intro (fun r' e => (hpr4 r' e).imp fun b h => h.below hb5) (fun w6 (hb6 : Below w5.heap.size w5 w6) => hset4 w6 (hb5.trans (hb6.mono hb5.size))))))
     have HE5 := Aside0.mk e5
     clear hPl hwo hqv hvx hxc hc3 hA4 hB4 hfm4 hsm14 hsm24 hrn4 hpr4 hset4 hpo hqc hq4 hrnq hKR0 hKRv hx04 haz3 hrow3 haz4 hl4 hb5 hcb5 hKR05 hKRv5 hx05 haz5 e5
     have hs45 : w4.heap.size < w5.heap.size := lt_of_block HL5.out.2.1
     rcases HL5.out.2.2.2.1 with epk | ⟨kr, kb, cvk, epk, hkr, hkb⟩
     ·obtain rfl : pk = none := by simpa using epk
      have hlook := HL5.out.2.2.2.2.2.look p HS5.out.2.2.1
      have cc0 := (cell_of_block (i := 0) HL5.out.2.1).trans (show _ = some _ from rfl)
      have cc1 := (cell_of_block (i := 1) HL5.out.2.1).trans (show _ = some _ from rfl)
      have cc2 := (cell_of_block (i := 2) HL5.out.2.1).trans (show _ = some _ from rfl)
      go_wp2_with (first | (go_at_call 50; rw [← HE5.out]; refine (missing_nil w5).mono ?_; rintro e w' ⟨rfl, rfl⟩))
      clear hlook cc0 cc1 cc2
      obtain ⟨wy, ey⟩ : ∃ wy, wy = (w5.alloc (.cells (fsc nm (.pointer (p.map fun r => ⟨r, 0, none⟩))) 101)).alloc (.cells #[.iface 101 (.agg (fsc nm (.pointer (p.map fun r => ⟨r, 0, none⟩))))] 132) := ⟨_, rfl⟩
      rw [← ey]
      have hby : Below w5.heap.size w5 wy := by rw [ey]; exact ((Below.refl _ _).alloc (Nat.le_refl _) _).alloc (by simp) _
      have hcg : wy.cell? ⟨w5.heap.size + 1, 0, none⟩ = some (.iface 101 (.agg (fsc nm (.pointer (p.map fun r => ⟨r, 0, none⟩))))) := by
       have hh : wy.heap[w5.heap.size + 1]? = some (.cells #[.iface 101 (.agg (fsc nm (.pointer (p.map fun r => ⟨r, 0, none⟩))))] 132 (0, 0)) := by rw [ey]; exact heap_at _ (by simp)
       rw [cell_of_block hh]; rfl
      clear ey
      refine (pipe1_calls wy rr dn 4 _ _ _ (HS5.out.1.below hby) ((HS5.out.2.1.below hby).nb) (by rfl) (w5.heap.size + 1) 1 101 _ _ 164 hcg (fun (o : Option Nat) (w' : World) => ∃ X' G', Inv d ws dn P n FDl FsU (sn oD) oO oU q2 (fun a => a ∈ ns.take j ∨ a = nm) (j + 1) w' X' G') (setter_method nm _) (fun xs wa => enters_ Tryz.func164 rfl rfl xs wa) ((HS5.out.2.2.2 wy hby).mono (fun e w' ⟨o, X', G', he, hI'⟩ => ⟨o, he, X', G', hI'⟩))).mono ?_
      rintro e w7 ⟨o, rfl, X', G', hI'⟩
      have HI' := Aside0.mk hI'
      clear hI' hcg hby
      go_wp2_with fail
      go_roundg (gq - 1)
      case measure => have := HJQ.out; have := HJJ.out; have := HGQ.out; omega
      case rel =>
       have heq : (fun a => a ∈ ns.take j ∨ a = nm) = (fun a => a ∈ ns.take (j + 1)) := by
        funext a
        rw [List.take_succ_eq_append_getElem HJJ.out, List.mem_append, List.mem_singleton, ← HNM.out.1]
       refine ⟨j + 1, by go_num, ⟨by have := HJQ.out; have := HJJ.out; omega⟩, ⟨X', G', ?_⟩⟩
       have hI2 := HI'.out
       rw [heq] at hI2
       exact hI2
     ·obtain rfl : pk = some ⟨kr, 0, none⟩ := by simpa using epk
      have HKK := Aside0.mk (And.intro hkr hkb)
      clear hkr hkb epk
      go_wp2_with (first | (go_at_call 50; rw [← HE5.out]; refine (missing_calls w5 kr kb HKK.out.1 8 _ _ _ HKK.out.2 live_key).mono ?_; rintro e w' ⟨rfl, rfl⟩))
      have HKC : Aside0 (∀ w' : World, Below w5.heap.size w5 w' → w'.cell? ⟨kb, 7, none⟩ = some (.string ⟨#[]⟩) ∧ w'.cell? ⟨kb, 8, none⟩ = some (.string ⟨#[]⟩) ∧ w'.cell? ⟨kb, 9, none⟩ = some (.string ⟨#[]⟩)) := ⟨fun w' hb => by
       have hcs := (HKK.out.2.below hb).cells
       exact ⟨hcs.2.2.2.2.2.2.2.1, hcs.2.2.2.2.2.2.2.2.1, hcs.2.2.2.2.2.2.2.2.2.1⟩⟩
      refine start_ (n := 17) (S := fun w' => w'.cell? ⟨kb, 7, none⟩ = some (.string ⟨#[]⟩) ∧ w'.cell? ⟨kb, 8, none⟩ = some (.string ⟨#[]⟩) ∧ w'.cell? ⟨kb, 9, none⟩ = some (.string ⟨#[]⟩)) (ds := [16]) #[false, false, false, false, false, false, false, false, false, false, false, false, false, false, false, false, false] (by kernel_rfl) rfl rfl (HKC.out _ (Below.refl _ _).drew) (fun hHeld => ?_)
      refine with_tabW (T := wm34.T) (B := wm34.B) wm34.tab wm34.bits (fun HT_ HW_ => ?_)
      have HB6 := Aside0.mk ((Below.refl w5.heap.size w5).drew)
      generalize w5.drew = w6 at HB6 hHeld ⊢
      refine ps_ 0 146 HT_ ?_
      refine ps_ 5 151 HT_ ?_
      refine ps_ 10 156 HT_ ?_
      refine one_ (i := 1) (N := (some 147)) #[true, true, false, false, false, true, false, false, false, false, true, false, false, false, false, false, false] rfl rfl (one_of HT_.out (by kernel_rfl)) (by decide) (fun K hK => ?_)
      refine goes_ Tryz.func37 (by kernel_rfl) rfl #[ptr kr] (by rfl) rfl rfl (by simp only [List.map_toArray, List.map_cons, List.map_nil]; rfl) ?_
      refine (ynode_calls w6 kr kb (HKK.out.1.below HB6.out) _ _ _ _ (HKK.out.2.below HB6.out) live_key).mono ?_
      rintro e w9 ⟨rfl, rfl⟩
      refine ⟨_, rfl, ?_⟩
      refine hK.out _ _ hHeld (fun hHeld => ?_)
      clear hK K
      refine ns_ ?_
      refine ps_ 2 148 HT_ ?_
      refine ps_ 3 149 HT_ ?_
      refine ts_ 4 150 HT_ HW_ hHeld ?_
      refine one_ (i := 6) (N := (some 152)) #[true, true, true, true, true, true, true, false, false, false, true, false, false, false, false, false, false] rfl rfl (one_of HT_.out (by kernel_rfl)) (by decide) (fun K hK => ?_)
      refine goes_ Tryz.func37 (by kernel_rfl) rfl #[ptr kr] (by rfl) rfl rfl (by simp only [List.map_toArray, List.map_cons, List.map_nil]; rfl) ?_
      refine (ynode_calls w6 kr kb (HKK.out.1.below HB6.out) _ _ _ _ (HKK.out.2.below HB6.out) live_key).mono ?_
      rintro e w9 ⟨rfl, rfl⟩
      refine ⟨_, rfl, ?_⟩
      refine hK.out _ _ hHeld (fun hHeld => ?_)
      clear hK K
      refine ns_ ?_
      refine ps_ 7 153 HT_ ?_
      refine ps_ 8 154 HT_ ?_
      refine ts_ 9 155 HT_ HW_ hHeld ?_
      refine one_ (i := 11) (N := (some 157)) #[true, true, true, true, true, true, true, true, true, true, true, true, false, false, false, false, false] rfl rfl (one_of HT_.out (by kernel_rfl)) (by decide) (fun K hK => ?_)
      refine goes_ Tryz.func37 (by kernel_rfl) rfl #[ptr kr] (by rfl) rfl rfl (by simp only [List.map_toArray, List.map_cons, List.map_nil]; rfl) ?_
      refine (ynode_calls w6 kr kb (HKK.out.1.below HB6.out) _ _ _ _ (HKK.out.2.below HB6.out) live_key).mono ?_
      rintro e w9 ⟨rfl, rfl⟩
      refine ⟨_, rfl, ?_⟩
      refine hK.out _ _ hHeld (fun hHeld => ?_)
      clear hK K
      refine ns_ ?_
      refine ps_ 12 158 HT_ ?_
      refine ps_ 13 159 HT_ ?_
      refine ts_ 14 160 HT_ HW_ hHeld ?_
      refine ps_ 15 161 HT_ ?_
      refine last_ (i := 16) (N := none) #[true, true, true, true, true, true, true, true, true, true, true, true, true, true, true, true, true] rfl rfl (one_of HT_.out (by kernel_rfl)) (by decide) (fun K hK => ?_)
      have hcb6 := (HB6.out.block _ (lt_of_block HL5.out.2.1)).trans HL5.out.2.1
      have cc0 := (cell_of_block (i := 0) hcb6).trans (show _ = some _ from rfl)
      have cc1 := (cell_of_block (i := 1) hcb6).trans (show _ = some _ from rfl)
      have cc2 := (cell_of_block (i := 2) hcb6).trans (show _ = some _ from rfl)
      have zz0 := frozen_of_block (i := 0) hcb6
      have zz1 := frozen_of_block (i := 1) hcb6
      have zz2 := frozen_of_block (i := 2) hcb6
      have HCB6 := Aside0.mk hcb6
      clear hcb6
      rw [if_pos (by rfl)]
      go_simp
      rw [setCell_id HCB6.out rfl, setCell_id HCB6.out rfl, setCell_id HCB6.out rfl]
      refine hK.out _ _ ?_
      clear cc0 cc1 cc2 zz0 zz1 zz2
      clear hK K
      refine ns_ ?_
      refine done_ (done_of HT_.out (by kernel_rfl)) ?_
      have HS6 := Aside0.mk (And.intro (HS5.out.1.below HB6.out) (And.intro (HS5.out.2.1.below HB6.out) (And.intro (fun r' e => (HS5.out.2.2.1 r' e).imp fun b h => h.below HB6.out) (fun w7 (hb7 : Below w6.heap.size w6 w7) => HS5.out.2.2.2 w7 (HB6.out.trans (hb7.mono HB6.out.size))))))
      have hx06 : w6.cell? ⟨g9, 0, none⟩ = some x0 := (HB6.out.cell (World.block_lt_of_cell? w5 _ HL5.out.2.2.2.2.1)).trans HL5.out.2.2.2.2.1
      have hcb6 := (HB6.out.block _ (lt_of_block HL5.out.2.1)).trans HL5.out.2.1
      have HLK6 := Aside0.mk ((HL5.out.2.2.2.2.2.below HB6.out).look p HS6.out.2.2.1)
      have HCB := Aside0.mk hcb6
      clear hcb6
      rcases HL5.out.2.2.1 with ex0 | ⟨k0, kb0, cv0, ex0, hk0, hkb0⟩
      ·subst ex0
       have hlook := HLK6.out
       have cc0 := (cell_of_block (i := 0) HCB.out).trans (show _ = some _ from rfl)
       have cc1 := (cell_of_block (i := 1) HCB.out).trans (show _ = some _ from rfl)
       have cc2 := (cell_of_block (i := 2) HCB.out).trans (show _ = some _ from rfl)
       go_wp2_with (first | (go_at_call 50; refine (missing_nil w6).mono ?_; rintro e w' ⟨rfl, rfl⟩))
       clear hlook cc0 cc1 cc2 hx06
       obtain ⟨wy, ey⟩ : ∃ wy, wy = (w6.alloc (.cells (fsc nm (.pointer (p.map fun r => ⟨r, 0, none⟩))) 101)).alloc (.cells #[.iface 101 (.agg (fsc nm (.pointer (p.map fun r => ⟨r, 0, none⟩))))] 132) := ⟨_, rfl⟩
       rw [← ey]
       have hby : Below w6.heap.size w6 wy := by rw [ey]; exact ((Below.refl _ _).alloc (Nat.le_refl _) _).alloc (by simp) _
       have hcg : wy.cell? ⟨w6.heap.size + 1, 0, none⟩ = some (.iface 101 (.agg (fsc nm (.pointer (p.map fun r => ⟨r, 0, none⟩))))) := by
        have hh : wy.heap[w6.heap.size + 1]? = some (.cells #[.iface 101 (.agg (fsc nm (.pointer (p.map fun r => ⟨r, 0, none⟩))))] 132 (0, 0)) := by rw [ey]; exact heap_at _ (by simp)
        rw [cell_of_block hh]; rfl
       clear ey
       refine (pipe1_calls wy rr dn 4 _ _ _ (HS6.out.1.below hby) ((HS6.out.2.1.below hby).nb) (by rfl) (w6.heap.size + 1) 1 101 _ _ 164 hcg (fun (o : Option Nat) (w' : World) => ∃ X' G', Inv d ws dn P n FDl FsU (sn oD) oO oU q2 (fun a => a ∈ ns.take j ∨ a = nm) (j + 1) w' X' G') (setter_method nm _) (fun xs wa => enters_ Tryz.func164 rfl rfl xs wa) ((HS6.out.2.2.2 wy hby).mono (fun e w' ⟨o, X', G', he, hI'⟩ => ⟨o, he, X', G', hI'⟩))).mono ?_
       rintro e w7 ⟨o, rfl, X', G', hI'⟩
       have HI' := Aside0.mk hI'
       clear hI' hcg hby
       go_wp2_with fail
       go_roundg (gq - 1)
       case measure => have := HJQ.out; have := HJJ.out; have := HGQ.out; omega
       case rel =>
        have heq : (fun a => a ∈ ns.take j ∨ a = nm) = (fun a => a ∈ ns.take (j + 1)) := by
         funext a
         rw [List.take_succ_eq_append_getElem HJJ.out, List.mem_append, List.mem_singleton, ← HNM.out.1]
        refine ⟨j + 1, by go_num, ⟨by have := HJQ.out; have := HJJ.out; omega⟩, ⟨X', G', ?_⟩⟩
        have hI2 := HI'.out
        rw [heq] at hI2
        exact hI2
      ·subst ex0
       have HK0 := Aside0.mk (And.intro (hk0.below HB6.out) (hkb0.below HB6.out))
       have HK6 := Aside0.mk (And.intro (HKK.out.1.below HB6.out) (HKK.out.2.below HB6.out))
       clear hk0 hkb0
       go_wp2_with (first | (go_at_call 50; refine (missing_calls w6 k0 kb0 HK0.out.1 8 _ _ _ HK0.out.2 live_key).mono ?_; rintro e w' ⟨rfl, rfl⟩) | (go_at_call 37; fail))
       have HID : Aside0 (w6.setCell ⟨kb0, 7, none⟩ (.string ⟨#[]⟩) = w6 ∧ w6.setCell ⟨kb0, 8, none⟩ (.string ⟨#[]⟩) = w6 ∧ w6.setCell ⟨kb0, 9, none⟩ (.string ⟨#[]⟩) = w6) := ⟨setCell_id HK0.out.2 rfl, setCell_id HK0.out.2 rfl, setCell_id HK0.out.2 rfl⟩
       obtain ⟨_, _, _, _, _, _, _, ca7, ca8, ca9, _, _⟩ := HK6.out.2.cells
       obtain ⟨_, _, _, _, _, _, _, cb7, cb8, cb9, _, _⟩ := HK0.out.2.cells
       have zb7 := frozen_of_block (i := 7) HK0.out.2
       have zb8 := frozen_of_block (i := 8) HK0.out.2
       have zb9 := frozen_of_block (i := 9) HK0.out.2
       refine (ynode_calls w6 k0 kb0 HK0.out.1 8 _ _ _ HK0.out.2 live_key).mono ?_
       rintro e w' ⟨rfl, rfl⟩
       go_wp2_with fail
       refine (ynode_calls w6 kr kb HK6.out.1 8 _ _ _ HK6.out.2 live_key).mono ?_
       rintro e w' ⟨rfl, rfl⟩
       go_wp2_with fail
       rw [HID.out.1]
       refine (ynode_calls w6 k0 kb0 HK0.out.1 8 _ _ _ HK0.out.2 live_key).mono ?_
       rintro e w' ⟨rfl, rfl⟩
       go_wp2_with fail
       refine (ynode_calls w6 kr kb HK6.out.1 8 _ _ _ HK6.out.2 live_key).mono ?_
       rintro e w' ⟨rfl, rfl⟩
       go_wp2_with fail
       rw [HID.out.2.1]
       refine (ynode_calls w6 k0 kb0 HK0.out.1 8 _ _ _ HK0.out.2 live_key).mono ?_
       rintro e w' ⟨rfl, rfl⟩
       go_wp2_with fail
       refine (ynode_calls w6 kr kb HK6.out.1 8 _ _ _ HK6.out.2 live_key).mono ?_
       rintro e w' ⟨rfl, rfl⟩
       go_upto_region 39 with fail
       rw [HID.out.2.2]
       clear ca7 ca8 ca9 cb7 cb8 cb9 zb7 zb8 zb9
       have hlook := HLK6.out
       have cc0 := (cell_of_block (i := 0) HCB.out).trans (show _ = some _ from rfl)
       have cc1 := (cell_of_block (i := 1) HCB.out).trans (show _ = some _ from rfl)
       have cc2 := (cell_of_block (i := 2) HCB.out).trans (show _ = some _ from rfl)
       go_wp2_with fail
       clear hlook cc0 cc1 cc2 hx06
       obtain ⟨wy, ey⟩ : ∃ wy, wy = (w6.alloc (.cells (fsc nm (.pointer (p.map fun r => ⟨r, 0, none⟩))) 101)).alloc (.cells #[.iface 101 (.agg (fsc nm (.pointer (p.map fun r => ⟨r, 0, none⟩))))] 132) := ⟨_, rfl⟩
       rw [← ey]
       have hby : Below w6.heap.size w6 wy := by rw [ey]; exact ((Below.refl _ _).alloc (Nat.le_refl _) _).alloc (by simp) _
       have hcg : wy.cell? ⟨w6.heap.size + 1, 0, none⟩ = some (.iface 101 (.agg (fsc nm (.pointer (p.map fun r => ⟨r, 0, none⟩))))) := by
        have hh : wy.heap[w6.heap.size + 1]? = some (.cells #[.iface 101 (.agg (fsc nm (.pointer (p.map fun r => ⟨r, 0, none⟩))))] 132 (0, 0)) := by rw [ey]; exact heap_at _ (by simp)
        rw [cell_of_block hh]; rfl
       clear ey
       refine (pipe1_calls wy rr dn 4 _ _ _ (HS6.out.1.below hby) ((HS6.out.2.1.below hby).nb) (by rfl) (w6.heap.size + 1) 1 101 _ _ 164 hcg (fun (o : Option Nat) (w' : World) => ∃ X' G', Inv d ws dn P n FDl FsU (sn oD) oO oU q2 (fun a => a ∈ ns.take j ∨ a = nm) (j + 1) w' X' G') (setter_method nm _) (fun xs wa => enters_ Tryz.func164 rfl rfl xs wa) ((HS6.out.2.2.2 wy hby).mono (fun e w' ⟨o, X', G', he, hI'⟩ => ⟨o, he, X', G', hI'⟩))).mono ?_
       rintro e w7 ⟨o, rfl, X', G', hI'⟩
       have HI' := Aside0.mk hI'
       clear hI' hcg hby
       go_wp2_with fail
       go_roundg (gq - 1)
       case measure => have := HJQ.out; have := HJJ.out; have := HGQ.out; omega
       case rel =>
        have heq : (fun a => a ∈ ns.take j ∨ a = nm) = (fun a => a ∈ ns.take (j + 1)) := by
         funext a
         rw [List.take_succ_eq_append_getElem HJJ.out, List.mem_append, List.mem_singleton, ← HNM.out.1]
        refine ⟨j + 1, by go_num, ⟨by have := HJQ.out; have := HJJ.out; omega⟩, ⟨X', G', ?_⟩⟩
        have hI2 := HI'.out
        rw [heq] at hI2
        exact hI2
  ·have hje : j = ns.length := by have := HJ.out; omega
   subst hje
   go_wp2_with fail
   refine bodyPost_ret (v := .tuple #[ptr rr, .nilIface]) (by simp [results, Tryz.results42, go_sem]) rfl ?_
   obtain ⟨X, G, hI⟩ := HI.out
   exact ⟨some rr, rfl, Left.back (HE1.out.2.2 _ _ _ X G (fun nm hnm => by rw [List.take_length]; exact (HN.out.2.1 nm).2 ((HX.out.2.2.2.2.2.2.2.1 nm).2 hnm)) hI) H1.out.1⟩
end Go.Proofs.YtkpdkoafngjflaaGreat
