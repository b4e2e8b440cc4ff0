import Derived.Test.YtkpdkoafngjflaaGreatSh
import Derived.Test.YtkpdkoafngjflaaGreatRead
import Derived.Test.YtkpdkoafngjflaaGreatWLast
import Derived.Test.YtkpdkoafngjflaaGreatWTab
namespace Go.Proofs.YtkpdkoafngjflaaGreat
open Go.RowKit Go.Proofs.YtkpdkoafngjflaaGreatW.PrintWords Go.Proofs.YtkpdkoafngjflaaGreatW.PrintLast Go.Proofs.YtkpdkoafngjflaaGreat.PFnFields
set_option linter.unusedVariables false
set_option linter.unusedSimpArgs false
def kv : List ByteArray → List Y → List Y
 | k :: ks, y :: ys => .mk 8 ⟨#[]⟩ k [] :: y :: kv ks ys
 | _, _ => []
theorem kv_snoc : ∀ (ks : List ByteArray) (ys : List Y) (k : ByteArray) (y : Y), ks.length = ys.length → kv (ks ++ [k]) (ys ++ [y]) = kv ks ys ++ [.mk 8 ⟨#[]⟩ k [], y]
 | [], [], _, _, _ => rfl
 | _ :: ks, _ :: ys, k, y, h => by simp [kv, kv_snoc ks ys k y (by simpa using h)]
 | [], _ :: _, _, _, h => by simp at h
 | _ :: _, [], _, _, h => by simp at h
def Sh : Nat → S25 → Prop
 | 0, _ => False
 | d + 1, x => x.f4.length ≤ 1000 ∧ (x.f0 = 1 ∨ (x.f0 = 2 ∧ x.f3.length = x.f4.length ∧ ∀ y ∈ x.f4, Sh d y) ∨ (x.f0 = 3 ∧ ∀ y ∈ x.f4, Sh d y))
def toY : Nat → S25 → Y
 | 0, _ => .mk 0 ⟨#[]⟩ ⟨#[]⟩ []
 | d + 1, x => if x.f0 = 1 then .mk 8 x.f2 x.f1 [] else if x.f0 = 2 then .mk 4 ⟨#[]⟩ ⟨#[]⟩ (kv x.f3 (x.f4.map (toY d))) else .mk 2 ⟨#[]⟩ ⟨#[]⟩ (x.f4.map (toY d))
theorem Tryz.infoYP : (Tryz.prog.info? 66).map (fun i => (i.zero, i.size, i.bytes)) = some (some (.pointer none), 1, 8) := by kernel_rfl
def treeOf9.T : Bool × List (List Nat × List Nat) := (true, [([], []), ([], []), ([1], [1]), ([2], [2]), ([3], [3]), ([], []), ([5], [5]), ([6], [6]), ([], []), ([8], [8]), ([], []), ([9, 10], [9, 10]), ([11], [11]), ([12], [12]), ([7, 13], [7, 13]), ([4, 14, 13], [4, 14]), ([0, 0, 1, 2, 3, 4, 5, 6, 7, 8, 9, 10, 11, 12, 13, 14, 15], [0]), ([16, 0, 1, 2, 3, 4, 5, 6, 7, 8, 9, 10, 11, 12, 13, 14, 15], [16]), ([17, 15, 15, 0, 1, 2, 3, 4, 5, 6, 7, 8, 9, 10, 11, 12, 13, 14, 15], [15, 17])])
def treeOf9.B : List Nat := [0, 0, 2, 6, 14, 0, 32, 96, 0, 256, 0, 1792, 3840, 7936, 16352, 32766, 65535, 131071, 262143]
theorem treeOf9.tab : rtab .any (opsOf Tryz.f35 9) = treeOf9.T := by kernel_rfl
theorem treeOf9.bits : waitsOk treeOf9.T.2 treeOf9.B = true := by kernel_rfl
def treeOf17.T : Bool × List (List Nat × List Nat) := (true, [([], []), ([], []), ([1], [1]), ([2], [2]), ([3], [3]), ([], []), ([5], [5]), ([6], [6]), ([4, 7, 6], [4, 7]), ([0, 0, 1, 2, 3, 4, 5, 6, 7, 8], [0]), ([9, 0, 1, 2, 3, 4, 5, 6, 7, 8], [9]), ([10, 8, 8, 0, 1, 2, 3, 4, 5, 6, 7, 8], [8, 10])])
def treeOf17.B : List Nat := [0, 0, 2, 6, 14, 0, 32, 96, 254, 511, 1023, 2047]
theorem treeOf17.tab : rtab .any (opsOf Tryz.f35 17) = treeOf17.T := by kernel_rfl
theorem treeOf17.bits : waitsOk treeOf17.T.2 treeOf17.B = true := by kernel_rfl
set_option maxRecDepth 100000 in
set_option maxHeartbeats 1600000 in
theorem treeOf_scalar (x : S25) (w : World) (A3 : Option Addr) (c3 : Nat) (A4 : Option Addr) (c4 : Nat) (h0 : x.f0 = 1) :
  Calls Tryz.prog 35 #[.agg #[.int .i64 x.f0, .string x.f1, .string x.f2, .slice A3 x.f3.length c3, .slice A4 x.f4.length c4]] w fun e w' =>
   ∃ b, e = .returned (ptr b) ∧ YN w' (fun k => w.heap.size ≤ k) b (.mk 8 x.f2 x.f1 []) ∧ Below w.heap.size w w' := by
 have hu := Tryz.underlying25
 rw [h0]
 go_enter Tryz.func35, Tryz.ntmps35
 go_wp2
 go_ret
 refine ⟨_, rfl, ?_, ?_⟩
 ·exact YN.close (cv := .slice none 0 0) (bs := []) (by simp) (heap_at _ (by simp)) (own_nil _ _ _ _) (by simp [Value.ownBlock]) (by simp only [YL])
 ·exact ((Below.refl _ _).alloc (Nat.le_refl _) _).alloc (by simp) _
set_option maxRecDepth 100000 in
set_option maxHeartbeats 3200000 in
theorem treeOf_calls (d : Nat) : ∀ (x : S25) (w : World) (cs : List Value), k25.K w x cs → Sh d x →
  Calls Tryz.prog 35 #[.agg cs.toArray] w fun e w' => ∃ b, e = .returned (ptr b) ∧ YN w' (fun k => w.heap.size ≤ k) b (toY d x) ∧ Below w.heap.size w w' := by
 induction d with
 | zero => intro x w cs _ h; exact h.elim
 | succ d ih =>
 intro x w cs hK hS
 obtain ⟨A3, c3, A4, c4, rfl, l3, g3, l4, g4⟩ := k25_open hK
 have hu := Tryz.underlying25
 obtain ⟨hlen, hS⟩ := hS
 rcases hS with h0 | ⟨h0, hl, hS⟩ | ⟨h0, hS⟩
 ·simp only [toY, h0, if_true]
  have := treeOf_scalar x w A3 c3 A4 c4 h0
  rwa [h0] at this
 ·simp only [toY, h0]
  have HG3 := Aside0.mk g3
  have HG4 := Aside0.mk g4
  have HL := Aside0.mk hl
  have HS := Aside0.mk hS
  have IH := Aside0.mk ih
  clear hK g3 g4 hl hS ih h0
  obtain ⟨i0, hi0', hz0', hz1', hz2'⟩ := info_parts Tryz.infoYP
  have hi0 := Aside0.mk hi0'
  have hz0 := Aside0.mk hz0'
  have hz1 := Aside0.mk hz1'
  have hz2 := Aside0.mk hz2'
  clear hi0' hz0' hz1' hz2'
  go_enter Tryz.func35, Tryz.ntmps35
  go_wp2
  go_loopg [26] x.f3.length (fun k i wr => ∃ (j : Nat) (cv : Value) (bs : List Nat), i = .int .i64 j ∧ Aside0 (j ≤ x.f3.length ∧ k + j = x.f3.length) ∧ Aside0 (wr.heap[w.heap.size]? = some (.cells #[.int .i64 2, .string x.f1, .string x.f2, .slice A3 x.f3.length c3, .slice A4 x.f4.length c4] 25 (0, 0))) ∧
   Aside0 (NB wr (w.heap.size + 1) 4 ⟨#[]⟩ ⟨#[]⟩ cv) ∧ Aside0 (wr.ownsRow (w.heap.size + 2) 66 1 cv (2 * j) (ptrs bs)) ∧
   Aside0 (YL wr (fun k => w.heap.size + 2 ≤ k ∧ some k ≠ cv.ownBlock) bs (kv (x.f3.take j) ((x.f4.take j).map (toY d)))) ∧ Aside0 (Below w.heap.size w wr))
  case atStart =>
   refine ⟨0, .slice none 0 0, [], rfl, ⟨⟨Nat.zero_le _, by omega⟩⟩, ⟨?_⟩, ⟨?_⟩, ⟨own_nil _ _ _ _⟩, ⟨by simp [kv, YL]⟩, ⟨((Below.refl _ _).alloc (Nat.le_refl _) _).alloc (by simp) _⟩⟩
   ·rw [heap_old _ (by simp)]; exact heap_at _ rfl
   ·exact heap_at _ (by simp)
  case round =>
   obtain ⟨j, cv, bs, rfl, HJ, HX, HN, HO, HY, HB⟩ := hrel
   by_cases hj : j < x.f3.length
   ·generalize hkk : x.f3.getD j ByteArray.empty = kk
    generalize hyy : x.f4.getD j z25 = yy
    obtain ⟨ad3, e3, hs3⟩ := strAt HG3.out j hj
    obtain ⟨ad4, B3, b3, B4, b4, e4, hKy, f0, f1, f2, f3, f4⟩ := nodeAt HG4.out j (by have := HL.out; omega) yy hyy
    rw [hkk] at hs3
    cases e3
    cases e4
    have g3' := (HB.out.cell (World.block_lt_of_cell? w _ hs3)).trans hs3
    have HKK := Aside0.mk hkk
    have HYY := Aside0.mk hyy
    have HKY := Aside0.mk hKy
    clear hkk hyy hKy hs3
    go_wp2
    have HK : Aside0 (∀ w', Chg (fun _ => False) wr w' → w'.cell? ⟨w.heap.size + 1, 6, none⟩ = some cv ∧ w'.cell? ⟨w.heap.size, 4, none⟩ = some (.slice (some ad4) x.f4.length c4) ∧
     w'.cell? (ad4.add (j * 5)) = some (.int .i64 yy.f0) ∧ w'.cell? ⟨(ad4.add (j * 5)).block, (ad4.add (j * 5)).off + 1, none⟩ = some (.string yy.f1) ∧ w'.cell? ⟨(ad4.add (j * 5)).block, (ad4.add (j * 5)).off + 2, none⟩ = some (.string yy.f2) ∧
     w'.cell? ⟨(ad4.add (j * 5)).block, (ad4.add (j * 5)).off + 3, none⟩ = some (.slice B3 yy.f3.length b3) ∧ w'.cell? ⟨(ad4.add (j * 5)).block, (ad4.add (j * 5)).off + 4, none⟩ = some (.slice B4 yy.f4.length b4)) := by
     refine ⟨fun w' hc => ?_⟩
     have old : ∀ {a : Addr} {v : Value}, w.cell? a = some v → w'.cell? a = some v := fun {a v} h => by
      have hl := World.block_lt_of_cell? w a h
      exact (hc.cell (Nat.lt_of_lt_of_le hl HB.out.size) (fun q => q)).trans ((HB.out.cell hl).trans h)
     refine ⟨hc.cell_of HN.out.content (fun q => q), hc.cell_of (by rw [cell_of_block HX.out]; rfl) (fun q => q), old f0, old f1, old f2, old f3, old f4⟩
    have HSY := Aside0.mk (HS.out yy (by rw [← HYY.out, List.getD_eq_getElem?_getD, List.getElem?_eq_getElem (by have := HL.out; omega)]; exact List.getElem_mem _))
    have HKW : Aside0 (∀ w', Chg (fun _ => False) wr w' → k25.K w' yy [.int .i64 yy.f0, .string yy.f1, .string yy.f2, .slice B3 yy.f3.length b3, .slice B4 yy.f4.length b4]) :=
     ⟨fun w' hc => k25.K_below (HB.out.trans (hc.below HB.out.size (fun _ q => q.elim))) HKY.out⟩
    have hj4 : (j : Int) < (x.f4.length : Int) := by have := HL.out; omega
    clear f0 f1 f2 f3 f4 g3'
    refine start_ (n := 19) (S := fun w' => w'.cell? ⟨w.heap.size + 1, 6, none⟩ = some cv ∧ w'.cell? ⟨w.heap.size, 4, none⟩ = some (.slice (some ad4) x.f4.length c4) ∧ w'.cell? (ad4.add (j * 5)) = some (.int .i64 yy.f0) ∧ w'.cell? ⟨(ad4.add (j * 5)).block, (ad4.add (j * 5)).off + 1, none⟩ = some (.string yy.f1) ∧ w'.cell? ⟨(ad4.add (j * 5)).block, (ad4.add (j * 5)).off + 2, none⟩ = some (.string yy.f2) ∧ w'.cell? ⟨(ad4.add (j * 5)).block, (ad4.add (j * 5)).off + 3, none⟩ = some (.slice B3 yy.f3.length b3) ∧ w'.cell? ⟨(ad4.add (j * 5)).block, (ad4.add (j * 5)).off + 4, none⟩ = some (.slice B4 yy.f4.length b4)) (ds := [15, 18]) #[false, false, false, false, false, false, false, false, false, false, false, false, false, false, false, false, false, false, false] (by kernel_rfl) rfl rfl (HK.out _ ((Chg.refl _ _).drew)) (fun hHeld => ?_)
    refine with_tabW (T := treeOf9.T) (B := treeOf9.B) treeOf9.tab treeOf9.bits (fun HT_ HW_ => ?_)
    have HC := Aside0.mk ((Chg.refl (fun _ => False) wr).drew)
    have HC0 := HC
    generalize wr.drew = wc at HC HC0 hHeld ⊢
    refine ps_ 0 31 HT_ ?_
    refine ps_ 1 32 HT_ ?_
    refine ps_ 2 33 HT_ ?_
    refine ps_ 3 34 HT_ ?_
    refine ps_ 5 36 HT_ ?_
    refine ps_ 6 37 HT_ ?_
    refine ps_ 8 39 HT_ ?_
    refine ps_ 10 41 HT_ ?_
    refine ts_ 4 35 HT_ HW_ hHeld ?_
    refine ts_ 9 40 HT_ HW_ hHeld ?_
    refine ps_ 11 42 HT_ ?_
    refine ts_ 12 43 HT_ HW_ hHeld ?_
    refine two_ (i := 7) (j := 13) (Ni := (some 38)) (Nj := (some 44)) #[true, true, true, true, true, true, true, true, true, true, true, true, true, false, false, false, false, false, false] #[true, true, true, true, true, true, true, false, true, true, true, true, true, true, false, false, false, false, false] rfl rfl rfl rfl (two_of HT_.out (by kernel_rfl)) (by decide) (by decide) (fun K hK => ?_) (fun K hK => ?_)
    ·rw [if_pos (by rfl)]
     go_simp
     obtain ⟨w7, kb, e7, n7, hc7, hb7, hk7, hs7⟩ := alloc_step HC.out (.cells (ycells 8 ⟨#[]⟩ kk (.slice none 0 0)) 82)
     refine hK.out _ _ (HK.out _ (HC.out.alloc _)) (fun _ => ?_)
     refine world_ (w' := w7) e7 ?_
     rw [n7]
     have hHeld := HK.out _ hc7
     have HKB := Aside0.mk (show NB w7 kb 8 ⟨#[]⟩ kk (.slice none 0 0) from hk7)
     have HS7 := Aside0.mk (And.intro n7 hs7)
     try replace HYB := Aside0.mk (HYB.out.below hb7)
     clear HC hk7 hs7 hb7 e7 n7
     have HC := Aside0.mk hc7
     clear hc7
     clear hK K
     refine ns_ ?_
     refine one_ (i := 13) (N := (some 44)) #[true, true, true, true, true, true, true, true, true, true, true, true, true, true, false, false, false, false, false] rfl rfl (one_of HT_.out (by kernel_rfl)) (by decide) (fun K hK => ?_)
     refine goes_ Tryz.func35 (by kernel_rfl) rfl #[.agg #[.int .i64 yy.f0, .string yy.f1, .string yy.f2, .slice B3 yy.f3.length b3, .slice B4 yy.f4.length b4]] (by rfl) rfl rfl (by simp only [List.map_toArray, List.map_cons, List.map_nil]; rfl) ?_
     refine (IH.out yy _ _ (HKW.out _ HC.out) HSY.out).mono ?_
     rintro e w13 ⟨b, rfl, hy, hb13⟩
     refine ⟨_, rfl, ?_⟩
     obtain ⟨lo, hi, hlo, hhi, hle, hc13, HYB0⟩ := call_step HC.out hy hb13
     refine hK.out _ _ (HK.out _ hc13) (fun hHeld => ?_)
     have HYB := Aside0.mk HYB0
     have HS13 := Aside0.mk (And.intro hlo (And.intro hhi (And.intro hle HC.out.size)))
     try replace HKB := Aside0.mk (HKB.out.below hb13)
     clear HC hy hb13 hlo hhi hle HYB0
     have HC := Aside0.mk hc13
     clear hc13
     clear hK K
     refine ns_ ?_
     refine one_ (i := 14) (N := (some 45)) #[true, true, true, true, true, true, true, true, true, true, true, true, true, true, true, false, false, false, false] rfl rfl (one_of HT_.out (by kernel_rfl)) (by decide) (fun K hK => ?_)
     rw [if_pos (by rfl)]
     go_simp
     obtain ⟨w14, n14, e14, q14, hc14, hb14, hk14, hs14⟩ := alloc_step HC.out (.cells #[ptr kb, ptr b] 66)
     refine hK.out _ _ (HK.out _ (HC.out.alloc _)) (fun _ => ?_)
     refine world_ (w' := w14) e14 ?_
     rw [q14]
     have hHeld := HK.out _ hc14
     replace HYB := Aside0.mk (HYB.out.below hb14)
     replace HKB := Aside0.mk (HKB.out.below hb14)
     have HK14 := Aside0.mk hk14
     have HD : Aside0 ((kb < lo ∨ hi ≤ kb) ∧ wr.heap.size ≤ kb ∧ wr.heap.size ≤ lo) := ⟨by have h1 := HS7.out; have h2 := HS13.out; have h3 := HC0.out.size; omega⟩
     have HS14 := Aside0.mk (And.intro q14 (And.intro hs14 (And.intro HC.out.size HKB.out.lt)))
     clear HC hk14 hs14 hb14 e14 q14
     have HC := Aside0.mk hc14
     clear hc14
     clear hK K
     refine ns_ ?_
     refine last_ (i := 15) (N := (some 46)) #[true, true, true, true, true, true, true, true, true, true, true, true, true, true, true, true, false, false, false] rfl rfl (one_of HT_.out (by kernel_rfl)) (by decide) (fun K hK => ?_)
     rw [if_pos (by rfl)]
     have HO14 : w14.ownsRow (w.heap.size + 2) 66 1 cv (2 * j) (ptrs bs) := own_move HO.out (fun k hk => HC.out.block k (own_lt HO.out k hk) (fun q => q))
     refine wp_append_lies w14 (.tmp 35) (.tmp 45) 80 rfl (w.heap.size + 2) 66 i0 (.pointer none) 1 8 Tryz.underlying80 hi0.out hz0.out hz1.out hz2.out rfl (by decide) cv (2 * j) (ptrs bs) (by rfl) HO14 ⟨n14, 0, none⟩ 2 2 [ptr kb, ptr b] (by rfl) rfl (World.news_of_block (cs := #[ptr kb, ptr b]) (fr := (0, 0)) HK14.out) (by simp [Value.oneCell']) (by omega) (by unfold maxLen; have := HJ.out; have := HL.out; omega) (by have := HJ.out; have := HL.out; omega) (by have := HS14.out; have := HN.out.lt; omega) _ rfl ?_
     intro g cap w15 hown hgrow hat hlt
     have HG := Aside0.mk (And.intro hown (And.intro hgrow hat))
     refine hK.out _ _ ?_
     clear hown hgrow hat hlt HO14
     clear hK K
     refine ns_ ?_
     refine ps_ 16 47 HT_ ?_
     refine ps_ 17 48 HT_ ?_
     refine last_ (i := 18) (N := none) #[true, true, true, true, true, true, true, true, true, true, true, true, true, true, true, true, true, true, true] rfl rfl (one_of HT_.out (by kernel_rfl)) (by decide) (fun K hK => ?_)
     have hn15 : NB w15 (w.heap.size + 1) 4 ⟨#[]⟩ ⟨#[]⟩ cv := by
      have h1 := HN.out.lt
      exact (HG.out.2.1.block _ (Nat.lt_of_lt_of_le h1 HC.out.size) (fun e => by have := own_base HO.out _ e.symm; omega)).trans ((HC.out.block _ h1 (fun q => q)).trans HN.out)
     have hcell : w15.cell? ⟨w.heap.size + 1, 6, none⟩ = some cv := hn15.content
     have hfr : w15.frozen? ⟨w.heap.size + 1, 6, none⟩ = false := frozen_of_block hn15
     clear hn15
     rw [if_pos (by rfl)]
     go_simp
     refine hK.out _ _ ?_
     clear hK K
     refine ns_ ?_
     refine done_ (done_of HT_.out (by kernel_rfl)) ?_
     go_wp2
     go_roundg (gk - 1)
     case measure => have := HJ.out; omega
     case rel =>
      have hj' := HJ.out
      have hl' := HL.out
      obtain ⟨hown, hgrow, hat⟩ := HG.out
      have hd := HD.out
      have HY2 : YL w14 (fun k => k = kb ∨ (lo ≤ k ∧ k < hi)) [kb, b] [.mk 8 ⟨#[]⟩ kk [], toY d yy] := by
       refine YL.append (as_ := [kb]) (xs := [.mk 8 ⟨#[]⟩ kk []]) (F1 := fun k => k = kb) (F2 := fun k => lo ≤ k ∧ k < hi) (YL.one ?_) (YL.one HYB.out) (fun _ q => .inl q) (fun _ q => .inr q) (fun k q r => by omega)
       exact YN.close rfl HKB.out (bs := []) (own_nil _ _ _ _) (by simp [Value.ownBlock]) (by simp only [YL])
      obtain ⟨q1, q2, q3, q4⟩ := grow_step HN.out (by omega) HO.out HY.out HC.out HY2 (fun k q => by omega) (by have := HN.out.lt; omega) hown hgrow hat
      refine ⟨j + 1, _, bs ++ [kb, b], by go_num, ⟨by omega⟩, ⟨?_⟩, ⟨q1⟩, ⟨q2⟩, ⟨?_⟩, ⟨HB.out.trans (q4.below HB.out.size (fun k q => by rcases q with q | q; omega; have := own_base HO.out k q.symm; omega))⟩⟩
      ·exact (q4.block _ (lt_of_block HX.out) (fun q => by rcases q with q | q; omega; have := own_base HO.out _ q.symm; omega)).trans HX.out
      ·have e1 : x.f3.take (j + 1) = x.f3.take j ++ [kk] := by
        rw [List.take_succ_eq_append_getElem (by omega), ← HKK.out, List.getD_eq_getElem?_getD, List.getElem?_eq_getElem (by omega)]; rfl
       have e2 : (x.f4.take (j + 1)).map (toY d) = (x.f4.take j).map (toY d) ++ [toY d yy] := by
        rw [List.take_succ_eq_append_getElem (by omega), List.map_append, ← HYY.out, List.getD_eq_getElem?_getD, List.getElem?_eq_getElem (by omega)]; rfl
       rw [e1, e2, kv_snoc _ _ _ _ (by simp; omega)]
       exact q3
    ·refine goes_ Tryz.func35 (by kernel_rfl) rfl #[.agg #[.int .i64 yy.f0, .string yy.f1, .string yy.f2, .slice B3 yy.f3.length b3, .slice B4 yy.f4.length b4]] (by rfl) rfl rfl (by simp only [List.map_toArray, List.map_cons, List.map_nil]; rfl) ?_
     refine (IH.out yy _ _ (HKW.out _ HC.out) HSY.out).mono ?_
     rintro e w13 ⟨b, rfl, hy, hb13⟩
     refine ⟨_, rfl, ?_⟩
     obtain ⟨lo, hi, hlo, hhi, hle, hc13, HYB0⟩ := call_step HC.out hy hb13
     refine hK.out _ _ (HK.out _ hc13) (fun hHeld => ?_)
     have HYB := Aside0.mk HYB0
     have HS13 := Aside0.mk (And.intro hlo (And.intro hhi (And.intro hle HC.out.size)))
     try replace HKB := Aside0.mk (HKB.out.below hb13)
     clear HC hy hb13 hlo hhi hle HYB0
     have HC := Aside0.mk hc13
     clear hc13
     clear hK K
     refine ns_ ?_
     refine one_ (i := 7) (N := (some 38)) #[true, true, true, true, true, true, true, true, true, true, true, true, true, true, false, false, false, false, false] rfl rfl (one_of HT_.out (by kernel_rfl)) (by decide) (fun K hK => ?_)
     rw [if_pos (by rfl)]
     go_simp
     obtain ⟨w7, kb, e7, n7, hc7, hb7, hk7, hs7⟩ := alloc_step HC.out (.cells (ycells 8 ⟨#[]⟩ kk (.slice none 0 0)) 82)
     refine hK.out _ _ (HK.out _ (HC.out.alloc _)) (fun _ => ?_)
     refine world_ (w' := w7) e7 ?_
     rw [n7]
     have hHeld := HK.out _ hc7
     have HKB := Aside0.mk (show NB w7 kb 8 ⟨#[]⟩ kk (.slice none 0 0) from hk7)
     have HS7 := Aside0.mk (And.intro n7 hs7)
     try replace HYB := Aside0.mk (HYB.out.below hb7)
     clear HC hk7 hs7 hb7 e7 n7
     have HC := Aside0.mk hc7
     clear hc7
     clear hK K
     refine ns_ ?_
     refine one_ (i := 14) (N := (some 45)) #[true, true, true, true, true, true, true, true, true, true, true, true, true, true, true, false, false, false, false] rfl rfl (one_of HT_.out (by kernel_rfl)) (by decide) (fun K hK => ?_)
     rw [if_pos (by rfl)]
     go_simp
     obtain ⟨w14, n14, e14, q14, hc14, hb14, hk14, hs14⟩ := alloc_step HC.out (.cells #[ptr kb, ptr b] 66)
     refine hK.out _ _ (HK.out _ (HC.out.alloc _)) (fun _ => ?_)
     refine world_ (w' := w14) e14 ?_
     rw [q14]
     have hHeld := HK.out _ hc14
     replace HYB := Aside0.mk (HYB.out.below hb14)
     replace HKB := Aside0.mk (HKB.out.below hb14)
     have HK14 := Aside0.mk hk14
     have HD : Aside0 ((kb < lo ∨ hi ≤ kb) ∧ wr.heap.size ≤ kb ∧ wr.heap.size ≤ lo) := ⟨by have h1 := HS7.out; have h2 := HS13.out; have h3 := HC0.out.size; omega⟩
     have HS14 := Aside0.mk (And.intro q14 (And.intro hs14 (And.intro HC.out.size HKB.out.lt)))
     clear HC hk14 hs14 hb14 e14 q14
     have HC := Aside0.mk hc14
     clear hc14
     clear hK K
     refine ns_ ?_
     refine last_ (i := 15) (N := (some 46)) #[true, true, true, true, true, true, true, true, true, true, true, true, true, true, true, true, false, false, false] rfl rfl (one_of HT_.out (by kernel_rfl)) (by decide) (fun K hK => ?_)
     rw [if_pos (by rfl)]
     have HO14 : w14.ownsRow (w.heap.size + 2) 66 1 cv (2 * j) (ptrs bs) := own_move HO.out (fun k hk => HC.out.block k (own_lt HO.out k hk) (fun q => q))
     refine wp_append_lies w14 (.tmp 35) (.tmp 45) 80 rfl (w.heap.size + 2) 66 i0 (.pointer none) 1 8 Tryz.underlying80 hi0.out hz0.out hz1.out hz2.out rfl (by decide) cv (2 * j) (ptrs bs) (by rfl) HO14 ⟨n14, 0, none⟩ 2 2 [ptr kb, ptr b] (by rfl) rfl (World.news_of_block (cs := #[ptr kb, ptr b]) (fr := (0, 0)) HK14.out) (by simp [Value.oneCell']) (by omega) (by unfold maxLen; have := HJ.out; have := HL.out; omega) (by have := HJ.out; have := HL.out; omega) (by have := HS14.out; have := HN.out.lt; omega) _ rfl ?_
     intro g cap w15 hown hgrow hat hlt
     have HG := Aside0.mk (And.intro hown (And.intro hgrow hat))
     refine hK.out _ _ ?_
     clear hown hgrow hat hlt HO14
     clear hK K
     refine ns_ ?_
     refine ps_ 16 47 HT_ ?_
     refine ps_ 17 48 HT_ ?_
     refine last_ (i := 18) (N := none) #[true, true, true, true, true, true, true, true, true, true, true, true, true, true, true, true, true, true, true] rfl rfl (one_of HT_.out (by kernel_rfl)) (by decide) (fun K hK => ?_)
     have hn15 : NB w15 (w.heap.size + 1) 4 ⟨#[]⟩ ⟨#[]⟩ cv := by
      have h1 := HN.out.lt
      exact (HG.out.2.1.block _ (Nat.lt_of_lt_of_le h1 HC.out.size) (fun e => by have := own_base HO.out _ e.symm; omega)).trans ((HC.out.block _ h1 (fun q => q)).trans HN.out)
     have hcell : w15.cell? ⟨w.heap.size + 1, 6, none⟩ = some cv := hn15.content
     have hfr : w15.frozen? ⟨w.heap.size + 1, 6, none⟩ = false := frozen_of_block hn15
     clear hn15
     rw [if_pos (by rfl)]
     go_simp
     refine hK.out _ _ ?_
     clear hK K
     refine ns_ ?_
     refine done_ (done_of HT_.out (by kernel_rfl)) ?_
     go_wp2
     go_roundg (gk - 1)
     case measure => have := HJ.out; omega
     case rel =>
      have hj' := HJ.out
      have hl' := HL.out
      obtain ⟨hown, hgrow, hat⟩ := HG.out
      have hd := HD.out
      have HY2 : YL w14 (fun k => k = kb ∨ (lo ≤ k ∧ k < hi)) [kb, b] [.mk 8 ⟨#[]⟩ kk [], toY d yy] := by
       refine YL.append (as_ := [kb]) (xs := [.mk 8 ⟨#[]⟩ kk []]) (F1 := fun k => k = kb) (F2 := fun k => lo ≤ k ∧ k < hi) (YL.one ?_) (YL.one HYB.out) (fun _ q => .inl q) (fun _ q => .inr q) (fun k q r => by omega)
       exact YN.close rfl HKB.out (bs := []) (own_nil _ _ _ _) (by simp [Value.ownBlock]) (by simp only [YL])
      obtain ⟨q1, q2, q3, q4⟩ := grow_step HN.out (by omega) HO.out HY.out HC.out HY2 (fun k q => by omega) (by have := HN.out.lt; omega) hown hgrow hat
      refine ⟨j + 1, _, bs ++ [kb, b], by go_num, ⟨by omega⟩, ⟨?_⟩, ⟨q1⟩, ⟨q2⟩, ⟨?_⟩, ⟨HB.out.trans (q4.below HB.out.size (fun k q => by rcases q with q | q; omega; have := own_base HO.out k q.symm; omega))⟩⟩
      ·exact (q4.block _ (lt_of_block HX.out) (fun q => by rcases q with q | q; omega; have := own_base HO.out _ q.symm; omega)).trans HX.out
      ·have e1 : x.f3.take (j + 1) = x.f3.take j ++ [kk] := by
        rw [List.take_succ_eq_append_getElem (by omega), ← HKK.out, List.getD_eq_getElem?_getD, List.getElem?_eq_getElem (by omega)]; rfl
       have e2 : (x.f4.take (j + 1)).map (toY d) = (x.f4.take j).map (toY d) ++ [toY d yy] := by
        rw [List.take_succ_eq_append_getElem (by omega), List.map_append, ← HYY.out, List.getD_eq_getElem?_getD, List.getElem?_eq_getElem (by omega)]; rfl
       rw [e1, e2, kv_snoc _ _ _ _ (by simp; omega)]
       exact q3
   ·have hje : j = x.f3.length := by have := HJ.out; omega
    go_wp2
    go_ret
    refine ⟨w.heap.size + 1, rfl, ?_, HB.out⟩
    have hy := HY.out
    have hl' := HL.out
    rw [hje, List.take_length, hl', List.take_length] at hy
    have hlen' : 2 * j = bs.length := by have := HO.out.1; simp [ptrs] at this; omega
    have ho := HO.out
    rw [hlen'] at ho
    refine YN.close (by omega) HN.out (own_weaken ho (Nat.zero_le _)) (fun g hg => by have := own_base HO.out g hg; omega) (hy.mono (fun k q => ⟨by omega, by omega, q.2⟩))
 ·simp only [toY, h0]
  have HG4 := Aside0.mk g4
  have HS := Aside0.mk hS
  have IH := Aside0.mk ih
  clear hK g3 g4 hS ih h0
  obtain ⟨i0, hi0', hz0', hz1', hz2'⟩ := info_parts Tryz.infoYP
  have hi0 := Aside0.mk hi0'
  have hz0 := Aside0.mk hz0'
  have hz1 := Aside0.mk hz1'
  have hz2 := Aside0.mk hz2'
  clear hi0' hz0' hz1' hz2'
  go_enter Tryz.func35, Tryz.ntmps35
  go_wp2
  go_loopg [58] x.f4.length (fun k i wr => ∃ (j : Nat) (cv : Value) (bs : List Nat), i = .int .i64 j ∧ Aside0 (j ≤ x.f4.length ∧ k + j = x.f4.length) ∧ Aside0 (wr.heap[w.heap.size]? = some (.cells #[.int .i64 3, .string x.f1, .string x.f2, .slice A3 x.f3.length c3, .slice A4 x.f4.length c4] 25 (0, 0))) ∧
   Aside0 (NB wr (w.heap.size + 1) 2 ⟨#[]⟩ ⟨#[]⟩ cv) ∧ Aside0 (wr.ownsRow (w.heap.size + 2) 66 1 cv j (ptrs bs)) ∧
   Aside0 (YL wr (fun k => w.heap.size + 2 ≤ k ∧ some k ≠ cv.ownBlock) bs ((x.f4.take j).map (toY d))) ∧ Aside0 (Below w.heap.size w wr))
  case atStart =>
   refine ⟨0, .slice none 0 0, [], rfl, ⟨⟨Nat.zero_le _, by omega⟩⟩, ⟨?_⟩, ⟨?_⟩, ⟨own_nil _ _ _ _⟩, ⟨by simp [YL]⟩, ⟨((Below.refl _ _).alloc (Nat.le_refl _) _).alloc (by simp) _⟩⟩
   ·rw [heap_old _ (by simp)]; exact heap_at _ rfl
   ·exact heap_at _ (by simp)
  case round =>
   obtain ⟨j, cv, bs, rfl, HJ, HX, HN, HO, HY, HB⟩ := hrel
   by_cases hj : j < x.f4.length
   ·generalize hyy : x.f4.getD j z25 = yy
    obtain ⟨ad4, B3, b3, B4, b4, e4, hKy, f0', f1', f2', f3', f4'⟩ := nodeAt HG4.out j hj yy hyy
    cases e4
    have old : ∀ {a : Addr} {v : Value}, w.cell? a = some v → wr.cell? a = some v := fun {a v} h => (HB.out.cell (World.block_lt_of_cell? w a h)).trans h
    have f0 := old f0'
    have f1 := old f1'
    have f2 := old f2'
    have f3 := old f3'
    have f4 := old f4'
    have HYY := Aside0.mk hyy
    have HKY := Aside0.mk hKy
    clear hyy hKy f0' f1' f2' f3' f4' old
    go_wp2
    have HSY := Aside0.mk (HS.out yy (by rw [← HYY.out, List.getD_eq_getElem?_getD, List.getElem?_eq_getElem hj]; exact List.getElem_mem _))
    obtain ⟨ws, n8, es, qs, hcs, hbs, hks, hss⟩ := alloc_step (Chg.refl (fun _ => False) wr) (.cells #[.int .i64 yy.f0, .string yy.f1, .string yy.f2, .slice B3 yy.f3.length b3, .slice B4 yy.f4.length b4] 25)
    have HCS := Aside0.mk hcs
    have HNS := Aside0.mk (HN.out.below hbs)
    have HK : Aside0 (∀ w', Chg (fun _ => False) ws w' → w'.cell? ⟨w.heap.size + 1, 6, none⟩ = some cv ∧ w'.cell? ⟨n8, 0, none⟩ = some (.int .i64 yy.f0) ∧ w'.cell? ⟨n8, 1, none⟩ = some (.string yy.f1) ∧ w'.cell? ⟨n8, 2, none⟩ = some (.string yy.f2) ∧
     w'.cell? ⟨n8, 3, none⟩ = some (.slice B3 yy.f3.length b3) ∧ w'.cell? ⟨n8, 4, none⟩ = some (.slice B4 yy.f4.length b4)) := by
     refine ⟨fun w' hc => ?_⟩
     refine ⟨hc.cell_of HNS.out.content (fun q => q), hc.cell_of (by rw [cell_of_block hks]; rfl) (fun q => q), hc.cell_of (by rw [cell_of_block hks]; rfl) (fun q => q), hc.cell_of (by rw [cell_of_block hks]; rfl) (fun q => q), hc.cell_of (by rw [cell_of_block hks]; rfl) (fun q => q), hc.cell_of (by rw [cell_of_block hks]; rfl) (fun q => q)⟩
    have HKW : Aside0 (∀ w', Chg (fun _ => False) ws w' → k25.K w' yy [.int .i64 yy.f0, .string yy.f1, .string yy.f2, .slice B3 yy.f3.length b3, .slice B4 yy.f4.length b4]) :=
     ⟨fun w' hc => k25.K_below (HB.out.trans ((HCS.out.trans hc (fun _ (q : False) => q.elim)).below HB.out.size (fun _ q => q.elim))) HKY.out⟩
    clear f0 f1 f2 f3 f4 hks hbs hcs
    rw [qs]
    rw [show wr.alloc _ = ws from es]
    refine start_ (n := 12) (S := fun w' => w'.cell? ⟨w.heap.size + 1, 6, none⟩ = some cv ∧ w'.cell? ⟨n8, 0, none⟩ = some (.int .i64 yy.f0) ∧ w'.cell? ⟨n8, 1, none⟩ = some (.string yy.f1) ∧ w'.cell? ⟨n8, 2, none⟩ = some (.string yy.f2) ∧ w'.cell? ⟨n8, 3, none⟩ = some (.slice B3 yy.f3.length b3) ∧ w'.cell? ⟨n8, 4, none⟩ = some (.slice B4 yy.f4.length b4)) (ds := [8, 11]) #[false, false, false, false, false, false, false, false, false, false, false, false] (by kernel_rfl) rfl rfl (HK.out _ ((Chg.refl _ _).drew)) (fun hHeld => ?_)
    refine with_tabW (T := treeOf17.T) (B := treeOf17.B) treeOf17.tab treeOf17.bits (fun HT_ HW_ => ?_)
    have HC := Aside0.mk ((Chg.refl (fun _ => False) ws).drew)
    generalize ws.drew = wc at HC hHeld ⊢
    refine ps_ 0 62 HT_ ?_
    refine ps_ 1 63 HT_ ?_
    refine ps_ 2 64 HT_ ?_
    refine ps_ 3 65 HT_ ?_
    refine ts_ 4 66 HT_ HW_ hHeld ?_
    refine ts_ 5 67 HT_ HW_ hHeld ?_
    refine one_ (i := 6) (N := (some 68)) #[true, true, true, true, true, true, true, false, false, false, false, false] rfl rfl (one_of HT_.out (by kernel_rfl)) (by decide) (fun K hK => ?_)
    refine goes_ Tryz.func35 (by kernel_rfl) rfl #[.agg #[.int .i64 yy.f0, .string yy.f1, .string yy.f2, .slice B3 yy.f3.length b3, .slice B4 yy.f4.length b4]] (by rfl) rfl rfl (by simp only [List.map_toArray, List.map_cons, List.map_nil]; rfl) ?_
    refine (IH.out yy _ _ (HKW.out _ HC.out) HSY.out).mono ?_
    rintro e w13 ⟨b, rfl, hy, hb13⟩
    refine ⟨_, rfl, ?_⟩
    obtain ⟨lo, hi, hlo, hhi, hle, hc13, HYB0⟩ := call_step HC.out hy hb13
    refine hK.out _ _ (HK.out _ hc13) (fun hHeld => ?_)
    have HYB := Aside0.mk HYB0
    have HS13 := Aside0.mk (And.intro hlo (And.intro hhi (And.intro hle HC.out.size)))
    clear HC hy hb13 hlo hhi hle HYB0
    have HC := Aside0.mk hc13
    clear hc13
    clear hK K
    refine ns_ ?_
    refine one_ (i := 7) (N := (some 69)) #[true, true, true, true, true, true, true, true, false, false, false, false] rfl rfl (one_of HT_.out (by kernel_rfl)) (by decide) (fun K hK => ?_)
    rw [if_pos (by rfl)]
    go_simp
    obtain ⟨w14, n14, e14, q14, hc14, hb14, hk14, hs14⟩ := alloc_step HC.out (.cells #[ptr b] 66)
    refine hK.out _ _ (HK.out _ (HC.out.alloc _)) (fun _ => ?_)
    refine world_ (w' := w14) e14 ?_
    rw [q14]
    have hHeld := HK.out _ hc14
    replace HYB := Aside0.mk (HYB.out.below hb14)
    have HK14 := Aside0.mk hk14
    have HS14 := Aside0.mk (And.intro q14 (And.intro hs14 HC.out.size))
    have HCR := Aside0.mk (HCS.out.trans hc14 (fun _ (q : False) => q.elim))
    clear HC hk14 hs14 hb14 e14 q14
    have HC := Aside0.mk hc14
    clear hc14
    clear hK K
    refine ns_ ?_
    refine last_ (i := 8) (N := (some 70)) #[true, true, true, true, true, true, true, true, true, false, false, false] rfl rfl (one_of HT_.out (by kernel_rfl)) (by decide) (fun K hK => ?_)
    rw [if_pos (by rfl)]
    have HO14 : w14.ownsRow (w.heap.size + 2) 66 1 cv j (ptrs bs) := own_move HO.out (fun k hk => HCR.out.block k (own_lt HO.out k hk) (fun q => q))
    refine wp_append_lies w14 (.tmp 66) (.tmp 69) 80 rfl (w.heap.size + 2) 66 i0 (.pointer none) 1 8 Tryz.underlying80 hi0.out hz0.out hz1.out hz2.out rfl (by decide) cv j (ptrs bs) (by rfl) HO14 ⟨n14, 0, none⟩ 1 1 [ptr b] (by rfl) rfl (World.news_of_block (cs := #[ptr b]) (fr := (0, 0)) HK14.out) (by simp [Value.oneCell']) (by omega) (by unfold maxLen; have := HJ.out; omega) (by have := HJ.out; omega) (by have := HCR.out.size; have := HN.out.lt; omega) _ rfl ?_
    intro g cap w15 hown hgrow hat hlt
    have HG := Aside0.mk (And.intro hown (And.intro hgrow hat))
    refine hK.out _ _ ?_
    clear hown hgrow hat hlt HO14
    clear hK K
    refine ns_ ?_
    refine ps_ 9 71 HT_ ?_
    refine ps_ 10 72 HT_ ?_
    refine last_ (i := 11) (N := none) #[true, true, true, true, true, true, true, true, true, true, true, true] rfl rfl (one_of HT_.out (by kernel_rfl)) (by decide) (fun K hK => ?_)
    have hn15 : NB w15 (w.heap.size + 1) 2 ⟨#[]⟩ ⟨#[]⟩ cv := by
     have h1 := HN.out.lt
     exact (HG.out.2.1.block _ (Nat.lt_of_lt_of_le h1 HCR.out.size) (fun e => by have := own_base HO.out _ e.symm; omega)).trans ((HCR.out.block _ h1 (fun q => q)).trans HN.out)
    have hcell : w15.cell? ⟨w.heap.size + 1, 6, none⟩ = some cv := hn15.content
    have hfr : w15.frozen? ⟨w.heap.size + 1, 6, none⟩ = false := frozen_of_block hn15
    clear hn15
    rw [if_pos (by rfl)]
    go_simp
    refine hK.out _ _ ?_
    clear hK K
    refine ns_ ?_
    refine done_ (done_of HT_.out (by kernel_rfl)) ?_
    go_wp2
    go_roundg (gk - 1)
    case measure => have := HJ.out; omega
    case rel =>
     have hj' := HJ.out
     obtain ⟨hown, hgrow, hat⟩ := HG.out
     have hs13 := HS13.out
     have hs0 := HCS.out.size
     obtain ⟨q1, q2, q3, q4⟩ := grow_step HN.out (by omega) HO.out HY.out HCR.out (YL.one HYB.out) (fun k q => by omega) (by have := HN.out.lt; omega) hown hgrow hat
     refine ⟨j + 1, _, bs ++ [b], by go_num, ⟨by omega⟩, ⟨?_⟩, ⟨q1⟩, ⟨q2⟩, ⟨?_⟩, ⟨HB.out.trans (q4.below HB.out.size (fun k q => by rcases q with q | q; omega; have := own_base HO.out k q.symm; omega))⟩⟩
     ·exact (q4.block _ (lt_of_block HX.out) (fun q => by rcases q with q | q; omega; have := own_base HO.out _ q.symm; omega)).trans HX.out
     ·have e2 : (x.f4.take (j + 1)).map (toY d) = (x.f4.take j).map (toY d) ++ [toY d yy] := by
       rw [List.take_succ_eq_append_getElem (by omega), List.map_append, ← HYY.out, List.getD_eq_getElem?_getD, List.getElem?_eq_getElem (by omega)]; rfl
      rw [e2]
      exact q3
   ·have hje : j = x.f4.length := by have := HJ.out; omega
    go_wp2
    go_ret
    refine ⟨w.heap.size + 1, rfl, ?_, HB.out⟩
    have hy := HY.out
    rw [hje, List.take_length] at hy
    have hlen' : j = bs.length := by have := HO.out.1; simp [ptrs] at this; omega
    have ho := HO.out
    rw [hlen'] at ho
    refine YN.close (by omega) HN.out (own_weaken ho (Nat.zero_le _)) (fun g hg => by have := own_base HO.out g hg; omega) (hy.mono (fun k q => ⟨by omega, by omega, q.2⟩))
end Go.Proofs.YtkpdkoafngjflaaGreat
