import Derived.Test.YtkpdkoafngjflaaGreatGuard
import Derived.Test.YtkpdkoafngjflaaGreatPFnFieldsx4
namespace Go.Proofs.YtkpdkoafngjflaaGreat
open Go.RowKit Go.Proofs.YtkpdkoafngjflaaGreatW.PrintWords Go.Proofs.YtkpdkoafngjflaaGreatW.PrintLast Go.Proofs.YtkpdkoafngjflaaGreat.PFnFields
set_option linter.unusedVariables false
set_option linter.unusedSimpArgs false
def Tree (x : S25) : Prop := Wf 6 x ∧ nodes 6 x ≤ 60
def TreePost (w : World) (x : S25) (P : Prop) (e : Ending) (w' : World) : Prop :=
 ∃ r, e = .returned (.bool r) ∧ Below w.heap.size w w' ∧ (r = true → P)
set_option maxRecDepth 100000 in
theorem isTree_calls (x : S25) (w : World) (A3 : Option Addr) (c3 : Nat) (A4 : Option Addr) (c4 : Nat)
  (hK : k25.K w x [.int .i64 x.f0, .string x.f1, .string x.f2, .slice A3 x.f3.length c3, .slice A4 x.f4.length c4]) (hz : Sz x) :
  Calls Tryz.prog 11 #[.agg #[.int .i64 x.f0, .string x.f1, .string x.f2, .slice A3 x.f3.length c3, .slice A4 x.f4.length c4]] w (TreePost w x (Tree x)) := by
 have hu := Tryz.underlying25
 have HK := Aside0.mk hK
 have HZ := Aside0.mk hz
 clear hK hz
 go_enter Tryz.func11, Tryz.ntmps11
 go_wp2_with fail
 have e2 : ∃ w1, w1 = ((w.alloc (.cells #[.int .i64 x.f0, .string x.f1, .string x.f2, .slice A3 x.f3.length c3, .slice A4 x.f4.length c4] 25)).alloc (.cells #[.int .i64 0] 3)) := ⟨_, rfl⟩
 refine (count_calls w 6 x 1 0 (w.heap.size + 1) _ A3 c3 A4 c4 HK.out HZ.out (by omega) (by omega) (by omega) (by omega) (by omega) (((Below.refl w.heap.size w).alloc (Nat.le_refl _) _).alloc (by simp) _) (heap_at _ (by simp))).mono ?_
 rintro e w1 ⟨r, nv, rfl, h1, h2, h3⟩
 have HR := Aside0.mk (And.intro h2 h3)
 clear h1 h2 h3
 go_wp2
 go_ret
 refine ⟨r, rfl, ((((Below.refl w.heap.size w).alloc (Nat.le_refl _) _).alloc (by simp) _)).trans (HR.out.1.below (by simp; omega) (fun k e => by omega)), fun h => ?_⟩
 obtain ⟨q1, q2, q3⟩ := HR.out.2 h
 exact ⟨q1, by omega⟩
set_option maxRecDepth 100000 in
theorem isMap_calls (x : S25) (w : World) (A3 : Option Addr) (c3 : Nat) (A4 : Option Addr) (c4 : Nat)
  (hK : k25.K w x [.int .i64 x.f0, .string x.f1, .string x.f2, .slice A3 x.f3.length c3, .slice A4 x.f4.length c4]) (hz : Sz x) :
  Calls Tryz.prog 5 #[.agg #[.int .i64 x.f0, .string x.f1, .string x.f2, .slice A3 x.f3.length c3, .slice A4 x.f4.length c4]] w (TreePost w x (x.f0 = 2 ∧ Tree x)) := by
 have hu := Tryz.underlying25
 have HK := Aside0.mk hK
 have HZ := Aside0.mk hz
 clear hK hz
 by_cases k2 : x.f0 = 2
 ·have K2 := Aside0.mk k2
  rw [k2]
  clear k2
  go_enter Tryz.func5, Tryz.ntmps5
  go_wp2_with fail
  have hh := fun w0 (hb0 : Below w.heap.size w w0) => isTree_calls x w0 A3 c3 A4 c4 (k25.K_below hb0 HK.out) HZ.out
  rw [K2.out] at hh
  refine (hh _ ((Below.refl w.heap.size w).alloc (Nat.le_refl _) _)).mono ?_
  rintro e w1 ⟨r, rfl, h2, h3⟩
  have HR := Aside0.mk (And.intro h2 h3)
  clear h2 h3 hh
  go_wp2
  go_ret
  exact ⟨r, rfl, ((Below.refl w.heap.size w).alloc (Nat.le_refl _) _).trans (HR.out.1.mono (by simp)), fun h => ⟨trivial, HR.out.2 h⟩⟩
 have k2' : (x.f0 == 2) = false := by simpa using k2
 clear k2
 go_enter Tryz.func5, Tryz.ntmps5
 go_wp2
 go_ret
 exact ⟨false, rfl, (Below.refl w.heap.size w).alloc (Nat.le_refl _) _, fun h => by cases h⟩
theorem fits2_l0 (l : List ByteArray) (hn : l.length ≤ 9223372036854775807) (d : Nat) : ∀ (k : Nat) (i : Nat), i ≤ l.length → l.length - i = d → d < k →
  ∃ r, laws_zzFits2.l0 k l (l.length : Int) (i : Int) = some r := by
 induction d with
 |zero =>
  intro k i h1 hd hk
  obtain ⟨k, rfl⟩ : ∃ m, k = m + 1 := ⟨k - 1, by omega⟩
  simp only [laws_zzFits2.l0]
  rw [if_neg (by omega)]
  exact ⟨_, rfl⟩
 |succ d ih =>
  intro k i h1 hd hk
  obtain ⟨k, rfl⟩ : ∃ m, k = m + 1 := ⟨k - 1, by omega⟩
  simp only [laws_zzFits2.l0]
  rw [if_pos (by omega), if_pos (by omega), if_pos (by omega), wrap_succ (n := l.length) (by omega) (by omega) hn]
  have hr := ih k (i + 1) (by omega) (by omega) (by omega)
  rw [show ((i + 1 : Nat) : Int) = (i : Int) + 1 by omega] at hr
  split
  ·exact ⟨_, rfl⟩
  ·exact hr
theorem fits2_f (l : List ByteArray) (hn : l.length ≤ 9223372036854775807) : ∃ r, laws_zzFits2.f (l.length + 1) l = some r := by
 unfold laws_zzFits2.f
 split
 ·exact ⟨_, rfl⟩
 ·exact fits2_l0 l hn l.length (l.length + 1) 0 (by omega) (by omega) (by omega)
theorem fits1_calls (x : S25) (w : World) (A3 : Option Addr) (c3 : Nat) (A4 : Option Addr) (c4 : Nat)
  (hK : k25.K w x [.int .i64 x.f0, .string x.f1, .string x.f2, .slice A3 x.f3.length c3, .slice A4 x.f4.length c4]) :
  Calls Tryz.prog 4 #[.agg #[.int .i64 x.f0, .string x.f1, .string x.f2, .slice A3 x.f3.length c3, .slice A4 x.f4.length c4]] w (TreePost w x True) := by
 obtain ⟨B3, d3, B4, d4, he, l3, g3, l4, g4⟩ := k25_open hK
 simp only [List.cons.injEq, Value.slice.injEq, true_and, and_true] at he
 obtain ⟨⟨rfl, rfl⟩, rfl, rfl⟩ := he
 have key : ∃ r, laws_zzFits1.f (x.f3.length + 1) x.f0 x.f1 x.f2 x.f3 x.f4 = some r := by
  unfold laws_zzFits1.f
  split
  ·exact ⟨_, rfl⟩
  split
  ·exact ⟨_, rfl⟩
  obtain ⟨r, hr⟩ := fits2_f x.f3 g3.2.1
  rw [hr]
  simp only [Option.bind_some]
  split
  ·split <;> exact ⟨_, rfl⟩
  ·exact ⟨_, rfl⟩
 obtain ⟨r, hr⟩ := key
 exact (laws_zzFits1.calls (x.f3.length + 1) x.f0 x.f1 x.f2 A3 c3 x.f3 A4 c4 x.f4 r w g3 l3 g4 l4 hr).mono fun e w' ⟨he, hb⟩ => ⟨r, he, hb, fun _ => trivial⟩
theorem index_l0 (l : List ByteArray) (a : ByteArray) (ha : a ∉ l) (hn : l.length ≤ 9223372036854775807) (d : Nat) : ∀ (k : Nat) (i : Nat), i ≤ l.length → l.length - i = d → d < k →
  slices_Index_string_string.l0 k l a (l.length : Int) (i : Int) = some (-1) := by
 induction d with
 |zero =>
  intro k i h1 hd hk
  obtain ⟨k, rfl⟩ : ∃ m, k = m + 1 := ⟨k - 1, by omega⟩
  simp only [slices_Index_string_string.l0]
  rw [if_neg (by omega)]
 |succ d ih =>
  intro k i h1 hd hk
  obtain ⟨k, rfl⟩ : ∃ m, k = m + 1 := ⟨k - 1, by omega⟩
  have hlt : i < l.length := by omega
  have hrd : rdOf ByteArray.empty l (i : Int) = l[i] := by
   unfold rdOf
   rw [Int.toNat_natCast, List.getD_eq_getElem?_getD, List.getElem?_eq_getElem hlt]; rfl
  simp only [slices_Index_string_string.l0]
  have hr := ih k (i + 1) (by omega) (by omega) (by omega)
  rw [show ((i + 1 : Nat) : Int) = (i : Int) + 1 by omega] at hr
  rw [if_pos (by omega), if_pos (by omega), if_pos (by omega), hrd, wrap_succ (n := l.length) (by omega) (by omega) hn, if_neg, hr]
  exact fun h => ha (by rw [bytes_ext h]; exact List.getElem_mem _)
theorem contains_calls (w : World) (A : Option Addr) (n c : Nat) (l : List ByteArray) (a : ByteArray) (hn : l.length = n) (hC : Kd.string.C w A l.length l) (hc : l.length ≤ c) (ha : a ∉ l) :
  Calls Tryz.prog 49 #[.slice A n c, .string a] w fun e w' => e = .returned (.bool false) ∧ Drawn0 w w' := by
 subst hn
 refine slices_Contains_string_string.calls (l.length + 1) A c l a false w hC hc ?_
 unfold slices_Contains_string_string.f slices_Index_string_string.f
 rw [show (0 : Int) = ((0 : Nat) : Int) from rfl, index_l0 l a ha hC.2.1 l.length (l.length + 1) 0 (by omega) (by omega) (by omega)]
 rfl
theorem sum_take_le (l : List Nat) : ∀ n, (l.take n).sum ≤ l.sum := by
 induction l with
 | nil => intro n; simp
 |cons a l ih =>
  intro n
  cases n with
  | zero => simp
  | succ n => simp only [List.take_succ_cons, List.sum_cons]; have := ih n; omega
theorem le_sum_of_mem {l : List Nat} {a : Nat} (h : a ∈ l) : a ≤ l.sum := by
 induction l with
 | nil => cases h
 |cons b l ih =>
  rcases List.mem_cons.1 h with rfl | h
  ·simp
  ·simp only [List.sum_cons]; have := ih h; omega
set_option maxRecDepth 100000 in
set_option maxHeartbeats 3200000 in
theorem icount_calls (d : Nat) : ∀ (x : S25) (dp : Int) (w : World) (A3 : Option Addr) (c3 : Nat) (A4 : Option Addr) (c4 : Nat),
  k25.K w x [.int .i64 x.f0, .string x.f1, .string x.f2, .slice A3 x.f3.length c3, .slice A4 x.f4.length c4] → Wf d x → nodes d x ≤ 60 → 0 ≤ dp → dp + d ≤ 13 →
  Calls Tryz.prog 38 #[.agg #[.int .i64 x.f0, .string x.f1, .string x.f2, .slice A3 x.f3.length c3, .slice A4 x.f4.length c4], .int .i64 dp] w fun e w' => e = .returned (.int .i64 (nodes d x)) ∧ Below w.heap.size w w' := by
 induction d with
 | zero => intro x dp w A3 c3 A4 c4 hK hw; exact hw.elim
 |succ d ih =>
  intro x dp w A3 c3 A4 c4 hK hw hn h0 hd
  have hu := Tryz.underlying25
  obtain ⟨W, eW⟩ : ∃ W, W = w := ⟨_, rfl⟩
  have HK : Aside0 (k25.K W x [.int .i64 x.f0, .string x.f1, .string x.f2, .slice A3 x.f3.length c3, .slice A4 x.f4.length c4]) := ⟨by rw [eW]; exact hK⟩
  have HB : Aside0 (Below W.heap.size W w) := ⟨by rw [eW]; exact Below.refl _ _⟩
  have hdp : dp ≤ 12 := by omega
  have hdb : decide (12 < dp) = false := by simp; omega
  have HD := Aside0.mk hd
  have HN := Aside0.mk hn
  have IH := Aside0.mk ih
  clear hd hK hn ih eW
  rcases hw with ⟨h1, h3, h4, hsc⟩ | ⟨ht, hg, hne, hall, ⟨h2, hlen, hks, hnd⟩ | ⟨h2, h3⟩⟩
  ·have HSC := Aside0.mk hsc
   have n3 : x.f3.length = 0 := by rw [h3]; rfl
   have n4 : x.f4.length = 0 := by rw [h4]; rfl
   have H4 := Aside0.mk h4
   rw [h1, n3, n4]
   clear h1 h3 h4 n3 n4 hsc
   go_enter Tryz.func38, Tryz.ntmps38
   go_wp2_with fail
   have hp : ∀ w0, Calls Tryz.prog 47 #[.string x.f1] w0 fun e w' => e = .returned (.bool true) ∧ Drawn0 w0 w' := fun w0 => by
    rcases HSC.out with h | h
    ·exact plain_calls x.f1 w0 h.2
    ·exact plainNum_calls x.f1 w0 h.2
   refine (hp _).mono ?_
   rintro e w1 ⟨rfl, ⟨⟨n1, rfl⟩⟩⟩
   clear hp
   go_wp2_with fail
   refine (typed_calls x.f1 x.f2 _ HSC.out).mono ?_
   rintro e w1 ⟨rfl, ⟨⟨n2, rfl⟩⟩⟩
   go_wp2
   go_ret
   refine ⟨?_, pw_below_drewN ((Below.refl w.heap.size w).alloc (Nat.le_refl _) _) _⟩
   simp [nodes, H4.out]
  ·have e1 : x.f1.toList = [] := by rw [ht, ByteArray.toList_eq]
   have e2 : x.f2.toList = [] := by rw [hg, ByteArray.toList_eq]
   have hle : (x.f3.length : Int) = (x.f4.length : Int) := by omega
   have HL := Aside0.mk hlen
   have HKS := Aside0.mk (And.intro hks hnd)
   rw [h2]
   clear h2 hlen hks hnd ht hg hne
   go_enter Tryz.func38, Tryz.ntmps38
   go_wp2_with fail
   have HX0 : Aside0 ((w.alloc (.cells #[.int .i64 2, .string x.f1, .string x.f2, .slice A3 x.f3.length c3, .slice A4 x.f4.length c4] 25)).heap[w.heap.size]? = some (.cells #[.int .i64 2, .string x.f1, .string x.f2, .slice A3 x.f3.length c3, .slice A4 x.f4.length c4] 25 (0, 0))) := ⟨heap_at _ rfl⟩
   go_loopg [61] x.f3.length (fun k i wr => ∃ j : Nat, i = .int .i64 j ∧ Aside0 (j ≤ x.f3.length ∧ k + j = x.f3.length) ∧
    Aside0 (wr.heap[w.heap.size]? = some (.cells #[.int .i64 2, .string x.f1, .string x.f2, .slice A3 x.f3.length c3, .slice A4 x.f4.length c4] 25 (0, 0))) ∧ Aside0 (Below w.heap.size w wr))
   case atStart => exact ⟨0, rfl, ⟨by omega⟩, HX0, ⟨(Below.refl w.heap.size w).alloc (Nat.le_refl _) _⟩⟩
   case round =>
    clear HX0
    obtain ⟨j, rfl, HJ, HXB, HBB⟩ := hrel
    by_cases hj : j < x.f3.length
    ·obtain ⟨g3, hg3⟩ : ∃ q : Kd.string.C W A3 x.f3.length x.f3, x.f3.length ≤ c3 := by
      obtain ⟨B3, d3, B4, d4, he, l3, g3, l4, g4⟩ := k25_open HK.out
      simp only [List.cons.injEq, Value.slice.injEq, true_and, and_true] at he
      obtain ⟨⟨rfl, rfl⟩, rfl, rfl⟩ := he
      exact ⟨g3, l3⟩
     generalize hkk : x.f3.getD j ByteArray.empty = kk
     obtain ⟨ad3, ea, hs3⟩ := strAt g3 j hj
     rw [hkk] at hs3
     subst ea
     have HG3 := Aside0.mk g3
     have HKK : Aside0 (kk = x.f3[j]) := ⟨by rw [← hkk, List.getD_eq_getElem?_getD, List.getElem?_eq_getElem hj]; rfl⟩
     have hbw : Below W.heap.size W wr := HB.out.trans (HBB.out.mono HB.out.size)
     have HBW := Aside0.mk hbw
     have hs3' := (hbw.cell (World.block_lt_of_cell? W _ hs3)).trans hs3
     have cx3 := (cell_of_block (i := 3) HXB.out).trans (show _ = some _ from rfl)
     have hjm : x.f3.length ≤ 9223372036854775807 := g3.2.1
     clear g3 hkk hs3 hbw
     have hwd : Word kk := HKS.out.1 kk (by rw [HKK.out]; exact List.getElem_mem _)
     have hjc : j ≤ c3 := by omega
     have hj4 : ¬ (x.f4.length : Int) ≤ (j : Int) := by have := HL.out; omega
     go_wp2_with fail
     refine (plain_calls kk _ hwd).mono ?_
     rintro e w1 ⟨rfl, ⟨⟨n1, rfl⟩⟩⟩
     go_wp2_with fail
     refine (contains_calls _ (some ad3) j c3 (x.f3.take j) kk (by simp; omega) (Kd.C_take (Kd.C_below HG3.out (pw_below_drewN HBW.out n1)) (by omega)) (by simp; omega) ?_).mono ?_
     ·rw [HKK.out]
      exact fun hm => by
       have := HKS.out.2
       obtain ⟨i, hi, he⟩ := List.getElem_of_mem hm
       simp only [List.length_take] at hi
       rw [List.getElem_take] at he
       exact (List.pairwise_iff_getElem.1 this i j (by omega) hj (by omega)) he
     rintro e w1 ⟨rfl, ⟨⟨n2, rfl⟩⟩⟩
     go_wp2_with fail
     go_roundg (gk - 1)
     case measure => have := HJ.out; omega
     case rel => exact ⟨j + 1, by go_num, ⟨by have := HJ.out; omega⟩, ⟨HXB.out⟩, ⟨pw_below_drewN HBB.out _⟩⟩
    ·have cx4 := (cell_of_block (i := 4) HXB.out).trans (show _ = some _ from rfl)
     have hj4 : (x.f4.length : Int) ≤ (j : Int) := by have := HL.out; omega
     have hj5 : decide ((j : Int) < (x.f4.length : Int)) = false := by simp; omega
     have hj6 : decide (j < x.f4.length) = false := by simp; omega
     go_wp2_with fail
     obtain ⟨g4, hg4⟩ : ∃ q : k25.C W A4 x.f4.length x.f4, True := by
      obtain ⟨B3, d3, B4, d4, he, l3, g3, l4, g4⟩ := k25_open HK.out
      simp only [List.cons.injEq, Value.slice.injEq, true_and, and_true] at he
      obtain ⟨⟨rfl, rfl⟩, rfl, rfl⟩ := he
      exact ⟨g4, trivial⟩
     have hm4 : x.f4.length ≤ 9223372036854775807 := g4.2.1
     have HG4 := Aside0.mk g4
     clear g4 hg4
     go_loopg [5, 97] x.f4.length (fun k n i wr => ∃ q : Nat, n = .int .i64 (1 + (((x.f4.take q).map (nodes d)).sum : Nat)) ∧ i = .int .i64 q ∧ Aside0 (q ≤ x.f4.length ∧ k + q = x.f4.length) ∧
      Aside0 (wr.heap[w.heap.size]? = some (.cells #[.int .i64 2, .string x.f1, .string x.f2, .slice A3 x.f3.length c3, .slice A4 x.f4.length c4] 25 (0, 0))) ∧ Aside0 (Below w.heap.size w wr))
     case atStart => exact ⟨0, by simp, rfl, ⟨by omega⟩, HXB, HBB⟩
     case round =>
      clear HXB HBB
      obtain ⟨q, rfl, rfl, HJ, HXB, HBB⟩ := hrel
      have hbw : Below W.heap.size W wr := HB.out.trans (HBB.out.mono HB.out.size)
      have HBW := Aside0.mk hbw
      clear hbw
      by_cases hj : q < x.f4.length
      ·generalize hyy : x.f4.getD q z25 = yy
       obtain ⟨ad4, B3, b3, B4, b4, e4, hKy, f0', f1', f2', f3', f4'⟩ := nodeAt HG4.out q hj yy hyy
       subst e4
       have f0 := (HBW.out.cell (World.block_lt_of_cell? W _ f0')).trans f0'
       have f1 := (HBW.out.cell (World.block_lt_of_cell? W _ f1')).trans f1'
       have f2 := (HBW.out.cell (World.block_lt_of_cell? W _ f2')).trans f2'
       have f3 := (HBW.out.cell (World.block_lt_of_cell? W _ f3')).trans f3'
       have f4 := (HBW.out.cell (World.block_lt_of_cell? W _ f4')).trans f4'
       have HYY := Aside0.mk hyy
       have HKY := Aside0.mk hKy
       clear hyy hKy f0' f1' f2' f3' f4'
       have hym : yy ∈ x.f4 := by rw [← HYY.out, List.getD_eq_getElem?_getD, List.getElem?_eq_getElem hj]; exact List.getElem_mem _
       have e2 : x.f4.take (q + 1) = x.f4.take q ++ [yy] := by
        rw [List.take_succ_eq_append_getElem hj, ← HYY.out, List.getD_eq_getElem?_getD, List.getElem?_eq_getElem hj]; rfl
       have e3 : (((x.f4.take (q + 1)).map (nodes d)).sum) = ((x.f4.take q).map (nodes d)).sum + nodes d yy := by
        rw [e2, List.map_append, List.sum_append]; simp only [List.map_cons, List.map_nil, List.sum_cons, List.sum_nil]; omega
       have e4 := sum_take_le (x.f4.map (nodes d)) (q + 1)
       rw [← List.map_take, e3] at e4
       have hN := HN.out
       simp only [nodes] at hN
       have hE := Aside0.mk (And.intro hym (And.intro e3 (And.intro e4 hN)))
       generalize hsum : ((x.f4.take q).map (nodes d)).sum = nq at e3 e4
       have HSUM := Aside0.mk hsum
       have hq60 : (nq : Int) ≤ 60 := by omega
       have hq61 : ((1 : Int) + nq) + (nodes d yy) ≤ 60 := by omega
       have hqb : decide (200 < ((1 : Int) + nq) + (nodes d yy : Nat)) = false := by simp; omega
       have hqp : 0 ≤ ((1 : Int) + nq) + (nodes d yy) := by omega
       have hqw : wrap64 (((1 : Int) + nq) + (nodes d yy : Nat)) = ((1 : Int) + nq) + (nodes d yy : Nat) := by unfold wrap64; omega
       clear hym e2 e3 e4 hN hsum
       go_wp2_with fail
       refine (IH.out yy (dp + 1) _ B3 b3 B4 b4 (k25.K_below (HBW.out.alloc HBW.out.size _) HKY.out) (hall yy hE.out.1) (by have := hE.out; omega) (by omega) (by have := HD.out; omega)).mono ?_
       rintro e w1 ⟨rfl, hb1⟩
       have hbb2 := (HBB.out.alloc HBB.out.size (.cells #[.int .i64 yy.f0, .string yy.f1, .string yy.f2, .slice B3 yy.f3.length b3, .slice B4 yy.f4.length b4] 25)).trans (hb1.mono (by have := HBB.out.size; simp; omega))
       have hx1 := ((hb1.block _ (lt_of_block ((heap_old (.cells #[.int .i64 yy.f0, .string yy.f1, .string yy.f2, .slice B3 yy.f3.length b3, .slice B4 yy.f4.length b4] 25) (lt_of_block HXB.out)).trans HXB.out))).trans (heap_old _ (lt_of_block HXB.out))).trans HXB.out
       have HB2 := Aside0.mk hbb2
       have HX2 := Aside0.mk hx1
       clear hbb2 hx1 hb1
       go_wp2_with fail
       go_roundg (gk - 1)
       case measure => have := HJ.out; omega
       case rel =>
        have h3 := hE.out.2.1
        have hs := HSUM.out
        refine ⟨q + 1, by rw [h3, hs]; congr 1; omega, by go_num, ⟨by have := HJ.out; omega⟩, HX2, HB2⟩
      ·have hje : q = x.f4.length := by have := HJ.out; omega
       generalize hsum : ((x.f4.take q).map (nodes d)).sum = nq
       have HSUM := Aside0.mk hsum
       have HJE := Aside0.mk hje
       clear hje hsum
       go_wp2_with fail
       go_ret
       refine ⟨?_, HBB.out⟩
       have hs := HSUM.out
       rw [HJE.out, List.take_length] at hs
       simp only [nodes]
       rw [hs]
       congr 2
  ·have e1 : x.f1.toList = [] := by rw [ht, ByteArray.toList_eq]
   have e2 : x.f2.toList = [] := by rw [hg, ByteArray.toList_eq]
   have n3 : x.f3.length = 0 := by rw [h3]; rfl
   rw [h2, n3]
   clear h2 n3 ht hg hne h3
   go_enter Tryz.func38, Tryz.ntmps38
   go_wp2_with fail
   have HXB : Aside0 ((w.alloc (.cells #[.int .i64 3, .string x.f1, .string x.f2, .slice A3 0 c3, .slice A4 x.f4.length c4] 25)).heap[w.heap.size]? = some (.cells #[.int .i64 3, .string x.f1, .string x.f2, .slice A3 0 c3, .slice A4 x.f4.length c4] 25 (0, 0))) := ⟨heap_at _ rfl⟩
   have HBB : Aside0 (Below w.heap.size w (w.alloc (.cells #[.int .i64 3, .string x.f1, .string x.f2, .slice A3 0 c3, .slice A4 x.f4.length c4] 25))) := ⟨(Below.refl w.heap.size w).alloc (Nat.le_refl _) _⟩
   obtain ⟨g4, hg4⟩ : ∃ q : k25.C W A4 x.f4.length x.f4, True := by
    obtain ⟨B3, d3, B4, d4, he, l3, g3, l4, g4⟩ := k25_open HK.out
    simp only [List.cons.injEq, Value.slice.injEq, true_and, and_true] at he
    obtain ⟨⟨rfl, rfl⟩, rfl, rfl⟩ := he
    exact ⟨g4, trivial⟩
   have hm4 : x.f4.length ≤ 9223372036854775807 := g4.2.1
   have HG4 := Aside0.mk g4
   clear g4 hg4
   go_loopg [5, 97] x.f4.length (fun k n i wr => ∃ q : Nat, n = .int .i64 (1 + (((x.f4.take q).map (nodes d)).sum : Nat)) ∧ i = .int .i64 q ∧ Aside0 (q ≤ x.f4.length ∧ k + q = x.f4.length) ∧
    Aside0 (wr.heap[w.heap.size]? = some (.cells #[.int .i64 3, .string x.f1, .string x.f2, .slice A3 0 c3, .slice A4 x.f4.length c4] 25 (0, 0))) ∧ Aside0 (Below w.heap.size w wr))
   case atStart => exact ⟨0, by simp, rfl, ⟨by omega⟩, HXB, HBB⟩
   case round =>
    clear HXB HBB
    obtain ⟨q, rfl, rfl, HJ, HXB, HBB⟩ := hrel
    have hbw : Below W.heap.size W wr := HB.out.trans (HBB.out.mono HB.out.size)
    have HBW := Aside0.mk hbw
    clear hbw
    by_cases hj : q < x.f4.length
    ·generalize hyy : x.f4.getD q z25 = yy
     obtain ⟨ad4, B3, b3, B4, b4, e4, hKy, f0', f1', f2', f3', f4'⟩ := nodeAt HG4.out q hj yy hyy
     subst e4
     have f0 := (HBW.out.cell (World.block_lt_of_cell? W _ f0')).trans f0'
     have f1 := (HBW.out.cell (World.block_lt_of_cell? W _ f1')).trans f1'
     have f2 := (HBW.out.cell (World.block_lt_of_cell? W _ f2')).trans f2'
     have f3 := (HBW.out.cell (World.block_lt_of_cell? W _ f3')).trans f3'
     have f4 := (HBW.out.cell (World.block_lt_of_cell? W _ f4')).trans f4'
     have HYY := Aside0.mk hyy
     have HKY := Aside0.mk hKy
     clear hyy hKy f0' f1' f2' f3' f4'
     have hym : yy ∈ x.f4 := by rw [← HYY.out, List.getD_eq_getElem?_getD, List.getElem?_eq_getElem hj]; exact List.getElem_mem _
     have e2 : x.f4.take (q + 1) = x.f4.take q ++ [yy] := by
      rw [List.take_succ_eq_append_getElem hj, ← HYY.out, List.getD_eq_getElem?_getD, List.getElem?_eq_getElem hj]; rfl
     have e3 : (((x.f4.take (q + 1)).map (nodes d)).sum) = ((x.f4.take q).map (nodes d)).sum + nodes d yy := by
      rw [e2, List.map_append, List.sum_append]; simp only [List.map_cons, List.map_nil, List.sum_cons, List.sum_nil]; omega
     have e4 := sum_take_le (x.f4.map (nodes d)) (q + 1)
     rw [← List.map_take, e3] at e4
     have hN := HN.out
     simp only [nodes] at hN
     have hE := Aside0.mk (And.intro hym (And.intro e3 (And.intro e4 hN)))
     generalize hsum : ((x.f4.take q).map (nodes d)).sum = nq at e3 e4
     have HSUM := Aside0.mk hsum
     have hq60 : (nq : Int) ≤ 60 := by omega
     have hq61 : ((1 : Int) + nq) + (nodes d yy) ≤ 60 := by omega
     have hqb : decide (200 < ((1 : Int) + nq) + (nodes d yy : Nat)) = false := by simp; omega
     have hqp : 0 ≤ ((1 : Int) + nq) + (nodes d yy) := by omega
     have hqw : wrap64 (((1 : Int) + nq) + (nodes d yy : Nat)) = ((1 : Int) + nq) + (nodes d yy : Nat) := by unfold wrap64; omega
     clear hym e2 e3 e4 hN hsum
     go_wp2_with fail
     refine (IH.out yy (dp + 1) _ B3 b3 B4 b4 (k25.K_below (HBW.out.alloc HBW.out.size _) HKY.out) (hall yy hE.out.1) (by have := hE.out; omega) (by omega) (by have := HD.out; omega)).mono ?_
     rintro e w1 ⟨rfl, hb1⟩
     have hbb2 := (HBB.out.alloc HBB.out.size (.cells #[.int .i64 yy.f0, .string yy.f1, .string yy.f2, .slice B3 yy.f3.length b3, .slice B4 yy.f4.length b4] 25)).trans (hb1.mono (by have := HBB.out.size; simp; omega))
     have hx1 := ((hb1.block _ (lt_of_block ((heap_old (.cells #[.int .i64 yy.f0, .string yy.f1, .string yy.f2, .slice B3 yy.f3.length b3, .slice B4 yy.f4.length b4] 25) (lt_of_block HXB.out)).trans HXB.out))).trans (heap_old _ (lt_of_block HXB.out))).trans HXB.out
     have HB2 := Aside0.mk hbb2
     have HX2 := Aside0.mk hx1
     clear hbb2 hx1 hb1
     go_wp2_with fail
     go_roundg (gk - 1)
     case measure => have := HJ.out; omega
     case rel =>
      have h3 := hE.out.2.1
      have hs := HSUM.out
      refine ⟨q + 1, by rw [h3, hs]; congr 1; omega, by go_num, ⟨by have := HJ.out; omega⟩, HX2, HB2⟩
    ·have hje : q = x.f4.length := by have := HJ.out; omega
     generalize hsum : ((x.f4.take q).map (nodes d)).sum = nq
     have HSUM := Aside0.mk hsum
     have HJE := Aside0.mk hje
     clear hje hsum
     go_wp2_with fail
     go_ret
     refine ⟨?_, HBB.out⟩
     have hs := HSUM.out
     rw [HJE.out, List.take_length] at hs
     simp only [nodes]
     rw [hs]
     congr 2
theorem right_calls (x : S25) (w : World) (A3 : Option Addr) (c3 : Nat) (A4 : Option Addr) (c4 : Nat)
  (hK : k25.K w x [.int .i64 x.f0, .string x.f1, .string x.f2, .slice A3 x.f3.length c3, .slice A4 x.f4.length c4]) (hx : Tree x) :
  Calls Tryz.prog 31 #[.agg #[.int .i64 x.f0, .string x.f1, .string x.f2, .slice A3 x.f3.length c3, .slice A4 x.f4.length c4]] w fun e w' => e = .returned (.bool true) ∧ Below w.heap.size w w' := by
 have hu := Tryz.underlying25
 have HK := Aside0.mk hK
 obtain ⟨n, hn⟩ : ∃ n, n = nodes 6 x := ⟨_, rfl⟩
 have hn60 : (n : Int) ≤ 60 := by have := hx.2; omega
 have hnb : decide ((n : Int) ≤ 200) = true := by simp; omega
 have HX := Aside0.mk (And.intro hx hn)
 clear hK hx hn
 go_enter Tryz.func31, Tryz.ntmps31
 go_wp2_with fail
 refine (icount_calls 6 x 1 _ A3 c3 A4 c4 (k25.K_below ((Below.refl w.heap.size w).alloc (Nat.le_refl _) _) HK.out) HX.out.1.1 HX.out.1.2 (by omega) (by omega)).mono ?_
 rintro e w1 ⟨rfl, hb1⟩
 have HB1 := Aside0.mk hb1
 clear hb1
 rw [← HX.out.2]
 go_wp2
 go_ret
 exact ⟨rfl, ((Below.refl w.heap.size w).alloc (Nat.le_refl _) _).trans (HB1.out.mono (by simp))⟩
theorem nodes_pos {d : Nat} {x : S25} (h : Wf d x) : 1 ≤ nodes d x := by
 cases d with
 | zero => exact h.elim
 | succ d => simp only [nodes]; omega
theorem length_le_sum {α : Type} (f : α → Nat) : ∀ (l : List α), (∀ y ∈ l, 1 ≤ f y) → l.length ≤ (l.map f).sum
 | [], _ => by simp
 |a :: l, h => by
  simp only [List.length_cons, List.map_cons, List.sum_cons]
  have h1 := h a (by simp)
  have h2 := length_le_sum f l (fun y hy => h y (by simp [hy]))
  omega
theorem Wf.items {d : Nat} {x : S25} (h : Wf (d + 1) x) : ∀ y ∈ x.f4, Wf d y := by
 rcases h with ⟨_, _, h4, _⟩ | ⟨_, _, _, h, _⟩
 ·rw [h4]; intro y hy; cases hy
 ·exact h
theorem Wf.len {d : Nat} {x : S25} (h : Wf (d + 1) x) : x.f4.length + 1 ≤ nodes (d + 1) x := by
 have := length_le_sum (nodes d) x.f4 (fun y hy => nodes_pos (h.items y hy))
 simp only [nodes]
 omega
theorem nodes_item {d : Nat} {x y : S25} (h : y ∈ x.f4) : nodes d y < nodes (d + 1) x := by
 simp only [nodes]
 have := le_sum_of_mem (List.mem_map_of_mem (f := nodes d) h)
 omega
theorem Wf.klen {d : Nat} {x : S25} (h : Wf (d + 1) x) : x.f3.length ≤ x.f4.length := by
 rcases h with ⟨_, h3, h4, _⟩ | ⟨_, _, _, h, ⟨_, hl, _⟩ | ⟨_, h3⟩⟩
 ·rw [h3, h4]; simp
 ·omega
 ·rw [h3]; simp
theorem Wf.sh : ∀ {d : Nat} {x : S25}, Wf d x → nodes d x ≤ 60 → Sh d x
 | 0, _, h, _ => h.elim
 |d + 1, x, h, hn => by
  have hl := h.len
  refine ⟨by omega, ?_⟩
  have hi : ∀ y ∈ x.f4, Sh d y := fun y hy => Wf.sh (h.items y hy) (by have := nodes_item (d := d) hy; omega)
  rcases h with ⟨h1, _⟩ | ⟨_, _, _, _, ⟨h2, hk, _⟩ | ⟨h3, _⟩⟩
  ·exact .inl h1
  ·exact .inr (.inl ⟨h2, hk, hi⟩)
  ·exact .inr (.inr ⟨h3, hi⟩)
theorem Wf.up : ∀ {d : Nat} {x : S25}, Wf d x → Wf (d + 1) x ∧ nodes (d + 1) x = nodes d x
 | 0, _, h => h.elim
 |d + 1, x, h => by
  have hi := h.items
  have hn : nodes (d + 2) x = nodes (d + 1) x := by
   simp only [nodes]
   congr 2
   exact List.map_congr_left fun y hy => (Wf.up (hi y hy)).2
  refine ⟨?_, hn⟩
  rcases h with h1 | ⟨h1, h2, h3, h4, h5⟩
  ·exact .inl h1
  ·exact .inr ⟨h1, h2, h3, fun y hy => (Wf.up (h4 y hy)).1, h5⟩
theorem Wf.map {d : Nat} {x : S25} (h : Wf (d + 1) x) (h2 : x.f0 = 2) : x.f3.length = x.f4.length ∧ x.f3.Nodup ∧ ∀ k ∈ x.f3, Word k := by
 rcases h with ⟨h1, _⟩ | ⟨_, _, _, _, ⟨_, hk, hw, hn⟩ | ⟨h3, _⟩⟩
 ·omega
 ·exact ⟨hk, hn, hw⟩
 ·omega
theorem toY_one {d : Nat} {x : S25} (h : x.f0 = 1) : toY (d + 1) x = .mk 8 x.f2 x.f1 [] := by simp only [toY]; rw [if_pos h]
theorem toY_two {d : Nat} {x : S25} (h : x.f0 = 2) : toY (d + 1) x = .mk 4 ⟨#[]⟩ ⟨#[]⟩ (kv x.f3 (x.f4.map (toY d))) := by
 simp only [toY]; rw [if_neg (by omega), if_pos h]
theorem toY_three {d : Nat} {x : S25} (h : x.f0 = 3) : toY (d + 1) x = .mk 2 ⟨#[]⟩ ⟨#[]⟩ (x.f4.map (toY d)) := by
 simp only [toY]; rw [if_neg (by omega), if_neg (by omega)]
theorem Wf.ysh : ∀ {d : Nat} {x : S25}, Wf d x → nodes d x ≤ 60 → YSh d (toY d x)
 | 0, _, h, _ => h.elim
 |d + 1, x, h, hn => by
  have hl := h.len
  have hi : ∀ z ∈ x.f4.map (toY d), YSh d z := by
   intro z hz
   obtain ⟨y, hy, rfl⟩ := List.mem_map.1 hz
   exact Wf.ysh (h.items y hy) (by have := nodes_item (d := d) hy; omega)
  rcases h with ⟨h1, _⟩ | ⟨_, _, _, _, ⟨h2, hk, _⟩ | ⟨h3, _⟩⟩
  ·rw [toY_one h1]; exact ⟨by simp [Y.content], .inl rfl⟩
  ·rw [toY_two h2]
   refine ⟨?_, .inr (.inl ⟨rfl, x.f3, x.f4.map (toY d), by simpa using hk, rfl, hi⟩)⟩
   simp only [Y.content]
   rw [kv_length _ _ (by simpa using hk)]
   omega
  ·rw [toY_three h3]
   exact ⟨by simp only [Y.content, List.length_map]; omega, .inr (.inr ⟨rfl, hi⟩)⟩
theorem Wf.live {d : Nat} {x : S25} (h : Wf d x) : Live (toY d x).kind (toY d x).tag := by
 cases d with
 | zero => exact h.elim
 |succ d =>
  rcases h with ⟨h1, _, _, hs⟩ | ⟨_, _, _, _, ⟨h2, hk, _⟩ | ⟨h3, _⟩⟩
  ·rw [toY_one h1]
   refine ⟨rfl, ?_⟩
   simp only [Y.tag]
   rcases hs with ⟨hg, _⟩ | ⟨hg, _⟩ <;> rw [hg] <;> rfl
  ·rw [toY_two h2]; exact ⟨rfl, by simp only [Y.tag]; rw [ByteArray.toList_eq]; rfl⟩
  ·rw [toY_three h3]; exact ⟨rfl, by simp only [Y.tag]; rw [ByteArray.toList_eq]; rfl⟩
theorem Wf.ofY : ∀ {d : Nat} {x : S25}, Wf d x → ofY d (toY d x) = x
 | 0, _, h => h.elim
 |d + 1, x, h => by
  have hi : (x.f4.map (toY d)).map (Go.Proofs.YtkpdkoafngjflaaGreat.ofY d) = x.f4 := by
   rw [List.map_map]
   conv => rhs; rw [← List.map_id x.f4]
   exact List.map_congr_left fun y hy => Wf.ofY (h.items y hy)
  rcases h with ⟨h1, h3, h4, hs⟩ | ⟨ht, hg, _, _, ⟨h2, hk, _⟩ | ⟨h3, h4⟩⟩
  ·rw [toY_one h1]
   obtain ⟨a, b, c, e, f⟩ := x
   simp_all [Go.Proofs.YtkpdkoafngjflaaGreat.ofY, Y.kind, Y.value, Y.tag]
  ·rw [toY_two h2]
   rw [show Go.Proofs.YtkpdkoafngjflaaGreat.ofY (d + 1) (.mk 4 ⟨#[]⟩ ⟨#[]⟩ (kv x.f3 (x.f4.map (toY d)))) = ⟨2, ⟨#[]⟩, ⟨#[]⟩, keysOf (kv x.f3 (x.f4.map (toY d))), (valsOf (kv x.f3 (x.f4.map (toY d)))).map (Go.Proofs.YtkpdkoafngjflaaGreat.ofY d)⟩ from by simp [Go.Proofs.YtkpdkoafngjflaaGreat.ofY, Y.kind, Y.content], keysOf_kv _ _ (by simpa using hk), valsOf_kv _ _ (by simpa using hk), hi]
   obtain ⟨a, b, c, e, f⟩ := x
   simp_all
  ·rw [toY_three h3]
   rw [show Go.Proofs.YtkpdkoafngjflaaGreat.ofY (d + 1) (.mk 2 ⟨#[]⟩ ⟨#[]⟩ (x.f4.map (toY d))) = ⟨3, ⟨#[]⟩, ⟨#[]⟩, [], (x.f4.map (toY d)).map (Go.Proofs.YtkpdkoafngjflaaGreat.ofY d)⟩ from by simp [Go.Proofs.YtkpdkoafngjflaaGreat.ofY, Y.kind, Y.content], hi]
   obtain ⟨a, b, c, e, f⟩ := x
   simp_all
theorem plc_nodup {l : List ByteArray} (h : l.Nodup) (i : Nat) (hi : i < l.length) : plc l l[i] = i := by
 obtain ⟨j, e, hj, he⟩ := plc_pos l l[i] (plc_mem (List.getElem_mem hi))
 rw [e]
 rcases Nat.lt_trichotomy i j with h1 | h1 | h1
 ·exact absurd he.symm (List.pairwise_iff_getElem.1 h i j hi hj h1)
 ·rw [h1]
 ·exact absurd he (List.pairwise_iff_getElem.1 h j i hj hi h1)
def Sm : Nat → S25 → Prop
 | 0, _ => False
 | d + 1, x => x.f4.length ≤ 62 ∧ x.f3.length ≤ x.f4.length ∧ (x.f0 = 2 → x.f3.length = x.f4.length ∧ x.f3.Nodup) ∧ ∀ y ∈ x.f4, Sm d y
theorem Wf.sm : ∀ {d : Nat} {x : S25}, Wf d x → nodes d x ≤ 60 → Sm d x
 | 0, _, h, _ => h.elim
 |d + 1, x, h, hn => by
  have hl := h.len
  refine ⟨by omega, h.klen, fun h2 => ?_, fun y hy => Wf.sm (h.items y hy) (by have := nodes_item (d := d) hy; omega)⟩
  rcases h with ⟨h1, _⟩ | ⟨_, _, _, _, ⟨_, hk, _, hnd⟩ | ⟨h3, _⟩⟩
  ·omega
  ·exact ⟨hk, hnd⟩
  ·omega
theorem YL.drop {w : World} : ∀ {F : Nat → Prop} {bs : List Nat} {ys : List Y} (j : Nat), YL w F bs ys → YL w F (bs.drop j) (ys.drop j)
 | _, [], [], j, _ => by simp only [List.drop_nil, YL]
 | F, b :: bs, y :: ys, 0, h => h
 |F, b :: bs, y :: ys, j + 1, h => by
  simp only [YL] at h
  obtain ⟨F1, _, _, h3⟩ := h
  exact (YL.drop j h3).mono (fun k q => q.1)
 | _, [], _ :: _, _, h => by simp only [YL] at h
 | _, _ :: _, [], _, h => by simp only [YL] at h
theorem YL.cut {w : World} : ∀ {F : Nat → Prop} {bs : List Nat} {ys : List Y} (i j : Nat), i ≤ j → YL w F bs ys → YL w F (bs.take i ++ bs.drop j) (ys.take i ++ ys.drop j)
 | F, bs, ys, 0, j, _, h => by simpa using YL.drop j h
 | _, [], [], i + 1, j, _, _ => by simp only [List.drop_nil, List.take_nil, List.append_nil, YL]
 |F, b :: bs, y :: ys, i + 1, j, hij, h => by
  obtain ⟨j, rfl⟩ : ∃ m, j = m + 1 := ⟨j - 1, by omega⟩
  simp only [YL] at h
  obtain ⟨F1, h1, h2, h3⟩ := h
  simp only [List.take_succ_cons, List.drop_succ_cons, List.cons_append, YL]
  exact ⟨F1, h1, h2, YL.cut i j (by omega) h3⟩
 | _, [], _ :: _, _ + 1, _, _, h => by simp only [YL] at h
 | _, _ :: _, [], _ + 1, _, _, h => by simp only [YL] at h
theorem kv_cut : ∀ (ks : List ByteArray) (ys : List Y) (j : Nat), ks.length = ys.length → (kv ks ys).take (2 * j) ++ (kv ks ys).drop (2 * j + 2) = kv (ks.take j ++ ks.drop (j + 1)) (ys.take j ++ ys.drop (j + 1))
 | [], [], j, _ => by simp [kv]
 | k :: ks, y :: ys, 0, _ => by simp [kv]
 |k :: ks, y :: ys, j + 1, h => by
  rw [show 2 * (j + 1) = 2 * j + 1 + 1 by omega, show 2 * j + 1 + 1 + 2 = (2 * j + 2) + 1 + 1 by omega]
  simp only [kv, List.take_succ_cons, List.drop_succ_cons, List.cons_append, kv_cut ks ys j (by simpa using h)]
 | [], _ :: _, _, h => by simp at h
 | _ :: _, [], _, h => by simp at h
def woK (nm : ByteArray) : List ByteArray → List ByteArray
 | [] => []
 | k :: ks => if k = nm then woK nm ks else k :: woK nm ks
def woI {α : Type} (nm : ByteArray) : List ByteArray → List α → List α
 | k :: ks, y :: ys => if k = nm then woI nm ks ys else y :: woI nm ks ys
 | _, _ => []
theorem woK_snoc (nm : ByteArray) : ∀ (ks : List ByteArray) (k : ByteArray), woK nm (ks ++ [k]) = if k = nm then woK nm ks else woK nm ks ++ [k]
 | [], k => by simp [woK]
 |a :: ks, k => by
  simp only [List.cons_append, woK, woK_snoc nm ks k]
  by_cases h : a = nm
  ·simp [h]
  ·rw [if_neg h, if_neg h]
   by_cases hk : k = nm
   ·simp [hk]
   ·simp [hk]
theorem woI_snoc {α : Type} (nm : ByteArray) : ∀ (ks : List ByteArray) (ys : List α) (k : ByteArray) (y : α), ks.length = ys.length → woI nm (ks ++ [k]) (ys ++ [y]) = if k = nm then woI nm ks ys else woI nm ks ys ++ [y]
 | [], [], k, y, _ => by simp [woI]
 |a :: ks, b :: ys, k, y, h => by
  simp only [List.cons_append, woI, woI_snoc nm ks ys k y (by simpa using h)]
  by_cases ha : a = nm
  ·simp [ha]
  ·rw [if_neg ha, if_neg ha]
   by_cases hk : k = nm
   ·simp [hk]
   ·simp [hk]
 | [], _ :: _, _, _, h => by simp at h
 | _ :: _, [], _, _, h => by simp at h
theorem woK_len (nm : ByteArray) : ∀ (ks : List ByteArray), (woK nm ks).length ≤ ks.length
 | [] => by simp [woK]
 |k :: ks => by
  have := woK_len nm ks
  simp only [woK]
  split
  ·simp only [List.length_cons]; omega
  ·simp only [List.length_cons]; omega
theorem woI_len {α : Type} (nm : ByteArray) : ∀ (ks : List ByteArray) (ys : List α), ks.length = ys.length → (woI nm ks ys).length = (woK nm ks).length
 | [], [], _ => by simp [woK, woI]
 |k :: ks, y :: ys, h => by
  have := woI_len nm ks ys (by simpa using h)
  simp only [woK, woI]
  split
  ·exact this
  ·simp only [List.length_cons]; omega
 | [], _ :: _, h => by simp at h
 | _ :: _, [], h => by simp at h
theorem woK_none (nm : ByteArray) : ∀ (ks : List ByteArray), nm ∉ ks → woK nm ks = ks
 | [], _ => rfl
 |k :: ks, h => by
  simp only [List.mem_cons, not_or] at h
  simp only [woK]
  rw [if_neg (fun e => h.1 e.symm), woK_none nm ks h.2]
theorem woI_none {α : Type} (nm : ByteArray) : ∀ (ks : List ByteArray) (ys : List α), ks.length = ys.length → nm ∉ ks → woI nm ks ys = ys
 | [], [], _, _ => rfl
 |k :: ks, y :: ys, hl, h => by
  simp only [List.mem_cons, not_or] at h
  simp only [woI]
  rw [if_neg (fun e => h.1 e.symm), woI_none nm ks ys (by simpa using hl) h.2]
 | [], _ :: _, h, _ => by simp at h
 | _ :: _, [], h, _ => by simp at h
theorem woK_at (nm : ByteArray) : ∀ (ks : List ByteArray) (j : Nat), ks.Nodup → ks[j]? = some nm → woK nm ks = ks.take j ++ ks.drop (j + 1)
 | [], j, _, h => by simp at h
 |k :: ks, 0, hd, h => by
  obtain rfl : k = nm := by simpa using h
  simp only [woK, if_true]
  simpa using woK_none k ks (List.nodup_cons.1 hd).1
 |k :: ks, j + 1, hd, h => by
  have h' : ks[j]? = some nm := by simpa using h
  have hne : ¬ k = nm := fun e => (List.nodup_cons.1 hd).1 (by rw [e]; exact List.mem_of_getElem? h')
  simp only [woK, List.take_succ_cons, List.drop_succ_cons, List.cons_append]
  rw [if_neg hne, woK_at nm ks j (List.nodup_cons.1 hd).2 h']
theorem woI_at {α : Type} (nm : ByteArray) : ∀ (ks : List ByteArray) (ys : List α) (j : Nat), ks.length = ys.length → ks.Nodup → ks[j]? = some nm → woI nm ks ys = ys.take j ++ ys.drop (j + 1)
 | [], [], j, _, _, h => by simp at h
 |k :: ks, y :: ys, 0, hl, hd, h => by
  obtain rfl : k = nm := by simpa using h
  simp only [woI, if_true]
  simpa using woI_none k ks ys (by simpa using hl) (List.nodup_cons.1 hd).1
 |k :: ks, y :: ys, j + 1, hl, hd, h => by
  have h' : ks[j]? = some nm := by simpa using h
  have hne : ¬ k = nm := fun e => (List.nodup_cons.1 hd).1 (by rw [e]; exact List.mem_of_getElem? h')
  simp only [woI, List.take_succ_cons, List.drop_succ_cons, List.cons_append]
  rw [if_neg hne, woI_at nm ks ys j (by simpa using hl) (List.nodup_cons.1 hd).2 h']
 | [], _ :: _, _, h, _, _ => by simp at h
 | _ :: _, [], _, h, _, _ => by simp at h
theorem woK_mem {nm k : ByteArray} : ∀ {ks : List ByteArray}, k ∈ woK nm ks → k ∈ ks
 | [], h => h
 |a :: ks, h => by
  simp only [woK] at h
  split at h
  ·exact List.mem_cons_of_mem _ (woK_mem h)
  ·rcases List.mem_cons.1 h with h | h
   ·exact List.mem_cons.2 (.inl h)
   ·exact List.mem_cons_of_mem _ (woK_mem h)
theorem woK_nodup (nm : ByteArray) : ∀ (ks : List ByteArray), ks.Nodup → (woK nm ks).Nodup
 | [], h => by simp [woK]
 |k :: ks, h => by
  simp only [woK]
  split
  ·exact woK_nodup nm ks (List.nodup_cons.1 h).2
  ·exact List.nodup_cons.2 ⟨fun q => (List.nodup_cons.1 h).1 (woK_mem q), woK_nodup nm ks (List.nodup_cons.1 h).2⟩
theorem woI_mem {α : Type} {nm : ByteArray} {y : α} : ∀ {ks : List ByteArray} {ys : List α}, y ∈ woI nm ks ys → y ∈ ys
 |k :: ks, z :: ys, h => by
  simp only [woI] at h
  split at h
  ·exact List.mem_cons_of_mem _ (woI_mem h)
  ·rcases List.mem_cons.1 h with h | h
   ·exact List.mem_cons.2 (.inl h)
   ·exact List.mem_cons_of_mem _ (woI_mem h)
 | [], _, h => by simp [woI] at h
 | _ :: _, [], h => by simp [woI] at h
structure MapOk (d : Nat) (ks : List ByteArray) (is : List S25) : Prop where
 len : ks.length = is.length
 few : is.length ≤ 62
 nodup : ks.Nodup
 items : ∀ y ∈ is, Wf d y ∧ nodes d y ≤ 60
theorem MapOk.of {d : Nat} {x : S25} (h : Wf (d + 1) x) (h2 : x.f0 = 2) (hn : nodes (d + 1) x ≤ 60) : MapOk d x.f3 x.f4 :=
 ⟨(h.map h2).1, by have := h.len; omega, (h.map h2).2.1, fun y hy => ⟨h.items y hy, by have := nodes_item (d := d) hy; omega⟩⟩
theorem live_map : Live 4 ⟨#[]⟩ := ⟨rfl, by rw [ByteArray.toList_eq]; rfl⟩
theorem R_empty {α : Type} (d : Kd α) {w : World} {g e base : Nat} {ok : Nat → Prop} (h : w.heap[g]? = some (.cells #[] e (0, 0))) (hb : base ≤ g) (ho : ok g) : d.R e w base ok (.slice (some ⟨g, 0, none⟩) 0 0) [] :=
 ⟨fun k hk => (by
  obtain rfl : g = k := by simpa [Value.ownBlock] using hk
  exact ho), [], ⟨by simp, .inr ⟨g, 0, #[], rfl, hb, h, Nat.le_refl _, Nat.zero_le _, by simp, by simp⟩⟩, Reps.none _ _⟩
def wi (x : S25) (nm : ByteArray) (v : S25) : S25 :=
 if 0 ≤ plc x.f3 nm then ⟨2, ⟨#[]⟩, ⟨#[]⟩, x.f3, x.f4.set (plc x.f3 nm).toNat v⟩ else ⟨2, ⟨#[]⟩, ⟨#[]⟩, x.f3 ++ [nm], x.f4 ++ [v]⟩
theorem wi_at {x v : S25} {nm : ByteArray} {j : Nat} (hd : x.f3.Nodup) (h : x.f3[j]? = some nm) : wi x nm v = ⟨2, ⟨#[]⟩, ⟨#[]⟩, x.f3, x.f4.set j v⟩ := by
 obtain ⟨hj, he⟩ := List.getElem?_eq_some_iff.1 h
 have hp := plc_nodup hd j hj
 rw [he] at hp
 unfold wi
 rw [if_pos (by omega), hp, Int.toNat_natCast]
theorem wi_new {x v : S25} {nm : ByteArray} (h : nm ∉ x.f3) : wi x nm v = ⟨2, ⟨#[]⟩, ⟨#[]⟩, x.f3 ++ [nm], x.f4 ++ [v]⟩ := by
 unfold wi
 rw [if_neg (fun q => h (by obtain ⟨i, _, hi, hie⟩ := plc_pos x.f3 nm q; rw [← hie]; exact List.getElem_mem _))]
theorem MapOk.put {d : Nat} {ks : List ByteArray} {is : List S25} (h : MapOk d ks is) (j : Nat) {v : S25} (hv : Wf d v ∧ nodes d v ≤ 60) : MapOk d ks (is.set j v) :=
 ⟨by rw [List.length_set]; exact h.len, by rw [List.length_set]; exact h.few, h.nodup, fun y hy => by
  rcases List.mem_or_eq_of_mem_set hy with q | q
  ·exact h.items y q
  ·rw [q]; exact hv⟩
end Go.Proofs.YtkpdkoafngjflaaGreat
