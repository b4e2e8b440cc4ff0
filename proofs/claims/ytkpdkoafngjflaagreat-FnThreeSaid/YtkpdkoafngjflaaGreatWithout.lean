import Derived.Test.YtkpdkoafngjflaaGreatSh
import Derived.Test.YtkpdkoafngjflaaGreatFixed
namespace Go.Proofs.YtkpdkoafngjflaaGreat
open Go.RowKit Go.Proofs.YtkpdkoafngjflaaGreatW.PrintWords Go.Proofs.YtkpdkoafngjflaaGreatW.PrintLast Go.Proofs.YtkpdkoafngjflaaGreat.PFnFields
set_option linter.unusedVariables false
set_option linter.unusedSimpArgs false
def wo (x : S25) (nm : ByteArray) : S25 := ⟨2, ⟨#[]⟩, ⟨#[]⟩, woK nm x.f3, woI nm x.f3 x.f4⟩
def wout6.T : Bool × List (List Nat × List Nat) := (true, [([], []), ([0], [0]), ([], []), ([2], [2]), ([1, 3], [1, 3]), ([], []), ([5], [5]), ([], []), ([7], [7]), ([], []), ([8, 9], [8, 9]), ([10], [10]), ([11], [11]), ([6, 12, 4], [6, 12]), ([0, 1, 2, 3, 4, 5, 6], []), ([14, 4, 13, 0, 1, 2, 3, 4, 5, 6], [4, 14]), ([0, 1, 2, 3, 4, 5, 6, 7, 8, 9, 10, 11, 12, 13, 14, 15], []), ([16, 13, 15, 0, 1, 2, 3, 4, 5, 6, 7, 8, 9, 10, 11, 12, 13, 14, 15], [13, 16])])
def wout6.B : List Nat := [0, 1, 0, 4, 15, 0, 32, 0, 128, 0, 896, 1920, 3968, 8191, 127, 32767, 65535, 131071]
theorem wout6.tab : rtab .any (opsOf Tryz.f17 6) = wout6.T := by kernel_rfl
theorem wout6.bits : waitsOk wout6.T.2 wout6.B = true := by kernel_rfl
set_option maxRecDepth 100000 in
set_option maxHeartbeats 3200000 in
theorem withoutS_calls (S : Nat → Prop) (x : S25) (nm : ByteArray) (hkl : x.f3.length = x.f4.length) (hfew : x.f4.length ≤ 2000) (w : World) (hS : ∀ k, S k → k < w.heap.size) (A3 : Option Addr) (c3 : Nat) (A4 : Option Addr) (c4 : Nat) (hK : nodeR S w x A3 c3 A4 c4) :
  Calls Tryz.prog 17 #[nodeV x A3 c3 A4 c4, .string nm] w (NodePostS S w (wo x nm)) := by
 have hu := Tryz.underlying25
 have HK := Aside0.mk hK
 have HSS := Aside0.mk hS
 have g4 := hK.rows
 obtain ⟨g3, l3⟩ : ∃ q : Kd.string.C w A3 x.f3.length x.f3, x.f3.length ≤ c3 := by
  obtain ⟨B3, d3, B4, d4, he, l3, g3, l4, g4⟩ := k25_open hK.now
  simp only [List.cons.injEq, Value.slice.injEq, true_and, and_true] at he
  obtain ⟨⟨rfl, rfl⟩, rfl, rfl⟩ := he
  exact ⟨g3, l3⟩
 have HG := Aside0.mk (And.intro g3 (And.intro l3 g4))
 have HM := Aside0.mk (And.intro hkl hfew)
 have hn3 : x.f3.length ≤ 9223372036854775807 := by omega
 clear hK hS g3 l3 g4 hkl hfew
 go_enter Tryz.func17, Tryz.ntmps17
 go_wp2_with fail
 obtain ⟨w0, e0⟩ : ∃ w0, w0 = ((w.alloc (.cells #[.int .i64 x.f0, .string x.f1, .string x.f2, .slice A3 x.f3.length c3, .slice A4 x.f4.length c4] 25)).alloc (.cells #[.int .i64 0, .string ⟨#[]⟩, .string ⟨#[]⟩, .slice none 0 0, .slice none 0 0] 25)).alloc (.cells #[.int .i64 2, .string ⟨#[]⟩, .string ⟨#[]⟩, .slice none 0 0, .slice none 0 0] 25) := ⟨_, rfl⟩
 try rw [← e0]
 have hb0 : Below w.heap.size w w0 := by rw [e0]; exact (((Below.refl _ _).alloc (Nat.le_refl _) _).alloc (by simp) _).alloc (by simp; omega) _
 have hs0 : w0.heap.size = w.heap.size + 3 := by rw [e0]; simp
 have q0 : inVar w0 w.heap.size x A3 c3 A4 c4 := by rw [e0]; exact (heap_old _ (by simp; omega)).trans ((heap_old _ (by simp)).trans (heap_at _ rfl))
 have q1 : w0.heap[w.heap.size + 1]? = some (.cells #[.int .i64 0, .string ⟨#[]⟩, .string ⟨#[]⟩, .slice none 0 0, .slice none 0 0] 25 (0, 0)) := by rw [e0]; exact (heap_old _ (by simp)).trans (heap_at _ (by simp))
 have q2 : w0.heap[w.heap.size + 1 + 1]? = some (.cells #[.int .i64 2, .string ⟨#[]⟩, .string ⟨#[]⟩, .slice none 0 0, .slice none 0 0] 25 (0, 0)) := by rw [e0]; exact heap_at _ (by simp)
 have H0 := Aside0.mk (And.intro hb0 (And.intro q0 (And.intro q1 (And.intro q2 hs0))))
 clear hb0 q0 q1 q2 hs0 e0
 go_loopg [12] x.f3.length (fun k i wr => ∃ (j : Nat) (kvv ivv : Value), i = .int .i64 j ∧ Aside0 (j ≤ x.f3.length ∧ k + j = x.f3.length) ∧ Aside0 (Below w.heap.size w wr ∧ w.heap.size + 3 ≤ wr.heap.size) ∧ Aside0 (inVar wr w.heap.size x A3 c3 A4 c4) ∧
  Aside0 (wr.heap[w.heap.size + 1]? = some (.cells #[.int .i64 0, .string ⟨#[]⟩, .string ⟨#[]⟩, .slice none 0 0, .slice none 0 0] 25 (0, 0))) ∧
  Aside0 (wr.heap[w.heap.size + 1 + 1]? = some (.cells #[.int .i64 2, .string ⟨#[]⟩, .string ⟨#[]⟩, kvv, ivv] 25 (0, 0))) ∧ Aside0 (Kd.string.R 9 wr (w.heap.size + 3) (fun _ => True) kvv (woK nm (x.f3.take j))) ∧
  Aside0 ((heldK S w).R 25 wr (w.heap.size + 3) (fun k => some k ≠ kvv.ownBlock) ivv (woI nm (x.f3.take j) (x.f4.take j))))
 case atStart => exact ⟨0, .slice none 0 0, .slice none 0 0, rfl, ⟨by omega⟩, ⟨H0.out.1, by rw [H0.out.2.2.2.2]; omega⟩, ⟨H0.out.2.1⟩, ⟨H0.out.2.2.1⟩, ⟨H0.out.2.2.2.1⟩, ⟨Kd.R_nil _ _ _ _ _⟩, ⟨Kd.R_nil _ _ _ _ _⟩⟩
 case round =>
  clear H0
  obtain ⟨j, kvv, ivv, rfl, HJ, HB, HX, HR, HO, HKS, HIS⟩ := hrel
  by_cases hj : j < x.f3.length
  ·have hj4 : j < x.f4.length := by have := HM.out; omega
   generalize hkk : x.f3.getD j ByteArray.empty = kk
   generalize hyy : x.f4.getD j z25 = yy
   obtain ⟨ad3, ea, hs3⟩ := strAt HG.out.1 j hj
   rw [hkk] at hs3
   obtain ⟨ad, B3, b3, B4, b4, e4, hKy, f0', f1', f2', f3', f4'⟩ := nodeAt (HG.out.2.2 w (Chg.refl S w)) j hj4 yy hyy
   subst ea e4
   have hKH := held_item HG.out.2.2 j hj4 hyy f0' f1' f2' f3' f4'
   have hs3' := (HB.out.1.cell (World.block_lt_of_cell? w _ hs3)).trans hs3
   have hke : kk = x.f3[j] := by rw [← hkk, List.getD_eq_getElem?_getD, List.getElem?_eq_getElem hj]; rfl
   have hye : yy = x.f4[j] := by rw [← hyy, List.getD_eq_getElem?_getD, List.getElem?_eq_getElem hj4]; rfl
   have hlK := woK_len nm (x.f3.take j)
   have hlI := woI_len nm (x.f3.take j) (x.f4.take j) (by simp; have := HM.out; omega)
   have hl62 : (woK nm (x.f3.take j)).length ≤ 2000 ∧ (woI nm (x.f3.take j) (x.f4.take j)).length ≤ 2000 := by
    rw [hlI]
    rw [List.length_take] at hlK
    have := HM.out
    omega
   have hsK := woK_snoc nm (x.f3.take j) kk
   have hsI := woI_snoc nm (x.f3.take j) (x.f4.take j) kk yy (by simp; have := HM.out; omega)
   rw [hke, ← List.take_succ_eq_append_getElem hj, ← hke] at hsK
   rw [hke, hye, ← List.take_succ_eq_append_getElem hj, ← List.take_succ_eq_append_getElem hj4, ← hke, ← hye] at hsI
   have HE := Aside0.mk (And.intro hKH (And.intro hsK (And.intro hsI hl62)))
   have HF := Aside0.mk (And.intro f0' (And.intro f1' (And.intro f2' (And.intro f3' f4'))))
   clear hkk hyy hs3 hKy hKH f0' f1' f2' f3' f4' hke hye hlK hlI hl62 hsK hsI
   by_cases hkn : kk = nm
   ·have hbb : (kk.toList == nm.toList) = true := by rw [hkn]; simp
    have HKN := Aside0.mk hkn
    clear hkn
    go_wp2_with fail
    go_roundg (gk - 1)
    case measure => have := HJ.out; omega
    case rel =>
     refine ⟨j + 1, kvv, ivv, by go_num, ⟨by have := HJ.out; omega⟩, HB, HX, HR, HO, ⟨?_⟩, ⟨?_⟩⟩
     ·rw [HE.out.2.1, if_pos HKN.out]; exact HKS.out
     ·rw [HE.out.2.2.1, if_pos HKN.out]; exact HIS.out
   ·have hbb : (kk.toList == nm.toList) = false := by
     rw [beq_eq_false_iff_ne]; exact fun e => hkn (bytes_ext e)
    have HKN := Aside0.mk hkn
    clear hkn
    go_wp2_with fail
    have HOWN : Aside0 (∀ k, (some k = kvv.ownBlock ∨ some k = ivv.ownBlock) → w.heap.size + 3 ≤ k ∧ k < wr.heap.size) := ⟨fun k e => by
     rcases e with e | e
     ·have := R_own HKS.out k e.symm; omega
     ·have := R_own HIS.out k e.symm; omega⟩
    have HK1 : Aside0 (∀ w', Chg (fun k => some k = kvv.ownBlock ∨ some k = ivv.ownBlock) wr w' → w'.cell? ⟨w.heap.size + 1 + 1, 3, none⟩ = some kvv ∧ w'.cell? ⟨w.heap.size + 1 + 1, 4, none⟩ = some ivv ∧ w'.cell? ⟨w.heap.size, 4, none⟩ = some (.slice (some ad) x.f4.length c4) ∧ w'.cell? (ad.add (j * 5)) = some (.int .i64 yy.f0) ∧ w'.cell? ⟨(ad.add (j * 5)).block, (ad.add (j * 5)).off + 1, none⟩ = some (.string yy.f1) ∧ w'.cell? ⟨(ad.add (j * 5)).block, (ad.add (j * 5)).off + 2, none⟩ = some (.string yy.f2) ∧ w'.cell? ⟨(ad.add (j * 5)).block, (ad.add (j * 5)).off + 3, none⟩ = some (.slice B3 yy.f3.length b3) ∧ w'.cell? ⟨(ad.add (j * 5)).block, (ad.add (j * 5)).off + 4, none⟩ = some (.slice B4 yy.f4.length b4)) := ⟨fun w' hc => by
     have old : ∀ {a : Addr} {v : Value}, w.cell? a = some v → w'.cell? a = some v := fun {a v} h => by
      have hl := World.block_lt_of_cell? w a h
      exact hc.cell_of ((HB.out.1.cell hl).trans h) (fun q => by have := HOWN.out _ q; omega)
     have hx := (hc.block _ (lt_of_block HX.out) (fun q => by have := HOWN.out _ q; omega)).trans HX.out
     have ho := (hc.block _ (lt_of_block HO.out) (fun q => by have := HOWN.out _ q; omega)).trans HO.out
     exact ⟨by rw [cell_of_block ho]; rfl, by rw [cell_of_block ho]; rfl, by rw [cell_of_block hx]; rfl, old HF.out.1, old HF.out.2.1, old HF.out.2.2.1, old HF.out.2.2.2.1, old HF.out.2.2.2.2⟩⟩
    have hjn : (j : Int) < (x.f4.length : Int) := by omega
    have HFR : Aside0 (∀ k, wr.heap.size ≤ k → some k ≠ kvv.ownBlock ∧ some k ≠ ivv.ownBlock) := ⟨fun k hk => ⟨fun e => by have := HOWN.out k (.inl e); omega, fun e => by have := HOWN.out k (.inr e); omega⟩⟩
    refine start_ (n := 18) (S := fun w' => w'.cell? ⟨w.heap.size + 1 + 1, 3, none⟩ = some kvv ∧ w'.cell? ⟨w.heap.size + 1 + 1, 4, none⟩ = some ivv ∧ w'.cell? ⟨w.heap.size, 4, none⟩ = some (.slice (some ad) x.f4.length c4) ∧ w'.cell? (ad.add (j * 5)) = some (.int .i64 yy.f0) ∧ w'.cell? ⟨(ad.add (j * 5)).block, (ad.add (j * 5)).off + 1, none⟩ = some (.string yy.f1) ∧ w'.cell? ⟨(ad.add (j * 5)).block, (ad.add (j * 5)).off + 2, none⟩ = some (.string yy.f2) ∧ w'.cell? ⟨(ad.add (j * 5)).block, (ad.add (j * 5)).off + 3, none⟩ = some (.slice B3 yy.f3.length b3) ∧ w'.cell? ⟨(ad.add (j * 5)).block, (ad.add (j * 5)).off + 4, none⟩ = some (.slice B4 yy.f4.length b4)) (ds := [15, 17]) #[false, false, false, false, false, false, false, false, false, false, false, false, false, false, false, false, false, false] (by kernel_rfl) rfl rfl (HK1.out _ ((Chg.refl _ _).drew)) (fun hHeld => ?_)
    refine with_tabW (T := wout6.T) (B := wout6.B) wout6.tab wout6.bits (fun HT_ HW_ => ?_)
    have HC := Aside0.mk ((Chg.refl (fun k => some k = kvv.ownBlock ∨ some k = ivv.ownBlock) wr).drew)
    have q1 : Aside0 (Kd.string.R 9 wr.drew (w.heap.size + 3) (fun _ => True) kvv (woK nm (x.f3.take j))) := ⟨R_upd HKS.out (fun _ _ _ _ => rfl)⟩
    have q2 : Aside0 ((heldK S w).R 25 wr.drew (w.heap.size + 3) (fun k => some k ≠ kvv.ownBlock) ivv (woI nm (x.f3.take j) (x.f4.take j))) := ⟨R_upd HIS.out (fun _ _ _ _ => rfl)⟩
    generalize wr.drew = wc at HC q1 q2 hHeld ⊢
    clear HKS HIS
    have HKS := q1
    have HIS := q2
    clear q1 q2
    refine ps_ 0 20 HT_ ?_
    refine ps_ 2 22 HT_ ?_
    refine ps_ 5 25 HT_ ?_
    refine ps_ 7 27 HT_ ?_
    refine ps_ 9 29 HT_ ?_
    refine ts_ 1 21 HT_ HW_ hHeld ?_
    refine ts_ 6 26 HT_ HW_ hHeld ?_
    refine ts_ 8 28 HT_ HW_ hHeld ?_
    refine ps_ 10 30 HT_ ?_
    refine ts_ 11 31 HT_ HW_ hHeld ?_
    refine two_ (i := 3) (j := 12) (Ni := (some 23)) (Nj := (some 32)) #[true, true, true, true, false, true, true, true, true, true, true, true, false, false, false, false, false, false] #[true, true, true, false, false, true, true, true, true, true, true, true, true, false, false, false, false, false] rfl rfl rfl rfl (two_of HT_.out (by kernel_rfl)) (by decide) (by decide) (fun K hK => ?_) (fun K hK => ?_)
    ·rw [if_pos (by rfl)]
     go_simp
     obtain ⟨wn, g3, e3, eg, hc3, hb3, hh3, hs3⟩ := alloc_step HC.out (.cells #[.string kk] 9)
     rw [e3, eg]
     have q1 := Aside0.mk (R_upd HKS.out (fun k _ _ hk => hb3.block k hk)); have q2 := Aside0.mk (R_upd HIS.out (fun k _ _ hk => hb3.block k hk)); clear HKS HIS; have HKS := q1; have HIS := q2; clear q1 q2
     try (have q1 := Aside0.mk (And.intro ((hb3.block _ (lt_of_block HG12.out.1)).trans HG12.out.1) HG12.out.2); clear HG12; have HG12 := q1; clear q1)
     refine hK.out _ _ (HK1.out _ hc3) (fun hHeld => ?_)
     have HG3 := Aside0.mk (And.intro hh3 (show wr.heap.size ≤ g3 by have := HC.out.size; omega))
     clear HC e3 hh3 hs3 hb3
     rename World => wc
     have HC := Aside0.mk hc3
     clear hc3
     clear hK K
     refine ns_ ?_
     refine two_ (i := 4) (j := 12) (Ni := (some 24)) (Nj := (some 32)) #[true, true, true, true, true, true, true, true, true, true, true, true, false, false, false, false, false, false] #[true, true, true, true, false, true, true, true, true, true, true, true, true, false, false, false, false, false] rfl rfl rfl rfl (two_of HT_.out (by kernel_rfl)) (by decide) (by decide) (fun K hK => ?_) (fun K hK => ?_)
     ·refine Kd.R_append_rows_step Kd.string (w0 := wc) (w.heap.size + 3) (by rfl) (.tmp 21) (.tmp 23) 22 9 (.string ⟨#[]⟩) 16 rfl Tryz.underlying22 Tryz.infoStr rfl (by decide) (by decide) kvv (woK nm (x.f3.take j)) [kk] (some ⟨g3, 0, none⟩) 1 1 (fun _ => True) (fun _ => False) (by rfl) (by rfl) HKS.out (show ReadsRow (Kd.string.K wc) 1 wc (some ⟨g3, 0, none⟩) 1 [kk] from one_str HG3.out.1) (fun _ _ h => h) (fun _ h => h.elim) (fun _ _ => trivial) (Below.refl _ _) (by have := HC.out.size; have := HB.out.2; omega) (by have := HE.out.2.2.2.1; omega) ?_
      intro kv1 wn hr1 hbn hg1 hat1
      obtain ⟨A1, n1, c1, rfl⟩ : ∃ A1 n1 c1, kv1 = .slice A1 n1 c1 := by obtain ⟨A1, c1, e⟩ := Kd.R_slice hr1; exact ⟨_, _, _, e⟩
      have hc3 := HC.out.grown hg1 (fun k e => .inl (.inl e.symm))
      try (have q1 := Aside0.mk (And.intro ((hg1.block _ (lt_of_block HG12.out.1) (HFR.out _ HG12.out.2).1).trans HG12.out.1) HG12.out.2); clear HG12; have HG12 := q1; clear q1)
      have q2 : Aside0 ((heldK S w).R 25 wn (w.heap.size + 3) (fun k => some k ≠ (Value.slice A1 n1 c1).ownBlock) ivv (woI nm (x.f3.take j) (x.f4.take j))) := by
       have h1 := R_upd (w1 := wn) (Kd.R_bound HIS.out) (fun k hok hk hlt => hg1.block k hlt hok.1)
       refine ⟨Kd.R_mono h1 (fun k hk e => ?_)⟩
       obtain ⟨h2, _, h3, _⟩ := hk
       rcases hat1 with h | ⟨g', hb', h⟩
       ·exact h2 (e.trans h)
       ·rw [hb'] at e
        have : k = g' := by simpa using e
        omega
      clear HIS HKS
      have HKS := Aside0.mk hr1
      have HIS := q2
      refine hK.out _ _ (HK1.out _ hc3) (fun hHeld => ?_)
      clear HC q2 hr1 hbn hg1 hat1
      rename World => wc
      have HC := Aside0.mk hc3
      clear hc3
      clear hK K
      refine ns_ ?_
      refine ps_ 14 34 HT_ ?_
      refine one_ (i := 12) (N := (some 32)) #[true, true, true, true, true, true, true, true, true, true, true, true, true, false, true, false, false, false] rfl rfl (one_of HT_.out (by kernel_rfl)) (by decide) (fun K hK => ?_)
      rw [if_pos (by rfl)]
      go_simp
      obtain ⟨wn, g12, e3, eg, hc3, hb3, hh3, hs3⟩ := alloc_step HC.out (.cells #[.int .i64 yy.f0, .string yy.f1, .string yy.f2, .slice B3 yy.f3.length b3, .slice B4 yy.f4.length b4] 25)
      rw [e3, eg]
      have q1 := Aside0.mk (R_upd HKS.out (fun k _ _ hk => hb3.block k hk)); have q2 := Aside0.mk (R_upd HIS.out (fun k _ _ hk => hb3.block k hk)); clear HKS HIS; have HKS := q1; have HIS := q2; clear q1 q2
      try (have q1 := Aside0.mk (And.intro ((hb3.block _ (lt_of_block HG3.out.1)).trans HG3.out.1) HG3.out.2); clear HG3; have HG3 := q1; clear q1)
      refine hK.out _ _ (HK1.out _ hc3) (fun hHeld => ?_)
      have HG12 := Aside0.mk (And.intro hh3 (show wr.heap.size ≤ g12 by have := HC.out.size; omega))
      clear HC e3 hh3 hs3 hb3
      rename World => wc
      have HC := Aside0.mk hc3
      clear hc3
      clear hK K
      refine ns_ ?_
      refine one_ (i := 13) (N := (some 33)) #[true, true, true, true, true, true, true, true, true, true, true, true, true, true, true, false, false, false] rfl rfl (one_of HT_.out (by kernel_rfl)) (by decide) (fun K hK => ?_)
      refine Kd.R_append_rows_step (heldK S w) (w0 := wc) (w.heap.size + 3) (by rfl) (.tmp 26) (.tmp 32) 23 25 (.agg #[.int .i64 0, .string ⟨#[]⟩, .string ⟨#[]⟩, .slice none 0 0, .slice none 0 0]) 88 rfl Tryz.underlying23 Tryz.infoNode rfl (by show 0 < 5; decide) (by decide) ivv (woI nm (x.f3.take j) (x.f4.take j)) [yy] (some ⟨g12, 0, none⟩) 1 1 (fun k => some k ≠ (Value.slice A1 n1 c1).ownBlock) (fun _ => False) (by rfl) (by rfl) HIS.out (show ReadsRow ((heldK S w).K wc) 5 wc (some ⟨g12, 0, none⟩) 1 [yy] from one_nodeH HG12.out.1 HE.out.1) (fun _ _ h => h) (fun _ h => h.elim) (fun k hk e => by have := (R_own HKS.out k e.symm).2.1; omega) (Below.refl _ _) (by have := HC.out.size; have := HB.out.2; omega) (by have := HE.out.2.2.2.2; omega) ?_
      intro iv1 wn hr1 hbn hg1 hat1
      obtain ⟨A5, n5, c5, rfl⟩ : ∃ A5 n5 c5, iv1 = .slice A5 n5 c5 := by obtain ⟨A5, c5, e⟩ := Kd.R_slice hr1; exact ⟨_, _, _, e⟩
      have hc3 := HC.out.grown hg1 (fun k e => .inl (.inr e.symm))
      have q1 : Aside0 (Kd.string.R 9 wn (w.heap.size + 3) (fun _ => True) (.slice A1 n1 c1) (woK nm (x.f3.take j) ++ [kk])) := by
       have h1 : Kd.string.R 9 wc (w.heap.size + 3) (fun k => some k = (Value.slice A1 n1 c1).ownBlock) (.slice A1 n1 c1) (woK nm (x.f3.take j) ++ [kk]) := ⟨fun k hk => hk.symm, HKS.out.2⟩
       refine ⟨Kd.R_mono (R_upd (w1 := wn) h1 (fun k hok hk hlt => hg1.block k hlt ?_)) (fun _ _ => trivial)⟩
       exact R_types_ne HKS.out HIS.out (by decide) k hok.symm
      clear HIS HKS
      have HKS := q1
      have HIS := Aside0.mk hr1
      refine hK.out _ _ (HK1.out _ hc3) (fun hHeld => ?_)
      clear HC q1 hr1 hbn hg1 hat1
      rename World => wc
      have HC := Aside0.mk hc3
      clear hc3
      clear hK K
      refine ns_ ?_
      refine last_ (i := 15) (N := none) #[true, true, true, true, true, true, true, true, true, true, true, true, true, true, true, true, false, false] rfl rfl (one_of HT_.out (by kernel_rfl)) (by decide) (fun K hK => ?_)
      have ho := (HC.out.block _ (lt_of_block HO.out) (fun q => by have := HOWN.out _ q; omega)).trans HO.out
      have HO15 := Aside0.mk ho
      have hcell : wc.cell? ⟨w.heap.size + 1 + 1, 3, none⟩ = some kvv := by rw [cell_of_block ho]; rfl
      have hfr : wc.frozen? ⟨w.heap.size + 1 + 1, 3, none⟩ = false := frozen_of_block ho
      clear ho
      rw [if_pos (by rfl)]
      go_simp
      refine hK.out _ _ ?_
      clear hcell hfr
      clear hK K
      refine ns_ ?_
      refine ps_ 16 35 HT_ ?_
      refine last_ (i := 17) (N := none) #[true, true, true, true, true, true, true, true, true, true, true, true, true, true, true, true, true, true] rfl rfl (one_of HT_.out (by kernel_rfl)) (by decide) (fun K hK => ?_)
      have ho := heap_set (a := ⟨w.heap.size + 1 + 1, 3, none⟩) (v := .slice A1 n1 c1) HO15.out rfl
      have HO17 := Aside0.mk ho
      have hcell : (wc.setCell ⟨w.heap.size + 1 + 1, 3, none⟩ (.slice A1 n1 c1)).cell? ⟨w.heap.size + 1 + 1, 4, none⟩ = some ivv := by rw [cell_of_block ho]; rfl
      have hfr : (wc.setCell ⟨w.heap.size + 1 + 1, 3, none⟩ (.slice A1 n1 c1)).frozen? ⟨w.heap.size + 1 + 1, 4, none⟩ = false := frozen_of_block ho
      clear ho
      rw [if_pos (by rfl)]
      go_simp
      refine hK.out _ _ ?_
      clear hcell hfr
      clear hK K
      refine ns_ ?_
      refine done_ (done_of HT_.out (by kernel_rfl)) ?_
      obtain ⟨w2, e2⟩ : ∃ w2, w2 = (wc.setCell ⟨w.heap.size + 1 + 1, 3, none⟩ (.slice A1 n1 c1)).setCell ⟨w.heap.size + 1 + 1, 4, none⟩ (.slice A5 n5 c5) := ⟨_, rfl⟩
      rw [← e2]
      have hO2 : w2.heap[w.heap.size + 1 + 1]? = some (.cells #[.int .i64 2, .string ⟨#[]⟩, .string ⟨#[]⟩, .slice A1 n1 c1, .slice A5 n5 c5] 25 (0, 0)) := by rw [e2]; exact heap_set (a := ⟨w.heap.size + 1 + 1, 4, none⟩) HO17.out rfl
      have hc2 : Chg (fun k => k = w.heap.size + 1 + 1) wc w2 := by rw [e2]; exact ((Chg.refl (fun k => k = w.heap.size + 1 + 1) wc).setCell (p := ⟨w.heap.size + 1 + 1, 3, none⟩) (.inl rfl) _).setCell (p := ⟨w.heap.size + 1 + 1, 4, none⟩) (.inl rfl) _
      have hcs := HC.out.size
      have hmv : ∀ k, k < wr.heap.size → k ≠ w.heap.size + 1 + 1 → (¬ (some k = kvv.ownBlock ∨ some k = ivv.ownBlock)) → w2.heap[k]? = wr.heap[k]? := fun k hk h1 h2 => (hc2.block k (by omega) h1).trans (HC.out.block k hk h2)
      have HB2 : Aside0 (Below w.heap.size w w2 ∧ w.heap.size + 3 ≤ w2.heap.size) := ⟨HB.out.1.trans ((HC.out.below HB.out.1.size (fun k q => by have := HOWN.out k q; omega)).trans (hc2.below (by have := HB.out.2; omega) (fun k e => by omega))), by have := HB.out.2; have := hc2.size; omega⟩
      have HX2 : Aside0 (inVar w2 w.heap.size x (some ad3) c3 (some ad) c4) := ⟨(hmv _ (lt_of_block HX.out) (by omega) (fun q => by have := HOWN.out _ q; omega)).trans HX.out⟩
      have HR2 : Aside0 (w2.heap[w.heap.size + 1]? = some (.cells #[.int .i64 0, .string ⟨#[]⟩, .string ⟨#[]⟩, .slice none 0 0, .slice none 0 0] 25 (0, 0))) := ⟨(hmv _ (lt_of_block HR.out) (by omega) (fun q => by have := HOWN.out _ q; omega)).trans HR.out⟩
      have HO2 := Aside0.mk hO2
      have HKS2 : Aside0 (Kd.string.R 9 w2 (w.heap.size + 3) (fun _ => True) (.slice A1 n1 c1) (woK nm (x.f3.take (j + 1)))) := by
       refine ⟨?_⟩
       rw [HE.out.2.1, if_neg HKN.out]
       exact R_upd HKS.out (fun k _ hk hlt => hc2.block k hlt (by omega))
      have HIS2 : Aside0 ((heldK S w).R 25 w2 (w.heap.size + 3) (fun k => some k ≠ (Value.slice A1 n1 c1).ownBlock) (.slice A5 n5 c5) (woI nm (x.f3.take (j + 1)) (x.f4.take (j + 1)))) := by
       refine ⟨?_⟩
       rw [HE.out.2.2.1, if_neg HKN.out]
       exact R_upd HIS.out (fun k _ hk hlt => hc2.block k hlt (by omega))
      clear e2 hO2 hc2 hcs hmv
      go_wp2_with fail
      go_roundg (gk - 1)
      case measure => have := HJ.out; omega
      case rel => exact ⟨j + 1, _, _, by go_num, ⟨by have := HJ.out; omega⟩, HB2, HX2, HR2, HO2, HKS2, HIS2⟩
     ·rw [if_pos (by rfl)]
      go_simp
      obtain ⟨wn, g12, e3, eg, hc3, hb3, hh3, hs3⟩ := alloc_step HC.out (.cells #[.int .i64 yy.f0, .string yy.f1, .string yy.f2, .slice B3 yy.f3.length b3, .slice B4 yy.f4.length b4] 25)
      rw [e3, eg]
      have q1 := Aside0.mk (R_upd HKS.out (fun k _ _ hk => hb3.block k hk)); have q2 := Aside0.mk (R_upd HIS.out (fun k _ _ hk => hb3.block k hk)); clear HKS HIS; have HKS := q1; have HIS := q2; clear q1 q2
      try (have q1 := Aside0.mk (And.intro ((hb3.block _ (lt_of_block HG3.out.1)).trans HG3.out.1) HG3.out.2); clear HG3; have HG3 := q1; clear q1)
      refine hK.out _ _ (HK1.out _ hc3) (fun hHeld => ?_)
      have HG12 := Aside0.mk (And.intro hh3 (show wr.heap.size ≤ g12 by have := HC.out.size; omega))
      clear HC e3 hh3 hs3 hb3
      rename World => wc
      have HC := Aside0.mk hc3
      clear hc3
      clear hK K
      refine ns_ ?_
      refine one_ (i := 4) (N := (some 24)) #[true, true, true, true, true, true, true, true, true, true, true, true, true, false, false, false, false, false] rfl rfl (one_of HT_.out (by kernel_rfl)) (by decide) (fun K hK => ?_)
      refine Kd.R_append_rows_step Kd.string (w0 := wc) (w.heap.size + 3) (by rfl) (.tmp 21) (.tmp 23) 22 9 (.string ⟨#[]⟩) 16 rfl Tryz.underlying22 Tryz.infoStr rfl (by decide) (by decide) kvv (woK nm (x.f3.take j)) [kk] (some ⟨g3, 0, none⟩) 1 1 (fun _ => True) (fun _ => False) (by rfl) (by rfl) HKS.out (show ReadsRow (Kd.string.K wc) 1 wc (some ⟨g3, 0, none⟩) 1 [kk] from one_str HG3.out.1) (fun _ _ h => h) (fun _ h => h.elim) (fun _ _ => trivial) (Below.refl _ _) (by have := HC.out.size; have := HB.out.2; omega) (by have := HE.out.2.2.2.1; omega) ?_
      intro kv1 wn hr1 hbn hg1 hat1
      obtain ⟨A1, n1, c1, rfl⟩ : ∃ A1 n1 c1, kv1 = .slice A1 n1 c1 := by obtain ⟨A1, c1, e⟩ := Kd.R_slice hr1; exact ⟨_, _, _, e⟩
      have hc3 := HC.out.grown hg1 (fun k e => .inl (.inl e.symm))
      try (have q1 := Aside0.mk (And.intro ((hg1.block _ (lt_of_block HG12.out.1) (HFR.out _ HG12.out.2).1).trans HG12.out.1) HG12.out.2); clear HG12; have HG12 := q1; clear q1)
      have q2 : Aside0 ((heldK S w).R 25 wn (w.heap.size + 3) (fun k => some k ≠ (Value.slice A1 n1 c1).ownBlock) ivv (woI nm (x.f3.take j) (x.f4.take j))) := by
       have h1 := R_upd (w1 := wn) (Kd.R_bound HIS.out) (fun k hok hk hlt => hg1.block k hlt hok.1)
       refine ⟨Kd.R_mono h1 (fun k hk e => ?_)⟩
       obtain ⟨h2, _, h3, _⟩ := hk
       rcases hat1 with h | ⟨g', hb', h⟩
       ·exact h2 (e.trans h)
       ·rw [hb'] at e
        have : k = g' := by simpa using e
        omega
      clear HIS HKS
      have HKS := Aside0.mk hr1
      have HIS := q2
      refine hK.out _ _ (HK1.out _ hc3) (fun hHeld => ?_)
      clear HC q2 hr1 hbn hg1 hat1
      rename World => wc
      have HC := Aside0.mk hc3
      clear hc3
      clear hK K
      refine ns_ ?_
      refine ps_ 14 34 HT_ ?_
      refine one_ (i := 13) (N := (some 33)) #[true, true, true, true, true, true, true, true, true, true, true, true, true, true, true, false, false, false] rfl rfl (one_of HT_.out (by kernel_rfl)) (by decide) (fun K hK => ?_)
      refine Kd.R_append_rows_step (heldK S w) (w0 := wc) (w.heap.size + 3) (by rfl) (.tmp 26) (.tmp 32) 23 25 (.agg #[.int .i64 0, .string ⟨#[]⟩, .string ⟨#[]⟩, .slice none 0 0, .slice none 0 0]) 88 rfl Tryz.underlying23 Tryz.infoNode rfl (by show 0 < 5; decide) (by decide) ivv (woI nm (x.f3.take j) (x.f4.take j)) [yy] (some ⟨g12, 0, none⟩) 1 1 (fun k => some k ≠ (Value.slice A1 n1 c1).ownBlock) (fun _ => False) (by rfl) (by rfl) HIS.out (show ReadsRow ((heldK S w).K wc) 5 wc (some ⟨g12, 0, none⟩) 1 [yy] from one_nodeH HG12.out.1 HE.out.1) (fun _ _ h => h) (fun _ h => h.elim) (fun k hk e => by have := (R_own HKS.out k e.symm).2.1; omega) (Below.refl _ _) (by have := HC.out.size; have := HB.out.2; omega) (by have := HE.out.2.2.2.2; omega) ?_
      intro iv1 wn hr1 hbn hg1 hat1
      obtain ⟨A5, n5, c5, rfl⟩ : ∃ A5 n5 c5, iv1 = .slice A5 n5 c5 := by obtain ⟨A5, c5, e⟩ := Kd.R_slice hr1; exact ⟨_, _, _, e⟩
      have hc3 := HC.out.grown hg1 (fun k e => .inl (.inr e.symm))
      have q1 : Aside0 (Kd.string.R 9 wn (w.heap.size + 3) (fun _ => True) (.slice A1 n1 c1) (woK nm (x.f3.take j) ++ [kk])) := by
       have h1 : Kd.string.R 9 wc (w.heap.size + 3) (fun k => some k = (Value.slice A1 n1 c1).ownBlock) (.slice A1 n1 c1) (woK nm (x.f3.take j) ++ [kk]) := ⟨fun k hk => hk.symm, HKS.out.2⟩
       refine ⟨Kd.R_mono (R_upd (w1 := wn) h1 (fun k hok hk hlt => hg1.block k hlt ?_)) (fun _ _ => trivial)⟩
       exact R_types_ne HKS.out HIS.out (by decide) k hok.symm
      clear HIS HKS
      have HKS := q1
      have HIS := Aside0.mk hr1
      refine hK.out _ _ (HK1.out _ hc3) (fun hHeld => ?_)
      clear HC q1 hr1 hbn hg1 hat1
      rename World => wc
      have HC := Aside0.mk hc3
      clear hc3
      clear hK K
      refine ns_ ?_
      refine last_ (i := 15) (N := none) #[true, true, true, true, true, true, true, true, true, true, true, true, true, true, true, true, false, false] rfl rfl (one_of HT_.out (by kernel_rfl)) (by decide) (fun K hK => ?_)
      have ho := (HC.out.block _ (lt_of_block HO.out) (fun q => by have := HOWN.out _ q; omega)).trans HO.out
      have HO15 := Aside0.mk ho
      have hcell : wc.cell? ⟨w.heap.size + 1 + 1, 3, none⟩ = some kvv := by rw [cell_of_block ho]; rfl
      have hfr : wc.frozen? ⟨w.heap.size + 1 + 1, 3, none⟩ = false := frozen_of_block ho
      clear ho
      rw [if_pos (by rfl)]
      go_simp
      refine hK.out _ _ ?_
      clear hcell hfr
      clear hK K
      refine ns_ ?_
      refine ps_ 16 35 HT_ ?_
      refine last_ (i := 17) (N := none) #[true, true, true, true, true, true, true, true, true, true, true, true, true, true, true, true, true, true] rfl rfl (one_of HT_.out (by kernel_rfl)) (by decide) (fun K hK => ?_)
      have ho := heap_set (a := ⟨w.heap.size + 1 + 1, 3, none⟩) (v := .slice A1 n1 c1) HO15.out rfl
      have HO17 := Aside0.mk ho
      have hcell : (wc.setCell ⟨w.heap.size + 1 + 1, 3, none⟩ (.slice A1 n1 c1)).cell? ⟨w.heap.size + 1 + 1, 4, none⟩ = some ivv := by rw [cell_of_block ho]; rfl
      have hfr : (wc.setCell ⟨w.heap.size + 1 + 1, 3, none⟩ (.slice A1 n1 c1)).frozen? ⟨w.heap.size + 1 + 1, 4, none⟩ = false := frozen_of_block ho
      clear ho
      rw [if_pos (by rfl)]
      go_simp
      refine hK.out _ _ ?_
      clear hcell hfr
      clear hK K
      refine ns_ ?_
      refine done_ (done_of HT_.out (by kernel_rfl)) ?_
      obtain ⟨w2, e2⟩ : ∃ w2, w2 = (wc.setCell ⟨w.heap.size + 1 + 1, 3, none⟩ (.slice A1 n1 c1)).setCell ⟨w.heap.size + 1 + 1, 4, none⟩ (.slice A5 n5 c5) := ⟨_, rfl⟩
      rw [← e2]
      have hO2 : w2.heap[w.heap.size + 1 + 1]? = some (.cells #[.int .i64 2, .string ⟨#[]⟩, .string ⟨#[]⟩, .slice A1 n1 c1, .slice A5 n5 c5] 25 (0, 0)) := by rw [e2]; exact heap_set (a := ⟨w.heap.size + 1 + 1, 4, none⟩) HO17.out rfl
      have hc2 : Chg (fun k => k = w.heap.size + 1 + 1) wc w2 := by rw [e2]; exact ((Chg.refl (fun k => k = w.heap.size + 1 + 1) wc).setCell (p := ⟨w.heap.size + 1 + 1, 3, none⟩) (.inl rfl) _).setCell (p := ⟨w.heap.size + 1 + 1, 4, none⟩) (.inl rfl) _
      have hcs := HC.out.size
      have hmv : ∀ k, k < wr.heap.size → k ≠ w.heap.size + 1 + 1 → (¬ (some k = kvv.ownBlock ∨ some k = ivv.ownBlock)) → w2.heap[k]? = wr.heap[k]? := fun k hk h1 h2 => (hc2.block k (by omega) h1).trans (HC.out.block k hk h2)
      have HB2 : Aside0 (Below w.heap.size w w2 ∧ w.heap.size + 3 ≤ w2.heap.size) := ⟨HB.out.1.trans ((HC.out.below HB.out.1.size (fun k q => by have := HOWN.out k q; omega)).trans (hc2.below (by have := HB.out.2; omega) (fun k e => by omega))), by have := HB.out.2; have := hc2.size; omega⟩
      have HX2 : Aside0 (inVar w2 w.heap.size x (some ad3) c3 (some ad) c4) := ⟨(hmv _ (lt_of_block HX.out) (by omega) (fun q => by have := HOWN.out _ q; omega)).trans HX.out⟩
      have HR2 : Aside0 (w2.heap[w.heap.size + 1]? = some (.cells #[.int .i64 0, .string ⟨#[]⟩, .string ⟨#[]⟩, .slice none 0 0, .slice none 0 0] 25 (0, 0))) := ⟨(hmv _ (lt_of_block HR.out) (by omega) (fun q => by have := HOWN.out _ q; omega)).trans HR.out⟩
      have HO2 := Aside0.mk hO2
      have HKS2 : Aside0 (Kd.string.R 9 w2 (w.heap.size + 3) (fun _ => True) (.slice A1 n1 c1) (woK nm (x.f3.take (j + 1)))) := by
       refine ⟨?_⟩
       rw [HE.out.2.1, if_neg HKN.out]
       exact R_upd HKS.out (fun k _ hk hlt => hc2.block k hlt (by omega))
      have HIS2 : Aside0 ((heldK S w).R 25 w2 (w.heap.size + 3) (fun k => some k ≠ (Value.slice A1 n1 c1).ownBlock) (.slice A5 n5 c5) (woI nm (x.f3.take (j + 1)) (x.f4.take (j + 1)))) := by
       refine ⟨?_⟩
       rw [HE.out.2.2.1, if_neg HKN.out]
       exact R_upd HIS.out (fun k _ hk hlt => hc2.block k hlt (by omega))
      clear e2 hO2 hc2 hcs hmv
      go_wp2_with fail
      go_roundg (gk - 1)
      case measure => have := HJ.out; omega
      case rel => exact ⟨j + 1, _, _, by go_num, ⟨by have := HJ.out; omega⟩, HB2, HX2, HR2, HO2, HKS2, HIS2⟩
    ·rw [if_pos (by rfl)]
     go_simp
     obtain ⟨wn, g12, e3, eg, hc3, hb3, hh3, hs3⟩ := alloc_step HC.out (.cells #[.int .i64 yy.f0, .string yy.f1, .string yy.f2, .slice B3 yy.f3.length b3, .slice B4 yy.f4.length b4] 25)
     rw [e3, eg]
     have q1 := Aside0.mk (R_upd HKS.out (fun k _ _ hk => hb3.block k hk)); have q2 := Aside0.mk (R_upd HIS.out (fun k _ _ hk => hb3.block k hk)); clear HKS HIS; have HKS := q1; have HIS := q2; clear q1 q2
     try (have q1 := Aside0.mk (And.intro ((hb3.block _ (lt_of_block HG3.out.1)).trans HG3.out.1) HG3.out.2); clear HG3; have HG3 := q1; clear q1)
     refine hK.out _ _ (HK1.out _ hc3) (fun hHeld => ?_)
     have HG12 := Aside0.mk (And.intro hh3 (show wr.heap.size ≤ g12 by have := HC.out.size; omega))
     clear HC e3 hh3 hs3 hb3
     rename World => wc
     have HC := Aside0.mk hc3
     clear hc3
     clear hK K
     refine ns_ ?_
     refine one_ (i := 3) (N := (some 23)) #[true, true, true, true, false, true, true, true, true, true, true, true, true, false, false, false, false, false] rfl rfl (one_of HT_.out (by kernel_rfl)) (by decide) (fun K hK => ?_)
     rw [if_pos (by rfl)]
     go_simp
     obtain ⟨wn, g3, e3, eg, hc3, hb3, hh3, hs3⟩ := alloc_step HC.out (.cells #[.string kk] 9)
     rw [e3, eg]
     have q1 := Aside0.mk (R_upd HKS.out (fun k _ _ hk => hb3.block k hk)); have q2 := Aside0.mk (R_upd HIS.out (fun k _ _ hk => hb3.block k hk)); clear HKS HIS; have HKS := q1; have HIS := q2; clear q1 q2
     try (have q1 := Aside0.mk (And.intro ((hb3.block _ (lt_of_block HG12.out.1)).trans HG12.out.1) HG12.out.2); clear HG12; have HG12 := q1; clear q1)
     refine hK.out _ _ (HK1.out _ hc3) (fun hHeld => ?_)
     have HG3 := Aside0.mk (And.intro hh3 (show wr.heap.size ≤ g3 by have := HC.out.size; omega))
     clear HC e3 hh3 hs3 hb3
     rename World => wc
     have HC := Aside0.mk hc3
     clear hc3
     clear hK K
     refine ns_ ?_
     refine one_ (i := 4) (N := (some 24)) #[true, true, true, true, true, true, true, true, true, true, true, true, true, false, false, false, false, false] rfl rfl (one_of HT_.out (by kernel_rfl)) (by decide) (fun K hK => ?_)
     refine Kd.R_append_rows_step Kd.string (w0 := wc) (w.heap.size + 3) (by rfl) (.tmp 21) (.tmp 23) 22 9 (.string ⟨#[]⟩) 16 rfl Tryz.underlying22 Tryz.infoStr rfl (by decide) (by decide) kvv (woK nm (x.f3.take j)) [kk] (some ⟨g3, 0, none⟩) 1 1 (fun _ => True) (fun _ => False) (by rfl) (by rfl) HKS.out (show ReadsRow (Kd.string.K wc) 1 wc (some ⟨g3, 0, none⟩) 1 [kk] from one_str HG3.out.1) (fun _ _ h => h) (fun _ h => h.elim) (fun _ _ => trivial) (Below.refl _ _) (by have := HC.out.size; have := HB.out.2; omega) (by have := HE.out.2.2.2.1; omega) ?_
     intro kv1 wn hr1 hbn hg1 hat1
     obtain ⟨A1, n1, c1, rfl⟩ : ∃ A1 n1 c1, kv1 = .slice A1 n1 c1 := by obtain ⟨A1, c1, e⟩ := Kd.R_slice hr1; exact ⟨_, _, _, e⟩
     have hc3 := HC.out.grown hg1 (fun k e => .inl (.inl e.symm))
     try (have q1 := Aside0.mk (And.intro ((hg1.block _ (lt_of_block HG12.out.1) (HFR.out _ HG12.out.2).1).trans HG12.out.1) HG12.out.2); clear HG12; have HG12 := q1; clear q1)
     have q2 : Aside0 ((heldK S w).R 25 wn (w.heap.size + 3) (fun k => some k ≠ (Value.slice A1 n1 c1).ownBlock) ivv (woI nm (x.f3.take j) (x.f4.take j))) := by
      have h1 := R_upd (w1 := wn) (Kd.R_bound HIS.out) (fun k hok hk hlt => hg1.block k hlt hok.1)
      refine ⟨Kd.R_mono h1 (fun k hk e => ?_)⟩
      obtain ⟨h2, _, h3, _⟩ := hk
      rcases hat1 with h | ⟨g', hb', h⟩
      ·exact h2 (e.trans h)
      ·rw [hb'] at e
       have : k = g' := by simpa using e
       omega
     clear HIS HKS
     have HKS := Aside0.mk hr1
     have HIS := q2
     refine hK.out _ _ (HK1.out _ hc3) (fun hHeld => ?_)
     clear HC q2 hr1 hbn hg1 hat1
     rename World => wc
     have HC := Aside0.mk hc3
     clear hc3
     clear hK K
     refine ns_ ?_
     refine ps_ 14 34 HT_ ?_
     refine one_ (i := 13) (N := (some 33)) #[true, true, true, true, true, true, true, true, true, true, true, true, true, true, true, false, false, false] rfl rfl (one_of HT_.out (by kernel_rfl)) (by decide) (fun K hK => ?_)
     refine Kd.R_append_rows_step (heldK S w) (w0 := wc) (w.heap.size + 3) (by rfl) (.tmp 26) (.tmp 32) 23 25 (.agg #[.int .i64 0, .string ⟨#[]⟩, .string ⟨#[]⟩, .slice none 0 0, .slice none 0 0]) 88 rfl Tryz.underlying23 Tryz.infoNode rfl (by show 0 < 5; decide) (by decide) ivv (woI nm (x.f3.take j) (x.f4.take j)) [yy] (some ⟨g12, 0, none⟩) 1 1 (fun k => some k ≠ (Value.slice A1 n1 c1).ownBlock) (fun _ => False) (by rfl) (by rfl) HIS.out (show ReadsRow ((heldK S w).K wc) 5 wc (some ⟨g12, 0, none⟩) 1 [yy] from one_nodeH HG12.out.1 HE.out.1) (fun _ _ h => h) (fun _ h => h.elim) (fun k hk e => by have := (R_own HKS.out k e.symm).2.1; omega) (Below.refl _ _) (by have := HC.out.size; have := HB.out.2; omega) (by have := HE.out.2.2.2.2; omega) ?_
     intro iv1 wn hr1 hbn hg1 hat1
     obtain ⟨A5, n5, c5, rfl⟩ : ∃ A5 n5 c5, iv1 = .slice A5 n5 c5 := by obtain ⟨A5, c5, e⟩ := Kd.R_slice hr1; exact ⟨_, _, _, e⟩
     have hc3 := HC.out.grown hg1 (fun k e => .inl (.inr e.symm))
     have q1 : Aside0 (Kd.string.R 9 wn (w.heap.size + 3) (fun _ => True) (.slice A1 n1 c1) (woK nm (x.f3.take j) ++ [kk])) := by
      have h1 : Kd.string.R 9 wc (w.heap.size + 3) (fun k => some k = (Value.slice A1 n1 c1).ownBlock) (.slice A1 n1 c1) (woK nm (x.f3.take j) ++ [kk]) := ⟨fun k hk => hk.symm, HKS.out.2⟩
      refine ⟨Kd.R_mono (R_upd (w1 := wn) h1 (fun k hok hk hlt => hg1.block k hlt ?_)) (fun _ _ => trivial)⟩
      exact R_types_ne HKS.out HIS.out (by decide) k hok.symm
     clear HIS HKS
     have HKS := q1
     have HIS := Aside0.mk hr1
     refine hK.out _ _ (HK1.out _ hc3) (fun hHeld => ?_)
     clear HC q1 hr1 hbn hg1 hat1
     rename World => wc
     have HC := Aside0.mk hc3
     clear hc3
     clear hK K
     refine ns_ ?_
     refine last_ (i := 15) (N := none) #[true, true, true, true, true, true, true, true, true, true, true, true, true, true, true, true, false, false] rfl rfl (one_of HT_.out (by kernel_rfl)) (by decide) (fun K hK => ?_)
     have ho := (HC.out.block _ (lt_of_block HO.out) (fun q => by have := HOWN.out _ q; omega)).trans HO.out
     have HO15 := Aside0.mk ho
     have hcell : wc.cell? ⟨w.heap.size + 1 + 1, 3, none⟩ = some kvv := by rw [cell_of_block ho]; rfl
     have hfr : wc.frozen? ⟨w.heap.size + 1 + 1, 3, none⟩ = false := frozen_of_block ho
     clear ho
     rw [if_pos (by rfl)]
     go_simp
     refine hK.out _ _ ?_
     clear hcell hfr
     clear hK K
     refine ns_ ?_
     refine ps_ 16 35 HT_ ?_
     refine last_ (i := 17) (N := none) #[true, true, true, true, true, true, true, true, true, true, true, true, true, true, true, true, true, true] rfl rfl (one_of HT_.out (by kernel_rfl)) (by decide) (fun K hK => ?_)
     have ho := heap_set (a := ⟨w.heap.size + 1 + 1, 3, none⟩) (v := .slice A1 n1 c1) HO15.out rfl
     have HO17 := Aside0.mk ho
     have hcell : (wc.setCell ⟨w.heap.size + 1 + 1, 3, none⟩ (.slice A1 n1 c1)).cell? ⟨w.heap.size + 1 + 1, 4, none⟩ = some ivv := by rw [cell_of_block ho]; rfl
     have hfr : (wc.setCell ⟨w.heap.size + 1 + 1, 3, none⟩ (.slice A1 n1 c1)).frozen? ⟨w.heap.size + 1 + 1, 4, none⟩ = false := frozen_of_block ho
     clear ho
     rw [if_pos (by rfl)]
     go_simp
     refine hK.out _ _ ?_
     clear hcell hfr
     clear hK K
     refine ns_ ?_
     refine done_ (done_of HT_.out (by kernel_rfl)) ?_
     obtain ⟨w2, e2⟩ : ∃ w2, w2 = (wc.setCell ⟨w.heap.size + 1 + 1, 3, none⟩ (.slice A1 n1 c1)).setCell ⟨w.heap.size + 1 + 1, 4, none⟩ (.slice A5 n5 c5) := ⟨_, rfl⟩
     rw [← e2]
     have hO2 : w2.heap[w.heap.size + 1 + 1]? = some (.cells #[.int .i64 2, .string ⟨#[]⟩, .string ⟨#[]⟩, .slice A1 n1 c1, .slice A5 n5 c5] 25 (0, 0)) := by rw [e2]; exact heap_set (a := ⟨w.heap.size + 1 + 1, 4, none⟩) HO17.out rfl
     have hc2 : Chg (fun k => k = w.heap.size + 1 + 1) wc w2 := by rw [e2]; exact ((Chg.refl (fun k => k = w.heap.size + 1 + 1) wc).setCell (p := ⟨w.heap.size + 1 + 1, 3, none⟩) (.inl rfl) _).setCell (p := ⟨w.heap.size + 1 + 1, 4, none⟩) (.inl rfl) _
     have hcs := HC.out.size
     have hmv : ∀ k, k < wr.heap.size → k ≠ w.heap.size + 1 + 1 → (¬ (some k = kvv.ownBlock ∨ some k = ivv.ownBlock)) → w2.heap[k]? = wr.heap[k]? := fun k hk h1 h2 => (hc2.block k (by omega) h1).trans (HC.out.block k hk h2)
     have HB2 : Aside0 (Below w.heap.size w w2 ∧ w.heap.size + 3 ≤ w2.heap.size) := ⟨HB.out.1.trans ((HC.out.below HB.out.1.size (fun k q => by have := HOWN.out k q; omega)).trans (hc2.below (by have := HB.out.2; omega) (fun k e => by omega))), by have := HB.out.2; have := hc2.size; omega⟩
     have HX2 : Aside0 (inVar w2 w.heap.size x (some ad3) c3 (some ad) c4) := ⟨(hmv _ (lt_of_block HX.out) (by omega) (fun q => by have := HOWN.out _ q; omega)).trans HX.out⟩
     have HR2 : Aside0 (w2.heap[w.heap.size + 1]? = some (.cells #[.int .i64 0, .string ⟨#[]⟩, .string ⟨#[]⟩, .slice none 0 0, .slice none 0 0] 25 (0, 0))) := ⟨(hmv _ (lt_of_block HR.out) (by omega) (fun q => by have := HOWN.out _ q; omega)).trans HR.out⟩
     have HO2 := Aside0.mk hO2
     have HKS2 : Aside0 (Kd.string.R 9 w2 (w.heap.size + 3) (fun _ => True) (.slice A1 n1 c1) (woK nm (x.f3.take (j + 1)))) := by
      refine ⟨?_⟩
      rw [HE.out.2.1, if_neg HKN.out]
      exact R_upd HKS.out (fun k _ hk hlt => hc2.block k hlt (by omega))
     have HIS2 : Aside0 ((heldK S w).R 25 w2 (w.heap.size + 3) (fun k => some k ≠ (Value.slice A1 n1 c1).ownBlock) (.slice A5 n5 c5) (woI nm (x.f3.take (j + 1)) (x.f4.take (j + 1)))) := by
      refine ⟨?_⟩
      rw [HE.out.2.2.1, if_neg HKN.out]
      exact R_upd HIS.out (fun k _ hk hlt => hc2.block k hlt (by omega))
     clear e2 hO2 hc2 hcs hmv
     go_wp2_with fail
     go_roundg (gk - 1)
     case measure => have := HJ.out; omega
     case rel => exact ⟨j + 1, _, _, by go_num, ⟨by have := HJ.out; omega⟩, HB2, HX2, HR2, HO2, HKS2, HIS2⟩
  ·have hje : j = x.f3.length := by have := HJ.out; omega
   have HKA := HKS.out
   have HIA := HIS.out
   rw [hje, List.take_length] at HKA
   rw [hje, List.take_length, HM.out.1, List.take_length] at HIA
   obtain ⟨A1, c1, rfl, lk, hCK⟩ := Kd.R_reads HKA
   obtain ⟨A5, c5, rfl, li, hCI⟩ := Kd.R_reads HIA
   have HA := Aside0.mk (And.intro HKA HIA)
   clear hje HKA HIA HKS HIS lk hCK li hCI
   obtain ⟨co0, co1, co2, co3, co4, zo0, zo1, zo2, zo3, zo4⟩ := fc_ HO.out
   obtain ⟨cr0, cr1, cr2, cr3, cr4, zr0, zr1, zr2, zr3, zr4⟩ := fc_ HR.out
   go_wp2_with fail
   obtain ⟨wf, ef, hf, hcf⟩ := set5 (v0 := .int .i64 2) (v1 := .string ⟨#[]⟩) (v2 := .string ⟨#[]⟩) (v3 := .slice A1 (woK nm x.f3).length c1) (v4 := .slice A5 (woI nm x.f3 x.f4).length c5) HR.out
   rw [ef]
   have HF := Aside0.mk hf
   obtain ⟨cf0, cf1, cf2, cf3, cf4, zf0, zf1, zf2, zf3, zf4⟩ := fc_ HF.out
   clear co0 co1 co2 co3 co4 zo0 zo1 zo2 zo3 zo4 cr0 cr1 cr2 cr3 cr4 zr0 zr1 zr2 zr3 zr4 hf ef
   have hbf : Below w.heap.size w wf := HB.out.1.trans (hcf.below HB.out.1.size (fun k e => by omega))
   refine bodyPost_ret (v := nodeV (wo x nm) A1 c1 A5 c5) (by simp [results, Tryz.results17, go_sem, cf0, cf1, cf2, cf3, cf4, wo]) rfl ⟨A1, c1, A5, c5, rfl, ?_, hbf⟩
   intro W' hW
   have hns : ∀ k, w.heap.size + 3 ≤ k → ¬ S k := fun k hb q => by have := HSS.out k q; omega
   obtain ⟨_, lk, hCK⟩ := Kd.R_reads' (R_upd (w1 := W') (R_upd (w1 := wf) HA.out.1 (fun k _ hk hlt => hcf.block k hlt (by omega))) (fun k _ hb hlt => hW.block k hlt (hns k hb)))
   obtain ⟨_, li, hCI⟩ := Kd.R_reads' (R_upd (w1 := W') (R_upd (w1 := wf) HA.out.2 (fun k _ hk hlt => hcf.block k hlt (by omega))) (fun k _ hb hlt => hW.block k hlt (hns k hb)))
   exact k25_mk W' (wo x nm) lk hCK li (C_of_held ((Chg.of_below hbf).trans hW (fun k q => .inl q)) hCI)
end Go.Proofs.YtkpdkoafngjflaaGreat
