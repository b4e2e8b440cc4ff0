import Derived.Test.YtkpdkoafngjflaaGreatSh
import Derived.Test.YtkpdkoafngjflaaGreatCut
namespace Go.Proofs.YtkpdkoafngjflaaGreat
open Go.RowKit Go.Proofs.YtkpdkoafngjflaaGreatW.PrintWords Go.Proofs.YtkpdkoafngjflaaGreatW.PrintLast Go.Proofs.YtkpdkoafngjflaaGreat.PFnFields
set_option linter.unusedVariables false
set_option linter.unusedSimpArgs false
theorem goesC_ {P : Program} {ops : Array Oper} {Q : Exit → Act → World → Prop} {oi : Oper} {N : Option Tmp} {a : Act} {w : World} {K : Act → World → Prop} {f : FuncId} {o : Operand} {ops_ : Array Operand} {ts : Array TypeId} (args cap : Array Value)
  (hw : Region.wanted oi (yielded ops a.tmps) = true) (hN : oi.dst = N) (hop : oi.op = .call { callee := .value o, args := ops_, argTypes := ts }) (ho : a.eval o = .func (.func f) #[] cap) (hargs : ops_.map a.eval = args)
  (hf : ∀ (xs : Array Value) (wa : World), (callFunc f xs).run P wa = .ok (.enter f xs) wa)
  (h : Calls P f (args ++ cap) w fun e w' => ∃ v, e = .returned v ∧ K (a.put N v) w') : if Region.wanted oi (yielded ops a.tmps) = true then Oper.wp P oi a w K Q else K (a.put N undef) w := by
 refine call_ f (args ++ cap) hw hN ?_ h
 unfold execOp
 simp [hop, resolve, Deferred.ofValue, invoke, hargs, ho, hf]
def while3.T : Bool × List (List Nat × List Nat) := (true, [([], []), ([], []), ([], []), ([1, 2], [1, 2]), ([3], [3]), ([], []), ([], []), ([6], [6]), ([5, 7], [5, 7]), ([8], [8]), ([], []), ([0, 4, 9, 10], [0, 4, 9, 10]), ([11, 11, 0, 1, 2, 3, 4, 5, 6, 7, 8, 9, 10, 11], [11])])
def while3.B : List Nat := [0, 0, 0, 6, 14, 0, 0, 64, 224, 480, 0, 2047, 4095]
theorem while3.tab : rtab .any (opsOf Tryz.f95 3) = while3.T := by kernel_rfl
theorem while3.bits : waitsOk while3.T.2 while3.B = true := by kernel_rfl
def pick3.T : Bool × List (List Nat × List Nat) := (true, [([], []), ([0], [0]), ([1], [1]), ([], []), ([3], [3]), ([4], [4]), ([5], [5]), ([2, 6], [2, 6])])
def pick3.B : List Nat := [0, 1, 3, 0, 8, 24, 56, 127]
theorem pick3.tab : rtab .any (opsOf Tryz.f97 3) = pick3.T := by kernel_rfl
theorem pick3.bits : waitsOk pick3.T.2 pick3.B = true := by kernel_rfl
def WhilePost (Q : World → Prop) (e : Ending) (w' : World) : Prop := e = .returned (.tuple #[]) ∧ Q w'
set_option maxRecDepth 100000 in
set_option maxHeartbeats 1600000 in
theorem while_calls (w : World) (A : Option Addr) (g c m n : Nat) (bs : List Nat) (f : FuncId) (cap : Array Value) (I : Nat → World → Prop) (Q : World → Prop)
  (hf : ∀ (xs : Array Value) (wa : World), (callFunc f xs).run Tryz.prog wa = .ok (.enter f xs) wa)
  (hA : 0 < m → A = some ⟨g, 0, none⟩) (hm : bs.length = 2 * m) (hn : n = 2 * m) (hb : m ≤ 1000)
  (hcell : ∀ j w', I j w' → ∀ i (h : i < bs.length), w'.cell? ⟨g, i, none⟩ = some (ptr bs[i]))
  (hI : ∀ j w', j < m → I j w' → Calls Tryz.prog f (#[ptr (bs.getD (2 * j) 0), ptr (bs.getD (2 * j + 1) 0), .int .i64 (2 * j : Nat)] ++ cap) w' fun e w'' => ∃ c, e = .returned (.bool c) ∧ (c = true → I (j + 1) w'') ∧ (c = false → Q w''))
  (hd : ∀ j w', I j w' → I j w'.drew) (hQ : ∀ w', I m w' → Q w') (h0 : I 0 w) :
  Calls Tryz.prog 95 #[.slice A n c, .func (.func f) #[] cap] w (WhilePost Q) := by
 have HM := Aside0.mk (And.intro hm (And.intro hn hb))
 have HCE := Aside0.mk hcell
 have HI := Aside0.mk hI
 have HD := Aside0.mk hd
 have HQ := Aside0.mk hQ
 have H0 := Aside0.mk h0
 have HA := Aside0.mk hA
 have hnm : n ≤ 9223372036854775807 := by omega
 clear hm hn hb hcell hI hd hQ h0 hA
 go_enter Tryz.func95, Tryz.ntmps95
 go_wp2_with fail
 go_loopg [4] m (fun k i wr => ∃ j : Nat, i = .int .i64 (2 * j : Nat) ∧ Aside0 (j ≤ m ∧ k + j = m) ∧ Aside0 (I j wr))
 case atStart => exact ⟨0, rfl, ⟨by omega⟩, H0⟩
 case round =>
  clear H0
  obtain ⟨j, rfl, HJ, HIJ⟩ := hrel
  by_cases hj : j < m
  ·have hA := HA.out (by omega)
   subst hA
   have hj1 : 2 * j < n := by have := HM.out; omega
   have hj2 : 2 * j + 1 < n := by have := HM.out; omega
   have hjb : decide (((2 * j : Nat) : Int) < (n : Int)) = true := by simp; omega
   have hw1 : wrap64 (((2 * j : Nat) : Int) + 1) = ((2 * j + 1 : Nat) : Int) := by unfold wrap64; have := HM.out; omega
   have hw2 : wrap64 (((2 * j : Nat) : Int) + 2) = ((2 * (j + 1) : Nat) : Int) := by unfold wrap64; have := HM.out; omega
   have ht1 : (((2 * j : Nat) : Int)).toNat = 2 * j := by omega
   have ht2 : (((2 * j + 1 : Nat) : Int)).toNat = 2 * j + 1 := by omega
   obtain ⟨p1, hp1⟩ : ∃ p, p = bs.getD (2 * j) 0 := ⟨_, rfl⟩
   obtain ⟨p2, hp2⟩ : ∃ p, p = bs.getD (2 * j + 1) 0 := ⟨_, rfl⟩
   have HP := Aside0.mk (And.intro hp1 hp2)
   have HS : Aside0 (∀ w', I j w' → w'.cell? ⟨g, 2 * j, none⟩ = some (ptr p1) ∧ w'.cell? ⟨g, 2 * j + 1, none⟩ = some (ptr p2)) := ⟨fun w' hi => by
    have q1 := HCE.out j w' hi (2 * j) (by have := HM.out; omega)
    have q2 := HCE.out j w' hi (2 * j + 1) (by have := HM.out; omega)
    rw [hp1, hp2, List.getD_eq_getElem?_getD, List.getD_eq_getElem?_getD, List.getElem?_eq_getElem (by have := HM.out; omega), List.getElem?_eq_getElem (by have := HM.out; omega)]
    exact ⟨q1, q2⟩⟩
   clear hp1 hp2
   have hw5 : wrap64 (((2 * j : Nat) : Int) + 2) = ((2 * j : Nat) : Int) + 2 := by rw [hw2]; omega
   have hw6 : ((2 * (j + 1) : Nat) : Int) = ((2 * j : Nat) : Int) + 2 := by omega
   generalize hq : 2 * j = q at hw5 hw6 hj1 hj2 hjb hw1 hw2 ht1 ht2 HS
   have HQJ := Aside0.mk hq
   clear hq
   go_wp2_with fail
   have hv1 : wrap64 ((q : Int) + 1) = (q : Int) + 1 := by rw [hw1]; omega
   have hv2 : (0 : Int) ≤ (q : Int) + 1 := by omega
   have hv3 : (q : Int) + 1 < (n : Int) := by omega
   have hv4 : ((q : Int) + 1).toNat = q + 1 := by omega
   refine start_ (n := 13) (S := fun w' => w'.cell? ⟨g, q, none⟩ = some (ptr p1) ∧ w'.cell? ⟨g, q + 1, none⟩ = some (ptr p2)) (ds := [11]) #[false, false, false, false, false, false, false, false, false, false, false, false, false] (by kernel_rfl) rfl rfl (HS.out _ (HD.out _ _ HIJ.out)) (fun hHeld => ?_)
   refine with_tabW (T := while3.T) (B := while3.B) while3.tab while3.bits (fun HT_ HW_ => ?_)
   refine ps_ 0 12 HT_ ?_
   refine ps_ 1 13 HT_ ?_
   refine ps_ 2 14 HT_ ?_
   refine ps_ 3 15 HT_ ?_
   refine ps_ 5 17 HT_ ?_
   refine ps_ 6 18 HT_ ?_
   refine ps_ 7 19 HT_ ?_
   refine ps_ 8 20 HT_ ?_
   refine ps_ 10 22 HT_ ?_
   refine ts_ 4 16 HT_ HW_ hHeld ?_
   refine ts_ 9 21 HT_ HW_ hHeld ?_
   refine last_ (i := 11) (N := (some 23)) #[true, true, true, true, true, true, true, true, true, true, true, true, false] rfl rfl (one_of HT_.out (by kernel_rfl)) (by decide) (fun K hK => ?_)
   refine goesC_ #[ptr p1, ptr p2, .int .i64 q] cap (by rfl) rfl rfl rfl (by simp only [List.map_toArray, List.map_cons, List.map_nil]; rfl) hf ?_
   have hcall := HI.out j _ hj (HD.out _ _ HIJ.out)
   rw [← HP.out.1, ← HP.out.2, HQJ.out] at hcall
   refine hcall.mono ?_
   rintro e w1 ⟨r, rfl, hr1, hr2⟩
   have HR := Aside0.mk (And.intro hr1 hr2)
   clear hr1 hr2 hcall
   refine ⟨_, rfl, ?_⟩
   refine hK.out _ _ ?_
   clear hK K
   refine ns_ ?_
   refine ps_ 12 5 HT_ ?_
   refine done_ (done_of HT_.out (by kernel_rfl)) ?_
   cases r
   ·go_wp2_with fail
    exact bodyPost_ret (v := .tuple #[]) (by simp [results, Tryz.results95, go_sem]) rfl ⟨rfl, HR.out.2 trivial⟩
   ·go_wp2_with fail
    go_roundg (gk - 1)
    case measure => have := HJ.out; omega
    case rel => exact ⟨j + 1, by rw [hw6], ⟨by have := HJ.out; omega⟩, ⟨HR.out.1 trivial⟩⟩
  ·have hjb : decide (2 * (j : Int) < (n : Int)) = false := by simp; have := HJ.out; have := HM.out; omega
   go_wp2_with fail
   have e : j = m := by have := HJ.out; omega
   refine ⟨rfl, .tuple #[], ?_, ?_⟩
   ·simp [results, Tryz.results95, go_sem]
   ·exact ⟨rfl, HQ.out _ (by rw [← e]; exact HIJ.out)⟩
theorem pick_calls (w : World) (nm : ByteArray) (ak : Nat) (kb : Nat) (t v : ByteArray) (cv : Value) (hn : NB w kb 8 t v cv) (vb : Nat) (q : Int) (a3 a4 : Nat) (f : FuncId) (cap : Array Value) (c : Nat)
  (hf : ∀ (xs : Array Value) (wa : World), (callFunc f xs).run Tryz.prog wa = .ok (.enter f xs) wa)
  (h3 : w.heap[a3]? = some (.cells #[.slice (some ⟨ak, 0, none⟩) 1 c] 22 (0, 0))) (h4 : w.heap[a4]? = some (.cells #[.func (.func f) #[] cap] 127 (0, 0)))
  (hk : w.heap[ak]? = some (.cells #[.string nm] 9 (0, 0))) (Q : World → Prop)
  (hQ : v = nm → ∀ wa, Chg (fun _ => False) w wa → Calls Tryz.prog f (#[ptr kb, ptr vb] ++ cap) wa fun e w' => e = .returned (.tuple #[]) ∧ Q w') :
  Calls Tryz.prog 97 #[ptr kb, ptr vb, .int .i64 q, .pointer (some ⟨a3, 0, none⟩), .pointer (some ⟨a4, 0, none⟩)] w fun e w' => ∃ r, e = .returned (.bool r) ∧ (r = true → v ≠ nm ∧ Chg (fun _ => False) w w') ∧ (r = false → v = nm ∧ Q w') := by
 have c1 := hn.value
 have c3 : w.cell? ⟨a3, 0, none⟩ = some (.slice (some ⟨ak, 0, none⟩) 1 c) := by rw [cell_of_block h3]; rfl
 have c4 : w.cell? ⟨a4, 0, none⟩ = some (.func (.func f) #[] cap) := by rw [cell_of_block h4]; rfl
 have ck : w.cell? ⟨ak, 0, none⟩ = some (.string nm) := by rw [cell_of_block hk]; rfl
 have HQ := Aside0.mk hQ
 have HC := Aside0.mk (And.intro c1 (And.intro c3 (And.intro c4 ck)))
 clear hn h3 h4 hk hQ c1 c3 c4 ck
 go_enter Tryz.func97, Tryz.ntmps97
 go_wp2_with fail
 refine start_ (n := 8) (S := fun w' => w'.cell? ⟨kb, 3, none⟩ = some (.string v) ∧ w'.cell? ⟨a3, 0, none⟩ = some (.slice (some ⟨ak, 0, none⟩) 1 c) ∧ w'.cell? ⟨ak, 0, none⟩ = some (.string nm)) (ds := []) #[false, false, false, false, false, false, false, false] (by kernel_rfl) rfl rfl ⟨HC.out.1, HC.out.2.1, HC.out.2.2.2⟩ (fun hHeld => ?_)
 refine with_tabW (T := pick3.T) (B := pick3.B) pick3.tab pick3.bits (fun HT_ HW_ => ?_)
 refine ps_ 3 14 HT_ ?_
 refine ps_ 4 15 HT_ ?_
 refine ps_ 5 16 HT_ ?_
 refine ts_ 0 11 HT_ HW_ hHeld ?_
 refine ps_ 1 12 HT_ ?_
 refine ts_ 2 13 HT_ HW_ hHeld ?_
 refine ts_ 6 17 HT_ HW_ hHeld ?_
 refine ps_ 7 18 HT_ ?_
 refine done_ (done_of HT_.out (by kernel_rfl)) ?_
 have HD : Aside0 (Chg (fun _ => False) w w.drew) := ⟨(Chg.refl _ w).drew⟩
 have ck4 : w.drew.cell? ⟨a4, 0, none⟩ = some (.func (.func f) #[] cap) := HC.out.2.2.1
 generalize w.drew = wd at *
 by_cases hv : v = nm
 ·have hb : (nm.toList == v.toList) = true := by rw [hv]; simp
  have HV := Aside0.mk hv
  rw [hb]
  clear hv hb
  go_wp2_with fail
  refine (HQ.out HV.out _ HD.out).mono ?_
  rintro e w1 ⟨rfl, hq⟩
  have HQ1 := Aside0.mk hq
  clear hq
  go_wp2
  go_ret
  exact ⟨false, rfl, (fun h => by cases h), fun _ => ⟨HV.out, HQ1.out⟩⟩
 ·have hb : (nm.toList == v.toList) = false := by
   rw [beq_eq_false_iff_ne]
   exact fun e => hv (bytes_ext e.symm)
  rw [hb]
  clear hb
  go_wp2
  go_ret
  exact ⟨true, rfl, fun _ => ⟨hv, HD.out⟩, fun h => by cases h⟩
def NamedPost (w : World) (ks : List ByteArray) (nm : ByteArray) (Q : Nat → World → Prop) (e : Ending) (w' : World) : Prop :=
 e = .returned (.tuple #[]) ∧ ((nm ∉ ks ∧ Below w.heap.size w w') ∨ ∃ j, ks[j]? = some nm ∧ Q j w')
set_option maxRecDepth 100000 in
theorem named_calls (w : World) (nm : ByteArray) (ak ck : Nat) (A : Option Addr) (g c : Nat) (ks : List ByteArray) (bs : List Nat) (f : FuncId) (cap : Array Value) (Q : Nat → World → Prop)
  (hf : ∀ (xs : Array Value) (wa : World), (callFunc f xs).run Tryz.prog wa = .ok (.enter f xs) wa)
  (hk : w.heap[ak]? = some (.cells #[.string nm] 9 (0, 0)))
  (hA : 0 < ks.length → A = some ⟨g, 0, none⟩) (hm : bs.length = 2 * ks.length) (hb : ks.length ≤ 1000)
  (hcell : ∀ i (h : i < bs.length), w.cell? ⟨g, i, none⟩ = some (ptr bs[i]))
  (hkey : ∀ j (h : j < ks.length), ∃ t cv, NB w (bs.getD (2 * j) 0) 8 t ks[j] cv)
  (hQ : ∀ j wa, ks[j]? = some nm → Below w.heap.size w wa → Calls Tryz.prog f (#[ptr (bs.getD (2 * j) 0), ptr (bs.getD (2 * j + 1) 0)] ++ cap) wa fun e w' => e = .returned (.tuple #[]) ∧ Q j w') :
  Calls Tryz.prog 73 #[.slice A bs.length c, .func (.func f) #[] cap, .slice (some ⟨ak, 0, none⟩) 1 ck] w (NamedPost w ks nm Q) := by
 have hmf : ∀ (fn : Fn) (first cap : Array Value) (w : World), (Instr.makeFunc fn first cap).run Tryz.prog w = .ok (.func fn first cap) w := fun _ _ _ _ => rfl
 have HC := Aside0.mk hcell
 have HK := Aside0.mk hkey
 have HQ := Aside0.mk hQ
 have HAK := Aside0.mk hk
 have HM := Aside0.mk (And.intro hA (And.intro hm hb))
 clear hcell hkey hQ hk hA hm hb
 go_enter Tryz.func73, Tryz.ntmps73
 go_wp2_with fail
 obtain ⟨w0, e0⟩ : ∃ w0, w0 = (w.alloc (.cells #[.func (.func f) #[] cap] 127)).alloc (.cells #[.slice (some ⟨ak, 0, none⟩) 1 ck] 22) := ⟨_, rfl⟩
 rw [← e0]
 have hb0 : Below w.heap.size w w0 := by rw [e0]; exact ((Below.refl _ _).alloc (Nat.le_refl _) _).alloc (by simp) _
 have hw3 : w0.heap[w.heap.size + 1]? = some (.cells #[.slice (some ⟨ak, 0, none⟩) 1 ck] 22 (0, 0)) := by rw [e0]; exact heap_at _ (by simp)
 have hw4 : w0.heap[w.heap.size]? = some (.cells #[.func (.func f) #[] cap] 127 (0, 0)) := by rw [e0]; exact (heap_old _ (by simp)).trans (heap_at _ rfl)
 have HB0 := Aside0.mk (And.intro hb0 (And.intro hw3 hw4))
 clear hb0 hw3 hw4 e0
 refine (while_calls w0 A g c ks.length bs.length bs 97 _ (fun j wr => Chg (fun _ => False) w0 wr ∧ ∀ i, i < j → ks[i]? ≠ some nm) (fun wr => (nm ∉ ks ∧ Below w.heap.size w wr) ∨ ∃ j, ks[j]? = some nm ∧ Q j wr)
  (fun xs wa => enters_ Tryz.func97 rfl rfl xs wa) HM.out.1 HM.out.2.1 HM.out.2.1 HM.out.2.2 ?cell ?round ?drew ?done ⟨Chg.refl _ _, fun i hi => by omega⟩).mono ?_
 case cell =>
  intro j w' ⟨hc, _⟩ i hi
  exact hc.cell_of ((HB0.out.1.cell (World.block_lt_of_cell? w _ (HC.out i hi))).trans (HC.out i hi)) (fun q => q)
 case drew => intro j w' ⟨hc, h⟩; exact ⟨hc.drew, h⟩
 case done =>
  intro w' ⟨hc, h⟩
  refine .inl ⟨fun hmem => ?_, HB0.out.1.trans (hc.below HB0.out.1.size (fun _ q => q.elim))⟩
  obtain ⟨i, hi, he⟩ := List.getElem_of_mem hmem
  exact h i hi (by rw [List.getElem?_eq_getElem hi, he])
 case round =>
  intro j w' hj ⟨hc, h⟩
  obtain ⟨t, cv, hn⟩ := HK.out j hj
  have hc0 : Below w.heap.size w w' := HB0.out.1.trans (hc.below HB0.out.1.size (fun _ q => q.elim))
  refine (pick_calls w' nm ak _ t ks[j] cv (hn.below hc0) _ _ (w.heap.size + 1) w.heap.size f cap ck hf ((hc.block _ (lt_of_block HB0.out.2.1) (fun q => q)).trans HB0.out.2.1) ((hc.block _ (lt_of_block HB0.out.2.2) (fun q => q)).trans HB0.out.2.2)
   ((hc0.block _ (lt_of_block HAK.out)).trans HAK.out) (Q j) (fun he wa hwa => HQ.out j wa (by rw [List.getElem?_eq_getElem hj, he]) (hc0.trans (hwa.below hc0.size (fun _ q => q.elim))))).mono ?_
  rintro e w1 ⟨r, rfl, h1, h2⟩
  refine ⟨r, rfl, fun hr => ?_, fun hr => ?_⟩
  ·obtain ⟨hne, hcc⟩ := h1 hr
   refine ⟨hc.trans hcc (fun _ q => q.elim), fun i hi => ?_⟩
   rcases Nat.lt_succ_iff_lt_or_eq.1 hi with hi | rfl
   ·exact h i hi
   ·rw [List.getElem?_eq_getElem hj]; exact fun e => hne (by simpa using e)
  ·obtain ⟨he, hq⟩ := h2 hr
   exact .inr ⟨j, by rw [List.getElem?_eq_getElem hj, he], hq⟩
 rintro e w1 ⟨rfl, hq⟩
 have HQ1 := Aside0.mk hq
 clear hq
 go_wp2
 refine ⟨rfl, .tuple #[], ?_, ?_⟩
 ·simp [results, Tryz.results73, go_sem]
 ·exact ⟨rfl, HQ1.out⟩
def FieldAt (w0 w' : World) (bs : List Nat) (j m kr vr : Nat) : Prop :=
 w'.heap[m]? = some (.cells #[ptr kr, ptr vr] 93 (0, 0)) ∧ RN w' kr (bs.getD (2 * j) 0) ∧ RN w' vr (bs.getD (2 * j + 1) 0) ∧ w0.heap.size ≤ m ∧ w0.heap.size ≤ kr ∧ w0.heap.size ≤ vr
theorem fieldcall_calls (w : World) (kb vb a : Nat) (h : w.heap[a]? = some (.cells #[.pointer none] 90 (0, 0))) :
  Calls Tryz.prog 75 #[ptr kb, ptr vb, .pointer (some ⟨a, 0, none⟩)] w fun e w' => e = .returned (.tuple #[]) ∧ ∃ m kr vr, w'.heap[a]? = some (.cells #[ptr m] 90 (0, 0)) ∧ Chg (fun k => k = a) w w' ∧
   w'.heap[m]? = some (.cells #[ptr kr, ptr vr] 93 (0, 0)) ∧ RN w' kr kb ∧ RN w' vr vb ∧ w.heap.size ≤ m ∧ w.heap.size ≤ kr ∧ w.heap.size ≤ vr := by
 have hlt := lt_of_block h
 have hb : ∀ o1 o2 o3, (((w.alloc o1).alloc o2).alloc o3).heap[a]? = some (.cells #[.pointer none] 90 (0, 0)) := fun o1 o2 o3 =>
  (heap_old o3 (by simp; omega)).trans ((heap_old o2 (by simp; omega)).trans ((heap_old o1 hlt).trans h))
 have hc : ∀ o1 o2 o3, (((w.alloc o1).alloc o2).alloc o3).cell? ⟨a, 0, none⟩ = some (.pointer none) := fun o1 o2 o3 => by rw [cell_of_block (hb o1 o2 o3)]; rfl
 have hz : ∀ o1 o2 o3, (((w.alloc o1).alloc o2).alloc o3).frozen? ⟨a, 0, none⟩ = false := fun o1 o2 o3 => frozen_of_block (hb o1 o2 o3)
 have HB := Aside0.mk hb
 clear h hb
 go_enter Tryz.func75, Tryz.ntmps75
 go_wp2_with (first | (go_at_call 34; refine (newrnode_calls _ _).mono ?_; rintro e w' ⟨rfl, rfl⟩))
 refine ⟨rfl, .tuple #[], ?_, ?_⟩
 ·simp [results, Tryz.results75, go_sem]
 ·refine ⟨rfl, w.heap.size + 1 + 1, w.heap.size, w.heap.size + 1, heap_set (a := ⟨a, 0, none⟩) (HB.out _ _ _) rfl, ?_, ?_, ?_, ?_, by omega, by omega, by omega⟩
  ·exact ((((Chg.refl (fun k => k = a) w).alloc _).alloc _).alloc _).setCell (p := ⟨a, 0, none⟩) (.inl rfl) _
  ·exact (heap_set_ne (by simp; omega)).trans (heap_at _ (by simp))
  ·exact ⟨_, _, _, (heap_set_ne (by simp; omega)).trans ((heap_old _ (by simp; omega)).trans ((heap_old _ (by simp)).trans (heap_at _ rfl)))⟩
  ·exact ⟨_, _, _, (heap_set_ne (by simp; omega)).trans ((heap_old _ (by simp)).trans (heap_at _ (by simp)))⟩
def FieldPost (w : World) (ks : List ByteArray) (nm : ByteArray) (bs : List Nat) (e : Ending) (w' : World) : Prop :=
 Below w.heap.size w w' ∧ ((nm ∉ ks ∧ e = .returned (.pointer none)) ∨ ∃ j m kr vr, ks[j]? = some nm ∧ e = .returned (ptr m) ∧ FieldAt w w' bs j m kr vr)
set_option maxRecDepth 100000 in
theorem field_calls (w : World) (r b : Nat) (t v : ByteArray) (A : Option Addr) (g c : Nat) (nm : ByteArray) (ks : List ByteArray) (bs : List Nat) (hr : RN w r b) (hn : NB w b 4 t v (.slice A bs.length c)) (hl : Live 4 t)
  (hA : 0 < ks.length → A = some ⟨g, 0, none⟩) (hm : bs.length = 2 * ks.length) (hb : ks.length ≤ 1000)
  (hcell : ∀ i (h : i < bs.length), w.cell? ⟨g, i, none⟩ = some (ptr bs[i]))
  (hkey : ∀ j (h : j < ks.length), ∃ t cv, NB w (bs.getD (2 * j) 0) 8 t ks[j] cv) :
  Calls Tryz.prog 54 #[ptr r, .string nm] w (FieldPost w ks nm bs) := by
 have hmf : ∀ (fn : Fn) (first cap : Array Value) (w : World), (Instr.makeFunc fn first cap).run Tryz.prog w = .ok (.func fn first cap) w := fun _ _ _ _ => rfl
 have c1 := hn.kind
 have HR := Aside0.mk hr
 have HN := Aside0.mk hn
 have HL := Aside0.mk hl
 have HC := Aside0.mk hcell
 have HK := Aside0.mk hkey
 have HM := Aside0.mk (And.intro hA (And.intro hm hb))
 clear hr hn hl hcell hkey hA hm hb
 go_enter Tryz.func54, Tryz.ntmps54
 go_wp2_with (first | (go_at_call 37; refine (ynode_calls _ r b HR.out 4 t v (.slice A bs.length c) HN.out HL.out).mono ?_; rintro e w' ⟨rfl, rfl⟩) | (go_at_call 74; refine (content_calls _ r b (HR.out.below ((Below.refl _ _).alloc (Nat.le_refl _) _)) 4 t v (.slice A bs.length c) (HN.out.below ((Below.refl _ _).alloc (Nat.le_refl _) _)) HL.out).mono ?_; rintro e w' ⟨rfl, rfl⟩) | (go_at_call 73; fail))
 obtain ⟨w0, e0⟩ : ∃ w0, w0 = (w.alloc (.cells #[.pointer none] 90)).alloc (.cells #[.string nm] 9) := ⟨_, rfl⟩
 rw [← e0]
 have hb0 : Below w.heap.size w w0 := by rw [e0]; exact ((Below.refl _ _).alloc (Nat.le_refl _) _).alloc (by simp) _
 have hw3 : w0.heap[w.heap.size + 1]? = some (.cells #[.string nm] 9 (0, 0)) := by rw [e0]; exact heap_at _ (by simp)
 have hw4 : w0.heap[w.heap.size]? = some (.cells #[.pointer none] 90 (0, 0)) := by rw [e0]; exact (heap_old _ (by simp)).trans (heap_at _ rfl)
 have hs0 : w.heap.size + 1 < w0.heap.size := lt_of_block hw3
 have HB0 := Aside0.mk (And.intro hb0 (And.intro hw3 (And.intro hw4 hs0)))
 clear hb0 hw3 hw4 hs0 e0
 refine (named_calls w0 nm (w.heap.size + 1) 1 A g c ks bs 75 #[.pointer (some ⟨w.heap.size, 0, none⟩)] (fun j w' => Below w.heap.size w w' ∧ ∃ m kr vr, w'.heap[w.heap.size]? = some (.cells #[ptr m] 90 (0, 0)) ∧ FieldAt w w' bs j m kr vr)
  (fun xs wa => enters_ Tryz.func75 rfl rfl xs wa) HB0.out.2.1 HM.out.1 HM.out.2.1 HM.out.2.2 ?cell ?key ?call).mono ?_
 case cell => exact fun i hi => (HB0.out.1.cell (World.block_lt_of_cell? w _ (HC.out i hi))).trans (HC.out i hi)
 case key =>
  intro j hj
  obtain ⟨t', cv', h⟩ := HK.out j hj
  exact ⟨t', cv', h.below HB0.out.1⟩
 case call =>
  intro j wa hj hwa
  refine (fieldcall_calls wa _ _ w.heap.size ((hwa.block _ (lt_of_block HB0.out.2.2.1)).trans HB0.out.2.2.1)).mono ?_
  rintro e w1 ⟨rfl, m, kr, vr, h1, h2, h3, h4, h5, h6, h7, h8⟩
  have hsz := hwa.size
  have hs1 := HB0.out.1.size
  have hbw : Below w.heap.size w wa := HB0.out.1.trans (hwa.mono hs1)
  exact ⟨rfl, hbw.trans (h2.below hbw.size (fun k e => by omega)), m, kr, vr, h1, h3, h4, h5, by omega, by omega, by omega⟩
 rintro e w1 ⟨rfl, hq⟩
 have hcase : Below w.heap.size w w1 ∧ ∃ p, w1.heap[w.heap.size]? = some (.cells #[p] 90 (0, 0)) ∧ ((nm ∉ ks ∧ p = .pointer none) ∨ ∃ j m kr vr, ks[j]? = some nm ∧ p = ptr m ∧ FieldAt w w1 bs j m kr vr) := by
  rcases hq with ⟨h1, h2⟩ | ⟨j, h1, h2, m, kr, vr, h3, h4⟩
  ·exact ⟨HB0.out.1.trans (h2.mono HB0.out.1.size), _, (h2.block _ (lt_of_block HB0.out.2.2.1)).trans HB0.out.2.2.1, .inl ⟨h1, rfl⟩⟩
  ·exact ⟨h2, _, h3, .inr ⟨j, m, kr, vr, h1, rfl, h4⟩⟩
 obtain ⟨hbw, p, hp, hcase⟩ := hcase
 have HQ := Aside0.mk (And.intro hbw hcase)
 have cp : w1.cell? ⟨w.heap.size, 0, none⟩ = some p := by rw [cell_of_block hp]; rfl
 clear hbw hcase hq hp
 go_wp2
 go_ret
 refine ⟨HQ.out.1, ?_⟩
 rcases HQ.out.2 with ⟨h1, rfl⟩ | ⟨j, m, kr, vr, h1, rfl, h2⟩
 ·exact .inl ⟨h1, rfl⟩
 ·exact .inr ⟨j, m, kr, vr, h1, rfl, h2⟩
theorem row_open {w : World} {cv : Value} {bs : List Nat} (ho : w.ownsRow 0 66 1 cv bs.length (ptrs bs)) :
  ∃ (A : Option Addr) (g c : Nat), cv = .slice A bs.length c ∧ (0 < bs.length → A = some ⟨g, 0, none⟩) ∧ ∀ i (h : i < bs.length), w.cell? ⟨g, i, none⟩ = some (ptr bs[i]) := by
 by_cases h0 : 0 < bs.length
 ·obtain ⟨g, cap, rfl, _, _⟩ := ho.form h0
  refine ⟨_, g, cap, rfl, fun _ => rfl, fun i hi => own_cell ho i _ ?_⟩
  simp only [ptrs, List.getElem?_map, List.getElem?_eq_getElem hi, Option.map_some]
 ·obtain ⟨A, c, rfl⟩ := own_slice ho
  exact ⟨A, 0, c, rfl, fun h => absurd h h0, fun i hi => absurd (by omega) h0⟩
theorem map_open {w : World} {F : Nat → Prop} {b : Nat} {t v : ByteArray} {ks : List ByteArray} {vs : List Y} (hkl : ks.length = vs.length) (h : YN w F b (.mk 4 t v (kv ks vs))) :
  ∃ (A : Option Addr) (g c : Nat) (bs : List Nat), NB w b 4 t v (.slice A bs.length c) ∧ (0 < ks.length → A = some ⟨g, 0, none⟩) ∧ bs.length = 2 * ks.length ∧ (∀ i (h : i < bs.length), w.cell? ⟨g, i, none⟩ = some (ptr bs[i])) ∧
   (∀ j (h : j < ks.length), ∃ F1, (∀ k, F1 k → F k) ∧ YN w F1 (bs.getD (2 * j) 0) (.mk 8 ⟨#[]⟩ ks[j] [])) ∧ (∀ j (h : j < vs.length), ∃ F1, (∀ k, F1 k → F k) ∧ YN w F1 (bs.getD (2 * j + 1) 0) vs[j]) := by
 obtain ⟨hF, cv, bs, hn, ho, hfo, hl⟩ := h.open_
 simp only [Y.kind, Y.tag, Y.value, Y.content] at hn hl
 obtain ⟨A, g, c, rfl, hA, hcell⟩ := row_open ho
 have hlb := hl.length
 rw [kv_length ks vs hkl] at hlb
 have hll : (kv ks vs).length = 2 * ks.length := kv_length ks vs hkl
 refine ⟨A, g, c, bs, hn, fun h0 => hA (by omega), hlb, hcell, fun j hj => ?_, fun j hj => ?_⟩
 ·obtain ⟨kb, F1, ek, hF1, hyk⟩ := hl.get (2 * j) (by omega)
  have hk1 : (kv ks vs)[2 * j]'(by omega) = .mk 8 ⟨#[]⟩ ks[j] [] := by
   have := kv_key ks vs j hkl hj
   rw [List.getElem?_eq_getElem (by omega)] at this
   exact Option.some.inj this
  rw [hk1] at hyk
  rw [List.getD_eq_getElem?_getD, ek]
  exact ⟨F1, fun k q => (hF1 k q).1, hyk⟩
 ·obtain ⟨vb, F1, ev, hF1, hyv⟩ := hl.get (2 * j + 1) (by omega)
  have hv1 : (kv ks vs)[2 * j + 1]'(by omega) = vs[j] := by
   have := kv_val ks vs j hkl hj
   rw [List.getElem?_eq_getElem (by omega)] at this
   exact Option.some.inj this
  rw [hv1] at hyv
  rw [List.getD_eq_getElem?_getD, ev]
  exact ⟨F1, fun k q => (hF1 k q).1, hyv⟩
theorem node_open {w : World} {F : Nat → Prop} {b : Nat} {y : Y} (h : YN w F b y) : ∃ cv, NB w b y.kind y.tag y.value cv := by
 obtain ⟨_, cv, bs, hn, _⟩ := h.open_
 exact ⟨cv, hn⟩
def has (nm : ByteArray) (x : S25) : Bool := x.f0 == 2 && decide (0 ≤ plc x.f3 nm)
theorem plc_iff {l : List ByteArray} {a : ByteArray} : 0 ≤ plc l a ↔ a ∈ l := by
 refine ⟨fun h => ?_, plc_mem⟩
 obtain ⟨i, _, hi, rfl⟩ := plc_pos l a h
 exact List.getElem_mem _
theorem has_iff {nm : ByteArray} {x : S25} : has nm x = true ↔ (x.f0 = 2 ∧ nm ∈ x.f3) := by simp [has, plc_iff]
abbrev nameB : ByteArray := ⟨#[110, 97, 109, 101]⟩
theorem list_open {d : Nat} {x : S25} (h3 : x.f0 = 3) {w : World} {F : Nat → Prop} {b : Nat} (h : YN w F b (toY (d + 1) x)) :
  ∃ (A : Option Addr) (g c : Nat) (bs : List Nat) (F1 : Nat → Prop), NB w b 2 ⟨#[]⟩ ⟨#[]⟩ (.slice A bs.length c) ∧ (0 < bs.length → A = some ⟨g, 0, none⟩) ∧ bs.length = x.f4.length ∧ (∀ i (h : i < bs.length), w.cell? ⟨g, i, none⟩ = some (ptr bs[i])) ∧
   YL w F1 bs (x.f4.map (toY d)) := by
 rw [toY_three h3] at h
 obtain ⟨hF, cv, bs, hn, ho, hfo, hl⟩ := h.open_
 simp only [Y.kind, Y.tag, Y.value, Y.content] at hn hl
 obtain ⟨A, g, c, rfl, hA, hcell⟩ := row_open ho
 exact ⟨A, g, c, bs, _, hn, hA, by simpa using hl.length, hcell, hl⟩
abbrev inVar (w : World) (a : Nat) (x : S25) (A3 : Option Addr) (c3 : Nat) (A4 : Option Addr) (c4 : Nat) : Prop :=
 w.heap[a]? = some (.cells #[.int .i64 x.f0, .string x.f1, .string x.f2, .slice A3 x.f3.length c3, .slice A4 x.f4.length c4] 25 (0, 0))
def spField (x : S25) (nm : ByteArray) : S25 := if x.f0 = 2 ∧ 0 ≤ plc x.f3 nm then x.f4.getD (plc x.f3 nm).toNat z25 else z25
def SpFieldPost (w : World) (x : S25) (nm : ByteArray) (e : Ending) (w' : World) : Prop :=
 Below w.heap.size w w' ∧ ∃ (A3 : Option Addr) (c3 : Nat) (A4 : Option Addr) (c4 : Nat), e = .returned (.tuple #[.agg #[.int .i64 (spField x nm).f0, .string (spField x nm).f1, .string (spField x nm).f2, .slice A3 (spField x nm).f3.length c3, .slice A4 (spField x nm).f4.length c4], .bool (has nm x)]) ∧
  k25.K w (spField x nm) [.int .i64 (spField x nm).f0, .string (spField x nm).f1, .string (spField x nm).f2, .slice A3 (spField x nm).f3.length c3, .slice A4 (spField x nm).f4.length c4]
set_option maxRecDepth 100000 in
theorem spField_calls (x : S25) (nm : ByteArray) (hkl : x.f3.length ≤ x.f4.length) (w : World) (A3 : Option Addr) (c3 : Nat) (A4 : Option Addr) (c4 : Nat)
  (hK : k25.K w x [.int .i64 x.f0, .string x.f1, .string x.f2, .slice A3 x.f3.length c3, .slice A4 x.f4.length c4]) :
  Calls Tryz.prog 16 #[.agg #[.int .i64 x.f0, .string x.f1, .string x.f2, .slice A3 x.f3.length c3, .slice A4 x.f4.length c4], .string nm] w (SpFieldPost w x nm) := by
 have hu := Tryz.underlying25
 have HK := Aside0.mk hK
 obtain ⟨g3, l3, g4⟩ : ∃ q : Kd.string.C w A3 x.f3.length x.f3, x.f3.length ≤ c3 ∧ k25.C w A4 x.f4.length x.f4 := by
  obtain ⟨B3, d3, B4, d4, he, l3, g3, l4, g4⟩ := k25_open hK
  simp only [List.cons.injEq, Value.slice.injEq, true_and, and_true] at he
  obtain ⟨⟨rfl, rfl⟩, rfl, rfl⟩ := he
  exact ⟨g3, l3, g4⟩
 have HG := Aside0.mk (And.intro g3 (And.intro l3 g4))
 have hn4 : x.f4.length ≤ 9223372036854775807 := g4.2.1
 have HKL := Aside0.mk hkl
 clear hK g3 l3 g4 hkl
 go_enter Tryz.func16, Tryz.ntmps16
 go_wp2_with fail
 refine (place_calls _ A3 c3 x.f3 nm (Kd.C_below HG.out.1 (((Below.refl _ _).alloc (Nat.le_refl _) _).alloc (by simp) _)) HG.out.2.1).mono ?_
 rintro e w1 ⟨rfl, ⟨⟨n1, rfl⟩⟩⟩
 obtain ⟨w1, e1⟩ : ∃ w1, w1 = ((w.alloc (.cells #[.int .i64 x.f0, .string x.f1, .string x.f2, .slice A3 x.f3.length c3, .slice A4 x.f4.length c4] 25)).alloc (.cells #[.int .i64 0, .string ⟨#[]⟩, .string ⟨#[]⟩, .slice none 0 0, .slice none 0 0] 25)).drewN n1 := ⟨_, rfl⟩
 rw [← e1]
 have hb1 : Below w.heap.size w w1 := by rw [e1]; exact pw_below_drewN (((Below.refl _ _).alloc (Nat.le_refl _) _).alloc (by simp) _) n1
 have hx1 : w1.heap[w.heap.size]? = some (.cells #[.int .i64 x.f0, .string x.f1, .string x.f2, .slice A3 x.f3.length c3, .slice A4 x.f4.length c4] 25 (0, 0)) := by rw [e1]; exact (heap_old _ (by simp)).trans (heap_at _ rfl)
 have hr1 : w1.heap[w.heap.size + 1]? = some (.cells #[.int .i64 0, .string ⟨#[]⟩, .string ⟨#[]⟩, .slice none 0 0, .slice none 0 0] 25 (0, 0)) := by rw [e1]; exact heap_at _ (by simp)
 have HB := Aside0.mk hb1
 have HX := Aside0.mk hx1
 have HR := Aside0.mk hr1
 clear hb1 hx1 hr1 e1
 obtain ⟨p, hp⟩ : ∃ p, p = plc x.f3 nm := ⟨_, rfl⟩
 rw [← hp]
 have cx0 := (cell_of_block (i := 0) HX.out).trans (show _ = some _ from rfl)
 have cx4 := (cell_of_block (i := 4) HX.out).trans (show _ = some _ from rfl)
 by_cases hc : x.f0 = 2 ∧ 0 ≤ p
 ·obtain ⟨h2, h0⟩ := hc
  obtain ⟨i, hpi, hi, hie⟩ := plc_pos x.f3 nm (by rw [← hp]; exact h0)
  have hi4 : i < x.f4.length := by have := HKL.out; omega
  generalize hyy : x.f4.getD i z25 = yy
  obtain ⟨ad4, B3, b3, B4, b4, e4, hKy, f0', f1', f2', f3', f4'⟩ := nodeAt HG.out.2.2 i hi4 yy hyy
  subst e4
  have f0 := (HB.out.cell (World.block_lt_of_cell? w _ f0')).trans f0'
  have f1 := (HB.out.cell (World.block_lt_of_cell? w _ f1')).trans f1'
  have f2 := (HB.out.cell (World.block_lt_of_cell? w _ f2')).trans f2'
  have f3 := (HB.out.cell (World.block_lt_of_cell? w _ f3')).trans f3'
  have f4 := (HB.out.cell (World.block_lt_of_cell? w _ f4')).trans f4'
  have hsp : spField x nm = yy := by
   unfold spField
   rw [← hp, if_pos ⟨h2, h0⟩, hp, hpi, Int.toNat_natCast, hyy]
  have hhas : has nm x = true := has_iff.2 ⟨h2, by rw [← hie]; exact List.getElem_mem _⟩
  obtain rfl : p = (i : Int) := by rw [hp, hpi]
  have HS := Aside0.mk (And.intro hsp (And.intro hhas hKy))
  have H2 := Aside0.mk h2
  rw [h2] at cx0
  clear hp hpi hi hie hyy hKy f0' f1' f2' f3' f4' hsp hhas h0 h2
  obtain ⟨cr0, cr1, cr2, cr3, cr4, zr0, zr1, zr2, zr3, zr4⟩ := fc_ HR.out
  go_wp2
  obtain ⟨wf, ef, hf, hcf⟩ := set5 (v0 := .int .i64 yy.f0) (v1 := .string yy.f1) (v2 := .string yy.f2) (v3 := .slice B3 yy.f3.length b3) (v4 := .slice B4 yy.f4.length b4) HR.out
  rw [ef]
  have HF := Aside0.mk hf
  obtain ⟨cf0, cf1, cf2, cf3, cf4, zf0, zf1, zf2, zf3, zf4⟩ := fc_ HF.out
  clear cr0 cr1 cr2 cr3 cr4 zr0 zr1 zr2 zr3 zr4 hf ef
  refine bodyPost_ret (v := .tuple #[.agg #[.int .i64 yy.f0, .string yy.f1, .string yy.f2, .slice B3 yy.f3.length b3, .slice B4 yy.f4.length b4], .bool true]) (by simp [results, Tryz.results16, go_sem, cf0, cf1, cf2, cf3, cf4]) rfl ⟨HB.out.trans (hcf.below HB.out.size (fun k q => by omega)), ?_⟩
  rw [HS.out.1, HS.out.2.1]
  exact ⟨B3, b3, B4, b4, rfl, HS.out.2.2⟩
 ·have hsp : spField x nm = z25 := by
   unfold spField
   rw [← hp, if_neg hc]
  have hhas : has nm x = false := by
   rw [← Bool.not_eq_true, has_iff, ← plc_iff, ← hp]; exact hc
  have HS := Aside0.mk (And.intro hsp hhas)
  clear hsp hhas hp
  by_cases h2 : x.f0 = 2
  ·have hpb : decide (0 ≤ p) = false := by
    rw [decide_eq_false_iff_not]; exact fun h => hc ⟨h2, h⟩
   have hpn : ¬ 0 ≤ p := fun h => hc ⟨h2, h⟩
   rw [h2] at cx0
   clear hc h2
   obtain ⟨cr0, cr1, cr2, cr3, cr4, zr0, zr1, zr2, zr3, zr4⟩ := fc_ HR.out
   go_wp2
   obtain ⟨wf, ef, hf, hcf⟩ := set5 (v0 := .int .i64 0) (v1 := .string ⟨#[]⟩) (v2 := .string ⟨#[]⟩) (v3 := .slice none 0 0) (v4 := .slice none 0 0) HR.out
   rw [ef]
   have HF := Aside0.mk hf
   obtain ⟨cf0, cf1, cf2, cf3, cf4, zf0, zf1, zf2, zf3, zf4⟩ := fc_ HF.out
   clear cr0 cr1 cr2 cr3 cr4 zr0 zr1 zr2 zr3 zr4 hf ef
   refine bodyPost_ret (v := .tuple #[.agg #[.int .i64 0, .string ⟨#[]⟩, .string ⟨#[]⟩, .slice none 0 0, .slice none 0 0], .bool false]) (by simp [results, Tryz.results16, go_sem, cf0, cf1, cf2, cf3, cf4]) rfl ⟨HB.out.trans (hcf.below HB.out.size (fun k q => by omega)), ?_⟩
   rw [HS.out.1, HS.out.2]
   exact ⟨none, 0, none, 0, rfl, k25_mk w z25 (Nat.le_refl _) (Kd.C_nil _ _) (Nat.le_refl _) (Kd.C_nil _ _)⟩
  ·have hkb : (x.f0 == 2) = false := by simpa using h2
   clear hc h2
   obtain ⟨cr0, cr1, cr2, cr3, cr4, zr0, zr1, zr2, zr3, zr4⟩ := fc_ HR.out
   go_wp2
   obtain ⟨wf, ef, hf, hcf⟩ := set5 (v0 := .int .i64 0) (v1 := .string ⟨#[]⟩) (v2 := .string ⟨#[]⟩) (v3 := .slice none 0 0) (v4 := .slice none 0 0) HR.out
   rw [ef]
   have HF := Aside0.mk hf
   obtain ⟨cf0, cf1, cf2, cf3, cf4, zf0, zf1, zf2, zf3, zf4⟩ := fc_ HF.out
   clear cr0 cr1 cr2 cr3 cr4 zr0 zr1 zr2 zr3 zr4 hf ef
   refine bodyPost_ret (v := .tuple #[.agg #[.int .i64 0, .string ⟨#[]⟩, .string ⟨#[]⟩, .slice none 0 0, .slice none 0 0], .bool false]) (by simp [results, Tryz.results16, go_sem, cf0, cf1, cf2, cf3, cf4]) rfl ⟨HB.out.trans (hcf.below HB.out.size (fun k q => by omega)), ?_⟩
   rw [HS.out.1, HS.out.2]
   exact ⟨none, 0, none, 0, rfl, k25_mk w z25 (Nat.le_refl _) (Kd.C_nil _ _) (Nat.le_refl _) (Kd.C_nil _ _)⟩
theorem spField_at {x : S25} {nm : ByteArray} {j : Nat} {y : S25} (h2 : x.f0 = 2) (hnd : x.f3.Nodup) (h1 : x.f3[j]? = some nm) (h3 : x.f4[j]? = some y) : spField x nm = y := by
 obtain ⟨hj, he⟩ := List.getElem?_eq_some_iff.1 h1
 have hp := plc_nodup hnd j hj
 rw [he] at hp
 unfold spField
 rw [if_pos ⟨h2, by omega⟩, hp, Int.toNat_natCast, List.getD_eq_getElem?_getD, h3]
 rfl
theorem one_str {w : World} {g : Nat} {s : ByteArray} {t : TypeId} (h : w.heap[g]? = some (.cells #[.string s] t (0, 0))) : Kd.string.C w (some ⟨g, 0, none⟩) [s].length [s] := by
 refine ⟨rfl, by simp, fun _ => ⟨_, rfl, fun j p hp => ?_⟩⟩
 match j, hp with
 |0, hp =>
  obtain rfl : s = p := by simpa using hp
  refine ⟨[.string s], rfl, rfl, fun i u hu => ?_⟩
  match i, hu with
  |0, hu =>
   obtain rfl : Value.string s = u := by simpa using hu
   rw [show (⟨g, 0, none⟩ : Addr).add (0 * Kd.string.sz + 0) = ⟨g, 0, none⟩ by simp [Addr.add], cell_of_block h]; rfl
  | i + 1, hu => simp at hu
 | j + 1, hp => simp at hp
end Go.Proofs.YtkpdkoafngjflaaGreat
