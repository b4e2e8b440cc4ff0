/-
  kyyaml.visitFieldsWhileTrue, visitMappingNodeFields and RNode.Field: a map's pairs are visited in order.
-/
import Derived.Test.YtigpgkfgkjabmaaLaw
namespace Go.Proofs.Ytigpgkfgkjabmaa
open Go.RowKit Go.Proofs.YtigpgkfgkjabmaaW.PrintWords Go.Proofs.YtigpgkfgkjabmaaW.PrintLast Go.Proofs.Ytigpgkfgkjabmaa.PFnFields
set_option linter.unusedVariables false
set_option linter.unusedSimpArgs false

/-- A function value's call, in a region that draws its order. -/
theorem goesC_ {P : Program} {ops : Array Oper} {Q : Exit → Act → World → Prop} {oi : Oper} {N : Option Tmp} {a : Act} {w : World} {K : Act → World → Prop} {f : FuncId} {o : Operand} {ops_ : Array Operand} {ts : Array TypeId} (args cap : Array Value)
    (hw : Region.wanted oi (yielded ops a.tmps) = true) (hN : oi.dst = N) (hop : oi.op = .call { callee := .value o, args := ops_, argTypes := ts }) (ho : a.eval o = .func (.func f) #[] cap) (hargs : ops_.map a.eval = args)
    (hf : ∀ (xs : Array Value) (wa : World), (callFunc f xs).run P wa = .ok (.enter f xs) wa)
    (h : Calls P f (args ++ cap) w fun e w' => ∃ v, e = .returned v ∧ K (a.put N v) w') : if Region.wanted oi (yielded ops a.tmps) = true then Oper.wp P oi a w K Q else K (a.put N undef) w := by
  refine call_ f (args ++ cap) hw hN ?_ h
  unfold execOp
  simp [hop, resolve, Deferred.ofValue, invoke, hargs, ho, hf]

def while3.T : Bool × List (List Nat × List Nat) := (true, [([], []), ([], []), ([], []), ([1, 2], [1, 2]), ([3], [3]), ([], []), ([], []), ([6], [6]), ([5, 7], [5, 7]), ([8], [8]), ([], []), ([0, 4, 9, 10], [0, 4, 9, 10]), ([11, 11, 0, 1, 2, 3, 4, 5, 6, 7, 8, 9, 10, 11], [11])])
def while3.B : List Nat := [0, 0, 0, 6, 14, 0, 0, 64, 224, 480, 0, 2047, 4095]
theorem while3.tab : rtab .any (opsOf Try.f85 3) = while3.T := by kernel_rfl
theorem while3.bits : waitsOk while3.T.2 while3.B = true := by kernel_rfl
def pick3.T : Bool × List (List Nat × List Nat) := (true, [([], []), ([0], [0]), ([1], [1]), ([], []), ([3], [3]), ([4], [4]), ([5], [5]), ([2, 6], [2, 6])])
def pick3.B : List Nat := [0, 1, 3, 0, 8, 24, 56, 127]
theorem pick3.tab : rtab .any (opsOf Try.f87 3) = pick3.T := by kernel_rfl
theorem pick3.bits : waitsOk pick3.T.2 pick3.B = true := by kernel_rfl
def WhilePost (Q : World → Prop) (e : Ending) (w' : World) : Prop := e = .returned (.tuple #[]) ∧ Q w'

set_option maxRecDepth 100000 in
set_option maxHeartbeats 1600000 in
theorem while_calls (w : World) (A : Option Addr) (g c m n : Nat) (bs : List Nat) (f : FuncId) (cap : Array Value) (I : Nat → World → Prop) (Q : World → Prop)
    (hf : ∀ (xs : Array Value) (wa : World), (callFunc f xs).run Try.prog wa = .ok (.enter f xs) wa)
    (hA : 0 < m → A = some ⟨g, 0, none⟩) (hm : bs.length = 2 * m) (hn : n = 2 * m) (hb : m ≤ 1000)
    (hcell : ∀ j w', I j w' → ∀ i (h : i < bs.length), w'.cell? ⟨g, i, none⟩ = some (ptr bs[i]))
    (hI : ∀ j w', j < m → I j w' → Calls Try.prog f (#[ptr (bs.getD (2 * j) 0), ptr (bs.getD (2 * j + 1) 0), .int .i64 (2 * j : Nat)] ++ cap) w' fun e w'' => ∃ c, e = .returned (.bool c) ∧ (c = true → I (j + 1) w'') ∧ (c = false → Q w''))
    (hd : ∀ j w', I j w' → I j w'.drew) (hQ : ∀ w', I m w' → Q w') (h0 : I 0 w) :
    Calls Try.prog 85 #[.slice A n c, .func (.func f) #[] cap] w (WhilePost Q) := by
  have HM := Aside0.mk (And.intro hm (And.intro hn hb))
  have HCE := Aside0.mk hcell
  have HI := Aside0.mk hI
  have HD := Aside0.mk hd
  have HQ := Aside0.mk hQ
  have H0 := Aside0.mk h0
  have HA := Aside0.mk hA
  have hnm : n ≤ 9223372036854775807 := by omega
  clear hm hn hb hcell hI hd hQ h0 hA
  go_enter Try.func85, Try.ntmps85
  go_wp2_with fail
  go_loopg [4] m (fun k i wr => ∃ j : Nat, i = .int .i64 (2 * j : Nat) ∧ Aside0 (j ≤ m ∧ k + j = m) ∧ Aside0 (I j wr))
  case atStart => exact ⟨0, rfl, ⟨by omega⟩, H0⟩
  case round =>
    clear H0
    obtain ⟨j, rfl, HJ, HIJ⟩ := hrel
    by_cases hj : j < m
    · have hA := HA.out (by omega)
      subst hA
      have hj1 : 2 * j < n := by have := HM.out; omega
      have hj2 : 2 * j + 1 < n := by have := HM.out; omega
      have hjb : decide (((2 * j : Nat) : Int) < (n : Int)) = true := by simp; omega
      have hw1 : wrap64 (((2 * j : Nat) : Int) + 1) = ((2 * j + 1 : Nat) : Int) := by unfold wrap64; have := HM.out; omega
      have hw2 : wrap64 (((2 * j : Nat) : Int) + 2) = ((2 * (j + 1) : Nat) : Int) := by unfold wrap64; have := HM.out; omega
      have ht1 : (((2 * j : Nat) : Int)).toNat = 2 * j := by omega
      have ht2 : (((2 * j + 1 : Nat) : Int)).toNat = 2 * j + 1 := by omega
      obtain ⟨p1, hp1⟩ : ∃ p, p = bs.getD (2 * j) 0 := ⟨_, rfl⟩
      obtain ⟨p2, hp2⟩ : ∃ p, p = bs.getD (2 * j + 1) 0 := ⟨_, rfl⟩
      have HP := Aside0.mk (And.intro hp1 hp2)
      have HS : Aside0 (∀ w', I j w' → w'.cell? ⟨g, 2 * j, none⟩ = some (ptr p1) ∧ w'.cell? ⟨g, 2 * j + 1, none⟩ = some (ptr p2)) := ⟨fun w' hi => by
        have q1 := HCE.out j w' hi (2 * j) (by have := HM.out; omega)
        have q2 := HCE.out j w' hi (2 * j + 1) (by have := HM.out; omega)
        rw [hp1, hp2, List.getD_eq_getElem?_getD, List.getD_eq_getElem?_getD, List.getElem?_eq_getElem (by have := HM.out; omega), List.getElem?_eq_getElem (by have := HM.out; omega)]
        exact ⟨q1, q2⟩⟩
      clear hp1 hp2
      have hw5 : wrap64 (((2 * j : Nat) : Int) + 2) = ((2 * j : Nat) : Int) + 2 := by rw [hw2]; omega
      have hw6 : ((2 * (j + 1) : Nat) : Int) = ((2 * j : Nat) : Int) + 2 := by omega
      generalize hq : 2 * j = q at hw5 hw6 hj1 hj2 hjb hw1 hw2 ht1 ht2 HS
      have HQJ := Aside0.mk hq
      clear hq
      go_wp2_with fail
      have hv1 : wrap64 ((q : Int) + 1) = (q : Int) + 1 := by rw [hw1]; omega
      have hv2 : (0 : Int) ≤ (q : Int) + 1 := by omega
      have hv3 : (q : Int) + 1 < (n : Int) := by omega
      have hv4 : ((q : Int) + 1).toNat = q + 1 := by omega
      refine start_ (n := 13) (S := fun w' => w'.cell? ⟨g, q, none⟩ = some (ptr p1) ∧ w'.cell? ⟨g, q + 1, none⟩ = some (ptr p2)) (ds := [11]) #[false, false, false, false, false, false, false, false, false, false, false, false, false] (by kernel_rfl) rfl rfl (HS.out _ (HD.out _ _ HIJ.out)) (fun hHeld => ?_)
      refine with_tabW (T := while3.T) (B := while3.B) while3.tab while3.bits (fun HT_ HW_ => ?_)
      refine pure_ (i := 0) (N := (some 12)) (v := ?_) (a' := ?_) #[true, false, false, false, false, false, false, false, false, false, false, false, false] rfl rfl (any_of HT_.out (by kernel_rfl)) (fun _ _ _ h => h) (Or.inl ⟨by rfl, ?_⟩) ?_ ?_
      rotate_left
      · intro w'
        go_simp
        with_reducible rfl
      rotate_left
      · simp only [Act.put, List.setIfInBounds_toArray, List.set_cons_zero, List.set_cons_succ, i64_w, i32_w]
        rfl
      refine pure_ (i := 1) (N := (some 13)) (v := ?_) (a' := ?_) #[true, true, false, false, false, false, false, false, false, false, false, false, false] rfl rfl (any_of HT_.out (by kernel_rfl)) (fun _ _ _ h => h) (Or.inl ⟨by rfl, ?_⟩) ?_ ?_
      rotate_left
      · intro w'
        go_simp
        with_reducible rfl
      rotate_left
      · simp only [Act.put, List.setIfInBounds_toArray, List.set_cons_zero, List.set_cons_succ, i64_w, i32_w]
        rfl
      refine pure_ (i := 2) (N := (some 14)) (v := ?_) (a' := ?_) #[true, true, true, false, false, false, false, false, false, false, false, false, false] rfl rfl (any_of HT_.out (by kernel_rfl)) (fun _ _ _ h => h) (Or.inl ⟨by rfl, ?_⟩) ?_ ?_
      rotate_left
      · intro w'
        go_simp
        with_reducible rfl
      rotate_left
      · simp only [Act.put, List.setIfInBounds_toArray, List.set_cons_zero, List.set_cons_succ, i64_w, i32_w]
        rfl
      refine pure_ (i := 3) (N := (some 15)) (v := ?_) (a' := ?_) #[true, true, true, true, false, false, false, false, false, false, false, false, false] rfl rfl (any_of HT_.out (by kernel_rfl)) (fun _ _ _ h => h) (Or.inl ⟨by rfl, ?_⟩) ?_ ?_
      rotate_left
      · intro w'
        go_simp
        with_reducible rfl
      rotate_left
      · simp only [Act.put, List.setIfInBounds_toArray, List.set_cons_zero, List.set_cons_succ, i64_w, i32_w]
        rfl
      refine pure_ (i := 5) (N := (some 17)) (v := ?_) (a' := ?_) #[true, true, true, true, false, true, false, false, false, false, false, false, false] rfl rfl (any_of HT_.out (by kernel_rfl)) (fun _ _ _ h => h) (Or.inl ⟨by rfl, ?_⟩) ?_ ?_
      rotate_left
      · intro w'
        go_simp
        with_reducible rfl
      rotate_left
      · simp only [Act.put, List.setIfInBounds_toArray, List.set_cons_zero, List.set_cons_succ, i64_w, i32_w]
        rfl
      refine pure_ (i := 6) (N := (some 18)) (v := ?_) (a' := ?_) #[true, true, true, true, false, true, true, false, false, false, false, false, false] rfl rfl (any_of HT_.out (by kernel_rfl)) (fun _ _ _ h => h) (Or.inl ⟨by rfl, ?_⟩) ?_ ?_
      rotate_left
      · intro w'
        go_simp
        with_reducible rfl
      rotate_left
      · simp only [Act.put, List.setIfInBounds_toArray, List.set_cons_zero, List.set_cons_succ, i64_w, i32_w]
        rfl
      refine pure_ (i := 7) (N := (some 19)) (v := ?_) (a' := ?_) #[true, true, true, true, false, true, true, true, false, false, false, false, false] rfl rfl (any_of HT_.out (by kernel_rfl)) (fun _ _ _ h => h) (Or.inl ⟨by rfl, ?_⟩) ?_ ?_
      rotate_left
      · intro w'
        go_simp
        with_reducible rfl
      rotate_left
      · simp only [Act.put, List.setIfInBounds_toArray, List.set_cons_zero, List.set_cons_succ, i64_w, i32_w]
        rfl
      refine pure_ (i := 8) (N := (some 20)) (v := ?_) (a' := ?_) #[true, true, true, true, false, true, true, true, true, false, false, false, false] rfl rfl (any_of HT_.out (by kernel_rfl)) (fun _ _ _ h => h) (Or.inl ⟨by rfl, ?_⟩) ?_ ?_
      rotate_left
      · intro w'
        go_simp
        with_reducible rfl
      rotate_left
      · simp only [Act.put, List.setIfInBounds_toArray, List.set_cons_zero, List.set_cons_succ, i64_w, i32_w]
        rfl
      refine pure_ (i := 10) (N := (some 22)) (v := ?_) (a' := ?_) #[true, true, true, true, false, true, true, true, true, false, true, false, false] rfl rfl (any_of HT_.out (by kernel_rfl)) (fun _ _ _ h => h) (Or.inl ⟨by rfl, ?_⟩) ?_ ?_
      rotate_left
      · intro w'
        go_simp
        with_reducible rfl
      rotate_left
      · simp only [Act.put, List.setIfInBounds_toArray, List.set_cons_zero, List.set_cons_succ, i64_w, i32_w]
        rfl
      refine take_ (i := 4) (N := (some 16)) (v := ?_) (a' := ?_) #[true, true, true, true, true, true, true, true, true, false, true, false, false] rfl rfl (take_ofW HT_.out HW_.out (by kernel_rfl)) (fun _ _ _ h => h) (Or.inl ⟨by rfl, ?_⟩) hHeld ?_ ?_
      rotate_left
      · rintro w' ⟨s0, s1⟩
        go_simp
        with_reducible rfl
      rotate_left
      · simp only [Act.put, List.setIfInBounds_toArray, List.set_cons_zero, List.set_cons_succ, i64_w, i32_w]
        rfl
      refine take_ (i := 9) (N := (some 21)) (v := ?_) (a' := ?_) #[true, true, true, true, true, true, true, true, true, true, true, false, false] rfl rfl (take_ofW HT_.out HW_.out (by kernel_rfl)) (fun _ _ _ h => h) (Or.inl ⟨by rfl, ?_⟩) hHeld ?_ ?_
      rotate_left
      · rintro w' ⟨s0, s1⟩
        go_simp
        with_reducible rfl
      rotate_left
      · simp only [Act.put, List.setIfInBounds_toArray, List.set_cons_zero, List.set_cons_succ, i64_w, i32_w]
        rfl
      refine last_ (i := 11) (N := (some 23)) #[true, true, true, true, true, true, true, true, true, true, true, true, false] rfl rfl (one_of HT_.out (by kernel_rfl)) (by decide) (fun K hK => ?_)
      refine goesC_ #[ptr p1, ptr p2, .int .i64 q] cap (by rfl) rfl rfl rfl (by simp only [List.map_toArray, List.map_cons, List.map_nil]; rfl) hf ?_
      have hcall := HI.out j _ hj (HD.out _ _ HIJ.out)
      rw [← HP.out.1, ← HP.out.2, HQJ.out] at hcall
      refine hcall.mono ?_
      rintro e w1 ⟨r, rfl, hr1, hr2⟩
      have HR := Aside0.mk (And.intro hr1 hr2)
      clear hr1 hr2 hcall
      refine ⟨_, rfl, ?_⟩
      refine hK.out _ _ ?_
      clear hK K
      refine norm_ (a' := ?_) ?_ ?_
      rotate_left
      · first | (simp only [Act.put, List.setIfInBounds_toArray, List.set_cons_zero, List.set_cons_succ, i64_w, i32_w]; rfl) | rfl
      refine pure_ (i := 12) (N := (some 5)) (v := ?_) (a' := ?_) #[true, true, true, true, true, true, true, true, true, true, true, true, true] rfl rfl (any_of HT_.out (by kernel_rfl)) (fun _ _ _ h => h) (Or.inl ⟨by rfl, ?_⟩) ?_ ?_
      rotate_left
      · intro w'
        go_simp
        with_reducible rfl
      rotate_left
      · simp only [Act.put, List.setIfInBounds_toArray, List.set_cons_zero, List.set_cons_succ, i64_w, i32_w]
        rfl
      refine done_ (done_of HT_.out (by kernel_rfl)) ?_
      cases r
      · go_wp2_with fail
        exact bodyPost_ret (v := .tuple #[]) (by simp [results, Try.results85, go_sem]) rfl ⟨rfl, HR.out.2 trivial⟩
      · go_wp2_with fail
        go_roundg (gk - 1)
        case measure => have := HJ.out; omega
        case rel => exact ⟨j + 1, by rw [hw6], ⟨by have := HJ.out; omega⟩, ⟨HR.out.1 trivial⟩⟩
    · have hjb : decide (2 * (j : Int) < (n : Int)) = false := by simp; have := HJ.out; have := HM.out; omega
      go_wp2_with fail
      have e : j = m := by have := HJ.out; omega
      refine ⟨rfl, .tuple #[], ?_, ?_⟩
      · simp [results, Try.results85, go_sem]
      · exact ⟨rfl, HQ.out _ (by rw [← e]; exact HIJ.out)⟩

/-- The pair of that key is handed to the callback, once; nothing where there is none. -/
theorem pick_calls (w : World) (nm : ByteArray) (ak : Nat) (kb : Nat) (t v : ByteArray) (cv : Value) (hn : NB w kb 8 t v cv) (vb : Nat) (q : Int) (a3 a4 : Nat) (f : FuncId) (cap : Array Value) (c : Nat)
    (hf : ∀ (xs : Array Value) (wa : World), (callFunc f xs).run Try.prog wa = .ok (.enter f xs) wa)
    (h3 : w.heap[a3]? = some (.cells #[.slice (some ⟨ak, 0, none⟩) 1 c] 22 (0, 0))) (h4 : w.heap[a4]? = some (.cells #[.func (.func f) #[] cap] 110 (0, 0)))
    (hk : w.heap[ak]? = some (.cells #[.string nm] 9 (0, 0))) (Q : World → Prop)
    (hQ : v = nm → ∀ wa, Chg (fun _ => False) w wa → Calls Try.prog f (#[ptr kb, ptr vb] ++ cap) wa fun e w' => e = .returned (.tuple #[]) ∧ Q w') :
    Calls Try.prog 87 #[ptr kb, ptr vb, .int .i64 q, .pointer (some ⟨a3, 0, none⟩), .pointer (some ⟨a4, 0, none⟩)] w fun e w' => ∃ r, e = .returned (.bool r) ∧ (r = true → v ≠ nm ∧ Chg (fun _ => False) w w') ∧ (r = false → v = nm ∧ Q w') := by
  have c1 := hn.value
  have c3 : w.cell? ⟨a3, 0, none⟩ = some (.slice (some ⟨ak, 0, none⟩) 1 c) := by rw [cell_of_block h3]; rfl
  have c4 : w.cell? ⟨a4, 0, none⟩ = some (.func (.func f) #[] cap) := by rw [cell_of_block h4]; rfl
  have ck : w.cell? ⟨ak, 0, none⟩ = some (.string nm) := by rw [cell_of_block hk]; rfl
  have HQ := Aside0.mk hQ
  have HC := Aside0.mk (And.intro c1 (And.intro c3 (And.intro c4 ck)))
  clear hn h3 h4 hk hQ c1 c3 c4 ck
  go_enter Try.func87, Try.ntmps87
  go_wp2_with fail
  refine start_ (n := 8) (S := fun w' => w'.cell? ⟨kb, 3, none⟩ = some (.string v) ∧ w'.cell? ⟨a3, 0, none⟩ = some (.slice (some ⟨ak, 0, none⟩) 1 c) ∧ w'.cell? ⟨ak, 0, none⟩ = some (.string nm)) (ds := []) #[false, false, false, false, false, false, false, false] (by kernel_rfl) rfl rfl ⟨HC.out.1, HC.out.2.1, HC.out.2.2.2⟩ (fun hHeld => ?_)
  refine with_tabW (T := pick3.T) (B := pick3.B) pick3.tab pick3.bits (fun HT_ HW_ => ?_)
  refine pure_ (i := 3) (N := (some 14)) (v := ?_) (a' := ?_) #[false, false, false, true, false, false, false, false] rfl rfl (any_of HT_.out (by kernel_rfl)) (fun _ _ _ h => h) (Or.inl ⟨by rfl, ?_⟩) ?_ ?_
  rotate_left
  · intro w'
    go_simp
    with_reducible rfl
  rotate_left
  · simp only [Act.put, List.setIfInBounds_toArray, List.set_cons_zero, List.set_cons_succ, i64_w, i32_w]
    rfl
  refine pure_ (i := 4) (N := (some 15)) (v := ?_) (a' := ?_) #[false, false, false, true, true, false, false, false] rfl rfl (any_of HT_.out (by kernel_rfl)) (fun _ _ _ h => h) (Or.inl ⟨by rfl, ?_⟩) ?_ ?_
  rotate_left
  · intro w'
    go_simp
    with_reducible rfl
  rotate_left
  · simp only [Act.put, List.setIfInBounds_toArray, List.set_cons_zero, List.set_cons_succ, i64_w, i32_w]
    rfl
  refine pure_ (i := 5) (N := (some 16)) (v := ?_) (a' := ?_) #[false, false, false, true, true, true, false, false] rfl rfl (any_of HT_.out (by kernel_rfl)) (fun _ _ _ h => h) (Or.inl ⟨by rfl, ?_⟩) ?_ ?_
  rotate_left
  · intro w'
    go_simp
    with_reducible rfl
  rotate_left
  · simp only [Act.put, List.setIfInBounds_toArray, List.set_cons_zero, List.set_cons_succ, i64_w, i32_w]
    rfl
  refine take_ (i := 0) (N := (some 11)) (v := ?_) (a' := ?_) #[true, false, false, true, true, true, false, false] rfl rfl (take_ofW HT_.out HW_.out (by kernel_rfl)) (fun _ _ _ h => h) (Or.inl ⟨by rfl, ?_⟩) hHeld ?_ ?_
  rotate_left
  · rintro w' ⟨s0, s1, s2⟩
    go_simp
    with_reducible rfl
  rotate_left
  · simp only [Act.put, List.setIfInBounds_toArray, List.set_cons_zero, List.set_cons_succ, i64_w, i32_w]
    rfl
  refine pure_ (i := 1) (N := (some 12)) (v := ?_) (a' := ?_) #[true, true, false, true, true, true, false, false] rfl rfl (any_of HT_.out (by kernel_rfl)) (fun _ _ _ h => h) (Or.inl ⟨by rfl, ?_⟩) ?_ ?_
  rotate_left
  · intro w'
    go_simp
    with_reducible rfl
  rotate_left
  · simp only [Act.put, List.setIfInBounds_toArray, List.set_cons_zero, List.set_cons_succ, i64_w, i32_w]
    rfl
  refine take_ (i := 2) (N := (some 13)) (v := ?_) (a' := ?_) #[true, true, true, true, true, true, false, false] rfl rfl (take_ofW HT_.out HW_.out (by kernel_rfl)) (fun _ _ _ h => h) (Or.inl ⟨by rfl, ?_⟩) hHeld ?_ ?_
  rotate_left
  · rintro w' ⟨s0, s1, s2⟩
    go_simp
    with_reducible rfl
  rotate_left
  · simp only [Act.put, List.setIfInBounds_toArray, List.set_cons_zero, List.set_cons_succ, i64_w, i32_w]
    rfl
  refine take_ (i := 6) (N := (some 17)) (v := ?_) (a' := ?_) #[true, true, true, true, true, true, true, false] rfl rfl (take_ofW HT_.out HW_.out (by kernel_rfl)) (fun _ _ _ h => h) (Or.inl ⟨by rfl, ?_⟩) hHeld ?_ ?_
  rotate_left
  · rintro w' ⟨s0, s1, s2⟩
    go_simp
    with_reducible rfl
  rotate_left
  · simp only [Act.put, List.setIfInBounds_toArray, List.set_cons_zero, List.set_cons_succ, i64_w, i32_w]
    rfl
  refine pure_ (i := 7) (N := (some 18)) (v := ?_) (a' := ?_) #[true, true, true, true, true, true, true, true] rfl rfl (any_of HT_.out (by kernel_rfl)) (fun _ _ _ h => h) (Or.inl ⟨by rfl, ?_⟩) ?_ ?_
  rotate_left
  · intro w'
    go_simp
    with_reducible rfl
  rotate_left
  · simp only [Act.put, List.setIfInBounds_toArray, List.set_cons_zero, List.set_cons_succ, i64_w, i32_w]
    rfl
  refine done_ (done_of HT_.out (by kernel_rfl)) ?_
  have HD : Aside0 (Chg (fun _ => False) w w.drew) := ⟨(Chg.refl _ w).drew⟩
  have ck4 : w.drew.cell? ⟨a4, 0, none⟩ = some (.func (.func f) #[] cap) := HC.out.2.2.1
  generalize w.drew = wd at *
  by_cases hv : v = nm
  · have hb : (nm.toList == v.toList) = true := by rw [hv]; simp
    have HV := Aside0.mk hv
    rw [hb]
    clear hv hb
    go_wp2_with fail
    refine (HQ.out HV.out _ HD.out).mono ?_
    rintro e w1 ⟨rfl, hq⟩
    have HQ1 := Aside0.mk hq
    clear hq
    go_wp2
    go_ret
    exact ⟨false, rfl, (fun h => by cases h), fun _ => ⟨HV.out, HQ1.out⟩⟩
  · have hb : (nm.toList == v.toList) = false := by
      rw [beq_eq_false_iff_ne]
      exact fun e => hv (bytes_ext e.symm)
    rw [hb]
    clear hb
    go_wp2
    go_ret
    exact ⟨true, rfl, fun _ => ⟨hv, HD.out⟩, fun h => by cases h⟩

/-- The value of the key is handed to the callback, once. -/
def NamedPost (w : World) (ks : List ByteArray) (nm : ByteArray) (Q : Nat → World → Prop) (e : Ending) (w' : World) : Prop :=
  e = .returned (.tuple #[]) ∧ ((nm ∉ ks ∧ Below w.heap.size w w') ∨ ∃ j, ks[j]? = some nm ∧ Q j w')

set_option maxRecDepth 100000 in
theorem named_calls (w : World) (nm : ByteArray) (ak ck : Nat) (A : Option Addr) (g c : Nat) (ks : List ByteArray) (bs : List Nat) (f : FuncId) (cap : Array Value) (Q : Nat → World → Prop)
    (hf : ∀ (xs : Array Value) (wa : World), (callFunc f xs).run Try.prog wa = .ok (.enter f xs) wa)
    (hk : w.heap[ak]? = some (.cells #[.string nm] 9 (0, 0)))
    (hA : 0 < ks.length → A = some ⟨g, 0, none⟩) (hm : bs.length = 2 * ks.length) (hb : ks.length ≤ 1000)
    (hcell : ∀ i (h : i < bs.length), w.cell? ⟨g, i, none⟩ = some (ptr bs[i]))
    (hkey : ∀ j (h : j < ks.length), ∃ t cv, NB w (bs.getD (2 * j) 0) 8 t ks[j] cv)
    (hQ : ∀ j wa, ks[j]? = some nm → Below w.heap.size w wa → Calls Try.prog f (#[ptr (bs.getD (2 * j) 0), ptr (bs.getD (2 * j + 1) 0)] ++ cap) wa fun e w' => e = .returned (.tuple #[]) ∧ Q j w') :
    Calls Try.prog 68 #[.slice A bs.length c, .func (.func f) #[] cap, .slice (some ⟨ak, 0, none⟩) 1 ck] w (NamedPost w ks nm Q) := by
  have hmf : ∀ (fn : Fn) (first cap : Array Value) (w : World), (Instr.makeFunc fn first cap).run Try.prog w = .ok (.func fn first cap) w := fun _ _ _ _ => rfl
  have HC := Aside0.mk hcell
  have HK := Aside0.mk hkey
  have HQ := Aside0.mk hQ
  have HAK := Aside0.mk hk
  have HM := Aside0.mk (And.intro hA (And.intro hm hb))
  clear hcell hkey hQ hk hA hm hb
  go_enter Try.func68, Try.ntmps68
  go_wp2_with fail
  obtain ⟨w0, e0⟩ : ∃ w0, w0 = (w.alloc (.cells #[.func (.func f) #[] cap] 110)).alloc (.cells #[.slice (some ⟨ak, 0, none⟩) 1 ck] 22) := ⟨_, rfl⟩
  rw [← e0]
  have hb0 : Below w.heap.size w w0 := by rw [e0]; exact ((Below.refl _ _).alloc (Nat.le_refl _) _).alloc (by simp) _
  have hw3 : w0.heap[w.heap.size + 1]? = some (.cells #[.slice (some ⟨ak, 0, none⟩) 1 ck] 22 (0, 0)) := by rw [e0]; exact heap_at _ (by simp)
  have hw4 : w0.heap[w.heap.size]? = some (.cells #[.func (.func f) #[] cap] 110 (0, 0)) := by rw [e0]; exact (heap_old _ (by simp)).trans (heap_at _ rfl)
  have HB0 := Aside0.mk (And.intro hb0 (And.intro hw3 hw4))
  clear hb0 hw3 hw4 e0
  refine (while_calls w0 A g c ks.length bs.length bs 87 _ (fun j wr => Chg (fun _ => False) w0 wr ∧ ∀ i, i < j → ks[i]? ≠ some nm) (fun wr => (nm ∉ ks ∧ Below w.heap.size w wr) ∨ ∃ j, ks[j]? = some nm ∧ Q j wr)
    (fun xs wa => enters_ Try.func87 rfl rfl xs wa) HM.out.1 HM.out.2.1 HM.out.2.1 HM.out.2.2 ?cell ?round ?drew ?done ⟨Chg.refl _ _, fun i hi => by omega⟩).mono ?_
  case cell =>
    intro j w' ⟨hc, _⟩ i hi
    exact hc.cell_of ((HB0.out.1.cell (World.block_lt_of_cell? w _ (HC.out i hi))).trans (HC.out i hi)) (fun q => q)
  case drew => intro j w' ⟨hc, h⟩; exact ⟨hc.drew, h⟩
  case done =>
    intro w' ⟨hc, h⟩
    refine .inl ⟨fun hmem => ?_, HB0.out.1.trans (hc.below HB0.out.1.size (fun _ q => q.elim))⟩
    obtain ⟨i, hi, he⟩ := List.getElem_of_mem hmem
    exact h i hi (by rw [List.getElem?_eq_getElem hi, he])
  case round =>
    intro j w' hj ⟨hc, h⟩
    obtain ⟨t, cv, hn⟩ := HK.out j hj
    have hc0 : Below w.heap.size w w' := HB0.out.1.trans (hc.below HB0.out.1.size (fun _ q => q.elim))
    refine (pick_calls w' nm ak _ t ks[j] cv (hn.below hc0) _ _ (w.heap.size + 1) w.heap.size f cap ck hf ((hc.block _ (lt_of_block HB0.out.2.1) (fun q => q)).trans HB0.out.2.1) ((hc.block _ (lt_of_block HB0.out.2.2) (fun q => q)).trans HB0.out.2.2)
      ((hc0.block _ (lt_of_block HAK.out)).trans HAK.out) (Q j) (fun he wa hwa => HQ.out j wa (by rw [List.getElem?_eq_getElem hj, he]) (hc0.trans (hwa.below hc0.size (fun _ q => q.elim))))).mono ?_
    rintro e w1 ⟨r, rfl, h1, h2⟩
    refine ⟨r, rfl, fun hr => ?_, fun hr => ?_⟩
    · obtain ⟨hne, hcc⟩ := h1 hr
      refine ⟨hc.trans hcc (fun _ q => q.elim), fun i hi => ?_⟩
      rcases Nat.lt_succ_iff_lt_or_eq.1 hi with hi | rfl
      · exact h i hi
      · rw [List.getElem?_eq_getElem hj]; exact fun e => hne (by simpa using e)
    · obtain ⟨he, hq⟩ := h2 hr
      exact .inr ⟨j, by rw [List.getElem?_eq_getElem hj, he], hq⟩
  rintro e w1 ⟨rfl, hq⟩
  have HQ1 := Aside0.mk hq
  clear hq
  go_wp2
  refine ⟨rfl, .tuple #[], ?_, ?_⟩
  · simp [results, Try.results68, go_sem]
  · exact ⟨rfl, HQ1.out⟩

/-- A map's node with the key and the value, laid by the callback of RNode.Field. -/
def FieldAt (w0 w' : World) (bs : List Nat) (j m kr vr : Nat) : Prop :=
  w'.heap[m]? = some (.cells #[ptr kr, ptr vr] 70 (0, 0)) ∧ RN w' kr (bs.getD (2 * j) 0) ∧ RN w' vr (bs.getD (2 * j + 1) 0) ∧ w0.heap.size ≤ m ∧ w0.heap.size ≤ kr ∧ w0.heap.size ≤ vr
theorem fieldcall_calls (w : World) (kb vb a : Nat) (h : w.heap[a]? = some (.cells #[.pointer none] 67 (0, 0))) :
    Calls Try.prog 89 #[ptr kb, ptr vb, .pointer (some ⟨a, 0, none⟩)] w fun e w' => e = .returned (.tuple #[]) ∧ ∃ m kr vr, w'.heap[a]? = some (.cells #[ptr m] 67 (0, 0)) ∧ Chg (fun k => k = a) w w' ∧
      w'.heap[m]? = some (.cells #[ptr kr, ptr vr] 70 (0, 0)) ∧ RN w' kr kb ∧ RN w' vr vb ∧ w.heap.size ≤ m ∧ w.heap.size ≤ kr ∧ w.heap.size ≤ vr := by
  have hlt := lt_of_block h
  have hb : ∀ o1 o2 o3, (((w.alloc o1).alloc o2).alloc o3).heap[a]? = some (.cells #[.pointer none] 67 (0, 0)) := fun o1 o2 o3 =>
    (heap_old o3 (by simp; omega)).trans ((heap_old o2 (by simp; omega)).trans ((heap_old o1 hlt).trans h))
  have hc : ∀ o1 o2 o3, (((w.alloc o1).alloc o2).alloc o3).cell? ⟨a, 0, none⟩ = some (.pointer none) := fun o1 o2 o3 => by rw [cell_of_block (hb o1 o2 o3)]; rfl
  have hz : ∀ o1 o2 o3, (((w.alloc o1).alloc o2).alloc o3).frozen? ⟨a, 0, none⟩ = false := fun o1 o2 o3 => frozen_of_block (hb o1 o2 o3)
  have HB := Aside0.mk hb
  clear h hb
  go_enter Try.func89, Try.ntmps89
  go_wp2_with (first | (go_at_call 63; refine (newrnode_calls _ _).mono ?_; rintro e w' ⟨rfl, rfl⟩))
  refine ⟨rfl, .tuple #[], ?_, ?_⟩
  · simp [results, Try.results89, go_sem]
  · refine ⟨rfl, w.heap.size + 1 + 1, w.heap.size, w.heap.size + 1, heap_set (a := ⟨a, 0, none⟩) (HB.out _ _ _) rfl, ?_, ?_, ?_, ?_, by omega, by omega, by omega⟩
    · exact ((((Chg.refl (fun k => k = a) w).alloc _).alloc _).alloc _).setCell (p := ⟨a, 0, none⟩) (.inl rfl) _
    · exact (heap_set_ne (by simp; omega)).trans (heap_at _ (by simp))
    · exact ⟨_, _, _, (heap_set_ne (by simp; omega)).trans ((heap_old _ (by simp; omega)).trans ((heap_old _ (by simp)).trans (heap_at _ rfl)))⟩
    · exact ⟨_, _, _, (heap_set_ne (by simp; omega)).trans ((heap_old _ (by simp)).trans (heap_at _ (by simp)))⟩

/-- What RNode.Field hands back of a map. -/
def FieldPost (w : World) (ks : List ByteArray) (nm : ByteArray) (bs : List Nat) (e : Ending) (w' : World) : Prop :=
  Below w.heap.size w w' ∧ ((nm ∉ ks ∧ e = .returned (.pointer none)) ∨ ∃ j m kr vr, ks[j]? = some nm ∧ e = .returned (ptr m) ∧ FieldAt w w' bs j m kr vr)

set_option maxRecDepth 100000 in
theorem field_calls (w : World) (r b : Nat) (t v : ByteArray) (A : Option Addr) (g c : Nat) (nm : ByteArray) (ks : List ByteArray) (bs : List Nat) (hr : RN w r b) (hn : NB w b 4 t v (.slice A bs.length c)) (hl : Live 4 t)
    (hA : 0 < ks.length → A = some ⟨g, 0, none⟩) (hm : bs.length = 2 * ks.length) (hb : ks.length ≤ 1000)
    (hcell : ∀ i (h : i < bs.length), w.cell? ⟨g, i, none⟩ = some (ptr bs[i]))
    (hkey : ∀ j (h : j < ks.length), ∃ t cv, NB w (bs.getD (2 * j) 0) 8 t ks[j] cv) :
    Calls Try.prog 70 #[ptr r, .string nm] w (FieldPost w ks nm bs) := by
  have hmf : ∀ (fn : Fn) (first cap : Array Value) (w : World), (Instr.makeFunc fn first cap).run Try.prog w = .ok (.func fn first cap) w := fun _ _ _ _ => rfl
  have c1 := hn.kind
  have HR := Aside0.mk hr
  have HN := Aside0.mk hn
  have HL := Aside0.mk hl
  have HC := Aside0.mk hcell
  have HK := Aside0.mk hkey
  have HM := Aside0.mk (And.intro hA (And.intro hm hb))
  clear hr hn hl hcell hkey hA hm hb
  go_enter Try.func70, Try.ntmps70
  go_wp2_with (first | (go_at_call 72; refine (ynode_calls _ r b HR.out 4 t v (.slice A bs.length c) HN.out HL.out).mono ?_; rintro e w' ⟨rfl, rfl⟩) | (go_at_call 66; refine (content_calls _ r b (HR.out.below ((Below.refl _ _).alloc (Nat.le_refl _) _)) 4 t v (.slice A bs.length c) (HN.out.below ((Below.refl _ _).alloc (Nat.le_refl _) _)) HL.out).mono ?_; rintro e w' ⟨rfl, rfl⟩) | (go_at_call 68; fail))
  obtain ⟨w0, e0⟩ : ∃ w0, w0 = (w.alloc (.cells #[.pointer none] 67)).alloc (.cells #[.string nm] 9) := ⟨_, rfl⟩
  rw [← e0]
  have hb0 : Below w.heap.size w w0 := by rw [e0]; exact ((Below.refl _ _).alloc (Nat.le_refl _) _).alloc (by simp) _
  have hw3 : w0.heap[w.heap.size + 1]? = some (.cells #[.string nm] 9 (0, 0)) := by rw [e0]; exact heap_at _ (by simp)
  have hw4 : w0.heap[w.heap.size]? = some (.cells #[.pointer none] 67 (0, 0)) := by rw [e0]; exact (heap_old _ (by simp)).trans (heap_at _ rfl)
  have hs0 : w.heap.size + 1 < w0.heap.size := lt_of_block hw3
  have HB0 := Aside0.mk (And.intro hb0 (And.intro hw3 (And.intro hw4 hs0)))
  clear hb0 hw3 hw4 hs0 e0
  refine (named_calls w0 nm (w.heap.size + 1) 1 A g c ks bs 89 #[.pointer (some ⟨w.heap.size, 0, none⟩)] (fun j w' => Below w.heap.size w w' ∧ ∃ m kr vr, w'.heap[w.heap.size]? = some (.cells #[ptr m] 67 (0, 0)) ∧ FieldAt w w' bs j m kr vr)
    (fun xs wa => enters_ Try.func89 rfl rfl xs wa) HB0.out.2.1 HM.out.1 HM.out.2.1 HM.out.2.2 ?cell ?key ?call).mono ?_
  case cell => exact fun i hi => (HB0.out.1.cell (World.block_lt_of_cell? w _ (HC.out i hi))).trans (HC.out i hi)
  case key =>
    intro j hj
    obtain ⟨t', cv', h⟩ := HK.out j hj
    exact ⟨t', cv', h.below HB0.out.1⟩
  case call =>
    intro j wa hj hwa
    refine (fieldcall_calls wa _ _ w.heap.size ((hwa.block _ (lt_of_block HB0.out.2.2.1)).trans HB0.out.2.2.1)).mono ?_
    rintro e w1 ⟨rfl, m, kr, vr, h1, h2, h3, h4, h5, h6, h7, h8⟩
    have hsz := hwa.size
    have hs1 := HB0.out.1.size
    have hbw : Below w.heap.size w wa := HB0.out.1.trans (hwa.mono hs1)
    exact ⟨rfl, hbw.trans (h2.below hbw.size (fun k e => by omega)), m, kr, vr, h1, h3, h4, h5, by omega, by omega, by omega⟩
  rintro e w1 ⟨rfl, hq⟩
  have hcase : Below w.heap.size w w1 ∧ ∃ p, w1.heap[w.heap.size]? = some (.cells #[p] 67 (0, 0)) ∧ ((nm ∉ ks ∧ p = .pointer none) ∨ ∃ j m kr vr, ks[j]? = some nm ∧ p = ptr m ∧ FieldAt w w1 bs j m kr vr) := by
    rcases hq with ⟨h1, h2⟩ | ⟨j, h1, h2, m, kr, vr, h3, h4⟩
    · exact ⟨HB0.out.1.trans (h2.mono HB0.out.1.size), _, (h2.block _ (lt_of_block HB0.out.2.2.1)).trans HB0.out.2.2.1, .inl ⟨h1, rfl⟩⟩
    · exact ⟨h2, _, h3, .inr ⟨j, m, kr, vr, h1, rfl, h4⟩⟩
  obtain ⟨hbw, p, hp, hcase⟩ := hcase
  have HQ := Aside0.mk (And.intro hbw hcase)
  have cp : w1.cell? ⟨w.heap.size, 0, none⟩ = some p := by rw [cell_of_block hp]; rfl
  clear hbw hcase hq hp
  go_wp2
  go_ret
  refine ⟨HQ.out.1, ?_⟩
  rcases HQ.out.2 with ⟨h1, rfl⟩ | ⟨j, m, kr, vr, h1, rfl, h2⟩
  · exact .inl ⟨h1, rfl⟩
  · exact .inr ⟨j, m, kr, vr, h1, rfl, h2⟩

/-- What is no map has no field. -/
theorem nofield_calls (w : World) (r b : Nat) (k : Int) (t v : ByteArray) (cv : Value) (nm : ByteArray) (hr : RN w r b) (hn : NB w b k t v cv) (hl : Live k t) (hk : (k == 4) = false) :
    Calls Try.prog 70 #[ptr r, .string nm] w fun e w' => e = .returned (.pointer none) ∧ w = w' := by
  have c1 := hn.kind
  go_enter Try.func70, Try.ntmps70
  go_wp2_with (first | (go_at_call 72; refine (ynode_calls _ r b hr k t v cv hn hl).mono ?_; rintro e w' ⟨rfl, rfl⟩))
  go_ret
  exact ⟨rfl, rfl⟩
end Go.Proofs.Ytigpgkfgkjabmaa
