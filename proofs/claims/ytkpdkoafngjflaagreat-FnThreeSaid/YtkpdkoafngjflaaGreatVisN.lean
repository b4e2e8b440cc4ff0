import Derived.Test.YtkpdkoafngjflaaGreatSh
import Derived.Test.YtkpdkoafngjflaaGreatVals
namespace Go.Proofs.YtkpdkoafngjflaaGreat
open Go.RowKit Go.Proofs.YtkpdkoafngjflaaGreatW.PrintWords Go.Proofs.YtkpdkoafngjflaaGreatW.PrintLast Go.Proofs.YtkpdkoafngjflaaGreat.PFnFields
set_option linter.unusedVariables false
theorem PR.below {w w' : World} {v : Value} {o : PO} (h : PR w v o) (hb : Below w.heap.size w w') : PR w' v o := by
 cases o with
 | none => exact h
 | some x => obtain ⟨b, k, t, s, cv⟩ := x; obtain ⟨r, e, hr, hn, hl⟩ := h; exact ⟨r, e, hr.below hb, hn.below hb, hl⟩
theorem pr_miss (w : World) (v : Value) (o : PO) (b : Bool) (h : PR w v o ∧ o.isNone = b) : Calls Tryz.prog 50 #[v] w fun e w' => e = .returned (.bool b) ∧ w = w' := by
 have := pr_missing w v o h.1
 rw [h.2] at this
 exact this
set_option maxRecDepth 100000 in
theorem vscalar_easy (w : World) (s c : Nat) (v0 v1 v2 : Value) (o0 o1 o2 : PO) (h : Src w s v0 v1 v2) (h0 : PR w v0 o0) (h1 : PR w v1 o1) (h2 : PR w v2 o2) (vr : Value) (he : (o1.isNone = true ∧ o2.isNone = true ∧ vr = v0) ∨ (o1.isNone = true ∧ o2.isNone = false ∧ vr = v2) ∨ (o1.isNone = false ∧ o2.isNone = true ∧ vr = v2)) :
  Calls Tryz.prog 154 #[.agg #[], srcV s c, .pointer none] w fun e w' => e = .returned (.tuple #[vr, .nilIface]) ∧ Below w.heap.size w w' := by
 have HH := Aside0.mk (And.intro h (And.intro h0 (And.intro h1 h2)))
 have HB : Aside0 (∀ o : Obj, Below w.heap.size w (w.alloc o)) := ⟨fun o => (Below.refl _ _).alloc (Nat.le_refl _) o⟩
 clear h h0 h1 h2
 go_enter Tryz.func154, Tryz.ntmps154
 go_wp2_with fail
 obtain ⟨w0, e0⟩ : ∃ w0, w0 = w.alloc (.cells #[] 53) := ⟨_, rfl⟩
 try rw [← e0]
 have hb0 : Below w.heap.size w w0 := by rw [e0]; exact HB.out _
 have H := Aside0.mk (And.intro (HH.out.1.below hb0) (And.intro (HH.out.2.1.below hb0) (And.intro (HH.out.2.2.1.below hb0) (HH.out.2.2.2.below hb0))))
 have HB0 := Aside0.mk hb0
 clear hb0 e0 HB HH
 rcases he with ⟨q1, q2, rfl⟩ | ⟨q1, q2, rfl⟩ | ⟨q1, q2, rfl⟩
 ·have HP := Aside0.mk (And.intro H.out.1 (And.intro H.out.2.1 (And.intro (And.intro H.out.2.2.1 q1) (And.intro H.out.2.2.2 q2))))
  clear H q1 q2
  go_wp2_with (first | (go_at_call 158; with_reducible refine (updated_calls _ s c _ _ _ HP.out.1).mono ?_; rintro e w' ⟨rfl, rfl⟩) | (go_at_call 162; with_reducible refine (origin_calls _ s c _ _ _ HP.out.1).mono ?_; rintro e w' ⟨rfl, rfl⟩) | (go_at_call 160; with_reducible refine (dest_calls _ s c _ _ _ HP.out.1).mono ?_; rintro e w' ⟨rfl, rfl⟩) | (go_at_call 161; with_reducible refine (clearnode_calls _).mono ?_; rintro e w' ⟨rfl, rfl⟩) | (go_at_call 159; with_reducible refine (pr_tagged _ _ _ (HP.out.2.2.2).1).mono ?_; rintro e w' ⟨rfl, rfl⟩) | (go_at_call 159; with_reducible refine (pr_tagged _ _ _ HP.out.2.1).mono ?_; rintro e w' ⟨rfl, rfl⟩) | (go_at_call 50; with_reducible refine (pr_miss _ _ _ _ HP.out.2.2.2).mono ?_; rintro e w' ⟨rfl, rfl⟩) | (go_at_call 50; with_reducible refine (pr_miss _ _ _ _ HP.out.2.2.1).mono ?_; rintro e w' ⟨rfl, rfl⟩))
  exact bodyPost_ret (v := .tuple #[vr, .nilIface]) (by simp [results, Tryz.results154, go_sem]) rfl ⟨rfl, HB0.out⟩
 ·have HP := Aside0.mk (And.intro H.out.1 (And.intro H.out.2.1 (And.intro (And.intro H.out.2.2.1 q1) (And.intro H.out.2.2.2 q2))))
  clear H q1 q2
  go_wp2_with (first | (go_at_call 158; with_reducible refine (updated_calls _ s c _ _ _ HP.out.1).mono ?_; rintro e w' ⟨rfl, rfl⟩) | (go_at_call 162; with_reducible refine (origin_calls _ s c _ _ _ HP.out.1).mono ?_; rintro e w' ⟨rfl, rfl⟩) | (go_at_call 160; with_reducible refine (dest_calls _ s c _ _ _ HP.out.1).mono ?_; rintro e w' ⟨rfl, rfl⟩) | (go_at_call 161; with_reducible refine (clearnode_calls _).mono ?_; rintro e w' ⟨rfl, rfl⟩) | (go_at_call 159; with_reducible refine (pr_tagged _ _ _ (HP.out.2.2.2).1).mono ?_; rintro e w' ⟨rfl, rfl⟩) | (go_at_call 159; with_reducible refine (pr_tagged _ _ _ HP.out.2.1).mono ?_; rintro e w' ⟨rfl, rfl⟩) | (go_at_call 50; with_reducible refine (pr_miss _ _ _ _ HP.out.2.2.2).mono ?_; rintro e w' ⟨rfl, rfl⟩) | (go_at_call 50; with_reducible refine (pr_miss _ _ _ _ HP.out.2.2.1).mono ?_; rintro e w' ⟨rfl, rfl⟩))
  exact bodyPost_ret (v := .tuple #[vr, .nilIface]) (by simp [results, Tryz.results154, go_sem]) rfl ⟨rfl, HB0.out⟩
 ·have HP := Aside0.mk (And.intro H.out.1 (And.intro H.out.2.1 (And.intro (And.intro H.out.2.2.1 q1) (And.intro H.out.2.2.2 q2))))
  clear H q1 q2
  go_wp2_with (first | (go_at_call 158; with_reducible refine (updated_calls _ s c _ _ _ HP.out.1).mono ?_; rintro e w' ⟨rfl, rfl⟩) | (go_at_call 162; with_reducible refine (origin_calls _ s c _ _ _ HP.out.1).mono ?_; rintro e w' ⟨rfl, rfl⟩) | (go_at_call 160; with_reducible refine (dest_calls _ s c _ _ _ HP.out.1).mono ?_; rintro e w' ⟨rfl, rfl⟩) | (go_at_call 161; with_reducible refine (clearnode_calls _).mono ?_; rintro e w' ⟨rfl, rfl⟩) | (go_at_call 159; with_reducible refine (pr_tagged _ _ _ (HP.out.2.2.2).1).mono ?_; rintro e w' ⟨rfl, rfl⟩) | (go_at_call 159; with_reducible refine (pr_tagged _ _ _ HP.out.2.1).mono ?_; rintro e w' ⟨rfl, rfl⟩) | (go_at_call 50; with_reducible refine (pr_miss _ _ _ _ HP.out.2.2.2).mono ?_; rintro e w' ⟨rfl, rfl⟩) | (go_at_call 50; with_reducible refine (pr_miss _ _ _ _ HP.out.2.2.1).mono ?_; rintro e w' ⟨rfl, rfl⟩))
  exact bodyPost_ret (v := .tuple #[vr, .nilIface]) (by simp [results, Tryz.results154, go_sem]) rfl ⟨rfl, HB0.out⟩
def vs1.T : Bool × List (List Nat × List Nat) := (true, [([], []), ([0], [0]), ([1, 1], [1]), ([2], [2]), ([3], [3]), ([4], [4]), ([], []), ([6, 2], [6]), ([7, 7], [7]), ([8], [8]), ([9], [9]), ([10], [10]), ([5, 11], [5, 11])])
def vs1.B : List Nat := [0, 1, 3, 7, 15, 31, 0, 71, 199, 455, 967, 1991, 4095]
theorem vs1.tab : rtab .any (opsOf Tryz.f154 12) = vs1.T := by kernel_rfl
theorem vs1.bits : waitsOk vs1.T.2 vs1.B = true := by kernel_rfl
set_option maxRecDepth 100000 in
set_option maxHeartbeats 800000 in
theorem vscalar_all (w : World) (s c rd ro ru bd bo bu : Nat) (gd go_ gu td to_ tu : ByteArray) (cd co cu : Value) (h : Src w s (ptr rd) (ptr ro) (ptr ru)) (h0 : RN w rd bd ∧ NB w bd 8 gd td cd ∧ Live 8 gd) (h1 : RN w ro bo ∧ NB w bo 8 go_ to_ co ∧ Live 8 go_) (h2 : RN w ru bu ∧ NB w bu 8 gu tu cu ∧ Live 8 gu) (vr : Value) (hv : (tu = to_ ∧ vr = ptr rd) ∨ (tu ≠ to_ ∧ vr = ptr ru)) :
  Calls Tryz.prog 154 #[.agg #[], srcV s c, .pointer none] w fun e w' => e = .returned (.tuple #[vr, .nilIface]) ∧ Below w.heap.size w w' := by
 have HH := Aside0.mk (And.intro h (And.intro h0 (And.intro h1 h2)))
 have HB : Aside0 (∀ o : Obj, Below w.heap.size w (w.alloc o)) := ⟨fun o => (Below.refl _ _).alloc (Nat.le_refl _) o⟩
 clear h h0 h1 h2
 go_enter Tryz.func154, Tryz.ntmps154
 go_wp2_with fail
 obtain ⟨w0, e0⟩ : ∃ w0, w0 = w.alloc (.cells #[] 53) := ⟨_, rfl⟩
 try rw [← e0]
 have hb0 : Below w.heap.size w w0 := by rw [e0]; exact HB.out _
 have hp : ∀ {r b : Nat} {g t : ByteArray} {cv : Value}, RN w r b ∧ NB w b 8 g t cv ∧ Live 8 g → PR w0 (ptr r) (some (b, 8, g, t, cv)) ∧ (some (b, 8, g, t, cv) : PO).isNone = false := fun q => ⟨⟨_, rfl, q.1.below hb0, q.2.1.below hb0, q.2.2⟩, rfl⟩
 have ht : ∀ {r b : Nat} {g t : ByteArray} {cv : Value}, RN w r b ∧ NB w b 8 g t cv ∧ Live 8 g → TN w0 r b t := fun q => ⟨q.1.below hb0, ⟨_, _, _, _, q.2.1.below hb0, q.2.2⟩, fun w' hb => (ztext_leaf w' _ _ _ _ ((q.2.1.below hb0).below hb)).mono (by rintro e w2 ⟨rfl, rfl⟩; exact ⟨rfl, Below.refl _ _⟩)⟩
 have HP := Aside0.mk (And.intro (HH.out.1.below hb0) (And.intro (hp HH.out.2.1).1 (And.intro (hp HH.out.2.2.1) (hp HH.out.2.2.2))))
 have HT := Aside0.mk (And.intro (ht HH.out.2.1) (And.intro (ht HH.out.2.2.1) (ht HH.out.2.2.2)))
 have HB0 := Aside0.mk hb0
 clear hb0 e0 HB hp ht
 go_wp2_with (first | (go_at_call 158; with_reducible refine (updated_calls _ s c _ _ _ HP.out.1).mono ?_; rintro e w' ⟨rfl, rfl⟩) | (go_at_call 162; with_reducible refine (origin_calls _ s c _ _ _ HP.out.1).mono ?_; rintro e w' ⟨rfl, rfl⟩) | (go_at_call 160; with_reducible refine (dest_calls _ s c _ _ _ HP.out.1).mono ?_; rintro e w' ⟨rfl, rfl⟩) | (go_at_call 161; with_reducible refine (clearnode_calls _).mono ?_; rintro e w' ⟨rfl, rfl⟩) | (go_at_call 159; with_reducible refine (pr_tagged _ _ _ (HP.out.2.2.2).1).mono ?_; rintro e w' ⟨rfl, rfl⟩) | (go_at_call 159; with_reducible refine (pr_tagged _ _ _ HP.out.2.1).mono ?_; rintro e w' ⟨rfl, rfl⟩) | (go_at_call 50; with_reducible refine (pr_miss _ _ _ _ HP.out.2.2.2).mono ?_; rintro e w' ⟨rfl, rfl⟩) | (go_at_call 50; with_reducible refine (pr_miss _ _ _ _ HP.out.2.2.1).mono ?_; rintro e w' ⟨rfl, rfl⟩))
 refine (strvals_calls w0 s c rd ro ru bd bo bu td to_ tu HP.out.1 HT.out.1 HT.out.2.1 HT.out.2.2).mono ?_
 rintro e w1 ⟨rfl, hb⟩
 have hbw := HB0.out.trans (hb.mono HB0.out.size)
 have HB1 := Aside0.mk hbw
 clear hb hbw HP HT
 have hp : ∀ {w2 : World}, Below w.heap.size w w2 → Src w2 s (ptr rd) (ptr ro) (ptr ru) ∧ (RN w2 ro bo ∧ NB w2 bo 8 go_ to_ co ∧ Live 8 go_) ∧ (RN w2 ru bu ∧ NB w2 bu 8 gu tu cu ∧ Live 8 gu) := fun hb => ⟨HH.out.1.below hb, ⟨HH.out.2.2.1.1.below hb, HH.out.2.2.1.2.1.below hb, HH.out.2.2.1.2.2⟩, ⟨HH.out.2.2.2.1.below hb, HH.out.2.2.2.2.1.below hb, HH.out.2.2.2.2.2⟩⟩
 have HP := Aside0.mk @hp
 clear hp
 obtain ⟨w2, e2⟩ : ∃ w2, w2 = w1.alloc (.cells #[.string to_, .string tu, .string td] 214) := ⟨_, rfl⟩
 have hb2 : Below w.heap.size w w2 := by rw [e2]; exact HB1.out.alloc HB1.out.size _
 have h2 : w2.heap[w1.heap.size]? = some (.cells #[.string to_, .string tu, .string td] 214 (0, 0)) := by rw [e2]; exact heap_at _ rfl
 have HB2 := Aside0.mk hb2
 have HE2 := Aside0.mk e2
 have f0 : w2.cell? ⟨w1.heap.size, 0, none⟩ = some (.string to_) := by rw [cell_of_block h2]; rfl
 have f1 : w2.cell? ⟨w1.heap.size, 1, none⟩ = some (.string tu) := by rw [cell_of_block h2]; rfl
 have f2 : w2.cell? ⟨w1.heap.size, 2, none⟩ = some (.string td) := by rw [cell_of_block h2]; rfl
 rw [HE2.out] at f0 f1 f2
 clear hb2 h2 e2
 rcases hv with ⟨ht, rfl⟩ | ⟨ht, rfl⟩
 ·have HT := Aside0.mk ht
  have ht1 : (to_.toList == tu.toList) = true := by rw [ht]; simp
  clear ht
  rcases (Classical.em (td.toList = [])) with h1 | h1
  ·go_wp2_with fail
   rw [← HE2.out]
   clear f0 f1 f2 ht1 h1
   refine start_ (n := 13) (S := fun w' => w'.cell? ⟨bu, 3, none⟩ = some (.string tu) ∧ w'.cell? ⟨bo, 3, none⟩ = some (.string to_)) (ds := []) #[false, false, false, false, false, false, false, false, false, false, false, false, false] (by kernel_rfl) rfl rfl ⟨(HP.out HB2.out.drew).2.2.2.1.value, (HP.out HB2.out.drew).2.1.2.1.value⟩ (fun hHeld => ?_)
   refine with_tabW (T := vs1.T) (B := vs1.B) vs1.tab vs1.bits (fun HT_ HW_ => ?_)
   have HB := Aside0.mk HB2.out.drew
   generalize w2.drew = wc at HB hHeld ⊢
   refine ps_ 0 65 HT_ ?_
   refine ps_ 6 71 HT_ ?_
   refine one_ (i := 1) (N := (some 66)) #[true, true, false, false, false, false, true, false, false, false, false, false, false] rfl rfl (one_of HT_.out (by kernel_rfl)) (by decide) (fun K hK => ?_)
   refine goes_ Tryz.func158 (by kernel_rfl) rfl #[srcV s c] (by rfl) rfl rfl (by simp only [List.map_toArray, List.map_cons, List.map_nil]; rfl) ?_
   refine (updated_calls wc s c _ _ _ (HP.out HB.out).1).mono ?_
   rintro e w4 ⟨rfl, rfl⟩
   refine ⟨_, rfl, ?_⟩
   refine hK.out _ _ hHeld (fun hHeld => ?_)
   clear hK K
   refine ns_ ?_
   refine one_ (i := 2) (N := (some 67)) #[true, true, true, false, false, false, true, false, false, false, false, false, false] rfl rfl (one_of HT_.out (by kernel_rfl)) (by decide) (fun K hK => ?_)
   refine goes_ Tryz.func37 (by kernel_rfl) rfl #[ptr ru] (by rfl) rfl rfl (by simp only [List.map_toArray, List.map_cons, List.map_nil]; rfl) ?_
   refine (ynode_calls wc ru bu (HP.out HB.out).2.2.1 _ _ _ _ (HP.out HB.out).2.2.2.1 (HP.out HB.out).2.2.2.2).mono ?_
   rintro e w4 ⟨rfl, rfl⟩
   refine ⟨_, rfl, ?_⟩
   refine hK.out _ _ hHeld (fun hHeld => ?_)
   clear hK K
   refine ns_ ?_
   refine ps_ 3 68 HT_ ?_
   refine ps_ 4 69 HT_ ?_
   refine ts_ 5 70 HT_ HW_ hHeld ?_
   refine one_ (i := 7) (N := (some 72)) #[true, true, true, true, true, true, true, true, false, false, false, false, false] rfl rfl (one_of HT_.out (by kernel_rfl)) (by decide) (fun K hK => ?_)
   refine goes_ Tryz.func162 (by kernel_rfl) rfl #[srcV s c] (by rfl) rfl rfl (by simp only [List.map_toArray, List.map_cons, List.map_nil]; rfl) ?_
   refine (origin_calls wc s c _ _ _ (HP.out HB.out).1).mono ?_
   rintro e w4 ⟨rfl, rfl⟩
   refine ⟨_, rfl, ?_⟩
   refine hK.out _ _ hHeld (fun hHeld => ?_)
   clear hK K
   refine ns_ ?_
   refine one_ (i := 8) (N := (some 73)) #[true, true, true, true, true, true, true, true, true, false, false, false, false] rfl rfl (one_of HT_.out (by kernel_rfl)) (by decide) (fun K hK => ?_)
   refine goes_ Tryz.func37 (by kernel_rfl) rfl #[ptr ro] (by rfl) rfl rfl (by simp only [List.map_toArray, List.map_cons, List.map_nil]; rfl) ?_
   refine (ynode_calls wc ro bo (HP.out HB.out).2.1.1 _ _ _ _ (HP.out HB.out).2.1.2.1 (HP.out HB.out).2.1.2.2).mono ?_
   rintro e w4 ⟨rfl, rfl⟩
   refine ⟨_, rfl, ?_⟩
   refine hK.out _ _ hHeld (fun hHeld => ?_)
   clear hK K
   refine ns_ ?_
   refine ps_ 9 74 HT_ ?_
   refine ps_ 10 75 HT_ ?_
   refine ts_ 11 76 HT_ HW_ hHeld ?_
   refine ps_ 12 77 HT_ ?_
   refine done_ (done_of HT_.out (by kernel_rfl)) ?_
   have ht1 : (!tu.toList == to_.toList) = false := by rw [HT.out]; simp
   have HZ := Aside0.mk (HP.out HB.out)
   rw [ht1]
   clear hHeld ht1
   go_wp2_with (first | (go_at_call 160; with_reducible refine (dest_calls _ s c _ _ _ HZ.out.1).mono ?_; rintro e w' ⟨rfl, rfl⟩))
   exact bodyPost_ret (v := .tuple #[ptr rd, .nilIface]) (by simp [results, Tryz.results154, go_sem]) rfl ⟨rfl, HB.out⟩
  ·rcases (Classical.em (td.toList = to_.toList)) with h2 | h2
   ·have h3 : ¬ to_.toList = [] := by rw [← h2]; exact h1
    go_wp2_with fail
    rw [← HE2.out]
    clear f0 f1 f2 ht1
    refine start_ (n := 13) (S := fun w' => w'.cell? ⟨bu, 3, none⟩ = some (.string tu) ∧ w'.cell? ⟨bo, 3, none⟩ = some (.string to_)) (ds := []) #[false, false, false, false, false, false, false, false, false, false, false, false, false] (by kernel_rfl) rfl rfl ⟨(HP.out HB2.out.drew).2.2.2.1.value, (HP.out HB2.out.drew).2.1.2.1.value⟩ (fun hHeld => ?_)
    refine with_tabW (T := vs1.T) (B := vs1.B) vs1.tab vs1.bits (fun HT_ HW_ => ?_)
    have HB := Aside0.mk HB2.out.drew
    generalize w2.drew = wc at HB hHeld ⊢
    refine ps_ 0 65 HT_ ?_
    refine ps_ 6 71 HT_ ?_
    refine one_ (i := 1) (N := (some 66)) #[true, true, false, false, false, false, true, false, false, false, false, false, false] rfl rfl (one_of HT_.out (by kernel_rfl)) (by decide) (fun K hK => ?_)
    refine goes_ Tryz.func158 (by kernel_rfl) rfl #[srcV s c] (by rfl) rfl rfl (by simp only [List.map_toArray, List.map_cons, List.map_nil]; rfl) ?_
    refine (updated_calls wc s c _ _ _ (HP.out HB.out).1).mono ?_
    rintro e w4 ⟨rfl, rfl⟩
    refine ⟨_, rfl, ?_⟩
    refine hK.out _ _ hHeld (fun hHeld => ?_)
    clear hK K
    refine ns_ ?_
    refine one_ (i := 2) (N := (some 67)) #[true, true, true, false, false, false, true, false, false, false, false, false, false] rfl rfl (one_of HT_.out (by kernel_rfl)) (by decide) (fun K hK => ?_)
    refine goes_ Tryz.func37 (by kernel_rfl) rfl #[ptr ru] (by rfl) rfl rfl (by simp only [List.map_toArray, List.map_cons, List.map_nil]; rfl) ?_
    refine (ynode_calls wc ru bu (HP.out HB.out).2.2.1 _ _ _ _ (HP.out HB.out).2.2.2.1 (HP.out HB.out).2.2.2.2).mono ?_
    rintro e w4 ⟨rfl, rfl⟩
    refine ⟨_, rfl, ?_⟩
    refine hK.out _ _ hHeld (fun hHeld => ?_)
    clear hK K
    refine ns_ ?_
    refine ps_ 3 68 HT_ ?_
    refine ps_ 4 69 HT_ ?_
    refine ts_ 5 70 HT_ HW_ hHeld ?_
    refine one_ (i := 7) (N := (some 72)) #[true, true, true, true, true, true, true, true, false, false, false, false, false] rfl rfl (one_of HT_.out (by kernel_rfl)) (by decide) (fun K hK => ?_)
    refine goes_ Tryz.func162 (by kernel_rfl) rfl #[srcV s c] (by rfl) rfl rfl (by simp only [List.map_toArray, List.map_cons, List.map_nil]; rfl) ?_
    refine (origin_calls wc s c _ _ _ (HP.out HB.out).1).mono ?_
    rintro e w4 ⟨rfl, rfl⟩
    refine ⟨_, rfl, ?_⟩
    refine hK.out _ _ hHeld (fun hHeld => ?_)
    clear hK K
    refine ns_ ?_
    refine one_ (i := 8) (N := (some 73)) #[true, true, true, true, true, true, true, true, true, false, false, false, false] rfl rfl (one_of HT_.out (by kernel_rfl)) (by decide) (fun K hK => ?_)
    refine goes_ Tryz.func37 (by kernel_rfl) rfl #[ptr ro] (by rfl) rfl rfl (by simp only [List.map_toArray, List.map_cons, List.map_nil]; rfl) ?_
    refine (ynode_calls wc ro bo (HP.out HB.out).2.1.1 _ _ _ _ (HP.out HB.out).2.1.2.1 (HP.out HB.out).2.1.2.2).mono ?_
    rintro e w4 ⟨rfl, rfl⟩
    refine ⟨_, rfl, ?_⟩
    refine hK.out _ _ hHeld (fun hHeld => ?_)
    clear hK K
    refine ns_ ?_
    refine ps_ 9 74 HT_ ?_
    refine ps_ 10 75 HT_ ?_
    refine ts_ 11 76 HT_ HW_ hHeld ?_
    refine ps_ 12 77 HT_ ?_
    refine done_ (done_of HT_.out (by kernel_rfl)) ?_
    have ht1 : (!tu.toList == to_.toList) = false := by rw [HT.out]; simp
    have HZ := Aside0.mk (HP.out HB.out)
    rw [ht1]
    clear hHeld ht1
    go_wp2_with (first | (go_at_call 160; with_reducible refine (dest_calls _ s c _ _ _ HZ.out.1).mono ?_; rintro e w' ⟨rfl, rfl⟩))
    exact bodyPost_ret (v := .tuple #[ptr rd, .nilIface]) (by simp [results, Tryz.results154, go_sem]) rfl ⟨rfl, HB.out⟩
   ·have h3 : (td.toList == to_.toList) = false := by rw [beq_eq_false_iff_ne]; exact h2
    go_wp2_with fail
    rw [← HE2.out]
    clear f0 f1 f2 ht1
    refine start_ (n := 13) (S := fun w' => w'.cell? ⟨bu, 3, none⟩ = some (.string tu) ∧ w'.cell? ⟨bo, 3, none⟩ = some (.string to_)) (ds := []) #[false, false, false, false, false, false, false, false, false, false, false, false, false] (by kernel_rfl) rfl rfl ⟨(HP.out HB2.out.drew).2.2.2.1.value, (HP.out HB2.out.drew).2.1.2.1.value⟩ (fun hHeld => ?_)
    refine with_tabW (T := vs1.T) (B := vs1.B) vs1.tab vs1.bits (fun HT_ HW_ => ?_)
    have HB := Aside0.mk HB2.out.drew
    generalize w2.drew = wc at HB hHeld ⊢
    refine ps_ 0 65 HT_ ?_
    refine ps_ 6 71 HT_ ?_
    refine one_ (i := 1) (N := (some 66)) #[true, true, false, false, false, false, true, false, false, false, false, false, false] rfl rfl (one_of HT_.out (by kernel_rfl)) (by decide) (fun K hK => ?_)
    refine goes_ Tryz.func158 (by kernel_rfl) rfl #[srcV s c] (by rfl) rfl rfl (by simp only [List.map_toArray, List.map_cons, List.map_nil]; rfl) ?_
    refine (updated_calls wc s c _ _ _ (HP.out HB.out).1).mono ?_
    rintro e w4 ⟨rfl, rfl⟩
    refine ⟨_, rfl, ?_⟩
    refine hK.out _ _ hHeld (fun hHeld => ?_)
    clear hK K
    refine ns_ ?_
    refine one_ (i := 2) (N := (some 67)) #[true, true, true, false, false, false, true, false, false, false, false, false, false] rfl rfl (one_of HT_.out (by kernel_rfl)) (by decide) (fun K hK => ?_)
    refine goes_ Tryz.func37 (by kernel_rfl) rfl #[ptr ru] (by rfl) rfl rfl (by simp only [List.map_toArray, List.map_cons, List.map_nil]; rfl) ?_
    refine (ynode_calls wc ru bu (HP.out HB.out).2.2.1 _ _ _ _ (HP.out HB.out).2.2.2.1 (HP.out HB.out).2.2.2.2).mono ?_
    rintro e w4 ⟨rfl, rfl⟩
    refine ⟨_, rfl, ?_⟩
    refine hK.out _ _ hHeld (fun hHeld => ?_)
    clear hK K
    refine ns_ ?_
    refine ps_ 3 68 HT_ ?_
    refine ps_ 4 69 HT_ ?_
    refine ts_ 5 70 HT_ HW_ hHeld ?_
    refine one_ (i := 7) (N := (some 72)) #[true, true, true, true, true, true, true, true, false, false, false, false, false] rfl rfl (one_of HT_.out (by kernel_rfl)) (by decide) (fun K hK => ?_)
    refine goes_ Tryz.func162 (by kernel_rfl) rfl #[srcV s c] (by rfl) rfl rfl (by simp only [List.map_toArray, List.map_cons, List.map_nil]; rfl) ?_
    refine (origin_calls wc s c _ _ _ (HP.out HB.out).1).mono ?_
    rintro e w4 ⟨rfl, rfl⟩
    refine ⟨_, rfl, ?_⟩
    refine hK.out _ _ hHeld (fun hHeld => ?_)
    clear hK K
    refine ns_ ?_
    refine one_ (i := 8) (N := (some 73)) #[true, true, true, true, true, true, true, true, true, false, false, false, false] rfl rfl (one_of HT_.out (by kernel_rfl)) (by decide) (fun K hK => ?_)
    refine goes_ Tryz.func37 (by kernel_rfl) rfl #[ptr ro] (by rfl) rfl rfl (by simp only [List.map_toArray, List.map_cons, List.map_nil]; rfl) ?_
    refine (ynode_calls wc ro bo (HP.out HB.out).2.1.1 _ _ _ _ (HP.out HB.out).2.1.2.1 (HP.out HB.out).2.1.2.2).mono ?_
    rintro e w4 ⟨rfl, rfl⟩
    refine ⟨_, rfl, ?_⟩
    refine hK.out _ _ hHeld (fun hHeld => ?_)
    clear hK K
    refine ns_ ?_
    refine ps_ 9 74 HT_ ?_
    refine ps_ 10 75 HT_ ?_
    refine ts_ 11 76 HT_ HW_ hHeld ?_
    refine ps_ 12 77 HT_ ?_
    refine done_ (done_of HT_.out (by kernel_rfl)) ?_
    have ht1 : (!tu.toList == to_.toList) = false := by rw [HT.out]; simp
    have HZ := Aside0.mk (HP.out HB.out)
    rw [ht1]
    clear hHeld ht1
    go_wp2_with (first | (go_at_call 160; with_reducible refine (dest_calls _ s c _ _ _ HZ.out.1).mono ?_; rintro e w' ⟨rfl, rfl⟩))
    exact bodyPost_ret (v := .tuple #[ptr rd, .nilIface]) (by simp [results, Tryz.results154, go_sem]) rfl ⟨rfl, HB.out⟩
 ·have HT := Aside0.mk ht
  have ht1 : (to_.toList == tu.toList) = false := by rw [beq_eq_false_iff_ne]; exact fun e => ht (bytes_ext e.symm)
  have ht0 : ¬ to_.toList = tu.toList := fun e => ht (bytes_ext e.symm)
  clear ht
  by_cases hA : td.toList = [] ∨ (¬ td.toList = [] ∧ td.toList = to_.toList)
  ·rcases hA with hA | ⟨h1, hA⟩
   ·have h3 : (td.toList == []) = true := by rw [hA]; rfl
    have ht2 : (!to_.toList == tu.toList) = true := by rw [ht1]; rfl
    go_wp2_with fail
    rw [← HE2.out]
    have HZ := Aside0.mk (HP.out HB2.out)
    go_wp2_with (first | (go_at_call 158; with_reducible refine (updated_calls _ s c _ _ _ HZ.out.1).mono ?_; rintro e w' ⟨rfl, rfl⟩))
    exact bodyPost_ret (v := .tuple #[ptr ru, .nilIface]) (by simp [results, Tryz.results154, go_sem]) rfl ⟨rfl, HB2.out⟩
   ·obtain rfl : td = to_ := bytes_ext hA
    have ht2 : (!td.toList == tu.toList) = true := by rw [ht1]; rfl
    clear hA
    go_wp2_with fail
    rw [← HE2.out]
    have HZ := Aside0.mk (HP.out HB2.out)
    go_wp2_with (first | (go_at_call 158; with_reducible refine (updated_calls _ s c _ _ _ HZ.out.1).mono ?_; rintro e w' ⟨rfl, rfl⟩))
    exact bodyPost_ret (v := .tuple #[ptr ru, .nilIface]) (by simp [results, Tryz.results154, go_sem]) rfl ⟨rfl, HB2.out⟩
  ·have h1 : ¬ td.toList = [] := fun e => hA (.inl e)
   have h2 : ¬ td.toList = to_.toList := fun e => hA (.inr ⟨h1, e⟩)
   have h3 : (td.toList == []) = false := by rw [beq_eq_false_iff_ne]; exact h1
   have h4 : (td.toList == to_.toList) = false := by rw [beq_eq_false_iff_ne]; exact h2
   clear hA
   go_wp2_with fail
   rw [← HE2.out]
   clear f0 f1 f2 h1 h2 h3 h4 ht1 ht0
   refine start_ (n := 13) (S := fun w' => w'.cell? ⟨bu, 3, none⟩ = some (.string tu) ∧ w'.cell? ⟨bo, 3, none⟩ = some (.string to_)) (ds := []) #[false, false, false, false, false, false, false, false, false, false, false, false, false] (by kernel_rfl) rfl rfl ⟨(HP.out HB2.out.drew).2.2.2.1.value, (HP.out HB2.out.drew).2.1.2.1.value⟩ (fun hHeld => ?_)
   refine with_tabW (T := vs1.T) (B := vs1.B) vs1.tab vs1.bits (fun HT_ HW_ => ?_)
   have HB := Aside0.mk HB2.out.drew
   generalize w2.drew = wc at HB hHeld ⊢
   refine ps_ 0 65 HT_ ?_
   refine ps_ 6 71 HT_ ?_
   refine one_ (i := 1) (N := (some 66)) #[true, true, false, false, false, false, true, false, false, false, false, false, false] rfl rfl (one_of HT_.out (by kernel_rfl)) (by decide) (fun K hK => ?_)
   refine goes_ Tryz.func158 (by kernel_rfl) rfl #[srcV s c] (by rfl) rfl rfl (by simp only [List.map_toArray, List.map_cons, List.map_nil]; rfl) ?_
   refine (updated_calls wc s c _ _ _ (HP.out HB.out).1).mono ?_
   rintro e w4 ⟨rfl, rfl⟩
   refine ⟨_, rfl, ?_⟩
   refine hK.out _ _ hHeld (fun hHeld => ?_)
   clear hK K
   refine ns_ ?_
   refine one_ (i := 2) (N := (some 67)) #[true, true, true, false, false, false, true, false, false, false, false, false, false] rfl rfl (one_of HT_.out (by kernel_rfl)) (by decide) (fun K hK => ?_)
   refine goes_ Tryz.func37 (by kernel_rfl) rfl #[ptr ru] (by rfl) rfl rfl (by simp only [List.map_toArray, List.map_cons, List.map_nil]; rfl) ?_
   refine (ynode_calls wc ru bu (HP.out HB.out).2.2.1 _ _ _ _ (HP.out HB.out).2.2.2.1 (HP.out HB.out).2.2.2.2).mono ?_
   rintro e w4 ⟨rfl, rfl⟩
   refine ⟨_, rfl, ?_⟩
   refine hK.out _ _ hHeld (fun hHeld => ?_)
   clear hK K
   refine ns_ ?_
   refine ps_ 3 68 HT_ ?_
   refine ps_ 4 69 HT_ ?_
   refine ts_ 5 70 HT_ HW_ hHeld ?_
   refine one_ (i := 7) (N := (some 72)) #[true, true, true, true, true, true, true, true, false, false, false, false, false] rfl rfl (one_of HT_.out (by kernel_rfl)) (by decide) (fun K hK => ?_)
   refine goes_ Tryz.func162 (by kernel_rfl) rfl #[srcV s c] (by rfl) rfl rfl (by simp only [List.map_toArray, List.map_cons, List.map_nil]; rfl) ?_
   refine (origin_calls wc s c _ _ _ (HP.out HB.out).1).mono ?_
   rintro e w4 ⟨rfl, rfl⟩
   refine ⟨_, rfl, ?_⟩
   refine hK.out _ _ hHeld (fun hHeld => ?_)
   clear hK K
   refine ns_ ?_
   refine one_ (i := 8) (N := (some 73)) #[true, true, true, true, true, true, true, true, true, false, false, false, false] rfl rfl (one_of HT_.out (by kernel_rfl)) (by decide) (fun K hK => ?_)
   refine goes_ Tryz.func37 (by kernel_rfl) rfl #[ptr ro] (by rfl) rfl rfl (by simp only [List.map_toArray, List.map_cons, List.map_nil]; rfl) ?_
   refine (ynode_calls wc ro bo (HP.out HB.out).2.1.1 _ _ _ _ (HP.out HB.out).2.1.2.1 (HP.out HB.out).2.1.2.2).mono ?_
   rintro e w4 ⟨rfl, rfl⟩
   refine ⟨_, rfl, ?_⟩
   refine hK.out _ _ hHeld (fun hHeld => ?_)
   clear hK K
   refine ns_ ?_
   refine ps_ 9 74 HT_ ?_
   refine ps_ 10 75 HT_ ?_
   refine ts_ 11 76 HT_ HW_ hHeld ?_
   refine ps_ 12 77 HT_ ?_
   refine done_ (done_of HT_.out (by kernel_rfl)) ?_
   have ht1 : (!tu.toList == to_.toList) = true := by rw [Bool.not_eq_true', beq_eq_false_iff_ne]; exact fun e => HT.out (bytes_ext e)
   have HZ := Aside0.mk (HP.out HB.out)
   rw [ht1]
   clear hHeld ht1
   go_wp2_with (first | (go_at_call 158; with_reducible refine (updated_calls _ s c _ _ _ HZ.out.1).mono ?_; rintro e w' ⟨rfl, rfl⟩))
   exact bodyPost_ret (v := .tuple #[ptr ru, .nilIface]) (by simp [results, Tryz.results154, go_sem]) rfl ⟨rfl, HB.out⟩
set_option maxRecDepth 100000 in
theorem vlist_easy (w : World) (s c : Nat) (v0 v1 v2 : Value) (o0 o1 o2 : PO) (h : Src w s v0 v1 v2) (h0 : PR w v0 o0) (h1 : PR w v1 o1) (h2 : PR w v2 o2) (vr : Value) (he : (o1.isNone = true ∧ o2.isNone = true ∧ vr = v0) ∨ (o1.isNone = true ∧ o2.isNone = false ∧ vr = v2) ∨ (o1.isNone = false ∧ o2.isNone = true ∧ vr = v2)) :
  Calls Tryz.prog 157 #[.agg #[], srcV s c] w fun e w' => e = .returned (.tuple #[vr, .nilIface]) ∧ Below w.heap.size w w' := by
 have HH := Aside0.mk (And.intro h (And.intro h0 (And.intro h1 h2)))
 have HB : Aside0 (∀ o : Obj, Below w.heap.size w (w.alloc o)) := ⟨fun o => (Below.refl _ _).alloc (Nat.le_refl _) o⟩
 clear h h0 h1 h2
 go_enter Tryz.func157, Tryz.ntmps157
 go_wp2_with fail
 obtain ⟨w0, e0⟩ : ∃ w0, w0 = w.alloc (.cells #[] 53) := ⟨_, rfl⟩
 try rw [← e0]
 have hb0 : Below w.heap.size w w0 := by rw [e0]; exact HB.out _
 have H := Aside0.mk (And.intro (HH.out.1.below hb0) (And.intro (HH.out.2.1.below hb0) (And.intro (HH.out.2.2.1.below hb0) (HH.out.2.2.2.below hb0))))
 have HB0 := Aside0.mk hb0
 clear hb0 e0 HB HH
 rcases he with ⟨q1, q2, rfl⟩ | ⟨q1, q2, rfl⟩ | ⟨q1, q2, rfl⟩
 ·have HP := Aside0.mk (And.intro H.out.1 (And.intro H.out.2.1 (And.intro (And.intro H.out.2.2.1 q1) (And.intro H.out.2.2.2 q2))))
  clear H q1 q2
  go_wp2_with (first | (go_at_call 158; with_reducible refine (updated_calls _ s c _ _ _ HP.out.1).mono ?_; rintro e w' ⟨rfl, rfl⟩) | (go_at_call 162; with_reducible refine (origin_calls _ s c _ _ _ HP.out.1).mono ?_; rintro e w' ⟨rfl, rfl⟩) | (go_at_call 160; with_reducible refine (dest_calls _ s c _ _ _ HP.out.1).mono ?_; rintro e w' ⟨rfl, rfl⟩) | (go_at_call 161; with_reducible refine (clearnode_calls _).mono ?_; rintro e w' ⟨rfl, rfl⟩) | (go_at_call 159; with_reducible refine (pr_tagged _ _ _ (HP.out.2.2.2).1).mono ?_; rintro e w' ⟨rfl, rfl⟩) | (go_at_call 159; with_reducible refine (pr_tagged _ _ _ HP.out.2.1).mono ?_; rintro e w' ⟨rfl, rfl⟩) | (go_at_call 50; with_reducible refine (pr_miss _ _ _ _ HP.out.2.2.2).mono ?_; rintro e w' ⟨rfl, rfl⟩) | (go_at_call 50; with_reducible refine (pr_miss _ _ _ _ HP.out.2.2.1).mono ?_; rintro e w' ⟨rfl, rfl⟩))
  exact bodyPost_ret (v := .tuple #[vr, .nilIface]) (by simp [results, Tryz.results157, go_sem]) rfl ⟨rfl, HB0.out⟩
 ·have HP := Aside0.mk (And.intro H.out.1 (And.intro H.out.2.1 (And.intro (And.intro H.out.2.2.1 q1) (And.intro H.out.2.2.2 q2))))
  clear H q1 q2
  go_wp2_with (first | (go_at_call 158; with_reducible refine (updated_calls _ s c _ _ _ HP.out.1).mono ?_; rintro e w' ⟨rfl, rfl⟩) | (go_at_call 162; with_reducible refine (origin_calls _ s c _ _ _ HP.out.1).mono ?_; rintro e w' ⟨rfl, rfl⟩) | (go_at_call 160; with_reducible refine (dest_calls _ s c _ _ _ HP.out.1).mono ?_; rintro e w' ⟨rfl, rfl⟩) | (go_at_call 161; with_reducible refine (clearnode_calls _).mono ?_; rintro e w' ⟨rfl, rfl⟩) | (go_at_call 159; with_reducible refine (pr_tagged _ _ _ (HP.out.2.2.2).1).mono ?_; rintro e w' ⟨rfl, rfl⟩) | (go_at_call 159; with_reducible refine (pr_tagged _ _ _ HP.out.2.1).mono ?_; rintro e w' ⟨rfl, rfl⟩) | (go_at_call 50; with_reducible refine (pr_miss _ _ _ _ HP.out.2.2.2).mono ?_; rintro e w' ⟨rfl, rfl⟩) | (go_at_call 50; with_reducible refine (pr_miss _ _ _ _ HP.out.2.2.1).mono ?_; rintro e w' ⟨rfl, rfl⟩))
  exact bodyPost_ret (v := .tuple #[vr, .nilIface]) (by simp [results, Tryz.results157, go_sem]) rfl ⟨rfl, HB0.out⟩
 ·have HP := Aside0.mk (And.intro H.out.1 (And.intro H.out.2.1 (And.intro (And.intro H.out.2.2.1 q1) (And.intro H.out.2.2.2 q2))))
  clear H q1 q2
  go_wp2_with (first | (go_at_call 158; with_reducible refine (updated_calls _ s c _ _ _ HP.out.1).mono ?_; rintro e w' ⟨rfl, rfl⟩) | (go_at_call 162; with_reducible refine (origin_calls _ s c _ _ _ HP.out.1).mono ?_; rintro e w' ⟨rfl, rfl⟩) | (go_at_call 160; with_reducible refine (dest_calls _ s c _ _ _ HP.out.1).mono ?_; rintro e w' ⟨rfl, rfl⟩) | (go_at_call 161; with_reducible refine (clearnode_calls _).mono ?_; rintro e w' ⟨rfl, rfl⟩) | (go_at_call 159; with_reducible refine (pr_tagged _ _ _ (HP.out.2.2.2).1).mono ?_; rintro e w' ⟨rfl, rfl⟩) | (go_at_call 159; with_reducible refine (pr_tagged _ _ _ HP.out.2.1).mono ?_; rintro e w' ⟨rfl, rfl⟩) | (go_at_call 50; with_reducible refine (pr_miss _ _ _ _ HP.out.2.2.2).mono ?_; rintro e w' ⟨rfl, rfl⟩) | (go_at_call 50; with_reducible refine (pr_miss _ _ _ _ HP.out.2.2.1).mono ?_; rintro e w' ⟨rfl, rfl⟩))
  exact bodyPost_ret (v := .tuple #[vr, .nilIface]) (by simp [results, Tryz.results157, go_sem]) rfl ⟨rfl, HB0.out⟩
set_option maxRecDepth 100000 in
theorem vlist_all (w : World) (s c rd ro ru bd bo bu : Nat) (td to_ tu : ByteArray) (h : Src w s (ptr rd) (ptr ro) (ptr ru)) (h0 : TN w rd bd td) (h1 : TN w ro bo to_) (h2 : TN w ru bu tu) (vr : Value) (hv : (tu = to_ ∧ vr = ptr rd) ∨ (tu ≠ to_ ∧ vr = ptr ru)) :
  Calls Tryz.prog 157 #[.agg #[], srcV s c] w fun e w' => e = .returned (.tuple #[vr, .nilIface]) ∧ Below w.heap.size w w' := by
 have HH := Aside0.mk (And.intro h (And.intro h0 (And.intro h1 h2)))
 have HB : Aside0 (∀ o : Obj, Below w.heap.size w (w.alloc o)) := ⟨fun o => (Below.refl _ _).alloc (Nat.le_refl _) o⟩
 clear h h0 h1 h2
 go_enter Tryz.func157, Tryz.ntmps157
 go_wp2_with fail
 obtain ⟨w0, e0⟩ : ∃ w0, w0 = w.alloc (.cells #[] 53) := ⟨_, rfl⟩
 try rw [← e0]
 have hb0 : Below w.heap.size w w0 := by rw [e0]; exact HB.out _
 have HT := Aside0.mk (And.intro (HH.out.2.1.below hb0) (And.intro (HH.out.2.2.1.below hb0) (HH.out.2.2.2.below hb0)))
 have hp : ∀ {r b : Nat} {t : ByteArray}, TN w0 r b t → ∃ o, PR w0 (ptr r) o ∧ o.isNone = false := fun q => by
  obtain ⟨k, g, x, cv, hn, hl⟩ := q.nb
  exact ⟨some (_, k, g, x, cv), ⟨_, rfl, q.rn, hn, hl⟩, rfl⟩
 obtain ⟨o0, p0, q0⟩ := hp HT.out.1
 obtain ⟨o1, p1, q1⟩ := hp HT.out.2.1
 obtain ⟨o2, p2, q2⟩ := hp HT.out.2.2
 have HP := Aside0.mk (And.intro (HH.out.1.below hb0) (And.intro p0 (And.intro (And.intro p1 q1) (And.intro p2 q2))))
 have HB0 := Aside0.mk hb0
 clear hb0 e0 HB hp p0 q0 p1 q1 p2 q2
 go_wp2_with (first | (go_at_call 158; with_reducible refine (updated_calls _ s c _ _ _ HP.out.1).mono ?_; rintro e w' ⟨rfl, rfl⟩) | (go_at_call 162; with_reducible refine (origin_calls _ s c _ _ _ HP.out.1).mono ?_; rintro e w' ⟨rfl, rfl⟩) | (go_at_call 160; with_reducible refine (dest_calls _ s c _ _ _ HP.out.1).mono ?_; rintro e w' ⟨rfl, rfl⟩) | (go_at_call 161; with_reducible refine (clearnode_calls _).mono ?_; rintro e w' ⟨rfl, rfl⟩) | (go_at_call 159; with_reducible refine (pr_tagged _ _ _ (HP.out.2.2.2).1).mono ?_; rintro e w' ⟨rfl, rfl⟩) | (go_at_call 159; with_reducible refine (pr_tagged _ _ _ HP.out.2.1).mono ?_; rintro e w' ⟨rfl, rfl⟩) | (go_at_call 50; with_reducible refine (pr_miss _ _ _ _ HP.out.2.2.2).mono ?_; rintro e w' ⟨rfl, rfl⟩) | (go_at_call 50; with_reducible refine (pr_miss _ _ _ _ HP.out.2.2.1).mono ?_; rintro e w' ⟨rfl, rfl⟩))
 refine (strvals_calls w0 s c rd ro ru bd bo bu td to_ tu HP.out.1 HT.out.1 HT.out.2.1 HT.out.2.2).mono ?_
 rintro e w1 ⟨rfl, hb⟩
 have HB1 := Aside0.mk (HB0.out.trans (hb.mono HB0.out.size))
 have HS := Aside0.mk (HP.out.1.below hb)
 clear hb HP HT
 obtain ⟨w2, e2⟩ : ∃ w2, w2 = w1.alloc (.cells #[.string to_, .string tu, .string td] 214) := ⟨_, rfl⟩
 have hb2 : Below w1.heap.size w1 w2 := by rw [e2]; exact (Below.refl _ _).alloc (Nat.le_refl _) _
 have h2 : w2.heap[w1.heap.size]? = some (.cells #[.string to_, .string tu, .string td] 214 (0, 0)) := by rw [e2]; exact heap_at _ rfl
 have HB2 := Aside0.mk (HB1.out.trans (hb2.mono HB1.out.size))
 have HS2 := Aside0.mk (HS.out.below hb2)
 have HE2 := Aside0.mk e2
 have f0 : w2.cell? ⟨w1.heap.size, 0, none⟩ = some (.string to_) := by rw [cell_of_block h2]; rfl
 have f1 : w2.cell? ⟨w1.heap.size, 1, none⟩ = some (.string tu) := by rw [cell_of_block h2]; rfl
 rw [HE2.out] at f0 f1
 clear hb2 h2 e2
 rcases hv with ⟨ht, rfl⟩ | ⟨ht, rfl⟩
 ·have ht1 : (!tu.toList == to_.toList) = false := by rw [ht]; simp
  clear ht
  go_wp2_with (first | (go_at_call 160; rw [← HE2.out]; with_reducible refine (dest_calls _ s c _ _ _ HS2.out).mono ?_; rintro e w' ⟨rfl, rfl⟩))
  exact bodyPost_ret (v := .tuple #[ptr rd, .nilIface]) (by simp [results, Tryz.results157, go_sem]) rfl ⟨rfl, HB2.out⟩
 ·have ht1 : (!tu.toList == to_.toList) = true := by rw [Bool.not_eq_true', beq_eq_false_iff_ne]; exact fun e => ht (bytes_ext e)
  clear ht
  go_wp2_with (first | (go_at_call 158; rw [← HE2.out]; with_reducible refine (updated_calls _ s c _ _ _ HS2.out).mono ?_; rintro e w' ⟨rfl, rfl⟩))
  exact bodyPost_ret (v := .tuple #[ptr ru, .nilIface]) (by simp [results, Tryz.results157, go_sem]) rfl ⟨rfl, HB2.out⟩
set_option maxRecDepth 100000 in
theorem vlist_calls (w : World) (s c : Nat) (vr : Value) (h : ∀ w', Below w.heap.size w w' → Calls Tryz.prog 157 #[.agg #[], srcV s c] w' fun e w2 => e = .returned (.tuple #[vr, .nilIface]) ∧ Below w'.heap.size w' w2) :
  Calls Tryz.prog 152 #[.agg #[], srcV s c, .pointer none, .int .i32 2] w fun e w' => e = .returned (.tuple #[vr, .nilIface]) ∧ Below w.heap.size w w' := by
 have HH := Aside0.mk h
 have HB : Aside0 (∀ o : Obj, Below w.heap.size w (w.alloc o)) := ⟨fun o => (Below.refl _ _).alloc (Nat.le_refl _) o⟩
 clear h
 go_enter Tryz.func152, Tryz.ntmps152
 go_wp2_with fail
 refine (HH.out _ (HB.out _)).mono ?_
 rintro e w1 ⟨rfl, hb⟩
 have HB1 := Aside0.mk ((HB.out _).trans (hb.mono (HB.out _).size))
 clear hb
 go_wp2_with fail
 exact bodyPost_ret (v := .tuple #[vr, .nilIface]) (by simp [results, Tryz.results152, go_sem]) rfl ⟨rfl, HB1.out⟩
set_option maxRecDepth 100000 in
theorem vmap_dest (w : World) (s c r : Nat) (v1 v2 : Value) (o0 o2 : PO) (h : Src w s (ptr r) v1 v2) (h0 : PR w (ptr r) o0) (h2 : PR w v2 o2) :
  Calls Tryz.prog 153 #[.agg #[], srcV s c, .pointer none] w fun e w' => e = .returned (.tuple #[ptr r, .nilIface]) ∧ Below w.heap.size w w' := by
 have HH := Aside0.mk (And.intro h (And.intro h0 h2))
 have HB : Aside0 (∀ o : Obj, Below w.heap.size w (w.alloc o)) := ⟨fun o => (Below.refl _ _).alloc (Nat.le_refl _) o⟩
 clear h h0 h2
 go_enter Tryz.func153, Tryz.ntmps153
 go_wp2_with fail
 obtain ⟨w0, e0⟩ : ∃ w0, w0 = w.alloc (.cells #[] 53) := ⟨_, rfl⟩
 try rw [← e0]
 have hb0 : Below w.heap.size w w0 := by rw [e0]; exact HB.out _
 have HP := Aside0.mk (And.intro (HH.out.1.below hb0) (And.intro (HH.out.2.1.below hb0) (And.intro (HH.out.2.2.below hb0) True.intro)))
 have HB0 := Aside0.mk hb0
 clear hb0 e0 HB HH
 go_wp2_with (first | (go_at_call 158; with_reducible refine (updated_calls _ s c _ _ _ HP.out.1).mono ?_; rintro e w' ⟨rfl, rfl⟩) | (go_at_call 162; with_reducible refine (origin_calls _ s c _ _ _ HP.out.1).mono ?_; rintro e w' ⟨rfl, rfl⟩) | (go_at_call 160; with_reducible refine (dest_calls _ s c _ _ _ HP.out.1).mono ?_; rintro e w' ⟨rfl, rfl⟩) | (go_at_call 161; with_reducible refine (clearnode_calls _).mono ?_; rintro e w' ⟨rfl, rfl⟩) | (go_at_call 159; with_reducible refine (pr_tagged _ _ _ (HP.out.2.2).1).mono ?_; rintro e w' ⟨rfl, rfl⟩) | (go_at_call 159; with_reducible refine (pr_tagged _ _ _ HP.out.2.1).mono ?_; rintro e w' ⟨rfl, rfl⟩) | (go_at_call 50; with_reducible refine (pr_miss _ _ _ _ HP.out.2.2).mono ?_; rintro e w' ⟨rfl, rfl⟩) | (go_at_call 50; with_reducible refine (pr_miss _ _ _ _ HP.out.2.2).mono ?_; rintro e w' ⟨rfl, rfl⟩))
 exact bodyPost_ret (v := .tuple #[ptr r, .nilIface]) (by simp [results, Tryz.results153, go_sem]) rfl ⟨rfl, HB0.out⟩
set_option maxRecDepth 100000 in
theorem vmap_new (w : World) (s c r : Nat) (v1 : Value) (o2 : PO) (h : Src w s (.pointer none) v1 (ptr r)) (h2 : PR w (ptr r) o2) :
  Calls Tryz.prog 153 #[.agg #[], srcV s c, .pointer none] w fun e w' => ∃ rr b, e = .returned (.tuple #[ptr rr, .nilIface]) ∧ RN w' rr b ∧ NB w' b 4 ⟨#[]⟩ ⟨#[]⟩ (.slice none 0 0) ∧ Below w.heap.size w w' ∧ w.heap.size ≤ rr ∧ w.heap.size ≤ b ∧ rr ≠ b := by
 have HH := Aside0.mk (And.intro h (And.intro (show PR w (.pointer none) none from rfl) h2))
 have HB : Aside0 (∀ o : Obj, Below w.heap.size w (w.alloc o)) := ⟨fun o => (Below.refl _ _).alloc (Nat.le_refl _) o⟩
 have hs : ∀ o : Obj, (w.alloc o).heap.size = w.heap.size + 1 := fun o => by simp
 have HS := Aside0.mk hs
 clear h h2 hs
 go_enter Tryz.func153, Tryz.ntmps153
 go_wp2_with fail
 obtain ⟨w0, e0⟩ : ∃ w0, w0 = w.alloc (.cells #[] 53) := ⟨_, rfl⟩
 try rw [← e0]
 have hb0 : Below w.heap.size w w0 := by rw [e0]; exact HB.out _
 have HP := Aside0.mk (And.intro (HH.out.1.below hb0) (And.intro (HH.out.2.1.below hb0) (And.intro (HH.out.2.2.below hb0) True.intro)))
 have HB0 := Aside0.mk (And.intro hb0 (show w0.heap.size = w.heap.size + 1 by rw [e0]; exact HS.out _))
 clear hb0 e0 HB HH HS
 go_wp2_with (first | (go_at_call 34; fail) | (first | (go_at_call 158; with_reducible refine (updated_calls _ s c _ _ _ HP.out.1).mono ?_; rintro e w' ⟨rfl, rfl⟩) | (go_at_call 162; with_reducible refine (origin_calls _ s c _ _ _ HP.out.1).mono ?_; rintro e w' ⟨rfl, rfl⟩) | (go_at_call 160; with_reducible refine (dest_calls _ s c _ _ _ HP.out.1).mono ?_; rintro e w' ⟨rfl, rfl⟩) | (go_at_call 161; with_reducible refine (clearnode_calls _).mono ?_; rintro e w' ⟨rfl, rfl⟩) | (go_at_call 159; with_reducible refine (pr_tagged _ _ _ (HP.out.2.2).1).mono ?_; rintro e w' ⟨rfl, rfl⟩) | (go_at_call 159; with_reducible refine (pr_tagged _ _ _ HP.out.2.1).mono ?_; rintro e w' ⟨rfl, rfl⟩) | (go_at_call 50; with_reducible refine (pr_miss _ _ _ _ HP.out.2.2).mono ?_; rintro e w' ⟨rfl, rfl⟩) | (go_at_call 50; with_reducible refine (pr_miss _ _ _ _ HP.out.2.2).mono ?_; rintro e w' ⟨rfl, rfl⟩)))
 obtain ⟨wn, nb, e3, eg, _, hb3, hh3, hs3⟩ := alloc_step (Chg.refl (fun _ => False) w0) (.cells (ycells 4 ⟨#[]⟩ ⟨#[]⟩ (.slice none 0 0)) 82)
 have HN := Aside0.mk (And.intro (show NB wn nb 4 ⟨#[]⟩ ⟨#[]⟩ (.slice none 0 0) from hh3) (And.intro (HB0.out.1.trans (hb3.mono HB0.out.1.size)) (And.intro (show w.heap.size ≤ nb by have := HB0.out.2; omega) (show nb < wn.heap.size by omega))))
 rw [eg, show w0.alloc (.cells #[.int .u32 4, .int .u32 0, .string ⟨#[]⟩, .string ⟨#[]⟩, .string ⟨#[]⟩, .pointer none, .slice none 0 0, .string ⟨#[]⟩, .string ⟨#[]⟩, .string ⟨#[]⟩, .int .i64 0, .int .i64 0] 82) = wn from e3]
 clear e3 eg hb3 hh3 hs3
 refine (newrnode_calls wn nb).mono ?_
 rintro e w1 ⟨rfl, e1⟩
 have hb4 : Below wn.heap.size wn w1 := by rw [← e1]; exact (Below.refl _ _).alloc (Nat.le_refl _) _
 have hr4 : RN w1 wn.heap.size nb := by rw [← e1]; exact RN.new wn nb
 have HF := Aside0.mk (And.intro hr4 (And.intro (HN.out.1.below hb4) (HN.out.2.1.trans (hb4.mono HN.out.2.1.size))))
 clear e1 hb4 hr4
 go_wp2_with fail
 exact bodyPost_ret (v := .tuple #[ptr wn.heap.size, .nilIface]) (by simp [results, Tryz.results153, go_sem]) rfl ⟨_, nb, rfl, HF.out.1, HF.out.2.1, HF.out.2.2, HN.out.2.1.size, HN.out.2.2.1, by have := HN.out.2.2.2; omega⟩
end Go.Proofs.YtkpdkoafngjflaaGreat
