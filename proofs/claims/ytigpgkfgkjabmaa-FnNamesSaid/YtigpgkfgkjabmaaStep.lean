/-
  impl.Visit: a map's keys and values, in order: the callback, and the walk through the fields.
-/
import Derived.Test.YtigpgkfgkjabmaaFields
namespace Go.Proofs.Ytigpgkfgkjabmaa
open Go.RowKit Go.Proofs.YtigpgkfgkjabmaaW.PrintWords Go.Proofs.YtigpgkfgkjabmaaW.PrintLast Go.Proofs.Ytigpgkfgkjabmaa.PFnFields
set_option linter.unusedVariables false
set_option linter.unusedSimpArgs false

theorem field_text (v0 v2 v3 v4 : Value) (s : ByteArray) (w : World) : (Instr.field 25 (.agg #[v0, .string s, v2, v3, v4]) 1).run Try.prog w = .ok (.string s) w := by
  unfold Instr.field
  have hu := Try.underlying25
  simp [go_sem, run_underlying hu, asAgg]
def step1.T : Bool × List (List Nat × List Nat) := (true, [([], []), ([], []), ([1], [1]), ([2], [2]), ([3], [3]), ([4], [4]), ([5], [5]), ([6], [6]), ([0, 7, 5], [0, 7]), ([], []), ([], []), ([10], [10]), ([11], [11]), ([12], [12]), ([13, 8], [13]), ([14], [14]), ([9, 15, 14], [9, 15]), ([8, 16, 0, 1, 2, 3, 4, 5, 6, 7, 8, 9, 13, 14, 16], [8]), ([16, 17, 0, 1, 2, 3, 4, 5, 6, 7, 8, 9, 10, 11, 12, 13, 14, 15, 16, 17], [16])])
def step1.B : List Nat := [0, 0, 2, 6, 14, 30, 62, 126, 255, 0, 0, 1024, 3072, 7168, 15871, 32255, 65535, 131071, 262143]
theorem step1.tab : rtab .any (opsOf Try.f44 1) = step1.T := by kernel_rfl
theorem step1.bits : waitsOk step1.T.2 step1.B = true := by kernel_rfl
def visit5.T : Bool × List (List Nat × List Nat) := (true, [([], []), ([], []), ([0, 0], [0]), ([1, 2, 0, 1, 2], [1]), ([3, 0, 1, 2, 3], [])])
def visit5.B : List Nat := [0, 0, 1, 7, 15]
theorem visit5.tab : rtab .any (opsOf Try.f17 5) = visit5.T := by kernel_rfl
theorem visit5.bits : waitsOk visit5.T.2 visit5.B = true := by kernel_rfl
def StepPost (w : World) (ka ia base : Nat) (ks : List ByteArray) (is : List S25) (nm : ByteArray) (o : S25) (e : Ending) (w' : World) : Prop :=
  e = .returned .nilIface ∧ ∃ kv1 iv1, w'.heap[ka]? = some (.cells #[kv1] 22 (0, 0)) ∧ w'.heap[ia]? = some (.cells #[iv1] 23 (0, 0)) ∧ Kd.string.R 9 w' base (fun _ => True) kv1 (ks ++ [nm]) ∧
    k25.R 25 w' base (fun k => some k ≠ kv1.ownBlock) iv1 (is ++ [o]) ∧ Chg (fun k => k = ka ∨ k = ia ∨ base ≤ k) w w'
set_option maxRecDepth 100000 in
set_option maxHeartbeats 3200000 in
theorem step_calls (w : World) (m kr vr kb vb ka ia base : Nat) (nm : ByteArray) (d : Nat) (y : Y) (o : S25) (kvv ivv : Value) (ks : List ByteArray) (is : List S25) (Fk Fv : Nat → Prop)
    (hm : w.heap[m]? = some (.cells #[ptr kr, ptr vr] 70 (0, 0))) (hkr : RN w kr kb) (hvr : RN w vr vb) (hk : YN w Fk kb (.mk 8 ⟨#[]⟩ nm [])) (hv : YN w Fv vb y) (hFv : ∀ k, Fv k → k < base) (hys : YSh d y) (hyl : Live y.kind y.tag) (ho : ofY d y = o)
    (hka : w.heap[ka]? = some (.cells #[kvv] 22 (0, 0))) (hia : w.heap[ia]? = some (.cells #[ivv] 23 (0, 0))) (hkb : ka < base) (hib : ia < base) (hb : base ≤ w.heap.size)
    (hks : Kd.string.R 9 w base (fun _ => True) kvv ks) (his : k25.R 25 w base (fun k => some k ≠ kvv.ownBlock) ivv is) (hl1 : ks.length ≤ 1000) (hl2 : is.length ≤ 1000) :
    Calls Try.prog 44 #[ptr m, .pointer (some ⟨ka, 0, none⟩), .pointer (some ⟨ia, 0, none⟩)] w (StepPost w ka ia base ks is nm o) := by
  have hu := Try.underlying25
  have hft := field_text
  have hne : ka ≠ ia := fun e => by rw [e, hia] at hka; simp at hka
  have HL := Aside0.mk (And.intro hkb (And.intro hib (And.intro hb (And.intro hl1 (And.intro hl2 hne)))))
  have HKR := Aside0.mk hkr
  have HVR := Aside0.mk hvr
  have HKN := Aside0.mk hk
  have HVN := Aside0.mk (And.intro hv (And.intro hFv (And.intro hys (And.intro hyl ho))))
  have HKA := Aside0.mk hka
  have HIA := Aside0.mk hia
  have HKS := Aside0.mk hks
  have HIS := Aside0.mk his
  have hkvr : some vr ≠ kvv.ownBlock := by
    obtain ⟨_, _, _, h⟩ := hvr
    exact Kd.R_ne hks h (by decide)
  have HVO := Aside0.mk hkvr
  have HK : Aside0 (∀ w', Chg (fun k => some k = kvv.ownBlock) w w' → w'.cell? ⟨ka, 0, none⟩ = some kvv ∧ w'.cell? ⟨ia, 0, none⟩ = some ivv ∧ w'.cell? ⟨m, 0, none⟩ = some (ptr kr) ∧ w'.cell? ⟨m, 1, none⟩ = some (ptr vr)) := by
    refine ⟨fun w' hc => ?_⟩
    have h1 : ¬ some ka = kvv.ownBlock := fun e => by have := R_own hks _ e.symm; omega
    have h2 : ¬ some ia = kvv.ownBlock := fun e => by have := R_own hks _ e.symm; omega
    have h3 : ¬ some m = kvv.ownBlock := Kd.R_ne hks hm (by decide)
    refine ⟨hc.cell_of (by rw [cell_of_block hka]; rfl) h1, hc.cell_of (by rw [cell_of_block hia]; rfl) h2, hc.cell_of (by rw [cell_of_block hm]; rfl) h3, hc.cell_of (by rw [cell_of_block hm]; rfl) h3⟩
  clear hm hkr hvr hk hv hFv hys hyl ho hka hia hkb hib hb hks his hl1 hl2 hne hkvr
  go_enter Try.func44, Try.ntmps44
  go_wp2_with fail
  refine start_ (n := 19) (S := fun w' => w'.cell? ⟨ka, 0, none⟩ = some kvv ∧ w'.cell? ⟨ia, 0, none⟩ = some ivv ∧ w'.cell? ⟨m, 0, none⟩ = some (ptr kr) ∧ w'.cell? ⟨m, 1, none⟩ = some (ptr vr)) (ds := [16, 17, 18]) #[false, false, false, false, false, false, false, false, false, false, false, false, false, false, false, false, false, false, false] (by kernel_rfl) rfl rfl (HK.out _ ((Chg.refl _ _).drew)) (fun hHeld => ?_)
  refine with_tabW (T := step1.T) (B := step1.B) step1.tab step1.bits (fun HT_ HW_ => ?_)
  have HB0 := Aside0.mk ((Below.refl w.heap.size w).drew)
  generalize w.drew = wc at HB0 hHeld ⊢
  refine pure_ (i := 1) (N := (some 6)) (v := ?_) (a' := ?_) #[false, true, false, false, false, false, false, false, false, false, false, false, false, false, false, false, false, false, false] rfl rfl (any_of HT_.out (by kernel_rfl)) (fun _ _ _ h => h) (Or.inl ⟨by rfl, ?_⟩) ?_ ?_
  rotate_left
  · intro w'
    go_simp
    with_reducible rfl
  rotate_left
  · simp only [Act.put, List.setIfInBounds_toArray, List.set_cons_zero, List.set_cons_succ, i64_w, i32_w]
    rfl
  refine pure_ (i := 2) (N := (some 7)) (v := ?_) (a' := ?_) #[false, true, true, false, false, false, false, false, false, false, false, false, false, false, false, false, false, false, false] rfl rfl (any_of HT_.out (by kernel_rfl)) (fun _ _ _ h => h) (Or.inl ⟨by rfl, ?_⟩) ?_ ?_
  rotate_left
  · intro w'
    go_simp
    with_reducible rfl
  rotate_left
  · simp only [Act.put, List.setIfInBounds_toArray, List.set_cons_zero, List.set_cons_succ, i64_w, i32_w]
    rfl
  refine pure_ (i := 3) (N := (some 8)) (v := ?_) (a' := ?_) #[false, true, true, true, false, false, false, false, false, false, false, false, false, false, false, false, false, false, false] rfl rfl (any_of HT_.out (by kernel_rfl)) (fun _ _ _ h => h) (Or.inl ⟨by rfl, ?_⟩) ?_ ?_
  rotate_left
  · intro w'
    go_simp
    with_reducible rfl
  rotate_left
  · simp only [Act.put, List.setIfInBounds_toArray, List.set_cons_zero, List.set_cons_succ, i64_w, i32_w]
    rfl
  refine pure_ (i := 10) (N := (some 15)) (v := ?_) (a' := ?_) #[false, true, true, true, false, false, false, false, false, false, true, false, false, false, false, false, false, false, false] rfl rfl (any_of HT_.out (by kernel_rfl)) (fun _ _ _ h => h) (Or.inl ⟨by rfl, ?_⟩) ?_ ?_
  rotate_left
  · intro w'
    go_simp
    with_reducible rfl
  rotate_left
  · simp only [Act.put, List.setIfInBounds_toArray, List.set_cons_zero, List.set_cons_succ, i64_w, i32_w]
    rfl
  refine pure_ (i := 11) (N := (some 16)) (v := ?_) (a' := ?_) #[false, true, true, true, false, false, false, false, false, false, true, true, false, false, false, false, false, false, false] rfl rfl (any_of HT_.out (by kernel_rfl)) (fun _ _ _ h => h) (Or.inl ⟨by rfl, ?_⟩) ?_ ?_
  rotate_left
  · intro w'
    go_simp
    with_reducible rfl
  rotate_left
  · simp only [Act.put, List.setIfInBounds_toArray, List.set_cons_zero, List.set_cons_succ, i64_w, i32_w]
    rfl
  refine pure_ (i := 12) (N := (some 17)) (v := ?_) (a' := ?_) #[false, true, true, true, false, false, false, false, false, false, true, true, true, false, false, false, false, false, false] rfl rfl (any_of HT_.out (by kernel_rfl)) (fun _ _ _ h => h) (Or.inl ⟨by rfl, ?_⟩) ?_ ?_
  rotate_left
  · intro w'
    go_simp
    with_reducible rfl
  rotate_left
  · simp only [Act.put, List.setIfInBounds_toArray, List.set_cons_zero, List.set_cons_succ, i64_w, i32_w]
    rfl
  refine take_ (i := 0) (N := (some 5)) (v := ?_) (a' := ?_) #[true, true, true, true, false, false, false, false, false, false, true, true, true, false, false, false, false, false, false] rfl rfl (take_ofW HT_.out HW_.out (by kernel_rfl)) (fun _ _ _ h => h) (Or.inl ⟨by rfl, ?_⟩) hHeld ?_ ?_
  rotate_left
  · rintro w' ⟨s0, s1, s2, s3⟩
    go_simp
    with_reducible rfl
  rotate_left
  · simp only [Act.put, List.setIfInBounds_toArray, List.set_cons_zero, List.set_cons_succ, i64_w, i32_w]
    rfl
  refine take_ (i := 4) (N := (some 9)) (v := ?_) (a' := ?_) #[true, true, true, true, true, false, false, false, false, false, true, true, true, false, false, false, false, false, false] rfl rfl (take_ofW HT_.out HW_.out (by kernel_rfl)) (fun _ _ _ h => h) (Or.inl ⟨by rfl, ?_⟩) hHeld ?_ ?_
  rotate_left
  · rintro w' ⟨s0, s1, s2, s3⟩
    go_simp
    with_reducible rfl
  rotate_left
  · simp only [Act.put, List.setIfInBounds_toArray, List.set_cons_zero, List.set_cons_succ, i64_w, i32_w]
    rfl
  refine take_ (i := 9) (N := (some 14)) (v := ?_) (a' := ?_) #[true, true, true, true, true, false, false, false, false, true, true, true, true, false, false, false, false, false, false] rfl rfl (take_ofW HT_.out HW_.out (by kernel_rfl)) (fun _ _ _ h => h) (Or.inl ⟨by rfl, ?_⟩) hHeld ?_ ?_
  rotate_left
  · rintro w' ⟨s0, s1, s2, s3⟩
    go_simp
    with_reducible rfl
  rotate_left
  · simp only [Act.put, List.setIfInBounds_toArray, List.set_cons_zero, List.set_cons_succ, i64_w, i32_w]
    rfl
  refine take_ (i := 13) (N := (some 18)) (v := ?_) (a' := ?_) #[true, true, true, true, true, false, false, false, false, true, true, true, true, true, false, false, false, false, false] rfl rfl (take_ofW HT_.out HW_.out (by kernel_rfl)) (fun _ _ _ h => h) (Or.inl ⟨by rfl, ?_⟩) hHeld ?_ ?_
  rotate_left
  · rintro w' ⟨s0, s1, s2, s3⟩
    go_simp
    with_reducible rfl
  rotate_left
  · simp only [Act.put, List.setIfInBounds_toArray, List.set_cons_zero, List.set_cons_succ, i64_w, i32_w]
    rfl
  refine one_ (i := 5) (N := (some 10)) #[true, true, true, true, true, true, false, false, false, true, true, true, true, true, false, false, false, false, false] rfl rfl (one_of HT_.out (by kernel_rfl)) (by decide) (fun K hK => ?_)
  refine goes_ Try.func45 (by kernel_rfl) rfl #[ptr kr] (by rfl) rfl rfl (by simp only [List.map_toArray, List.map_cons, List.map_nil]; rfl) ?_
  refine (told_calls 1 (.mk 8 ⟨#[]⟩ nm []) wc kr kb Fk (HKR.out.below HB0.out) (HKN.out.below HB0.out) ⟨by simp [Y.content], .inl rfl⟩ ⟨rfl, by simp only [Y.tag]; rw [ByteArray.toList_eq]; rfl⟩ ⟨1, nm, ⟨#[]⟩, [], []⟩ (by simp [ofY, Y.kind, Y.value, Y.tag])).mono ?_
  rintro e w5 ⟨A3, n3, c3, A4, n4, c4, rfl, _, hb5⟩
  refine ⟨_, rfl, ?_⟩
  have hbw := HB0.out.trans (hb5.mono HB0.out.size)
  refine hK.out _ _ (HK.out _ (Chg.of_below hbw)) (fun hHeld => ?_)
  have HB5 := Aside0.mk hbw
  clear hbw hb5
  clear hK K
  refine norm_ (a' := ?_) ?_ ?_
  rotate_left
  · first | (simp only [Act.put, List.setIfInBounds_toArray, List.set_cons_zero, List.set_cons_succ, i64_w, i32_w]; rfl) | rfl
  refine pure_ (i := 6) (N := (some 11)) (v := ?_) (a' := ?_) #[true, true, true, true, true, true, true, false, false, true, true, true, true, true, false, false, false, false, false] rfl rfl (any_of HT_.out (by kernel_rfl)) (fun _ _ _ h => h) (Or.inl ⟨by rfl, ?_⟩) ?_ ?_
  rotate_left
  · intro w'
    go_simp
    with_reducible rfl
  rotate_left
  · simp only [Act.put, List.setIfInBounds_toArray, List.set_cons_zero, List.set_cons_succ, i64_w, i32_w]
    rfl
  refine one_ (i := 7) (N := (some 12)) #[true, true, true, true, true, true, true, true, false, true, true, true, true, true, false, false, false, false, false] rfl rfl (one_of HT_.out (by kernel_rfl)) (by decide) (fun K hK => ?_)
  rw [if_pos (by rfl)]
  go_simp
  refine hK.out _ _ (HK.out _ ((Chg.of_below HB5.out).alloc _)) (fun hHeld => ?_)
  clear hK K
  refine norm_ (a' := ?_) ?_ ?_
  rotate_left
  · first | (simp only [Act.put, List.setIfInBounds_toArray, List.set_cons_zero, List.set_cons_succ, i64_w, i32_w]; rfl) | rfl
  refine one_ (i := 8) (N := (some 13)) #[true, true, true, true, true, true, true, true, true, true, true, true, true, true, false, false, false, false, false] rfl rfl (one_of HT_.out (by kernel_rfl)) (by decide) (fun K hK => ?_)
  refine Kd.R_append_step Kd.string (w0 := w5) base (by rfl) (.tmp 5) (.tmp 12) 22 9 (.string ⟨#[]⟩) 16 rfl Try.underlying22 Try.infoStr rfl (by decide) (by decide) kvv ks nm [.string nm] (fun _ => True) (fun _ => False) (by rfl) (by rfl) rfl (fun _ h => h.elim) (fun _ _ => trivial) (R_upd HKS.out (fun k _ _ hk => HB5.out.block k hk)) (Below.refl _ _) (by have := HB5.out.size; have := HL.out; omega) (by have := HL.out; omega) ?_
  intro kv1 w8 hr1 _ hg1 hat1
  obtain ⟨A1, n1, c1, rfl⟩ : ∃ A1 n1 c1, kv1 = .slice A1 n1 c1 := by obtain ⟨A1, c1, e⟩ := Kd.R_slice hr1; exact ⟨_, _, _, e⟩
  have hc8 : Chg (fun k => some k = kvv.ownBlock) w w8 := (Chg.of_below HB5.out).grown hg1 (fun k e => .inl e.symm)
  have hi8 : k25.R 25 w8 base (fun k => some k ≠ (Value.slice A1 n1 c1).ownBlock) ivv is := by
    have h1 := R_upd (w1 := w8) (Kd.R_bound HIS.out) (fun k hok hk hlt => hc8.block k hlt (fun q => hok.1 q))
    refine Kd.R_mono h1 (fun k hk e => ?_)
    obtain ⟨h2, _, h3, _⟩ := hk
    rcases hat1 with h | ⟨g', hb', h⟩
    · exact h2 (e.trans h)
    · rw [hb'] at e
      have : k = g' := by simpa using e
      have := HB5.out.size
      omega
  refine hK.out _ _ (HK.out _ hc8) (fun hHeld => ?_)
  have HG := Aside0.mk (And.intro hr1 (And.intro hc8 hi8))
  clear hr1 hg1 hat1 hc8 hi8
  clear hK K
  refine norm_ (a' := ?_) ?_ ?_
  rotate_left
  · first | (simp only [Act.put, List.setIfInBounds_toArray, List.set_cons_zero, List.set_cons_succ, i64_w, i32_w]; rfl) | rfl
  refine one_ (i := 14) (N := (some 19)) #[true, true, true, true, true, true, true, true, true, true, true, true, true, true, true, false, false, false, false] rfl rfl (one_of HT_.out (by kernel_rfl)) (by decide) (fun K hK => ?_)
  refine goes_ Try.func45 (by kernel_rfl) rfl #[ptr vr] (by rfl) rfl rfl (by simp only [List.map_toArray, List.map_cons, List.map_nil]; rfl) ?_
  refine (told_calls d y w8 vr vb Fv (HVR.out.move (fun hlt => HG.out.2.1.block _ hlt (fun q => HVO.out q))) (HVN.out.1.chg HG.out.2.1 (fun k hk q => by have := HVN.out.2.1 k hk; have := R_own HKS.out k q.symm; omega)) HVN.out.2.2.1 HVN.out.2.2.2.1 o HVN.out.2.2.2.2).mono ?_
  rintro e w14 ⟨B3, m3, d3, B4, m4, d4, rfl, him, hb14⟩
  refine ⟨_, rfl, ?_⟩
  have hc14 : Chg (fun k => some k = kvv.ownBlock) w w14 := HG.out.2.1.trans (Chg.of_below hb14) (fun _ (q : False) => q.elim)
  refine hK.out _ _ (HK.out _ hc14) (fun hHeld => ?_)
  have HIM := Aside0.mk (And.intro (k25.M_bound him) (And.intro hc14 hb14))
  clear him hc14 hb14
  clear hK K
  refine norm_ (a' := ?_) ?_ ?_
  rotate_left
  · first | (simp only [Act.put, List.setIfInBounds_toArray, List.set_cons_zero, List.set_cons_succ, i64_w, i32_w]; rfl) | rfl
  refine one_ (i := 15) (N := (some 20)) #[true, true, true, true, true, true, true, true, true, true, true, true, true, true, true, true, false, false, false] rfl rfl (one_of HT_.out (by kernel_rfl)) (by decide) (fun K hK => ?_)
  rw [if_pos (by rfl)]
  go_simp
  refine hK.out _ _ (HK.out _ (HIM.out.2.1.alloc _)) (fun hHeld => ?_)
  clear hK K
  refine norm_ (a' := ?_) ?_ ?_
  rotate_left
  · first | (simp only [Act.put, List.setIfInBounds_toArray, List.set_cons_zero, List.set_cons_succ, i64_w, i32_w]; rfl) | rfl
  refine last_ (i := 16) (N := (some 21)) #[true, true, true, true, true, true, true, true, true, true, true, true, true, true, true, true, true, false, false] rfl rfl (one_of HT_.out (by kernel_rfl)) (by decide) (fun K hK => ?_)
  refine Kd.R_append_step k25 (w0 := w14) base (by rfl) (.tmp 14) (.tmp 20) 23 25 (.agg #[.int .i64 0, .string ⟨#[]⟩, .string ⟨#[]⟩, .slice none 0 0, .slice none 0 0]) 88 rfl Try.underlying23 Try.infoNode rfl (by decide) (by decide) ivv is o [.int .i64 o.f0, .string o.f1, .string o.f2, .slice B3 m3 d3, .slice B4 m4 d4] (fun k => some k ≠ (Value.slice A1 n1 c1).ownBlock) (fun k => w8.heap.size ≤ k) (by rfl) (by rfl) (k25.M_lower (by have := HG.out.2.1.size; have := HL.out; omega) (k25.M_mono (fun k hk => hk.2.1) HIM.out.1)) ?ok1 ?ok2 (R_upd HG.out.2.2 (fun k _ _ hk => HIM.out.2.2.block k hk)) (Below.refl _ _) (by have := HIM.out.2.1.size; have := HL.out; omega) (by have := HL.out; omega) ?_
  case ok1 =>
    intro k hk
    refine ⟨fun e => ?_, fun e => ?_⟩
    · have := R_own HG.out.1 k e.symm; omega
    · have := R_own HG.out.2.2 k e.symm; omega
  case ok2 =>
    intro k hk e
    have h1 := HIM.out.2.2.size
    have := R_own HG.out.1 k e.symm
    omega
  intro iv1 w16 hr1 _ hg1 hat1
  obtain ⟨A5, n5, c5, rfl⟩ : ∃ A5 n5 c5, iv1 = .slice A5 n5 c5 := by obtain ⟨A5, c5, e⟩ := Kd.R_slice hr1; exact ⟨_, _, _, e⟩
  have hc16 : Chg (fun k => k = ka ∨ k = ia ∨ base ≤ k) w w16 := (HIM.out.2.1.mono (fun k q => .inr (.inr (R_own HKS.out k q.symm).1))).grown hg1 (fun k e => .inl (.inr (.inr (R_own HIS.out k e).1)))
  have hks16 : Kd.string.R 9 w16 base (fun _ => True) (.slice A1 n1 c1) (ks ++ [nm]) := by
    have h1 : Kd.string.R 9 w8 base (fun k => some k = (Value.slice A1 n1 c1).ownBlock) (.slice A1 n1 c1) (ks ++ [nm]) := ⟨fun k hk => hk.symm, HG.out.1.2⟩
    refine Kd.R_mono (R_upd (w1 := w16) h1 (fun k hok hk hlt => ?_)) (fun _ _ => trivial)
    have hlt2 := Nat.lt_of_lt_of_le hlt HIM.out.2.2.size
    exact (hg1.block k hlt2 (fun q => R_types_ne HG.out.1 HG.out.2.2 (by decide) k hok.symm q)).trans (HIM.out.2.2.block k hlt)
  have hka16 : w16.heap[ka]? = some (.cells #[kvv] 22 (0, 0)) := by
    have h1 := lt_of_block HKA.out
    exact (hg1.block _ (Nat.lt_of_lt_of_le h1 HIM.out.2.1.size) (fun e => by have := R_own HIS.out _ e.symm; have := HL.out; omega)).trans ((HIM.out.2.1.block _ h1 (fun q => by have := R_own HKS.out _ q.symm; have := HL.out; omega)).trans HKA.out)
  have hia16 : w16.heap[ia]? = some (.cells #[ivv] 23 (0, 0)) := by
    have h1 := lt_of_block HIA.out
    exact (hg1.block _ (Nat.lt_of_lt_of_le h1 HIM.out.2.1.size) (fun e => by have := R_own HIS.out _ e.symm; have := HL.out; omega)).trans ((HIM.out.2.1.block _ h1 (fun q => by have := R_own HKS.out _ q.symm; have := HL.out; omega)).trans HIA.out)
  have H16 := Aside0.mk (And.intro hr1 (And.intro hc16 (And.intro hks16 (And.intro hka16 hia16))))
  refine hK.out _ _ ?_
  clear hr1 hg1 hat1 hc16 hks16 hka16 hia16
  clear hK K
  refine norm_ (a' := ?_) ?_ ?_
  rotate_left
  · first | (simp only [Act.put, List.setIfInBounds_toArray, List.set_cons_zero, List.set_cons_succ, i64_w, i32_w]; rfl) | rfl
  refine last_ (i := 17) (N := none) #[true, true, true, true, true, true, true, true, true, true, true, true, true, true, true, true, true, true, false] rfl rfl (one_of HT_.out (by kernel_rfl)) (by decide) (fun K hK => ?_)
  have hcell : w16.cell? ⟨ka, 0, none⟩ = some kvv := by rw [cell_of_block H16.out.2.2.2.1]; rfl
  have hfr : w16.frozen? ⟨ka, 0, none⟩ = false := frozen_of_block H16.out.2.2.2.1
  rw [if_pos (by rfl)]
  go_simp
  refine hK.out _ _ ?_
  clear hcell hfr
  clear hK K
  refine norm_ (a' := ?_) ?_ ?_
  rotate_left
  · first | (simp only [Act.put, List.setIfInBounds_toArray, List.set_cons_zero, List.set_cons_succ, i64_w, i32_w]; rfl) | rfl
  refine last_ (i := 18) (N := none) #[true, true, true, true, true, true, true, true, true, true, true, true, true, true, true, true, true, true, true] rfl rfl (one_of HT_.out (by kernel_rfl)) (by decide) (fun K hK => ?_)
  have hka17 : (w16.setCell ⟨ka, 0, none⟩ (.slice A1 n1 c1)).heap[ka]? = some (.cells #[.slice A1 n1 c1] 22 (0, 0)) := heap_set (a := ⟨ka, 0, none⟩) H16.out.2.2.2.1 rfl
  have hia17 : (w16.setCell ⟨ka, 0, none⟩ (.slice A1 n1 c1)).heap[ia]? = some (.cells #[ivv] 23 (0, 0)) := (heap_set_ne (by have := HL.out; simp; omega)).trans H16.out.2.2.2.2
  have H17 := Aside0.mk (And.intro hka17 hia17)
  have hcell : (w16.setCell ⟨ka, 0, none⟩ (.slice A1 n1 c1)).cell? ⟨ia, 0, none⟩ = some ivv := by rw [cell_of_block hia17]; rfl
  have hfr : (w16.setCell ⟨ka, 0, none⟩ (.slice A1 n1 c1)).frozen? ⟨ia, 0, none⟩ = false := frozen_of_block hia17
  clear hka17 hia17
  rw [if_pos (by rfl)]
  go_simp
  refine hK.out _ _ ?_
  clear hcell hfr
  clear hK K
  refine norm_ (a' := ?_) ?_ ?_
  rotate_left
  · first | (simp only [Act.put, List.setIfInBounds_toArray, List.set_cons_zero, List.set_cons_succ, i64_w, i32_w]; rfl) | rfl
  refine done_ (done_of HT_.out (by kernel_rfl)) ?_
  obtain ⟨w18, e18⟩ : ∃ w18, (w16.setCell ⟨ka, 0, none⟩ (.slice A1 n1 c1)).setCell ⟨ia, 0, none⟩ (.slice A5 n5 c5) = w18 := ⟨_, rfl⟩
  rw [e18]
  have h1 : w18.heap[ka]? = some (.cells #[.slice A1 n1 c1] 22 (0, 0)) := by rw [← e18]; exact (heap_set_ne (by have := HL.out; simp; omega)).trans H17.out.1
  have h2 : w18.heap[ia]? = some (.cells #[.slice A5 n5 c5] 23 (0, 0)) := by rw [← e18]; exact heap_set (a := ⟨ia, 0, none⟩) H17.out.2 rfl
  have h3 : Kd.string.R 9 w18 base (fun _ => True) (.slice A1 n1 c1) (ks ++ [nm]) := R_upd H16.out.2.2.1 (fun k _ hb hk => by
    rw [← e18]
    exact (heap_set_ne (by have := HL.out; simp; omega)).trans (heap_set_ne (by have := HL.out; simp; omega)))
  have h4 : k25.R 25 w18 base (fun k => some k ≠ (Value.slice A1 n1 c1).ownBlock) (.slice A5 n5 c5) (is ++ [o]) := R_upd H16.out.1 (fun k _ hb hk => by
    rw [← e18]
    exact (heap_set_ne (by have := HL.out; simp; omega)).trans (heap_set_ne (by have := HL.out; simp; omega)))
  have h5 : Chg (fun k => k = ka ∨ k = ia ∨ base ≤ k) w w18 := by
    rw [← e18]
    exact (H16.out.2.1.setCell (p := ⟨ka, 0, none⟩) (.inl (.inl rfl)) _).setCell (p := ⟨ia, 0, none⟩) (.inl (.inr (.inl rfl))) _
  have H18 := Aside0.mk (And.intro h1 (And.intro h2 (And.intro h3 (And.intro h4 h5))))
  clear h1 h2 h3 h4 h5 e18
  go_wp2
  go_ret
  exact ⟨rfl, _, _, H18.out.1, H18.out.2.1, H18.out.2.2.1, H18.out.2.2.2.1, H18.out.2.2.2.2⟩

theorem nodup_get {l : List ByteArray} (h : l.Nodup) {i j : Nat} (hi : i < l.length) (hj : j < l.length) (e : l[i] = l[j]) : i = j := by
  rcases Nat.lt_trichotomy i j with h1 | h1 | h1
  · exact absurd e (List.pairwise_iff_getElem.1 h i j hi hj h1)
  · exact h1
  · exact absurd e.symm (List.pairwise_iff_getElem.1 h j i hj hi h1)
theorem Wf.map {d : Nat} {x : S25} (h : Wf (d + 1) x) (h2 : x.f0 = 2) : x.f3.length = x.f4.length ∧ x.f3.Nodup ∧ ∀ k ∈ x.f3, Word k := by
  rcases h with ⟨h1, _⟩ | ⟨_, _, _, _, ⟨_, hk, hw, hn⟩ | ⟨h3, _⟩⟩
  · omega
  · exact ⟨hk, hn, hw⟩
  · omega

/-- The two variables, filled. -/
def VisitOut (w w' : World) (ka ia : Nat) (ks : List ByteArray) (is : List S25) : Prop :=
  ∃ kv1 iv1, w'.heap[ka]? = some (.cells #[kv1] 22 (0, 0)) ∧ w'.heap[ia]? = some (.cells #[iv1] 23 (0, 0)) ∧ Kd.string.R 9 w' w.heap.size (fun _ => True) kv1 ks ∧
    k25.R 25 w' w.heap.size (fun k => some k ≠ kv1.ownBlock) iv1 is
def VFPost (w : World) (ka ia : Nat) (ks : List ByteArray) (is : List S25) (e : Ending) (w' : World) : Prop :=
  e = .returned .nilIface ∧ VisitOut w w' ka ia ks is ∧ Chg (fun k => k = ka ∨ k = ia) w w'
set_option maxRecDepth 100000 in
set_option maxHeartbeats 1600000 in
theorem vfields_calls (x : S25) (hx : Tree x) (h2 : x.f0 = 2) (w : World) (r b ka ia : Nat) (F : Nat → Prop) (hr : RN w r b) (hY : YN w F b (toY 6 x)) (hFa : ¬ F ka) (hFi : ¬ F ia)
    (hka : w.heap[ka]? = some (.cells #[.slice none 0 0] 22 (0, 0))) (hia : w.heap[ia]? = some (.cells #[.slice none 0 0] 23 (0, 0))) :
    Calls Try.prog 43 #[ptr r, .func (.func 44) #[] #[.pointer (some ⟨ka, 0, none⟩), .pointer (some ⟨ia, 0, none⟩)]] w (VFPost w ka ia x.f3 x.f4) := by
  have hf : ∀ (xs : Array Value) (wa : World), (callFunc 44 xs).run Try.prog wa = .ok (.enter 44 xs) wa := fun xs wa => enters_ Try.func44 rfl rfl xs wa
  have HX := Aside0.mk (And.intro hx h2)
  have HR := Aside0.mk hr
  have HY := Aside0.mk hY.lt
  have HF := Aside0.mk (And.intro hFa hFi)
  have HKA := Aside0.mk hka
  have HIA := Aside0.mk hia
  have hrk : r ≠ ka ∧ r ≠ ia := by
    obtain ⟨_, _, _, h⟩ := hr
    exact ⟨fun e => by rw [e, hka] at h; simp at h, fun e => by rw [e, hia] at h; simp at h⟩
  have HRK := Aside0.mk hrk
  clear hx h2 hr hY hFa hFi hka hia hrk
  go_enter Try.func43, Try.ntmps43
  go_wp2_with fail
  have hlen : x.f4.length + 1 ≤ nodes (5 + 1) x := HX.out.1.1.len
  have hlen2 : nodes (5 + 1) x ≤ 60 := HX.out.1.2
  have hmap := Wf.map (d := 5) HX.out.1.1 HX.out.2
  have hY2 := HY.out
  have hl := HX.out.1.1.live
  rw [toY_two HX.out.2] at hY2 hl
  obtain ⟨A, g, c, bs, hn, hA, hm, hcell, hkey, hval⟩ := map_open (by simpa using hmap.1) hY2
  refine (rfields_calls w r b _ _ A g c x.f3 bs HR.out hn hl hA hm (by omega) hcell (keys_nb hkey)).mono ?_
  rintro e w1 ⟨hb1, kvv, rfl, hr1⟩
  have HL := Aside0.mk (And.intro (show x.f4.length ≤ 60 by omega) hmap)
  have hl3 : x.f3.length ≤ 1000 := by omega
  have H1 := Aside0.mk (And.intro hb1 hr1)
  obtain ⟨A1, c1, rfl, hcc, _⟩ := Kd.R_reads hr1
  clear hn hA hm hcell hkey hval hY2 hl hb1 hr1 hlen hlen2 hmap
  go_wp2_with fail
  go_loopg [20] x.f3.length (fun k i wr => ∃ j : Nat, i = .int .i64 j ∧ Aside0 (j ≤ x.f3.length ∧ k + j = x.f3.length) ∧ Aside0 (Chg (fun k => k = ka ∨ k = ia ∨ w1.heap.size ≤ k) w1 wr) ∧
    Aside0 (VisitOut w1 wr ka ia (x.f3.take j) (x.f4.take j)))
  case atStart =>
    refine ⟨0, rfl, ⟨by omega⟩, ⟨Chg.refl _ _⟩, ⟨_, _, (H1.out.1.block _ (lt_of_block HKA.out)).trans HKA.out, (H1.out.1.block _ (lt_of_block HIA.out)).trans HIA.out, Kd.R_nil _ _ _ _ _, Kd.R_nil _ _ _ _ _⟩⟩
  case round =>
    obtain ⟨j, rfl, HJ, HC, HO⟩ := hrel
    have hs1 := H1.out.1.size
    by_cases hj : j < x.f3.length
    · have hns : Kd.string.R 9 wr w.heap.size (fun _ => True) (.slice A1 x.f3.length c1) x.f3 := R_upd H1.out.2 (fun k _ hb hk => HC.out.block k hk (fun q => by
        have := lt_of_block HKA.out; have := lt_of_block HIA.out; omega))
      obtain ⟨nm, hnm⟩ : ∃ nm, nm = x.f3[j] := ⟨_, rfl⟩
      obtain ⟨ad3, ea, hs3⟩ := strAt (Kd.R_reads' hns).2.2 j hj
      rw [List.getD_eq_getElem?_getD, List.getElem?_eq_getElem hj, Option.getD_some, ← hnm] at hs3
      subst ea
      have HNM := Aside0.mk hnm
      clear hns hnm hs1
      go_wp2_with fail
      have hs1 := H1.out.1.size
      have hrw : RN wr r b := (HR.out.below H1.out.1).move (fun hlt => HC.out.block _ hlt (fun q => by
        have := HRK.out; have := HR.out.lt; omega))
      have hyw : YN wr (fun k => F k ∧ k < w.heap.size) b (toY 6 x) := (HY.out.below H1.out.1).chg HC.out (fun k hk q => by
        rcases q with q | q | q
        · rw [q] at hk; exact HF.out.1 hk.1
        · rw [q] at hk; exact HF.out.2 hk.1
        · omega)
      refine (nodefield_calls 5 x HX.out.1.1 HX.out.1.2 wr r b _ nm hrw hyw).mono ?_
      rintro e w2 ⟨hb2, hcase⟩
      rcases hcase with ⟨h1, _⟩ | ⟨_, jj, y, m, kr, vr, kb, vb, F1, F2, hj1, hj2, rfl, hm, hkr, hvr, hF1, hkn, hF2, hvn⟩
      · exact absurd ⟨HX.out.2, by rw [HNM.out]; exact List.getElem_mem _⟩ h1
      have hjj : jj = j := by
        have h1 := List.getElem?_eq_some_iff.1 hj1
        obtain ⟨h2, h3⟩ := h1
        exact nodup_get HL.out.2.2.1 h2 hj (by rw [h3, HNM.out])
      subst hjj
      have hym : y ∈ x.f4 := List.mem_of_getElem? hj2
      obtain ⟨hj4, hye⟩ := List.getElem?_eq_some_iff.1 hj2
      obtain ⟨kv, iv, ho1, ho2, ho3, ho4⟩ := HO.out
      have HSTEP := Aside0.mk (And.intro hm (And.intro hkr (And.intro hvr (And.intro hkn hvn))))
      have HF2 := Aside0.mk hF2
      have HB2 := Aside0.mk hb2
      have HYM := Aside0.mk (And.intro hym hye.symm)
      have HOO := Aside0.mk (And.intro ho1 (And.intro ho2 (And.intro ho3 ho4)))
      clear hm hkr hvr hkn hvn hF1 hF2 hb2 hym hj1 hj2 hrw hyw ho1 ho2 ho3 ho4 hs1 hye
      go_wp2_with fail
      have hs1 := H1.out.1.size
      have hwf := HX.out.1.1.items (d := 5) y HYM.out.1
      have hnd : nodes 5 y ≤ 60 := by have := nodes_item (d := 5) HYM.out.1; have h60 : nodes (5 + 1) x ≤ 60 := HX.out.1.2; omega
      refine (step_calls w2 m kr vr kb vb ka ia w1.heap.size nm 5 (toY 5 y) y kv iv (x.f3.take jj) (x.f4.take jj) _ _ HSTEP.out.1 HSTEP.out.2.1 HSTEP.out.2.2.1 HSTEP.out.2.2.2.1 HSTEP.out.2.2.2.2 (fun k hk => by have := (HF2.out k hk).2; omega) (hwf.ysh hnd) hwf.live hwf.ofY
        ((HB2.out.block _ (lt_of_block HOO.out.1)).trans HOO.out.1) ((HB2.out.block _ (lt_of_block HOO.out.2.1)).trans HOO.out.2.1) (by have := lt_of_block HKA.out; omega) (by have := lt_of_block HIA.out; omega) (by have := HC.out.size; have := HB2.out.size; omega)
        (R_upd HOO.out.2.2.1 (fun k _ _ hk => HB2.out.block k hk)) (R_upd HOO.out.2.2.2 (fun k _ _ hk => HB2.out.block k hk)) (by simp; omega) (by have := HL.out.1; simp; omega)).mono ?_
      rintro e w3 ⟨rfl, kv1, iv1, q1, q2, q3, q4, q5⟩
      have hc3 : Chg (fun k => k = ka ∨ k = ia ∨ w1.heap.size ≤ k) w1 w3 := (HC.out.trans (Chg.of_below HB2.out) (fun _ (q : False) => q.elim)).trans q5 (fun k q => .inl q)
      have ho3 : VisitOut w1 w3 ka ia (x.f3.take (jj + 1)) (x.f4.take (jj + 1)) := by
        refine ⟨kv1, iv1, q1, q2, ?_, ?_⟩
        · rw [List.take_succ_eq_append_getElem hj, ← HNM.out]; exact q3
        · rw [List.take_succ_eq_append_getElem hj4, ← HYM.out.2]; exact q4
      have HN := Aside0.mk (And.intro hc3 ho3)
      clear q1 q2 q3 q4 q5 hc3 ho3 hwf hnd hs1
      go_wp2_with fail
      go_roundg (gk - 1)
      case measure => have := HJ.out; omega
      case rel => exact ⟨jj + 1, by go_num, ⟨by have := HJ.out; omega⟩, ⟨HN.out.1⟩, ⟨HN.out.2⟩⟩
    · have hje : j = x.f3.length := by have := HJ.out; omega
      have HJE := Aside0.mk hje
      clear hje hs1
      go_wp2_with fail
      go_ret
      have hs1 := H1.out.1.size
      obtain ⟨kv, iv, ho1, ho2, ho3, ho4⟩ := HO.out
      have hl4 := HL.out.2.1
      rw [HJE.out, List.take_length] at ho3
      rw [HJE.out, hl4, List.take_length] at ho4
      exact ⟨rfl, ⟨kv, iv, ho1, ho2, Kd.R_lower ho3 hs1, Kd.R_lower ho4 hs1⟩, (Chg.of_below (S := fun k => k = ka ∨ k = ia) H1.out.1).trans HC.out (fun k q => by rcases q with q | q | q; exact .inl (.inl q); exact .inl (.inr q); exact .inr (by omega))⟩

theorem vnofields_calls (w : World) (r b : Nat) (k : Int) (t v : ByteArray) (cv f : Value) (hr : RN w r b) (hn : NB w b k t v cv) (hl : Live k t) (hk : (k != 4) = true) :
    Calls Try.prog 43 #[ptr r, f] w fun e w' => ∃ p, e = .returned (.iface 126 (.pointer (some p))) ∧ Below w.heap.size w w' := by
  have HR := Aside0.mk hr
  have HN := Aside0.mk hn
  have HL := Aside0.mk hl
  clear hr hn hl
  go_enter Try.func43, Try.ntmps43
  go_wp2_with fail
  refine (rnofields_calls w r b k t v cv HR.out HN.out HL.out hk).mono ?_
  rintro e w1 ⟨p, rfl, hb⟩
  have HB := Aside0.mk hb
  clear hb
  go_wp2
  go_ret
  exact ⟨p, rfl, HB.out⟩

/-- The closure of impl.Visit. -/
def itemsIf (x : S25) : List S25 := if x.f0 = 2 then x.f4 else []
def V1Post (w : World) (ka ia : Nat) (x : S25) (e : Ending) (w' : World) : Prop := e = .returned (.bool (x.f0 == 2)) ∧ VisitOut w w' ka ia (keysIf x) (itemsIf x) ∧ Chg (fun k => k = ka ∨ k = ia) w w'
set_option maxRecDepth 100000 in
set_option maxHeartbeats 800000 in
theorem visit1_calls (x : S25) (hx : Tree x) (h23 : x.f0 = 2 ∨ x.f0 = 3) (w : World) (a ka ia : Nat) (A3 : Option Addr) (c3 : Nat) (A4 : Option Addr) (c4 : Nat) (ha : inVar w a x A3 c3 A4 c4)
    (hka : w.heap[ka]? = some (.cells #[.slice none 0 0] 22 (0, 0))) (hia : w.heap[ia]? = some (.cells #[.slice none 0 0] 23 (0, 0)))
    (hK : k25.K w x [.int .i64 x.f0, .string x.f1, .string x.f2, .slice A3 x.f3.length c3, .slice A4 x.f4.length c4]) :
    Calls Try.prog 42 #[.pointer (some ⟨a, 0, none⟩), .pointer (some ⟨ka, 0, none⟩), .pointer (some ⟨ia, 0, none⟩)] w (V1Post w ka ia x) := by
  have hu := Try.underlying25
  have hmf : ∀ (fn : Fn) (first cap : Array Value) (w : World), (Instr.makeFunc fn first cap).run Try.prog w = .ok (.func fn first cap) w := fun _ _ _ _ => rfl
  have HX := Aside0.mk (And.intro hx h23)
  clear hx h23
  have HA := Aside0.mk ha
  have HKA := Aside0.mk hka
  have HIA := Aside0.mk hia
  have HK := Aside0.mk hK
  have cr0 := (cell_of_block (i := 0) HA.out).trans (show _ = some _ from rfl); have cr1 := (cell_of_block (i := 1) HA.out).trans (show _ = some _ from rfl); have cr2 := (cell_of_block (i := 2) HA.out).trans (show _ = some _ from rfl); have cr3 := (cell_of_block (i := 3) HA.out).trans (show _ = some _ from rfl); have cr4 := (cell_of_block (i := 4) HA.out).trans (show _ = some _ from rfl); have zr0 := frozen_of_block (i := 0) HA.out; have zr1 := frozen_of_block (i := 1) HA.out; have zr2 := frozen_of_block (i := 2) HA.out; have zr3 := frozen_of_block (i := 3) HA.out; have zr4 := frozen_of_block (i := 4) HA.out
  clear ha hka hia hK
  go_enter Try.func42, Try.ntmps42
  go_wp2_with fail
  refine (rnodeOf_calls 6 x w [.int .i64 x.f0, .string x.f1, .string x.f2, .slice A3 x.f3.length c3, .slice A4 x.f4.length c4] HK.out (HX.out.1.1.sh HX.out.1.2)).mono ?_
  rintro e w1 ⟨r, b, rfl, hr, hrl, hy, hb1⟩
  have H1 := Aside0.mk (And.intro hr (And.intro hy hb1))
  clear hr hy hb1 cr0 cr1 cr2 cr3 cr4 zr0 zr1 zr2 zr3 zr4
  go_wp2_with fail
  have hla := lt_of_block HKA.out
  have hli := lt_of_block HIA.out
  by_cases h2 : x.f0 = 2
  · refine (vfields_calls x HX.out.1 h2 w1 r b ka ia _ H1.out.1 H1.out.2.1 (fun q => by omega) (fun q => by omega) ((H1.out.2.2.block _ hla).trans HKA.out) ((H1.out.2.2.block _ hli).trans HIA.out)).mono ?_
    rintro e w2 ⟨rfl, ⟨kv, iv, q1, q2, q3, q4⟩, q5⟩
    have hs := H1.out.2.2.size
    have hif : keysIf x = x.f3 := if_pos h2
    have hif2 : itemsIf x = x.f4 := if_pos h2
    have hib : (x.f0 == 2) = true := by simpa using h2
    have H2 := Aside0.mk (And.intro (show V1Post w ka ia x (.returned (.bool true)) w2 from ⟨by rw [hib], by rw [hif, hif2]; exact ⟨kv, iv, q1, q2, Kd.R_lower q3 hs, Kd.R_lower q4 hs⟩, (Chg.of_below H1.out.2.2).trans q5 (fun k q => .inl q)⟩) trivial)
    clear q1 q2 q3 q4 q5 hs hif hif2 hib h2 hla hli
    go_wp2
    go_ret
    exact H2.out.1
  · have h3 : x.f0 = 3 := by rcases HX.out.2 with h | h; exact absurd h h2; exact h
    obtain ⟨cv, hn⟩ := node_open H1.out.2.1
    refine (vnofields_calls w1 r b _ _ _ cv _ H1.out.1 hn HX.out.1.1.live (toY_list_kind h3)).mono ?_
    rintro e w2 ⟨p, rfl, hb2⟩
    have hbb := H1.out.2.2.trans (hb2.mono H1.out.2.2.size)
    have hif : keysIf x = [] := if_neg h2
    have hif2 : itemsIf x = [] := if_neg h2
    have hib : (x.f0 == 2) = false := by simpa using h2
    have H2 := Aside0.mk (And.intro (show V1Post w ka ia x (.returned (.bool false)) w2 from ⟨by rw [hib], by rw [hif, hif2]; exact ⟨_, _, (hbb.block _ hla).trans HKA.out, (hbb.block _ hli).trans HIA.out, Kd.R_nil _ _ _ _ _, Kd.R_nil _ _ _ _ _⟩, Chg.of_below hbb⟩) trivial)
    clear hn hb2 hbb hif hif2 hib h2 h3 hla hli
    go_wp2
    go_ret
    exact H2.out.1

/-- impl.Visit. -/
def VisitPost (w : World) (x : S25) (e : Ending) (w' : World) : Prop :=
  Below w.heap.size w w' ∧ ∃ kvv ivv, e = .returned (.tuple #[kvv, ivv, .bool (x.f0 == 2)]) ∧ Kd.string.R 9 w' w.heap.size (fun _ => True) kvv (keysIf x) ∧ k25.R 25 w' w.heap.size (fun _ => True) ivv (itemsIf x)
set_option maxRecDepth 100000 in
set_option maxHeartbeats 1600000 in
theorem visit_calls (x : S25) (hx : Tree x) (h23 : x.f0 = 2 ∨ x.f0 = 3) (w : World) (A3 : Option Addr) (c3 : Nat) (A4 : Option Addr) (c4 : Nat)
    (hK : k25.K w x [.int .i64 x.f0, .string x.f1, .string x.f2, .slice A3 x.f3.length c3, .slice A4 x.f4.length c4]) :
    Calls Try.prog 17 #[.agg #[.int .i64 x.f0, .string x.f1, .string x.f2, .slice A3 x.f3.length c3, .slice A4 x.f4.length c4]] w (VisitPost w x) := by
  have hu := Try.underlying25
  have hmf : ∀ (fn : Fn) (first cap : Array Value) (w : World), (Instr.makeFunc fn first cap).run Try.prog w = .ok (.func fn first cap) w := fun _ _ _ _ => rfl
  have HX := Aside0.mk (And.intro hx h23)
  have HK := Aside0.mk hK
  clear hx h23 hK
  go_enter Try.func17, Try.ntmps17
  go_wp2_with fail
  obtain ⟨w0, e0⟩ : ∃ w0, w0 = ((w.alloc (.cells #[.int .i64 x.f0, .string x.f1, .string x.f2, .slice A3 x.f3.length c3, .slice A4 x.f4.length c4] 25)).alloc (.cells #[.slice none 0 0] 22)).alloc (.cells #[.slice none 0 0] 23) := ⟨_, rfl⟩
  rw [← e0]
  have hb0 : Below w.heap.size w w0 := by rw [e0]; exact (((Below.refl _ _).alloc (Nat.le_refl _) _).alloc (by simp) _).alloc (by simp; omega) _
  have hw3 : w0.heap[w.heap.size + 1]? = some (.cells #[.slice none 0 0] 22 (0, 0)) := by rw [e0]; exact (heap_old _ (by simp)).trans (heap_at _ (by simp))
  have hw5 : w0.heap[w.heap.size + 1 + 1]? = some (.cells #[.slice none 0 0] 23 (0, 0)) := by rw [e0]; exact heap_at _ (by simp)
  have hw4 : inVar w0 w.heap.size x A3 c3 A4 c4 := by rw [e0]; exact (heap_old _ (by simp; omega)).trans ((heap_old _ (by simp)).trans (heap_at _ rfl))
  have H0 := Aside0.mk (And.intro hb0 (And.intro hw3 (And.intro hw4 hw5)))
  clear hb0 hw3 hw4 hw5 e0
  refine (right_calls x w0 A3 c3 A4 c4 (k25.K_below H0.out.1 HK.out) HX.out.1).mono ?_
  rintro e w1 ⟨rfl, hb1⟩
  have hw3 := (hb1.block _ (lt_of_block H0.out.2.1)).trans H0.out.2.1
  have hw4 := (hb1.block _ (lt_of_block H0.out.2.2.1)).trans H0.out.2.2.1
  have hw5 := (hb1.block _ (lt_of_block H0.out.2.2.2)).trans H0.out.2.2.2
  have H1 := Aside0.mk (And.intro (H0.out.1.trans (hb1.mono H0.out.1.size)) (And.intro hw3 (And.intro hw4 hw5)))
  clear hb1 hw3 hw4 hw5
  go_wp2_with fail
  refine (tried_calls w1 42 #[.pointer (some ⟨w.heap.size, 0, none⟩), .pointer (some ⟨w.heap.size + 1, 0, none⟩), .pointer (some ⟨w.heap.size + 1 + 1, 0, none⟩)] (fun k => k = w.heap.size + 1 ∨ k = w.heap.size + 1 + 1)
    (fun b w' => b = (x.f0 == 2) ∧ ∃ kv1 iv1, w'.heap[w.heap.size + 1]? = some (.cells #[kv1] 22 (0, 0)) ∧ w'.heap[w.heap.size + 1 + 1]? = some (.cells #[iv1] 23 (0, 0)) ∧ Kd.string.R 9 w' (w1.heap.size + 1) (fun _ => True) kv1 (keysIf x) ∧ k25.R 25 w' (w1.heap.size + 1) (fun _ => True) iv1 (itemsIf x))
    (fun k e => by have := lt_of_block H1.out.2.2.2; omega) (fun wa hwa hws => ?_) (fun wa => enters_ Try.func42 rfl rfl _ wa)).mono ?_
  · refine (visit1_calls x HX.out.1 HX.out.2 wa w.heap.size (w.heap.size + 1) (w.heap.size + 1 + 1) A3 c3 A4 c4 ((hwa.block _ (lt_of_block H1.out.2.2.1)).trans H1.out.2.2.1) ((hwa.block _ (lt_of_block H1.out.2.1)).trans H1.out.2.1) ((hwa.block _ (lt_of_block H1.out.2.2.2)).trans H1.out.2.2.2) (k25.K_below (H1.out.1.trans (hwa.mono H1.out.1.size)) HK.out)).mono ?_
    rintro e w2 ⟨rfl, ⟨kv, iv, h1, h2, h3, h4⟩, h5⟩
    exact ⟨_, rfl, ⟨rfl, kv, iv, h1, h2, Kd.R_lower h3 (by omega), Kd.R_mono (Kd.R_lower h4 (by omega)) (fun _ _ => trivial)⟩, h5⟩
  rintro e w2 ⟨r, w3, rfl, ⟨hq0, kvv, ivv, hq1, hq2, hq3, hq4⟩, hc1, hc2⟩
  have hl3 := lt_of_block H1.out.2.2.2
  have hs := H1.out.1.size
  have ho2 := (hc1.block _ (lt_of_block hq1) (by omega)).trans hq1
  have ho3 := (hc1.block _ (lt_of_block hq2) (by omega)).trans hq2
  have hs3 := hc2.size
  have hr2 : Kd.string.R 9 w2 w.heap.size (fun _ => True) kvv (keysIf x) := Kd.R_lower (R_upd hq3 (fun k _ hb hk => hc1.block k hk (by omega))) (by omega)
  have hr3 : k25.R 25 w2 w.heap.size (fun _ => True) ivv (itemsIf x) := Kd.R_lower (R_upd hq4 (fun k _ hb hk => hc1.block k hk (by omega))) (by omega)
  have HB := Aside0.mk (And.intro (H1.out.1.trans ((hc2.below hs (fun k e => by omega)).trans (hc1.below (by omega) (fun k e => by omega)))) (And.intro hr2 (And.intro hr3 hq0)))
  have HO := Aside0.mk (And.intro ho2 ho3)
  obtain ⟨A5, n5, c5, rfl⟩ : ∃ A1 n1 c1, kvv = .slice A1 n1 c1 := by obtain ⟨A1, c1, e⟩ := Kd.R_slice hr2; exact ⟨_, _, _, e⟩
  obtain ⟨A6, n6, c6, rfl⟩ : ∃ A1 n1 c1, ivv = .slice A1 n1 c1 := by obtain ⟨A1, c1, e⟩ := Kd.R_slice hr3; exact ⟨_, _, _, e⟩
  clear hc1 hc2 hq0 hq1 hq2 hq3 hq4 ho2 ho3 hl3 hs hs3 hr2 hr3
  cases r
  · have hn : keysIf x = [] ∧ itemsIf x = [] := by
      have h2 : ¬ x.f0 = 2 := by
        intro h
        have := HB.out.2.2.2
        rw [h] at this
        cases this
      exact ⟨if_neg h2, if_neg h2⟩
    have HNL := Aside0.mk hn
    clear hn
    go_wp2
    refine bodyPost_ret (v := .tuple #[.slice none 0 0, .slice none 0 0, .bool false]) (by simp [results, Try.results17, go_sem]) rfl ⟨HB.out.1, _, _, by rw [← HB.out.2.2.2], ?_, ?_⟩
    · rw [HNL.out.1]; exact Kd.R_nil _ _ _ _ _
    · rw [HNL.out.2]; exact Kd.R_nil _ _ _ _ _
  · go_wp2_with fail
    refine start_ (n := 5) (S := fun w' => w'.cell? ⟨w.heap.size + 1, 0, none⟩ = some (.slice A5 n5 c5) ∧ w'.cell? ⟨w.heap.size + 1 + 1, 0, none⟩ = some (.slice A6 n6 c6)) (ds := []) #[false, false, false, false, false] (by kernel_rfl) rfl rfl ⟨by rw [show w2.drew.cell? ⟨w.heap.size + 1, 0, none⟩ = w2.cell? ⟨w.heap.size + 1, 0, none⟩ from rfl, cell_of_block HO.out.1]; rfl, by rw [show w2.drew.cell? ⟨w.heap.size + 1 + 1, 0, none⟩ = w2.cell? ⟨w.heap.size + 1 + 1, 0, none⟩ from rfl, cell_of_block HO.out.2]; rfl⟩ (fun hHeld => ?_)
    refine with_tabW (T := visit5.T) (B := visit5.B) visit5.tab visit5.bits (fun HT_ HW_ => ?_)
    refine take_ (i := 0) (N := (some 15)) (v := ?_) (a' := ?_) #[true, false, false, false, false] rfl rfl (take_ofW HT_.out HW_.out (by kernel_rfl)) (fun _ _ _ h => h) (Or.inl ⟨by rfl, ?_⟩) hHeld ?_ ?_
    rotate_left
    · rintro w' ⟨s0, s1⟩
      go_simp
      with_reducible rfl
    rotate_left
    · simp only [Act.put, List.setIfInBounds_toArray, List.set_cons_zero, List.set_cons_succ, i64_w, i32_w]
      rfl
    refine pure_ (i := 2) (N := (some 2)) (v := ?_) (a' := ?_) #[true, false, true, false, false] rfl rfl (any_of HT_.out (by kernel_rfl)) (fun _ _ _ h => h) (Or.inl ⟨by rfl, ?_⟩) ?_ ?_
    rotate_left
    · intro w'
      go_simp
      with_reducible rfl
    rotate_left
    · simp only [Act.put, List.setIfInBounds_toArray, List.set_cons_zero, List.set_cons_succ, i64_w, i32_w]
      rfl
    refine take_ (i := 1) (N := (some 16)) (v := ?_) (a' := ?_) #[true, true, true, false, false] rfl rfl (take_ofW HT_.out HW_.out (by kernel_rfl)) (fun _ _ _ h => h) (Or.inl ⟨by rfl, ?_⟩) hHeld ?_ ?_
    rotate_left
    · rintro w' ⟨s0, s1⟩
      go_simp
      with_reducible rfl
    rotate_left
    · simp only [Act.put, List.setIfInBounds_toArray, List.set_cons_zero, List.set_cons_succ, i64_w, i32_w]
      rfl
    refine pure_ (i := 3) (N := (some 3)) (v := ?_) (a' := ?_) #[true, true, true, true, false] rfl rfl (any_of HT_.out (by kernel_rfl)) (fun _ _ _ h => h) (Or.inl ⟨by rfl, ?_⟩) ?_ ?_
    rotate_left
    · intro w'
      go_simp
      with_reducible rfl
    rotate_left
    · simp only [Act.put, List.setIfInBounds_toArray, List.set_cons_zero, List.set_cons_succ, i64_w, i32_w]
      rfl
    refine pure_ (i := 4) (N := (some 4)) (v := ?_) (a' := ?_) #[true, true, true, true, true] rfl rfl (any_of HT_.out (by kernel_rfl)) (fun _ _ _ h => h) (Or.inl ⟨by rfl, ?_⟩) ?_ ?_
    rotate_left
    · intro w'
      go_simp
      with_reducible rfl
    rotate_left
    · simp only [Act.put, List.setIfInBounds_toArray, List.set_cons_zero, List.set_cons_succ, i64_w, i32_w]
      rfl
    refine done_ (done_of HT_.out (by kernel_rfl)) ?_
    have hrd : Kd.string.R 9 w2.drew w.heap.size (fun _ => True) (.slice A5 n5 c5) (keysIf x) := R_upd HB.out.2.1 (fun _ _ _ _ => rfl)
    have hrd2 : k25.R 25 w2.drew w.heap.size (fun _ => True) (.slice A6 n6 c6) (itemsIf x) := R_upd HB.out.2.2.1 (fun _ _ _ _ => rfl)
    have HRD := Aside0.mk (And.intro HB.out.1.drew (And.intro hrd hrd2))
    clear hrd hrd2
    generalize w2.drew = w4 at *
    go_wp2
    refine bodyPost_ret (v := .tuple #[.slice A5 n5 c5, .slice A6 n6 c6, .bool true]) (by simp [results, Try.results17, go_sem]) rfl ⟨HRD.out.1, _, _, by rw [← HB.out.2.2.2], HRD.out.2.1, HRD.out.2.2⟩
end Go.Proofs.Ytigpgkfgkjabmaa
