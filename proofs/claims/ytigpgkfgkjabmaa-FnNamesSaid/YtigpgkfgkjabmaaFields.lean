/-
  RNode.Fields and impl.Fields: a map's keys, in order.
-/
import Derived.Test.YtigpgkfgkjabmaaKey
import Derived.Lib.SliceRun
namespace Go.Proofs.Ytigpgkfgkjabmaa
open Go.RowKit Go.Proofs.YtigpgkfgkjabmaaW.PrintWords Go.Proofs.YtigpgkfgkjabmaaW.PrintLast Go.Proofs.Ytigpgkfgkjabmaa.PFnFields
set_option linter.unusedVariables false
set_option linter.unusedSimpArgs false

def fields1.T : Bool × List (List Nat × List Nat) := (true, [([], []), ([], []), ([1], [1]), ([2], [2]), ([3], [3]), ([4], [4]), ([0, 5], [0, 5]), ([6, 6, 0, 1, 2, 3, 4, 5, 6], [6])])
def fields1.B : List Nat := [0, 0, 2, 6, 14, 30, 63, 127]
theorem fields1.tab : rtab .any (opsOf Try.f69 0) = fields1.T := by kernel_rfl
theorem fields1.bits : waitsOk fields1.T.2 fields1.B = true := by kernel_rfl
def AddPost (w : World) (a base : Nat) (ok : Nat → Prop) (kvv : Value) (ks : List ByteArray) (v : ByteArray) (e : Ending) (w' : World) : Prop :=
  e = .returned (.tuple #[]) ∧ ∃ kv1, w'.heap[a]? = some (.cells #[kv1] 22 (0, 0)) ∧ Kd.string.R 9 w' base ok kv1 (ks ++ [v]) ∧ Chg (fun k => k = a ∨ some k = kvv.ownBlock) w w'
set_option maxRecDepth 100000 in
theorem addkey_calls (w : World) (kb vb a base : Nat) (t v : ByteArray) (cv : Value) (hn : NB w kb 8 t v cv) (kvv : Value) (ks : List ByteArray) (ok : Nat → Prop) (ha : w.heap[a]? = some (.cells #[kvv] 22 (0, 0)))
    (hR : Kd.string.R 9 w base ok kvv ks) (hlen : ks.length ≤ 1000) (hbase : base ≤ w.heap.size) (hab : a < base) (hfresh : ∀ k, w.heap.size ≤ k → ok k) :
    Calls Try.prog 69 #[ptr kb, ptr vb, .pointer (some ⟨a, 0, none⟩)] w (AddPost w a base ok kvv ks v) := by
  have HN := Aside0.mk hn
  have HA := Aside0.mk ha
  have HR := Aside0.mk hR
  have HM := Aside0.mk (And.intro hlen (And.intro hbase (And.intro hab hfresh)))
  have HK : Aside0 (∀ w', Chg (fun _ => False) w w' → w'.cell? ⟨a, 0, none⟩ = some kvv ∧ w'.cell? ⟨kb, 3, none⟩ = some (.string v)) :=
    ⟨fun w' hc => ⟨hc.cell_of (by rw [cell_of_block ha]; rfl) (fun q => q), hc.cell_of hn.value (fun q => q)⟩⟩
  have hao : some a ≠ kvv.ownBlock := fun e => by have := R_own hR _ e.symm; omega
  have HAO := Aside0.mk hao
  clear hn ha hR hlen hbase hab hfresh hao
  go_enter Try.func69, Try.ntmps69
  refine start_ (n := 8) (S := fun w' => w'.cell? ⟨a, 0, none⟩ = some kvv ∧ w'.cell? ⟨kb, 3, none⟩ = some (.string v)) (ds := [6, 7]) #[false, false, false, false, false, false, false, false] (by kernel_rfl) rfl rfl (HK.out _ ((Chg.refl _ _).drew)) (fun hHeld => ?_)
  refine with_tabW (T := fields1.T) (B := fields1.B) fields1.tab fields1.bits (fun HT_ HW_ => ?_)
  have HC := Aside0.mk ((Chg.refl (fun _ => False) w).drew)
  generalize w.drew = wc at HC hHeld ⊢
  refine pure_ (i := 1) (N := (some 6)) (v := ?_) (a' := ?_) #[false, true, false, false, false, false, false, false] rfl rfl (any_of HT_.out (by kernel_rfl)) (fun _ _ _ h => h) (Or.inl ⟨by rfl, ?_⟩) ?_ ?_
  rotate_left
  · intro w'
    go_simp
    with_reducible rfl
  rotate_left
  · simp only [Act.put, List.setIfInBounds_toArray, List.set_cons_zero, List.set_cons_succ, i64_w, i32_w]
    rfl
  refine pure_ (i := 2) (N := (some 7)) (v := ?_) (a' := ?_) #[false, true, true, false, false, false, false, false] rfl rfl (any_of HT_.out (by kernel_rfl)) (fun _ _ _ h => h) (Or.inl ⟨by rfl, ?_⟩) ?_ ?_
  rotate_left
  · intro w'
    go_simp
    with_reducible rfl
  rotate_left
  · simp only [Act.put, List.setIfInBounds_toArray, List.set_cons_zero, List.set_cons_succ, i64_w, i32_w]
    rfl
  refine pure_ (i := 3) (N := (some 8)) (v := ?_) (a' := ?_) #[false, true, true, true, false, false, false, false] rfl rfl (any_of HT_.out (by kernel_rfl)) (fun _ _ _ h => h) (Or.inl ⟨by rfl, ?_⟩) ?_ ?_
  rotate_left
  · intro w'
    go_simp
    with_reducible rfl
  rotate_left
  · simp only [Act.put, List.setIfInBounds_toArray, List.set_cons_zero, List.set_cons_succ, i64_w, i32_w]
    rfl
  refine take_ (i := 0) (N := (some 5)) (v := ?_) (a' := ?_) #[true, true, true, true, false, false, false, false] rfl rfl (take_ofW HT_.out HW_.out (by kernel_rfl)) (fun _ _ _ h => h) (Or.inl ⟨by rfl, ?_⟩) hHeld ?_ ?_
  rotate_left
  · rintro w' ⟨s0, s1⟩
    go_simp
    with_reducible rfl
  rotate_left
  · simp only [Act.put, List.setIfInBounds_toArray, List.set_cons_zero, List.set_cons_succ, i64_w, i32_w]
    rfl
  refine take_ (i := 4) (N := (some 9)) (v := ?_) (a' := ?_) #[true, true, true, true, true, false, false, false] rfl rfl (take_ofW HT_.out HW_.out (by kernel_rfl)) (fun _ _ _ h => h) (Or.inl ⟨by rfl, ?_⟩) hHeld ?_ ?_
  rotate_left
  · rintro w' ⟨s0, s1⟩
    go_simp
    with_reducible rfl
  rotate_left
  · simp only [Act.put, List.setIfInBounds_toArray, List.set_cons_zero, List.set_cons_succ, i64_w, i32_w]
    rfl
  refine one_ (i := 5) (N := (some 10)) #[true, true, true, true, true, true, false, false] rfl rfl (one_of HT_.out (by kernel_rfl)) (by decide) (fun K hK => ?_)
  rw [if_pos (by rfl)]
  go_simp
  refine hK.out _ _ (HK.out _ (HC.out.alloc _)) (fun hHeld => ?_)
  clear hK K
  refine norm_ (a' := ?_) ?_ ?_
  rotate_left
  · first | (simp only [Act.put, List.setIfInBounds_toArray, List.set_cons_zero, List.set_cons_succ, i64_w, i32_w]; rfl) | rfl
  refine last_ (i := 6) (N := (some 11)) #[true, true, true, true, true, true, true, false] rfl rfl (one_of HT_.out (by kernel_rfl)) (by decide) (fun K hK => ?_)
  refine Kd.R_append_step Kd.string (w0 := wc) base (by rfl) (.tmp 5) (.tmp 10) 22 9 (.string ⟨#[]⟩) 16 rfl Try.underlying22 Try.infoStr rfl (by decide) (by decide) kvv ks v [.string v] ok (fun _ => False) (by rfl) (by rfl) rfl (fun _ h => h.elim) (fun k hk => HM.out.2.2.2 k (Nat.le_trans HC.out.size hk)) (R_upd HR.out (fun k _ _ hk => HC.out.block k hk (fun q => q))) (Below.refl _ _) (by have := HC.out.size; have := HM.out; omega) (by have := HM.out; omega) ?_
  intro kv1 w13 hr1 _ hg1 hat1
  obtain ⟨A1, n1, c1, rfl⟩ : ∃ A1 n1 c1, kv1 = .slice A1 n1 c1 := by obtain ⟨A1, c1, e⟩ := Kd.R_slice hr1; exact ⟨_, _, _, e⟩
  have HG := Aside0.mk (And.intro hr1 (And.intro hg1 hat1))
  refine hK.out _ _ ?_
  clear hr1 hg1 hat1
  clear hK K
  refine norm_ (a' := ?_) ?_ ?_
  rotate_left
  · first | (simp only [Act.put, List.setIfInBounds_toArray, List.set_cons_zero, List.set_cons_succ, i64_w, i32_w]; rfl) | rfl
  refine last_ (i := 7) (N := none) #[true, true, true, true, true, true, true, true] rfl rfl (one_of HT_.out (by kernel_rfl)) (by decide) (fun K hK => ?_)
  have hx13 : w13.heap[a]? = some (.cells #[kvv] 22 (0, 0)) := by
    have h1 := lt_of_block HA.out
    exact (HG.out.2.1.block _ (Nat.lt_of_lt_of_le h1 HC.out.size) (fun e => HAO.out e)).trans ((HC.out.block _ h1 (fun q => q)).trans HA.out)
  have HX13 := Aside0.mk hx13
  have hcell : w13.cell? ⟨a, 0, none⟩ = some kvv := by rw [cell_of_block hx13]; rfl
  have hfr : w13.frozen? ⟨a, 0, none⟩ = false := frozen_of_block hx13
  clear hx13
  rw [if_pos (by rfl)]
  go_simp
  refine hK.out _ _ ?_
  clear hK K
  refine norm_ (a' := ?_) ?_ ?_
  rotate_left
  · first | (simp only [Act.put, List.setIfInBounds_toArray, List.set_cons_zero, List.set_cons_succ, i64_w, i32_w]; rfl) | rfl
  refine done_ (done_of HT_.out (by kernel_rfl)) ?_
  clear hcell hfr
  obtain ⟨w2, e2⟩ : ∃ w2, w13.setCell ⟨a, 0, none⟩ (.slice A1 n1 c1) = w2 := ⟨_, rfl⟩
  have hcc : Chg (fun k => k = a ∨ some k = kvv.ownBlock) w w2 := by
    rw [← e2]
    exact Chg.setCell ((HC.out.mono (fun _ q => q.elim)).grown HG.out.2.1 (fun k e => .inl (.inr e.symm))) (.inl (.inl rfl)) _
  have hx2 : w2.heap[a]? = some (.cells #[.slice A1 n1 c1] 22 (0, 0)) := by rw [← e2]; exact heap_set (a := ⟨a, 0, none⟩) HX13.out rfl
  have hr2 : Kd.string.R 9 w2 base ok (.slice A1 n1 c1) (ks ++ [v]) := R_upd HG.out.1 (fun k _ hb hk => by rw [← e2]; exact heap_set_ne (by have := HM.out; simp; omega))
  rw [e2]
  refine ⟨rfl, .tuple #[], ?_, ?_⟩
  · simp [results, Try.results69, go_sem]
  · exact ⟨rfl, _, hx2, hr2, hcc⟩

/-- Each pair is handed to the callback, in order. -/
theorem eachcall_calls (w : World) (kb vb : Nat) (q : Int) (a4 : Nat) (f : FuncId) (cap : Array Value) (hf : ∀ (xs : Array Value) (wa : World), (callFunc f xs).run Try.prog wa = .ok (.enter f xs) wa)
    (h4 : w.heap[a4]? = some (.cells #[.func (.func f) #[] cap] 110 (0, 0))) (Q : World → Prop)
    (hQ : Calls Try.prog f (#[ptr kb, ptr vb] ++ cap) w fun e w' => e = .returned (.tuple #[]) ∧ Q w') :
    Calls Try.prog 86 #[ptr kb, ptr vb, .int .i64 q, .pointer (some ⟨a4, 0, none⟩)] w fun e w' => e = .returned (.bool true) ∧ Q w' := by
  have c4 : w.cell? ⟨a4, 0, none⟩ = some (.func (.func f) #[] cap) := by rw [cell_of_block h4]; rfl
  have HQ := Aside0.mk hQ
  clear hQ h4
  go_enter Try.func86, Try.ntmps86
  go_wp2_with fail
  refine HQ.out.mono ?_
  rintro e w1 ⟨rfl, hq⟩
  have HQ1 := Aside0.mk hq
  clear hq
  go_wp2
  go_ret
  exact ⟨rfl, HQ1.out⟩

def EachPost (Q : World → Prop) (e : Ending) (w' : World) : Prop := e = .returned (.tuple #[]) ∧ Q w'
set_option maxRecDepth 100000 in
theorem each_calls (w : World) (A : Option Addr) (g c m : Nat) (bs : List Nat) (f : FuncId) (cap : Array Value) (I : Nat → World → Prop)
    (hf : ∀ (xs : Array Value) (wa : World), (callFunc f xs).run Try.prog wa = .ok (.enter f xs) wa)
    (hA : 0 < m → A = some ⟨g, 0, none⟩) (hm : bs.length = 2 * m) (hb : m ≤ 1000)
    (hcell : ∀ j w', I j w' → ∀ i (h : i < bs.length), w'.cell? ⟨g, i, none⟩ = some (ptr bs[i]))
    (hI : ∀ j w', j < m → I j w' → Calls Try.prog f (#[ptr (bs.getD (2 * j) 0), ptr (bs.getD (2 * j + 1) 0)] ++ cap) w' fun e w'' => e = .returned (.tuple #[]) ∧ I (j + 1) w'' ∧ Chg (fun k => k ≠ w.heap.size) w' w'')
    (hd : ∀ j w', I j w' → I j w'.drew) (h00 : ∀ o1 o2, I 0 ((w.alloc o1).alloc o2)) :
    Calls Try.prog 68 #[.slice A bs.length c, .func (.func f) #[] cap, .slice none 0 0] w (EachPost (I m)) := by
  have hmf : ∀ (fn : Fn) (first cap : Array Value) (w : World), (Instr.makeFunc fn first cap).run Try.prog w = .ok (.func fn first cap) w := fun _ _ _ _ => rfl
  have HC := Aside0.mk hcell
  have HI := Aside0.mk hI
  have HD := Aside0.mk hd
  have H0 := Aside0.mk h00
  have HM := Aside0.mk (And.intro hA (And.intro hm hb))
  clear hcell hI hd h00 hA hm hb
  go_enter Try.func68, Try.ntmps68
  go_wp2_with fail
  obtain ⟨w0, e0⟩ : ∃ w0, w0 = (w.alloc (.cells #[.func (.func f) #[] cap] 110)).alloc (.cells #[.slice none 0 0] 22) := ⟨_, rfl⟩
  rw [← e0]
  have hw4 : w0.heap[w.heap.size]? = some (.cells #[.func (.func f) #[] cap] 110 (0, 0)) := by rw [e0]; exact (heap_old _ (by simp)).trans (heap_at _ rfl)
  have hi0 : I 0 w0 := by rw [e0]; exact H0.out _ _
  have HB0 := Aside0.mk (And.intro hi0 hw4)
  clear hi0 hw4 e0
  refine (while_calls w0 A g c m bs.length bs 86 _ (fun j wr => I j wr ∧ wr.heap[w.heap.size]? = some (.cells #[.func (.func f) #[] cap] 110 (0, 0))) (fun wr => I m wr)
    (fun xs wa => enters_ Try.func86 rfl rfl xs wa) HM.out.1 HM.out.2.1 HM.out.2.1 HM.out.2.2 ?cell ?round ?drew ?done HB0.out).mono ?_
  case cell => intro j w' ⟨hi, _⟩ i hi'; exact HC.out j w' hi i hi'
  case drew => intro j w' ⟨hi, h⟩; exact ⟨HD.out _ _ hi, h⟩
  case done => intro w' ⟨hi, _⟩; exact hi
  case round =>
    intro j w' hj ⟨hi, h⟩
    refine (eachcall_calls w' _ _ _ w.heap.size f cap hf h _ (HI.out j w' hj hi)).mono ?_
    rintro e w1 ⟨rfl, h1, h2⟩
    exact ⟨true, rfl, fun _ => ⟨h1, (h2.block _ (lt_of_block h) (fun q => q rfl)).trans h⟩, fun h => by cases h⟩
  rintro e w1 ⟨rfl, hq⟩
  have HQ1 := Aside0.mk hq
  clear hq
  go_wp2
  refine ⟨rfl, .tuple #[], ?_, ?_⟩
  · simp [results, Try.results68, go_sem]
  · exact ⟨rfl, HQ1.out⟩

/-- RNode.Fields of a map: its keys, in a row of its own. -/
def KeysPost (w : World) (ks : List ByteArray) (e : Ending) (w' : World) : Prop :=
  Below w.heap.size w w' ∧ ∃ kvv, e = .returned (.tuple #[kvv, .nilIface]) ∧ Kd.string.R 9 w' w.heap.size (fun _ => True) kvv ks
set_option maxRecDepth 100000 in
theorem rfields_calls (w : World) (r b : Nat) (t v : ByteArray) (A : Option Addr) (g c : Nat) (ks : List ByteArray) (bs : List Nat) (hr : RN w r b) (hn : NB w b 4 t v (.slice A bs.length c)) (hl : Live 4 t)
    (hA : 0 < ks.length → A = some ⟨g, 0, none⟩) (hm : bs.length = 2 * ks.length) (hb : ks.length ≤ 1000)
    (hcell : ∀ i (h : i < bs.length), w.cell? ⟨g, i, none⟩ = some (ptr bs[i]))
    (hkey : ∀ j (h : j < ks.length), ∃ t cv, NB w (bs.getD (2 * j) 0) 8 t ks[j] cv) :
    Calls Try.prog 40 #[ptr r] w (KeysPost w ks) := by
  have hmf : ∀ (fn : Fn) (first cap : Array Value) (w : World), (Instr.makeFunc fn first cap).run Try.prog w = .ok (.func fn first cap) w := fun _ _ _ _ => rfl
  have HR := Aside0.mk hr
  have HN := Aside0.mk hn
  have HL := Aside0.mk hl
  have HC := Aside0.mk hcell
  have HK := Aside0.mk hkey
  have HM := Aside0.mk (And.intro hA (And.intro hm hb))
  clear hr hn hl hcell hkey hA hm hb
  go_enter Try.func40, Try.ntmps40
  go_wp2_with fail
  refine (valid_calls w r b HR.out 4 t v A bs.length c HN.out HL.out (fun _ => by have := HM.out; omega) (by have := HM.out; omega)).mono ?_
  rintro e w1 ⟨rfl, rfl⟩
  go_wp2_with (first | (go_at_call 66; refine (content_calls _ r b (HR.out.below ((Below.refl _ _).alloc (Nat.le_refl _) _)) 4 t v (.slice A bs.length c) (HN.out.below ((Below.refl _ _).alloc (Nat.le_refl _) _)) HL.out).mono ?_; rintro e w' ⟨rfl, rfl⟩) | (go_at_call 68; fail))
  obtain ⟨w0, e0⟩ : ∃ w0, w0 = w.alloc (.cells #[.slice none 0 0] 22) := ⟨_, rfl⟩
  rw [← e0]
  have hs0 : w0.heap.size = w.heap.size + 1 := by rw [e0]; simp
  have hb0 : Below w.heap.size w w0 := by rw [e0]; exact (Below.refl _ _).alloc (Nat.le_refl _) _
  have hw0 : w0.heap[w.heap.size]? = some (.cells #[.slice none 0 0] 22 (0, 0)) := by rw [e0]; exact heap_at _ rfl
  have H0 := Aside0.mk (And.intro hs0 (And.intro hb0 hw0))
  clear hs0 hb0 hw0 e0
  refine (each_calls w0 A g c ks.length bs 69 #[.pointer (some ⟨w.heap.size, 0, none⟩)] (fun j wr => Below w.heap.size w wr ∧ w.heap.size + 1 < wr.heap.size ∧ ∃ kvv, wr.heap[w.heap.size]? = some (.cells #[kvv] 22 (0, 0)) ∧ Kd.string.R 9 wr (w.heap.size + 1) (fun k => k ≠ w.heap.size + 1) kvv (ks.take j))
    (fun xs wa => enters_ Try.func69 rfl rfl xs wa) HM.out.1 HM.out.2.1 HM.out.2.2 ?cell ?round ?drew ?start).mono ?_
  case cell =>
    intro j w' ⟨hb, _⟩ i hi
    exact (hb.cell (World.block_lt_of_cell? w _ (HC.out i hi))).trans (HC.out i hi)
  case drew => intro j w' ⟨hb, hs, kvv, h1, h2⟩; exact ⟨hb.drew, hs, kvv, h1, R_upd h2 (fun _ _ _ _ => rfl)⟩
  case start =>
    intro o1 o2
    have hs := H0.out.1
    refine ⟨(H0.out.2.1.alloc H0.out.2.1.size _).alloc (by simp; omega) _, by simp; omega, _, (heap_old _ (by simp; omega)).trans ((heap_old _ (by omega)).trans H0.out.2.2), Kd.R_nil _ _ _ _ _⟩
  case round =>
    intro j w' hj ⟨hb, hs, kvv, h1, h2⟩
    obtain ⟨t', cv', hn⟩ := HK.out j hj
    refine (addkey_calls w' _ _ w.heap.size (w.heap.size + 1) t' ks[j] cv' (hn.below hb) kvv (ks.take j) (fun k => k ≠ w.heap.size + 1) h1 h2 (by have := HM.out; simp; omega) (by omega) (by omega) (fun k hk => by omega)).mono ?_
    rintro e w1 ⟨rfl, kv1, q1, q2, q3⟩
    refine ⟨rfl, ⟨hb.trans (q3.below hb.size (fun k q => ?_)), Nat.lt_of_lt_of_le hs q3.size, kv1, q1, ?_⟩, q3.mono (fun k q => ?_)⟩
    · rcases q with rfl | q
      · omega
      · have := R_own h2 k q.symm; omega
    · rw [List.take_succ_eq_append_getElem hj]; exact q2
    · have hs0 := H0.out.1
      rcases q with rfl | q
      · omega
      · have := (R_own h2 k q.symm).2.2; omega
  rintro e w1 ⟨rfl, hb, hs, kvv, h1, h2⟩
  have h3 : Kd.string.R 9 w1 w.heap.size (fun _ => True) kvv ks := by
    rw [List.take_length] at h2
    exact Kd.R_mono (Kd.R_lower h2 (by omega)) (fun _ _ => trivial)
  have H1 := Aside0.mk (And.intro hb h3)
  have c1 : w1.cell? ⟨w.heap.size, 0, none⟩ = some kvv := by rw [cell_of_block h1]; rfl
  obtain ⟨A1, n1, c1', rfl⟩ : ∃ A1 n1 c1, kvv = .slice A1 n1 c1 := by obtain ⟨A1, c1, e⟩ := Kd.R_slice h3; exact ⟨_, _, _, e⟩
  clear hb hs h1 h2 h3
  go_wp2
  refine bodyPost_ret (v := .tuple #[.slice A1 n1 c1', .nilIface]) (by simp [results, Try.results40, go_sem]) rfl ⟨H1.out.1, _, rfl, H1.out.2⟩
/-- .. of what is no map: an error. -/
theorem rnofields_calls (w : World) (r b : Nat) (k : Int) (t v : ByteArray) (cv : Value) (hr : RN w r b) (hn : NB w b k t v cv) (hl : Live k t) (hk : (k != 4) = true) :
    Calls Try.prog 40 #[ptr r] w fun e w' => ∃ p, e = .returned (.tuple #[.slice none 0 0, .iface 126 (.pointer (some p))]) ∧ Below w.heap.size w w' := by
  have HR := Aside0.mk hr
  have HN := Aside0.mk hn
  have HL := Aside0.mk hl
  clear hr hn hl
  go_enter Try.func40, Try.ntmps40
  go_wp2_with fail
  refine (invalid_calls w r b HR.out k 4 t v cv HN.out HL.out hk).mono ?_
  rintro e w1 ⟨p, rfl, hb⟩
  have HB := Aside0.mk hb
  clear hb
  go_wp2
  refine bodyPost_ret (v := .tuple #[.slice none 0 0, .iface 126 (.pointer (some p))]) (by simp [results, Try.results40, go_sem]) rfl ⟨p, rfl, HB.out⟩

theorem R_empty {α : Type} (d : Kd α) {w : World} {g e base : Nat} {ok : Nat → Prop} (h : w.heap[g]? = some (.cells #[] e (0, 0))) (hb : base ≤ g) (ho : ok g) : d.R e w base ok (.slice (some ⟨g, 0, none⟩) 0 0) [] :=
  ⟨fun k hk => by obtain rfl : g = k := by simpa [Value.ownBlock] using hk
                  exact ho, [], ⟨by simp, .inr ⟨g, 0, #[], rfl, hb, h, Nat.le_refl _, Nat.zero_le _, by simp, by simp⟩⟩, Reps.none _ _⟩
/-- slices.Clone of texts. -/
def ClonePost (w : World) (xs : List ByteArray) (e : Ending) (w' : World) : Prop :=
  Below w.heap.size w w' ∧ ∃ kvv, e = .returned kvv ∧ Kd.string.R 9 w' w.heap.size (fun _ => True) kvv xs
set_option maxRecDepth 100000 in
theorem clone_calls (w : World) (A : Option Addr) (c : Nat) (xs : List ByteArray) (hC : Kd.string.C w A xs.length xs) (hl : xs.length ≤ 1000) :
    Calls Try.prog 41 #[.slice A xs.length c] w (ClonePost w xs) := by
  have HC := Aside0.mk hC
  have hsn : ∀ (w : World) (a : Option Addr) (n c : Nat), (binOp .eql 22 (.slice a n c) (.slice none 0 0)).run Try.prog w = .ok (.bool a.isNone) w := fun w a n c => Lib.run_eql_slice_nil w _ _ a n c 0 0 Try.underlying22
  clear hC
  rcases A with _ | ad
  · have h0 : xs = [] := by
      rcases Nat.eq_zero_or_pos xs.length with h | h
      · exact List.eq_nil_of_length_eq_zero h
      · obtain ⟨ad, h, _⟩ := HC.out.2.2 h
        cases h
    subst h0
    go_enter Try.func41, Try.ntmps41
    go_wp2
    go_ret
    exact ⟨Below.refl _ _, _, rfl, Kd.R_nil _ _ _ _ _⟩
  · go_enter Try.func41, Try.ntmps41
    go_wp2_with ((with_reducible refine gate_builtin (b := .append) (xs := #[.tmp 5, .tmp 6]) rfl ?_); at_builtin; refine Kd.R_append_rows Kd.string (Rr := Kd.string.K w) (w0 := w) w.heap.size rfl (.tmp 5) (.tmp 6) 22 9 (.string ⟨#[]⟩) 16 rfl Try.underlying22 Try.infoStr rfl (by decide) (by decide) _ [] xs (some ad) xs.length c (fun _ => True) (fun _ => False) rfl rfl ?aO ?aR (fun _ _ h => h) (fun _ h => h.elim) (fun _ _ => trivial) ?aB (by simp) (by simp; omega) ?_; (case aO => exact R_empty Kd.string (heap_at _ rfl) (Nat.le_refl _) trivial); (case aR => exact Kd.C_below HC.out ((Below.refl _ _).alloc (Nat.le_refl _) _)); (case aB => exact (Below.refl _ _).alloc (Nat.le_refl _) _); intro v1 w1 hr1 hb1 _ _; have HR1 := Aside0.mk hr1; have HB1 := Aside0.mk hb1; clear hr1 hb1)
    go_ret
    exact ⟨HB1.out, _, rfl, HR1.out⟩

def FieldsOut (w w' : World) (o base : Nat) (xs : List ByteArray) : Prop := ∃ kvv, w'.heap[o]? = some (.cells #[kvv] 22 (0, 0)) ∧ Kd.string.R 9 w' base (fun _ => True) kvv xs
/-- The closure of impl.Fields. -/
def keysIf (x : S25) : List ByteArray := if x.f0 = 2 then x.f3 else []
def F1Post (w : World) (o : Nat) (x : S25) (e : Ending) (w' : World) : Prop := e = .returned (.bool (x.f0 == 2)) ∧ FieldsOut w w' o w.heap.size (keysIf x) ∧ Chg (fun k => k = o) w w'
theorem toY_list_kind {d : Nat} {x : S25} (h3 : x.f0 = 3) : ((toY (d + 1) x).kind != 4) = true := by rw [toY_three h3]; rfl
set_option maxRecDepth 100000 in
set_option maxHeartbeats 1600000 in
theorem fields1_calls (x : S25) (hx : Tree x) (h23 : x.f0 = 2 ∨ x.f0 = 3) (w : World) (a o : Nat) (A3 : Option Addr) (c3 : Nat) (A4 : Option Addr) (c4 : Nat) (ha : inVar w a x A3 c3 A4 c4) (ho : w.heap[o]? = some (.cells #[.slice none 0 0] 22 (0, 0)))
    (hK : k25.K w x [.int .i64 x.f0, .string x.f1, .string x.f2, .slice A3 x.f3.length c3, .slice A4 x.f4.length c4]) :
    Calls Try.prog 39 #[.pointer (some ⟨a, 0, none⟩), .pointer (some ⟨o, 0, none⟩)] w (F1Post w o x) := by
  have hu := Try.underlying25
  have HX := Aside0.mk (And.intro hx h23)
  clear hx h23
  have HA := Aside0.mk ha
  have HO := Aside0.mk ho
  have HK := Aside0.mk hK
  have cr0 := (cell_of_block (i := 0) HA.out).trans (show _ = some _ from rfl); have cr1 := (cell_of_block (i := 1) HA.out).trans (show _ = some _ from rfl); have cr2 := (cell_of_block (i := 2) HA.out).trans (show _ = some _ from rfl); have cr3 := (cell_of_block (i := 3) HA.out).trans (show _ = some _ from rfl); have cr4 := (cell_of_block (i := 4) HA.out).trans (show _ = some _ from rfl); have zr0 := frozen_of_block (i := 0) HA.out; have zr1 := frozen_of_block (i := 1) HA.out; have zr2 := frozen_of_block (i := 2) HA.out; have zr3 := frozen_of_block (i := 3) HA.out; have zr4 := frozen_of_block (i := 4) HA.out
  clear ha ho hK
  go_enter Try.func39, Try.ntmps39
  go_wp2_with fail
  refine (rnodeOf_calls 6 x w [.int .i64 x.f0, .string x.f1, .string x.f2, .slice A3 x.f3.length c3, .slice A4 x.f4.length c4] HK.out (HX.out.1.1.sh HX.out.1.2)).mono ?_
  rintro e w1 ⟨r, b, rfl, hr, hrl, hy, hb1⟩
  have H1 := Aside0.mk (And.intro hr (And.intro hy hb1))
  clear hr hy hb1 cr0 cr1 cr2 cr3 cr4 zr0 zr1 zr2 zr3 zr4
  go_wp2_with fail
  have hl := HX.out.1.1.live
  have hlen := HX.out.1.1.len
  have hlen2 : nodes (5 + 1) x ≤ 60 := HX.out.1.2
  by_cases h2 : x.f0 = 2
  · have hY := H1.out.2.1
    rw [toY_two h2] at hY hl
    have hk34 : x.f3.length = x.f4.length := by
      rcases HX.out.1.1 with ⟨h1, _⟩ | ⟨_, _, _, _, ⟨_, hk, _⟩ | ⟨h3, _⟩⟩
      · omega
      · exact hk
      · omega
    obtain ⟨A, g, c, bs, hn, hA, hm, hcell, hkey, hval⟩ := map_open (by simpa using hk34) hY
    refine (rfields_calls w1 r b _ _ A g c x.f3 bs H1.out.1 hn hl hA hm (by omega) hcell (keys_nb hkey)).mono ?_
    rintro e w2 ⟨hb2, kvv, rfl, hr2⟩
    have hl3 : x.f3.length ≤ 1000 := by omega
    have hif : keysIf x = x.f3 := if_pos h2
    have hib : (x.f0 == 2) = true := by simpa using h2
    have H2 := Aside0.mk (And.intro (H1.out.2.2.trans (hb2.mono H1.out.2.2.size)) (And.intro hr2 (And.intro hif hib)))
    obtain ⟨A1, c1, rfl, _, hC⟩ := Kd.R_reads hr2
    have HC := Aside0.mk hC
    clear hn hA hm hcell hkey hval hk34 hY hl hb2 hr2 hC hlen hlen2 h2 hif hib
    go_wp2_with fail
    refine (clone_calls w2 A1 c1 x.f3 HC.out hl3).mono ?_
    rintro e w3 ⟨hb3, kv3, rfl, hr3⟩
    have hb := H2.out.1.trans (hb3.mono H2.out.1.size)
    have ho3 := (hb.block _ (lt_of_block HO.out)).trans HO.out
    have co : w3.cell? ⟨o, 0, none⟩ = some (.slice none 0 0) := by rw [cell_of_block ho3]; rfl
    have zo : w3.frozen? ⟨o, 0, none⟩ = false := frozen_of_block ho3
    obtain ⟨A5, n5, c5, rfl⟩ : ∃ A1 n1 c1, kv3 = .slice A1 n1 c1 := by obtain ⟨A1, c1, e⟩ := Kd.R_slice hr3; exact ⟨_, _, _, e⟩
    have H3 := Aside0.mk (And.intro hb (And.intro ho3 (Kd.R_lower hr3 H2.out.1.size)))
    clear hb ho3 hr3 hb3
    go_wp2_with fail
    obtain ⟨w4, e4⟩ : ∃ w4, w3.setCell ⟨o, 0, none⟩ (.slice A5 n5 c5) = w4 := ⟨_, rfl⟩
    rw [e4]
    have ho4 : w4.heap[o]? = some (.cells #[.slice A5 n5 c5] 22 (0, 0)) := by rw [← e4]; exact heap_set (a := ⟨o, 0, none⟩) H3.out.2.1 rfl
    have hc4 : Chg (fun k => k = o) w w4 := by rw [← e4]; exact Chg.setCell (S := fun k => k = o) (Chg.of_below H3.out.1) (p := ⟨o, 0, none⟩) (.inl rfl) _
    have hr4 : Kd.string.R 9 w4 w.heap.size (fun _ => True) (.slice A5 n5 c5) x.f3 := R_upd H3.out.2.2 (fun k _ hb hk => by rw [← e4]; exact heap_set_ne (by have := lt_of_block HO.out; simp; omega))
    have H4 := Aside0.mk (And.intro ho4 (And.intro hc4 hr4))
    clear co zo e4 ho4 hc4 hr4
    go_wp2
    go_ret
    refine ⟨?_, ?_, H4.out.2.1⟩
    · rw [H2.out.2.2.2]; rfl
    · rw [H2.out.2.2.1]; exact ⟨_, H4.out.1, H4.out.2.2⟩
  · have h3 : x.f0 = 3 := by rcases HX.out.2 with h | h; exact absurd h h2; exact h
    obtain ⟨cv, hn⟩ := node_open H1.out.2.1
    refine (rnofields_calls w1 r b _ _ _ cv H1.out.1 hn hl (toY_list_kind h3)).mono ?_
    rintro e w2 ⟨p, rfl, hb2⟩
    have hif : keysIf x = [] := if_neg h2
    have hib : (x.f0 == 2) = false := by simpa using h2
    have H2 := Aside0.mk (And.intro (H1.out.2.2.trans (hb2.mono H1.out.2.2.size)) (And.intro hif hib))
    clear hn hl hb2 hlen hlen2 h2 hif hib h3
    go_wp2_with fail
    refine (clone_calls w2 none 0 [] (Kd.C_nil _ _) (by simp)).mono ?_
    rintro e w3 ⟨hb3, kv3, rfl, hr3⟩
    have hb := H2.out.1.trans (hb3.mono H2.out.1.size)
    have ho3 := (hb.block _ (lt_of_block HO.out)).trans HO.out
    have co : w3.cell? ⟨o, 0, none⟩ = some (.slice none 0 0) := by rw [cell_of_block ho3]; rfl
    have zo : w3.frozen? ⟨o, 0, none⟩ = false := frozen_of_block ho3
    obtain ⟨A5, n5, c5, rfl⟩ : ∃ A1 n1 c1, kv3 = .slice A1 n1 c1 := by obtain ⟨A1, c1, e⟩ := Kd.R_slice hr3; exact ⟨_, _, _, e⟩
    have H3 := Aside0.mk (And.intro hb (And.intro ho3 (Kd.R_lower hr3 H2.out.1.size)))
    clear hb ho3 hr3 hb3
    go_wp2_with fail
    obtain ⟨w4, e4⟩ : ∃ w4, w3.setCell ⟨o, 0, none⟩ (.slice A5 n5 c5) = w4 := ⟨_, rfl⟩
    rw [e4]
    have ho4 : w4.heap[o]? = some (.cells #[.slice A5 n5 c5] 22 (0, 0)) := by rw [← e4]; exact heap_set (a := ⟨o, 0, none⟩) H3.out.2.1 rfl
    have hc4 : Chg (fun k => k = o) w w4 := by rw [← e4]; exact Chg.setCell (S := fun k => k = o) (Chg.of_below H3.out.1) (p := ⟨o, 0, none⟩) (.inl rfl) _
    have hr4 : Kd.string.R 9 w4 w.heap.size (fun _ => True) (.slice A5 n5 c5) [] := R_upd H3.out.2.2 (fun k _ hb hk => by rw [← e4]; exact heap_set_ne (by have := lt_of_block HO.out; simp; omega))
    have H4 := Aside0.mk (And.intro ho4 (And.intro hc4 hr4))
    clear co zo e4 ho4 hc4 hr4
    go_wp2
    go_ret
    refine ⟨?_, ?_, H4.out.2.1⟩
    · rw [H2.out.2.2]; rfl
    · rw [H2.out.2.1]; exact ⟨_, H4.out.1, H4.out.2.2⟩

/-- impl.Fields. -/
def FieldsPost (w : World) (x : S25) (e : Ending) (w' : World) : Prop :=
  Below w.heap.size w w' ∧ ∃ kvv, e = .returned (.tuple #[kvv, .bool (x.f0 == 2)]) ∧ Kd.string.R 9 w' w.heap.size (fun _ => True) kvv (keysIf x)
set_option maxRecDepth 100000 in
set_option maxHeartbeats 800000 in
theorem fields_calls (x : S25) (hx : Tree x) (h23 : x.f0 = 2 ∨ x.f0 = 3) (w : World) (A3 : Option Addr) (c3 : Nat) (A4 : Option Addr) (c4 : Nat)
    (hK : k25.K w x [.int .i64 x.f0, .string x.f1, .string x.f2, .slice A3 x.f3.length c3, .slice A4 x.f4.length c4]) :
    Calls Try.prog 16 #[.agg #[.int .i64 x.f0, .string x.f1, .string x.f2, .slice A3 x.f3.length c3, .slice A4 x.f4.length c4]] w (FieldsPost w x) := by
  have hu := Try.underlying25
  have hmf : ∀ (fn : Fn) (first cap : Array Value) (w : World), (Instr.makeFunc fn first cap).run Try.prog w = .ok (.func fn first cap) w := fun _ _ _ _ => rfl
  have HX := Aside0.mk (And.intro hx h23)
  have HK := Aside0.mk hK
  clear hx h23 hK
  go_enter Try.func16, Try.ntmps16
  go_wp2_with fail
  obtain ⟨w0, e0⟩ : ∃ w0, w0 = (w.alloc (.cells #[.int .i64 x.f0, .string x.f1, .string x.f2, .slice A3 x.f3.length c3, .slice A4 x.f4.length c4] 25)).alloc (.cells #[.slice none 0 0] 22) := ⟨_, rfl⟩
  rw [← e0]
  have hb0 : Below w.heap.size w w0 := by rw [e0]; exact ((Below.refl _ _).alloc (Nat.le_refl _) _).alloc (by simp) _
  have hw3 : w0.heap[w.heap.size + 1]? = some (.cells #[.slice none 0 0] 22 (0, 0)) := by rw [e0]; exact heap_at _ (by simp)
  have hw4 : inVar w0 w.heap.size x A3 c3 A4 c4 := by rw [e0]; exact (heap_old _ (by simp)).trans (heap_at _ rfl)
  have H0 := Aside0.mk (And.intro hb0 (And.intro hw3 hw4))
  clear hb0 hw3 hw4 e0
  refine (right_calls x w0 A3 c3 A4 c4 (k25.K_below H0.out.1 HK.out) HX.out.1).mono ?_
  rintro e w1 ⟨rfl, hb1⟩
  have hw3 := (hb1.block _ (lt_of_block H0.out.2.1)).trans H0.out.2.1
  have hw4 := (hb1.block _ (lt_of_block H0.out.2.2)).trans H0.out.2.2
  have H1 := Aside0.mk (And.intro (H0.out.1.trans (hb1.mono H0.out.1.size)) (And.intro hw3 hw4))
  clear hb1 hw3 hw4
  go_wp2_with fail
  refine (tried_calls w1 39 #[.pointer (some ⟨w.heap.size, 0, none⟩), .pointer (some ⟨w.heap.size + 1, 0, none⟩)] (fun k => k = w.heap.size + 1) (fun b w' => b = (x.f0 == 2) ∧ FieldsOut w w' (w.heap.size + 1) (w1.heap.size + 1) (keysIf x))
    (fun k e => by rw [e]; exact lt_of_block H1.out.2.1) (fun wa hwa hws => ?_) (fun wa => enters_ Try.func39 rfl rfl _ wa)).mono ?_
  · refine (fields1_calls x HX.out.1 HX.out.2 wa w.heap.size (w.heap.size + 1) A3 c3 A4 c4 ((hwa.block _ (lt_of_block H1.out.2.2)).trans H1.out.2.2) ((hwa.block _ (lt_of_block H1.out.2.1)).trans H1.out.2.1) (k25.K_below (H1.out.1.trans (hwa.mono H1.out.1.size)) HK.out)).mono ?_
    rintro e w2 ⟨rfl, ⟨kvv, h1, h2⟩, h3⟩
    exact ⟨_, rfl, ⟨rfl, kvv, h1, Kd.R_lower h2 (by omega)⟩, h3⟩
  rintro e w2 ⟨r, w3, rfl, ⟨hq0, kvv, hq1, hq2⟩, hc1, hc2⟩
  have hl3 := lt_of_block H1.out.2.1
  have hs := H1.out.1.size
  have ho2 := (hc1.block _ (lt_of_block hq1) (by omega)).trans hq1
  have co : w2.cell? ⟨w.heap.size + 1, 0, none⟩ = some kvv := by rw [cell_of_block ho2]; rfl
  have hs3 := hc2.size
  have hr2 : Kd.string.R 9 w2 w.heap.size (fun _ => True) kvv (keysIf x) := Kd.R_lower (R_upd hq2 (fun k _ hb hk => hc1.block k hk (by omega))) (by omega)
  have HB := Aside0.mk (And.intro (H1.out.1.trans ((hc2.below hs (fun k e => by omega)).trans (hc1.below (by omega) (fun k e => by omega)))) (And.intro hr2 hq0))
  obtain ⟨A5, n5, c5, rfl⟩ : ∃ A1 n1 c1, kvv = .slice A1 n1 c1 := by obtain ⟨A1, c1, e⟩ := Kd.R_slice hr2; exact ⟨_, _, _, e⟩
  clear hc1 hc2 hq0 hq1 hq2 ho2 hl3 hs hs3
  cases r
  · have hn : keysIf x = [] := by
      unfold keysIf
      rw [if_neg]
      intro h
      have := HB.out.2.2
      rw [h] at this
      cases this
    have HNL := Aside0.mk hn
    clear hn hr2
    go_wp2
    refine bodyPost_ret (v := .tuple #[.slice none 0 0, .bool false]) (by simp [results, Try.results16, go_sem]) rfl ⟨HB.out.1, _, by rw [← HB.out.2.2], ?_⟩
    rw [HNL.out]
    exact Kd.R_nil _ _ _ _ _
  · clear hr2
    go_wp2
    refine bodyPost_ret (v := .tuple #[.slice A5 n5 c5, .bool true]) (by simp [results, Try.results16, go_sem]) rfl ⟨HB.out.1, _, by rw [← HB.out.2.2], HB.out.2.1⟩
end Go.Proofs.Ytigpgkfgkjabmaa
