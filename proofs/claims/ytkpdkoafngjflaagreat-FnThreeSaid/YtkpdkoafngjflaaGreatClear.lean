import Derived.Test.YtkpdkoafngjflaaGreatSh
import Derived.Test.YtkpdkoafngjflaaGreatOpen
namespace Go.Proofs.YtkpdkoafngjflaaGreat
open Go.RowKit Go.Proofs.YtkpdkoafngjflaaGreatW.PrintWords Go.Proofs.YtkpdkoafngjflaaGreatW.PrintLast Go.Proofs.YtkpdkoafngjflaaGreat.PFnFields
set_option linter.unusedVariables false
set_option linter.unusedSimpArgs false
def clr1.T : Bool × List (List Nat × List Nat) := (true, [([], []), ([0], [0]), ([1], [1]), ([2], [2]), ([], []), ([4], [4]), ([3, 5], [3, 5])])
def clr1.B : List Nat := [0, 1, 3, 7, 0, 16, 63]
theorem clr1.tab : rtab .any (opsOf Tryz.f184 1) = clr1.T := by kernel_rfl
theorem clr1.bits : waitsOk clr1.T.2 clr1.B = true := by kernel_rfl
def clr11.T : Bool × List (List Nat × List Nat) := (true, [([], []), ([0], [0]), ([], []), ([2, 1], [2]), ([], []), ([3, 4], [3, 4]), ([1, 0, 1, 2, 3, 4, 5], [1]), ([6, 0, 1, 2, 3, 4, 5], [6]), ([7, 5, 3, 0, 1, 2, 3, 4, 5], [5, 7])])
def clr11.B : List Nat := [0, 1, 0, 7, 0, 31, 63, 127, 255]
theorem clr11.tab : rtab .any (opsOf Tryz.f184 11) = clr11.T := by kernel_rfl
theorem clr11.bits : waitsOk clr11.T.2 clr11.B = true := by kernel_rfl
def clr9.T : Bool × List (List Nat × List Nat) := (true, [([], []), ([0], [0]), ([], []), ([2, 1], [2]), ([], []), ([3, 4], [3, 4]), ([1, 0, 1, 2, 3, 4, 5], [1]), ([6, 0, 1, 2, 3, 4, 5], [6]), ([7, 5, 3, 0, 1, 2, 3, 4, 5], [5, 7])])
def clr9.B : List Nat := [0, 1, 0, 7, 0, 31, 63, 127, 255]
theorem clr9.tab : rtab .any (opsOf Tryz.f184 9) = clr9.T := by kernel_rfl
theorem clr9.bits : waitsOk clr9.T.2 clr9.B = true := by kernel_rfl
def clr10.T : Bool × List (List Nat × List Nat) := (true, [([], []), ([0], [0]), ([], []), ([2, 1], [2]), ([3], [3]), ([4], [4]), ([5], [5]), ([], []), ([7, 3], [7]), ([], []), ([9], [9]), ([], []), ([8, 10, 11], [8, 10, 11]), ([6, 12, 8], [6, 12]), ([1, 0, 1, 2, 3, 4, 5, 6, 7, 8, 9, 10, 11, 12, 13], [1]), ([14, 0, 1, 2, 3, 4, 5, 6, 7, 8, 9, 10, 11, 12, 13], [14]), ([15, 13, 13, 0, 1, 2, 3, 4, 5, 6, 7, 8, 9, 10, 11, 12, 13], [13, 15])])
def clr10.B : List Nat := [0, 1, 0, 7, 15, 31, 63, 0, 143, 0, 512, 0, 3983, 8191, 16383, 32767, 65535]
theorem clr10.tab : rtab .any (opsOf Tryz.f184 10) = clr10.T := by kernel_rfl
theorem clr10.bits : waitsOk clr10.T.2 clr10.B = true := by kernel_rfl
structure ClearAt (w : World) (ca rv va : Nat) (nm : ByteArray) (r b g c : Nat) (t v : ByteArray) (bs : List Nat) : Prop where
 clear : w.heap[ca]? = some (.cells #[.string ⟨#[]⟩, .string nm, .bool false] 220 (0, 0))
 removed : w.heap[rv]? = some (.cells #[.pointer none] 42 (0, 0))
 node : w.heap[va]? = some (.cells #[ptr r] 42 (0, 0))
 rn : RN w r b
 nb : NB w b 4 t v (.slice (some ⟨g, 0, none⟩) bs.length c)
 row : w.ownsRow 0 66 1 (.slice (some ⟨g, 0, none⟩) bs.length c) bs.length (ptrs bs)
theorem ClearAt.below {w w' : World} {ca rv va : Nat} {nm : ByteArray} {r b g c : Nat} {t v : ByteArray} {bs : List Nat} (h : ClearAt w ca rv va nm r b g c t v bs) (hb : Below w.heap.size w w') : ClearAt w' ca rv va nm r b g c t v bs :=
 ⟨(hb.block _ (lt_of_block h.clear)).trans h.clear, (hb.block _ (lt_of_block h.removed)).trans h.removed, (hb.block _ (lt_of_block h.node)).trans h.node, h.rn.below hb, h.nb.below hb, own_move h.row (fun k hk => hb.block k (own_lt h.row k hk))⟩
set_option maxRecDepth 100000 in
theorem clearskip_calls (w : World) (ca rv va : Nat) (nm : ByteArray) (r b g c : Nat) (t v : ByteArray) (bs : List Nat) (h : ClearAt w ca rv va nm r b g c t v bs) (kb vb : Nat) (q : Int) (t' v' : ByteArray) (cv : Value) (hk : NB w kb 8 t' v' cv) (hne : v' ≠ nm) :
  Calls Tryz.prog 184 #[ptr kb, ptr vb, .int .i64 q, .pointer (some ⟨ca, 0, none⟩), .pointer (some ⟨rv, 0, none⟩), .pointer (some ⟨va, 0, none⟩)] w fun e w' => e = .returned (.bool true) ∧ Chg (fun _ => False) w w' := by
 have cn : w.cell? ⟨ca, 1, none⟩ = some (.string nm) := by rw [cell_of_block h.clear]; rfl
 have ck := hk.value
 have HC := Aside0.mk (And.intro cn ck)
 have hb : (v'.toList == nm.toList) = false := by
  rw [beq_eq_false_iff_ne]; exact fun e => hne (bytes_ext e)
 clear h hk cn ck
 go_enter Tryz.func184, Tryz.ntmps184
 go_wp2_with fail
 refine start_ (n := 7) (S := fun w' => w'.cell? ⟨kb, 3, none⟩ = some (.string v') ∧ w'.cell? ⟨ca, 1, none⟩ = some (.string nm)) (ds := []) #[false, false, false, false, false, false, false] (by kernel_rfl) rfl rfl ⟨HC.out.2, HC.out.1⟩ (fun hHeld => ?_)
 refine with_tabW (T := clr1.T) (B := clr1.B) clr1.tab clr1.bits (fun HT_ HW_ => ?_)
 refine ps_ 0 11 HT_ ?_
 refine ps_ 1 12 HT_ ?_
 refine ps_ 2 13 HT_ ?_
 refine ps_ 4 15 HT_ ?_
 refine ts_ 3 14 HT_ HW_ hHeld ?_
 refine ts_ 5 16 HT_ HW_ hHeld ?_
 refine ps_ 6 17 HT_ ?_
 refine done_ (done_of HT_.out (by kernel_rfl)) ?_
 have HD : Aside0 (Chg (fun _ => False) w w.drew) := ⟨(Chg.refl _ w).drew⟩
 generalize w.drew = wd at *
 clear hb
 go_wp2
 go_ret
 exact ⟨rfl, HD.out⟩
theorem own_cut {P : Program} {W : World} (t ty e : TypeId) (i : TypeInfo) (ht : P.underlying t = some (.slice e)) (hi : P.info? e = some i) (hsz : i.size = 1) {g n c q : Nat} {bs : List Nat}
  (ho : W.ownsRow 0 e 1 (.slice (some ⟨g, 0, none⟩) n c) n (ptrs bs)) (hn : bs.length = n) (hq : q + 2 < n) (c2 : Nat) :
  ∃ w1, (Builtin.append_ #[t, t] ty #[.slice (some ⟨g, 0, none⟩) q c, .slice (some ⟨g, q + 2, none⟩) (n - (q + 2)) c2]).run P W = .ok (.slice (some ⟨g, 0, none⟩) (n - 2) c) w1 ∧
   w1.ownsRow 0 e 1 (.slice (some ⟨g, 0, none⟩) (n - 2) c) (n - 2) (ptrs (bs.take q ++ bs.drop (q + 2))) ∧ Chg (fun k => k = g) W w1 := by
 have hcells := fun j u hu => own_cell ho j u hu
 rcases ho.2 with ⟨hv, _⟩ | ⟨g', cap', cur, hv, hb, hh, hnc, hcm, hcs, htake⟩
 ·cases hv
 injection hv with ha _ hc
 injection ha with ha
 injection ha with hg
 subst hg; subst hc
 obtain ⟨news, hnews⟩ : ∃ news, news = ptrs (bs.drop (q + 2)) := ⟨_, rfl⟩
 have hnl : news.length = n - (q + 2) := by rw [hnews]; simp [ptrs]; omega
 have hcell : ∀ j u, news[j]? = some u → W.cell? ((⟨g, q + 2, none⟩ : Addr).add j) = some u := by
  intro j u hu
  rw [show (⟨g, q + 2, none⟩ : Addr).add j = ⟨g, q + 2 + j, none⟩ from by cases j <;> simp [Addr.add]]
  refine hcells (q + 2 + j) u ?_
  rw [hnews] at hu
  simpa [ptrs, List.getElem?_drop] using hu
 have hone : ∀ u ∈ news, u.oneCell' = true := by
  intro u hu
  rw [hnews] at hu
  obtain ⟨k, _, rfl⟩ := List.mem_map.1 hu
  rfl
 have hrun := run_append_room_cells (P := P) (w := W) t ty e i ht hi g 0 q c ⟨g, q + 2, none⟩ (n - (q + 2)) c2 news (by rw [hnl, hsz]; omega) hcell hone (by omega)
  (fun j hj => by rw [hsz, cell_of_row W g _ cur e (0, 0) hh]; simp; omega) (fun j _ => blk_frozen hh _)
 rw [hsz, show q + (n - (q + 2)) = n - 2 by omega] at hrun
 obtain ⟨cur', h3, h4, h5⟩ := setCells_row news (0 + q * 1) W cur hh (by omega)
 obtain ⟨s1, s2, s3, s4⟩ := setCells_same g news (0 + q * 1) W
 refine ⟨_, hrun, ⟨by simp [ptrs]; omega, .inr ⟨g, c, cur', rfl, Nat.zero_le _, h3, by omega, hcm, by rw [h4, hcs], ?_⟩⟩, ⟨s1, s2, s3, by rw [s4]; exact Nat.le_refl _, fun k _ hk => setCells_far news _ k hk⟩⟩
 have h7 : cur.toList.take q = (ptrs bs).take q := by
  rw [← htake, List.take_take, Nat.min_eq_left (by omega)]
 rw [h5, show 0 + q * 1 = q by omega, h7, hnews]
 have h8 : (ptrs bs).take q ++ ptrs (bs.drop (q + 2)) = ptrs (bs.take q ++ bs.drop (q + 2)) := by simp [ptrs, List.map_take]
 rw [h8]
 exact List.take_left' (by simp [ptrs]; omega)
theorem append_step_ {P : Program} {ops : Array Oper} {Q : Exit → Act → World → Prop} {oi : Oper} {a : Act} {w : World} {K : Act → World → Prop} (hw : Region.wanted oi (yielded ops a.tmps) = true) (s x : Operand) (t : TypeId)
  (ho : oi.op = .call { callee := .builtin .append, args := #[s, x], argTypes := #[t, t] }) {u v res : Value} (hs : a.eval s = u) (hx : a.eval x = v) {w1 : World} (hrun : (Builtin.append_ #[t, t] oi.type #[u, v]).run P w = .ok res w1) (h : K (a.put oi.dst res) w1) :
  if Region.wanted oi (yielded ops a.tmps) = true then Oper.wp P oi a w K Q else K (a.put oi.dst undef) w := by
 rw [if_pos hw]
 unfold Oper.wp execOp
 simp only [ho, resolve, invoke, builtin, Sem.run_bind, Sem.run_pure, Result.andThen_ok, List.map_toArray, List.map_cons, List.map_nil, hs, hx, hrun]
 exact h
def HitPost (w : World) (rv b g c : Nat) (t v : ByteArray) (bs' : List Nat) (vb : Nat) (e : Ending) (w' : World) : Prop :=
 e = .returned (.bool false) ∧ ∃ rr, w'.heap[rv]? = some (.cells #[ptr rr] 42 (0, 0)) ∧ RN w' rr vb ∧ NB w' b 4 t v (.slice (some ⟨g, 0, none⟩) bs'.length c) ∧
  w'.ownsRow 0 66 1 (.slice (some ⟨g, 0, none⟩) bs'.length c) bs'.length (ptrs bs') ∧ Chg (fun k => k = rv ∨ k = b ∨ k = g) w w' ∧ w.heap.size ≤ rr
set_option maxRecDepth 100000 in
set_option maxHeartbeats 3200000 in
theorem clearhit_calls (w : World) (ca rv va : Nat) (nm : ByteArray) (r b g c : Nat) (t v : ByteArray) (bs : List Nat) (h : ClearAt w ca rv va nm r b g c t v bs) (hl : Live 4 t) (kb vb j m : Nat) (t' : ByteArray) (cv : Value) (hk : NB w kb 8 t' nm cv) (hm : bs.length = 2 * m) (hj : j < m) (hm1 : m ≤ 1000) :
  Calls Tryz.prog 184 #[ptr kb, ptr vb, .int .i64 (2 * j : Nat), .pointer (some ⟨ca, 0, none⟩), .pointer (some ⟨rv, 0, none⟩), .pointer (some ⟨va, 0, none⟩)] w (HitPost w rv b g c t v (bs.take (2 * j) ++ bs.drop (2 * j + 2)) vb) := by
 have cn : w.cell? ⟨ca, 1, none⟩ = some (.string nm) := by rw [cell_of_block h.clear]; rfl
 have cf : w.cell? ⟨ca, 2, none⟩ = some (.bool false) := by rw [cell_of_block h.clear]; rfl
 have ck := hk.value
 obtain ⟨q, hq⟩ : ∃ q, q = 2 * j := ⟨_, rfl⟩
 obtain ⟨n, hn⟩ : ∃ n, n = bs.length := ⟨_, rfl⟩
 have HQ := Aside0.mk (And.intro hq (And.intro hn (And.intro hm (And.intro hj hm1))))
 have hq2 : q + 2 ≤ n := by omega
 have hqc : q ≤ c := by have := own_le h.row; omega
 have hn2 : n ≤ 2000 := by omega
 have HC := Aside0.mk (And.intro cn (And.intro ck cf))
 have HH := Aside0.mk h
 have HL := Aside0.mk hl
 have hb : (nm.toList == nm.toList) = true := by simp
 rw [← hq]
 clear h hl hk cn ck cf hq hn hm hj hm1
 go_enter Tryz.func184, Tryz.ntmps184
 go_wp2_with fail
 refine start_ (n := 7) (S := fun w' => w'.cell? ⟨kb, 3, none⟩ = some (.string nm) ∧ w'.cell? ⟨ca, 1, none⟩ = some (.string nm)) (ds := []) #[false, false, false, false, false, false, false] (by kernel_rfl) rfl rfl ⟨HC.out.2.1, HC.out.1⟩ (fun hHeld => ?_)
 refine with_tabW (T := clr1.T) (B := clr1.B) clr1.tab clr1.bits (fun HT_ HW_ => ?_)
 refine ps_ 0 11 HT_ ?_
 refine ps_ 1 12 HT_ ?_
 refine ps_ 2 13 HT_ ?_
 refine ps_ 4 15 HT_ ?_
 refine ts_ 3 14 HT_ HW_ hHeld ?_
 refine ts_ 5 16 HT_ HW_ hHeld ?_
 refine ps_ 6 17 HT_ ?_
 refine done_ (done_of HT_.out (by kernel_rfl)) ?_
 have HD : Aside0 (ClearAt w.drew ca rv va nm r b g c t v bs) := ⟨HH.out.below (Below.refl _ _).drew⟩
 have hsz : w.drew.heap.size = w.heap.size := rfl
 have HCD : Aside0 (Chg (fun _ => False) w w.drew) := ⟨(Chg.refl _ w).drew⟩
 have cf : w.drew.cell? ⟨ca, 2, none⟩ = some (.bool false) := HC.out.2.2
 generalize w.drew = wd at *
 go_wp2_with fail
 refine (newrnode_calls wd vb).mono ?_
 rintro e w1 ⟨rfl, rfl⟩
 obtain ⟨w1, e1⟩ : ∃ w1, w1 = wd.alloc (.cells (rcells (.slice none 0 0) (ptr vb) false (.slice none 0 0)) 78) := ⟨_, rfl⟩
 rw [← e1]
 have hb1 : Below wd.heap.size wd w1 := by rw [e1]; exact (Below.refl _ _).alloc (Nat.le_refl _) _
 have hrn1 : RN w1 w.heap.size vb := by rw [e1, ← hsz]; exact RN.new wd vb
 have H1 := Aside0.mk (And.intro (HD.out.below hb1) (And.intro hrn1 hb1))
 have cr : w1.cell? ⟨rv, 0, none⟩ = some (.pointer none) := by rw [cell_of_block (HD.out.below hb1).removed]; rfl
 have zr : w1.frozen? ⟨rv, 0, none⟩ = false := frozen_of_block (HD.out.below hb1).removed
 clear hb1 hrn1 cf e1
 have hrva : rv ≠ va := fun e => by
  have h1 := H1.out.1.removed
  have h2 := H1.out.1.node
  rw [e, h2] at h1
  simp at h1
 obtain ⟨w2, e2⟩ : ∃ w2, w2 = w1.setCell ⟨rv, 0, none⟩ (ptr w.heap.size) := ⟨_, rfl⟩
 have hc2 : Chg (fun k => k = rv) w1 w2 := by rw [e2]; exact (Chg.refl (fun k => k = rv) w1).setCell (p := ⟨rv, 0, none⟩) (.inl rfl) _
 have hrv2 : w2.heap[rv]? = some (.cells #[ptr w.heap.size] 42 (0, 0)) := by rw [e2]; exact heap_set (a := ⟨rv, 0, none⟩) H1.out.1.removed rfl
 have hrvne : ∀ {k : Nat} {cs : Array Value} {tt : TypeId}, w1.heap[k]? = some (.cells cs tt (0, 0)) → tt ≠ 42 → k ≠ rv := fun {k cs tt} hh ht e => by
  rw [e, H1.out.1.removed] at hh
  simp only [Option.some.injEq, Obj.cells.injEq] at hh
  exact ht hh.2.1.symm
 have hva2 : w2.heap[va]? = some (.cells #[ptr r] 42 (0, 0)) := (hc2.block _ (lt_of_block H1.out.1.node) (fun e => hrva e.symm)).trans H1.out.1.node
 have hr2 : RN w2 r b := by
  obtain ⟨_, _, _, hh⟩ := H1.out.1.rn
  exact H1.out.1.rn.move (fun hlt => hc2.block _ hlt (hrvne hh (by decide)))
 have hrr2 : RN w2 w.heap.size vb := by
  obtain ⟨_, _, _, hh⟩ := H1.out.2.1
  exact H1.out.2.1.move (fun hlt => hc2.block _ hlt (hrvne hh (by decide)))
 have hn2' : NB w2 b 4 t v (.slice (some ⟨g, 0, none⟩) bs.length c) := (hc2.block _ (lt_of_block H1.out.1.nb) (hrvne H1.out.1.nb (by decide))).trans H1.out.1.nb
 have ho2 : w2.ownsRow 0 66 1 (.slice (some ⟨g, 0, none⟩) bs.length c) bs.length (ptrs bs) := own_move H1.out.1.row (fun k hk => by
  obtain ⟨cells, hh⟩ := own_typed H1.out.1.row k hk
  exact hc2.block _ (lt_of_block hh) (hrvne hh (by decide)))
 have H2 := Aside0.mk (And.intro hrv2 (And.intro hva2 (And.intro hr2 (And.intro hrr2 (And.intro hn2' ho2)))))
 have hcw : Chg (fun k => k = rv ∨ k = b ∨ k = g) w w2 := ((HCD.out.mono (fun _ q => q.elim)).trans (Chg.of_below H1.out.2.2) (fun _ (q : False) => q.elim)).trans hc2 (fun k q => .inl (.inl q))
 have HCW := Aside0.mk hcw
 have cva : w2.cell? ⟨va, 0, none⟩ = some (ptr r) := by rw [cell_of_block hva2]; rfl
 have ccont : w2.cell? ⟨b, 6, none⟩ = some (.slice (some ⟨g, 0, none⟩) n c) := by rw [HQ.out.2.1]; exact hn2'.content
 have cva1 : (w1.setCell ⟨rv, 0, none⟩ (ptr w.heap.size)).cell? ⟨va, 0, none⟩ = some (ptr r) := by rw [← e2]; exact cva
 have HE2 := Aside0.mk e2
 clear hc2 hrv2 hrvne hva2 hr2 hrr2 hn2' ho2 hcw e2 hrva cva ccont
 go_wp2_with fail
 rw [← HE2.out]
 have cva : w2.cell? ⟨va, 0, none⟩ = some (ptr r) := by rw [HE2.out]; exact cva1
 have ccont : w2.cell? ⟨b, 6, none⟩ = some (.slice (some ⟨g, 0, none⟩) n c) := by rw [HQ.out.2.1]; exact H2.out.2.2.2.2.1.content
 clear cva1 cr zr HE2 H1 HD HCD
 have zcont : w2.frozen? ⟨b, 6, none⟩ = false := frozen_of_block H2.out.2.2.2.2.1
 refine (ynode_calls w2 r b H2.out.2.2.1 4 t v _ H2.out.2.2.2.2.1 HL.out).mono ?_
 rintro e w3 ⟨rfl, rfl⟩
 have hw : wrap64 ((q : Int) + 2) = (q : Int) + 2 := by unfold wrap64; omega
 have hS2 : w2.drew.cell? ⟨va, 0, none⟩ = some (ptr r) := cva
 have HS2 := Aside0.mk hS2
 clear hS2
 by_cases hlast : q + 2 = n
 ·have hlb : decide ((q : Int) + 2 < (n : Int)) = false := by simp; omega
  have hlc : decide (q + 2 < n) = false := by simp; omega
  have hln : ¬ (q : Int) + 2 < (n : Int) := by omega
  have HLAST := Aside0.mk hlast
  clear hlast
  go_wp2_with fail
  refine start_ (n := 9) (S := fun w' => w'.cell? ⟨va, 0, none⟩ = some (ptr r)) (ds := [8]) #[false, false, false, false, false, false, false, false, false] (by kernel_rfl) rfl rfl HS2.out (fun hHeld => ?_)
  refine with_tabW (T := clr11.T) (B := clr11.B) clr11.tab clr11.bits (fun HT_ HW_ => ?_)
  have HD3 : Aside0 (Below w2.heap.size w2 w2.drew) := ⟨(Below.refl _ _).drew⟩
  generalize w2.drew = w3 at HD3 hHeld ⊢
  refine ps_ 4 71 HT_ ?_
  refine ts_ 0 67 HT_ HW_ hHeld ?_
  refine ts_ 2 69 HT_ HW_ hHeld ?_
  refine one_ (i := 1) (N := (some 68)) #[true, true, true, false, true, false, false, false, false] rfl rfl (one_of HT_.out (by kernel_rfl)) (by decide) (fun K hK => ?_)
  refine goes_ Tryz.func37 (by kernel_rfl) rfl #[ptr r] (by rfl) rfl rfl (by simp only [List.map_toArray, List.map_cons, List.map_nil]; rfl) ?_
  refine (ynode_calls w3 r b (H2.out.2.2.1.below HD3.out) 4 t v _ (H2.out.2.2.2.2.1.below HD3.out) HL.out).mono ?_
  rintro e w4 ⟨rfl, rfl⟩
  refine ⟨_, rfl, ?_⟩
  refine hK.out _ _ hHeld (fun hHeld => ?_)
  clear hK K
  refine ns_ ?_
  refine one_ (i := 3) (N := (some 70)) #[true, true, true, true, true, false, false, false, false] rfl rfl (one_of HT_.out (by kernel_rfl)) (by decide) (fun K hK => ?_)
  refine goes_ Tryz.func74 (by kernel_rfl) rfl #[ptr r] (by rfl) rfl rfl (by simp only [List.map_toArray, List.map_cons, List.map_nil]; rfl) ?_
  refine (content_calls w3 r b (H2.out.2.2.1.below HD3.out) 4 t v _ (H2.out.2.2.2.2.1.below HD3.out) HL.out).mono ?_
  rintro e w4 ⟨rfl, rfl⟩
  refine ⟨_, rfl, ?_⟩
  refine hK.out _ _ hHeld (fun hHeld => ?_)
  clear hK K
  refine ns_ ?_
  refine ps_ 5 72 HT_ ?_
  refine ps_ 6 73 HT_ ?_
  refine ps_ 7 74 HT_ ?_
  refine last_ (i := 8) (N := none) #[true, true, true, true, true, true, true, true, true] rfl rfl (one_of HT_.out (by kernel_rfl)) (by decide) (fun K hK => ?_)
  have hnb3 := H2.out.2.2.2.2.1.below HD3.out
  have hcell : w3.cell? ⟨b, 6, none⟩ = some (.slice (some ⟨g, 0, none⟩) bs.length c) := hnb3.content
  have hfr : w3.frozen? ⟨b, 6, none⟩ = false := frozen_of_block hnb3
  clear hnb3
  rw [if_pos (by rfl)]
  go_simp
  refine hK.out _ _ ?_
  clear hcell hfr
  clear hK K
  refine ns_ ?_
  refine done_ (done_of HT_.out (by kernel_rfl)) ?_
  go_wp2
  go_ret
  refine ⟨rfl, w.heap.size, ?_⟩
  have hbs : bs.take q ++ bs.drop (q + 2) = bs.take q := by
   rw [List.drop_eq_nil_of_le (by have := HQ.out.2.1; have := HLAST.out; omega), List.append_nil]
  have hlen : (bs.take q).length = q := by have := HQ.out.2.1; simp; omega
  rw [hbs, hlen]
  have hnb3 := H2.out.2.2.2.2.1.below HD3.out
  have hrv3 := (HD3.out.block _ (lt_of_block H2.out.1)).trans H2.out.1
  have hro3 := own_move H2.out.2.2.2.2.2 (fun k hk => HD3.out.block k (own_lt H2.out.2.2.2.2.2 k hk))
  have hrr3 := H2.out.2.2.2.1.below HD3.out
  refine ⟨(heap_set_ne (fun e => ?_)).trans hrv3, ?_, ?_, ?_, ?_, Nat.le_refl _⟩
  ·have e' : rv = b := e
   rw [e', hnb3] at hrv3
   simp [NB] at hrv3
  ·have hrr4 := hrr3
   obtain ⟨_, _, _, hh⟩ := hrr4
   refine hrr3.move (fun _ => heap_set_ne (fun e => ?_))
   have e' : w.heap.size = b := e
   rw [e', hnb3] at hh
   simp at hh
  ·exact heap_set (a := ⟨b, 6, none⟩) hnb3 rfl
  ·have h1 := own_take (m := q) hro3 (by have := HQ.out.2.1; omega)
   have hp : ptrs (bs.take q) = (ptrs bs).take (q * 1) := by simp [ptrs, List.map_take]
   rw [hp]
   refine own_move h1 (fun k hk => heap_set_ne (fun e => ?_))
   obtain ⟨cells, hh⟩ := own_typed h1 k hk
   have e' : k = b := e
   rw [e', hnb3] at hh
   simp at hh
  ·exact (HCW.out.trans (Chg.of_below HD3.out) (fun _ (q : False) => q.elim)).setCell (p := ⟨b, 6, none⟩) (.inl (.inr (.inl rfl))) _
 ·have hlt : q + 2 < n := by omega
  have hlb : decide ((q : Int) + 2 < (n : Int)) = true := by simp; omega
  have hlc : decide (q + 2 < n) = true := by simp; omega
  clear hlast
  go_wp2_with (go_at_call 37; refine (ynode_calls _ r b H2.out.2.2.1 4 t v (.slice (some ⟨g, 0, none⟩) bs.length c) H2.out.2.2.2.2.1 HL.out).mono ?_; rintro e w' ⟨rfl, rfl⟩)
  refine start_ (n := 9) (S := fun w' => w'.cell? ⟨va, 0, none⟩ = some (ptr r)) (ds := [8]) #[false, false, false, false, false, false, false, false, false] (by kernel_rfl) rfl rfl HS2.out (fun hHeld => ?_)
  refine with_tabW (T := clr9.T) (B := clr9.B) clr9.tab clr9.bits (fun HT_ HW_ => ?_)
  have HD3 : Aside0 (Below w2.heap.size w2 w2.drew) := ⟨(Below.refl _ _).drew⟩
  generalize w2.drew = w3 at HD3 hHeld ⊢
  refine ps_ 4 47 HT_ ?_
  refine ts_ 0 43 HT_ HW_ hHeld ?_
  refine ts_ 2 45 HT_ HW_ hHeld ?_
  refine one_ (i := 1) (N := (some 44)) #[true, true, true, false, true, false, false, false, false] rfl rfl (one_of HT_.out (by kernel_rfl)) (by decide) (fun K hK => ?_)
  refine goes_ Tryz.func37 (by kernel_rfl) rfl #[ptr r] (by rfl) rfl rfl (by simp only [List.map_toArray, List.map_cons, List.map_nil]; rfl) ?_
  refine (ynode_calls w3 r b (H2.out.2.2.1.below HD3.out) 4 t v _ (H2.out.2.2.2.2.1.below HD3.out) HL.out).mono ?_
  rintro e w4 ⟨rfl, rfl⟩
  refine ⟨_, rfl, ?_⟩
  refine hK.out _ _ hHeld (fun hHeld => ?_)
  clear hK K
  refine ns_ ?_
  refine one_ (i := 3) (N := (some 46)) #[true, true, true, true, true, false, false, false, false] rfl rfl (one_of HT_.out (by kernel_rfl)) (by decide) (fun K hK => ?_)
  refine goes_ Tryz.func74 (by kernel_rfl) rfl #[ptr r] (by rfl) rfl rfl (by simp only [List.map_toArray, List.map_cons, List.map_nil]; rfl) ?_
  refine (content_calls w3 r b (H2.out.2.2.1.below HD3.out) 4 t v _ (H2.out.2.2.2.2.1.below HD3.out) HL.out).mono ?_
  rintro e w4 ⟨rfl, rfl⟩
  refine ⟨_, rfl, ?_⟩
  refine hK.out _ _ hHeld (fun hHeld => ?_)
  clear hK K
  refine ns_ ?_
  refine ps_ 5 48 HT_ ?_
  refine ps_ 6 49 HT_ ?_
  refine ps_ 7 50 HT_ ?_
  refine last_ (i := 8) (N := none) #[true, true, true, true, true, true, true, true, true] rfl rfl (one_of HT_.out (by kernel_rfl)) (by decide) (fun K hK => ?_)
  have hnb3 := H2.out.2.2.2.2.1.below HD3.out
  have hcell : w3.cell? ⟨b, 6, none⟩ = some (.slice (some ⟨g, 0, none⟩) bs.length c) := hnb3.content
  have hfr : w3.frozen? ⟨b, 6, none⟩ = false := frozen_of_block hnb3
  clear hnb3
  rw [if_pos (by rfl)]
  go_simp
  refine hK.out _ _ ?_
  clear hcell hfr
  clear hK K
  refine ns_ ?_
  refine done_ (done_of HT_.out (by kernel_rfl)) ?_
  have hnb3 := H2.out.2.2.2.2.1.below HD3.out
  have hrv3 := (HD3.out.block _ (lt_of_block H2.out.1)).trans H2.out.1
  have hva3 := (HD3.out.block _ (lt_of_block H2.out.2.1)).trans H2.out.2.1
  have hro3 := own_move H2.out.2.2.2.2.2 (fun k hk => HD3.out.block k (own_lt H2.out.2.2.2.2.2 k hk))
  have hrr3 := H2.out.2.2.2.1.below HD3.out
  have hr3 := H2.out.2.2.1.below HD3.out
  obtain ⟨w5, e5⟩ : ∃ w5, w5 = w3.setCell ⟨b, 6, none⟩ (.slice (some ⟨g, 0, none⟩) q c) := ⟨_, rfl⟩
  rw [← e5]
  have hnb5 : NB w5 b 4 t v (.slice (some ⟨g, 0, none⟩) q c) := by rw [e5]; exact heap_set (a := ⟨b, 6, none⟩) hnb3 rfl
  have hbne : ∀ {k : Nat} {cs : Array Value} {tt : TypeId}, w3.heap[k]? = some (.cells cs tt (0, 0)) → tt ≠ 82 → k ≠ b := fun {k cs tt} hh ht e => by
   rw [e, hnb3] at hh
   simp only [Option.some.injEq, Obj.cells.injEq] at hh
   exact ht hh.2.1.symm
  have hc5 : Chg (fun k => k = b) w3 w5 := by rw [e5]; exact (Chg.refl (fun k => k = b) w3).setCell (p := ⟨b, 6, none⟩) (.inl rfl) _
  have mv : ∀ {k : Nat} {cs : Array Value} {tt : TypeId}, w3.heap[k]? = some (.cells cs tt (0, 0)) → tt ≠ 82 → w5.heap[k]? = w3.heap[k]? := fun {k cs tt} hh ht => hc5.block _ (lt_of_block hh) (hbne hh ht)
  have hrv5 := (mv hrv3 (by decide)).trans hrv3
  have hva5 := (mv hva3 (by decide)).trans hva3
  have hr5 : RN w5 r b := by have hc := hr3; obtain ⟨_, _, _, hh⟩ := hc; exact hr3.move (fun _ => mv hh (by decide))
  have hrr5 : RN w5 w.heap.size vb := by have hc := hrr3; obtain ⟨_, _, _, hh⟩ := hc; exact hrr3.move (fun _ => mv hh (by decide))
  have hro5 := own_move hro3 (fun k hk => by obtain ⟨cells, hh⟩ := own_typed hro3 k hk; exact mv hh (by decide))
  have H5 := Aside0.mk (And.intro hrv5 (And.intro hva5 (And.intro hr5 (And.intro hrr5 (And.intro hnb5 hro5)))))
  have HC5 := Aside0.mk (((HCW.out.trans (Chg.of_below HD3.out) (fun _ (q : False) => q.elim)).trans hc5 (fun k q => .inl (.inr (.inl q)))))
  have cva5 : w5.drew.cell? ⟨va, 0, none⟩ = some (ptr r) := by rw [show w5.drew.cell? ⟨va, 0, none⟩ = w5.cell? ⟨va, 0, none⟩ from rfl, cell_of_block hva5]; rfl
  have ccn5 : w5.drew.cell? ⟨b, 6, none⟩ = some (.slice (some ⟨g, 0, none⟩) q c) := hnb5.content
  have HS5 := Aside0.mk (And.intro cva5 ccn5)
  clear hnb3 hrv3 hva3 hro3 hrr3 hr3 e5 hnb5 hbne hc5 mv hrv5 hva5 hr5 hrr5 hro5 cva5 ccn5
  have hnc : n ≤ c := by have := own_le H5.out.2.2.2.2.2; have := HQ.out.2.1; omega
  have hwq : wrap64 ((q : Int) + 2) = (q : Int) + 2 := hw
  have hz1 : (0 : Int) ≤ (q : Int) + 2 := by omega
  have hz2 : ((q : Int) + 2).toNat = q + 2 := by omega
  have hz3 : (q : Int) + 2 ≤ (n : Int) := by omega
  have hcq : ¬ c = q + 2 := by omega
  go_wp2_with fail
  refine start_ (n := 17) (S := fun w' => w'.cell? ⟨va, 0, none⟩ = some (ptr r) ∧ w'.cell? ⟨b, 6, none⟩ = some (.slice (some ⟨g, 0, none⟩) q c)) (ds := [13, 16]) #[false, false, false, false, false, false, false, false, false, false, false, false, false, false, false, false, false] (by kernel_rfl) rfl rfl HS5.out (fun hHeld => ?_)
  refine with_tabW (T := clr10.T) (B := clr10.B) clr10.tab clr10.bits (fun HT_ HW_ => ?_)
  have HD6 : Aside0 (Below w5.heap.size w5 w5.drew) := ⟨(Below.refl _ _).drew⟩
  generalize w5.drew = w6 at HD6 hHeld ⊢
  refine ps_ 9 60 HT_ ?_
  refine ps_ 10 61 HT_ ?_
  refine ps_ 11 62 HT_ ?_
  refine ts_ 0 51 HT_ HW_ hHeld ?_
  refine ts_ 2 53 HT_ HW_ hHeld ?_
  refine ts_ 7 58 HT_ HW_ hHeld ?_
  refine one_ (i := 1) (N := (some 52)) #[true, true, true, false, false, false, false, true, false, true, true, true, false, false, false, false, false] rfl rfl (one_of HT_.out (by kernel_rfl)) (by decide) (fun K hK => ?_)
  refine goes_ Tryz.func37 (by kernel_rfl) rfl #[ptr r] (by rfl) rfl rfl (by simp only [List.map_toArray, List.map_cons, List.map_nil]; rfl) ?_
  refine (ynode_calls w6 r b (H5.out.2.2.1.below HD6.out) 4 t v _ (H5.out.2.2.2.2.1.below HD6.out) HL.out).mono ?_
  rintro e w4 ⟨rfl, rfl⟩
  refine ⟨_, rfl, ?_⟩
  refine hK.out _ _ hHeld (fun hHeld => ?_)
  clear hK K
  refine ns_ ?_
  refine one_ (i := 3) (N := (some 54)) #[true, true, true, true, false, false, false, true, false, true, true, true, false, false, false, false, false] rfl rfl (one_of HT_.out (by kernel_rfl)) (by decide) (fun K hK => ?_)
  refine goes_ Tryz.func37 (by kernel_rfl) rfl #[ptr r] (by rfl) rfl rfl (by simp only [List.map_toArray, List.map_cons, List.map_nil]; rfl) ?_
  refine (ynode_calls w6 r b (H5.out.2.2.1.below HD6.out) 4 t v _ (H5.out.2.2.2.2.1.below HD6.out) HL.out).mono ?_
  rintro e w4 ⟨rfl, rfl⟩
  refine ⟨_, rfl, ?_⟩
  refine hK.out _ _ hHeld (fun hHeld => ?_)
  clear hK K
  refine ns_ ?_
  refine ps_ 4 55 HT_ ?_
  refine ps_ 5 56 HT_ ?_
  refine ts_ 6 57 HT_ HW_ hHeld ?_
  refine one_ (i := 8) (N := (some 59)) #[true, true, true, true, true, true, true, true, true, true, true, true, false, false, false, false, false] rfl rfl (one_of HT_.out (by kernel_rfl)) (by decide) (fun K hK => ?_)
  refine goes_ Tryz.func74 (by kernel_rfl) rfl #[ptr r] (by rfl) rfl rfl (by simp only [List.map_toArray, List.map_cons, List.map_nil]; rfl) ?_
  refine (content_calls w6 r b (H5.out.2.2.1.below HD6.out) 4 t v _ (H5.out.2.2.2.2.1.below HD6.out) HL.out).mono ?_
  rintro e w4 ⟨rfl, rfl⟩
  refine ⟨_, rfl, ?_⟩
  refine hK.out _ _ hHeld (fun hHeld => ?_)
  clear hK K
  refine ns_ ?_
  refine ps_ 12 63 HT_ ?_
  refine last_ (i := 13) (N := (some 64)) #[true, true, true, true, true, true, true, true, true, true, true, true, true, true, false, false, false] rfl rfl (one_of HT_.out (by kernel_rfl)) (by decide) (fun K hK => ?_)
  have hro6 : w6.ownsRow 0 66 1 (.slice (some ⟨g, 0, none⟩) n c) n (ptrs bs) := by
   have h1 := own_move H5.out.2.2.2.2.2 (fun k hk => HD6.out.block k (own_lt H5.out.2.2.2.2.2 k hk))
   rw [HQ.out.2.1]
   exact h1
  obtain ⟨i0, hi0, hs0⟩ := Option.map_eq_some_iff.1 (show (Tryz.prog.info? 66).map (·.size) = some 1 from by kernel_rfl)
  obtain ⟨w7, hrun, hrow, hcg⟩ := own_cut (P := Tryz.prog) 80 80 66 i0 Tryz.underlying80 hi0 hs0 hro6 HQ.out.2.1.symm hlt (c - (q + 2))
  have H7 := Aside0.mk (And.intro hrow hcg)
  refine append_step_ (by rfl) (.tmp 57) (.tmp 63) 80 rfl (by rfl) (by rfl) hrun ?_
  refine hK.out _ _ ?_
  clear hrun hrow hcg hro6 hi0 hs0
  clear hK K
  refine ns_ ?_
  refine ps_ 14 65 HT_ ?_
  refine ps_ 15 66 HT_ ?_
  refine last_ (i := 16) (N := none) #[true, true, true, true, true, true, true, true, true, true, true, true, true, true, true, true, true] rfl rfl (one_of HT_.out (by kernel_rfl)) (by decide) (fun K hK => ?_)
  have hnb6 := H5.out.2.2.2.2.1.below HD6.out
  have hgb : b ≠ g := fun e => by
   obtain ⟨cells, hh⟩ := own_typed (own_move H5.out.2.2.2.2.2 (fun k hk => HD6.out.block k (own_lt H5.out.2.2.2.2.2 k hk))) g (by simp [Value.ownBlock])
   rw [← e, hnb6] at hh
   simp at hh
  have hnb7 : NB w7 b 4 t v (.slice (some ⟨g, 0, none⟩) q c) := (H7.out.2.block _ (lt_of_block hnb6) hgb).trans hnb6
  have HNB7 := Aside0.mk hnb7
  have hcell : w7.cell? ⟨b, 6, none⟩ = some (.slice (some ⟨g, 0, none⟩) q c) := hnb7.content
  have hfr : w7.frozen? ⟨b, 6, none⟩ = false := frozen_of_block hnb7
  clear hnb6 hnb7 hgb
  rw [if_pos (by rfl)]
  go_simp
  refine hK.out _ _ ?_
  clear hcell hfr
  clear hK K
  refine ns_ ?_
  refine done_ (done_of HT_.out (by kernel_rfl)) ?_
  go_wp2
  go_ret
  have hlen : (bs.take q ++ bs.drop (q + 2)).length = n - 2 := by have := HQ.out.2.1; simp; omega
  have hg6 : ∃ cells, w6.heap[g]? = some (.cells cells 66 (0, 0)) := own_typed (own_move H5.out.2.2.2.2.2 (fun k hk => HD6.out.block k (own_lt H5.out.2.2.2.2.2 k hk))) g (by simp [Value.ownBlock])
  obtain ⟨gc, hg6⟩ := hg6
  have hgne : ∀ {k : Nat} {cs : Array Value} {tt : TypeId}, w6.heap[k]? = some (.cells cs tt (0, 0)) → tt ≠ 66 → k ≠ g := fun {k cs tt} hh ht e => by
   rw [e, hg6] at hh
   simp only [Option.some.injEq, Obj.cells.injEq] at hh
   exact ht hh.2.1.symm
  have hbne : ∀ {k : Nat} {cs : Array Value} {tt : TypeId}, w7.heap[k]? = some (.cells cs tt (0, 0)) → tt ≠ 82 → k ≠ b := fun {k cs tt} hh ht e => by
   rw [e, HNB7.out] at hh
   simp only [Option.some.injEq, Obj.cells.injEq] at hh
   exact ht hh.2.1.symm
  have hrv6 := (HD6.out.block _ (lt_of_block H5.out.1)).trans H5.out.1
  have hrv7 := (H7.out.2.block _ (lt_of_block hrv6) (hgne hrv6 (by decide))).trans hrv6
  have hrr6 := H5.out.2.2.2.1.below HD6.out
  have hrr7 : RN w7 w.heap.size vb := by have hc := hrr6; obtain ⟨_, _, _, hh⟩ := hc; exact hrr6.move (fun hlt => H7.out.2.block _ hlt (hgne hh (by decide)))
  refine ⟨rfl, w.heap.size, ?_⟩
  rw [hlen]
  refine ⟨(heap_set_ne (hbne hrv7 (by decide))).trans hrv7, ?_, ?_, ?_, ?_, Nat.le_refl _⟩
  ·have hc := hrr7
   obtain ⟨_, _, _, hh⟩ := hc
   exact hrr7.move (fun _ => heap_set_ne (hbne hh (by decide)))
  ·exact heap_set (a := ⟨b, 6, none⟩) HNB7.out rfl
  ·refine own_move H7.out.1 (fun k hk => heap_set_ne ?_)
   obtain ⟨cells, hh⟩ := own_typed H7.out.1 k hk
   exact hbne hh (by decide)
  ·exact (((HC5.out.trans (Chg.of_below HD6.out) (fun _ (q : False) => q.elim)).trans H7.out.2 (fun k q => .inl (.inr (.inr q))))).setCell (p := ⟨b, 6, none⟩) (.inl (.inr (.inl rfl))) _
def ClearPost (w : World) (b g c : Nat) (t v : ByteArray) (bs : List Nat) (ks : List ByteArray) (nm : ByteArray) (e : Ending) (w' : World) : Prop :=
 (nm ∉ ks ∧ e = .returned (.tuple #[.pointer none, .nilIface]) ∧ Below w.heap.size w w') ∨
 ∃ (j rr : Nat) (bs' : List Nat), ks[j]? = some nm ∧ bs' = bs.take (2 * j) ++ bs.drop (2 * j + 2) ∧ e = .returned (.tuple #[ptr rr, .nilIface]) ∧ RN w' rr (bs.getD (2 * j + 1) 0) ∧ NB w' b 4 t v (.slice (some ⟨g, 0, none⟩) bs'.length c) ∧
  w'.ownsRow 0 66 1 (.slice (some ⟨g, 0, none⟩) bs'.length c) bs'.length (ptrs bs') ∧ Chg (fun k => k = b ∨ k = g) w w' ∧ w.heap.size ≤ rr
set_option maxRecDepth 100000 in
set_option maxHeartbeats 1600000 in
theorem clearfilter_calls (w : World) (r b g c m : Nat) (t v nm : ByteArray) (ks : List ByteArray) (bs : List Nat) (hr : RN w r b) (hl : Live 4 t) (hn : NB w b 4 t v (.slice (some ⟨g, 0, none⟩) bs.length c))
  (hrow : w.ownsRow 0 66 1 (.slice (some ⟨g, 0, none⟩) bs.length c) bs.length (ptrs bs)) (hm : bs.length = 2 * ks.length) (hm1 : ks.length ≤ 1000) (hkey : ∀ j (h : j < ks.length), ∃ t cv, NB w (bs.getD (2 * j) 0) 8 t ks[j] cv) :
  Calls Tryz.prog 183 #[.agg #[.string ⟨#[]⟩, .string nm, .bool false], ptr r] w (ClearPost w b g c t v bs ks nm) := by
 have hmf : ∀ (fn : Fn) (first cap : Array Value) (w : World), (Instr.makeFunc fn first cap).run Tryz.prog w = .ok (.func fn first cap) w := fun _ _ _ _ => rfl
 have HR := Aside0.mk hr
 have HN := Aside0.mk hn
 have HL := Aside0.mk hl
 have HRW := Aside0.mk hrow
 have HM := Aside0.mk (And.intro hm hm1)
 have HK := Aside0.mk hkey
 clear hr hn hl hrow hm hm1 hkey
 go_enter Tryz.func183, Tryz.ntmps183
 go_wp2_with fail
 obtain ⟨w0, e0⟩ : ∃ w0, w0 = (w.alloc (.cells #[.string ⟨#[]⟩, .string nm, .bool false] 220)).alloc (.cells #[ptr r] 42) := ⟨_, rfl⟩
 rw [← e0]
 have hb0 : Below w.heap.size w w0 := by rw [e0]; exact ((Below.refl _ _).alloc (Nat.le_refl _) _).alloc (by simp) _
 have hs0 : w0.heap.size = w.heap.size + 2 := by rw [e0]; simp
 have hc0 : w0.heap[w.heap.size]? = some (.cells #[.string ⟨#[]⟩, .string nm, .bool false] 220 (0, 0)) := by rw [e0]; exact (heap_old _ (by simp)).trans (heap_at _ rfl)
 have hv0 : w0.heap[w.heap.size + 1]? = some (.cells #[ptr r] 42 (0, 0)) := by rw [e0]; exact heap_at _ (by simp)
 have H0 := Aside0.mk (And.intro hb0 (And.intro hc0 (And.intro hv0 hs0)))
 have cv0 : w0.cell? ⟨w.heap.size + 1, 0, none⟩ = some (ptr r) := by rw [cell_of_block hv0]; rfl
 have cv1 : ∀ o, (w0.alloc o).cell? ⟨w.heap.size + 1, 0, none⟩ = some (ptr r) := fun o => by rw [World.cell?_alloc_lt _ _ _ (by simp; omega), cv0]
 clear hb0 hc0 hv0 e0
 refine (valid_calls w0 r b (HR.out.below H0.out.1) 4 t v _ bs.length c (HN.out.below H0.out.1) HL.out (fun _ => by have := HM.out; omega) (by have := HM.out; omega)).mono ?_
 rintro e w1 ⟨rfl, rfl⟩
 go_wp2_with (first | (go_at_call 74; refine (content_calls _ r b (HR.out.below (H0.out.1.alloc H0.out.1.size _)) 4 t v _ (HN.out.below (H0.out.1.alloc H0.out.1.size _)) HL.out).mono ?_; rintro e w' ⟨rfl, rfl⟩) | (go_at_call 95; fail))
 obtain ⟨w1, e1⟩ : ∃ w1, w1 = w0.alloc (.cells #[.pointer none] 42) := ⟨_, rfl⟩
 rw [← e1]
 have hb1 : Below w0.heap.size w0 w1 := by rw [e1]; exact (Below.refl _ _).alloc (Nat.le_refl _) _
 have hrv1 : w1.heap[w.heap.size + 2]? = some (.cells #[.pointer none] 42 (0, 0)) := by rw [e1]; exact heap_at _ H0.out.2.2.2.symm
 have hbw1 : Below w.heap.size w w1 := H0.out.1.trans (hb1.mono H0.out.1.size)
 have hat1 : ClearAt w1 w.heap.size (w.heap.size + 2) (w.heap.size + 1) nm r b g c t v bs := ⟨(hb1.block _ (lt_of_block H0.out.2.1)).trans H0.out.2.1, hrv1, (hb1.block _ (lt_of_block H0.out.2.2.1)).trans H0.out.2.2.1, HR.out.below hbw1, HN.out.below hbw1, own_move HRW.out (fun k hk => hbw1.block k (own_lt HRW.out k hk))⟩
 have H1 := Aside0.mk (And.intro hbw1 hat1)
 clear hb1 hrv1 hbw1 hat1 e1 cv0 cv1
 have toB : ∀ {wr : World}, Chg (fun _ => False) w1 wr → Below w1.heap.size w1 wr := fun hc => hc.below (Nat.le_refl _) (fun _ q => q.elim)
 refine (while_calls w1 (some ⟨g, 0, none⟩) g c ks.length bs.length bs 184 _ (fun j wr => Chg (fun _ => False) w1 wr ∧ ∀ i, i < j → ks[i]? ≠ some nm)
  (fun wr => (nm ∉ ks ∧ Chg (fun _ => False) w1 wr) ∨ ∃ j, ks[j]? = some nm ∧ HitPost w1 (w.heap.size + 2) b g c t v (bs.take (2 * j) ++ bs.drop (2 * j + 2)) (bs.getD (2 * j + 1) 0) (.returned (.bool false)) wr)
  (fun xs wa => enters_ Tryz.func184 rfl rfl xs wa) (fun _ => rfl) HM.out.1 HM.out.1 HM.out.2 ?cell ?round ?drew ?done ⟨Chg.refl _ _, fun i hi => by omega⟩).mono ?_
 case cell =>
  intro j w' ⟨hc, _⟩ i hi
  exact hc.cell_of (own_cell H1.out.2.row i _ (by simp only [ptrs, List.getElem?_map, List.getElem?_eq_getElem hi, Option.map_some])) (fun q => q)
 case drew => intro j w' ⟨hc, h⟩; exact ⟨hc.drew, h⟩
 case done =>
  intro w' ⟨hc, h⟩
  refine .inl ⟨fun hmem => ?_, hc⟩
  obtain ⟨i, hi, he⟩ := List.getElem_of_mem hmem
  exact h i hi (by rw [List.getElem?_eq_getElem hi, he])
 case round =>
  intro j w' hj ⟨hc, h⟩
  obtain ⟨t', cv, hnk⟩ := HK.out j hj
  have hbw' := toB hc
  have hnk' := (hnk.below H1.out.1).below hbw'
  by_cases hkn : ks[j] = nm
  ·rw [hkn] at hnk'
   refine (clearhit_calls w' w.heap.size (w.heap.size + 2) (w.heap.size + 1) nm r b g c t v bs (H1.out.2.below hbw') HL.out _ (bs.getD (2 * j + 1) 0) j ks.length t' cv hnk' HM.out.1 hj HM.out.2).mono ?_
   rintro e w2 ⟨rfl, rr, q1, q2, q3, q4, q5, q6⟩
   refine ⟨false, rfl, fun h => (by cases h), fun _ => .inr ⟨j, by rw [List.getElem?_eq_getElem hj, hkn], rfl, rr, q1, q2, q3, q4, (hc.mono (fun _ q => q.elim)).trans q5 (fun k q => .inl q), Nat.le_trans hc.size q6⟩⟩
  ·refine (clearskip_calls w' w.heap.size (w.heap.size + 2) (w.heap.size + 1) nm r b g c t v bs (H1.out.2.below hbw') _ (bs.getD (2 * j + 1) 0) _ t' ks[j] cv hnk' hkn).mono ?_
   rintro e w2 ⟨rfl, hc2⟩
   refine ⟨true, rfl, fun _ => ⟨hc.trans hc2 (fun _ q => q.elim), fun i hi => ?_⟩, fun h => by cases h⟩
   rcases Nat.lt_succ_iff_lt_or_eq.1 hi with hi | rfl
   ·exact h i hi
   ·rw [List.getElem?_eq_getElem hj]; exact fun e => hkn (by simpa using e)
 rintro e w2 ⟨rfl, hq⟩
 rcases hq with ⟨h1, hc⟩ | ⟨j, h1, _, rr, q1, q2, q3, q4, q5, q6⟩
 ·have hrv2 := (hc.block _ (lt_of_block H1.out.2.removed) (fun q => q)).trans H1.out.2.removed
  have crv : w2.cell? ⟨w.heap.size + 2, 0, none⟩ = some (.pointer none) := by rw [cell_of_block hrv2]; rfl
  have HF := Aside0.mk (And.intro h1 (H1.out.1.trans ((toB hc).mono H1.out.1.size)))
  clear h1 hc hrv2 toB
  go_wp2
  refine bodyPost_ret (v := .tuple #[.pointer none, .nilIface]) (by simp [results, Tryz.results183, go_sem]) rfl (.inl ⟨HF.out.1, rfl, HF.out.2⟩)
 ·have crv : w2.cell? ⟨w.heap.size + 2, 0, none⟩ = some (ptr rr) := by rw [cell_of_block q1]; rfl
  have hcw : Chg (fun k => k = b ∨ k = g) w w2 := (Chg.of_below H1.out.1).trans q5 (fun k q => by
   rcases q with q | q | q
   ·exact .inr (by omega)
   ·exact .inl (.inl q)
   ·exact .inl (.inr q))
  have HF := Aside0.mk (And.intro h1 (And.intro q2 (And.intro q3 (And.intro q4 (And.intro hcw (Nat.le_trans H1.out.1.size q6))))))
  clear h1 q1 q2 q3 q4 q5 q6 hcw toB
  go_wp2
  refine bodyPost_ret (v := .tuple #[ptr rr, .nilIface]) (by simp [results, Tryz.results183, go_sem]) rfl (.inr ⟨j, rr, _, HF.out.1, rfl, rfl, HF.out.2.1, HF.out.2.2.1, HF.out.2.2.2.1, HF.out.2.2.2.2.1, HF.out.2.2.2.2.2⟩)
end Go.Proofs.YtkpdkoafngjflaaGreat
