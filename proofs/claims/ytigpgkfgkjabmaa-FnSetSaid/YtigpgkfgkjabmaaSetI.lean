/-
  What FieldSetter does to a map that is laid; impl.Set.
-/
import Derived.Test.YtigpgkfgkjabmaaSetDo
namespace Go.Proofs.Ytigpgkfgkjabmaa
open Go.RowKit Go.Proofs.YtigpgkfgkjabmaaW.PrintWords Go.Proofs.YtigpgkfgkjabmaaW.PrintLast Go.Proofs.Ytigpgkfgkjabmaa.PFnFields
set_option linter.unusedVariables false
set_option linter.unusedSimpArgs false

theorem toY_up : ∀ {d : Nat} {x : S25}, Wf d x → toY (d + 1) x = toY d x
  | 0, _, h => h.elim
  | d + 1, x, h => by
    have hi : x.f4.map (toY (d + 1)) = x.f4.map (toY d) := List.map_congr_left fun y hy => toY_up (h.items y hy)
    rcases h with ⟨h1, _⟩ | ⟨_, _, _, _, ⟨h2, _⟩ | ⟨h3, _⟩⟩
    · rw [toY_one h1, toY_one h1]
    · rw [toY_two h2, toY_two h2, hi]
    · rw [toY_three h3, toY_three h3, hi]
theorem MapOk.up {d : Nat} {ks : List ByteArray} {is : List S25} (h : MapOk d ks is) : MapOk (d + 1) ks is :=
  ⟨h.len, h.few, h.nodup, fun y hy => by
    obtain ⟨h1, h2⟩ := (h.items y hy).1.up
    exact ⟨h1, by rw [h2]; exact (h.items y hy).2⟩⟩
theorem MapOk.toY_up {d : Nat} {ks : List ByteArray} {is : List S25} (h : MapOk d ks is) : is.map (toY (d + 1)) = is.map (toY d) := List.map_congr_left fun y hy => Go.Proofs.Ytigpgkfgkjabmaa.toY_up (h.items y hy).1
theorem word_ne {s : ByteArray} (h : Word s) : s.toList.isEmpty = false := by
  have h1 := h.pos
  rw [← Bool.not_eq_true, List.isEmpty_iff]
  intro e
  have h2 : s.toList.length = s.size := by rw [ByteArray.toList_eq]; simp
  rw [e] at h2
  simp at h2
  omega
/-- The map with the key's value, behind the setter. -/
theorem wi_ok {x v : S25} (hx : Tree x) (h2 : x.f0 = 2) (hv : Tree v) (nm : ByteArray) : ∃ ks is, wi x nm v = ⟨2, ⟨#[]⟩, ⟨#[]⟩, ks, is⟩ ∧ MapOk 6 ks is := by
  have hn60 : nodes (5 + 1) x ≤ 60 := hx.2
  have hok : MapOk 6 x.f3 x.f4 := (MapOk.of hx.1 h2 hn60).up
  have hl := hx.1.len
  by_cases h : nm ∈ x.f3
  · obtain ⟨j, hj, he⟩ := List.getElem_of_mem h
    exact ⟨_, _, wi_at hok.nodup (by rw [List.getElem?_eq_getElem hj, he]), hok.put j hv⟩
  · exact ⟨_, _, wi_new h, hok.push (by omega) h hv⟩
theorem set_does (x v : S25) (hx : Tree x) (h2 : x.f0 = 2) (hv : Tree v) (nm : ByteArray) (hnm : Word nm) (w : World) (rv vb : Nat) (Fv : Nat → Prop) (hrv : RN w rv vb) (hyv : YN w Fv vb (toY 6 v)) :
    FilterDoes w 118 (.agg (fsc nm (ptr rv))) x v (wi x nm v) := by
  intro w0 wa r b hb0 hb1 hr hrl hy
  have hn60 : nodes (5 + 1) x ≤ 60 := hx.2
  have hok5 : MapOk 5 x.f3 x.f4 := MapOk.of hx.1 h2 hn60
  have hok : MapOk 6 x.f3 x.f4 := hok5.up
  have hl := hx.1.len
  have hs0 := hb0.size
  have hwa : Below w.heap.size w wa := hb0.trans (hb1.mono hb0.size)
  rw [toY_two h2, ← hok5.toY_up] at hy
  have hkl : x.f3.length = (x.f4.map (toY 6)).length := by simpa using hok.len
  have hfew := hok.few
  have hlen := hok.len
  refine (setter_calls wa r b rv vb (fun k => w0.heap.size ≤ k ∧ k ≠ r) (fun k => Fv k ∧ k < w.heap.size) ⟨#[]⟩ ⟨#[]⟩ x.f3 (x.f4.map (toY 6)) nm (toY 6 v) (word_ne hnm) hr hy live_map hkl (by omega) (hrv.below hwa) (hyv.lt.below hwa) hv.1.live
    (fun k q r => by omega) (fun q => by have := hrv.lt; omega) (fun y hy => by obtain ⟨z, hz, rfl⟩ := List.mem_map.1 hy; exact (hok.items z hz).1.live)).mono ?_
  rintro e w' ⟨o, rfl, F', ks', vs', hcase, hy', hF', hc, ro, bo, Fo, rfl, hro, hyo⟩
  refine ⟨_, rfl, hc.below hb1.size (fun k q => q.1), holds_tree hv.1 hv.2 hro hyo, ?_⟩
  have hr' : RN w' r b := hr.move (fun hlt => hc.block r hlt (fun q => q.2 rfl))
  rcases hcase with ⟨hn, rfl, rfl⟩ | ⟨j, hj, rfl, rfl⟩
  · rw [wi_new hn]
    have e : x.f4.map (toY 6) ++ [toY 6 v] = (x.f4 ++ [v]).map (toY 6) := by simp
    rw [e] at hy'
    exact holds_map (hok.push (by omega) hn hv) live_map hr' hy'
  · rw [wi_at hok.nodup hj]
    have e : (x.f4.map (toY 6)).set j (toY 6 v) = (x.f4.set j v).map (toY 6) := by rw [List.map_set]
    rw [e] at hy'
    exact holds_map (hok.put j hv) live_map hr' hy'
theorem set_method (nm : ByteArray) (V : Value) (n : Nat) (wa : World) : (method (n + 1) 84 (.agg (fsc nm V)) "Filter").run Try.prog wa = .ok (118, .agg (fsc nm V)) wa := by kernel_rfl
theorem setfield_calls (nm : ByteArray) (rv : Nat) (w : World) : Calls Try.prog 52 #[.string nm, ptr rv] w fun e w' => e = .returned (.agg (fsc nm (ptr rv))) ∧ Below w.heap.size w w' := by
  go_enter Try.func52, Try.ntmps52
  go_wp2
  refine bodyPost_ret (v := .agg (fsc nm (ptr rv))) (by simp [results, Try.results52, go_sem]) rfl ⟨rfl, (Below.refl _ _).alloc (Nat.le_refl _) _⟩
def iset3.T : Bool × List (List Nat × List Nat) := (true, [([], []), ([], []), ([], []), ([2], [2]), ([1, 3, 3], [1, 3]), ([4], [4]), ([5], [5]), ([0, 6, 4], [0, 6]), ([7], [7]), ([8], [8]), ([8], [8]), ([8], [8]), ([], []), ([], []), ([12, 9, 7, 0, 1, 2, 3, 4, 5, 6, 7, 8, 9, 12, 13], [9, 12]), ([13, 10, 14, 0, 1, 2, 3, 4, 5, 6, 7, 8, 9, 10, 12, 13, 14], [10, 13]), ([11, 15, 0, 1, 2, 3, 4, 5, 6, 7, 8, 9, 10, 11, 12, 13, 14, 15], [11])])
def iset3.B : List Nat := [0, 0, 0, 4, 14, 30, 62, 127, 255, 511, 511, 511, 0, 0, 13311, 30719, 65535]
theorem iset3.tab : rtab .any (opsOf Try.f27 3) = iset3.T := by kernel_rfl
theorem iset3.bits : waitsOk iset3.T.2 iset3.B = true := by kernel_rfl
/-- impl.Set. -/
def SetIPost (w : World) (o2 : S25) (e : Ending) (w' : World) : Prop := ∃ (A3 : Option Addr) (c3 : Nat) (A4 : Option Addr) (c4 : Nat), e = .returned (.tuple #[nodeV o2 A3 c3 A4 c4, .bool true]) ∧ nodeK w' o2 A3 c3 A4 c4 ∧ Below w.heap.size w w'
theorem M_span {w : World} {base : Nat} {x : S25} {cs : List Value} (h : k25.M w base (fun _ => True) x cs) {hi : Nat} (hh : w.heap.size = hi) : k25.M w 0 (fun k => base ≤ k ∧ k < hi) x cs :=
  k25.M_lower (Nat.zero_le _) (k25.M_mono (fun k hk => ⟨hk.2.1, by have := hk.2.2.1; omega⟩) (k25.M_bound h))
set_option maxRecDepth 100000 in
set_option maxHeartbeats 3200000 in
theorem iset_calls (x v : S25) (hx : Tree x) (h2 : x.f0 = 2) (hv : Tree v) (nm : ByteArray) (hnm : Word nm) (w : World) (A3 : Option Addr) (c3 : Nat) (A4 : Option Addr) (c4 : Nat) (hK : nodeK w x A3 c3 A4 c4) (V3 : Option Addr) (e3 : Nat) (V4 : Option Addr) (e4 : Nat) (hV : nodeK w v V3 e3 V4 e4) :
    Calls Try.prog 27 #[nodeV x A3 c3 A4 c4, .string nm, nodeV v V3 e3 V4 e4] w (SetIPost w (wi x nm v)) := by
  have hu := Try.underlying25
  have hv0 : (v.f0 != 0) = true := by
    rcases hv.1 with ⟨h, _⟩ | ⟨_, _, _, _, ⟨h, _⟩ | ⟨h, _⟩⟩ <;> rw [h] <;> rfl
  have HX := Aside0.mk (And.intro hx (And.intro h2 (And.intro hv hnm)))
  have HK := Aside0.mk (And.intro hK hV)
  clear hK hV hx h2 hv hnm
  go_enter Try.func27, Try.ntmps27
  go_wp2_with fail
  obtain ⟨w0, e0⟩ : ∃ w0, w0 = ((w.alloc (.cells #[.int .i64 x.f0, .string x.f1, .string x.f2, .slice A3 x.f3.length c3, .slice A4 x.f4.length c4] 25)).alloc (.cells #[.int .i64 v.f0, .string v.f1, .string v.f2, .slice V3 v.f3.length e3, .slice V4 v.f4.length e4] 25)).alloc (.cells #[.int .i64 0, .string ⟨#[]⟩, .string ⟨#[]⟩, .slice none 0 0, .slice none 0 0] 25) := ⟨_, rfl⟩
  try rw [← e0]
  have hb0 : Below w.heap.size w w0 := by rw [e0]; exact (((Below.refl _ _).alloc (Nat.le_refl _) _).alloc (by simp) _).alloc (by simp; omega) _
  have hs0 : w0.heap.size = w.heap.size + 3 := by rw [e0]; simp
  have q0 : inVar w0 w.heap.size x A3 c3 A4 c4 := by rw [e0]; exact (heap_old _ (by simp; omega)).trans ((heap_old _ (by simp)).trans (heap_at _ rfl))
  have q1 : inVar w0 (w.heap.size + 1) v V3 e3 V4 e4 := by rw [e0]; exact (heap_old _ (by simp)).trans (heap_at _ (by simp))
  have q2 : w0.heap[w.heap.size + 1 + 1]? = some (.cells #[.int .i64 0, .string ⟨#[]⟩, .string ⟨#[]⟩, .slice none 0 0, .slice none 0 0] 25 (0, 0)) := by rw [e0]; exact heap_at _ (by simp)
  have H0 := Aside0.mk (And.intro hb0 (And.intro q0 (And.intro q1 (And.intro q2 hs0))))
  clear hb0 q0 q1 q2 hs0 e0
  refine (plain_calls nm w0 HX.out.2.2.2).mono ?_
  rintro e w1 ⟨rfl, ⟨⟨n1, rfl⟩⟩⟩
  have hb1 : Below w0.heap.size w0 (w0.drewN n1) := pw_below_drewN (Below.refl _ _) n1
  have hs1 : (w0.drewN n1).heap.size = w0.heap.size := rfl
  generalize w0.drewN n1 = w1 at hb1 hs1 ⊢
  have mv : ∀ {k : Nat} {o : Obj}, w0.heap[k]? = some o → w1.heap[k]? = some o := fun {k o} h => (hb1.block _ (lt_of_block h)).trans h
  have H1 := Aside0.mk (And.intro (H0.out.1.trans (hb1.mono H0.out.1.size)) (And.intro (mv H0.out.2.1) (And.intro (mv H0.out.2.2.1) (And.intro (mv H0.out.2.2.2.1) (show w.heap.size + 3 ≤ w1.heap.size by have := H0.out.2.2.2.2; omega)))))
  clear hb1 hs1 mv H0
  have HQ1 := Aside0.mk H1.out.2.2.1
  have cv0 := (cell_of_block (i := 0) HQ1.out).trans (show _ = some _ from rfl); have cv1 := (cell_of_block (i := 1) HQ1.out).trans (show _ = some _ from rfl); have cv2 := (cell_of_block (i := 2) HQ1.out).trans (show _ = some _ from rfl); have cv3 := (cell_of_block (i := 3) HQ1.out).trans (show _ = some _ from rfl); have cv4 := (cell_of_block (i := 4) HQ1.out).trans (show _ = some _ from rfl); have zv0 := frozen_of_block (i := 0) HQ1.out; have zv1 := frozen_of_block (i := 1) HQ1.out; have zv2 := frozen_of_block (i := 2) HQ1.out; have zv3 := frozen_of_block (i := 3) HQ1.out; have zv4 := frozen_of_block (i := 4) HQ1.out
  go_wp2_with fail
  refine (right_calls v w1 V3 e3 V4 e4 (k25.K_below H1.out.1 HK.out.2) HX.out.2.2.1).mono ?_
  rintro e w2 ⟨rfl, hb2⟩
  have mv : ∀ {k : Nat} {o : Obj}, w1.heap[k]? = some o → w2.heap[k]? = some o := fun {k o} h => (hb2.block _ (lt_of_block h)).trans h
  have H2 := Aside0.mk (And.intro (H1.out.1.trans (hb2.mono H1.out.1.size)) (And.intro (mv H1.out.2.1) (And.intro (mv H1.out.2.2.1) (And.intro (mv H1.out.2.2.2.1) (show w.heap.size + 3 ≤ w2.heap.size by have := H1.out.2.2.2.2; have := hb2.size; omega)))))
  clear hb2 mv H1 HQ1 cv0 cv1 cv2 cv3 cv4 zv0 zv1 zv2 zv3 zv4
  go_wp2_with fail
  have BW : Aside0 (Below w2.heap.size w2 w2.drew) := ⟨(Below.refl _ _).drew⟩
  refine start_ (n := 17) (S := fun w' => True) (ds := []) #[false, false, false, false, false, false, false, false, false, false, false, false, false, false, false, false, false] (by kernel_rfl) rfl rfl trivial (fun hHeld => ?_)
  refine with_tabW (T := iset3.T) (B := iset3.B) iset3.tab iset3.bits (fun HT_ HW_ => ?_)
  refine pure_ (i := 1) (N := some 27) (v := ?_) (a' := ?_) #[false, true, false, false, false, false, false, false, false, false, false, false, false, false, false, false, false] rfl rfl (any_of HT_.out (by kernel_rfl)) (fun _ _ _ h => h) (Or.inl ⟨by rfl, ?_⟩) ?_ ?_
  rotate_left
  · intro w'
    go_simp
    with_reducible rfl
  rotate_left
  · simp only [Act.put, List.setIfInBounds_toArray, List.set_cons_zero, List.set_cons_succ, i64_w, i32_w]
    rfl
  refine inv_at [0, 2, 3, 4, 5, 6, 7, 8, 9, 10, 11, 12, 13, 14, 15, 16] (fun a0_ b a w' => ∃ (rv : Nat) (vb : Nat) (g6 : Nat) (lo : Nat) (hi : Nat) (p12 : Nat) (p13 : Nat) (B3 : Option Addr) (d3 : Nat) (B4 : Option Addr) (d4 : Nat) (E3 : Option Addr) (f3 : Nat) (E4 : Option Addr) (f4 : Nat) (m3_ : Value) (m4_ : Value) (m5_ : Value) (m6_ : Value) (m7_ : Value) (m8_ : Value) (m9_ : Value) (m10_ : Value) (m12_ : Value) (m13_ : Value), a = putSel a0_ b [(0, 26, nodeV x A3 c3 A4 c4), (2, 28, nodeV v V3 e3 V4 e4), (3, 29, m3_), (4, 30, m4_), (5, 31, m5_), (6, 32, m6_), (7, 33, m7_), (8, 25, m8_), (9, 34, m9_), (10, 35, m10_), (11, 36, .bool true), (12, 8, m12_), (13, 9, m13_), (16, 10, .bool true)] ∧ (Below w2.heap.size w2 w') ∧ (b 3 = true → b 7 = false → RN w' rv vb ∧ ∃ Fv : Nat → Prop, YN w' Fv vb (toY 6 v)) ∧ (b 6 = true → b 7 = false → w'.heap[g6]? = some (.cells #[.iface 84 (.agg (fsc nm (ptr rv)))] 134 (0, 0))) ∧ (b 7 = true → lo ≤ hi ∧ hi ≤ w'.heap.size ∧ w2.heap.size ≤ lo ∧ k25.M w' 0 (fun k => lo ≤ k ∧ k < hi) (wi x nm v) [.int .i64 (wi x nm v).f0, .string (wi x nm v).f1, .string (wi x nm v).f2, .slice E3 (wi x nm v).f3.length f3, .slice E4 (wi x nm v).f4.length f4]) ∧ (b 12 = true → b 14 = false → w'.heap[p12]? = some (.cells #[.int .i64 0, .string ⟨#[]⟩, .string ⟨#[]⟩, .slice none 0 0, .slice none 0 0] 25 (0, 0)) ∧ w2.heap.size ≤ p12) ∧ (b 13 = true → b 15 = false → w'.heap[p13]? = some (.cells #[.int .i64 0, .string ⟨#[]⟩, .string ⟨#[]⟩, .slice none 0 0, .slice none 0 0] 25 (0, 0)) ∧ w2.heap.size ≤ p13) ∧ (b 7 = true → b 12 = true → p12 < lo ∨ hi ≤ p12) ∧ (b 7 = true → b 13 = true → p13 < lo ∨ hi ≤ p13) ∧ (b 12 = true → b 13 = true → p12 ≠ p13) ∧ (b 15 = true → w'.heap[p13]? = some (.cells #[.int .i64 (wi x nm v).f0, .string (wi x nm v).f1, .string (wi x nm v).f2, .slice E3 (wi x nm v).f3.length f3, .slice E4 (wi x nm v).f4.length f4] 25 (0, 0)) ∧ w2.heap.size ≤ p13) ∧ (b 3 = true → (m3_ : Value) = ptr rv) ∧ (b 4 = true → (m4_ : Value) = .agg (fsc nm (ptr rv))) ∧ (b 5 = true → (m5_ : Value) = .iface 84 (.agg (fsc nm (ptr rv)))) ∧ (b 6 = true → (m6_ : Value) = .slice (some ⟨g6, 0, none⟩) 1 1) ∧ (b 7 = true → (m7_ : Value) = .tuple #[nodeV v B3 d3 B4 d4, nodeV (wi x nm v) E3 f3 E4 f4, .bool true]) ∧ (b 8 = true → (m8_ : Value) = .tuple #[nodeV v B3 d3 B4 d4, nodeV (wi x nm v) E3 f3 E4 f4, .bool true]) ∧ (b 9 = true → (m9_ : Value) = nodeV v B3 d3 B4 d4) ∧ (b 10 = true → (m10_ : Value) = nodeV (wi x nm v) E3 f3 E4 f4) ∧ (b 12 = true → (m12_ : Value) = .pointer (some ⟨p12, 0, none⟩)) ∧ (b 13 = true → (m13_ : Value) = .pointer (some ⟨p13, 0, none⟩))) HT_.out HW_.out (by kernel_rfl) (by kernel_rfl) ?_ ?_ ?_
  · exact ⟨0, 0, 0, 0, 0, 0, 0, none, 0, none, 0, none, 0, none, 0, .bool false, .bool false, .bool false, .bool false, .bool false, .bool false, .bool false, .bool false, .bool false, .bool false, by simp only [putSel, Bool.false_eq_true, if_false], BW.out, fun h_ => absurd h_ (by decide), fun h_ => absurd h_ (by decide), fun h_ => absurd h_ (by decide), fun h_ => absurd h_ (by decide), fun h_ => absurd h_ (by decide), fun h_ => absurd h_ (by decide), fun h_ => absurd h_ (by decide), fun h_ => absurd h_ (by decide), fun h_ => absurd h_ (by decide), fun h_ => absurd h_ (by decide), fun h_ => absurd h_ (by decide), fun h_ => absurd h_ (by decide), fun h_ => absurd h_ (by decide), fun h_ => absurd h_ (by decide), fun h_ => absurd h_ (by decide), fun h_ => absurd h_ (by decide), fun h_ => absurd h_ (by decide), fun h_ => absurd h_ (by decide), fun h_ => absurd h_ (by decide)⟩
  · skip
    clear BW
    refine steps_cons ?_ ?_
    · rintro b a w' ⟨rv, vb, g6, lo, hi, p12, p13, B3, d3, B4, d4, E3, f3, E4, f4, m3_, m4_, m5_, m6_, m7_, m8_, m9_, m10_, m12_, m13_, ha, Q_BW, Q_R3, Q_B6, Q_M7, Q_P12, Q_P13, Q_D12, Q_D13, Q_DP, Q_PX, Q_X3_, Q_X4_, Q_X5_, Q_X6_, Q_X7_, Q_X8_, Q_X9_, Q_X10_, Q_X12_, Q_X13_⟩ hb_ hon hoff
      refine ⟨_, rfl, fun K hK => ?_⟩
      have e3 : a.tmps[3]? = some (.pointer (some ⟨w.heap.size, 0, none⟩)) := by rw [ha]; exact (putSel_off rfl).trans rfl
      replace ha := Aside0.mk ha
      have BW := Aside0.mk Q_BW
      have HQ := Aside0.mk ((BW.out.block _ (lt_of_block H2.out.2.1)).trans H2.out.2.1)
      have cv0 := (cell_of_block (i := 0) HQ.out).trans (show _ = some _ from rfl); have cv1 := (cell_of_block (i := 1) HQ.out).trans (show _ = some _ from rfl); have cv2 := (cell_of_block (i := 2) HQ.out).trans (show _ = some _ from rfl); have cv3 := (cell_of_block (i := 3) HQ.out).trans (show _ = some _ from rfl); have cv4 := (cell_of_block (i := 4) HQ.out).trans (show _ = some _ from rfl); have zv0 := frozen_of_block (i := 0) HQ.out; have zv1 := frozen_of_block (i := 1) HQ.out; have zv2 := frozen_of_block (i := 2) HQ.out; have zv3 := frozen_of_block (i := 3) HQ.out; have zv4 := frozen_of_block (i := 4) HQ.out
      refine value_ (w1 := w') (v := nodeV x A3 c3 A4 c4) (by rfl) rfl ?_ ?_
      · go_simp
        (try simp only [i64_w])
        try rfl
      refine hK.out _ _ ⟨rv, vb, g6, lo, hi, p12, p13, B3, d3, B4, d4, E3, f3, E4, f4, m3_, m4_, m5_, m6_, m7_, m8_, m9_, m10_, m12_, m13_, (by rw [ha.out]; exact putSel_upk 0 hb_ rfl rfl rfl), Q_BW, Q_R3, Q_B6, fun h0_ => absurd ((hoff 7 (by kernel_rfl)).symm.trans h0_) (by decide), Q_P12, Q_P13, fun h0_ _ => absurd ((hoff 7 (by kernel_rfl)).symm.trans h0_) (by decide), fun h0_ _ => absurd ((hoff 7 (by kernel_rfl)).symm.trans h0_) (by decide), Q_DP, fun h0_ => absurd ((hoff 15 (by kernel_rfl)).symm.trans h0_) (by decide), Q_X3_, Q_X4_, Q_X5_, Q_X6_, fun h0_ => absurd ((hoff 7 (by kernel_rfl)).symm.trans h0_) (by decide), fun h0_ => absurd ((hoff 8 (by kernel_rfl)).symm.trans h0_) (by decide), fun h0_ => absurd ((hoff 9 (by kernel_rfl)).symm.trans h0_) (by decide), fun h0_ => absurd ((hoff 10 (by kernel_rfl)).symm.trans h0_) (by decide), Q_X12_, Q_X13_⟩
    refine steps_cons ?_ ?_
    · rintro b a w' ⟨rv, vb, g6, lo, hi, p12, p13, B3, d3, B4, d4, E3, f3, E4, f4, m3_, m4_, m5_, m6_, m7_, m8_, m9_, m10_, m12_, m13_, ha, Q_BW, Q_R3, Q_B6, Q_M7, Q_P12, Q_P13, Q_D12, Q_D13, Q_DP, Q_PX, Q_X3_, Q_X4_, Q_X5_, Q_X6_, Q_X7_, Q_X8_, Q_X9_, Q_X10_, Q_X12_, Q_X13_⟩ hb_ hon hoff
      refine ⟨_, rfl, fun K hK => ?_⟩
      have e5 : a.tmps[5]? = some (.pointer (some ⟨w.heap.size + 1, 0, none⟩)) := by rw [ha]; exact (putSel_off rfl).trans rfl
      replace ha := Aside0.mk ha
      have BW := Aside0.mk Q_BW
      have HQ := Aside0.mk ((BW.out.block _ (lt_of_block H2.out.2.2.1)).trans H2.out.2.2.1)
      have cv0 := (cell_of_block (i := 0) HQ.out).trans (show _ = some _ from rfl); have cv1 := (cell_of_block (i := 1) HQ.out).trans (show _ = some _ from rfl); have cv2 := (cell_of_block (i := 2) HQ.out).trans (show _ = some _ from rfl); have cv3 := (cell_of_block (i := 3) HQ.out).trans (show _ = some _ from rfl); have cv4 := (cell_of_block (i := 4) HQ.out).trans (show _ = some _ from rfl); have zv0 := frozen_of_block (i := 0) HQ.out; have zv1 := frozen_of_block (i := 1) HQ.out; have zv2 := frozen_of_block (i := 2) HQ.out; have zv3 := frozen_of_block (i := 3) HQ.out; have zv4 := frozen_of_block (i := 4) HQ.out
      refine value_ (w1 := w') (v := nodeV v V3 e3 V4 e4) (by rfl) rfl ?_ ?_
      · go_simp
        (try simp only [i64_w])
        try rfl
      refine hK.out _ _ ⟨rv, vb, g6, lo, hi, p12, p13, B3, d3, B4, d4, E3, f3, E4, f4, m3_, m4_, m5_, m6_, m7_, m8_, m9_, m10_, m12_, m13_, (by rw [ha.out]; exact putSel_upk 1 hb_ rfl rfl rfl), Q_BW, fun h0_ _ => absurd ((hoff 3 (by kernel_rfl)).symm.trans h0_) (by decide), fun h0_ _ => absurd ((hoff 6 (by kernel_rfl)).symm.trans h0_) (by decide), fun h0_ => absurd ((hoff 7 (by kernel_rfl)).symm.trans h0_) (by decide), Q_P12, Q_P13, fun h0_ _ => absurd ((hoff 7 (by kernel_rfl)).symm.trans h0_) (by decide), fun h0_ _ => absurd ((hoff 7 (by kernel_rfl)).symm.trans h0_) (by decide), Q_DP, fun h0_ => absurd ((hoff 15 (by kernel_rfl)).symm.trans h0_) (by decide), fun h0_ => absurd ((hoff 3 (by kernel_rfl)).symm.trans h0_) (by decide), fun h0_ => absurd ((hoff 4 (by kernel_rfl)).symm.trans h0_) (by decide), fun h0_ => absurd ((hoff 5 (by kernel_rfl)).symm.trans h0_) (by decide), fun h0_ => absurd ((hoff 6 (by kernel_rfl)).symm.trans h0_) (by decide), fun h0_ => absurd ((hoff 7 (by kernel_rfl)).symm.trans h0_) (by decide), fun h0_ => absurd ((hoff 8 (by kernel_rfl)).symm.trans h0_) (by decide), fun h0_ => absurd ((hoff 9 (by kernel_rfl)).symm.trans h0_) (by decide), fun h0_ => absurd ((hoff 10 (by kernel_rfl)).symm.trans h0_) (by decide), Q_X12_, Q_X13_⟩
    refine steps_cons ?_ ?_
    · rintro b a w' ⟨rv, vb, g6, lo, hi, p12, p13, B3, d3, B4, d4, E3, f3, E4, f4, m3_, m4_, m5_, m6_, m7_, m8_, m9_, m10_, m12_, m13_, ha, Q_BW, Q_R3, Q_B6, Q_M7, Q_P12, Q_P13, Q_D12, Q_D13, Q_DP, Q_PX, Q_X3_, Q_X4_, Q_X5_, Q_X6_, Q_X7_, Q_X8_, Q_X9_, Q_X10_, Q_X12_, Q_X13_⟩ hb_ hon hoff
      refine ⟨_, rfl, fun K hK => ?_⟩
      have e28 : a.tmps[28]? = some (nodeV v V3 e3 V4 e4) := by rw [ha]; exact putSel_on (e := (2, 28, nodeV v V3 e3 V4 e4)) 1 rfl rfl (hon 2 (by kernel_rfl)) rfl
      replace ha := Aside0.mk ha
      have BW := Aside0.mk Q_BW
      refine goes_ Try.func37 (by kernel_rfl) rfl #[nodeV v V3 e3 V4 e4] (by rfl) rfl rfl (by first | (simp only [List.map_toArray, List.map_cons, List.map_nil, Act.eval, Array.getD_eq_getD_getElem?, Option.getD_some, e28]; done) | (simp only [List.map_toArray, List.map_cons, List.map_nil, Act.eval, Array.getD_eq_getD_getElem?, Option.getD_some, e28]; rfl)) ?_
      have hbw : Below w.heap.size w w' := H2.out.1.trans (BW.out.mono H2.out.1.size)
      refine (rnodeOf_calls 6 v w' _ (k25.K_below hbw HK.out.2) (HX.out.2.2.1.1.sh HX.out.2.2.1.2)).mono ?_
      rintro e w3 ⟨rvn, vbn, rfl, hr, hrl, hy, hb3⟩
      refine ⟨_, rfl, ?_⟩
      refine hK.out _ _ ⟨rvn, vbn, g6, lo, hi, p12, p13, B3, d3, B4, d4, E3, f3, E4, f4, (ptr rvn), m4_, m5_, m6_, m7_, m8_, m9_, m10_, m12_, m13_, (by rw [ha.out]; exact putSel_upk 2 hb_ rfl rfl rfl), BW.out.trans (hb3.mono BW.out.size), fun _ _ => ⟨hr, _, hy⟩, fun h0_ _ => absurd ((hoff 6 (by kernel_rfl)).symm.trans h0_) (by decide), fun h0_ => absurd ((hoff 7 (by kernel_rfl)).symm.trans h0_) (by decide), fun h0_ h1_ => ⟨(hb3.block _ (lt_of_block (Q_P12 h0_ h1_).1)).trans (Q_P12 h0_ h1_).1, (Q_P12 h0_ h1_).2⟩, fun h0_ h1_ => ⟨(hb3.block _ (lt_of_block (Q_P13 h0_ h1_).1)).trans (Q_P13 h0_ h1_).1, (Q_P13 h0_ h1_).2⟩, fun h0_ _ => absurd ((hoff 7 (by kernel_rfl)).symm.trans h0_) (by decide), fun h0_ _ => absurd ((hoff 7 (by kernel_rfl)).symm.trans h0_) (by decide), Q_DP, fun h0_ => absurd ((hoff 15 (by kernel_rfl)).symm.trans h0_) (by decide), fun _ => rfl, fun h0_ => absurd ((hoff 4 (by kernel_rfl)).symm.trans h0_) (by decide), fun h0_ => absurd ((hoff 5 (by kernel_rfl)).symm.trans h0_) (by decide), fun h0_ => absurd ((hoff 6 (by kernel_rfl)).symm.trans h0_) (by decide), fun h0_ => absurd ((hoff 7 (by kernel_rfl)).symm.trans h0_) (by decide), fun h0_ => absurd ((hoff 8 (by kernel_rfl)).symm.trans h0_) (by decide), fun h0_ => absurd ((hoff 9 (by kernel_rfl)).symm.trans h0_) (by decide), fun h0_ => absurd ((hoff 10 (by kernel_rfl)).symm.trans h0_) (by decide), Q_X12_, Q_X13_⟩
    refine steps_cons ?_ ?_
    · rintro b a w' ⟨rv, vb, g6, lo, hi, p12, p13, B3, d3, B4, d4, E3, f3, E4, f4, m3_, m4_, m5_, m6_, m7_, m8_, m9_, m10_, m12_, m13_, ha, Q_BW, Q_R3, Q_B6, Q_M7, Q_P12, Q_P13, Q_D12, Q_D13, Q_DP, Q_PX, Q_X3_, Q_X4_, Q_X5_, Q_X6_, Q_X7_, Q_X8_, Q_X9_, Q_X10_, Q_X12_, Q_X13_⟩ hb_ hon hoff
      refine ⟨_, rfl, fun K hK => ?_⟩
      have e27 : a.tmps[27]? = some (.string nm) := by rw [ha]; exact (putSel_off rfl).trans rfl
      have e29 : a.tmps[29]? = some (m3_) := by rw [ha]; exact putSel_on (e := (3, 29, m3_)) 2 rfl rfl (hon 3 (by kernel_rfl)) rfl
      rw [Q_X3_ (hon 3 (by kernel_rfl))] at e29
      replace ha := Aside0.mk ha
      have BW := Aside0.mk Q_BW
      have R3 := Aside0.mk (Q_R3 (hon 3 (by kernel_rfl)) (hoff 7 (by kernel_rfl)))
      refine goes_ Try.func52 (by kernel_rfl) rfl #[.string nm, ptr rv] (by rfl) rfl rfl (by first | (simp only [List.map_toArray, List.map_cons, List.map_nil, Act.eval, Array.getD_eq_getD_getElem?, Option.getD_some, e27, e29]; done) | (simp only [List.map_toArray, List.map_cons, List.map_nil, Act.eval, Array.getD_eq_getD_getElem?, Option.getD_some, e27, e29]; rfl)) ?_
      refine (setfield_calls nm rv w').mono ?_
      rintro e w3 ⟨rfl, hb3⟩
      refine ⟨_, rfl, ?_⟩
      refine hK.out _ _ ⟨rv, vb, g6, lo, hi, p12, p13, B3, d3, B4, d4, E3, f3, E4, f4, m3_, (.agg (fsc nm (ptr rv))), m5_, m6_, m7_, m8_, m9_, m10_, m12_, m13_, (by rw [ha.out]; exact putSel_upk 3 hb_ rfl rfl rfl), BW.out.trans (hb3.mono BW.out.size), fun _ _ => ⟨R3.out.1.below hb3, by obtain ⟨Fv, h⟩ := R3.out.2; exact ⟨Fv, h.below hb3⟩⟩, fun h0_ _ => absurd ((hoff 6 (by kernel_rfl)).symm.trans h0_) (by decide), fun h0_ => absurd ((hoff 7 (by kernel_rfl)).symm.trans h0_) (by decide), fun h0_ h1_ => ⟨(hb3.block _ (lt_of_block (Q_P12 h0_ h1_).1)).trans (Q_P12 h0_ h1_).1, (Q_P12 h0_ h1_).2⟩, fun h0_ h1_ => ⟨(hb3.block _ (lt_of_block (Q_P13 h0_ h1_).1)).trans (Q_P13 h0_ h1_).1, (Q_P13 h0_ h1_).2⟩, fun h0_ _ => absurd ((hoff 7 (by kernel_rfl)).symm.trans h0_) (by decide), fun h0_ _ => absurd ((hoff 7 (by kernel_rfl)).symm.trans h0_) (by decide), Q_DP, fun h0_ => absurd ((hoff 15 (by kernel_rfl)).symm.trans h0_) (by decide), Q_X3_, fun _ => rfl, fun h0_ => absurd ((hoff 5 (by kernel_rfl)).symm.trans h0_) (by decide), fun h0_ => absurd ((hoff 6 (by kernel_rfl)).symm.trans h0_) (by decide), fun h0_ => absurd ((hoff 7 (by kernel_rfl)).symm.trans h0_) (by decide), fun h0_ => absurd ((hoff 8 (by kernel_rfl)).symm.trans h0_) (by decide), fun h0_ => absurd ((hoff 9 (by kernel_rfl)).symm.trans h0_) (by decide), fun h0_ => absurd ((hoff 10 (by kernel_rfl)).symm.trans h0_) (by decide), Q_X12_, Q_X13_⟩
    refine steps_cons ?_ ?_
    · rintro b a w' ⟨rv, vb, g6, lo, hi, p12, p13, B3, d3, B4, d4, E3, f3, E4, f4, m3_, m4_, m5_, m6_, m7_, m8_, m9_, m10_, m12_, m13_, ha, Q_BW, Q_R3, Q_B6, Q_M7, Q_P12, Q_P13, Q_D12, Q_D13, Q_DP, Q_PX, Q_X3_, Q_X4_, Q_X5_, Q_X6_, Q_X7_, Q_X8_, Q_X9_, Q_X10_, Q_X12_, Q_X13_⟩ hb_ hon hoff
      refine ⟨_, rfl, fun K hK => ?_⟩
      have e30 : a.tmps[30]? = some (m4_) := by rw [ha]; exact putSel_on (e := (4, 30, m4_)) 3 rfl rfl (hon 4 (by kernel_rfl)) rfl
      rw [Q_X4_ (hon 4 (by kernel_rfl))] at e30
      replace ha := Aside0.mk ha
      have BW := Aside0.mk Q_BW
      have R3 := Aside0.mk (Q_R3 (hon 3 (by kernel_rfl)) (hoff 7 (by kernel_rfl)))
      refine value_ (w1 := w') (v := .iface 84 (.agg (fsc nm (ptr rv)))) (by rfl) rfl ?_ ?_
      · go_simp
        (try simp only [i64_w])
        try rfl
      refine hK.out _ _ ⟨rv, vb, g6, lo, hi, p12, p13, B3, d3, B4, d4, E3, f3, E4, f4, m3_, m4_, (.iface 84 (.agg (fsc nm (ptr rv)))), m6_, m7_, m8_, m9_, m10_, m12_, m13_, (by rw [ha.out]; exact putSel_upk 4 hb_ rfl rfl rfl), Q_BW, Q_R3, fun h0_ _ => absurd ((hoff 6 (by kernel_rfl)).symm.trans h0_) (by decide), fun h0_ => absurd ((hoff 7 (by kernel_rfl)).symm.trans h0_) (by decide), Q_P12, Q_P13, fun h0_ _ => absurd ((hoff 7 (by kernel_rfl)).symm.trans h0_) (by decide), fun h0_ _ => absurd ((hoff 7 (by kernel_rfl)).symm.trans h0_) (by decide), Q_DP, fun h0_ => absurd ((hoff 15 (by kernel_rfl)).symm.trans h0_) (by decide), Q_X3_, Q_X4_, fun _ => rfl, fun h0_ => absurd ((hoff 6 (by kernel_rfl)).symm.trans h0_) (by decide), fun h0_ => absurd ((hoff 7 (by kernel_rfl)).symm.trans h0_) (by decide), fun h0_ => absurd ((hoff 8 (by kernel_rfl)).symm.trans h0_) (by decide), fun h0_ => absurd ((hoff 9 (by kernel_rfl)).symm.trans h0_) (by decide), fun h0_ => absurd ((hoff 10 (by kernel_rfl)).symm.trans h0_) (by decide), Q_X12_, Q_X13_⟩
    refine steps_cons ?_ ?_
    · rintro b a w' ⟨rv, vb, g6, lo, hi, p12, p13, B3, d3, B4, d4, E3, f3, E4, f4, m3_, m4_, m5_, m6_, m7_, m8_, m9_, m10_, m12_, m13_, ha, Q_BW, Q_R3, Q_B6, Q_M7, Q_P12, Q_P13, Q_D12, Q_D13, Q_DP, Q_PX, Q_X3_, Q_X4_, Q_X5_, Q_X6_, Q_X7_, Q_X8_, Q_X9_, Q_X10_, Q_X12_, Q_X13_⟩ hb_ hon hoff
      refine ⟨_, rfl, fun K hK => ?_⟩
      have e31 : a.tmps[31]? = some (m5_) := by rw [ha]; exact putSel_on (e := (5, 31, m5_)) 4 rfl rfl (hon 5 (by kernel_rfl)) rfl
      rw [Q_X5_ (hon 5 (by kernel_rfl))] at e31
      replace ha := Aside0.mk ha
      have BW := Aside0.mk Q_BW
      have R3 := Aside0.mk (Q_R3 (hon 3 (by kernel_rfl)) (hoff 7 (by kernel_rfl)))
      have hb3 : Below w'.heap.size w' (w'.alloc (.cells #[.iface 84 (.agg (fsc nm (ptr rv)))] 134)) := (Below.refl _ _).alloc (Nat.le_refl _) _
      have hn3 : (w'.alloc (.cells #[.iface 84 (.agg (fsc nm (ptr rv)))] 134)).heap[w'.heap.size]? = some (.cells #[.iface 84 (.agg (fsc nm (ptr rv)))] 134 (0, 0)) := heap_at _ rfl
      refine value_ (w1 := w'.alloc (.cells #[.iface 84 (.agg (fsc nm (ptr rv)))] 134)) (v := .slice (some ⟨w'.heap.size, 0, none⟩) 1 1) (by rfl) rfl ?_ ?_
      · go_simp
      refine hK.out _ _ ⟨rv, vb, w'.heap.size, lo, hi, p12, p13, B3, d3, B4, d4, E3, f3, E4, f4, m3_, m4_, m5_, (.slice (some ⟨w'.heap.size, 0, none⟩) 1 1), m7_, m8_, m9_, m10_, m12_, m13_, (by rw [ha.out]; exact putSel_upk 5 hb_ rfl rfl rfl), BW.out.trans (hb3.mono BW.out.size), fun _ _ => ⟨R3.out.1.below hb3, by obtain ⟨Fv, h⟩ := R3.out.2; exact ⟨Fv, h.below hb3⟩⟩, fun _ _ => hn3, fun h0_ => absurd ((hoff 7 (by kernel_rfl)).symm.trans h0_) (by decide), fun h0_ h1_ => ⟨(hb3.block _ (lt_of_block (Q_P12 h0_ h1_).1)).trans (Q_P12 h0_ h1_).1, (Q_P12 h0_ h1_).2⟩, fun h0_ h1_ => ⟨(hb3.block _ (lt_of_block (Q_P13 h0_ h1_).1)).trans (Q_P13 h0_ h1_).1, (Q_P13 h0_ h1_).2⟩, fun h0_ _ => absurd ((hoff 7 (by kernel_rfl)).symm.trans h0_) (by decide), fun h0_ _ => absurd ((hoff 7 (by kernel_rfl)).symm.trans h0_) (by decide), Q_DP, fun h0_ => absurd ((hoff 15 (by kernel_rfl)).symm.trans h0_) (by decide), Q_X3_, Q_X4_, Q_X5_, fun _ => rfl, fun h0_ => absurd ((hoff 7 (by kernel_rfl)).symm.trans h0_) (by decide), fun h0_ => absurd ((hoff 8 (by kernel_rfl)).symm.trans h0_) (by decide), fun h0_ => absurd ((hoff 9 (by kernel_rfl)).symm.trans h0_) (by decide), fun h0_ => absurd ((hoff 10 (by kernel_rfl)).symm.trans h0_) (by decide), Q_X12_, Q_X13_⟩
    refine steps_cons ?_ ?_
    · rintro b a w' ⟨rv, vb, g6, lo, hi, p12, p13, B3, d3, B4, d4, E3, f3, E4, f4, m3_, m4_, m5_, m6_, m7_, m8_, m9_, m10_, m12_, m13_, ha, Q_BW, Q_R3, Q_B6, Q_M7, Q_P12, Q_P13, Q_D12, Q_D13, Q_DP, Q_PX, Q_X3_, Q_X4_, Q_X5_, Q_X6_, Q_X7_, Q_X8_, Q_X9_, Q_X10_, Q_X12_, Q_X13_⟩ hb_ hon hoff
      refine ⟨_, rfl, fun K hK => ?_⟩
      have e26 : a.tmps[26]? = some (nodeV x A3 c3 A4 c4) := by rw [ha]; exact putSel_on (e := (0, 26, nodeV x A3 c3 A4 c4)) 0 rfl rfl (hon 0 (by kernel_rfl)) rfl
      have e32 : a.tmps[32]? = some (m6_) := by rw [ha]; exact putSel_on (e := (6, 32, m6_)) 5 rfl rfl (hon 6 (by kernel_rfl)) rfl
      rw [Q_X6_ (hon 6 (by kernel_rfl))] at e32
      replace ha := Aside0.mk ha
      have BW := Aside0.mk Q_BW
      have R3 := Aside0.mk (Q_R3 (hon 3 (by kernel_rfl)) hb_)
      have B6 := Aside0.mk (Q_B6 (hon 6 (by kernel_rfl)) hb_)
      refine goes_ Try.func49 (by kernel_rfl) rfl #[nodeV x A3 c3 A4 c4, .slice (some ⟨g6, 0, none⟩) 1 1] (by rfl) rfl rfl (by first | (simp only [List.map_toArray, List.map_cons, List.map_nil, Act.eval, Array.getD_eq_getD_getElem?, Option.getD_some, e26, e32]; done) | (simp only [List.map_toArray, List.map_cons, List.map_nil, Act.eval, Array.getD_eq_getD_getElem?, Option.getD_some, e26, e32]; rfl)) ?_
      have hbw : Below w.heap.size w w' := H2.out.1.trans (BW.out.mono H2.out.1.size)
      obtain ⟨hr3, Fv, hy3⟩ := R3.out
      refine (piped_calls x v (wi x nm v) HX.out.1 w' g6 1 A3 c3 A4 c4 84 _ _ 118 (set_method nm (ptr rv)) (fun xs wa => enters_ Try.func118 rfl rfl xs wa) (by rw [cell_of_block B6.out]; rfl) (k25.K_below hbw HK.out.1) (set_does x v HX.out.1 HX.out.2.1 HX.out.2.2.1 nm HX.out.2.2.2 w' rv vb Fv hr3 hy3)).mono ?_
      rintro e w3 ⟨B3n, d3n, B4n, d4n, E3n, f3n, E4n, f4n, rfl, m1, m2, hb3⟩
      refine ⟨_, rfl, ?_⟩
      refine hK.out _ _ ⟨rv, vb, g6, w'.heap.size, w3.heap.size, p12, p13, B3n, d3n, B4n, d4n, E3n, f3n, E4n, f4n, m3_, m4_, m5_, m6_, (.tuple #[nodeV v B3n d3n B4n d4n, nodeV (wi x nm v) E3n f3n E4n f4n, .bool true]), m8_, m9_, m10_, m12_, m13_, (by rw [ha.out]; exact putSel_upk 6 hb_ rfl rfl rfl), BW.out.trans (hb3.mono BW.out.size), fun _ h1_ => absurd ((up_self b 7).symm.trans h1_) (by decide), fun _ h1_ => absurd ((up_self b 7).symm.trans h1_) (by decide), fun _ => ⟨hb3.size, Nat.le_refl _, BW.out.size, M_span m2 rfl⟩, fun h0_ h1_ => ⟨(hb3.block _ (lt_of_block (Q_P12 h0_ h1_).1)).trans (Q_P12 h0_ h1_).1, (Q_P12 h0_ h1_).2⟩, fun h0_ h1_ => ⟨(hb3.block _ (lt_of_block (Q_P13 h0_ h1_).1)).trans (Q_P13 h0_ h1_).1, (Q_P13 h0_ h1_).2⟩, fun _ _ => (by rename_i q7 q12; exact .inl (lt_of_block (Q_P12 q12 (hoff 14 (by kernel_rfl))).1)), fun _ _ => (by rename_i q7 q13; exact .inl (lt_of_block (Q_P13 q13 (hoff 15 (by kernel_rfl))).1)), Q_DP, fun h0_ => absurd ((hoff 15 (by kernel_rfl)).symm.trans h0_) (by decide), Q_X3_, Q_X4_, Q_X5_, Q_X6_, fun _ => rfl, fun h0_ => absurd ((hoff 8 (by kernel_rfl)).symm.trans h0_) (by decide), fun h0_ => absurd ((hoff 9 (by kernel_rfl)).symm.trans h0_) (by decide), fun h0_ => absurd ((hoff 10 (by kernel_rfl)).symm.trans h0_) (by decide), Q_X12_, Q_X13_⟩
    refine steps_cons ?_ ?_
    · rintro b a w' ⟨rv, vb, g6, lo, hi, p12, p13, B3, d3, B4, d4, E3, f3, E4, f4, m3_, m4_, m5_, m6_, m7_, m8_, m9_, m10_, m12_, m13_, ha, Q_BW, Q_R3, Q_B6, Q_M7, Q_P12, Q_P13, Q_D12, Q_D13, Q_DP, Q_PX, Q_X3_, Q_X4_, Q_X5_, Q_X6_, Q_X7_, Q_X8_, Q_X9_, Q_X10_, Q_X12_, Q_X13_⟩ hb_ hon hoff
      refine ⟨_, rfl, fun K hK => ?_⟩
      have e33 : a.tmps[33]? = some (m7_) := by rw [ha]; exact putSel_on (e := (7, 33, m7_)) 6 rfl rfl (hon 7 (by kernel_rfl)) rfl
      rw [Q_X7_ (hon 7 (by kernel_rfl))] at e33
      replace ha := Aside0.mk ha
      have BW := Aside0.mk Q_BW
      have M7 := Aside0.mk (Q_M7 (hon 7 (by kernel_rfl)))
      refine value_ (w1 := w') (v := .tuple #[nodeV v B3 d3 B4 d4, nodeV (wi x nm v) E3 f3 E4 f4, .bool true]) (by rfl) rfl ?_ ?_
      · go_simp
        (try simp only [i64_w])
        try rfl
      refine hK.out _ _ ⟨rv, vb, g6, lo, hi, p12, p13, B3, d3, B4, d4, E3, f3, E4, f4, m3_, m4_, m5_, m6_, m7_, (.tuple #[nodeV v B3 d3 B4 d4, nodeV (wi x nm v) E3 f3 E4 f4, .bool true]), m9_, m10_, m12_, m13_, (by rw [ha.out]; exact putSel_upk 7 hb_ rfl rfl rfl), Q_BW, fun _ h1_ => absurd ((hon 7 (by kernel_rfl)).symm.trans h1_) (by decide), fun _ h1_ => absurd ((hon 7 (by kernel_rfl)).symm.trans h1_) (by decide), Q_M7, Q_P12, Q_P13, Q_D12, Q_D13, Q_DP, fun h0_ => absurd ((hoff 15 (by kernel_rfl)).symm.trans h0_) (by decide), Q_X3_, Q_X4_, Q_X5_, Q_X6_, Q_X7_, fun _ => rfl, fun h0_ => absurd ((hoff 9 (by kernel_rfl)).symm.trans h0_) (by decide), fun h0_ => absurd ((hoff 10 (by kernel_rfl)).symm.trans h0_) (by decide), Q_X12_, Q_X13_⟩
    refine steps_cons ?_ ?_
    · rintro b a w' ⟨rv, vb, g6, lo, hi, p12, p13, B3, d3, B4, d4, E3, f3, E4, f4, m3_, m4_, m5_, m6_, m7_, m8_, m9_, m10_, m12_, m13_, ha, Q_BW, Q_R3, Q_B6, Q_M7, Q_P12, Q_P13, Q_D12, Q_D13, Q_DP, Q_PX, Q_X3_, Q_X4_, Q_X5_, Q_X6_, Q_X7_, Q_X8_, Q_X9_, Q_X10_, Q_X12_, Q_X13_⟩ hb_ hon hoff
      refine ⟨_, rfl, fun K hK => ?_⟩
      have e25 : a.tmps[25]? = some (m8_) := by rw [ha]; exact putSel_on (e := (8, 25, m8_)) 7 rfl rfl (hon 8 (by kernel_rfl)) rfl
      rw [Q_X8_ (hon 8 (by kernel_rfl))] at e25
      replace ha := Aside0.mk ha
      have BW := Aside0.mk Q_BW
      have M7 := Aside0.mk (Q_M7 (hon 7 (by kernel_rfl)))
      refine value_ (w1 := w') (v := nodeV v B3 d3 B4 d4) (by rfl) rfl ?_ ?_
      · go_simp
        (try simp only [i64_w])
        try rfl
      refine hK.out _ _ ⟨rv, vb, g6, lo, hi, p12, p13, B3, d3, B4, d4, E3, f3, E4, f4, m3_, m4_, m5_, m6_, m7_, m8_, (nodeV v B3 d3 B4 d4), m10_, m12_, m13_, (by rw [ha.out]; exact putSel_upk 8 hb_ rfl rfl rfl), Q_BW, fun _ h1_ => absurd ((hon 7 (by kernel_rfl)).symm.trans h1_) (by decide), fun _ h1_ => absurd ((hon 7 (by kernel_rfl)).symm.trans h1_) (by decide), Q_M7, Q_P12, Q_P13, Q_D12, Q_D13, Q_DP, fun h0_ => absurd ((hoff 15 (by kernel_rfl)).symm.trans h0_) (by decide), Q_X3_, Q_X4_, Q_X5_, Q_X6_, Q_X7_, Q_X8_, fun _ => rfl, Q_X10_, Q_X12_, Q_X13_⟩
    refine steps_cons ?_ ?_
    · rintro b a w' ⟨rv, vb, g6, lo, hi, p12, p13, B3, d3, B4, d4, E3, f3, E4, f4, m3_, m4_, m5_, m6_, m7_, m8_, m9_, m10_, m12_, m13_, ha, Q_BW, Q_R3, Q_B6, Q_M7, Q_P12, Q_P13, Q_D12, Q_D13, Q_DP, Q_PX, Q_X3_, Q_X4_, Q_X5_, Q_X6_, Q_X7_, Q_X8_, Q_X9_, Q_X10_, Q_X12_, Q_X13_⟩ hb_ hon hoff
      refine ⟨_, rfl, fun K hK => ?_⟩
      have e25 : a.tmps[25]? = some (m8_) := by rw [ha]; exact putSel_on (e := (8, 25, m8_)) 7 rfl rfl (hon 8 (by kernel_rfl)) rfl
      rw [Q_X8_ (hon 8 (by kernel_rfl))] at e25
      replace ha := Aside0.mk ha
      have BW := Aside0.mk Q_BW
      have M7 := Aside0.mk (Q_M7 (hon 7 (by kernel_rfl)))
      refine value_ (w1 := w') (v := nodeV (wi x nm v) E3 f3 E4 f4) (by rfl) rfl ?_ ?_
      · go_simp
        (try simp only [i64_w])
        try rfl
      refine hK.out _ _ ⟨rv, vb, g6, lo, hi, p12, p13, B3, d3, B4, d4, E3, f3, E4, f4, m3_, m4_, m5_, m6_, m7_, m8_, m9_, (nodeV (wi x nm v) E3 f3 E4 f4), m12_, m13_, (by rw [ha.out]; exact putSel_upk 9 hb_ rfl rfl rfl), Q_BW, fun _ h1_ => absurd ((hon 7 (by kernel_rfl)).symm.trans h1_) (by decide), fun _ h1_ => absurd ((hon 7 (by kernel_rfl)).symm.trans h1_) (by decide), Q_M7, Q_P12, Q_P13, Q_D12, Q_D13, Q_DP, fun h0_ => absurd ((hoff 15 (by kernel_rfl)).symm.trans h0_) (by decide), Q_X3_, Q_X4_, Q_X5_, Q_X6_, Q_X7_, Q_X8_, Q_X9_, fun _ => rfl, Q_X12_, Q_X13_⟩
    refine steps_cons ?_ ?_
    · rintro b a w' ⟨rv, vb, g6, lo, hi, p12, p13, B3, d3, B4, d4, E3, f3, E4, f4, m3_, m4_, m5_, m6_, m7_, m8_, m9_, m10_, m12_, m13_, ha, Q_BW, Q_R3, Q_B6, Q_M7, Q_P12, Q_P13, Q_D12, Q_D13, Q_DP, Q_PX, Q_X3_, Q_X4_, Q_X5_, Q_X6_, Q_X7_, Q_X8_, Q_X9_, Q_X10_, Q_X12_, Q_X13_⟩ hb_ hon hoff
      refine ⟨_, rfl, fun K hK => ?_⟩
      have e25 : a.tmps[25]? = some (m8_) := by rw [ha]; exact putSel_on (e := (8, 25, m8_)) 7 rfl rfl (hon 8 (by kernel_rfl)) rfl
      rw [Q_X8_ (hon 8 (by kernel_rfl))] at e25
      replace ha := Aside0.mk ha
      have BW := Aside0.mk Q_BW
      have M7 := Aside0.mk (Q_M7 (hon 7 (by kernel_rfl)))
      refine value_ (w1 := w') (v := .bool true) (by rfl) rfl ?_ ?_
      · go_simp
        (try simp only [i64_w])
        try rfl
      refine hK.out _ _ ⟨rv, vb, g6, lo, hi, p12, p13, B3, d3, B4, d4, E3, f3, E4, f4, m3_, m4_, m5_, m6_, m7_, m8_, m9_, m10_, m12_, m13_, (by rw [ha.out]; exact putSel_upk 10 hb_ rfl rfl rfl), Q_BW, fun _ h1_ => absurd ((hon 7 (by kernel_rfl)).symm.trans h1_) (by decide), fun _ h1_ => absurd ((hon 7 (by kernel_rfl)).symm.trans h1_) (by decide), Q_M7, Q_P12, Q_P13, Q_D12, Q_D13, Q_DP, Q_PX, Q_X3_, Q_X4_, Q_X5_, Q_X6_, Q_X7_, Q_X8_, Q_X9_, Q_X10_, Q_X12_, Q_X13_⟩
    refine steps_cons ?_ ?_
    · rintro b a w' ⟨rv, vb, g6, lo, hi, p12, p13, B3, d3, B4, d4, E3, f3, E4, f4, m3_, m4_, m5_, m6_, m7_, m8_, m9_, m10_, m12_, m13_, ha, Q_BW, Q_R3, Q_B6, Q_M7, Q_P12, Q_P13, Q_D12, Q_D13, Q_DP, Q_PX, Q_X3_, Q_X4_, Q_X5_, Q_X6_, Q_X7_, Q_X8_, Q_X9_, Q_X10_, Q_X12_, Q_X13_⟩ hb_ hon hoff
      refine ⟨_, rfl, fun K hK => ?_⟩
      replace ha := Aside0.mk ha
      have BW := Aside0.mk Q_BW
      have hb3 : Below w'.heap.size w' (w'.alloc (.cells #[.int .i64 0, .string ⟨#[]⟩, .string ⟨#[]⟩, .slice none 0 0, .slice none 0 0] 25)) := (Below.refl _ _).alloc (Nat.le_refl _) _
      have hn3 : (w'.alloc (.cells #[.int .i64 0, .string ⟨#[]⟩, .string ⟨#[]⟩, .slice none 0 0, .slice none 0 0] 25)).heap[w'.heap.size]? = some (.cells #[.int .i64 0, .string ⟨#[]⟩, .string ⟨#[]⟩, .slice none 0 0, .slice none 0 0] 25 (0, 0)) := heap_at _ rfl
      refine value_ (w1 := w'.alloc (.cells #[.int .i64 0, .string ⟨#[]⟩, .string ⟨#[]⟩, .slice none 0 0, .slice none 0 0] 25)) (v := .pointer (some ⟨w'.heap.size, 0, none⟩)) (by rfl) rfl ?_ ?_
      · go_simp
      refine hK.out _ _ ⟨rv, vb, g6, lo, hi, w'.heap.size, p13, B3, d3, B4, d4, E3, f3, E4, f4, m3_, m4_, m5_, m6_, m7_, m8_, m9_, m10_, (.pointer (some ⟨w'.heap.size, 0, none⟩)), m13_, (by rw [ha.out]; exact putSel_upk 11 hb_ rfl rfl rfl), BW.out.trans (hb3.mono BW.out.size), fun h0_ h1_ => ⟨(Q_R3 h0_ h1_).1.below hb3, by obtain ⟨Fv, h⟩ := (Q_R3 h0_ h1_).2; exact ⟨Fv, h.below hb3⟩⟩, fun h0_ h1_ => (hb3.block _ (lt_of_block (Q_B6 h0_ h1_))).trans (Q_B6 h0_ h1_), fun h0_ => ⟨(Q_M7 h0_).1, Nat.le_trans (Q_M7 h0_).2.1 hb3.size, (Q_M7 h0_).2.2.1, k25.M_move (fun k hk => hb3.block k (Nat.lt_of_lt_of_le hk.2 (Q_M7 h0_).2.1)) (Q_M7 h0_).2.2.2⟩, fun _ _ => ⟨hn3, BW.out.size⟩, fun h0_ h1_ => ⟨(hb3.block _ (lt_of_block (Q_P13 h0_ h1_).1)).trans (Q_P13 h0_ h1_).1, (Q_P13 h0_ h1_).2⟩, fun _ _ => (by rename_i q7 q12; exact .inr (Q_M7 q7).2.1), Q_D13, fun _ _ => (by rename_i q12 q13; have := lt_of_block (Q_P13 q13 (hoff 15 (by kernel_rfl))).1; omega), fun h0_ => absurd ((hoff 15 (by kernel_rfl)).symm.trans h0_) (by decide), Q_X3_, Q_X4_, Q_X5_, Q_X6_, Q_X7_, Q_X8_, Q_X9_, Q_X10_, fun _ => rfl, Q_X13_⟩
    refine steps_cons ?_ ?_
    · rintro b a w' ⟨rv, vb, g6, lo, hi, p12, p13, B3, d3, B4, d4, E3, f3, E4, f4, m3_, m4_, m5_, m6_, m7_, m8_, m9_, m10_, m12_, m13_, ha, Q_BW, Q_R3, Q_B6, Q_M7, Q_P12, Q_P13, Q_D12, Q_D13, Q_DP, Q_PX, Q_X3_, Q_X4_, Q_X5_, Q_X6_, Q_X7_, Q_X8_, Q_X9_, Q_X10_, Q_X12_, Q_X13_⟩ hb_ hon hoff
      refine ⟨_, rfl, fun K hK => ?_⟩
      replace ha := Aside0.mk ha
      have BW := Aside0.mk Q_BW
      have hb3 : Below w'.heap.size w' (w'.alloc (.cells #[.int .i64 0, .string ⟨#[]⟩, .string ⟨#[]⟩, .slice none 0 0, .slice none 0 0] 25)) := (Below.refl _ _).alloc (Nat.le_refl _) _
      have hn3 : (w'.alloc (.cells #[.int .i64 0, .string ⟨#[]⟩, .string ⟨#[]⟩, .slice none 0 0, .slice none 0 0] 25)).heap[w'.heap.size]? = some (.cells #[.int .i64 0, .string ⟨#[]⟩, .string ⟨#[]⟩, .slice none 0 0, .slice none 0 0] 25 (0, 0)) := heap_at _ rfl
      refine value_ (w1 := w'.alloc (.cells #[.int .i64 0, .string ⟨#[]⟩, .string ⟨#[]⟩, .slice none 0 0, .slice none 0 0] 25)) (v := .pointer (some ⟨w'.heap.size, 0, none⟩)) (by rfl) rfl ?_ ?_
      · go_simp
      refine hK.out _ _ ⟨rv, vb, g6, lo, hi, p12, w'.heap.size, B3, d3, B4, d4, E3, f3, E4, f4, m3_, m4_, m5_, m6_, m7_, m8_, m9_, m10_, m12_, (.pointer (some ⟨w'.heap.size, 0, none⟩)), (by rw [ha.out]; exact putSel_upk 12 hb_ rfl rfl rfl), BW.out.trans (hb3.mono BW.out.size), fun h0_ h1_ => ⟨(Q_R3 h0_ h1_).1.below hb3, by obtain ⟨Fv, h⟩ := (Q_R3 h0_ h1_).2; exact ⟨Fv, h.below hb3⟩⟩, fun h0_ h1_ => (hb3.block _ (lt_of_block (Q_B6 h0_ h1_))).trans (Q_B6 h0_ h1_), fun h0_ => ⟨(Q_M7 h0_).1, Nat.le_trans (Q_M7 h0_).2.1 hb3.size, (Q_M7 h0_).2.2.1, k25.M_move (fun k hk => hb3.block k (Nat.lt_of_lt_of_le hk.2 (Q_M7 h0_).2.1)) (Q_M7 h0_).2.2.2⟩, fun h0_ h1_ => ⟨(hb3.block _ (lt_of_block (Q_P12 h0_ h1_).1)).trans (Q_P12 h0_ h1_).1, (Q_P12 h0_ h1_).2⟩, fun _ _ => ⟨hn3, BW.out.size⟩, Q_D12, fun _ _ => (by rename_i q7 q13; exact .inr (Q_M7 q7).2.1), fun _ _ => (by rename_i q12 q13; have := lt_of_block (Q_P12 q12 (hoff 14 (by kernel_rfl))).1; omega), fun h0_ => absurd ((hoff 15 (by kernel_rfl)).symm.trans h0_) (by decide), Q_X3_, Q_X4_, Q_X5_, Q_X6_, Q_X7_, Q_X8_, Q_X9_, Q_X10_, Q_X12_, fun _ => rfl⟩
    refine steps_cons ?_ ?_
    · rintro b a w' ⟨rv, vb, g6, lo, hi, p12, p13, B3, d3, B4, d4, E3, f3, E4, f4, m3_, m4_, m5_, m6_, m7_, m8_, m9_, m10_, m12_, m13_, ha, Q_BW, Q_R3, Q_B6, Q_M7, Q_P12, Q_P13, Q_D12, Q_D13, Q_DP, Q_PX, Q_X3_, Q_X4_, Q_X5_, Q_X6_, Q_X7_, Q_X8_, Q_X9_, Q_X10_, Q_X12_, Q_X13_⟩ hb_ hon hoff
      refine ⟨_, rfl, fun K hK => ?_⟩
      have e8 : a.tmps[8]? = some (m12_) := by rw [ha]; exact putSel_on (e := (12, 8, m12_)) 11 rfl rfl (hon 12 (by kernel_rfl)) rfl
      rw [Q_X12_ (hon 12 (by kernel_rfl))] at e8
      have e34 : a.tmps[34]? = some (m9_) := by rw [ha]; exact putSel_on (e := (9, 34, m9_)) 8 rfl rfl (hon 9 (by kernel_rfl)) rfl
      rw [Q_X9_ (hon 9 (by kernel_rfl))] at e34
      replace ha := Aside0.mk ha
      have BW := Aside0.mk Q_BW
      have M7 := Aside0.mk (Q_M7 (hon 7 (by kernel_rfl)))
      have P12 := Aside0.mk (Q_P12 (hon 12 (by kernel_rfl)) hb_)
      have P13 := Aside0.mk (Q_P13 (hon 13 (by kernel_rfl)) (hoff 15 (by kernel_rfl)))
      have D12 := Aside0.mk (Q_D12 (hon 7 (by kernel_rfl)) (hon 12 (by kernel_rfl)))
      have D13 := Aside0.mk (Q_D13 (hon 7 (by kernel_rfl)) (hon 13 (by kernel_rfl)))
      have DP := Aside0.mk (Q_DP (hon 12 (by kernel_rfl)) (hon 13 (by kernel_rfl)))
      have OA := Aside0.mk P12.out.1
      have cr0 := (cell_of_block (i := 0) OA.out).trans (show _ = some _ from rfl); have cr1 := (cell_of_block (i := 1) OA.out).trans (show _ = some _ from rfl); have cr2 := (cell_of_block (i := 2) OA.out).trans (show _ = some _ from rfl); have cr3 := (cell_of_block (i := 3) OA.out).trans (show _ = some _ from rfl); have cr4 := (cell_of_block (i := 4) OA.out).trans (show _ = some _ from rfl); have zr0 := frozen_of_block (i := 0) OA.out; have zr1 := frozen_of_block (i := 1) OA.out; have zr2 := frozen_of_block (i := 2) OA.out; have zr3 := frozen_of_block (i := 3) OA.out; have zr4 := frozen_of_block (i := 4) OA.out
      rw [if_pos (by rfl)]
      go_simp
      obtain ⟨w5, e5, hf5, hc5⟩ := set5 (v0 := .int .i64 v.f0) (v1 := .string v.f1) (v2 := .string v.f2) (v3 := .slice B3 v.f3.length d3) (v4 := .slice B4 v.f4.length d4) P12.out.1
      rw [e5]
      clear cr0 cr1 cr2 cr3 cr4 zr0 zr1 zr2 zr3 zr4 e5
      refine hK.out _ _ ⟨rv, vb, g6, lo, hi, p12, p13, B3, d3, B4, d4, E3, f3, E4, f4, m3_, m4_, m5_, m6_, m7_, m8_, m9_, m10_, m12_, m13_, (by rw [ha.out]; exact putSel_none (v := undef) rfl), BW.out.trans (hc5.below BW.out.size (fun k e => by have := P12.out.2; have e' : k = p12 := e; omega)), fun _ h1_ => absurd ((hon 7 (by kernel_rfl)).symm.trans h1_) (by decide), fun _ h1_ => absurd ((hon 7 (by kernel_rfl)).symm.trans h1_) (by decide), fun _ => ⟨M7.out.1, Nat.le_trans M7.out.2.1 hc5.size, M7.out.2.2.1, k25.M_move (fun k hk => hc5.block k (Nat.lt_of_lt_of_le hk.2 M7.out.2.1) (fun e => by have := D12.out; have e' : k = p12 := e; omega)) M7.out.2.2.2⟩, fun _ h1_ => absurd ((up_self b 14).symm.trans h1_) (by decide), fun _ _ => ⟨(hc5.block _ (lt_of_block P13.out.1) (fun e => DP.out e.symm)).trans P13.out.1, P13.out.2⟩, Q_D12, Q_D13, Q_DP, fun h0_ => absurd ((hoff 15 (by kernel_rfl)).symm.trans h0_) (by decide), Q_X3_, Q_X4_, Q_X5_, Q_X6_, Q_X7_, Q_X8_, Q_X9_, Q_X10_, Q_X12_, Q_X13_⟩
    refine steps_cons ?_ ?_
    · rintro b a w' ⟨rv, vb, g6, lo, hi, p12, p13, B3, d3, B4, d4, E3, f3, E4, f4, m3_, m4_, m5_, m6_, m7_, m8_, m9_, m10_, m12_, m13_, ha, Q_BW, Q_R3, Q_B6, Q_M7, Q_P12, Q_P13, Q_D12, Q_D13, Q_DP, Q_PX, Q_X3_, Q_X4_, Q_X5_, Q_X6_, Q_X7_, Q_X8_, Q_X9_, Q_X10_, Q_X12_, Q_X13_⟩ hb_ hon hoff
      refine ⟨_, rfl, fun K hK => ?_⟩
      have e9 : a.tmps[9]? = some (m13_) := by rw [ha]; exact putSel_on (e := (13, 9, m13_)) 12 rfl rfl (hon 13 (by kernel_rfl)) rfl
      rw [Q_X13_ (hon 13 (by kernel_rfl))] at e9
      have e35 : a.tmps[35]? = some (m10_) := by rw [ha]; exact putSel_on (e := (10, 35, m10_)) 9 rfl rfl (hon 10 (by kernel_rfl)) rfl
      rw [Q_X10_ (hon 10 (by kernel_rfl))] at e35
      replace ha := Aside0.mk ha
      have BW := Aside0.mk Q_BW
      have M7 := Aside0.mk (Q_M7 (hon 7 (by kernel_rfl)))
      have P13 := Aside0.mk (Q_P13 (hon 13 (by kernel_rfl)) hb_)
      have D12 := Aside0.mk (Q_D12 (hon 7 (by kernel_rfl)) (hon 12 (by kernel_rfl)))
      have D13 := Aside0.mk (Q_D13 (hon 7 (by kernel_rfl)) (hon 13 (by kernel_rfl)))
      have DP := Aside0.mk (Q_DP (hon 12 (by kernel_rfl)) (hon 13 (by kernel_rfl)))
      have OA := Aside0.mk P13.out.1
      have cr0 := (cell_of_block (i := 0) OA.out).trans (show _ = some _ from rfl); have cr1 := (cell_of_block (i := 1) OA.out).trans (show _ = some _ from rfl); have cr2 := (cell_of_block (i := 2) OA.out).trans (show _ = some _ from rfl); have cr3 := (cell_of_block (i := 3) OA.out).trans (show _ = some _ from rfl); have cr4 := (cell_of_block (i := 4) OA.out).trans (show _ = some _ from rfl); have zr0 := frozen_of_block (i := 0) OA.out; have zr1 := frozen_of_block (i := 1) OA.out; have zr2 := frozen_of_block (i := 2) OA.out; have zr3 := frozen_of_block (i := 3) OA.out; have zr4 := frozen_of_block (i := 4) OA.out
      rw [if_pos (by rfl)]
      go_simp
      obtain ⟨w5, e5, hf5, hc5⟩ := set5 (v0 := .int .i64 (wi x nm v).f0) (v1 := .string (wi x nm v).f1) (v2 := .string (wi x nm v).f2) (v3 := .slice E3 (wi x nm v).f3.length f3) (v4 := .slice E4 (wi x nm v).f4.length f4) P13.out.1
      rw [e5]
      clear cr0 cr1 cr2 cr3 cr4 zr0 zr1 zr2 zr3 zr4 e5
      refine hK.out _ _ ⟨rv, vb, g6, lo, hi, p12, p13, B3, d3, B4, d4, E3, f3, E4, f4, m3_, m4_, m5_, m6_, m7_, m8_, m9_, m10_, m12_, m13_, (by rw [ha.out]; exact putSel_none (v := undef) rfl), BW.out.trans (hc5.below BW.out.size (fun k e => by have := P13.out.2; have e' : k = p13 := e; omega)), fun _ h1_ => absurd ((hon 7 (by kernel_rfl)).symm.trans h1_) (by decide), fun _ h1_ => absurd ((hon 7 (by kernel_rfl)).symm.trans h1_) (by decide), fun _ => ⟨M7.out.1, Nat.le_trans M7.out.2.1 hc5.size, M7.out.2.2.1, k25.M_move (fun k hk => hc5.block k (Nat.lt_of_lt_of_le hk.2 M7.out.2.1) (fun e => by have := D13.out; have e' : k = p13 := e; omega)) M7.out.2.2.2⟩, fun _ h1_ => absurd ((hon 14 (by kernel_rfl)).symm.trans h1_) (by decide), fun _ h1_ => absurd ((up_self b 15).symm.trans h1_) (by decide), Q_D12, Q_D13, Q_DP, fun _ => ⟨hf5, P13.out.2⟩, Q_X3_, Q_X4_, Q_X5_, Q_X6_, Q_X7_, Q_X8_, Q_X9_, Q_X10_, Q_X12_, Q_X13_⟩
    refine steps_cons ?_ ?_
    · rintro b a w' ⟨rv, vb, g6, lo, hi, p12, p13, B3, d3, B4, d4, E3, f3, E4, f4, m3_, m4_, m5_, m6_, m7_, m8_, m9_, m10_, m12_, m13_, ha, Q_BW, Q_R3, Q_B6, Q_M7, Q_P12, Q_P13, Q_D12, Q_D13, Q_DP, Q_PX, Q_X3_, Q_X4_, Q_X5_, Q_X6_, Q_X7_, Q_X8_, Q_X9_, Q_X10_, Q_X12_, Q_X13_⟩ hb_ hon hoff
      refine ⟨_, rfl, fun K hK => ?_⟩
      have e36 : a.tmps[36]? = some (.bool true) := by rw [ha]; exact putSel_on (e := (11, 36, .bool true)) 10 rfl rfl (hon 11 (by kernel_rfl)) rfl
      replace ha := Aside0.mk ha
      have BW := Aside0.mk Q_BW
      have M7 := Aside0.mk (Q_M7 (hon 7 (by kernel_rfl)))
      have D12 := Aside0.mk (Q_D12 (hon 7 (by kernel_rfl)) (hon 12 (by kernel_rfl)))
      have D13 := Aside0.mk (Q_D13 (hon 7 (by kernel_rfl)) (hon 13 (by kernel_rfl)))
      have DP := Aside0.mk (Q_DP (hon 12 (by kernel_rfl)) (hon 13 (by kernel_rfl)))
      have PX := Aside0.mk (Q_PX (hon 15 (by kernel_rfl)))
      refine value_ (w1 := w') (v := .bool true) (by rfl) rfl ?_ ?_
      · go_simp
        (try simp only [i64_w])
        try rfl
      refine hK.out _ _ ⟨rv, vb, g6, lo, hi, p12, p13, B3, d3, B4, d4, E3, f3, E4, f4, m3_, m4_, m5_, m6_, m7_, m8_, m9_, m10_, m12_, m13_, (by rw [ha.out]; exact putSel_upk 13 hb_ rfl rfl rfl), Q_BW, fun _ h1_ => absurd ((hon 7 (by kernel_rfl)).symm.trans h1_) (by decide), fun _ h1_ => absurd ((hon 7 (by kernel_rfl)).symm.trans h1_) (by decide), Q_M7, fun _ h1_ => absurd ((hon 14 (by kernel_rfl)).symm.trans h1_) (by decide), fun _ h1_ => absurd ((hon 15 (by kernel_rfl)).symm.trans h1_) (by decide), Q_D12, Q_D13, Q_DP, Q_PX, Q_X3_, Q_X4_, Q_X5_, Q_X6_, Q_X7_, Q_X8_, Q_X9_, Q_X10_, Q_X12_, Q_X13_⟩
    exact steps_nil
  rintro b a w' hall ⟨rv, vb, g6, lo, hi, p12, p13, B3, d3, B4, d4, E3, f3, E4, f4, m3_, m4_, m5_, m6_, m7_, m8_, m9_, m10_, m12_, m13_, ha, Q_BW, Q_R3, Q_B6, Q_M7, Q_P12, Q_P13, Q_D12, Q_D13, Q_DP, Q_PX, Q_X3_, Q_X4_, Q_X5_, Q_X6_, Q_X7_, Q_X8_, Q_X9_, Q_X10_, Q_X12_, Q_X13_⟩
  clear BW
  have hb0_ := hall 0 (by kernel_rfl)
  have hb2_ := hall 2 (by kernel_rfl)
  have hb3_ := hall 3 (by kernel_rfl)
  have hb4_ := hall 4 (by kernel_rfl)
  have hb5_ := hall 5 (by kernel_rfl)
  have hb6_ := hall 6 (by kernel_rfl)
  have hb7_ := hall 7 (by kernel_rfl)
  have hb8_ := hall 8 (by kernel_rfl)
  have hb9_ := hall 9 (by kernel_rfl)
  have hb10_ := hall 10 (by kernel_rfl)
  have hb11_ := hall 11 (by kernel_rfl)
  have hb12_ := hall 12 (by kernel_rfl)
  have hb13_ := hall 13 (by kernel_rfl)
  have hb14_ := hall 14 (by kernel_rfl)
  have hb15_ := hall 15 (by kernel_rfl)
  have hb16_ := hall 16 (by kernel_rfl)
  subst ha
  obtain rfl := Q_X3_ hb3_
  obtain rfl := Q_X4_ hb4_
  obtain rfl := Q_X5_ hb5_
  obtain rfl := Q_X6_ hb6_
  obtain rfl := Q_X7_ hb7_
  obtain rfl := Q_X8_ hb8_
  obtain rfl := Q_X9_ hb9_
  obtain rfl := Q_X10_ hb10_
  obtain rfl := Q_X12_ hb12_
  obtain rfl := Q_X13_ hb13_
  simp only [putSel, hb0_, hb2_, hb3_, hb4_, hb5_, hb6_, hb7_, hb8_, hb9_, hb10_, hb11_, hb12_, hb13_, hb14_, hb15_, hb16_, if_true, Act.put, List.setIfInBounds_toArray, List.set_cons_zero, List.set_cons_succ]
  have BW := Aside0.mk Q_BW
  clear Q_BW
  clear Q_R3
  clear Q_B6
  have M7 := Aside0.mk (Q_M7 hb7_)
  clear Q_M7
  clear Q_P12
  clear Q_P13
  have D12 := Aside0.mk (Q_D12 hb7_ hb12_)
  clear Q_D12
  have D13 := Aside0.mk (Q_D13 hb7_ hb13_)
  clear Q_D13
  have DP := Aside0.mk (Q_DP hb12_ hb13_)
  clear Q_DP
  have PX := Aside0.mk (Q_PX hb15_)
  clear Q_PX
  clear hall hb0_ hb2_ hb3_ hb4_ hb5_ hb6_ hb7_ hb8_ hb9_ hb10_ hb11_ hb12_ hb13_ hb14_ hb15_ hb16_
  obtain ⟨w3, hw3⟩ : ∃ w3, w3 = w' := ⟨_, rfl⟩
  rw [← hw3] at BW M7 PX ⊢
  clear hw3
  have OA := Aside0.mk PX.out.1
  have R3 := Aside0.mk ((BW.out.block _ (lt_of_block H2.out.2.2.2.1)).trans H2.out.2.2.2.1)
  have HB3 := Aside0.mk (H2.out.1.trans (BW.out.mono H2.out.1.size))
  have cp0 := (cell_of_block (i := 0) OA.out).trans (show _ = some _ from rfl); have cp1 := (cell_of_block (i := 1) OA.out).trans (show _ = some _ from rfl); have cp2 := (cell_of_block (i := 2) OA.out).trans (show _ = some _ from rfl); have cp3 := (cell_of_block (i := 3) OA.out).trans (show _ = some _ from rfl); have cp4 := (cell_of_block (i := 4) OA.out).trans (show _ = some _ from rfl); have zp0 := frozen_of_block (i := 0) OA.out; have zp1 := frozen_of_block (i := 1) OA.out; have zp2 := frozen_of_block (i := 2) OA.out; have zp3 := frozen_of_block (i := 3) OA.out; have zp4 := frozen_of_block (i := 4) OA.out
  have cq0 := (cell_of_block (i := 0) R3.out).trans (show _ = some _ from rfl); have cq1 := (cell_of_block (i := 1) R3.out).trans (show _ = some _ from rfl); have cq2 := (cell_of_block (i := 2) R3.out).trans (show _ = some _ from rfl); have cq3 := (cell_of_block (i := 3) R3.out).trans (show _ = some _ from rfl); have cq4 := (cell_of_block (i := 4) R3.out).trans (show _ = some _ from rfl); have zq0 := frozen_of_block (i := 0) R3.out; have zq1 := frozen_of_block (i := 1) R3.out; have zq2 := frozen_of_block (i := 2) R3.out; have zq3 := frozen_of_block (i := 3) R3.out; have zq4 := frozen_of_block (i := 4) R3.out
  go_wp2_with fail
  obtain ⟨wf, ef, hf, hcf⟩ := set5 (v0 := .int .i64 (wi x nm v).f0) (v1 := .string (wi x nm v).f1) (v2 := .string (wi x nm v).f2) (v3 := .slice E3 (wi x nm v).f3.length f3) (v4 := .slice E4 (wi x nm v).f4.length f4) R3.out
  rw [ef]
  have HF := Aside0.mk hf
  have cf0 := (cell_of_block (i := 0) HF.out).trans (show _ = some _ from rfl); have cf1 := (cell_of_block (i := 1) HF.out).trans (show _ = some _ from rfl); have cf2 := (cell_of_block (i := 2) HF.out).trans (show _ = some _ from rfl); have cf3 := (cell_of_block (i := 3) HF.out).trans (show _ = some _ from rfl); have cf4 := (cell_of_block (i := 4) HF.out).trans (show _ = some _ from rfl); have zf0 := frozen_of_block (i := 0) HF.out; have zf1 := frozen_of_block (i := 1) HF.out; have zf2 := frozen_of_block (i := 2) HF.out; have zf3 := frozen_of_block (i := 3) HF.out; have zf4 := frozen_of_block (i := 4) HF.out
  have hbf : Below w.heap.size w wf := HB3.out.trans (hcf.below HB3.out.size (fun k e => by have e' : k = w.heap.size + 1 + 1 := e; omega))
  have hmf := k25.K_of_M (k25.M_move (w1 := wf) (fun k hk => hcf.block k (Nat.lt_of_lt_of_le hk.2 M7.out.2.1) (fun e => by have := M7.out.2.2.1; have := H2.out.2.2.2.2; have e' : k = w.heap.size + 1 + 1 := e; omega)) M7.out.2.2.2)
  have HFIN := Aside0.mk (And.intro hmf hbf)
  clear hbf hmf hcf ef hf cp0 cp1 cp2 cp3 cp4 zp0 zp1 zp2 zp3 zp4 cq0 cq1 cq2 cq3 cq4 zq0 zq1 zq2 zq3 zq4
  refine bodyPost_ret (v := .tuple #[nodeV (wi x nm v) E3 f3 E4 f4, .bool true]) (by simp [results, Try.results27, go_sem, cf0, cf1, cf2, cf3, cf4]) rfl ⟨_, _, _, _, rfl, HFIN.out.1, HFIN.out.2⟩
end Go.Proofs.Ytigpgkfgkjabmaa
