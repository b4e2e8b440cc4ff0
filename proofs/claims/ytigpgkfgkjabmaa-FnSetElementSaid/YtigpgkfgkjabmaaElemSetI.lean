/-
  impl.SetElement: of one key and one text.
-/
import Derived.Test.YtigpgkfgkjabmaaElemSetDo
import Derived.Test.YtigpgkfgkjabmaaConcat
import Derived.Deep.Cut
import Derived.Deep.CutBlock
namespace Go.Proofs.Ytigpgkfgkjabmaa
open Go.RowKit Go.Proofs.YtigpgkfgkjabmaaW.PrintWords Go.Proofs.YtigpgkfgkjabmaaW.PrintLast Go.Proofs.Ytigpgkfgkjabmaa.PFnFields
set_option linter.unusedVariables false
set_option linter.unusedSimpArgs false

/-- The list with the element set, or taken away. -/
def sx (eo : Option S25) (sv : ByteArray) (x : S25) : S25 := ⟨3, ⟨#[]⟩, ⟨#[]⟩, [], outD eo sv x.f4⟩
/-- An element's tree, or none. -/
def TEo (w : World) (E : Option Nat) (eo : Option S25) : Prop := (E = none ∧ eo = none) ∨ ∃ ep y, E = some ep ∧ eo = some y ∧ YN w (fun _ => True) ep (toY 6 y)
theorem teE {w w' : World} {E : Option Nat} {eo : Option S25} (h : TEo w E eo) (hb : Below w.heap.size w w') : TEo w' E eo :=
  h.imp id (fun ⟨ep, y, h1, h2, h3⟩ => ⟨ep, y, h1, h2, h3.below hb⟩)
def ElArg (el : S25) (eo : Option S25) : Prop := (el = z25 ∧ eo = none) ∨ (eo = some el ∧ Tree el)
def TEPost (w : World) (eo : Option S25) (e : Ending) (w' : World) : Prop := ∃ E : Option Nat, e = .returned (.pointer (E.map fun k => ⟨k, 0, none⟩)) ∧ TEo w' E eo ∧ Below w.heap.size w w'
theorem treeOfZ_calls (w : World) (x : S25) (h0 : x.f0 = 0) (V3 : Option Addr) (n3 e3 : Nat) (V4 : Option Addr) (n4 e4 : Nat) : Calls Try.prog 54 #[.agg #[.int .i64 x.f0, .string x.f1, .string x.f2, .slice V3 n3 e3, .slice V4 n4 e4]] w fun e w' => e = .returned (.pointer none) ∧ Below w.heap.size w w' := by
  have hu := Try.underlying25
  have h1 : (x.f0 == 1) = false := by rw [h0]; rfl
  have h2 : (x.f0 == 2) = false := by rw [h0]; rfl
  have h3 : (x.f0 == 3) = false := by rw [h0]; rfl
  clear h0
  go_enter Try.func54, Try.ntmps54
  go_wp2
  go_ret
  exact ⟨rfl, (Below.refl _ _).alloc (Nat.le_refl _) _⟩
theorem treeOfE_calls (el : S25) (eo : Option S25) (h : ElArg el eo) (w : World) (V3 : Option Addr) (e3 : Nat) (V4 : Option Addr) (e4 : Nat) (hV : nodeK w el V3 e3 V4 e4) : Calls Try.prog 54 #[nodeV el V3 e3 V4 e4] w (TEPost w eo) := by
  rcases h with ⟨h0, rfl⟩ | ⟨rfl, ht⟩
  · refine (treeOfZ_calls w el (by rw [h0]; rfl) V3 _ e3 V4 _ e4).mono ?_
    rintro e w' ⟨rfl, hb⟩
    exact ⟨none, rfl, .inl ⟨rfl, rfl⟩, hb⟩
  · refine (treeOf_calls 6 el w _ hV (ht.1.sh ht.2)).mono ?_
    rintro e w' ⟨nb, rfl, hn, hb⟩
    exact ⟨some nb, rfl, .inr ⟨nb, el, rfl, rfl, hn.mono (fun _ _ => trivial)⟩, hb⟩
/-- A text's own row. -/
theorem clone1_calls (w : World) (A : Option Addr) (c : Nat) (s : ByteArray) (hC : Kd.string.C w A 1 [s]) :
    Calls Try.prog 41 #[.slice A 1 c] w fun e w' => ∃ kb kc, e = .returned (.slice (some ⟨kb, 0, none⟩) 1 kc) ∧ w'.cell? ⟨kb, 0, none⟩ = some (.string s) ∧ Below w.heap.size w w' := by
  refine (clone_calls w A c [s] hC (by simp)).mono ?_
  rintro e w' ⟨hb, kvv, rfl, hr⟩
  obtain ⟨A1, c1, rfl, _, hC1⟩ := Kd.R_reads hr
  obtain ⟨ad, rfl, hcell⟩ := strAt hC1 0 (by simp)
  obtain ⟨inner, ho⟩ := Kd.R_own hr
  obtain ⟨g, cap, hg, _, _⟩ := ho.form (by simp)
  simp only [Value.slice.injEq, Option.some.injEq] at hg
  obtain ⟨rfl, _, rfl⟩ := hg
  exact ⟨g, c1, rfl, by simpa [Addr.add] using hcell, hb⟩
theorem word_nonempty {s : ByteArray} (h : Word s) : s.toList.isEmpty = false := by
  have h1 := h.pos
  rw [← Bool.not_eq_true, List.isEmpty_iff]
  intro e
  have h2 : s.toList.length = s.size := by rw [ByteArray.toList_eq]; simp
  rw [e] at h2
  simp at h2
  omega
def iselm3.T : Bool × List (List Nat × List Nat) := (true, [([], []), ([], []), ([1], [1]), ([], []), ([3, 2], [3]), ([], []), ([5, 4], [5]), ([2, 4, 6], [2, 4, 6]), ([7], [7]), ([8], [8]), ([0, 9, 6], [0, 9]), ([10], [10]), ([11], [11]), ([11], [11]), ([11], [11]), ([], []), ([], []), ([15, 12, 10, 0, 1, 2, 3, 4, 5, 6, 7, 8, 9, 10, 11, 12, 15, 16], [12, 15]), ([16, 13, 17, 0, 1, 2, 3, 4, 5, 6, 7, 8, 9, 10, 11, 12, 13, 15, 16, 17], [13, 16]), ([14, 18, 0, 1, 2, 3, 4, 5, 6, 7, 8, 9, 10, 11, 12, 13, 14, 15, 16, 17, 18], [14])])
def iselm3.B : List Nat := [0, 0, 2, 0, 14, 0, 62, 126, 254, 510, 1023, 2047, 4095, 4095, 4095, 0, 0, 106495, 245759, 524287]
theorem iselm3.tab : rtab .any (opsOf Try.f31 3) = iselm3.T := by kernel_rfl
theorem iselm3.bits : waitsOk iselm3.T.2 iselm3.B = true := by kernel_rfl
set_option maxRecDepth 100000 in
set_option maxHeartbeats 3200000 in
theorem isetelem_calls (x el : S25) (eo : Option S25) (sv : ByteArray) (hx : Tree x) (h3 : x.f0 = 3) (hnm : Named x) (hnd : (x.f4.map nmf).Nodup) (hs : Word sv) (he : ElArg el eo) (w : World) (A3 : Option Addr) (c3 : Nat) (A4 : Option Addr) (c4 : Nat) (hK : nodeK w x A3 c3 A4 c4)
    (V3 : Option Addr) (e3 : Nat) (V4 : Option Addr) (e4 : Nat) (hV : nodeK w el V3 e3 V4 e4) (A1 : Option Addr) (c1 : Nat) (hk : Kd.string.C w A1 1 [nameB]) (A2 : Option Addr) (c2 : Nat) (hv : Kd.string.C w A2 1 [sv]) :
    Calls Try.prog 31 #[nodeV x A3 c3 A4 c4, .slice A1 1 c1, .slice A2 1 c2, nodeV el V3 e3 V4 e4] w (SetIPost w (sx eo sv x)) := by
  have hu := Try.underlying25
  have HX := Aside0.mk (And.intro hx (And.intro h3 (And.intro hnm (And.intro hnd (And.intro hs he)))))
  have HK := Aside0.mk (And.intro hK (And.intro hV (And.intro hk hv)))
  clear hx h3 hnm hnd hs he hK hV hk hv
  obtain ⟨og, hog⟩ : ∃ og, og = eo.getD z25 := ⟨_, rfl⟩
  obtain ⟨ow, how⟩ : ∃ ow, ow = sx eo sv x := ⟨_, rfl⟩
  rw [← how]
  have HO := Aside0.mk (And.intro hog how)
  clear hog how
  go_enter Try.func31, Try.ntmps31
  go_upto_region 1 with fail
  obtain ⟨w0, e0⟩ : ∃ w0, w0 = ((w.alloc (.cells #[.int .i64 x.f0, .string x.f1, .string x.f2, .slice A3 x.f3.length c3, .slice A4 x.f4.length c4] 25)).alloc (.cells #[.int .i64 el.f0, .string el.f1, .string el.f2, .slice V3 el.f3.length e3, .slice V4 el.f4.length e4] 25)).alloc (.cells #[.int .i64 0, .string ⟨#[]⟩, .string ⟨#[]⟩, .slice none 0 0, .slice none 0 0] 25) := ⟨_, rfl⟩
  try rw [← e0]
  have hb0 : Below w.heap.size w w0 := by rw [e0]; exact (((Below.refl _ _).alloc (Nat.le_refl _) _).alloc (by simp) _).alloc (by simp; omega) _
  have hs0 : w0.heap.size = w.heap.size + 3 := by rw [e0]; simp
  have q0 : inVar w0 w.heap.size x A3 c3 A4 c4 := by rw [e0]; exact (heap_old _ (by simp; omega)).trans ((heap_old _ (by simp)).trans (heap_at _ rfl))
  have q1 : inVar w0 (w.heap.size + 1) el V3 e3 V4 e4 := by rw [e0]; exact (heap_old _ (by simp)).trans (heap_at _ (by simp))
  have q2 : w0.heap[w.heap.size + 1 + 1]? = some (.cells #[.int .i64 0, .string ⟨#[]⟩, .string ⟨#[]⟩, .slice none 0 0, .slice none 0 0] 25 (0, 0)) := by rw [e0]; exact heap_at _ (by simp)
  have H0 := Aside0.mk (And.intro hb0 (And.intro q0 (And.intro q1 (And.intro q2 hs0))))
  clear hb0 q0 q1 q2 hs0 e0
  go_cut [37] from 13 (fun s w' => s = .bool false ∧ Aside0 (Below w0.heap.size w0 w'))
  case first =>
    go_wp2_with fail
    obtain ⟨wb, eb⟩ : ∃ wb, wb = w0.alloc (.cells #[.slice A1 1 c1, .slice A2 1 c2] 22) := ⟨_, rfl⟩
    try rw [← eb]
    have hbb : Below w0.heap.size w0 wb := by rw [eb]; exact (Below.refl _ _).alloc (Nat.le_refl _) _
    have hcb : wb.heap[w0.heap.size]? = some (.cells #[.slice A1 1 c1, .slice A2 1 c2] 22 (0, 0)) := by rw [eb]; exact heap_at _ rfl
    have HBB := Aside0.mk (And.intro hbb hcb)
    clear hbb hcb eb
    have hbw : Below w.heap.size w wb := H0.out.1.trans (HBB.out.1.mono H0.out.1.size)
    refine (concat2_calls wb w0.heap.size 2 [nameB, sv] rfl (fun j => if j = 0 then A1 else A2) (fun j => if j = 0 then c1 else c2) (fun j hj => ?cc) (fun j hj => ?ck)).mono ?_
    case cc =>
      rw [cell_of_block HBB.out.2]
      match j, hj with
      | 0, _ => rfl
      | 1, _ => rfl
    case ck =>
      match j, hj with
      | 0, _ => exact Kd.C_below HK.out.2.2.1 hbw
      | 1, _ => exact Kd.C_below HK.out.2.2.2 hbw
    rintro e wc ⟨hbc, B, d, rfl, hrc⟩
    obtain ⟨_, _, hCC⟩ := Kd.R_reads' hrc
    have HBC := Aside0.mk (And.intro (HBB.out.1.trans (hbc.mono HBB.out.1.size)) hCC)
    clear hbc hrc hCC hbw
    go_wp2_with fail
    refine (containsstr_calls [nameB, sv] (fun s hs => ?wds) wc B d HBC.out.2).mono ?_
    case wds =>
      rcases List.mem_cons.1 hs with rfl | hs
      · exact word_name
      · obtain rfl := List.mem_singleton.1 hs
        exact HX.out.2.2.2.2.1
    rintro e wd ⟨rfl, hbd⟩
    have HBD := Aside0.mk (HBC.out.1.trans (hbd.mono HBC.out.1.size))
    clear hbd
    have HQ1 := Aside0.mk ((HBD.out.block _ (lt_of_block H0.out.2.2.1)).trans H0.out.2.2.1)
    have cv0 := (cell_of_block (i := 0) HQ1.out).trans (show _ = some _ from rfl); have cv1 := (cell_of_block (i := 1) HQ1.out).trans (show _ = some _ from rfl); have cv2 := (cell_of_block (i := 2) HQ1.out).trans (show _ = some _ from rfl); have cv3 := (cell_of_block (i := 3) HQ1.out).trans (show _ = some _ from rfl); have cv4 := (cell_of_block (i := 4) HQ1.out).trans (show _ = some _ from rfl); have zv0 := frozen_of_block (i := 0) HQ1.out; have zv1 := frozen_of_block (i := 1) HQ1.out; have zv2 := frozen_of_block (i := 2) HQ1.out; have zv3 := frozen_of_block (i := 3) HQ1.out; have zv4 := frozen_of_block (i := 4) HQ1.out
    by_cases hz : el.f0 = 0
    · have hz0 : (el.f0 != 0) = false := by rw [hz]; rfl
      go_wp2_with fail
      go_meet
      exact ⟨rfl, HBD⟩
    · have hz0 : (el.f0 != 0) = true := by simpa using hz
      have hte : Tree el := by
        rcases HX.out.2.2.2.2.2 with ⟨h, _⟩ | ⟨_, h⟩
        · exact absurd (by rw [h]; rfl) hz
        · exact h
      have HTE := Aside0.mk hte
      clear hte
      go_wp2_with fail
      have hbw : Below w.heap.size w wd := H0.out.1.trans (HBD.out.mono H0.out.1.size)
      refine (right_calls el wd V3 e3 V4 e4 (k25.K_below hbw HK.out.2.1) HTE.out).mono ?_
      rintro e we ⟨rfl, hbe⟩
      have HBE := Aside0.mk (HBD.out.trans (hbe.mono HBD.out.size))
      clear hbe hbw
      go_wp2_with fail
      go_meet
      exact ⟨rfl, HBE⟩
  case rest =>
  obtain ⟨rfl, HB⟩ := hcut
  obtain ⟨w2, hw2⟩ : ∃ w2, w2 = wc := ⟨_, rfl⟩
  rw [← hw2] at HB ⊢
  clear hw2 wc
  have mv : ∀ {k : Nat} {o : Obj}, w0.heap[k]? = some o → w2.heap[k]? = some o := fun {k o} h => (HB.out.block _ (lt_of_block h)).trans h
  have H2 := Aside0.mk (And.intro (H0.out.1.trans (HB.out.mono H0.out.1.size)) (And.intro (mv H0.out.2.1) (And.intro (mv H0.out.2.2.1) (And.intro (mv H0.out.2.2.2.1) (show w.heap.size + 3 ≤ w2.heap.size by have := H0.out.2.2.2.2; have := HB.out.size; omega)))))
  clear mv H0 HB
  go_wp2_with fail
  have BW : Aside0 (Below w2.heap.size w2 w2.drew) := ⟨(Below.refl _ _).drew⟩
  refine start_ (n := 20) (S := fun w' => True) (ds := []) #[false, false, false, false, false, false, false, false, false, false, false, false, false, false, false, false, false, false, false, false] (by kernel_rfl) rfl rfl trivial (fun hHeld => ?_)
  refine with_tabW (T := iselm3.T) (B := iselm3.B) iselm3.tab iselm3.bits (fun HT_ HW_ => ?_)
  refine pure_ (i := 3) (N := some 43) (v := ?_) (a' := ?_) #[false, false, false, true, false, false, false, false, false, false, false, false, false, false, false, false, false, false, false, false] rfl rfl (any_of HT_.out (by kernel_rfl)) (fun _ _ _ h => h) (Or.inl ⟨by rfl, ?_⟩) ?_ ?_
  rotate_left
  · intro w'
    go_simp
    with_reducible rfl
  rotate_left
  · simp only [Act.put, List.setIfInBounds_toArray, List.set_cons_zero, List.set_cons_succ, i64_w, i32_w]
    rfl
  refine pure_ (i := 5) (N := some 45) (v := ?_) (a' := ?_) #[false, false, false, true, false, true, false, false, false, false, false, false, false, false, false, false, false, false, false, false] rfl rfl (any_of HT_.out (by kernel_rfl)) (fun _ _ _ h => h) (Or.inl ⟨by rfl, ?_⟩) ?_ ?_
  rotate_left
  · intro w'
    go_simp
    with_reducible rfl
  rotate_left
  · simp only [Act.put, List.setIfInBounds_toArray, List.set_cons_zero, List.set_cons_succ, i64_w, i32_w]
    rfl
  refine inv_at [0, 1, 2, 4, 6, 7, 8, 9, 10, 11, 12, 13, 14, 15, 16, 17, 18, 19] (fun a0_ b a w' => ∃ (gi : Nat) (rs : Nat × Nat × Option Addr × Nat × Option Addr × Nat × Option Addr × Nat × Option Addr × Nat) (p12 : Nat) (p13 : Nat) (E : Option Nat) (k1 : Nat × Nat) (k2 : Nat × Nat) (m2_ : Value) (m4_ : Value) (m6_ : Value) (m7_ : Value) (m8_ : Value) (m9_ : Value) (m10_ : Value) (m11_ : Value) (m12_ : Value) (m13_ : Value) (m15_ : Value) (m16_ : Value), a = putSel a0_ b [(0, 40, nodeV x A3 c3 A4 c4), (1, 41, nodeV el V3 e3 V4 e4), (2, 42, m2_), (4, 44, m4_), (6, 46, m6_), (7, 47, m7_), (8, 48, m8_), (9, 49, m9_), (10, 50, m10_), (11, 39, m11_), (12, 51, m12_), (13, 52, m13_), (14, 53, .bool true), (15, 10, m15_), (16, 11, m16_), (19, 12, .bool true)] ∧ (Below w2.heap.size w2 w') ∧ (b 2 = true → b 10 = false → TEo w' E eo) ∧ (b 4 = true → b 10 = false → w'.cell? ⟨k1.1, 0, none⟩ = some (.string nameB)) ∧ (b 6 = true → b 10 = false → w'.cell? ⟨k2.1, 0, none⟩ = some (.string sv)) ∧ (b 9 = true → b 10 = false → w'.heap[gi]? = some (.cells #[.iface 99 (.agg (es E k1.1 k1.2 k2.1 k2.2))] 134 (0, 0))) ∧ (b 10 = true → rs.1 ≤ rs.2.1 ∧ rs.2.1 ≤ w'.heap.size ∧ w2.heap.size ≤ rs.1 ∧ k25.M w' 0 (fun k => rs.1 ≤ k ∧ k < rs.2.1) (ow) [.int .i64 (ow).f0, .string (ow).f1, .string (ow).f2, .slice rs.2.2.2.2.2.2.1 (ow).f3.length rs.2.2.2.2.2.2.2.1, .slice rs.2.2.2.2.2.2.2.2.1 (ow).f4.length rs.2.2.2.2.2.2.2.2.2]) ∧ (b 15 = true → b 17 = false → w'.heap[p12]? = some (.cells #[.int .i64 0, .string ⟨#[]⟩, .string ⟨#[]⟩, .slice none 0 0, .slice none 0 0] 25 (0, 0)) ∧ w2.heap.size ≤ p12) ∧ (b 16 = true → b 18 = false → w'.heap[p13]? = some (.cells #[.int .i64 0, .string ⟨#[]⟩, .string ⟨#[]⟩, .slice none 0 0, .slice none 0 0] 25 (0, 0)) ∧ w2.heap.size ≤ p13) ∧ (b 10 = true → b 15 = true → p12 < rs.1 ∨ rs.2.1 ≤ p12) ∧ (b 10 = true → b 16 = true → p13 < rs.1 ∨ rs.2.1 ≤ p13) ∧ (b 15 = true → b 16 = true → p12 ≠ p13) ∧ (b 18 = true → w'.heap[p13]? = some (.cells #[.int .i64 (ow).f0, .string (ow).f1, .string (ow).f2, .slice rs.2.2.2.2.2.2.1 (ow).f3.length rs.2.2.2.2.2.2.2.1, .slice rs.2.2.2.2.2.2.2.2.1 (ow).f4.length rs.2.2.2.2.2.2.2.2.2] 25 (0, 0)) ∧ w2.heap.size ≤ p13) ∧ (b 2 = true → (m2_ : Value) = .pointer (E.map fun k => ⟨k, 0, none⟩)) ∧ (b 4 = true → (m4_ : Value) = .slice (some ⟨k1.1, 0, none⟩) 1 k1.2) ∧ (b 6 = true → (m6_ : Value) = .slice (some ⟨k2.1, 0, none⟩) 1 k2.2) ∧ (b 7 = true → (m7_ : Value) = .agg (es E k1.1 k1.2 k2.1 k2.2)) ∧ (b 8 = true → (m8_ : Value) = .iface 99 (.agg (es E k1.1 k1.2 k2.1 k2.2))) ∧ (b 9 = true → (m9_ : Value) = .slice (some ⟨gi, 0, none⟩) 1 1) ∧ (b 10 = true → (m10_ : Value) = .tuple #[nodeV og rs.2.2.1 rs.2.2.2.1 rs.2.2.2.2.1 rs.2.2.2.2.2.1, nodeV ow rs.2.2.2.2.2.2.1 rs.2.2.2.2.2.2.2.1 rs.2.2.2.2.2.2.2.2.1 rs.2.2.2.2.2.2.2.2.2, .bool true]) ∧ (b 11 = true → (m11_ : Value) = .tuple #[nodeV og rs.2.2.1 rs.2.2.2.1 rs.2.2.2.2.1 rs.2.2.2.2.2.1, nodeV ow rs.2.2.2.2.2.2.1 rs.2.2.2.2.2.2.2.1 rs.2.2.2.2.2.2.2.2.1 rs.2.2.2.2.2.2.2.2.2, .bool true]) ∧ (b 12 = true → (m12_ : Value) = nodeV og rs.2.2.1 rs.2.2.2.1 rs.2.2.2.2.1 rs.2.2.2.2.2.1) ∧ (b 13 = true → (m13_ : Value) = nodeV ow rs.2.2.2.2.2.2.1 rs.2.2.2.2.2.2.2.1 rs.2.2.2.2.2.2.2.2.1 rs.2.2.2.2.2.2.2.2.2) ∧ (b 15 = true → (m15_ : Value) = .pointer (some ⟨p12, 0, none⟩)) ∧ (b 16 = true → (m16_ : Value) = .pointer (some ⟨p13, 0, none⟩))) HT_.out HW_.out (by kernel_rfl) (by kernel_rfl) ?_ ?_ ?_
  · exact ⟨0, (0, 0, none, 0, none, 0, none, 0, none, 0), 0, 0, none, (0, 0), (0, 0), .bool false, .bool false, .bool false, .bool false, .bool false, .bool false, .bool false, .bool false, .bool false, .bool false, .bool false, .bool false, by simp only [putSel, Bool.false_eq_true, if_false], BW.out, fun h_ => absurd h_ (by decide), fun h_ => absurd h_ (by decide), fun h_ => absurd h_ (by decide), fun h_ => absurd h_ (by decide), fun h_ => absurd h_ (by decide), fun h_ => absurd h_ (by decide), fun h_ => absurd h_ (by decide), fun h_ => absurd h_ (by decide), fun h_ => absurd h_ (by decide), fun h_ => absurd h_ (by decide), fun h_ => absurd h_ (by decide), fun h_ => absurd h_ (by decide), fun h_ => absurd h_ (by decide), fun h_ => absurd h_ (by decide), fun h_ => absurd h_ (by decide), fun h_ => absurd h_ (by decide), fun h_ => absurd h_ (by decide), fun h_ => absurd h_ (by decide), fun h_ => absurd h_ (by decide), fun h_ => absurd h_ (by decide), fun h_ => absurd h_ (by decide), fun h_ => absurd h_ (by decide), fun h_ => absurd h_ (by decide)⟩
  · skip
    clear BW
    refine steps_cons ?_ ?_
    · rintro b a w' ⟨gi, rs, p12, p13, E, k1, k2, m2_, m4_, m6_, m7_, m8_, m9_, m10_, m11_, m12_, m13_, m15_, m16_, ha, Q_BW, Q_TE, Q_K1, Q_K2, Q_BI, Q_M7, Q_P12, Q_P13, Q_D12, Q_D13, Q_DP, Q_PX, Q_X2_, Q_X4_, Q_X6_, Q_X7_, Q_X8_, Q_X9_, Q_X10_, Q_X11_, Q_X12_, Q_X13_, Q_X15_, Q_X16_⟩ hb_ hon hoff
      refine ⟨_, rfl, fun K hK => ?_⟩
      have e4 : a.tmps[4]? = some (.pointer (some ⟨w.heap.size, 0, none⟩)) := by rw [ha]; exact (putSel_off rfl).trans rfl
      replace ha := Aside0.mk ha
      have BW := Aside0.mk Q_BW
      have HQ := Aside0.mk ((BW.out.block _ (lt_of_block H2.out.2.1)).trans H2.out.2.1)
      have cv0 := (cell_of_block (i := 0) HQ.out).trans (show _ = some _ from rfl); have cv1 := (cell_of_block (i := 1) HQ.out).trans (show _ = some _ from rfl); have cv2 := (cell_of_block (i := 2) HQ.out).trans (show _ = some _ from rfl); have cv3 := (cell_of_block (i := 3) HQ.out).trans (show _ = some _ from rfl); have cv4 := (cell_of_block (i := 4) HQ.out).trans (show _ = some _ from rfl); have zv0 := frozen_of_block (i := 0) HQ.out; have zv1 := frozen_of_block (i := 1) HQ.out; have zv2 := frozen_of_block (i := 2) HQ.out; have zv3 := frozen_of_block (i := 3) HQ.out; have zv4 := frozen_of_block (i := 4) HQ.out
      refine value_ (w1 := w') (v := nodeV x A3 c3 A4 c4) (by rfl) rfl ?_ ?_
      · go_simp
        (try simp only [i64_w])
        try rfl
      refine hK.out _ _ ⟨gi, rs, p12, p13, E, k1, k2, m2_, m4_, m6_, m7_, m8_, m9_, m10_, m11_, m12_, m13_, m15_, m16_, (by rw [ha.out]; exact putSel_upk 0 hb_ rfl rfl rfl), Q_BW, Q_TE, Q_K1, Q_K2, Q_BI, fun h0_ => absurd ((hoff 10 (by kernel_rfl)).symm.trans h0_) (by decide), Q_P12, Q_P13, fun h0_ _ => absurd ((hoff 10 (by kernel_rfl)).symm.trans h0_) (by decide), fun h0_ _ => absurd ((hoff 10 (by kernel_rfl)).symm.trans h0_) (by decide), Q_DP, fun h0_ => absurd ((hoff 18 (by kernel_rfl)).symm.trans h0_) (by decide), Q_X2_, Q_X4_, Q_X6_, Q_X7_, Q_X8_, Q_X9_, fun h0_ => absurd ((hoff 10 (by kernel_rfl)).symm.trans h0_) (by decide), fun h0_ => absurd ((hoff 11 (by kernel_rfl)).symm.trans h0_) (by decide), fun h0_ => absurd ((hoff 12 (by kernel_rfl)).symm.trans h0_) (by decide), fun h0_ => absurd ((hoff 13 (by kernel_rfl)).symm.trans h0_) (by decide), Q_X15_, Q_X16_⟩
    refine steps_cons ?_ ?_
    · rintro b a w' ⟨gi, rs, p12, p13, E, k1, k2, m2_, m4_, m6_, m7_, m8_, m9_, m10_, m11_, m12_, m13_, m15_, m16_, ha, Q_BW, Q_TE, Q_K1, Q_K2, Q_BI, Q_M7, Q_P12, Q_P13, Q_D12, Q_D13, Q_DP, Q_PX, Q_X2_, Q_X4_, Q_X6_, Q_X7_, Q_X8_, Q_X9_, Q_X10_, Q_X11_, Q_X12_, Q_X13_, Q_X15_, Q_X16_⟩ hb_ hon hoff
      refine ⟨_, rfl, fun K hK => ?_⟩
      have e7 : a.tmps[7]? = some (.pointer (some ⟨w.heap.size + 1, 0, none⟩)) := by rw [ha]; exact (putSel_off rfl).trans rfl
      replace ha := Aside0.mk ha
      have BW := Aside0.mk Q_BW
      have HQ := Aside0.mk ((BW.out.block _ (lt_of_block H2.out.2.2.1)).trans H2.out.2.2.1)
      have cv0 := (cell_of_block (i := 0) HQ.out).trans (show _ = some _ from rfl); have cv1 := (cell_of_block (i := 1) HQ.out).trans (show _ = some _ from rfl); have cv2 := (cell_of_block (i := 2) HQ.out).trans (show _ = some _ from rfl); have cv3 := (cell_of_block (i := 3) HQ.out).trans (show _ = some _ from rfl); have cv4 := (cell_of_block (i := 4) HQ.out).trans (show _ = some _ from rfl); have zv0 := frozen_of_block (i := 0) HQ.out; have zv1 := frozen_of_block (i := 1) HQ.out; have zv2 := frozen_of_block (i := 2) HQ.out; have zv3 := frozen_of_block (i := 3) HQ.out; have zv4 := frozen_of_block (i := 4) HQ.out
      refine value_ (w1 := w') (v := nodeV el V3 e3 V4 e4) (by rfl) rfl ?_ ?_
      · go_simp
        (try simp only [i64_w])
        try rfl
      refine hK.out _ _ ⟨gi, rs, p12, p13, E, k1, k2, m2_, m4_, m6_, m7_, m8_, m9_, m10_, m11_, m12_, m13_, m15_, m16_, (by rw [ha.out]; exact putSel_upk 1 hb_ rfl rfl rfl), Q_BW, fun h0_ _ => absurd ((hoff 2 (by kernel_rfl)).symm.trans h0_) (by decide), fun h0_ _ => absurd ((hoff 4 (by kernel_rfl)).symm.trans h0_) (by decide), fun h0_ _ => absurd ((hoff 6 (by kernel_rfl)).symm.trans h0_) (by decide), fun h0_ _ => absurd ((hoff 9 (by kernel_rfl)).symm.trans h0_) (by decide), fun h0_ => absurd ((hoff 10 (by kernel_rfl)).symm.trans h0_) (by decide), Q_P12, Q_P13, fun h0_ _ => absurd ((hoff 10 (by kernel_rfl)).symm.trans h0_) (by decide), fun h0_ _ => absurd ((hoff 10 (by kernel_rfl)).symm.trans h0_) (by decide), Q_DP, fun h0_ => absurd ((hoff 18 (by kernel_rfl)).symm.trans h0_) (by decide), fun h0_ => absurd ((hoff 2 (by kernel_rfl)).symm.trans h0_) (by decide), fun h0_ => absurd ((hoff 4 (by kernel_rfl)).symm.trans h0_) (by decide), fun h0_ => absurd ((hoff 6 (by kernel_rfl)).symm.trans h0_) (by decide), fun h0_ => absurd ((hoff 7 (by kernel_rfl)).symm.trans h0_) (by decide), fun h0_ => absurd ((hoff 8 (by kernel_rfl)).symm.trans h0_) (by decide), fun h0_ => absurd ((hoff 9 (by kernel_rfl)).symm.trans h0_) (by decide), fun h0_ => absurd ((hoff 10 (by kernel_rfl)).symm.trans h0_) (by decide), fun h0_ => absurd ((hoff 11 (by kernel_rfl)).symm.trans h0_) (by decide), fun h0_ => absurd ((hoff 12 (by kernel_rfl)).symm.trans h0_) (by decide), fun h0_ => absurd ((hoff 13 (by kernel_rfl)).symm.trans h0_) (by decide), Q_X15_, Q_X16_⟩
    refine steps_cons ?_ ?_
    · rintro b a w' ⟨gi, rs, p12, p13, E, k1, k2, m2_, m4_, m6_, m7_, m8_, m9_, m10_, m11_, m12_, m13_, m15_, m16_, ha, Q_BW, Q_TE, Q_K1, Q_K2, Q_BI, Q_M7, Q_P12, Q_P13, Q_D12, Q_D13, Q_DP, Q_PX, Q_X2_, Q_X4_, Q_X6_, Q_X7_, Q_X8_, Q_X9_, Q_X10_, Q_X11_, Q_X12_, Q_X13_, Q_X15_, Q_X16_⟩ hb_ hon hoff
      refine ⟨_, rfl, fun K hK => ?_⟩
      have e41 : a.tmps[41]? = some (nodeV el V3 e3 V4 e4) := by rw [ha]; exact putSel_on (e := (1, 41, nodeV el V3 e3 V4 e4)) 1 rfl rfl (hon 1 (by kernel_rfl)) rfl
      replace ha := Aside0.mk ha
      have BW := Aside0.mk Q_BW
      refine goes_ Try.func54 (by kernel_rfl) rfl #[nodeV el V3 e3 V4 e4] (by rfl) rfl rfl (by first | (simp only [List.map_toArray, List.map_cons, List.map_nil, Act.eval, Array.getD_eq_getD_getElem?, Option.getD_some, e41]; done) | (simp only [List.map_toArray, List.map_cons, List.map_nil, Act.eval, Array.getD_eq_getD_getElem?, Option.getD_some, e41]; rfl)) ?_
      have hbw : Below w.heap.size w w' := H2.out.1.trans (BW.out.mono H2.out.1.size)
      refine (treeOfE_calls el eo HX.out.2.2.2.2.2 w' V3 e3 V4 e4 (k25.K_below hbw HK.out.2.1)).mono ?_
      rintro e w3 ⟨En, rfl, hte, hb3⟩
      refine ⟨_, rfl, ?_⟩
      refine hK.out _ _ ⟨gi, rs, p12, p13, En, k1, k2, (.pointer (En.map fun k => ⟨k, 0, none⟩)), m4_, m6_, m7_, m8_, m9_, m10_, m11_, m12_, m13_, m15_, m16_, (by rw [ha.out]; exact putSel_upk 2 hb_ rfl rfl rfl), BW.out.trans (hb3.mono BW.out.size), fun _ _ => hte, fun h0_ _ => absurd ((hoff 4 (by kernel_rfl)).symm.trans h0_) (by decide), fun h0_ _ => absurd ((hoff 6 (by kernel_rfl)).symm.trans h0_) (by decide), fun h0_ _ => absurd ((hoff 9 (by kernel_rfl)).symm.trans h0_) (by decide), fun h0_ => absurd ((hoff 10 (by kernel_rfl)).symm.trans h0_) (by decide), fun h0_ h1_ => ⟨(hb3.block _ (lt_of_block (Q_P12 h0_ h1_).1)).trans (Q_P12 h0_ h1_).1, (Q_P12 h0_ h1_).2⟩, fun h0_ h1_ => ⟨(hb3.block _ (lt_of_block (Q_P13 h0_ h1_).1)).trans (Q_P13 h0_ h1_).1, (Q_P13 h0_ h1_).2⟩, fun h0_ _ => absurd ((hoff 10 (by kernel_rfl)).symm.trans h0_) (by decide), fun h0_ _ => absurd ((hoff 10 (by kernel_rfl)).symm.trans h0_) (by decide), Q_DP, fun h0_ => absurd ((hoff 18 (by kernel_rfl)).symm.trans h0_) (by decide), fun _ => rfl, fun h0_ => absurd ((hoff 4 (by kernel_rfl)).symm.trans h0_) (by decide), fun h0_ => absurd ((hoff 6 (by kernel_rfl)).symm.trans h0_) (by decide), fun h0_ => absurd ((hoff 7 (by kernel_rfl)).symm.trans h0_) (by decide), fun h0_ => absurd ((hoff 8 (by kernel_rfl)).symm.trans h0_) (by decide), fun h0_ => absurd ((hoff 9 (by kernel_rfl)).symm.trans h0_) (by decide), fun h0_ => absurd ((hoff 10 (by kernel_rfl)).symm.trans h0_) (by decide), fun h0_ => absurd ((hoff 11 (by kernel_rfl)).symm.trans h0_) (by decide), fun h0_ => absurd ((hoff 12 (by kernel_rfl)).symm.trans h0_) (by decide), fun h0_ => absurd ((hoff 13 (by kernel_rfl)).symm.trans h0_) (by decide), Q_X15_, Q_X16_⟩
    refine steps_cons ?_ ?_
    · rintro b a w' ⟨gi, rs, p12, p13, E, k1, k2, m2_, m4_, m6_, m7_, m8_, m9_, m10_, m11_, m12_, m13_, m15_, m16_, ha, Q_BW, Q_TE, Q_K1, Q_K2, Q_BI, Q_M7, Q_P12, Q_P13, Q_D12, Q_D13, Q_DP, Q_PX, Q_X2_, Q_X4_, Q_X6_, Q_X7_, Q_X8_, Q_X9_, Q_X10_, Q_X11_, Q_X12_, Q_X13_, Q_X15_, Q_X16_⟩ hb_ hon hoff
      refine ⟨_, rfl, fun K hK => ?_⟩
      have e43 : a.tmps[43]? = some (.slice A1 1 c1) := by rw [ha]; exact (putSel_off rfl).trans rfl
      replace ha := Aside0.mk ha
      have BW := Aside0.mk Q_BW
      have TE := Aside0.mk (Q_TE (hon 2 (by kernel_rfl)) (hoff 10 (by kernel_rfl)))
      refine goes_ Try.func41 (by kernel_rfl) rfl #[.slice A1 1 c1] (by rfl) rfl rfl (by first | (simp only [List.map_toArray, List.map_cons, List.map_nil, Act.eval, Array.getD_eq_getD_getElem?, Option.getD_some, e43]; done) | (simp only [List.map_toArray, List.map_cons, List.map_nil, Act.eval, Array.getD_eq_getD_getElem?, Option.getD_some, e43]; rfl)) ?_
      have hbw : Below w.heap.size w w' := H2.out.1.trans (BW.out.mono H2.out.1.size)
      refine (clone1_calls w' A1 c1 nameB (Kd.C_below HK.out.2.2.1 hbw)).mono ?_
      rintro e w3 ⟨kbn, kcn, rfl, hck, hb3⟩
      refine ⟨_, rfl, ?_⟩
      refine hK.out _ _ ⟨gi, rs, p12, p13, E, (kbn, kcn), k2, m2_, (.slice (some ⟨(kbn, kcn).1, 0, none⟩) 1 (kbn, kcn).2), m6_, m7_, m8_, m9_, m10_, m11_, m12_, m13_, m15_, m16_, (by rw [ha.out]; exact putSel_upk 3 hb_ rfl rfl rfl), BW.out.trans (hb3.mono BW.out.size), fun _ _ => teE TE.out hb3, fun _ _ => hck, fun h0_ _ => absurd ((hoff 6 (by kernel_rfl)).symm.trans h0_) (by decide), fun h0_ _ => absurd ((hoff 9 (by kernel_rfl)).symm.trans h0_) (by decide), fun h0_ => absurd ((hoff 10 (by kernel_rfl)).symm.trans h0_) (by decide), fun h0_ h1_ => ⟨(hb3.block _ (lt_of_block (Q_P12 h0_ h1_).1)).trans (Q_P12 h0_ h1_).1, (Q_P12 h0_ h1_).2⟩, fun h0_ h1_ => ⟨(hb3.block _ (lt_of_block (Q_P13 h0_ h1_).1)).trans (Q_P13 h0_ h1_).1, (Q_P13 h0_ h1_).2⟩, fun h0_ _ => absurd ((hoff 10 (by kernel_rfl)).symm.trans h0_) (by decide), fun h0_ _ => absurd ((hoff 10 (by kernel_rfl)).symm.trans h0_) (by decide), Q_DP, fun h0_ => absurd ((hoff 18 (by kernel_rfl)).symm.trans h0_) (by decide), Q_X2_, fun _ => rfl, fun h0_ => absurd ((hoff 6 (by kernel_rfl)).symm.trans h0_) (by decide), fun h0_ => absurd ((hoff 7 (by kernel_rfl)).symm.trans h0_) (by decide), fun h0_ => absurd ((hoff 8 (by kernel_rfl)).symm.trans h0_) (by decide), fun h0_ => absurd ((hoff 9 (by kernel_rfl)).symm.trans h0_) (by decide), fun h0_ => absurd ((hoff 10 (by kernel_rfl)).symm.trans h0_) (by decide), fun h0_ => absurd ((hoff 11 (by kernel_rfl)).symm.trans h0_) (by decide), fun h0_ => absurd ((hoff 12 (by kernel_rfl)).symm.trans h0_) (by decide), fun h0_ => absurd ((hoff 13 (by kernel_rfl)).symm.trans h0_) (by decide), Q_X15_, Q_X16_⟩
    refine steps_cons ?_ ?_
    · rintro b a w' ⟨gi, rs, p12, p13, E, k1, k2, m2_, m4_, m6_, m7_, m8_, m9_, m10_, m11_, m12_, m13_, m15_, m16_, ha, Q_BW, Q_TE, Q_K1, Q_K2, Q_BI, Q_M7, Q_P12, Q_P13, Q_D12, Q_D13, Q_DP, Q_PX, Q_X2_, Q_X4_, Q_X6_, Q_X7_, Q_X8_, Q_X9_, Q_X10_, Q_X11_, Q_X12_, Q_X13_, Q_X15_, Q_X16_⟩ hb_ hon hoff
      refine ⟨_, rfl, fun K hK => ?_⟩
      have e45 : a.tmps[45]? = some (.slice A2 1 c2) := by rw [ha]; exact (putSel_off rfl).trans rfl
      replace ha := Aside0.mk ha
      have BW := Aside0.mk Q_BW
      have TE := Aside0.mk (Q_TE (hon 2 (by kernel_rfl)) (hoff 10 (by kernel_rfl)))
      have K1 := Aside0.mk (Q_K1 (hon 4 (by kernel_rfl)) (hoff 10 (by kernel_rfl)))
      refine goes_ Try.func41 (by kernel_rfl) rfl #[.slice A2 1 c2] (by rfl) rfl rfl (by first | (simp only [List.map_toArray, List.map_cons, List.map_nil, Act.eval, Array.getD_eq_getD_getElem?, Option.getD_some, e45]; done) | (simp only [List.map_toArray, List.map_cons, List.map_nil, Act.eval, Array.getD_eq_getD_getElem?, Option.getD_some, e45]; rfl)) ?_
      have hbw : Below w.heap.size w w' := H2.out.1.trans (BW.out.mono H2.out.1.size)
      refine (clone1_calls w' A2 c2 sv (Kd.C_below HK.out.2.2.2 hbw)).mono ?_
      rintro e w3 ⟨vbn, vcn, rfl, hck, hb3⟩
      refine ⟨_, rfl, ?_⟩
      refine hK.out _ _ ⟨gi, rs, p12, p13, E, k1, (vbn, vcn), m2_, m4_, (.slice (some ⟨(vbn, vcn).1, 0, none⟩) 1 (vbn, vcn).2), m7_, m8_, m9_, m10_, m11_, m12_, m13_, m15_, m16_, (by rw [ha.out]; exact putSel_upk 4 hb_ rfl rfl rfl), BW.out.trans (hb3.mono BW.out.size), fun _ _ => teE TE.out hb3, fun _ _ => (hb3.cell (World.block_lt_of_cell? w' _ K1.out)).trans K1.out, fun _ _ => hck, fun h0_ _ => absurd ((hoff 9 (by kernel_rfl)).symm.trans h0_) (by decide), fun h0_ => absurd ((hoff 10 (by kernel_rfl)).symm.trans h0_) (by decide), fun h0_ h1_ => ⟨(hb3.block _ (lt_of_block (Q_P12 h0_ h1_).1)).trans (Q_P12 h0_ h1_).1, (Q_P12 h0_ h1_).2⟩, fun h0_ h1_ => ⟨(hb3.block _ (lt_of_block (Q_P13 h0_ h1_).1)).trans (Q_P13 h0_ h1_).1, (Q_P13 h0_ h1_).2⟩, fun h0_ _ => absurd ((hoff 10 (by kernel_rfl)).symm.trans h0_) (by decide), fun h0_ _ => absurd ((hoff 10 (by kernel_rfl)).symm.trans h0_) (by decide), Q_DP, fun h0_ => absurd ((hoff 18 (by kernel_rfl)).symm.trans h0_) (by decide), Q_X2_, Q_X4_, fun _ => rfl, fun h0_ => absurd ((hoff 7 (by kernel_rfl)).symm.trans h0_) (by decide), fun h0_ => absurd ((hoff 8 (by kernel_rfl)).symm.trans h0_) (by decide), fun h0_ => absurd ((hoff 9 (by kernel_rfl)).symm.trans h0_) (by decide), fun h0_ => absurd ((hoff 10 (by kernel_rfl)).symm.trans h0_) (by decide), fun h0_ => absurd ((hoff 11 (by kernel_rfl)).symm.trans h0_) (by decide), fun h0_ => absurd ((hoff 12 (by kernel_rfl)).symm.trans h0_) (by decide), fun h0_ => absurd ((hoff 13 (by kernel_rfl)).symm.trans h0_) (by decide), Q_X15_, Q_X16_⟩
    refine steps_cons ?_ ?_
    · rintro b a w' ⟨gi, rs, p12, p13, E, k1, k2, m2_, m4_, m6_, m7_, m8_, m9_, m10_, m11_, m12_, m13_, m15_, m16_, ha, Q_BW, Q_TE, Q_K1, Q_K2, Q_BI, Q_M7, Q_P12, Q_P13, Q_D12, Q_D13, Q_DP, Q_PX, Q_X2_, Q_X4_, Q_X6_, Q_X7_, Q_X8_, Q_X9_, Q_X10_, Q_X11_, Q_X12_, Q_X13_, Q_X15_, Q_X16_⟩ hb_ hon hoff
      refine ⟨_, rfl, fun K hK => ?_⟩
      have e42 : a.tmps[42]? = some (m2_) := by rw [ha]; exact putSel_on (e := (2, 42, m2_)) 2 rfl rfl (hon 2 (by kernel_rfl)) rfl
      rw [Q_X2_ (hon 2 (by kernel_rfl))] at e42
      have e44 : a.tmps[44]? = some (m4_) := by rw [ha]; exact putSel_on (e := (4, 44, m4_)) 3 rfl rfl (hon 4 (by kernel_rfl)) rfl
      rw [Q_X4_ (hon 4 (by kernel_rfl))] at e44
      have e46 : a.tmps[46]? = some (m6_) := by rw [ha]; exact putSel_on (e := (6, 46, m6_)) 4 rfl rfl (hon 6 (by kernel_rfl)) rfl
      rw [Q_X6_ (hon 6 (by kernel_rfl))] at e46
      replace ha := Aside0.mk ha
      have BW := Aside0.mk Q_BW
      have TE := Aside0.mk (Q_TE (hon 2 (by kernel_rfl)) (hoff 10 (by kernel_rfl)))
      have K1 := Aside0.mk (Q_K1 (hon 4 (by kernel_rfl)) (hoff 10 (by kernel_rfl)))
      have K2 := Aside0.mk (Q_K2 (hon 6 (by kernel_rfl)) (hoff 10 (by kernel_rfl)))
      refine value_ (w1 := w') (v := .agg (es E k1.1 k1.2 k2.1 k2.2)) (by rfl) rfl ?_ ?_
      · go_simp
        (try simp only [i64_w])
        try rfl
      refine hK.out _ _ ⟨gi, rs, p12, p13, E, k1, k2, m2_, m4_, m6_, (.agg (es E k1.1 k1.2 k2.1 k2.2)), m8_, m9_, m10_, m11_, m12_, m13_, m15_, m16_, (by rw [ha.out]; exact putSel_upk 5 hb_ rfl rfl rfl), Q_BW, Q_TE, Q_K1, Q_K2, fun h0_ _ => absurd ((hoff 9 (by kernel_rfl)).symm.trans h0_) (by decide), fun h0_ => absurd ((hoff 10 (by kernel_rfl)).symm.trans h0_) (by decide), Q_P12, Q_P13, fun h0_ _ => absurd ((hoff 10 (by kernel_rfl)).symm.trans h0_) (by decide), fun h0_ _ => absurd ((hoff 10 (by kernel_rfl)).symm.trans h0_) (by decide), Q_DP, fun h0_ => absurd ((hoff 18 (by kernel_rfl)).symm.trans h0_) (by decide), Q_X2_, Q_X4_, Q_X6_, fun _ => rfl, fun h0_ => absurd ((hoff 8 (by kernel_rfl)).symm.trans h0_) (by decide), fun h0_ => absurd ((hoff 9 (by kernel_rfl)).symm.trans h0_) (by decide), fun h0_ => absurd ((hoff 10 (by kernel_rfl)).symm.trans h0_) (by decide), fun h0_ => absurd ((hoff 11 (by kernel_rfl)).symm.trans h0_) (by decide), fun h0_ => absurd ((hoff 12 (by kernel_rfl)).symm.trans h0_) (by decide), fun h0_ => absurd ((hoff 13 (by kernel_rfl)).symm.trans h0_) (by decide), Q_X15_, Q_X16_⟩
    refine steps_cons ?_ ?_
    · rintro b a w' ⟨gi, rs, p12, p13, E, k1, k2, m2_, m4_, m6_, m7_, m8_, m9_, m10_, m11_, m12_, m13_, m15_, m16_, ha, Q_BW, Q_TE, Q_K1, Q_K2, Q_BI, Q_M7, Q_P12, Q_P13, Q_D12, Q_D13, Q_DP, Q_PX, Q_X2_, Q_X4_, Q_X6_, Q_X7_, Q_X8_, Q_X9_, Q_X10_, Q_X11_, Q_X12_, Q_X13_, Q_X15_, Q_X16_⟩ hb_ hon hoff
      refine ⟨_, rfl, fun K hK => ?_⟩
      have e47 : a.tmps[47]? = some (m7_) := by rw [ha]; exact putSel_on (e := (7, 47, m7_)) 5 rfl rfl (hon 7 (by kernel_rfl)) rfl
      rw [Q_X7_ (hon 7 (by kernel_rfl))] at e47
      replace ha := Aside0.mk ha
      have BW := Aside0.mk Q_BW
      have TE := Aside0.mk (Q_TE (hon 2 (by kernel_rfl)) (hoff 10 (by kernel_rfl)))
      have K1 := Aside0.mk (Q_K1 (hon 4 (by kernel_rfl)) (hoff 10 (by kernel_rfl)))
      have K2 := Aside0.mk (Q_K2 (hon 6 (by kernel_rfl)) (hoff 10 (by kernel_rfl)))
      refine value_ (w1 := w') (v := .iface 99 (.agg (es E k1.1 k1.2 k2.1 k2.2))) (by rfl) rfl ?_ ?_
      · go_simp
        (try simp only [i64_w])
        try rfl
      refine hK.out _ _ ⟨gi, rs, p12, p13, E, k1, k2, m2_, m4_, m6_, m7_, (.iface 99 (.agg (es E k1.1 k1.2 k2.1 k2.2))), m9_, m10_, m11_, m12_, m13_, m15_, m16_, (by rw [ha.out]; exact putSel_upk 6 hb_ rfl rfl rfl), Q_BW, Q_TE, Q_K1, Q_K2, fun h0_ _ => absurd ((hoff 9 (by kernel_rfl)).symm.trans h0_) (by decide), fun h0_ => absurd ((hoff 10 (by kernel_rfl)).symm.trans h0_) (by decide), Q_P12, Q_P13, fun h0_ _ => absurd ((hoff 10 (by kernel_rfl)).symm.trans h0_) (by decide), fun h0_ _ => absurd ((hoff 10 (by kernel_rfl)).symm.trans h0_) (by decide), Q_DP, fun h0_ => absurd ((hoff 18 (by kernel_rfl)).symm.trans h0_) (by decide), Q_X2_, Q_X4_, Q_X6_, Q_X7_, fun _ => rfl, fun h0_ => absurd ((hoff 9 (by kernel_rfl)).symm.trans h0_) (by decide), fun h0_ => absurd ((hoff 10 (by kernel_rfl)).symm.trans h0_) (by decide), fun h0_ => absurd ((hoff 11 (by kernel_rfl)).symm.trans h0_) (by decide), fun h0_ => absurd ((hoff 12 (by kernel_rfl)).symm.trans h0_) (by decide), fun h0_ => absurd ((hoff 13 (by kernel_rfl)).symm.trans h0_) (by decide), Q_X15_, Q_X16_⟩
    refine steps_cons ?_ ?_
    · rintro b a w' ⟨gi, rs, p12, p13, E, k1, k2, m2_, m4_, m6_, m7_, m8_, m9_, m10_, m11_, m12_, m13_, m15_, m16_, ha, Q_BW, Q_TE, Q_K1, Q_K2, Q_BI, Q_M7, Q_P12, Q_P13, Q_D12, Q_D13, Q_DP, Q_PX, Q_X2_, Q_X4_, Q_X6_, Q_X7_, Q_X8_, Q_X9_, Q_X10_, Q_X11_, Q_X12_, Q_X13_, Q_X15_, Q_X16_⟩ hb_ hon hoff
      refine ⟨_, rfl, fun K hK => ?_⟩
      have e48 : a.tmps[48]? = some (m8_) := by rw [ha]; exact putSel_on (e := (8, 48, m8_)) 6 rfl rfl (hon 8 (by kernel_rfl)) rfl
      rw [Q_X8_ (hon 8 (by kernel_rfl))] at e48
      replace ha := Aside0.mk ha
      have BW := Aside0.mk Q_BW
      have TE := Aside0.mk (Q_TE (hon 2 (by kernel_rfl)) (hoff 10 (by kernel_rfl)))
      have K1 := Aside0.mk (Q_K1 (hon 4 (by kernel_rfl)) (hoff 10 (by kernel_rfl)))
      have K2 := Aside0.mk (Q_K2 (hon 6 (by kernel_rfl)) (hoff 10 (by kernel_rfl)))
      have hb3 : Below w'.heap.size w' (w'.alloc (.cells #[.iface 99 (.agg (es E k1.1 k1.2 k2.1 k2.2))] 134)) := (Below.refl _ _).alloc (Nat.le_refl _) _
      have hn3 : (w'.alloc (.cells #[.iface 99 (.agg (es E k1.1 k1.2 k2.1 k2.2))] 134)).heap[w'.heap.size]? = some (.cells #[.iface 99 (.agg (es E k1.1 k1.2 k2.1 k2.2))] 134 (0, 0)) := heap_at _ rfl
      refine value_ (w1 := w'.alloc (.cells #[.iface 99 (.agg (es E k1.1 k1.2 k2.1 k2.2))] 134)) (v := .slice (some ⟨w'.heap.size, 0, none⟩) 1 1) (by rfl) rfl ?_ ?_
      · go_simp
      refine hK.out _ _ ⟨w'.heap.size, rs, p12, p13, E, k1, k2, m2_, m4_, m6_, m7_, m8_, (.slice (some ⟨w'.heap.size, 0, none⟩) 1 1), m10_, m11_, m12_, m13_, m15_, m16_, (by rw [ha.out]; exact putSel_upk 7 hb_ rfl rfl rfl), BW.out.trans (hb3.mono BW.out.size), fun _ _ => teE TE.out hb3, fun _ _ => (hb3.cell (World.block_lt_of_cell? w' _ K1.out)).trans K1.out, fun _ _ => (hb3.cell (World.block_lt_of_cell? w' _ K2.out)).trans K2.out, fun _ _ => hn3, fun h0_ => absurd ((hoff 10 (by kernel_rfl)).symm.trans h0_) (by decide), fun h0_ h1_ => ⟨(hb3.block _ (lt_of_block (Q_P12 h0_ h1_).1)).trans (Q_P12 h0_ h1_).1, (Q_P12 h0_ h1_).2⟩, fun h0_ h1_ => ⟨(hb3.block _ (lt_of_block (Q_P13 h0_ h1_).1)).trans (Q_P13 h0_ h1_).1, (Q_P13 h0_ h1_).2⟩, fun h0_ _ => absurd ((hoff 10 (by kernel_rfl)).symm.trans h0_) (by decide), fun h0_ _ => absurd ((hoff 10 (by kernel_rfl)).symm.trans h0_) (by decide), Q_DP, fun h0_ => absurd ((hoff 18 (by kernel_rfl)).symm.trans h0_) (by decide), Q_X2_, Q_X4_, Q_X6_, Q_X7_, Q_X8_, fun _ => rfl, fun h0_ => absurd ((hoff 10 (by kernel_rfl)).symm.trans h0_) (by decide), fun h0_ => absurd ((hoff 11 (by kernel_rfl)).symm.trans h0_) (by decide), fun h0_ => absurd ((hoff 12 (by kernel_rfl)).symm.trans h0_) (by decide), fun h0_ => absurd ((hoff 13 (by kernel_rfl)).symm.trans h0_) (by decide), Q_X15_, Q_X16_⟩
    refine steps_cons ?_ ?_
    · rintro b a w' ⟨gi, rs, p12, p13, E, k1, k2, m2_, m4_, m6_, m7_, m8_, m9_, m10_, m11_, m12_, m13_, m15_, m16_, ha, Q_BW, Q_TE, Q_K1, Q_K2, Q_BI, Q_M7, Q_P12, Q_P13, Q_D12, Q_D13, Q_DP, Q_PX, Q_X2_, Q_X4_, Q_X6_, Q_X7_, Q_X8_, Q_X9_, Q_X10_, Q_X11_, Q_X12_, Q_X13_, Q_X15_, Q_X16_⟩ hb_ hon hoff
      refine ⟨_, rfl, fun K hK => ?_⟩
      have e40 : a.tmps[40]? = some (nodeV x A3 c3 A4 c4) := by rw [ha]; exact putSel_on (e := (0, 40, nodeV x A3 c3 A4 c4)) 0 rfl rfl (hon 0 (by kernel_rfl)) rfl
      have e49 : a.tmps[49]? = some (m9_) := by rw [ha]; exact putSel_on (e := (9, 49, m9_)) 7 rfl rfl (hon 9 (by kernel_rfl)) rfl
      rw [Q_X9_ (hon 9 (by kernel_rfl))] at e49
      replace ha := Aside0.mk ha
      have BW := Aside0.mk Q_BW
      have TE := Aside0.mk (Q_TE (hon 2 (by kernel_rfl)) hb_)
      have K1 := Aside0.mk (Q_K1 (hon 4 (by kernel_rfl)) hb_)
      have K2 := Aside0.mk (Q_K2 (hon 6 (by kernel_rfl)) hb_)
      have BI := Aside0.mk (Q_BI (hon 9 (by kernel_rfl)) hb_)
      refine goes_ Try.func49 (by kernel_rfl) rfl #[nodeV x A3 c3 A4 c4, .slice (some ⟨gi, 0, none⟩) 1 1] (by rfl) rfl rfl (by first | (simp only [List.map_toArray, List.map_cons, List.map_nil, Act.eval, Array.getD_eq_getD_getElem?, Option.getD_some, e40, e49]; done) | (simp only [List.map_toArray, List.map_cons, List.map_nil, Act.eval, Array.getD_eq_getD_getElem?, Option.getD_some, e40, e49]; rfl)) ?_
      have hbw : Below w.heap.size w w' := H2.out.1.trans (BW.out.mono H2.out.1.size)
      refine (piped_calls x (og) (ow) HX.out.1 w' gi 1 A3 c3 A4 c4 99 _ _ 123 (es_method E k1.1 k1.2 k2.1 k2.2) (fun xs wa => enters_ Try.func123 rfl rfl xs wa) (by rw [cell_of_block BI.out]; rfl) (k25.K_below hbw HK.out.1) (by rw [HO.out.1, HO.out.2]; exact elset_does x eo sv HX.out.1 HX.out.2.1 HX.out.2.2.1 HX.out.2.2.2.1 (fun y hy => by rcases HX.out.2.2.2.2.2 with ⟨_, h⟩ | ⟨h, ht⟩; (· rw [h] at hy; cases hy); (· rw [h] at hy; obtain rfl := Option.some.inj hy; exact ht)) (word_nonempty HX.out.2.2.2.2.1) w' E (fun _ => True) TE.out k1.1 k1.2 k2.1 k2.2 K1.out K2.out)).mono ?_
      rintro e w3 ⟨B3n, d3n, B4n, d4n, E3n, f3n, E4n, f4n, rfl, m1, m2, hb3⟩
      refine ⟨_, rfl, ?_⟩
      refine hK.out _ _ ⟨gi, (w'.heap.size, w3.heap.size, B3n, d3n, B4n, d4n, E3n, f3n, E4n, f4n), p12, p13, E, k1, k2, m2_, m4_, m6_, m7_, m8_, m9_, (.tuple #[nodeV og (w'.heap.size, w3.heap.size, B3n, d3n, B4n, d4n, E3n, f3n, E4n, f4n).2.2.1 (w'.heap.size, w3.heap.size, B3n, d3n, B4n, d4n, E3n, f3n, E4n, f4n).2.2.2.1 (w'.heap.size, w3.heap.size, B3n, d3n, B4n, d4n, E3n, f3n, E4n, f4n).2.2.2.2.1 (w'.heap.size, w3.heap.size, B3n, d3n, B4n, d4n, E3n, f3n, E4n, f4n).2.2.2.2.2.1, nodeV ow (w'.heap.size, w3.heap.size, B3n, d3n, B4n, d4n, E3n, f3n, E4n, f4n).2.2.2.2.2.2.1 (w'.heap.size, w3.heap.size, B3n, d3n, B4n, d4n, E3n, f3n, E4n, f4n).2.2.2.2.2.2.2.1 (w'.heap.size, w3.heap.size, B3n, d3n, B4n, d4n, E3n, f3n, E4n, f4n).2.2.2.2.2.2.2.2.1 (w'.heap.size, w3.heap.size, B3n, d3n, B4n, d4n, E3n, f3n, E4n, f4n).2.2.2.2.2.2.2.2.2, .bool true]), m11_, m12_, m13_, m15_, m16_, (by rw [ha.out]; exact putSel_upk 8 hb_ rfl rfl rfl), BW.out.trans (hb3.mono BW.out.size), fun _ h1_ => absurd ((up_self b 10).symm.trans h1_) (by decide), fun _ h1_ => absurd ((up_self b 10).symm.trans h1_) (by decide), fun _ h1_ => absurd ((up_self b 10).symm.trans h1_) (by decide), fun _ h1_ => absurd ((up_self b 10).symm.trans h1_) (by decide), fun _ => ⟨hb3.size, Nat.le_refl _, BW.out.size, M_span m2 rfl⟩, fun h0_ h1_ => ⟨(hb3.block _ (lt_of_block (Q_P12 h0_ h1_).1)).trans (Q_P12 h0_ h1_).1, (Q_P12 h0_ h1_).2⟩, fun h0_ h1_ => ⟨(hb3.block _ (lt_of_block (Q_P13 h0_ h1_).1)).trans (Q_P13 h0_ h1_).1, (Q_P13 h0_ h1_).2⟩, fun _ _ => (by rename_i q7 q12; exact .inl (lt_of_block (Q_P12 q12 (hoff 17 (by kernel_rfl))).1)), fun _ _ => (by rename_i q7 q13; exact .inl (lt_of_block (Q_P13 q13 (hoff 18 (by kernel_rfl))).1)), Q_DP, fun h0_ => absurd ((hoff 18 (by kernel_rfl)).symm.trans h0_) (by decide), Q_X2_, Q_X4_, Q_X6_, Q_X7_, Q_X8_, Q_X9_, fun _ => rfl, fun h0_ => absurd ((hoff 11 (by kernel_rfl)).symm.trans h0_) (by decide), fun h0_ => absurd ((hoff 12 (by kernel_rfl)).symm.trans h0_) (by decide), fun h0_ => absurd ((hoff 13 (by kernel_rfl)).symm.trans h0_) (by decide), Q_X15_, Q_X16_⟩
    refine steps_cons ?_ ?_
    · rintro b a w' ⟨gi, rs, p12, p13, E, k1, k2, m2_, m4_, m6_, m7_, m8_, m9_, m10_, m11_, m12_, m13_, m15_, m16_, ha, Q_BW, Q_TE, Q_K1, Q_K2, Q_BI, Q_M7, Q_P12, Q_P13, Q_D12, Q_D13, Q_DP, Q_PX, Q_X2_, Q_X4_, Q_X6_, Q_X7_, Q_X8_, Q_X9_, Q_X10_, Q_X11_, Q_X12_, Q_X13_, Q_X15_, Q_X16_⟩ hb_ hon hoff
      refine ⟨_, rfl, fun K hK => ?_⟩
      have e50 : a.tmps[50]? = some (m10_) := by rw [ha]; exact putSel_on (e := (10, 50, m10_)) 8 rfl rfl (hon 10 (by kernel_rfl)) rfl
      rw [Q_X10_ (hon 10 (by kernel_rfl))] at e50
      replace ha := Aside0.mk ha
      have BW := Aside0.mk Q_BW
      have M7 := Aside0.mk (Q_M7 (hon 10 (by kernel_rfl)))
      refine value_ (w1 := w') (v := .tuple #[nodeV og rs.2.2.1 rs.2.2.2.1 rs.2.2.2.2.1 rs.2.2.2.2.2.1, nodeV ow rs.2.2.2.2.2.2.1 rs.2.2.2.2.2.2.2.1 rs.2.2.2.2.2.2.2.2.1 rs.2.2.2.2.2.2.2.2.2, .bool true]) (by rfl) rfl ?_ ?_
      · go_simp
        (try simp only [i64_w])
        try rfl
      refine hK.out _ _ ⟨gi, rs, p12, p13, E, k1, k2, m2_, m4_, m6_, m7_, m8_, m9_, m10_, (.tuple #[nodeV og rs.2.2.1 rs.2.2.2.1 rs.2.2.2.2.1 rs.2.2.2.2.2.1, nodeV ow rs.2.2.2.2.2.2.1 rs.2.2.2.2.2.2.2.1 rs.2.2.2.2.2.2.2.2.1 rs.2.2.2.2.2.2.2.2.2, .bool true]), m12_, m13_, m15_, m16_, (by rw [ha.out]; exact putSel_upk 9 hb_ rfl rfl rfl), Q_BW, fun _ h1_ => absurd ((hon 10 (by kernel_rfl)).symm.trans h1_) (by decide), fun _ h1_ => absurd ((hon 10 (by kernel_rfl)).symm.trans h1_) (by decide), fun _ h1_ => absurd ((hon 10 (by kernel_rfl)).symm.trans h1_) (by decide), fun _ h1_ => absurd ((hon 10 (by kernel_rfl)).symm.trans h1_) (by decide), Q_M7, Q_P12, Q_P13, Q_D12, Q_D13, Q_DP, fun h0_ => absurd ((hoff 18 (by kernel_rfl)).symm.trans h0_) (by decide), Q_X2_, Q_X4_, Q_X6_, Q_X7_, Q_X8_, Q_X9_, Q_X10_, fun _ => rfl, fun h0_ => absurd ((hoff 12 (by kernel_rfl)).symm.trans h0_) (by decide), fun h0_ => absurd ((hoff 13 (by kernel_rfl)).symm.trans h0_) (by decide), Q_X15_, Q_X16_⟩
    refine steps_cons ?_ ?_
    · rintro b a w' ⟨gi, rs, p12, p13, E, k1, k2, m2_, m4_, m6_, m7_, m8_, m9_, m10_, m11_, m12_, m13_, m15_, m16_, ha, Q_BW, Q_TE, Q_K1, Q_K2, Q_BI, Q_M7, Q_P12, Q_P13, Q_D12, Q_D13, Q_DP, Q_PX, Q_X2_, Q_X4_, Q_X6_, Q_X7_, Q_X8_, Q_X9_, Q_X10_, Q_X11_, Q_X12_, Q_X13_, Q_X15_, Q_X16_⟩ hb_ hon hoff
      refine ⟨_, rfl, fun K hK => ?_⟩
      have e39 : a.tmps[39]? = some (m11_) := by rw [ha]; exact putSel_on (e := (11, 39, m11_)) 9 rfl rfl (hon 11 (by kernel_rfl)) rfl
      rw [Q_X11_ (hon 11 (by kernel_rfl))] at e39
      replace ha := Aside0.mk ha
      have BW := Aside0.mk Q_BW
      have M7 := Aside0.mk (Q_M7 (hon 10 (by kernel_rfl)))
      refine value_ (w1 := w') (v := nodeV og rs.2.2.1 rs.2.2.2.1 rs.2.2.2.2.1 rs.2.2.2.2.2.1) (by rfl) rfl ?_ ?_
      · go_simp
        (try simp only [i64_w])
        try rfl
      refine hK.out _ _ ⟨gi, rs, p12, p13, E, k1, k2, m2_, m4_, m6_, m7_, m8_, m9_, m10_, m11_, (nodeV og rs.2.2.1 rs.2.2.2.1 rs.2.2.2.2.1 rs.2.2.2.2.2.1), m13_, m15_, m16_, (by rw [ha.out]; exact putSel_upk 10 hb_ rfl rfl rfl), Q_BW, fun _ h1_ => absurd ((hon 10 (by kernel_rfl)).symm.trans h1_) (by decide), fun _ h1_ => absurd ((hon 10 (by kernel_rfl)).symm.trans h1_) (by decide), fun _ h1_ => absurd ((hon 10 (by kernel_rfl)).symm.trans h1_) (by decide), fun _ h1_ => absurd ((hon 10 (by kernel_rfl)).symm.trans h1_) (by decide), Q_M7, Q_P12, Q_P13, Q_D12, Q_D13, Q_DP, fun h0_ => absurd ((hoff 18 (by kernel_rfl)).symm.trans h0_) (by decide), Q_X2_, Q_X4_, Q_X6_, Q_X7_, Q_X8_, Q_X9_, Q_X10_, Q_X11_, fun _ => rfl, Q_X13_, Q_X15_, Q_X16_⟩
    refine steps_cons ?_ ?_
    · rintro b a w' ⟨gi, rs, p12, p13, E, k1, k2, m2_, m4_, m6_, m7_, m8_, m9_, m10_, m11_, m12_, m13_, m15_, m16_, ha, Q_BW, Q_TE, Q_K1, Q_K2, Q_BI, Q_M7, Q_P12, Q_P13, Q_D12, Q_D13, Q_DP, Q_PX, Q_X2_, Q_X4_, Q_X6_, Q_X7_, Q_X8_, Q_X9_, Q_X10_, Q_X11_, Q_X12_, Q_X13_, Q_X15_, Q_X16_⟩ hb_ hon hoff
      refine ⟨_, rfl, fun K hK => ?_⟩
      have e39 : a.tmps[39]? = some (m11_) := by rw [ha]; exact putSel_on (e := (11, 39, m11_)) 9 rfl rfl (hon 11 (by kernel_rfl)) rfl
      rw [Q_X11_ (hon 11 (by kernel_rfl))] at e39
      replace ha := Aside0.mk ha
      have BW := Aside0.mk Q_BW
      have M7 := Aside0.mk (Q_M7 (hon 10 (by kernel_rfl)))
      refine value_ (w1 := w') (v := nodeV ow rs.2.2.2.2.2.2.1 rs.2.2.2.2.2.2.2.1 rs.2.2.2.2.2.2.2.2.1 rs.2.2.2.2.2.2.2.2.2) (by rfl) rfl ?_ ?_
      · go_simp
        (try simp only [i64_w])
        try rfl
      refine hK.out _ _ ⟨gi, rs, p12, p13, E, k1, k2, m2_, m4_, m6_, m7_, m8_, m9_, m10_, m11_, m12_, (nodeV ow rs.2.2.2.2.2.2.1 rs.2.2.2.2.2.2.2.1 rs.2.2.2.2.2.2.2.2.1 rs.2.2.2.2.2.2.2.2.2), m15_, m16_, (by rw [ha.out]; exact putSel_upk 11 hb_ rfl rfl rfl), Q_BW, fun _ h1_ => absurd ((hon 10 (by kernel_rfl)).symm.trans h1_) (by decide), fun _ h1_ => absurd ((hon 10 (by kernel_rfl)).symm.trans h1_) (by decide), fun _ h1_ => absurd ((hon 10 (by kernel_rfl)).symm.trans h1_) (by decide), fun _ h1_ => absurd ((hon 10 (by kernel_rfl)).symm.trans h1_) (by decide), Q_M7, Q_P12, Q_P13, Q_D12, Q_D13, Q_DP, fun h0_ => absurd ((hoff 18 (by kernel_rfl)).symm.trans h0_) (by decide), Q_X2_, Q_X4_, Q_X6_, Q_X7_, Q_X8_, Q_X9_, Q_X10_, Q_X11_, Q_X12_, fun _ => rfl, Q_X15_, Q_X16_⟩
    refine steps_cons ?_ ?_
    · rintro b a w' ⟨gi, rs, p12, p13, E, k1, k2, m2_, m4_, m6_, m7_, m8_, m9_, m10_, m11_, m12_, m13_, m15_, m16_, ha, Q_BW, Q_TE, Q_K1, Q_K2, Q_BI, Q_M7, Q_P12, Q_P13, Q_D12, Q_D13, Q_DP, Q_PX, Q_X2_, Q_X4_, Q_X6_, Q_X7_, Q_X8_, Q_X9_, Q_X10_, Q_X11_, Q_X12_, Q_X13_, Q_X15_, Q_X16_⟩ hb_ hon hoff
      refine ⟨_, rfl, fun K hK => ?_⟩
      have e39 : a.tmps[39]? = some (m11_) := by rw [ha]; exact putSel_on (e := (11, 39, m11_)) 9 rfl rfl (hon 11 (by kernel_rfl)) rfl
      rw [Q_X11_ (hon 11 (by kernel_rfl))] at e39
      replace ha := Aside0.mk ha
      have BW := Aside0.mk Q_BW
      have M7 := Aside0.mk (Q_M7 (hon 10 (by kernel_rfl)))
      refine value_ (w1 := w') (v := .bool true) (by rfl) rfl ?_ ?_
      · go_simp
        (try simp only [i64_w])
        try rfl
      refine hK.out _ _ ⟨gi, rs, p12, p13, E, k1, k2, m2_, m4_, m6_, m7_, m8_, m9_, m10_, m11_, m12_, m13_, m15_, m16_, (by rw [ha.out]; exact putSel_upk 12 hb_ rfl rfl rfl), Q_BW, fun _ h1_ => absurd ((hon 10 (by kernel_rfl)).symm.trans h1_) (by decide), fun _ h1_ => absurd ((hon 10 (by kernel_rfl)).symm.trans h1_) (by decide), fun _ h1_ => absurd ((hon 10 (by kernel_rfl)).symm.trans h1_) (by decide), fun _ h1_ => absurd ((hon 10 (by kernel_rfl)).symm.trans h1_) (by decide), Q_M7, Q_P12, Q_P13, Q_D12, Q_D13, Q_DP, Q_PX, Q_X2_, Q_X4_, Q_X6_, Q_X7_, Q_X8_, Q_X9_, Q_X10_, Q_X11_, Q_X12_, Q_X13_, Q_X15_, Q_X16_⟩
    refine steps_cons ?_ ?_
    · rintro b a w' ⟨gi, rs, p12, p13, E, k1, k2, m2_, m4_, m6_, m7_, m8_, m9_, m10_, m11_, m12_, m13_, m15_, m16_, ha, Q_BW, Q_TE, Q_K1, Q_K2, Q_BI, Q_M7, Q_P12, Q_P13, Q_D12, Q_D13, Q_DP, Q_PX, Q_X2_, Q_X4_, Q_X6_, Q_X7_, Q_X8_, Q_X9_, Q_X10_, Q_X11_, Q_X12_, Q_X13_, Q_X15_, Q_X16_⟩ hb_ hon hoff
      refine ⟨_, rfl, fun K hK => ?_⟩
      replace ha := Aside0.mk ha
      have BW := Aside0.mk Q_BW
      have hb3 : Below w'.heap.size w' (w'.alloc (.cells #[.int .i64 0, .string ⟨#[]⟩, .string ⟨#[]⟩, .slice none 0 0, .slice none 0 0] 25)) := (Below.refl _ _).alloc (Nat.le_refl _) _
      have hn3 : (w'.alloc (.cells #[.int .i64 0, .string ⟨#[]⟩, .string ⟨#[]⟩, .slice none 0 0, .slice none 0 0] 25)).heap[w'.heap.size]? = some (.cells #[.int .i64 0, .string ⟨#[]⟩, .string ⟨#[]⟩, .slice none 0 0, .slice none 0 0] 25 (0, 0)) := heap_at _ rfl
      refine value_ (w1 := w'.alloc (.cells #[.int .i64 0, .string ⟨#[]⟩, .string ⟨#[]⟩, .slice none 0 0, .slice none 0 0] 25)) (v := .pointer (some ⟨w'.heap.size, 0, none⟩)) (by rfl) rfl ?_ ?_
      · go_simp
      refine hK.out _ _ ⟨gi, rs, w'.heap.size, p13, E, k1, k2, m2_, m4_, m6_, m7_, m8_, m9_, m10_, m11_, m12_, m13_, (.pointer (some ⟨w'.heap.size, 0, none⟩)), m16_, (by rw [ha.out]; exact putSel_upk 13 hb_ rfl rfl rfl), BW.out.trans (hb3.mono BW.out.size), fun h0_ h1_ => teE (Q_TE h0_ h1_) hb3, fun h0_ h1_ => (hb3.cell (World.block_lt_of_cell? w' _ (Q_K1 h0_ h1_))).trans (Q_K1 h0_ h1_), fun h0_ h1_ => (hb3.cell (World.block_lt_of_cell? w' _ (Q_K2 h0_ h1_))).trans (Q_K2 h0_ h1_), fun h0_ h1_ => (hb3.block _ (lt_of_block (Q_BI h0_ h1_))).trans (Q_BI h0_ h1_), fun h0_ => ⟨(Q_M7 h0_).1, Nat.le_trans (Q_M7 h0_).2.1 hb3.size, (Q_M7 h0_).2.2.1, k25.M_move (fun k hk => hb3.block k (Nat.lt_of_lt_of_le hk.2 (Q_M7 h0_).2.1)) (Q_M7 h0_).2.2.2⟩, fun _ _ => ⟨hn3, BW.out.size⟩, fun h0_ h1_ => ⟨(hb3.block _ (lt_of_block (Q_P13 h0_ h1_).1)).trans (Q_P13 h0_ h1_).1, (Q_P13 h0_ h1_).2⟩, fun _ _ => (by rename_i q7 q12; exact .inr (Q_M7 q7).2.1), Q_D13, fun _ _ => (by rename_i q12 q13; have := lt_of_block (Q_P13 q13 (hoff 18 (by kernel_rfl))).1; omega), fun h0_ => absurd ((hoff 18 (by kernel_rfl)).symm.trans h0_) (by decide), Q_X2_, Q_X4_, Q_X6_, Q_X7_, Q_X8_, Q_X9_, Q_X10_, Q_X11_, Q_X12_, Q_X13_, fun _ => rfl, Q_X16_⟩
    refine steps_cons ?_ ?_
    · rintro b a w' ⟨gi, rs, p12, p13, E, k1, k2, m2_, m4_, m6_, m7_, m8_, m9_, m10_, m11_, m12_, m13_, m15_, m16_, ha, Q_BW, Q_TE, Q_K1, Q_K2, Q_BI, Q_M7, Q_P12, Q_P13, Q_D12, Q_D13, Q_DP, Q_PX, Q_X2_, Q_X4_, Q_X6_, Q_X7_, Q_X8_, Q_X9_, Q_X10_, Q_X11_, Q_X12_, Q_X13_, Q_X15_, Q_X16_⟩ hb_ hon hoff
      refine ⟨_, rfl, fun K hK => ?_⟩
      replace ha := Aside0.mk ha
      have BW := Aside0.mk Q_BW
      have hb3 : Below w'.heap.size w' (w'.alloc (.cells #[.int .i64 0, .string ⟨#[]⟩, .string ⟨#[]⟩, .slice none 0 0, .slice none 0 0] 25)) := (Below.refl _ _).alloc (Nat.le_refl _) _
      have hn3 : (w'.alloc (.cells #[.int .i64 0, .string ⟨#[]⟩, .string ⟨#[]⟩, .slice none 0 0, .slice none 0 0] 25)).heap[w'.heap.size]? = some (.cells #[.int .i64 0, .string ⟨#[]⟩, .string ⟨#[]⟩, .slice none 0 0, .slice none 0 0] 25 (0, 0)) := heap_at _ rfl
      refine value_ (w1 := w'.alloc (.cells #[.int .i64 0, .string ⟨#[]⟩, .string ⟨#[]⟩, .slice none 0 0, .slice none 0 0] 25)) (v := .pointer (some ⟨w'.heap.size, 0, none⟩)) (by rfl) rfl ?_ ?_
      · go_simp
      refine hK.out _ _ ⟨gi, rs, p12, w'.heap.size, E, k1, k2, m2_, m4_, m6_, m7_, m8_, m9_, m10_, m11_, m12_, m13_, m15_, (.pointer (some ⟨w'.heap.size, 0, none⟩)), (by rw [ha.out]; exact putSel_upk 14 hb_ rfl rfl rfl), BW.out.trans (hb3.mono BW.out.size), fun h0_ h1_ => teE (Q_TE h0_ h1_) hb3, fun h0_ h1_ => (hb3.cell (World.block_lt_of_cell? w' _ (Q_K1 h0_ h1_))).trans (Q_K1 h0_ h1_), fun h0_ h1_ => (hb3.cell (World.block_lt_of_cell? w' _ (Q_K2 h0_ h1_))).trans (Q_K2 h0_ h1_), fun h0_ h1_ => (hb3.block _ (lt_of_block (Q_BI h0_ h1_))).trans (Q_BI h0_ h1_), fun h0_ => ⟨(Q_M7 h0_).1, Nat.le_trans (Q_M7 h0_).2.1 hb3.size, (Q_M7 h0_).2.2.1, k25.M_move (fun k hk => hb3.block k (Nat.lt_of_lt_of_le hk.2 (Q_M7 h0_).2.1)) (Q_M7 h0_).2.2.2⟩, fun h0_ h1_ => ⟨(hb3.block _ (lt_of_block (Q_P12 h0_ h1_).1)).trans (Q_P12 h0_ h1_).1, (Q_P12 h0_ h1_).2⟩, fun _ _ => ⟨hn3, BW.out.size⟩, Q_D12, fun _ _ => (by rename_i q7 q13; exact .inr (Q_M7 q7).2.1), fun _ _ => (by rename_i q12 q13; have := lt_of_block (Q_P12 q12 (hoff 17 (by kernel_rfl))).1; omega), fun h0_ => absurd ((hoff 18 (by kernel_rfl)).symm.trans h0_) (by decide), Q_X2_, Q_X4_, Q_X6_, Q_X7_, Q_X8_, Q_X9_, Q_X10_, Q_X11_, Q_X12_, Q_X13_, Q_X15_, fun _ => rfl⟩
    refine steps_cons ?_ ?_
    · rintro b a w' ⟨gi, rs, p12, p13, E, k1, k2, m2_, m4_, m6_, m7_, m8_, m9_, m10_, m11_, m12_, m13_, m15_, m16_, ha, Q_BW, Q_TE, Q_K1, Q_K2, Q_BI, Q_M7, Q_P12, Q_P13, Q_D12, Q_D13, Q_DP, Q_PX, Q_X2_, Q_X4_, Q_X6_, Q_X7_, Q_X8_, Q_X9_, Q_X10_, Q_X11_, Q_X12_, Q_X13_, Q_X15_, Q_X16_⟩ hb_ hon hoff
      refine ⟨_, rfl, fun K hK => ?_⟩
      have e10 : a.tmps[10]? = some (m15_) := by rw [ha]; exact putSel_on (e := (15, 10, m15_)) 13 rfl rfl (hon 15 (by kernel_rfl)) rfl
      rw [Q_X15_ (hon 15 (by kernel_rfl))] at e10
      have e51 : a.tmps[51]? = some (m12_) := by rw [ha]; exact putSel_on (e := (12, 51, m12_)) 10 rfl rfl (hon 12 (by kernel_rfl)) rfl
      rw [Q_X12_ (hon 12 (by kernel_rfl))] at e51
      replace ha := Aside0.mk ha
      have BW := Aside0.mk Q_BW
      have M7 := Aside0.mk (Q_M7 (hon 10 (by kernel_rfl)))
      have P12 := Aside0.mk (Q_P12 (hon 15 (by kernel_rfl)) hb_)
      have P13 := Aside0.mk (Q_P13 (hon 16 (by kernel_rfl)) (hoff 18 (by kernel_rfl)))
      have D12 := Aside0.mk (Q_D12 (hon 10 (by kernel_rfl)) (hon 15 (by kernel_rfl)))
      have D13 := Aside0.mk (Q_D13 (hon 10 (by kernel_rfl)) (hon 16 (by kernel_rfl)))
      have DP := Aside0.mk (Q_DP (hon 15 (by kernel_rfl)) (hon 16 (by kernel_rfl)))
      have OA := Aside0.mk P12.out.1
      have cr0 := (cell_of_block (i := 0) OA.out).trans (show _ = some _ from rfl); have cr1 := (cell_of_block (i := 1) OA.out).trans (show _ = some _ from rfl); have cr2 := (cell_of_block (i := 2) OA.out).trans (show _ = some _ from rfl); have cr3 := (cell_of_block (i := 3) OA.out).trans (show _ = some _ from rfl); have cr4 := (cell_of_block (i := 4) OA.out).trans (show _ = some _ from rfl); have zr0 := frozen_of_block (i := 0) OA.out; have zr1 := frozen_of_block (i := 1) OA.out; have zr2 := frozen_of_block (i := 2) OA.out; have zr3 := frozen_of_block (i := 3) OA.out; have zr4 := frozen_of_block (i := 4) OA.out
      rw [if_pos (by rfl)]
      go_simp
      obtain ⟨w5, e5, hf5, hc5⟩ := set5 (v0 := .int .i64 (og).f0) (v1 := .string (og).f1) (v2 := .string (og).f2) (v3 := .slice rs.2.2.1 (og).f3.length rs.2.2.2.1) (v4 := .slice rs.2.2.2.2.1 (og).f4.length rs.2.2.2.2.2.1) P12.out.1
      rw [e5]
      clear cr0 cr1 cr2 cr3 cr4 zr0 zr1 zr2 zr3 zr4 e5
      refine hK.out _ _ ⟨gi, rs, p12, p13, E, k1, k2, m2_, m4_, m6_, m7_, m8_, m9_, m10_, m11_, m12_, m13_, m15_, m16_, (by rw [ha.out]; exact putSel_none (v := undef) rfl), BW.out.trans (hc5.below BW.out.size (fun k e => by have := P12.out.2; have e' : k = p12 := e; omega)), fun _ h1_ => absurd ((hon 10 (by kernel_rfl)).symm.trans h1_) (by decide), fun _ h1_ => absurd ((hon 10 (by kernel_rfl)).symm.trans h1_) (by decide), fun _ h1_ => absurd ((hon 10 (by kernel_rfl)).symm.trans h1_) (by decide), fun _ h1_ => absurd ((hon 10 (by kernel_rfl)).symm.trans h1_) (by decide), fun _ => ⟨M7.out.1, Nat.le_trans M7.out.2.1 hc5.size, M7.out.2.2.1, k25.M_move (fun k hk => hc5.block k (Nat.lt_of_lt_of_le hk.2 M7.out.2.1) (fun e => by have := D12.out; have e' : k = p12 := e; omega)) M7.out.2.2.2⟩, fun _ h1_ => absurd ((up_self b 17).symm.trans h1_) (by decide), fun _ _ => ⟨(hc5.block _ (lt_of_block P13.out.1) (fun e => DP.out e.symm)).trans P13.out.1, P13.out.2⟩, Q_D12, Q_D13, Q_DP, fun h0_ => absurd ((hoff 18 (by kernel_rfl)).symm.trans h0_) (by decide), Q_X2_, Q_X4_, Q_X6_, Q_X7_, Q_X8_, Q_X9_, Q_X10_, Q_X11_, Q_X12_, Q_X13_, Q_X15_, Q_X16_⟩
    refine steps_cons ?_ ?_
    · rintro b a w' ⟨gi, rs, p12, p13, E, k1, k2, m2_, m4_, m6_, m7_, m8_, m9_, m10_, m11_, m12_, m13_, m15_, m16_, ha, Q_BW, Q_TE, Q_K1, Q_K2, Q_BI, Q_M7, Q_P12, Q_P13, Q_D12, Q_D13, Q_DP, Q_PX, Q_X2_, Q_X4_, Q_X6_, Q_X7_, Q_X8_, Q_X9_, Q_X10_, Q_X11_, Q_X12_, Q_X13_, Q_X15_, Q_X16_⟩ hb_ hon hoff
      refine ⟨_, rfl, fun K hK => ?_⟩
      have e11 : a.tmps[11]? = some (m16_) := by rw [ha]; exact putSel_on (e := (16, 11, m16_)) 14 rfl rfl (hon 16 (by kernel_rfl)) rfl
      rw [Q_X16_ (hon 16 (by kernel_rfl))] at e11
      have e52 : a.tmps[52]? = some (m13_) := by rw [ha]; exact putSel_on (e := (13, 52, m13_)) 11 rfl rfl (hon 13 (by kernel_rfl)) rfl
      rw [Q_X13_ (hon 13 (by kernel_rfl))] at e52
      replace ha := Aside0.mk ha
      have BW := Aside0.mk Q_BW
      have M7 := Aside0.mk (Q_M7 (hon 10 (by kernel_rfl)))
      have P13 := Aside0.mk (Q_P13 (hon 16 (by kernel_rfl)) hb_)
      have D12 := Aside0.mk (Q_D12 (hon 10 (by kernel_rfl)) (hon 15 (by kernel_rfl)))
      have D13 := Aside0.mk (Q_D13 (hon 10 (by kernel_rfl)) (hon 16 (by kernel_rfl)))
      have DP := Aside0.mk (Q_DP (hon 15 (by kernel_rfl)) (hon 16 (by kernel_rfl)))
      have OA := Aside0.mk P13.out.1
      have cr0 := (cell_of_block (i := 0) OA.out).trans (show _ = some _ from rfl); have cr1 := (cell_of_block (i := 1) OA.out).trans (show _ = some _ from rfl); have cr2 := (cell_of_block (i := 2) OA.out).trans (show _ = some _ from rfl); have cr3 := (cell_of_block (i := 3) OA.out).trans (show _ = some _ from rfl); have cr4 := (cell_of_block (i := 4) OA.out).trans (show _ = some _ from rfl); have zr0 := frozen_of_block (i := 0) OA.out; have zr1 := frozen_of_block (i := 1) OA.out; have zr2 := frozen_of_block (i := 2) OA.out; have zr3 := frozen_of_block (i := 3) OA.out; have zr4 := frozen_of_block (i := 4) OA.out
      rw [if_pos (by rfl)]
      go_simp
      obtain ⟨w5, e5, hf5, hc5⟩ := set5 (v0 := .int .i64 (ow).f0) (v1 := .string (ow).f1) (v2 := .string (ow).f2) (v3 := .slice rs.2.2.2.2.2.2.1 (ow).f3.length rs.2.2.2.2.2.2.2.1) (v4 := .slice rs.2.2.2.2.2.2.2.2.1 (ow).f4.length rs.2.2.2.2.2.2.2.2.2) P13.out.1
      rw [e5]
      clear cr0 cr1 cr2 cr3 cr4 zr0 zr1 zr2 zr3 zr4 e5
      refine hK.out _ _ ⟨gi, rs, p12, p13, E, k1, k2, m2_, m4_, m6_, m7_, m8_, m9_, m10_, m11_, m12_, m13_, m15_, m16_, (by rw [ha.out]; exact putSel_none (v := undef) rfl), BW.out.trans (hc5.below BW.out.size (fun k e => by have := P13.out.2; have e' : k = p13 := e; omega)), fun _ h1_ => absurd ((hon 10 (by kernel_rfl)).symm.trans h1_) (by decide), fun _ h1_ => absurd ((hon 10 (by kernel_rfl)).symm.trans h1_) (by decide), fun _ h1_ => absurd ((hon 10 (by kernel_rfl)).symm.trans h1_) (by decide), fun _ h1_ => absurd ((hon 10 (by kernel_rfl)).symm.trans h1_) (by decide), fun _ => ⟨M7.out.1, Nat.le_trans M7.out.2.1 hc5.size, M7.out.2.2.1, k25.M_move (fun k hk => hc5.block k (Nat.lt_of_lt_of_le hk.2 M7.out.2.1) (fun e => by have := D13.out; have e' : k = p13 := e; omega)) M7.out.2.2.2⟩, fun _ h1_ => absurd ((hon 17 (by kernel_rfl)).symm.trans h1_) (by decide), fun _ h1_ => absurd ((up_self b 18).symm.trans h1_) (by decide), Q_D12, Q_D13, Q_DP, fun _ => ⟨hf5, P13.out.2⟩, Q_X2_, Q_X4_, Q_X6_, Q_X7_, Q_X8_, Q_X9_, Q_X10_, Q_X11_, Q_X12_, Q_X13_, Q_X15_, Q_X16_⟩
    refine steps_cons ?_ ?_
    · rintro b a w' ⟨gi, rs, p12, p13, E, k1, k2, m2_, m4_, m6_, m7_, m8_, m9_, m10_, m11_, m12_, m13_, m15_, m16_, ha, Q_BW, Q_TE, Q_K1, Q_K2, Q_BI, Q_M7, Q_P12, Q_P13, Q_D12, Q_D13, Q_DP, Q_PX, Q_X2_, Q_X4_, Q_X6_, Q_X7_, Q_X8_, Q_X9_, Q_X10_, Q_X11_, Q_X12_, Q_X13_, Q_X15_, Q_X16_⟩ hb_ hon hoff
      refine ⟨_, rfl, fun K hK => ?_⟩
      have e53 : a.tmps[53]? = some (.bool true) := by rw [ha]; exact putSel_on (e := (14, 53, .bool true)) 12 rfl rfl (hon 14 (by kernel_rfl)) rfl
      replace ha := Aside0.mk ha
      have BW := Aside0.mk Q_BW
      have M7 := Aside0.mk (Q_M7 (hon 10 (by kernel_rfl)))
      have D12 := Aside0.mk (Q_D12 (hon 10 (by kernel_rfl)) (hon 15 (by kernel_rfl)))
      have D13 := Aside0.mk (Q_D13 (hon 10 (by kernel_rfl)) (hon 16 (by kernel_rfl)))
      have DP := Aside0.mk (Q_DP (hon 15 (by kernel_rfl)) (hon 16 (by kernel_rfl)))
      have PX := Aside0.mk (Q_PX (hon 18 (by kernel_rfl)))
      refine value_ (w1 := w') (v := .bool true) (by rfl) rfl ?_ ?_
      · go_simp
        (try simp only [i64_w])
        try rfl
      refine hK.out _ _ ⟨gi, rs, p12, p13, E, k1, k2, m2_, m4_, m6_, m7_, m8_, m9_, m10_, m11_, m12_, m13_, m15_, m16_, (by rw [ha.out]; exact putSel_upk 15 hb_ rfl rfl rfl), Q_BW, fun _ h1_ => absurd ((hon 10 (by kernel_rfl)).symm.trans h1_) (by decide), fun _ h1_ => absurd ((hon 10 (by kernel_rfl)).symm.trans h1_) (by decide), fun _ h1_ => absurd ((hon 10 (by kernel_rfl)).symm.trans h1_) (by decide), fun _ h1_ => absurd ((hon 10 (by kernel_rfl)).symm.trans h1_) (by decide), Q_M7, fun _ h1_ => absurd ((hon 17 (by kernel_rfl)).symm.trans h1_) (by decide), fun _ h1_ => absurd ((hon 18 (by kernel_rfl)).symm.trans h1_) (by decide), Q_D12, Q_D13, Q_DP, Q_PX, Q_X2_, Q_X4_, Q_X6_, Q_X7_, Q_X8_, Q_X9_, Q_X10_, Q_X11_, Q_X12_, Q_X13_, Q_X15_, Q_X16_⟩
    exact steps_nil
  rintro b a w' hall ⟨gi, rs, p12, p13, E, k1, k2, m2_, m4_, m6_, m7_, m8_, m9_, m10_, m11_, m12_, m13_, m15_, m16_, ha, Q_BW, Q_TE, Q_K1, Q_K2, Q_BI, Q_M7, Q_P12, Q_P13, Q_D12, Q_D13, Q_DP, Q_PX, Q_X2_, Q_X4_, Q_X6_, Q_X7_, Q_X8_, Q_X9_, Q_X10_, Q_X11_, Q_X12_, Q_X13_, Q_X15_, Q_X16_⟩
  clear BW
  have hb0_ := hall 0 (by kernel_rfl)
  have hb1_ := hall 1 (by kernel_rfl)
  have hb2_ := hall 2 (by kernel_rfl)
  have hb4_ := hall 4 (by kernel_rfl)
  have hb6_ := hall 6 (by kernel_rfl)
  have hb7_ := hall 7 (by kernel_rfl)
  have hb8_ := hall 8 (by kernel_rfl)
  have hb9_ := hall 9 (by kernel_rfl)
  have hb10_ := hall 10 (by kernel_rfl)
  have hb11_ := hall 11 (by kernel_rfl)
  have hb12_ := hall 12 (by kernel_rfl)
  have hb13_ := hall 13 (by kernel_rfl)
  have hb14_ := hall 14 (by kernel_rfl)
  have hb15_ := hall 15 (by kernel_rfl)
  have hb16_ := hall 16 (by kernel_rfl)
  have hb17_ := hall 17 (by kernel_rfl)
  have hb18_ := hall 18 (by kernel_rfl)
  have hb19_ := hall 19 (by kernel_rfl)
  subst ha
  obtain rfl := Q_X2_ hb2_
  obtain rfl := Q_X4_ hb4_
  obtain rfl := Q_X6_ hb6_
  obtain rfl := Q_X7_ hb7_
  obtain rfl := Q_X8_ hb8_
  obtain rfl := Q_X9_ hb9_
  obtain rfl := Q_X10_ hb10_
  obtain rfl := Q_X11_ hb11_
  obtain rfl := Q_X12_ hb12_
  obtain rfl := Q_X13_ hb13_
  obtain rfl := Q_X15_ hb15_
  obtain rfl := Q_X16_ hb16_
  simp only [putSel, hb0_, hb1_, hb2_, hb4_, hb6_, hb7_, hb8_, hb9_, hb10_, hb11_, hb12_, hb13_, hb14_, hb15_, hb16_, hb17_, hb18_, hb19_, if_true, Act.put, List.setIfInBounds_toArray, List.set_cons_zero, List.set_cons_succ]
  have BW := Aside0.mk Q_BW
  clear Q_BW
  clear Q_TE
  clear Q_K1
  clear Q_K2
  clear Q_BI
  have M7 := Aside0.mk (Q_M7 hb10_)
  clear Q_M7
  clear Q_P12
  clear Q_P13
  have D12 := Aside0.mk (Q_D12 hb10_ hb15_)
  clear Q_D12
  have D13 := Aside0.mk (Q_D13 hb10_ hb16_)
  clear Q_D13
  have DP := Aside0.mk (Q_DP hb15_ hb16_)
  clear Q_DP
  have PX := Aside0.mk (Q_PX hb18_)
  clear Q_PX
  clear hall hb0_ hb1_ hb2_ hb4_ hb6_ hb7_ hb8_ hb9_ hb10_ hb11_ hb12_ hb13_ hb14_ hb15_ hb16_ hb17_ hb18_ hb19_
  obtain ⟨lo, hi, B3, d3, B4, d4, E3, f3, E4, f4⟩ := rs
  dsimp only at M7 PX ⊢
  obtain ⟨w3, hw3⟩ : ∃ w3, w3 = w' := ⟨_, rfl⟩
  rw [← hw3] at BW M7 PX ⊢
  clear hw3
  have OA := Aside0.mk PX.out.1
  have R3 := Aside0.mk ((BW.out.block _ (lt_of_block H2.out.2.2.2.1)).trans H2.out.2.2.2.1)
  have HB3 := Aside0.mk (H2.out.1.trans (BW.out.mono H2.out.1.size))
  have cp0 := (cell_of_block (i := 0) OA.out).trans (show _ = some _ from rfl); have cp1 := (cell_of_block (i := 1) OA.out).trans (show _ = some _ from rfl); have cp2 := (cell_of_block (i := 2) OA.out).trans (show _ = some _ from rfl); have cp3 := (cell_of_block (i := 3) OA.out).trans (show _ = some _ from rfl); have cp4 := (cell_of_block (i := 4) OA.out).trans (show _ = some _ from rfl); have zp0 := frozen_of_block (i := 0) OA.out; have zp1 := frozen_of_block (i := 1) OA.out; have zp2 := frozen_of_block (i := 2) OA.out; have zp3 := frozen_of_block (i := 3) OA.out; have zp4 := frozen_of_block (i := 4) OA.out
  have cq0 := (cell_of_block (i := 0) R3.out).trans (show _ = some _ from rfl); have cq1 := (cell_of_block (i := 1) R3.out).trans (show _ = some _ from rfl); have cq2 := (cell_of_block (i := 2) R3.out).trans (show _ = some _ from rfl); have cq3 := (cell_of_block (i := 3) R3.out).trans (show _ = some _ from rfl); have cq4 := (cell_of_block (i := 4) R3.out).trans (show _ = some _ from rfl); have zq0 := frozen_of_block (i := 0) R3.out; have zq1 := frozen_of_block (i := 1) R3.out; have zq2 := frozen_of_block (i := 2) R3.out; have zq3 := frozen_of_block (i := 3) R3.out; have zq4 := frozen_of_block (i := 4) R3.out
  go_wp2_with fail
  obtain ⟨wf, ef, hf, hcf⟩ := set5 (v0 := .int .i64 ow.f0) (v1 := .string ow.f1) (v2 := .string ow.f2) (v3 := .slice E3 ow.f3.length f3) (v4 := .slice E4 ow.f4.length f4) R3.out
  rw [ef]
  have HF := Aside0.mk hf
  have cf0 := (cell_of_block (i := 0) HF.out).trans (show _ = some _ from rfl); have cf1 := (cell_of_block (i := 1) HF.out).trans (show _ = some _ from rfl); have cf2 := (cell_of_block (i := 2) HF.out).trans (show _ = some _ from rfl); have cf3 := (cell_of_block (i := 3) HF.out).trans (show _ = some _ from rfl); have cf4 := (cell_of_block (i := 4) HF.out).trans (show _ = some _ from rfl); have zf0 := frozen_of_block (i := 0) HF.out; have zf1 := frozen_of_block (i := 1) HF.out; have zf2 := frozen_of_block (i := 2) HF.out; have zf3 := frozen_of_block (i := 3) HF.out; have zf4 := frozen_of_block (i := 4) HF.out
  have hbf : Below w.heap.size w wf := HB3.out.trans (hcf.below HB3.out.size (fun k e => by have e' : k = w.heap.size + 1 + 1 := e; omega))
  have hmf := k25.K_of_M (k25.M_move (w1 := wf) (fun k hk => hcf.block k (Nat.lt_of_lt_of_le hk.2 M7.out.2.1) (fun e => by have := M7.out.2.2.1; have := H2.out.2.2.2.2; have e' : k = w.heap.size + 1 + 1 := e; omega)) M7.out.2.2.2)
  have HFIN := Aside0.mk (And.intro hmf hbf)
  clear hbf hmf hcf ef hf cp0 cp1 cp2 cp3 cp4 zp0 zp1 zp2 zp3 zp4 cq0 cq1 cq2 cq3 cq4 zq0 zq1 zq2 zq3 zq4
  refine bodyPost_ret (v := .tuple #[nodeV ow E3 f3 E4 f4, .bool true]) (by simp [results, Try.results31, go_sem, cf0, cf1, cf2, cf3, cf4]) rfl ⟨_, _, _, _, rfl, HFIN.out.1, HFIN.out.2⟩
end Go.Proofs.Ytigpgkfgkjabmaa
