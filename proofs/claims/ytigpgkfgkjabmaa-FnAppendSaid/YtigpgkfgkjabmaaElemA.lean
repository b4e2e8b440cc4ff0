/-
  impl.Elements$1: a list's elements, told in order.
-/
import Derived.Test.YtigpgkfgkjabmaaElements
namespace Go.Proofs.Ytigpgkfgkjabmaa
open Go.RowKit Go.Proofs.YtigpgkfgkjabmaaW.PrintWords Go.Proofs.YtigpgkfgkjabmaaW.PrintLast Go.Proofs.Ytigpgkfgkjabmaa.PFnFields
set_option linter.unusedVariables false
set_option linter.unusedSimpArgs false

section
variable {P : Program} {ops : Array Oper} {o : Oper} {a : Act} {Q : Exit → Act → World → Prop} {Kc : Act → World → Prop} {α : Type}
/-- An element of an owned row is stored, in a region of open order. -/
theorem store_step (d : Kd α) {W : World} (base : Nat) (hw : Region.wanted o (yielded ops a.tmps) = true) (t : TypeId) (p x : Operand) (ho : o.op = .store t p x) (e : TypeId) {g n cap o' : Nat} (i : Int) (j : Nat) (xs : List α) (x' : α) (u : Value) (seg c : List Value) (ok okp : Nat → Prop)
    (haddr : a.eval p = .pointer (some ⟨g, o', none⟩)) (hoff : o' = i.toNat * d.sz + j) (hx : a.eval x = u) (hu : u.cells.toList = seg) (ht : (P.info? t).map (·.size) = some seg.length) (h1 : ∀ q ∈ seg, q.oneCell' = true)
    (HO : d.R e W base ok (.slice (some ⟨g, 0, none⟩) n cap) xs) (h0 : 0 ≤ i) (hi : i < n) (hcl : c.length = d.sz) (hcc : ∀ j u, c[j]? = some u → W.cell? ⟨g, i.toNat * d.sz + j, none⟩ = some u)
    (hj : j + seg.length ≤ d.sz) (hM : d.M W base okp x' (c.take j ++ seg ++ c.drop (j + seg.length))) (hokp : ∀ k, okp k → ok k ∧ k ≠ g)
    (h : ∀ w1, d.R e w1 base ok (.slice (some ⟨g, 0, none⟩) n cap) (xs.set i.toNat x') → W.grownBy w1 (some g) → Kc (a.put o.dst undef) w1) : if Region.wanted o (yielded ops a.tmps) = true then Oper.wp P o a W Kc Q else Kc (a.put o.dst undef) W := by
  rw [if_pos hw]
  subst hoff
  obtain ⟨hrow, hg⟩ := Kd.R_seg HO i h0 hi hcl hcc hj hM hokp
  have hnx : n = xs.length := (Kd.R_reads' HO).1
  obtain ⟨_, inner, hown, hr⟩ := HO
  have hil : i.toNat < n := by omega
  have hrun : (Instr.storeAt t (.pointer (some ⟨g, i.toNat * d.sz + j, none⟩)) u).run P W = .ok () (W.setCells g (i.toNat * d.sz + j) seg) := by
    rcases hown.2 with ⟨hv, _⟩ | ⟨g', cap', cur, hv, hb, hh, hnc, hcm, hcs, _⟩
    · cases hv
    injection hv with ha _ hc
    injection ha with ha
    injection ha with hg'
    subst hg'; subst hc
    refine run_store_run t u seg hh hu ht ?_ h1
    have h2 : i.toNat * d.sz + d.sz ≤ n * d.sz := by rw [← Nat.succ_mul]; exact Nat.mul_le_mul_right _ hil
    have h3 : n * d.sz ≤ cap * d.sz := Nat.mul_le_mul_right _ (by omega)
    omega
  unfold Oper.wp execOp
  simp only [ho, haddr, hx, Sem.run_bind, Sem.run_pure, Result.andThen_ok, hrun]
  exact h _ hrow hg
end
/-- A zero node in a row of its own. -/
theorem row_zero {w : World} {g : Nat} {t : TypeId} (h : w.heap[g]? = some (.cells #[.int .i64 0, .string ⟨#[]⟩, .string ⟨#[]⟩, .slice none 0 0, .slice none 0 0] t (0, 0))) :
    ReadsRow (fun (x : S25) cs => x = z25 ∧ cs = [.int .i64 0, .string ⟨#[]⟩, .string ⟨#[]⟩, .slice none 0 0, .slice none 0 0]) 5 w (some ⟨g, 0, none⟩) 1 [z25] := by
  refine ⟨rfl, by simp, fun _ => ⟨_, rfl, fun j p hp => ?_⟩⟩
  match j, hp with
  | 0, hp =>
    obtain rfl : z25 = p := by simpa using hp
    refine ⟨[.int .i64 0, .string ⟨#[]⟩, .string ⟨#[]⟩, .slice none 0 0, .slice none 0 0], rfl, ⟨rfl, rfl⟩, fun i u hu => ?_⟩
    have ha : (⟨g, 0, none⟩ : Addr).add (0 * 5 + i) = ⟨g, i, none⟩ := by
      cases i <;> simp [Addr.add]
    show w.cell? ((⟨g, 0, none⟩ : Addr).add (0 * 5 + i)) = some u
    rw [ha, cell_of_block h]
    simpa using hu
  | j + 1, hp => simp at hp
theorem rrow_open {w : World} {base : Nat} {cv : Value} {rs : List Nat} (ho : w.ownsRow base 57 1 cv rs.length (ptrs rs)) :
    ∃ (A : Option Addr) (g c : Nat), cv = .slice A rs.length c ∧ (0 < rs.length → A = some ⟨g, 0, none⟩ ∧ base ≤ g) ∧ ∀ i (h : i < rs.length), w.cell? ⟨g, i, none⟩ = some (ptr rs[i]) := by
  by_cases h0 : 0 < rs.length
  · obtain ⟨g, cap, rfl, _, _⟩ := ho.form h0
    refine ⟨_, g, cap, rfl, fun _ => ⟨rfl, own_base ho g rfl⟩, fun i hi => own_cell ho i _ ?_⟩
    simp only [ptrs, List.getElem?_map, List.getElem?_eq_getElem hi, Option.map_some]
  · obtain ⟨A, c, rfl⟩ := own_slice ho
    exact ⟨A, 0, c, rfl, fun h => absurd h h0, fun i hi => absurd (by omega) h0⟩

def elems5.T : Bool × List (List Nat × List Nat) := (true, [([], []), ([], []), ([1], [1]), ([0], [0]), ([], []), ([0, 4, 2, 0, 1, 2, 3, 4], [0, 4]), ([5, 3, 0, 1, 2, 3, 4, 5], [3, 5]), ([6, 2, 5, 0, 1, 2, 3, 4, 5], [2, 6]), ([5, 5, 0, 1, 2, 3, 4, 5], [5])])
def elems5.B : List Nat := [0, 0, 2, 1, 0, 31, 63, 127, 63]
theorem elems5.tab : rtab .any (opsOf Try.f56 5) = elems5.T := by kernel_rfl
theorem elems5.bits : waitsOk elems5.T.2 elems5.B = true := by kernel_rfl
def E1Post (w : World) (o : Nat) (xs : List S25) (e : Ending) (w' : World) : Prop := e = .returned (.bool true) ∧ (∃ iv, w'.heap[o]? = some (.cells #[iv] 23 (0, 0)) ∧ k25.R 25 w' w.heap.size (fun _ => True) iv xs) ∧ Chg (fun k => k = o) w w'
set_option maxRecDepth 100000 in
set_option maxHeartbeats 3200000 in
theorem elems1_calls (x : S25) (hx : Tree x) (h3 : x.f0 = 3) (w : World) (a o : Nat) (A3 : Option Addr) (c3 : Nat) (A4 : Option Addr) (c4 : Nat) (ha : inVar w a x A3 c3 A4 c4) (ho : w.heap[o]? = some (.cells #[.slice none 0 0] 23 (0, 0)))
    (hK : k25.K w x [.int .i64 x.f0, .string x.f1, .string x.f2, .slice A3 x.f3.length c3, .slice A4 x.f4.length c4]) :
    Calls Try.prog 56 #[.pointer (some ⟨a, 0, none⟩), .pointer (some ⟨o, 0, none⟩)] w (E1Post w o x.f4) := by
  have hu := Try.underlying25
  have HX := Aside0.mk (And.intro hx h3)
  have HA := Aside0.mk ha
  have HO := Aside0.mk ho
  have HK := Aside0.mk hK
  have cr0 := (cell_of_block (i := 0) HA.out).trans (show _ = some _ from rfl); have cr1 := (cell_of_block (i := 1) HA.out).trans (show _ = some _ from rfl); have cr2 := (cell_of_block (i := 2) HA.out).trans (show _ = some _ from rfl); have cr3 := (cell_of_block (i := 3) HA.out).trans (show _ = some _ from rfl); have cr4 := (cell_of_block (i := 4) HA.out).trans (show _ = some _ from rfl); have zr0 := frozen_of_block (i := 0) HA.out; have zr1 := frozen_of_block (i := 1) HA.out; have zr2 := frozen_of_block (i := 2) HA.out; have zr3 := frozen_of_block (i := 3) HA.out; have zr4 := frozen_of_block (i := 4) HA.out
  clear ha ho hK hx h3
  go_enter Try.func56, Try.ntmps56
  go_wp2_with fail
  refine (rnodeOf_calls 6 x w [.int .i64 x.f0, .string x.f1, .string x.f2, .slice A3 x.f3.length c3, .slice A4 x.f4.length c4] HK.out (HX.out.1.1.sh HX.out.1.2)).mono ?_
  rintro e w1 ⟨r, b, rfl, hr, hrl, hy, hb1⟩
  have hl := HX.out.1.1.live
  have hlen := HX.out.1.1.len
  have hlen2 : nodes (5 + 1) x ≤ 60 := HX.out.1.2
  rw [toY_three HX.out.2] at hy hl
  obtain ⟨hF, cv, bs, hn, hor, hfo, hyl⟩ := hy.open_
  simp only [Y.kind, Y.tag, Y.value, Y.content] at hn hyl
  obtain ⟨A, g, c, rfl, hA, hcell⟩ := row_open hor
  have hbl : bs.length = x.f4.length := by simpa using hyl.length
  have hyl2 : YL w1 (fun k => w.heap.size ≤ k ∧ k < w1.heap.size) bs (x.f4.map (toY 5)) := hyl.lt.mono (fun k q => ⟨q.1.1.1, q.2⟩)
  have H1 := Aside0.mk (And.intro hr (And.intro hrl hb1))
  have HL := Aside0.mk (And.intro hn (And.intro hl (And.intro hA hcell)))
  have HY := Aside0.mk hyl2
  have HB := Aside0.mk (And.intro hbl (by omega : x.f4.length ≤ 60))
  clear hr hrl hy hb1 cr0 cr1 cr2 cr3 cr4 zr0 zr1 zr2 zr3 zr4 hl hlen hlen2 hF hn hor hfo hyl hyl2 hA hcell hbl
  go_wp2_with fail
  refine (relements_calls w1 r b _ _ A g c bs H1.out.1 HL.out.1 HL.out.2.1 HL.out.2.2.1 (by have := HB.out; omega) HL.out.2.2.2).mono ?_
  rintro e w2 ⟨hb2, cv2, rs, rfl, hE1, hE2, hE3⟩
  obtain ⟨A2, g2, c2, rfl, hA2, hcell2⟩ := rrow_open hE1
  have hg2l : 0 < rs.length → g2 < w2.heap.size := fun h => World.block_lt_of_cell? w2 _ (hcell2 0 h)
  have hob : o < w.heap.size := lt_of_block HO.out
  have hs1 := H1.out.2.2.size
  have hs2 := hb2.size
  have hho : w2.heap[o]? = some (.cells #[.slice none 0 0] 23 (0, 0)) := (hb2.block o (by omega)).trans ((H1.out.2.2.block o hob).trans HO.out)
  have HE := Aside0.mk (And.intro hA2 (And.intro hcell2 (And.intro hE2 (And.intro hE3 hg2l))))
  have HY2 := Aside0.mk (HY.out.below hb2)
  have HW := Aside0.mk (And.intro (H1.out.2.2.trans (hb2.mono hs1)) (And.intro hob (And.intro hs1 (And.intro hs2 hho))))
  have HN : Aside0 (rs.length = x.f4.length) := ⟨hE2.trans HB.out.1⟩
  have HBC := Aside0.mk H1.out.2.2
  clear hb2 hE1 hE2 hE3 hA2 hcell2 hg2l hob hs1 hs2 hho HY HL
  go_wp2
  go_loopg [15] rs.length (fun k i wr => ∃ (j : Nat) (B : Option Addr) (d : Nat), i = .int .i64 j ∧ Aside0 (j ≤ rs.length ∧ k + j = rs.length) ∧ Aside0 (wr.heap[o]? = some (.cells #[.slice B j d] 23 (0, 0))) ∧ Aside0 (k25.R 25 wr w2.heap.size (fun _ => True) (.slice B j d) (x.f4.take j)) ∧ Aside0 (Chg (fun k => k = o ∨ w2.heap.size ≤ k) w2 wr))
  case atStart => exact ⟨0, none, 0, rfl, ⟨by simp⟩, ⟨HW.out.2.2.2.2⟩, ⟨Kd.R_nil _ _ _ _ _⟩, ⟨Chg.refl _ _⟩⟩
  case round =>
    obtain ⟨j, B, d, rfl, HJ, HOW, HIS, HCH⟩ := hrel
    have hq0 : (0 : Int) ≤ (j : Int) := Int.natCast_nonneg _
    have hq1 : (j : Int) ≤ 4000 := by have := HB.out.2; have := HN.out; have := HJ.out; omega
    by_cases hj : j < rs.length
    · have hjd : decide ((j : Int) < (rs.length : Int)) = true := by simp; omega
      obtain ⟨rfl, hg2⟩ := HE.out.1 (by omega)
      have hjx : j < x.f4.length := by have := HN.out; omega
      obtain ⟨y, hy⟩ : ∃ y, y = x.f4[j] := ⟨_, rfl⟩
      obtain ⟨rj, hrj⟩ : ∃ p, p = rs[j] := ⟨_, rfl⟩
      obtain ⟨b5, F5, eb5, hF5, hy5⟩ := HY2.out.get j (by simpa using hjx)
      have hrn := HE.out.2.2.2.1 j hj
      rw [← hrj, List.getD_eq_getElem?_getD, eb5] at hrn
      simp only [List.getElem_map, ← hy] at hy5
      have hyt : Tree y := HX.out.1.item (by rw [hy]; exact List.getElem_mem _)
      have hwf : Wf 5 y := HX.out.1.1.items (d := 5) y (by rw [hy]; exact List.getElem_mem _)
      have hwn : nodes 5 y ≤ 60 := by
        have h1 := nodes_item (d := 5) (x := x) (y := y) (by rw [hy]; exact List.getElem_mem _)
        have h2 : nodes (5 + 1) x ≤ 60 := HX.out.1.2
        omega
      have hcj := HCH.out.cell_of (HE.out.2.1 j hj) (fun q => by
        have h1 := HE.out.2.2.2.2 (by omega)
        have h2 := HW.out
        rcases q with q | q
        · have q' : g2 = o := q; omega
        · have q' : w2.heap.size ≤ g2 := q; omega)
      rw [← hrj] at hcj
      have HTE : Aside0 (∀ wa, Chg (fun k => k = o ∨ w2.heap.size ≤ k) w2 wa → Holds wa (some rj) y) := ⟨fun wa hc => by
        refine holds_tree hwf hwn (hrn.move (fun hlt => hc.block _ hlt (fun q => ?_))) (hy5.chg hc (fun k hk q => ?_))
        · rcases q with q | q
          · obtain ⟨_, _, _, hh⟩ := hrn
            rw [q, HW.out.2.2.2.2] at hh
            simp at hh
          · omega
        · have h1 := hF5 k hk
          have h2 := HW.out
          rcases q with q | q
          · omega
          · omega⟩
      have HYJ := Aside0.mk hy
      clear hy hrj eb5 hF5 hy5 hrn hyt hwf hwn hg2
      have hol : o < wr.heap.size := lt_of_block HOW.out
      have hsw := HCH.out.size
      have HSW := Aside0.mk (And.intro hol hsw)
      clear hol hsw
      go_wp2_with fail
      have BW : Aside0 (Below wr.heap.size wr wr.drew) := ⟨(Below.refl _ _).drew⟩
      refine start_ (n := 9) (S := fun w' => True) (ds := []) #[false, false, false, false, false, false, false, false, false] (by kernel_rfl) rfl rfl trivial (fun hHeld => ?_)
      refine with_tabW (T := elems5.T) (B := elems5.B) elems5.tab elems5.bits (fun HT_ HW_ => ?_)
      refine pure_ (i := 1) (N := some 20) (v := ?_) (a' := ?_) #[false, true, false, false, false, false, false, false, false] rfl rfl (any_of HT_.out (by kernel_rfl)) (fun _ _ _ h => h) (Or.inl ⟨by rfl, ?_⟩) ?_ ?_
      rotate_left
      · intro w'
        go_simp
        with_reducible rfl
      rotate_left
      · simp only [Act.put, List.setIfInBounds_toArray, List.set_cons_zero, List.set_cons_succ, i64_w, i32_w]
        rfl
      refine inv_at [0, 2, 3, 4, 5, 6, 7, 8] (fun a0_ b a w' => ∃ (g4 : Nat) (g5 : Nat) (c5 : Nat) (lo : Nat) (hi : Nat) (T3 : Option Addr) (T4 : Option Addr) (e3 : Nat) (e4 : Nat) (m2_ : Value) (m4_ : Value) (m5_ : Value) (m6_ : Value), a = putSel a0_ b [(0, 19, .slice B j d), (2, 21, m2_), (3, 22, .int .i64 j), (4, 23, m4_), (5, 24, m5_), (6, 25, m6_)] ∧ (b 5 = false → Below wr.heap.size wr w') ∧ (b 5 = true → Chg (fun k => k = o ∨ some k = (Value.slice B j d).ownBlock) wr w') ∧ (b 2 = true → wr.heap.size ≤ lo ∧ lo ≤ hi ∧ hi ≤ w'.heap.size ∧ k25.M w' lo (fun k => lo ≤ k ∧ k < hi) y [.int .i64 y.f0, .string y.f1, .string y.f2, .slice T3 y.f3.length e3, .slice T4 y.f4.length e4]) ∧ (b 4 = true → b 5 = false → w'.heap[g4]? = some (.cells #[.int .i64 0, .string ⟨#[]⟩, .string ⟨#[]⟩, .slice none 0 0, .slice none 0 0] 25 (0, 0))) ∧ (b 5 = true → b 7 = false → k25.R 25 w' w2.heap.size (fun _ => True) (.slice (some ⟨g5, 0, none⟩) (j + 1) c5) (x.f4.take j ++ [z25])) ∧ (b 5 = true → (g5 < lo ∨ hi ≤ g5) ∧ w2.heap.size ≤ g5 ∧ (wr.heap.size ≤ g5 ∨ some g5 = (Value.slice B j d).ownBlock)) ∧ (b 7 = true → k25.R 25 w' w2.heap.size (fun _ => True) (.slice (some ⟨g5, 0, none⟩) (j + 1) c5) (x.f4.take j ++ [y])) ∧ (b 5 = true → b 8 = false → w'.heap[o]? = some (.cells #[.slice B j d] 23 (0, 0))) ∧ (b 8 = true → w'.heap[o]? = some (.cells #[.slice (some ⟨g5, 0, none⟩) (j + 1) c5] 23 (0, 0))) ∧ (b 2 = true → (m2_ : Value) = nodeV y T3 e3 T4 e4) ∧ (b 4 = true → (m4_ : Value) = .slice (some ⟨g4, 0, none⟩) 1 1) ∧ (b 5 = true → (m5_ : Value) = .slice (some ⟨g5, 0, none⟩) (j + 1) c5) ∧ (b 6 = true → (m6_ : Value) = .pointer (some ⟨g5, j * 5, none⟩))) HT_.out HW_.out (by kernel_rfl) (by kernel_rfl) ?_ ?_ ?_
      · exact ⟨0, 0, 0, 0, 0, none, none, 0, 0, .bool false, .bool false, .bool false, .bool false, by simp only [putSel, Bool.false_eq_true, if_false], fun _ => BW.out, fun h_ => absurd h_ (by decide), fun h_ => absurd h_ (by decide), fun h_ => absurd h_ (by decide), fun h_ => absurd h_ (by decide), fun h_ => absurd h_ (by decide), fun h_ => absurd h_ (by decide), fun h_ => absurd h_ (by decide), fun h_ => absurd h_ (by decide), fun h_ => absurd h_ (by decide), fun h_ => absurd h_ (by decide), fun h_ => absurd h_ (by decide), fun h_ => absurd h_ (by decide)⟩
      · skip
        clear BW
        refine steps_cons ?_ ?_
        · rintro b a w' ⟨g4, g5, c5, lo, hi, T3, T4, e3, e4, m2_, m4_, m5_, m6_, ha, Q_BW, Q_BC, Q_T2, Q_B4, Q_I5, Q_D5, Q_I7, Q_O5, Q_O8, Q_X2_, Q_X4_, Q_X5_, Q_X6_⟩ hb_ hon hoff
          refine ⟨_, rfl, fun K hK => ?_⟩
          have e1 : a.tmps[1]? = some (.pointer (some ⟨o, 0, none⟩)) := by rw [ha]; exact (putSel_off rfl).trans rfl
          replace ha := Aside0.mk ha
          have BW := Aside0.mk (Q_BW (hoff 5 (by kernel_rfl)))
          have co : w'.cell? ⟨o, 0, none⟩ = some (.slice B j d) := by rw [cell_of_block ((BW.out.block _ HSW.out.1).trans HOW.out)]; rfl
          refine value_ (w1 := w') (v := .slice B j d) (by rfl) rfl ?_ ?_
          · go_simp
            (try simp only [i64_w])
            try rfl
          refine hK.out _ _ ⟨g4, g5, c5, lo, hi, T3, T4, e3, e4, m2_, m4_, m5_, m6_, (by rw [ha.out]; exact putSel_upk 0 hb_ rfl rfl rfl), Q_BW, fun h0_ => absurd ((hoff 5 (by kernel_rfl)).symm.trans h0_) (by decide), Q_T2, Q_B4, fun h0_ _ => absurd ((hoff 5 (by kernel_rfl)).symm.trans h0_) (by decide), fun h0_ => absurd ((hoff 5 (by kernel_rfl)).symm.trans h0_) (by decide), fun h0_ => absurd ((hoff 7 (by kernel_rfl)).symm.trans h0_) (by decide), fun h0_ _ => absurd ((hoff 5 (by kernel_rfl)).symm.trans h0_) (by decide), fun h0_ => absurd ((hoff 8 (by kernel_rfl)).symm.trans h0_) (by decide), Q_X2_, Q_X4_, fun h0_ => absurd ((hoff 5 (by kernel_rfl)).symm.trans h0_) (by decide), fun h0_ => absurd ((hoff 6 (by kernel_rfl)).symm.trans h0_) (by decide)⟩
        refine steps_cons ?_ ?_
        · rintro b a w' ⟨g4, g5, c5, lo, hi, T3, T4, e3, e4, m2_, m4_, m5_, m6_, ha, Q_BW, Q_BC, Q_T2, Q_B4, Q_I5, Q_D5, Q_I7, Q_O5, Q_O8, Q_X2_, Q_X4_, Q_X5_, Q_X6_⟩ hb_ hon hoff
          refine ⟨_, rfl, fun K hK => ?_⟩
          have e20 : a.tmps[20]? = some (ptr rj) := by rw [ha]; exact (putSel_off rfl).trans rfl
          replace ha := Aside0.mk ha
          have BW := Aside0.mk (Q_BW (hoff 5 (by kernel_rfl)))
          refine goes_ Try.func45 (by kernel_rfl) rfl #[ptr rj] (by rfl) rfl rfl (by first | (simp only [List.map_toArray, List.map_cons, List.map_nil, Act.eval, Array.getD_eq_getD_getElem?, Option.getD_some, e20]; done) | (simp only [List.map_toArray, List.map_cons, List.map_nil, Act.eval, Array.getD_eq_getD_getElem?, Option.getD_some, e20]; rfl)) ?_
          refine (toldO_calls w' (some rj) y (HTE.out w' (HCH.out.trans (Chg.of_below BW.out) (fun _ (q : False) => q.elim)))).mono ?_
          rintro e w3 ⟨T3n, e3n, T4n, e4n, rfl, hm3, hb3⟩
          refine ⟨_, rfl, ?_⟩
          refine hK.out _ _ ⟨g4, g5, c5, w'.heap.size, w3.heap.size, T3n, T4n, e3n, e4n, (nodeV y T3n e3n T4n e4n), m4_, m5_, m6_, (by rw [ha.out]; exact putSel_upk 1 hb_ rfl rfl rfl), fun _ => BW.out.trans (hb3.mono BW.out.size), fun h0_ => absurd ((hoff 5 (by kernel_rfl)).symm.trans h0_) (by decide), fun _ => ⟨BW.out.size, hb3.size, Nat.le_refl _, k25.M_mono (fun k hk => ⟨hk.2.1, hk.2.2.1⟩) (k25.M_bound hm3)⟩, fun h0_ h1_ => (hb3.block _ (lt_of_block (Q_B4 h0_ h1_))).trans (Q_B4 h0_ h1_), fun h0_ _ => absurd ((hoff 5 (by kernel_rfl)).symm.trans h0_) (by decide), fun h0_ => absurd ((hoff 5 (by kernel_rfl)).symm.trans h0_) (by decide), fun h0_ => absurd ((hoff 7 (by kernel_rfl)).symm.trans h0_) (by decide), fun h0_ _ => absurd ((hoff 5 (by kernel_rfl)).symm.trans h0_) (by decide), fun h0_ => absurd ((hoff 8 (by kernel_rfl)).symm.trans h0_) (by decide), fun _ => rfl, Q_X4_, fun h0_ => absurd ((hoff 5 (by kernel_rfl)).symm.trans h0_) (by decide), fun h0_ => absurd ((hoff 6 (by kernel_rfl)).symm.trans h0_) (by decide)⟩
        refine steps_cons ?_ ?_
        · rintro b a w' ⟨g4, g5, c5, lo, hi, T3, T4, e3, e4, m2_, m4_, m5_, m6_, ha, Q_BW, Q_BC, Q_T2, Q_B4, Q_I5, Q_D5, Q_I7, Q_O5, Q_O8, Q_X2_, Q_X4_, Q_X5_, Q_X6_⟩ hb_ hon hoff
          refine ⟨_, rfl, fun K hK => ?_⟩
          have e19 : a.tmps[19]? = some (.slice B j d) := by rw [ha]; exact putSel_on (e := (0, 19, .slice B j d)) 0 rfl rfl (hon 0 (by kernel_rfl)) rfl
          replace ha := Aside0.mk ha
          have BW := Aside0.mk (Q_BW (hoff 5 (by kernel_rfl)))
          refine value_ (w1 := w') (v := .int .i64 j) (by rfl) rfl ?_ ?_
          · go_simp
            (try simp only [i64_w])
            try rfl
          refine hK.out _ _ ⟨g4, g5, c5, lo, hi, T3, T4, e3, e4, m2_, m4_, m5_, m6_, (by rw [ha.out]; exact putSel_upk 2 hb_ rfl rfl rfl), Q_BW, fun h0_ => absurd ((hoff 5 (by kernel_rfl)).symm.trans h0_) (by decide), Q_T2, Q_B4, fun h0_ _ => absurd ((hoff 5 (by kernel_rfl)).symm.trans h0_) (by decide), fun h0_ => absurd ((hoff 5 (by kernel_rfl)).symm.trans h0_) (by decide), fun h0_ => absurd ((hoff 7 (by kernel_rfl)).symm.trans h0_) (by decide), fun h0_ _ => absurd ((hoff 5 (by kernel_rfl)).symm.trans h0_) (by decide), fun h0_ => absurd ((hoff 8 (by kernel_rfl)).symm.trans h0_) (by decide), Q_X2_, Q_X4_, fun h0_ => absurd ((hoff 5 (by kernel_rfl)).symm.trans h0_) (by decide), fun h0_ => absurd ((hoff 6 (by kernel_rfl)).symm.trans h0_) (by decide)⟩
        refine steps_cons ?_ ?_
        · rintro b a w' ⟨g4, g5, c5, lo, hi, T3, T4, e3, e4, m2_, m4_, m5_, m6_, ha, Q_BW, Q_BC, Q_T2, Q_B4, Q_I5, Q_D5, Q_I7, Q_O5, Q_O8, Q_X2_, Q_X4_, Q_X5_, Q_X6_⟩ hb_ hon hoff
          refine ⟨_, rfl, fun K hK => ?_⟩
          replace ha := Aside0.mk ha
          have BW := Aside0.mk (Q_BW (hoff 5 (by kernel_rfl)))
          have hb3 : Below w'.heap.size w' (w'.alloc (.cells #[.int .i64 0, .string ⟨#[]⟩, .string ⟨#[]⟩, .slice none 0 0, .slice none 0 0] 25)) := (Below.refl _ _).alloc (Nat.le_refl _) _
          have hn3 : (w'.alloc (.cells #[.int .i64 0, .string ⟨#[]⟩, .string ⟨#[]⟩, .slice none 0 0, .slice none 0 0] 25)).heap[w'.heap.size]? = some (.cells #[.int .i64 0, .string ⟨#[]⟩, .string ⟨#[]⟩, .slice none 0 0, .slice none 0 0] 25 (0, 0)) := heap_at _ rfl
          refine value_ (w1 := w'.alloc (.cells #[.int .i64 0, .string ⟨#[]⟩, .string ⟨#[]⟩, .slice none 0 0, .slice none 0 0] 25)) (v := .slice (some ⟨w'.heap.size, 0, none⟩) 1 1) (by rfl) rfl ?_ ?_
          · go_simp
          refine hK.out _ _ ⟨w'.heap.size, g5, c5, lo, hi, T3, T4, e3, e4, m2_, (.slice (some ⟨w'.heap.size, 0, none⟩) 1 1), m5_, m6_, (by rw [ha.out]; exact putSel_upk 3 hb_ rfl rfl rfl), fun _ => BW.out.trans (hb3.mono BW.out.size), fun h0_ => absurd ((hoff 5 (by kernel_rfl)).symm.trans h0_) (by decide), fun h0_ => ⟨(Q_T2 h0_).1, (Q_T2 h0_).2.1, Nat.le_trans (Q_T2 h0_).2.2.1 hb3.size, k25.M_move (fun k hk => hb3.block k (Nat.lt_of_lt_of_le hk.2 (Q_T2 h0_).2.2.1)) (Q_T2 h0_).2.2.2⟩, fun _ _ => hn3, fun h0_ _ => absurd ((hoff 5 (by kernel_rfl)).symm.trans h0_) (by decide), fun h0_ => absurd ((hoff 5 (by kernel_rfl)).symm.trans h0_) (by decide), fun h0_ => absurd ((hoff 7 (by kernel_rfl)).symm.trans h0_) (by decide), fun h0_ _ => absurd ((hoff 5 (by kernel_rfl)).symm.trans h0_) (by decide), fun h0_ => absurd ((hoff 8 (by kernel_rfl)).symm.trans h0_) (by decide), Q_X2_, fun _ => rfl, fun h0_ => absurd ((hoff 5 (by kernel_rfl)).symm.trans h0_) (by decide), fun h0_ => absurd ((hoff 6 (by kernel_rfl)).symm.trans h0_) (by decide)⟩
        refine steps_cons ?_ ?_
        · rintro b a w' ⟨g4, g5, c5, lo, hi, T3, T4, e3, e4, m2_, m4_, m5_, m6_, ha, Q_BW, Q_BC, Q_T2, Q_B4, Q_I5, Q_D5, Q_I7, Q_O5, Q_O8, Q_X2_, Q_X4_, Q_X5_, Q_X6_⟩ hb_ hon hoff
          refine ⟨_, rfl, fun K hK => ?_⟩
          have e19 : a.tmps[19]? = some (.slice B j d) := by rw [ha]; exact putSel_on (e := (0, 19, .slice B j d)) 0 rfl rfl (hon 0 (by kernel_rfl)) rfl
          have e23 : a.tmps[23]? = some (m4_) := by rw [ha]; exact putSel_on (e := (4, 23, m4_)) 3 rfl rfl (hon 4 (by kernel_rfl)) rfl
          rw [Q_X4_ (hon 4 (by kernel_rfl))] at e23
          replace ha := Aside0.mk ha
          have BW := Aside0.mk (Q_BW hb_)
          have T2 := Aside0.mk (Q_T2 (hon 2 (by kernel_rfl)))
          have B4 := Aside0.mk (Q_B4 (hon 4 (by kernel_rfl)) hb_)
          have hr0 := R_upd (w1 := w') HIS.out (fun k _ _ hk => BW.out.block k hk)
          refine Kd.R_append_rows_step k25 (w0 := w') w2.heap.size (by rfl) (.tmp 19) (.tmp 23) 23 25 (.agg #[.int .i64 0, .string ⟨#[]⟩, .string ⟨#[]⟩, .slice none 0 0, .slice none 0 0]) 88 rfl Try.underlying23 Try.infoNode rfl (by show 0 < 5; decide) (by decide) (.slice B j d) (x.f4.take j) [z25] (some ⟨g4, 0, none⟩) 1 1 (fun _ => True) (fun _ => False) (eval_of e19) (eval_of e23) hr0 (row_zero B4.out) (fun x0 cs h => by obtain ⟨rfl, rfl⟩ := h; exact k25_mkM w' _ _ z25 (Kd.R_nil _ _ _ _ _) (Kd.R_nil _ _ _ _ _)) (fun _ h => h.elim) (fun _ _ => trivial) (Below.refl _ _) (Nat.le_trans HSW.out.2 BW.out.size) (by have := HB.out; have := List.length_take_le j x.f4; omega) ?_
          intro v1 w3 hr1 _ hg1 hat1
          obtain ⟨inner1, ho1⟩ := Kd.R_own hr1
          obtain ⟨g5n, c5n, hv1, _, _⟩ := ho1.form (by simp)
          have hlen1 : (x.f4.take j ++ [z25]).length = j + 1 := by rw [List.length_append, List.length_take, Nat.min_eq_left (Nat.le_of_lt hjx)]; rfl
          rw [hlen1] at hv1
          subst hv1
          have hbase1 : w2.heap.size ≤ g5n := (R_own hr1 g5n rfl).1
          have hown0 : ∀ k, (Value.slice B j d).ownBlock = some k → k < wr.heap.size := fun k hk => (R_own HIS.out k hk).2.1
          have hd5 : (g5n < lo ∨ hi ≤ g5n) ∧ w2.heap.size ≤ g5n ∧ (wr.heap.size ≤ g5n ∨ some g5n = (Value.slice B j d).ownBlock) := by
            have ht := T2.out
            have hbs := BW.out.size
            rcases hat1 with h | ⟨b', h, hl⟩
            · have := hown0 g5n (h.symm.trans rfl)
              exact ⟨.inl (by omega), hbase1, .inr h⟩
            · have q : g5n = b' := Option.some.inj (show some g5n = some b' from h)
              exact ⟨.inr (by omega), hbase1, .inl (by omega)⟩
          have hbc : Chg (fun k => k = o ∨ some k = (Value.slice B j d).ownBlock) wr w3 := (Chg.of_below BW.out).grown hg1 (fun k e => .inl (.inr e.symm))
          have hoo : w3.heap[o]? = some (.cells #[.slice B j d] 23 (0, 0)) := (hg1.block o (Nat.lt_of_lt_of_le HSW.out.1 BW.out.size) (fun e => by have h1 := (R_own HIS.out o e.symm).1; have h2 := HW.out; omega)).trans ((BW.out.block o HSW.out.1).trans HOW.out)
          refine hK.out _ _ ⟨g4, g5n, c5n, lo, hi, T3, T4, e3, e4, m2_, m4_, (.slice (some ⟨g5n, 0, none⟩) (j + 1) c5n), m6_, (by rw [ha.out]; exact putSel_upk 4 hb_ rfl rfl rfl), fun h0_ => absurd ((up_self b 5).symm.trans h0_) (by decide), fun _ => hbc, fun _ => ⟨T2.out.1, T2.out.2.1, Nat.le_trans T2.out.2.2.1 hg1.size, k25.M_move (fun k hk => hg1.block k (Nat.lt_of_lt_of_le hk.2 T2.out.2.2.1) (fun e => by have h1 := hown0 k e.symm; have h2 := T2.out.1; have h3 := hk.1; omega)) T2.out.2.2.2⟩, fun _ h1_ => absurd ((up_self b 5).symm.trans h1_) (by decide), fun _ _ => hr1, fun _ => hd5, fun h0_ => absurd ((hoff 7 (by kernel_rfl)).symm.trans h0_) (by decide), fun _ _ => hoo, fun h0_ => absurd ((hoff 8 (by kernel_rfl)).symm.trans h0_) (by decide), Q_X2_, Q_X4_, fun _ => rfl, fun h0_ => absurd ((hoff 6 (by kernel_rfl)).symm.trans h0_) (by decide)⟩
        refine steps_cons ?_ ?_
        · rintro b a w' ⟨g4, g5, c5, lo, hi, T3, T4, e3, e4, m2_, m4_, m5_, m6_, ha, Q_BW, Q_BC, Q_T2, Q_B4, Q_I5, Q_D5, Q_I7, Q_O5, Q_O8, Q_X2_, Q_X4_, Q_X5_, Q_X6_⟩ hb_ hon hoff
          refine ⟨_, rfl, fun K hK => ?_⟩
          have e24 : a.tmps[24]? = some (m5_) := by rw [ha]; exact putSel_on (e := (5, 24, m5_)) 4 rfl rfl (hon 5 (by kernel_rfl)) rfl
          rw [Q_X5_ (hon 5 (by kernel_rfl))] at e24
          have e22 : a.tmps[22]? = some (.int .i64 j) := by rw [ha]; exact putSel_on (e := (3, 22, .int .i64 j)) 2 rfl rfl (hon 3 (by kernel_rfl)) rfl
          replace ha := Aside0.mk ha
          have BC := Aside0.mk (Q_BC (hon 5 (by kernel_rfl)))
          have T2 := Aside0.mk (Q_T2 (hon 2 (by kernel_rfl)))
          have I5 := Aside0.mk (Q_I5 (hon 5 (by kernel_rfl)) (hoff 7 (by kernel_rfl)))
          have D5 := Aside0.mk (Q_D5 (hon 5 (by kernel_rfl)))
          have hjj : ¬ ((j : Int) + 1 ≤ (j : Int)) := by omega
          refine value_ (w1 := w') (v := .pointer (some ⟨g5, j * 5, none⟩)) (by rfl) rfl ?_ ?_
          · go_simp
            (try simp only [i64_w])
            try rfl
          refine hK.out _ _ ⟨g4, g5, c5, lo, hi, T3, T4, e3, e4, m2_, m4_, m5_, (.pointer (some ⟨g5, j * 5, none⟩)), (by rw [ha.out]; exact putSel_upk 5 hb_ rfl rfl rfl), fun h0_ => absurd ((hon 5 (by kernel_rfl)).symm.trans h0_) (by decide), Q_BC, Q_T2, fun _ h1_ => absurd ((hon 5 (by kernel_rfl)).symm.trans h1_) (by decide), Q_I5, Q_D5, fun h0_ => absurd ((hoff 7 (by kernel_rfl)).symm.trans h0_) (by decide), Q_O5, Q_O8, Q_X2_, Q_X4_, Q_X5_, fun _ => rfl⟩
        refine steps_cons ?_ ?_
        · rintro b a w' ⟨g4, g5, c5, lo, hi, T3, T4, e3, e4, m2_, m4_, m5_, m6_, ha, Q_BW, Q_BC, Q_T2, Q_B4, Q_I5, Q_D5, Q_I7, Q_O5, Q_O8, Q_X2_, Q_X4_, Q_X5_, Q_X6_⟩ hb_ hon hoff
          refine ⟨_, rfl, fun K hK => ?_⟩
          have e25 : a.tmps[25]? = some (m6_) := by rw [ha]; exact putSel_on (e := (6, 25, m6_)) 5 rfl rfl (hon 6 (by kernel_rfl)) rfl
          rw [Q_X6_ (hon 6 (by kernel_rfl))] at e25
          have e21 : a.tmps[21]? = some (m2_) := by rw [ha]; exact putSel_on (e := (2, 21, m2_)) 1 rfl rfl (hon 2 (by kernel_rfl)) rfl
          rw [Q_X2_ (hon 2 (by kernel_rfl))] at e21
          replace ha := Aside0.mk ha
          have BC := Aside0.mk (Q_BC (hon 5 (by kernel_rfl)))
          have T2 := Aside0.mk (Q_T2 (hon 2 (by kernel_rfl)))
          have I5 := Aside0.mk (Q_I5 (hon 5 (by kernel_rfl)) hb_)
          have D5 := Aside0.mk (Q_D5 (hon 5 (by kernel_rfl)))
          obtain ⟨cc, hcl, _, hcc, _⟩ := Kd.R_elem I5.out z25 (j : Int) (by omega) (by omega)
          refine store_step k25 w2.heap.size (by rfl) 25 (.tmp 25) (.tmp 21) rfl 25 (j : Int) 0 (x.f4.take j ++ [z25]) y (nodeV y T3 e3 T4 e4) [.int .i64 y.f0, .string y.f1, .string y.f2, .slice T3 y.f3.length e3, .slice T4 y.f4.length e4] cc (fun _ => True) (fun k => lo ≤ k ∧ k < hi) (eval_of e25) (by show j * 5 = (j : Int).toNat * 5 + 0; rw [Int.toNat_natCast]; rfl) (eval_of e21) rfl (by kernel_rfl) (by simp [Value.oneCell']) I5.out (by omega) (by omega) hcl hcc (by show 0 + 5 ≤ 5; omega) ?hM (fun k hk => ⟨trivial, fun e => by have h1 := D5.out.1; omega⟩) ?_
          case hM =>
            rw [List.take_zero, List.nil_append, List.drop_eq_nil_of_le (by rw [hcl]; exact Nat.le_refl _), List.append_nil]
            exact k25.M_lower (Nat.le_trans HSW.out.2 T2.out.1) T2.out.2.2.2
          intro w3 hr3 hg3
          have hset : (x.f4.take j ++ [z25]).set (j : Int).toNat y = x.f4.take j ++ [y] := by
            rw [Int.toNat_natCast, List.set_append_right _ _ (by rw [List.length_take]; omega), List.length_take, Nat.min_eq_left (Nat.le_of_lt hjx), Nat.sub_self]
            rfl
          rw [hset] at hr3
          have hog : o ≠ g5 := by have h1 := D5.out.2.1; have h2 := HW.out; omega
          clear hset hcl hcc
          refine hK.out _ _ ⟨g4, g5, c5, lo, hi, T3, T4, e3, e4, m2_, m4_, m5_, m6_, (by rw [ha.out]; exact putSel_none (v := undef) rfl), fun h0_ => absurd ((hon 5 (by kernel_rfl)).symm.trans h0_) (by decide), fun _ => BC.out.grown hg3 (fun k e => by have e' : g5 = k := Option.some.inj e; subst e'; exact D5.out.2.2.elim .inr (fun q => .inl (.inr q))), fun _ => ⟨T2.out.1, T2.out.2.1, Nat.le_trans T2.out.2.2.1 hg3.size, k25.M_move (fun k hk => hg3.block k (Nat.lt_of_lt_of_le hk.2 T2.out.2.2.1) (fun e => by have e' : k = g5 := Option.some.inj e; have h1 := D5.out.1; omega)) T2.out.2.2.2⟩, fun _ h1_ => absurd ((hon 5 (by kernel_rfl)).symm.trans h1_) (by decide), fun _ h1_ => absurd ((up_self b 7).symm.trans h1_) (by decide), fun _ => D5.out, fun _ => hr3, fun h0_ h1_ => (hg3.block o (lt_of_block (Q_O5 h0_ h1_)) (fun e => hog (by simpa using e))).trans (Q_O5 h0_ h1_), fun h0_ => (hg3.block o (lt_of_block (Q_O8 h0_)) (fun e => hog (by simpa using e))).trans (Q_O8 h0_), Q_X2_, Q_X4_, Q_X5_, Q_X6_⟩
        refine steps_cons ?_ ?_
        · rintro b a w' ⟨g4, g5, c5, lo, hi, T3, T4, e3, e4, m2_, m4_, m5_, m6_, ha, Q_BW, Q_BC, Q_T2, Q_B4, Q_I5, Q_D5, Q_I7, Q_O5, Q_O8, Q_X2_, Q_X4_, Q_X5_, Q_X6_⟩ hb_ hon hoff
          refine ⟨_, rfl, fun K hK => ?_⟩
          have e1 : a.tmps[1]? = some (.pointer (some ⟨o, 0, none⟩)) := by rw [ha]; exact (putSel_off rfl).trans rfl
          have e24 : a.tmps[24]? = some (m5_) := by rw [ha]; exact putSel_on (e := (5, 24, m5_)) 4 rfl rfl (hon 5 (by kernel_rfl)) rfl
          rw [Q_X5_ (hon 5 (by kernel_rfl))] at e24
          replace ha := Aside0.mk ha
          have BC := Aside0.mk (Q_BC (hon 5 (by kernel_rfl)))
          have T2 := Aside0.mk (Q_T2 (hon 2 (by kernel_rfl)))
          have D5 := Aside0.mk (Q_D5 (hon 5 (by kernel_rfl)))
          have O5 := Aside0.mk (Q_O5 (hon 5 (by kernel_rfl)) hb_)
          have co : w'.cell? ⟨o, 0, none⟩ = some (.slice B j d) := by rw [cell_of_block O5.out]; rfl
          have zo : w'.frozen? ⟨o, 0, none⟩ = false := frozen_of_block O5.out
          rw [if_pos (by rfl)]
          go_simp
          have hso := heap_set (w := w') (a := ⟨o, 0, none⟩) (v := .slice (some ⟨g5, 0, none⟩) (j + 1) c5) O5.out rfl
          have hsn : ∀ k, k ≠ o → (w'.setCell ⟨o, 0, none⟩ (.slice (some ⟨g5, 0, none⟩) (j + 1) c5)).heap[k]? = w'.heap[k]? := fun k hk => heap_set_ne hk
          have hss : Chg (fun k => k = o) w' (w'.setCell ⟨o, 0, none⟩ (.slice (some ⟨g5, 0, none⟩) (j + 1) c5)) := (Chg.refl (fun k => k = o) w').setCell (p := ⟨o, 0, none⟩) (.inl rfl) _
          generalize w'.setCell ⟨o, 0, none⟩ (.slice (some ⟨g5, 0, none⟩) (j + 1) c5) = w3 at hso hsn hss ⊢
          clear co zo
          refine hK.out _ _ ⟨g4, g5, c5, lo, hi, T3, T4, e3, e4, m2_, m4_, m5_, m6_, (by rw [ha.out]; exact putSel_none (v := undef) rfl), fun h0_ => absurd ((hon 5 (by kernel_rfl)).symm.trans h0_) (by decide), fun _ => BC.out.trans hss (fun k q => .inl (.inl q)), fun _ => ⟨T2.out.1, T2.out.2.1, Nat.le_trans T2.out.2.2.1 hss.size, k25.M_move (fun k hk => hsn k (fun e => by have h1 := T2.out.1; have h2 := HSW.out.1; omega)) T2.out.2.2.2⟩, fun _ h1_ => absurd ((hon 5 (by kernel_rfl)).symm.trans h1_) (by decide), fun h0_ h1_ => R_upd (Q_I5 h0_ h1_) (fun k _ hk _ => hsn k (fun e => by have h2 := HW.out; omega)), fun _ => D5.out, fun h0_ => R_upd (Q_I7 h0_) (fun k _ hk _ => hsn k (fun e => by have h2 := HW.out; omega)), fun _ h1_ => absurd ((up_self b 8).symm.trans h1_) (by decide), fun _ => hso, Q_X2_, Q_X4_, Q_X5_, Q_X6_⟩
        exact steps_nil
      rintro b a w' hall ⟨g4, g5, c5, lo, hi, T3, T4, e3, e4, m2_, m4_, m5_, m6_, ha, Q_BW, Q_BC, Q_T2, Q_B4, Q_I5, Q_D5, Q_I7, Q_O5, Q_O8, Q_X2_, Q_X4_, Q_X5_, Q_X6_⟩
      clear BW
      have hb0_ := hall 0 (by kernel_rfl)
      have hb2_ := hall 2 (by kernel_rfl)
      have hb3_ := hall 3 (by kernel_rfl)
      have hb4_ := hall 4 (by kernel_rfl)
      have hb5_ := hall 5 (by kernel_rfl)
      have hb6_ := hall 6 (by kernel_rfl)
      have hb7_ := hall 7 (by kernel_rfl)
      have hb8_ := hall 8 (by kernel_rfl)
      subst ha
      obtain rfl := Q_X2_ hb2_
      obtain rfl := Q_X4_ hb4_
      obtain rfl := Q_X5_ hb5_
      obtain rfl := Q_X6_ hb6_
      simp only [putSel, hb0_, hb2_, hb3_, hb4_, hb5_, hb6_, hb7_, hb8_, if_true, Act.put, List.setIfInBounds_toArray, List.set_cons_zero, List.set_cons_succ]
      clear Q_BW
      have BC := Aside0.mk (Q_BC hb5_)
      clear Q_BC
      have T2 := Aside0.mk (Q_T2 hb2_)
      clear Q_T2
      clear Q_B4
      clear Q_I5
      have D5 := Aside0.mk (Q_D5 hb5_)
      clear Q_D5
      have I7 := Aside0.mk (Q_I7 hb7_)
      clear Q_I7
      clear Q_O5
      have O8 := Aside0.mk (Q_O8 hb8_)
      clear Q_O8
      clear hall hb0_ hb2_ hb3_ hb4_ hb5_ hb6_ hb7_ hb8_
      obtain ⟨w3, hw3⟩ : ∃ w3, w3 = w' := ⟨_, rfl⟩
      rw [← hw3] at BC I7 O8 ⊢
      clear hw3
      go_wp2
      go_roundg (gk - 1)
      case measure => have := HJ.out; omega
      case rel =>
        refine ⟨j + 1, some ⟨g5, 0, none⟩, c5, by go_num, ⟨by have := HJ.out; omega⟩, O8, ⟨?_⟩, ⟨HCH.out.trans BC.out (fun k q => ?_)⟩⟩
        · rw [List.take_succ_eq_append_getElem hjx, ← HYJ.out]
          exact I7.out
        · rcases q with q | q
          · exact .inl (.inl q)
          · exact .inl (.inr (R_own HIS.out k q.symm).1)
    · have hje : j = rs.length := by have := HJ.out; omega
      have hjd : decide ((j : Int) < (rs.length : Int)) = false := by simp; omega
      have hR := HIS.out
      rw [List.take_of_length_le (show x.f4.length ≤ j by have := HN.out; omega)] at hR
      have hR2 := Kd.R_lower hR (Nat.le_trans (Nat.le_trans HW.out.2.2.1 HW.out.2.2.2.1) (Nat.le_refl _))
      have HFIN := Aside0.mk (And.intro HOW.out (And.intro hR2 ((Chg.of_below HW.out.1 : Chg (fun k => k = o) w w2).trans HCH.out (fun k q => q.elim .inl (fun h => .inr (by have := HW.out; omega))))))
      clear hR hR2 hje
      go_wp2
      go_ret
      exact ⟨rfl, ⟨_, HFIN.out.1, HFIN.out.2.1⟩, HFIN.out.2.2⟩
end Go.Proofs.Ytigpgkfgkjabmaa
