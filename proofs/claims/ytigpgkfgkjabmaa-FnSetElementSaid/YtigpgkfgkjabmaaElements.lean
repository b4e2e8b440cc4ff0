/-
  RNode.Elements; impl.Elements: a list's elements are told in order.
-/
import Derived.Test.YtigpgkfgkjabmaaPipe
import Derived.Test.YtigpgkfgkjabmaaFixed
namespace Go.Proofs.Ytigpgkfgkjabmaa
open Go.RowKit Go.Proofs.YtigpgkfgkjabmaaW.PrintWords Go.Proofs.YtigpgkfgkjabmaaW.PrintLast Go.Proofs.Ytigpgkfgkjabmaa.PFnFields
set_option linter.unusedVariables false
set_option linter.unusedSimpArgs false

theorem Try.infoRP : (Try.prog.info? 57).map (fun i => (i.zero, i.size, i.bytes)) = some (some (.pointer none), 1, 8) := by kernel_rfl
/-- A row of RNodes. -/
def ElemsAt (w : World) (base : Nat) (cv : Value) (rs bs : List Nat) : Prop := w.ownsRow base 57 1 cv rs.length (ptrs rs) ∧ rs.length = bs.length ∧ ∀ i (h : i < rs.length), RN0 w rs[i] (bs.getD i 0)
def ElemsPost (w : World) (bs : List Nat) (e : Ending) (w' : World) : Prop := Below w.heap.size w w' ∧ ∃ cv rs, e = .returned (.tuple #[cv, .nilIface]) ∧ ElemsAt w' w.heap.size cv rs bs
theorem ElemsAt.push {base r nb : Nat} {wr wa w2 : World} {cv v1 : Value} {rs bs : List Nat} (h : ElemsAt wr base cv rs bs) (hb : Below wr.heap.size wr wa) (hr : RN0 wa r nb) (hown : w2.ownsRow base 57 1 v1 (rs.length + 1) (ptrs rs ++ [ptr r])) (hg : wa.grownBy w2 cv.ownBlock) : ElemsAt w2 base v1 (rs ++ [r]) (bs ++ [nb]) := by
  obtain ⟨h1, h2, h3⟩ := h
  have hmv : ∀ {q c : Nat}, RN0 wa q c → RN0 w2 q c := fun {q c} hq => by
    have hq' := hq
    obtain ⟨_, _, hh⟩ := hq'
    refine hq.move (fun hlt => hg.block q hlt (fun e => ?_))
    have h1' := own_move (w1 := wa) h1 (fun k hk => hb.block k (own_lt h1 k hk))
    obtain ⟨cells, hc⟩ := own_typed h1' q e.symm
    rw [hc] at hh
    simp at hh
  refine ⟨?_, by simp [h2], fun i hi => ?_⟩
  · rw [ptrs_append, List.length_append]; exact hown
  · by_cases hi1 : i < rs.length
    · rw [List.getElem_append_left hi1, List.getD_eq_getElem?_getD, List.getElem?_append_left (by omega), ← List.getD_eq_getElem?_getD]
      exact hmv ((h3 i hi1).below hb)
    · have : i = rs.length := by simp at hi; omega
      subst this
      have e1 : (rs ++ [r])[rs.length]'hi = r := by simp
      have e2 : (bs ++ [nb]).getD rs.length 0 = nb := by rw [h2]; simp
      rw [e2]
      exact e1.symm ▸ hmv hr
set_option maxRecDepth 100000 in
set_option maxHeartbeats 1600000 in
theorem relements_calls (w : World) (r b : Nat) (t v : ByteArray) (A : Option Addr) (g c : Nat) (bs : List Nat) (hr : RN w r b) (hn : NB w b 2 t v (.slice A bs.length c)) (hl : Live 2 t) (hA : 0 < bs.length → A = some ⟨g, 0, none⟩) (hm : bs.length ≤ 1000) (hcell : ∀ i (h : i < bs.length), w.cell? ⟨g, i, none⟩ = some (ptr bs[i])) :
    Calls Try.prog 57 #[ptr r] w (ElemsPost w bs) := by
  have HR := Aside0.mk hr
  have HN := Aside0.mk hn
  have HL := Aside0.mk hl
  have HC := Aside0.mk (And.intro hA hcell)
  clear hr hn hl hA hcell
  go_enter Try.func57, Try.ntmps57
  go_wp2_with fail
  refine (valid_calls w r b HR.out 2 t v A bs.length c HN.out HL.out (fun h => by cases h) (by omega)).mono ?_
  rintro e w1 ⟨rfl, rfl⟩
  go_wp2_with fail
  go_loopg [6, 5] bs.length (fun k i l wr => ∃ (j : Nat) (B : Option Addr) (n d : Nat) (rs : List Nat), i = .int .i64 j ∧ l = .slice B n d ∧ Aside0 (j ≤ bs.length ∧ k + j = bs.length ∧ n = j ∧ rs.length = n) ∧ Aside0 (Below w.heap.size w wr) ∧ Aside0 (ElemsAt wr w.heap.size (.slice B n d) rs (bs.take j)))
  case atStart => exact ⟨0, none, 0, 0, [], rfl, rfl, ⟨by simp⟩, ⟨Below.refl _ _⟩, ⟨own_nil _ _ _ _, by simp, fun i hi => absurd hi (by simp)⟩⟩
  case round =>
    obtain ⟨j, B, n, d, rs, rfl, rfl, HJ, HB, HE⟩ := hrel
    by_cases hj : j < bs.length
    · have hjd : decide ((j : Int) < (bs.length : Int)) = true := by simp; omega
      obtain rfl := HC.out.1 (by omega)
      obtain ⟨p, hp⟩ : ∃ p, p = bs[j] := ⟨_, rfl⟩
      have hcj := (HB.out.cell (World.block_lt_of_cell? w _ (HC.out.2 j hj))).trans (HC.out.2 j hj)
      rw [← hp] at hcj
      have HP := Aside0.mk hp
      clear hp
      go_wp2_with (go_at_call 66; refine (content_calls wr r b (HR.out.below HB.out) 2 _ _ (.slice (some ⟨g, 0, none⟩) bs.length c) (HN.out.below HB.out) HL.out).mono ?_; rintro e w' ⟨rfl, rfl⟩)
      refine (newrnode_calls wr p).mono ?_
      rintro e w1 ⟨rfl, rfl⟩
      have hb1 : Below wr.heap.size wr (wr.alloc (.cells (rcells (.slice none 0 0) (ptr p) false (.slice none 0 0)) 124)) := (Below.refl _ _).alloc (Nat.le_refl _) _
      have hr1 := RN0.new wr p
      generalize wr.alloc (.cells (rcells (.slice none 0 0) (ptr p) false (.slice none 0 0)) 124) = w1 at hb1 hr1 ⊢
      have HB1 := Aside0.mk (And.intro hb1 hr1)
      clear hb1 hr1
      have hbo : Aside0 (w1.ownsRow w.heap.size 57 1 (.slice B n d) n (ptrs rs)) := ⟨by
        have h := own_move (w1 := w1) HE.out.1 (fun k hk => HB1.out.1.block k (own_lt HE.out.1 k hk))
        rw [HJ.out.2.2.2] at h
        exact h⟩
      have hsz : w.heap.size ≤ w1.heap.size := Nat.le_trans HB.out.size HB1.out.1.size
      go_wp2_with ((with_reducible refine gate_builtin (b := .append) (xs := #[.tmp 19, .tmp 26]) rfl ?_); at_builtin; (refine print_append_cells (w0 := w1) w.heap.size rfl (.tmp 19) (.tmp 26) 93 57 (.pointer none) 1 8 rfl Try.underlying93 Try.infoRP rfl (by decide) (by decide) (.slice B n d) n (ptrs rs) [ptr wr.heap.size] rfl rfl rfl (by simp [Value.oneCell']) hbo.out (Below.refl _ _) hsz (by have := HJ.out; omega) ?_); (intro v1 w4 hown hb4 hg4 hat4); (obtain ⟨B1, d1, rfl⟩ := own_slice hown); (have HG := Aside0.mk (And.intro hown (And.intro hb4 hg4))); clear hown hb4 hg4 hat4)
      go_roundg (gk - 1)
      case measure => have := HJ.out; omega
      case rel =>
        obtain ⟨hown, hb4, hg4⟩ := HG.out
        refine ⟨j + 1, B1, n + 1, d1, rs ++ [wr.heap.size], by go_num, rfl, ⟨by have := HJ.out; simp; omega⟩, ⟨(HB.out.trans (HB1.out.1.mono HB.out.size)).trans hb4⟩, ⟨?_⟩⟩
        rw [List.take_succ_eq_append_getElem hj, ← HP.out]
        exact HE.out.push HB1.out.1 HB1.out.2 (by rw [HJ.out.2.2.2]; exact hown) hg4
    · have hje : j = bs.length := by have := HJ.out; omega
      have hjd : decide ((j : Int) < (bs.length : Int)) = false := by simp; omega
      have hE := HE.out
      rw [hje, List.take_length] at hE
      have HE2 := Aside0.mk hE
      clear hje hE HE
      go_wp2_with (go_at_call 66; refine (content_calls wr r b (HR.out.below HB.out) 2 _ _ (.slice A bs.length c) (HN.out.below HB.out) HL.out).mono ?_; rintro e w' ⟨rfl, rfl⟩)
      refine bodyPost_ret (v := .tuple #[.slice B n d, .nilIface]) (by simp [results, Try.results57, go_sem]) rfl ⟨HB.out, _, rs, rfl, HE2.out⟩
end Go.Proofs.Ytigpgkfgkjabmaa
