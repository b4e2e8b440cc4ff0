/-
  What FieldClearer does to a map that is laid; impl.Clear.
-/
import Derived.Test.YtigpgkfgkjabmaaClear
import Derived.Test.YtigpgkfgkjabmaaWithout
namespace Go.Proofs.Ytigpgkfgkjabmaa
open Go.RowKit Go.Proofs.YtigpgkfgkjabmaaW.PrintWords Go.Proofs.YtigpgkfgkjabmaaW.PrintLast Go.Proofs.Ytigpgkfgkjabmaa.PFnFields
set_option linter.unusedVariables false
set_option linter.unusedSimpArgs false

theorem Wf.two {d : Nat} {x : S25} (h : Wf (d + 1) x) (h2 : x.f0 = 2) : x = ⟨2, ⟨#[]⟩, ⟨#[]⟩, x.f3, x.f4⟩ := by
  rcases h with ⟨h1, _⟩ | ⟨ht, hg, _, _, _⟩
  · omega
  · obtain ⟨a, b, c, e, f⟩ := x
    simp_all
theorem Wf.some {d : Nat} {x : S25} (h : Wf (d + 1) x) (h2 : x.f0 = 2) : 0 < x.f4.length := by
  rcases h with ⟨h1, _⟩ | ⟨_, _, h4, _⟩
  · omega
  · exact List.length_pos_iff.2 h4
theorem spField_none {x : S25} {nm : ByteArray} (h : nm ∉ x.f3) : spField x nm = z25 := by
  unfold spField
  rw [if_neg (fun q => h (plc_iff.1 q.2))]
/-- A map of right items that is laid stands behind its RNode. -/
theorem holds_map {w : World} {r b : Nat} {F : Nat → Prop} {t v : ByteArray} {ks : List ByteArray} {is : List S25} {d : Nat} (h : MapOk d ks is) (hl : Live 4 t) (hr : RN w r b) (hy : YN w F b (.mk 4 t v (kv ks (is.map (toY d))))) :
    Holds w (some r) ⟨2, ⟨#[]⟩, ⟨#[]⟩, ks, is⟩ :=
  .inr ⟨r, d + 1, b, F, _, rfl, hr, hy, h.ysh t v, hl, h.told t v⟩
theorem holds_tree {w : World} {r b : Nat} {F : Nat → Prop} {d : Nat} {x : S25} (h : Wf d x) (hn : nodes d x ≤ 60) (hr : RN w r b) (hy : YN w F b (toY d x)) : Holds w (some r) x :=
  .inr ⟨r, d, b, F, _, rfl, hr, hy, h.ysh hn, h.live, h.ofY⟩

theorem clear_does (x : S25) (hx : Tree x) (h2 : x.f0 = 2) (nm : ByteArray) (w : World) : FilterDoes w 116 (.agg #[.string ⟨#[]⟩, .string nm, .bool false]) x (spField x nm) (wo x nm) := by
  intro w0 wa r b hb0 hb1 hr hrl hy
  have hn60 : nodes (5 + 1) x ≤ 60 := hx.2
  have hok : MapOk 5 x.f3 x.f4 := MapOk.of hx.1 h2 hn60
  have hlen := hok.len
  have hfew := hok.few
  have hpos := hx.1.some h2
  rw [toY_two h2] at hy
  obtain ⟨hF, cv, bs, hn, ho, hfo, hl⟩ := hy.open_
  simp only [Y.kind, Y.tag, Y.value, Y.content] at hn hl
  have hkl : x.f3.length = (x.f4.map (toY 5)).length := by simpa using hlen
  have hbl : bs.length = 2 * x.f3.length := by rw [hl.length, kv_length _ _ hkl]
  obtain ⟨g, c, rfl, _, hgl⟩ := ho.form (by omega)
  have hFg : (w0.heap.size ≤ g ∧ g ≠ r) := hfo g rfl
  have hkey : ∀ j (h : j < x.f3.length), ∃ F1 : Nat → Prop, (∀ k, F1 k → w0.heap.size ≤ k ∧ k ≠ r) ∧ YN wa F1 (bs.getD (2 * j) 0) (.mk 8 ⟨#[]⟩ x.f3[j] []) := by
    intro j hj
    obtain ⟨kb, F1, ek, hF1, hyk⟩ := hl.get (2 * j) (by rw [kv_length _ _ hkl]; omega)
    have := kv_key x.f3 (x.f4.map (toY 5)) j hkl hj
    rw [List.getElem?_eq_getElem (by rw [kv_length _ _ hkl]; omega)] at this
    rw [Option.some.inj this] at hyk
    rw [List.getD_eq_getElem?_getD, ek]
    exact ⟨F1, fun k q => (hF1 k q).1, hyk⟩
  refine (clearfilter_calls wa r b g c 5 _ _ nm x.f3 bs hr live_map hn ho hbl (by omega) (keys_nb hkey)).mono ?_
  rintro e w' (⟨h1, rfl, hb⟩ | ⟨j, rr, bs', hj, rfl, rfl, q1, q2, q3, q4, q5⟩)
  · refine ⟨none, rfl, hb.mono hb1.size, .inl ⟨rfl, spField_none h1⟩, ?_⟩
    have hw : wo x nm = ⟨2, ⟨#[]⟩, ⟨#[]⟩, x.f3, x.f4⟩ := by unfold wo; rw [woK_none nm _ h1, woI_none nm _ _ hlen h1]
    rw [hw]
    exact holds_map hok live_map (hr.below hb) (hy.below hb)
  · have hj3 : j < x.f3.length := by
      rcases Nat.lt_or_ge j x.f3.length with h | h
      · exact h
      · rw [List.getElem?_eq_none h] at hj; cases hj
    have hnb : ∀ k, (k = b ∨ k = g) → w0.heap.size ≤ k := by
      rintro k (rfl | rfl)
      · exact hF.1
      · exact hFg.1
    have hrb : ¬ (r = b ∨ r = g) := by
      rintro (rfl | rfl)
      · exact hF.2 rfl
      · exact hFg.2 rfl
    have hlv : ∀ k, (w0.heap.size ≤ k ∧ k ≠ r) ∧ k ≠ b ∧ some k ≠ (Value.slice (some ⟨g, 0, none⟩) bs.length c).ownBlock → ¬ (k = b ∨ k = g) := by
      rintro k ⟨_, h3, h4⟩ (rfl | rfl)
      · exact h3 rfl
      · exact h4 rfl
    have hl' := hl.chg q4 hlv
    have hr' : RN w' r b := hr.move (fun hlt => q4.block r hlt hrb)
    refine ⟨some rr, rfl, q4.below hb1.size hnb, ?_, ?_⟩
    · obtain ⟨vb, F1, ev, hF1, hyv⟩ := hl'.get (2 * j + 1) (by rw [kv_length _ _ hkl]; omega)
      have hv := kv_val x.f3 (x.f4.map (toY 5)) j hkl (by omega)
      rw [List.getElem?_eq_getElem (by rw [kv_length _ _ hkl]; omega)] at hv
      rw [Option.some.inj hv, List.getElem_map] at hyv
      rw [List.getD_eq_getElem?_getD, ev] at q1
      rw [spField_at h2 hok.nodup hj (List.getElem?_eq_getElem (by omega))]
      have hi := hok.items (x.f4[j]'(by omega)) (List.getElem_mem _)
      exact holds_tree hi.1 hi.2 q1 hyv
    · have hc := hl'.cut (2 * j) (2 * j + 2) (by omega)
      rw [kv_cut _ _ _ hkl] at hc
      have e1 : x.f3.take j ++ x.f3.drop (j + 1) = woK nm x.f3 := (woK_at nm x.f3 j hok.nodup hj).symm
      have e2 : (x.f4.map (toY 5)).take j ++ (x.f4.map (toY 5)).drop (j + 1) = (woI nm x.f3 x.f4).map (toY 5) := by
        rw [woI_at nm x.f3 x.f4 j hlen hok.nodup hj, List.map_append, List.map_take, List.map_drop]
      rw [e1, e2] at hc
      exact holds_map (hok.without nm) live_map hr' (YN.close hF q2 q3 (fun k hk => hfo k hk) hc)
end Go.Proofs.Ytigpgkfgkjabmaa
