/-
  A tree that is laid, opened; RNode.Field of it; spec.Field, spec.Word.
-/
import Derived.Test.YtigpgkfgkjabmaaVisit
namespace Go.Proofs.Ytigpgkfgkjabmaa
open Go.RowKit Go.Proofs.YtigpgkfgkjabmaaW.PrintWords Go.Proofs.YtigpgkfgkjabmaaW.PrintLast Go.Proofs.Ytigpgkfgkjabmaa.PFnFields
set_option linter.unusedVariables false
set_option linter.unusedSimpArgs false

/-- A row of pointers, as it is read. -/
theorem row_open {w : World} {cv : Value} {bs : List Nat} (ho : w.ownsRow 0 88 1 cv bs.length (ptrs bs)) :
    ∃ (A : Option Addr) (g c : Nat), cv = .slice A bs.length c ∧ (0 < bs.length → A = some ⟨g, 0, none⟩) ∧ ∀ i (h : i < bs.length), w.cell? ⟨g, i, none⟩ = some (ptr bs[i]) := by
  by_cases h0 : 0 < bs.length
  · obtain ⟨g, cap, rfl, _, _⟩ := ho.form h0
    refine ⟨_, g, cap, rfl, fun _ => rfl, fun i hi => own_cell ho i _ ?_⟩
    simp only [ptrs, List.getElem?_map, List.getElem?_eq_getElem hi, Option.map_some]
  · obtain ⟨A, c, rfl⟩ := own_slice ho
    exact ⟨A, 0, c, rfl, fun h => absurd h h0, fun i hi => absurd (by omega) h0⟩

/-- A map that is laid: its row, its keys, its values. -/
theorem map_open {w : World} {F : Nat → Prop} {b : Nat} {t v : ByteArray} {ks : List ByteArray} {vs : List Y} (hkl : ks.length = vs.length) (h : YN w F b (.mk 4 t v (kv ks vs))) :
    ∃ (A : Option Addr) (g c : Nat) (bs : List Nat), NB w b 4 t v (.slice A bs.length c) ∧ (0 < ks.length → A = some ⟨g, 0, none⟩) ∧ bs.length = 2 * ks.length ∧ (∀ i (h : i < bs.length), w.cell? ⟨g, i, none⟩ = some (ptr bs[i])) ∧
      (∀ j (h : j < ks.length), ∃ F1, (∀ k, F1 k → F k) ∧ YN w F1 (bs.getD (2 * j) 0) (.mk 8 ⟨#[]⟩ ks[j] [])) ∧ (∀ j (h : j < vs.length), ∃ F1, (∀ k, F1 k → F k) ∧ YN w F1 (bs.getD (2 * j + 1) 0) vs[j]) := by
  obtain ⟨hF, cv, bs, hn, ho, hfo, hl⟩ := h.open_
  simp only [Y.kind, Y.tag, Y.value, Y.content] at hn hl
  obtain ⟨A, g, c, rfl, hA, hcell⟩ := row_open ho
  have hlb := hl.length
  rw [kv_length ks vs hkl] at hlb
  have hll : (kv ks vs).length = 2 * ks.length := kv_length ks vs hkl
  refine ⟨A, g, c, bs, hn, fun h0 => hA (by omega), hlb, hcell, fun j hj => ?_, fun j hj => ?_⟩
  · obtain ⟨kb, F1, ek, hF1, hyk⟩ := hl.get (2 * j) (by omega)
    have hk1 : (kv ks vs)[2 * j]'(by omega) = .mk 8 ⟨#[]⟩ ks[j] [] := by
      have := kv_key ks vs j hkl hj
      rw [List.getElem?_eq_getElem (by omega)] at this
      exact Option.some.inj this
    rw [hk1] at hyk
    rw [List.getD_eq_getElem?_getD, ek]
    exact ⟨F1, fun k q => (hF1 k q).1, hyk⟩
  · obtain ⟨vb, F1, ev, hF1, hyv⟩ := hl.get (2 * j + 1) (by omega)
    have hv1 : (kv ks vs)[2 * j + 1]'(by omega) = vs[j] := by
      have := kv_val ks vs j hkl hj
      rw [List.getElem?_eq_getElem (by omega)] at this
      exact Option.some.inj this
    rw [hv1] at hyv
    rw [List.getD_eq_getElem?_getD, ev]
    exact ⟨F1, fun k q => (hF1 k q).1, hyv⟩
theorem keys_nb {w : World} {F : Nat → Prop} {ks : List ByteArray} {bs : List Nat} (hk : ∀ j (h : j < ks.length), ∃ F1, (∀ k, F1 k → F k) ∧ YN w F1 (bs.getD (2 * j) 0) (.mk 8 ⟨#[]⟩ ks[j] [])) : ∀ j (h : j < ks.length), ∃ t cv, NB w (bs.getD (2 * j) 0) 8 t ks[j] cv := fun j hj => by
  obtain ⟨F1, _, h⟩ := hk j hj
  obtain ⟨_, cv, _, hn, _⟩ := h.open_
  exact ⟨_, cv, hn⟩
theorem node_open {w : World} {F : Nat → Prop} {b : Nat} {y : Y} (h : YN w F b y) : ∃ cv, NB w b y.kind y.tag y.value cv := by
  obtain ⟨_, cv, bs, hn, _⟩ := h.open_
  exact ⟨cv, hn⟩

/-- A map's field, of a tree that is laid. -/
def NFPost (w : World) (F : Nat → Prop) (d : Nat) (x : S25) (nm : ByteArray) (e : Ending) (w' : World) : Prop :=
  Below w.heap.size w w' ∧ ((¬ (x.f0 = 2 ∧ nm ∈ x.f3) ∧ e = .returned (.pointer none)) ∨ (x.f0 = 2 ∧ ∃ (j : Nat) (y : S25) (m kr vr kb vb : Nat) (F1 F2 : Nat → Prop), x.f3[j]? = some nm ∧ x.f4[j]? = some y ∧ e = .returned (ptr m) ∧
    w'.heap[m]? = some (.cells #[ptr kr, ptr vr] 70 (0, 0)) ∧ RN w' kr kb ∧ RN w' vr vb ∧ (∀ k, F1 k → F k) ∧ YN w' F1 kb (.mk 8 ⟨#[]⟩ nm []) ∧ (∀ k, F2 k → F k) ∧ YN w' F2 vb (toY d y)))
theorem nodefield_calls (d : Nat) (x : S25) (hx : Wf (d + 1) x) (hn60 : nodes (d + 1) x ≤ 60) (w : World) (r b : Nat) (F : Nat → Prop) (nm : ByteArray) (hr : RN w r b) (hY : YN w F b (toY (d + 1) x)) :
    Calls Try.prog 70 #[ptr r, .string nm] w (NFPost w F d x nm) := by
  have hl := hx.live
  by_cases h2 : x.f0 = 2
  · rw [toY_two h2] at hY hl
    have hk34 : x.f3.length = x.f4.length := by
      rcases hx with ⟨h1, _⟩ | ⟨_, _, _, _, ⟨_, hk, _⟩ | ⟨h3, _⟩⟩
      · omega
      · exact hk
      · omega
    obtain ⟨A, g, c, bs, hn, hA, hm, hcell, hkey, hval⟩ := map_open (by simpa using hk34) hY
    have hlen := hx.len
    refine (field_calls w r b _ _ A g c nm x.f3 bs hr hn hl hA hm (by omega) hcell (keys_nb hkey)).mono ?_
    rintro e w1 ⟨hb, ⟨h1, rfl⟩ | ⟨j, m, kr, vr, h1, rfl, h3, h4, h5, _⟩⟩
    · exact ⟨hb, .inl ⟨fun h => h1 h.2, rfl⟩⟩
    · have hj : j < x.f3.length := (List.getElem?_eq_some_iff.1 h1).1
      obtain ⟨F1, hF1, hkn⟩ := hkey j hj
      obtain ⟨F2, hF2, hyv⟩ := hval j (by simp; omega)
      rw [List.getElem_map] at hyv
      have hkj : x.f3[j] = nm := (List.getElem?_eq_some_iff.1 h1).2
      rw [hkj] at hkn
      exact ⟨hb, .inr ⟨h2, j, x.f4[j], m, kr, vr, _, _, F1, F2, h1, List.getElem?_eq_getElem _, rfl, h3, h4, h5, hF1, hkn.below hb, hF2, hyv.below hb⟩⟩
  · obtain ⟨cv, hn⟩ := node_open hY
    have hk : ((toY (d + 1) x).kind == 4) = false := by
      simp only [toY]
      rw [if_neg h2]
      split <;> rfl
    refine (nofield_calls w r b _ _ _ cv nm hr hn hl hk).mono ?_
    rintro e w1 ⟨rfl, rfl⟩
    exact ⟨Below.refl _ _, .inl ⟨fun h => h2 h.1, rfl⟩⟩

/-- Whether a tree is a map that has that key. -/
def has (nm : ByteArray) (x : S25) : Bool := x.f0 == 2 && decide (0 ≤ plc x.f3 nm)
theorem plc_iff {l : List ByteArray} {a : ByteArray} : 0 ≤ plc l a ↔ a ∈ l := by
  refine ⟨fun h => ?_, plc_mem⟩
  obtain ⟨i, _, hi, rfl⟩ := plc_pos l a h
  exact List.getElem_mem _
theorem has_iff {nm : ByteArray} {x : S25} : has nm x = true ↔ (x.f0 = 2 ∧ nm ∈ x.f3) := by simp [has, plc_iff]

/-- The text 'name'. -/
abbrev nameB : ByteArray := ⟨#[110, 97, 109, 101]⟩
/-- A list that is laid: its row. -/
theorem list_open {d : Nat} {x : S25} (h3 : x.f0 = 3) {w : World} {F : Nat → Prop} {b : Nat} (h : YN w F b (toY (d + 1) x)) :
    ∃ (A : Option Addr) (g c : Nat) (bs : List Nat) (F1 : Nat → Prop), NB w b 2 ⟨#[]⟩ ⟨#[]⟩ (.slice A bs.length c) ∧ (0 < bs.length → A = some ⟨g, 0, none⟩) ∧ bs.length = x.f4.length ∧ (∀ i (h : i < bs.length), w.cell? ⟨g, i, none⟩ = some (ptr bs[i])) ∧
      YL w F1 bs (x.f4.map (toY d)) := by
  rw [toY_three h3] at h
  obtain ⟨hF, cv, bs, hn, ho, hfo, hl⟩ := h.open_
  simp only [Y.kind, Y.tag, Y.value, Y.content] at hn hl
  obtain ⟨A, g, c, rfl, hA, hcell⟩ := row_open ho
  exact ⟨A, g, c, bs, _, hn, hA, by simpa using hl.length, hcell, hl⟩

/-- A tree as plain data in a variable. -/
abbrev inVar (w : World) (a : Nat) (x : S25) (A3 : Option Addr) (c3 : Nat) (A4 : Option Addr) (c4 : Nat) : Prop :=
  w.heap[a]? = some (.cells #[.int .i64 x.f0, .string x.f1, .string x.f2, .slice A3 x.f3.length c3, .slice A4 x.f4.length c4] 25 (0, 0))


/-- spec.Field: the value of a map's key. -/
def spField (x : S25) (nm : ByteArray) : S25 := if x.f0 = 2 ∧ 0 ≤ plc x.f3 nm then x.f4.getD (plc x.f3 nm).toNat z25 else z25
def SpFieldPost (w : World) (x : S25) (nm : ByteArray) (e : Ending) (w' : World) : Prop :=
  Below w.heap.size w w' ∧ ∃ (A3 : Option Addr) (c3 : Nat) (A4 : Option Addr) (c4 : Nat), e = .returned (.tuple #[.agg #[.int .i64 (spField x nm).f0, .string (spField x nm).f1, .string (spField x nm).f2, .slice A3 (spField x nm).f3.length c3, .slice A4 (spField x nm).f4.length c4], .bool (has nm x)]) ∧
    k25.K w (spField x nm) [.int .i64 (spField x nm).f0, .string (spField x nm).f1, .string (spField x nm).f2, .slice A3 (spField x nm).f3.length c3, .slice A4 (spField x nm).f4.length c4]
set_option maxRecDepth 100000 in
theorem spField_calls (x : S25) (nm : ByteArray) (hkl : x.f3.length ≤ x.f4.length) (w : World) (A3 : Option Addr) (c3 : Nat) (A4 : Option Addr) (c4 : Nat)
    (hK : k25.K w x [.int .i64 x.f0, .string x.f1, .string x.f2, .slice A3 x.f3.length c3, .slice A4 x.f4.length c4]) :
    Calls Try.prog 12 #[.agg #[.int .i64 x.f0, .string x.f1, .string x.f2, .slice A3 x.f3.length c3, .slice A4 x.f4.length c4], .string nm] w (SpFieldPost w x nm) := by
  have hu := Try.underlying25
  have HK := Aside0.mk hK
  obtain ⟨g3, l3, g4⟩ : ∃ q : Kd.string.C w A3 x.f3.length x.f3, x.f3.length ≤ c3 ∧ k25.C w A4 x.f4.length x.f4 := by
    obtain ⟨B3, d3, B4, d4, he, l3, g3, l4, g4⟩ := k25_open hK
    simp only [List.cons.injEq, Value.slice.injEq, true_and, and_true] at he
    obtain ⟨⟨rfl, rfl⟩, rfl, rfl⟩ := he
    exact ⟨g3, l3, g4⟩
  have HG := Aside0.mk (And.intro g3 (And.intro l3 g4))
  have hn4 : x.f4.length ≤ 9223372036854775807 := g4.2.1
  have HKL := Aside0.mk hkl
  clear hK g3 l3 g4 hkl
  go_enter Try.func12, Try.ntmps12
  go_wp2_with fail
  refine (place_calls _ A3 c3 x.f3 nm (Kd.C_below HG.out.1 (((Below.refl _ _).alloc (Nat.le_refl _) _).alloc (by simp) _)) HG.out.2.1).mono ?_
  rintro e w1 ⟨rfl, ⟨⟨n1, rfl⟩⟩⟩
  obtain ⟨w1, e1⟩ : ∃ w1, w1 = ((w.alloc (.cells #[.int .i64 x.f0, .string x.f1, .string x.f2, .slice A3 x.f3.length c3, .slice A4 x.f4.length c4] 25)).alloc (.cells #[.int .i64 0, .string ⟨#[]⟩, .string ⟨#[]⟩, .slice none 0 0, .slice none 0 0] 25)).drewN n1 := ⟨_, rfl⟩
  rw [← e1]
  have hb1 : Below w.heap.size w w1 := by rw [e1]; exact pw_below_drewN (((Below.refl _ _).alloc (Nat.le_refl _) _).alloc (by simp) _) n1
  have hx1 : w1.heap[w.heap.size]? = some (.cells #[.int .i64 x.f0, .string x.f1, .string x.f2, .slice A3 x.f3.length c3, .slice A4 x.f4.length c4] 25 (0, 0)) := by rw [e1]; exact (heap_old _ (by simp)).trans (heap_at _ rfl)
  have hr1 : w1.heap[w.heap.size + 1]? = some (.cells #[.int .i64 0, .string ⟨#[]⟩, .string ⟨#[]⟩, .slice none 0 0, .slice none 0 0] 25 (0, 0)) := by rw [e1]; exact heap_at _ (by simp)
  have HB := Aside0.mk hb1
  have HX := Aside0.mk hx1
  have HR := Aside0.mk hr1
  clear hb1 hx1 hr1 e1
  obtain ⟨p, hp⟩ : ∃ p, p = plc x.f3 nm := ⟨_, rfl⟩
  rw [← hp]
  have cx0 := (cell_of_block (i := 0) HX.out).trans (show _ = some _ from rfl)
  have cx4 := (cell_of_block (i := 4) HX.out).trans (show _ = some _ from rfl)
  by_cases hc : x.f0 = 2 ∧ 0 ≤ p
  · obtain ⟨h2, h0⟩ := hc
    obtain ⟨i, hpi, hi, hie⟩ := plc_pos x.f3 nm (by rw [← hp]; exact h0)
    have hi4 : i < x.f4.length := by have := HKL.out; omega
    generalize hyy : x.f4.getD i z25 = yy
    obtain ⟨ad4, B3, b3, B4, b4, e4, hKy, f0', f1', f2', f3', f4'⟩ := nodeAt HG.out.2.2 i hi4 yy hyy
    subst e4
    have f0 := (HB.out.cell (World.block_lt_of_cell? w _ f0')).trans f0'
    have f1 := (HB.out.cell (World.block_lt_of_cell? w _ f1')).trans f1'
    have f2 := (HB.out.cell (World.block_lt_of_cell? w _ f2')).trans f2'
    have f3 := (HB.out.cell (World.block_lt_of_cell? w _ f3')).trans f3'
    have f4 := (HB.out.cell (World.block_lt_of_cell? w _ f4')).trans f4'
    have hsp : spField x nm = yy := by
      unfold spField
      rw [← hp, if_pos ⟨h2, h0⟩, hp, hpi, Int.toNat_natCast, hyy]
    have hhas : has nm x = true := has_iff.2 ⟨h2, by rw [← hie]; exact List.getElem_mem _⟩
    obtain rfl : p = (i : Int) := by rw [hp, hpi]
    have HS := Aside0.mk (And.intro hsp (And.intro hhas hKy))
    have H2 := Aside0.mk h2
    rw [h2] at cx0
    clear hp hpi hi hie hyy hKy f0' f1' f2' f3' f4' hsp hhas h0 h2
    have cr0 := (cell_of_block (i := 0) HR.out).trans (show _ = some _ from rfl); have cr1 := (cell_of_block (i := 1) HR.out).trans (show _ = some _ from rfl); have cr2 := (cell_of_block (i := 2) HR.out).trans (show _ = some _ from rfl); have cr3 := (cell_of_block (i := 3) HR.out).trans (show _ = some _ from rfl); have cr4 := (cell_of_block (i := 4) HR.out).trans (show _ = some _ from rfl); have zr0 := frozen_of_block (i := 0) HR.out; have zr1 := frozen_of_block (i := 1) HR.out; have zr2 := frozen_of_block (i := 2) HR.out; have zr3 := frozen_of_block (i := 3) HR.out; have zr4 := frozen_of_block (i := 4) HR.out
    go_wp2
    obtain ⟨wf, ef, hf, hcf⟩ := set5 (v0 := .int .i64 yy.f0) (v1 := .string yy.f1) (v2 := .string yy.f2) (v3 := .slice B3 yy.f3.length b3) (v4 := .slice B4 yy.f4.length b4) HR.out
    rw [ef]
    have HF := Aside0.mk hf
    have cf0 := (cell_of_block (i := 0) HF.out).trans (show _ = some _ from rfl); have cf1 := (cell_of_block (i := 1) HF.out).trans (show _ = some _ from rfl); have cf2 := (cell_of_block (i := 2) HF.out).trans (show _ = some _ from rfl); have cf3 := (cell_of_block (i := 3) HF.out).trans (show _ = some _ from rfl); have cf4 := (cell_of_block (i := 4) HF.out).trans (show _ = some _ from rfl); have zf0 := frozen_of_block (i := 0) HF.out; have zf1 := frozen_of_block (i := 1) HF.out; have zf2 := frozen_of_block (i := 2) HF.out; have zf3 := frozen_of_block (i := 3) HF.out; have zf4 := frozen_of_block (i := 4) HF.out
    clear cr0 cr1 cr2 cr3 cr4 zr0 zr1 zr2 zr3 zr4 hf ef
    refine bodyPost_ret (v := .tuple #[.agg #[.int .i64 yy.f0, .string yy.f1, .string yy.f2, .slice B3 yy.f3.length b3, .slice B4 yy.f4.length b4], .bool true]) (by simp [results, Try.results12, go_sem, cf0, cf1, cf2, cf3, cf4]) rfl ⟨HB.out.trans (hcf.below HB.out.size (fun k q => by omega)), ?_⟩
    rw [HS.out.1, HS.out.2.1]
    exact ⟨B3, b3, B4, b4, rfl, HS.out.2.2⟩
  · have hsp : spField x nm = z25 := by
      unfold spField
      rw [← hp, if_neg hc]
    have hhas : has nm x = false := by
      rw [← Bool.not_eq_true, has_iff, ← plc_iff, ← hp]; exact hc
    have HS := Aside0.mk (And.intro hsp hhas)
    clear hsp hhas hp
    by_cases h2 : x.f0 = 2
    · have hpb : decide (0 ≤ p) = false := by
        rw [decide_eq_false_iff_not]; exact fun h => hc ⟨h2, h⟩
      have hpn : ¬ 0 ≤ p := fun h => hc ⟨h2, h⟩
      rw [h2] at cx0
      clear hc h2
      have cr0 := (cell_of_block (i := 0) HR.out).trans (show _ = some _ from rfl); have cr1 := (cell_of_block (i := 1) HR.out).trans (show _ = some _ from rfl); have cr2 := (cell_of_block (i := 2) HR.out).trans (show _ = some _ from rfl); have cr3 := (cell_of_block (i := 3) HR.out).trans (show _ = some _ from rfl); have cr4 := (cell_of_block (i := 4) HR.out).trans (show _ = some _ from rfl); have zr0 := frozen_of_block (i := 0) HR.out; have zr1 := frozen_of_block (i := 1) HR.out; have zr2 := frozen_of_block (i := 2) HR.out; have zr3 := frozen_of_block (i := 3) HR.out; have zr4 := frozen_of_block (i := 4) HR.out
      go_wp2
      obtain ⟨wf, ef, hf, hcf⟩ := set5 (v0 := .int .i64 0) (v1 := .string ⟨#[]⟩) (v2 := .string ⟨#[]⟩) (v3 := .slice none 0 0) (v4 := .slice none 0 0) HR.out
      rw [ef]
      have HF := Aside0.mk hf
      have cf0 := (cell_of_block (i := 0) HF.out).trans (show _ = some _ from rfl); have cf1 := (cell_of_block (i := 1) HF.out).trans (show _ = some _ from rfl); have cf2 := (cell_of_block (i := 2) HF.out).trans (show _ = some _ from rfl); have cf3 := (cell_of_block (i := 3) HF.out).trans (show _ = some _ from rfl); have cf4 := (cell_of_block (i := 4) HF.out).trans (show _ = some _ from rfl); have zf0 := frozen_of_block (i := 0) HF.out; have zf1 := frozen_of_block (i := 1) HF.out; have zf2 := frozen_of_block (i := 2) HF.out; have zf3 := frozen_of_block (i := 3) HF.out; have zf4 := frozen_of_block (i := 4) HF.out
      clear cr0 cr1 cr2 cr3 cr4 zr0 zr1 zr2 zr3 zr4 hf ef
      refine bodyPost_ret (v := .tuple #[.agg #[.int .i64 0, .string ⟨#[]⟩, .string ⟨#[]⟩, .slice none 0 0, .slice none 0 0], .bool false]) (by simp [results, Try.results12, go_sem, cf0, cf1, cf2, cf3, cf4]) rfl ⟨HB.out.trans (hcf.below HB.out.size (fun k q => by omega)), ?_⟩
      rw [HS.out.1, HS.out.2]
      exact ⟨none, 0, none, 0, rfl, k25_mk w z25 (Nat.le_refl _) (Kd.C_nil _ _) (Nat.le_refl _) (Kd.C_nil _ _)⟩
    · have hkb : (x.f0 == 2) = false := by simpa using h2
      clear hc h2
      have cr0 := (cell_of_block (i := 0) HR.out).trans (show _ = some _ from rfl); have cr1 := (cell_of_block (i := 1) HR.out).trans (show _ = some _ from rfl); have cr2 := (cell_of_block (i := 2) HR.out).trans (show _ = some _ from rfl); have cr3 := (cell_of_block (i := 3) HR.out).trans (show _ = some _ from rfl); have cr4 := (cell_of_block (i := 4) HR.out).trans (show _ = some _ from rfl); have zr0 := frozen_of_block (i := 0) HR.out; have zr1 := frozen_of_block (i := 1) HR.out; have zr2 := frozen_of_block (i := 2) HR.out; have zr3 := frozen_of_block (i := 3) HR.out; have zr4 := frozen_of_block (i := 4) HR.out
      go_wp2
      obtain ⟨wf, ef, hf, hcf⟩ := set5 (v0 := .int .i64 0) (v1 := .string ⟨#[]⟩) (v2 := .string ⟨#[]⟩) (v3 := .slice none 0 0) (v4 := .slice none 0 0) HR.out
      rw [ef]
      have HF := Aside0.mk hf
      have cf0 := (cell_of_block (i := 0) HF.out).trans (show _ = some _ from rfl); have cf1 := (cell_of_block (i := 1) HF.out).trans (show _ = some _ from rfl); have cf2 := (cell_of_block (i := 2) HF.out).trans (show _ = some _ from rfl); have cf3 := (cell_of_block (i := 3) HF.out).trans (show _ = some _ from rfl); have cf4 := (cell_of_block (i := 4) HF.out).trans (show _ = some _ from rfl); have zf0 := frozen_of_block (i := 0) HF.out; have zf1 := frozen_of_block (i := 1) HF.out; have zf2 := frozen_of_block (i := 2) HF.out; have zf3 := frozen_of_block (i := 3) HF.out; have zf4 := frozen_of_block (i := 4) HF.out
      clear cr0 cr1 cr2 cr3 cr4 zr0 zr1 zr2 zr3 zr4 hf ef
      refine bodyPost_ret (v := .tuple #[.agg #[.int .i64 0, .string ⟨#[]⟩, .string ⟨#[]⟩, .slice none 0 0, .slice none 0 0], .bool false]) (by simp [results, Try.results12, go_sem, cf0, cf1, cf2, cf3, cf4]) rfl ⟨HB.out.trans (hcf.below HB.out.size (fun k q => by omega)), ?_⟩
      rw [HS.out.1, HS.out.2]
      exact ⟨none, 0, none, 0, rfl, k25_mk w z25 (Nat.le_refl _) (Kd.C_nil _ _) (Nat.le_refl _) (Kd.C_nil _ _)⟩

theorem spField_at {x : S25} {nm : ByteArray} {j : Nat} {y : S25} (h2 : x.f0 = 2) (hnd : x.f3.Nodup) (h1 : x.f3[j]? = some nm) (h3 : x.f4[j]? = some y) : spField x nm = y := by
  obtain ⟨hj, he⟩ := List.getElem?_eq_some_iff.1 h1
  have hp := plc_nodup hnd j hj
  rw [he] at hp
  unfold spField
  rw [if_pos ⟨h2, by omega⟩, hp, Int.toNat_natCast, List.getD_eq_getElem?_getD, h3]
  rfl

/-- spec.Word: a scalar. -/
theorem word_calls (s : ByteArray) (w : World) : Calls Try.prog 14 #[.string s] w fun e w' => e = .returned (.agg #[.int .i64 1, .string s, .string ⟨#[33, 33, 115, 116, 114]⟩, .slice none 0 0, .slice none 0 0]) ∧ Below w.heap.size w w' := by
  have hu := Try.underlying25
  go_enter Try.func14, Try.ntmps14
  go_wp2
  refine bodyPost_ret (v := .agg #[.int .i64 1, .string s, .string ⟨#[33, 33, 115, 116, 114]⟩, .slice none 0 0, .slice none 0 0]) (by simp [results, Try.results14, go_sem]) rfl ⟨rfl, ?_⟩
  exact (Below.refl _ _).alloc (Nat.le_refl _) _
theorem one_str {w : World} {g : Nat} {s : ByteArray} {t : TypeId} (h : w.heap[g]? = some (.cells #[.string s] t (0, 0))) : Kd.string.C w (some ⟨g, 0, none⟩) [s].length [s] := by
  refine ⟨rfl, by simp, fun _ => ⟨_, rfl, fun j p hp => ?_⟩⟩
  match j, hp with
  | 0, hp =>
    obtain rfl : s = p := by simpa using hp
    refine ⟨[.string s], rfl, rfl, fun i u hu => ?_⟩
    match i, hu with
    | 0, hu =>
      obtain rfl : Value.string s = u := by simpa using hu
      rw [show (⟨g, 0, none⟩ : Addr).add (0 * Kd.string.sz + 0) = ⟨g, 0, none⟩ by simp [Addr.add], cell_of_block h]; rfl
    | i + 1, hu => simp at hu
  | j + 1, hp => simp at hp
theorem one_node {w : World} {g : Nat} {y : S25} {v0 v1 v2 v3 v4 : Value} {t : TypeId} (h : w.heap[g]? = some (.cells #[v0, v1, v2, v3, v4] t (0, 0))) (hK : k25.K w y [v0, v1, v2, v3, v4]) :
    k25.C w (some ⟨g, 0, none⟩) [y].length [y] := by
  refine ⟨rfl, by simp, fun _ => ⟨_, rfl, fun j p hp => ?_⟩⟩
  match j, hp with
  | 0, hp =>
    obtain rfl : y = p := by simpa using hp
    refine ⟨[v0, v1, v2, v3, v4], rfl, hK, fun i u hu => ?_⟩
    have ha : (⟨g, 0, none⟩ : Addr).add (0 * k25.sz + i) = ⟨g, i, none⟩ := by
      cases i <;> simp [Addr.add]
    rw [ha, cell_of_block h]
    simpa using hu
  | j + 1, hp => simp at hp

theorem word_mk (s : ByteArray) (h1 : 1 ≤ s.size) (h2 : s.size ≤ 20) (h3 : ∀ n : Nat, n < s.size → 97 ≤ bt s n ∧ bt s n ≤ 122) (h4 : s.toList ≠ [116, 114, 117, 101]) (h5 : s.toList ≠ [102, 97, 108, 115, 101]) (h6 : s.toList ≠ [110, 117, 108, 108]) : Word s where
  pos := h1
  le := h2
  first := h3 0 (by omega)
  all := fun i h0 hi => .inl (by have := h3 i.toNat (by omega); rwa [Int.toNat_of_nonneg h0] at this)
  last := fun e => by
    have := h3 (s.size - 1) (by omega)
    rw [show ((s.size - 1 : Nat) : Int) = (s.size : Int) - 1 by omega] at this
    omega
  noTrue := h4
  noFalse := h5
  noNull := h6
theorem word_name : Word nameB := word_mk _ (by decide) (by decide) (by decide +kernel) (by rw [ByteArray.toList_eq]; decide) (by rw [ByteArray.toList_eq]; decide) (by rw [ByteArray.toList_eq]; decide)
abbrev aB : ByteArray := ⟨#[97]⟩
abbrev strB : ByteArray := ⟨#[33, 33, 115, 116, 114]⟩
theorem word_a : Word aB := word_mk _ (by decide) (by decide) (by decide +kernel) (by rw [ByteArray.toList_eq]; decide) (by rw [ByteArray.toList_eq]; decide) (by rw [ByteArray.toList_eq]; decide)
theorem sc_word {s : ByteArray} (h : Word s) : Sc s strB := .inl ⟨by rw [ByteArray.toList_eq]; rfl, h⟩
end Go.Proofs.Ytigpgkfgkjabmaa
