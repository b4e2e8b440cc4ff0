import Derived.Test.YtkpdkoafngjflaaGreatWkDef
import Derived.Test.YtkpdkoafngjflaaGreatWkIter
namespace Go.Proofs.YtkpdkoafngjflaaGreat
open Go.RowKit Go.Proofs.YtkpdkoafngjflaaGreatW.PrintWords Go.Proofs.YtkpdkoafngjflaaGreatW.PrintLast Go.Proofs.YtkpdkoafngjflaaGreat.PFnFields
set_option linter.unusedVariables false
set_option linter.unusedSimpArgs false
section
variable {d : Nat} {w w' : World} {s c : Nat} {vis P : Value} {n m : Nat} {v0 v1 v2 : Value} {FD FO FU : Nat → Prop} {oD oO oU : Option (Nat × S25)}
theorem Pre.pathB (h : Pre d w s c vis P n m v0 v1 v2 FD FO FU oD oO oU) (hb : Below w.heap.size w w') : PathOK w' P n :=
 h.path.move fun k hk => by
  obtain ⟨xs, ho⟩ := h.path
  exact hb.block k (own_lt ho k hk)
theorem Pre.leftN (h : Pre d w s c vis P n m v0 v1 v2 FD FO FU oD oO oU) (hb : Below w.heap.size w w') (hm : MR d (sn oD) (sn oO) (sn oU) none) : Left d w s P n v0 v2 FD FU oD oO oU none w' :=
 ⟨h.pathB hb, .inl ⟨rfl, hm, Chg.of_below hb⟩⟩
theorem Pre.leftD (h : Pre d w s c vis P n m v0 v1 v2 FD FO FU oD oO oU) (hb : Below w.heap.size w w') {r b : Nat} {D : S25} (e : oD = some (b, D)) (ev : v0 = ptr r) (hm : MR d (sn oD) (sn oO) (sn oU) (some D)) : Left d w s P n v0 v2 FD FU oD oO oU (some r) w' := by
 refine ⟨h.pathB hb, .inr ⟨r, b, FD, D, rfl, hm, ?_, ?_, (h.fit _ (.inl e)).1.live, .inl ev.symm, .inl ⟨⟨D, e⟩, fun k q => .inl q, Chg.of_below hb⟩⟩⟩
 ·have h0 := h.d0
  subst e
  obtain ⟨r', e', hr, _⟩ := h0
  rw [ev] at e'
  cases e'
  exact hr.below hb
 ·have h0 := h.d0
  subst e
  obtain ⟨r', e', _, hy⟩ := h0
  exact hy.below hb
theorem Pre.leftU (h : Pre d w s c vis P n m v0 v1 v2 FD FO FU oD oO oU) (hb : Below w.heap.size w w') {r b : Nat} {U : S25} (e : oU = some (b, U)) (ev : v2 = ptr r) (hm : MR d (sn oD) (sn oO) (sn oU) (some U)) : Left d w s P n v0 v2 FD FU oD oO oU (some r) w' := by
 refine ⟨h.pathB hb, .inr ⟨r, b, FU, U, rfl, hm, ?_, ?_, (h.fit _ (.inr (.inr e))).1.live, .inr (.inl ev.symm), .inr ⟨fun k q => .inl q, Chg.of_below hb⟩⟩⟩
 ·have h0 := h.d2
  subst e
  obtain ⟨r', e', hr, _⟩ := h0
  rw [ev] at e'
  cases e'
  exact hr.below hb
 ·have h0 := h.d2
  subst e
  obtain ⟨r', e', _, hy⟩ := h0
  exact hy.below hb
end
theorem MR.flat {d : Nat} {D O U : S25} (h : OK3 (d + 1) D O U) (h2 : D.f0 ≠ 2) : (U = O → MR (d + 1) (some D) (some O) (some U) (some D)) ∧ (U ≠ O → MR (d + 1) (some D) (some O) (some U) (some U)) := by
 have hw := h.wf
 refine ⟨fun e => ?_, fun e => ?_⟩
 ·subst e
  exact ⟨D, rfl, .inl ⟨h2, by rw [smD_refl hw.2.2, if_pos rfl]⟩⟩
 ·refine ⟨U, rfl, .inl ⟨h2, ?_⟩⟩
  rw [if_neg (fun q => e (smD_eq hw.2.2 hw.2.1 q))]
def VisitEnd (w : World) (vr : Value) (e : Ending) (w' : World) : Prop := e = .returned (.tuple #[vr, .nilIface]) ∧ Below w.heap.size w w'
structure Flat (d : Nat) (Vs : World → Value → Prop) (w : World) (s c : Nat) (v0 v1 v2 : Value) (oD oO oU : Option (Nat × S25)) (FD FO FU : Nat → Prop) : Prop where
 easy : ∀ (o0 o1 o2 : PO), PR w v0 o0 → PR w v1 o1 → PR w v2 o2 → ∀ vr, (o1.isNone = true ∧ o2.isNone = true ∧ vr = v0) ∨ (o1.isNone = true ∧ o2.isNone = false ∧ vr = v2) ∨ (o1.isNone = false ∧ o2.isNone = true ∧ vr = v2) → Vs w vr
 all : ∀ rd ro ru bd bo bu D O U, v0 = ptr rd → v1 = ptr ro → v2 = ptr ru → oD = some (bd, D) → oO = some (bo, O) → oU = some (bu, U) → ∀ vr, (U = O ∧ vr = ptr rd) ∨ (U ≠ O ∧ vr = ptr ru) → Vs w vr
theorem SP.pr {d : Nat} {w : World} {v : Value} {F : Nat → Prop} {o : Option (Nat × S25)} (h : SP d w v F o) (hf : ∀ x, o = some x → Wf d x.2) : ∃ q : PO, PR w v q ∧ q.isNone = o.isNone := by
 cases o with
 | none => exact ⟨none, h, rfl⟩
 |some x =>
  obtain ⟨r, e, hr, hy⟩ := h
  obtain ⟨cv, hn⟩ := node_open hy
  exact ⟨some (x.1, _, _, _, cv), ⟨r, e, hr, hn, (hf x rfl).live⟩, rfl⟩
theorem flat_left {d : Nat} {w : World} {s c : Nat} {vis P : Value} {n m : Nat} {v0 v1 v2 : Value} {FD FO FU : Nat → Prop} {oD oO oU : Option (Nat × S25)} (h : Pre (d + 1) w s c vis P n m v0 v1 v2 FD FO FU oD oO oU) (h2 : ∀ x, oD = some x ∨ oO = some x ∨ oU = some x → x.2.f0 ≠ 2)
  {Vs : World → Value → Prop} (hv : Flat (d + 1) Vs w s c v0 v1 v2 oD oO oU FD FO FU) : ∃ p : Option Nat, Vs w (.pointer (p.map fun r => ⟨r, 0, none⟩)) ∧ ∀ w', Below w.heap.size w w' → Left (d + 1) w s P n v0 v2 FD FU oD oO oU p w' := by
 obtain ⟨q0, p0, e0⟩ := h.d0.pr (fun x e => (h.fit x (.inl e)).1)
 obtain ⟨q1, p1, e1⟩ := h.d1.pr (fun x e => (h.fit x (.inr (.inl e))).1)
 obtain ⟨q2, p2, e2⟩ := h.d2.pr (fun x e => (h.fit x (.inr (.inr e))).1)
 have hd0 := h.d0
 have hd1 := h.d1
 have hd2 := h.d2
 have hcs := h.cs
 have hsm := h.some_
 rcases oD with _ | ⟨bd, D⟩
 ·rcases oO with _ | ⟨bo, O⟩
  ·rcases oU with _ | ⟨bu, U⟩
   ·simp at hsm
   ·obtain ⟨ru, ev, _, _⟩ := hd2
    exact ⟨some ru, hv.easy q0 q1 q2 p0 p1 p2 _ (.inr (.inl ⟨e1, e2, ev.symm⟩)), fun w' hb => h.leftU hb rfl ev (MR.nnu.2 ⟨U, rfl, Lq.refl hcs⟩)⟩
  ·rcases oU with _ | U <;> exact hcs.elim
 ·obtain ⟨rd, ev0, _, _⟩ := hd0
  rcases oO with _ | ⟨bo, O⟩
  ·rcases oU with _ | U
   ·exact ⟨some rd, hv.easy q0 q1 q2 p0 p1 p2 _ (.inl ⟨e1, e2, ev0.symm⟩), fun w' hb => h.leftD hb rfl ev0 (MR.dnn.2 ⟨D, rfl, Lq.refl hcs⟩)⟩
   ·exact hcs.elim
  ·obtain ⟨ro, ev1, _, _⟩ := hd1
   rcases oU with _ | ⟨bu, U⟩
   ·have ev2 : v2 = .pointer none := hd2
    exact ⟨none, hv.easy q0 q1 q2 p0 p1 p2 _ (.inr (.inr ⟨e1, e2, ev2.symm⟩)), fun w' hb => h.leftN hb (MR.don.2 rfl)⟩
   ·obtain ⟨ru, ev2, _, _⟩ := hd2
    have hfl := MR.flat (d := d) hcs (h2 (bd, D) (.inl rfl))
    by_cases e : U = O
    ·exact ⟨some rd, hv.all rd ro ru bd bo bu D O U ev0 ev1 ev2 rfl rfl rfl _ (.inl ⟨e, rfl⟩), fun w' hb => h.leftD hb rfl ev0 (hfl.1 e)⟩
    ·exact ⟨some ru, hv.all rd ro ru bd bo bu D O U ev0 ev1 ev2 rfl rfl rfl _ (.inr ⟨e, rfl⟩), fun w' hb => h.leftU hb rfl ev2 (hfl.2 e)⟩
theorem flat_scalar {d : Nat} {w : World} {s c : Nat} {vis P : Value} {n m : Nat} {v0 v1 v2 : Value} {FD FO FU : Nat → Prop} {oD oO oU : Option (Nat × S25)} (h : Pre (d + 1) w s c vis P n m v0 v1 v2 FD FO FU oD oO oU) (h1 : ∀ x, oD = some x ∨ oO = some x ∨ oU = some x → x.2.f0 = 1) :
  Flat (d + 1) (fun w vr => Calls Tryz.prog 154 #[.agg #[], srcV s c, .pointer none] w (VisitEnd w vr)) w s c v0 v1 v2 oD oO oU FD FO FU := by
 refine ⟨fun o0 o1 o2 p0 p1 p2 vr hv => vscalar_easy w s c v0 v1 v2 o0 o1 o2 h.src p0 p1 p2 vr hv, fun rd ro ru bd bo bu D O U e0 e1 e2 eD eO eU vr hv => ?_⟩
 subst e0 e1 e2 eD eO eU
 have key : ∀ {v : Value} {F : Nat → Prop} {r b : Nat} {x : S25}, SP (d + 1) w v F (some (b, x)) → v = ptr r → x.f0 = 1 → Fit (d + 1) x → ∃ cv, RN w r b ∧ NB w b 8 x.f2 x.f1 cv ∧ Live 8 x.f2 := fun hs ev hx hf => by
  obtain ⟨r', e', hr, hy⟩ := hs
  rw [ev] at e'
  cases e'
  rw [toY_one hx] at hy
  obtain ⟨cv, hn⟩ := node_open hy
  have := hf.1.live
  rw [toY_one hx] at this
  exact ⟨cv, hr, hn, this⟩
 obtain ⟨cd, kd⟩ := key h.d0 rfl (h1 _ (.inl rfl)) (h.fit _ (.inl rfl))
 obtain ⟨co, ko⟩ := key h.d1 rfl (h1 _ (.inr (.inl rfl))) (h.fit _ (.inr (.inl rfl)))
 obtain ⟨cu, ku⟩ := key h.d2 rfl (h1 _ (.inr (.inr rfl))) (h.fit _ (.inr (.inr rfl)))
 refine vscalar_all w s c rd ro ru bd bo bu D.f2 O.f2 U.f2 D.f1 O.f1 U.f1 cd co cu h.src kd ko ku vr ?_
 have hw := (h.fit _ (.inr (.inr rfl))).1
 have ho := (h.fit _ (.inr (.inl rfl))).1
 have ht : ∀ {x : S25}, x.f0 = 1 → tx (d + 1) x = x.f1 := fun e => by simp only [tx]; rw [if_pos e]
 rcases hv with ⟨e, ev⟩ | ⟨e, ev⟩
 ·exact .inl ⟨by rw [e], ev⟩
 ·refine .inr ⟨fun q => e (tx_inj hw ho ?_), ev⟩
  rw [ht (h1 _ (.inr (.inr rfl))), ht (h1 _ (.inr (.inl rfl)))]
  exact q
theorem flat_list {d : Nat} {w : World} {s c : Nat} {vis P : Value} {n m : Nat} {v0 v1 v2 : Value} {FD FO FU : Nat → Prop} {oD oO oU : Option (Nat × S25)} (h : Pre (d + 1) w s c vis P n m v0 v1 v2 FD FO FU oD oO oU) :
  Flat (d + 1) (fun w vr => Calls Tryz.prog 157 #[.agg #[], srcV s c] w (VisitEnd w vr)) w s c v0 v1 v2 oD oO oU FD FO FU := by
 refine ⟨fun o0 o1 o2 p0 p1 p2 vr hv => vlist_easy w s c v0 v1 v2 o0 o1 o2 h.src p0 p1 p2 vr hv, fun rd ro ru bd bo bu D O U e0 e1 e2 eD eO eU vr hv => ?_⟩
 subst e0 e1 e2 eD eO eU
 have key : ∀ {v : Value} {F : Nat → Prop} {r b : Nat} {x : S25}, SP (d + 1) w v F (some (b, x)) → v = ptr r → Fit (d + 1) x → TN w r b (tx (d + 1) x) := fun hs ev hf => by
  obtain ⟨r', e', hr, hy⟩ := hs
  rw [ev] at e'
  cases e'
  obtain ⟨cv, hn⟩ := node_open hy
  exact ⟨hr, ⟨_, _, _, _, hn, hf.1.live⟩, fun w' hb => ztext_calls (d + 1) _ hf w' _ _ (hy.below hb)⟩
 refine vlist_all w s c rd ro ru bd bo bu _ _ _ h.src (key h.d0 rfl (h.fit _ (.inl rfl))) (key h.d1 rfl (h.fit _ (.inr (.inl rfl)))) (key h.d2 rfl (h.fit _ (.inr (.inr rfl)))) vr ?_
 rcases hv with ⟨e, ev⟩ | ⟨e, ev⟩
 ·exact .inl ⟨by rw [e], ev⟩
 ·exact .inr ⟨fun q => e (tx_inj (h.fit _ (.inr (.inr rfl))).1 (h.fit _ (.inr (.inl rfl))).1 q), ev⟩
theorem flat_later {d : Nat} {w : World} {s c : Nat} {vis P : Value} {n m : Nat} {v0 v1 v2 : Value} {FD FO FU : Nat → Prop} {oD oO oU : Option (Nat × S25)} (h : Pre (d + 1) w s c vis P n m v0 v1 v2 FD FO FU oD oO oU) :
  Flat (d + 1) (fun w vr => ∀ w', Below w.heap.size w w' → Calls Tryz.prog 157 #[.agg #[], srcV s c] w' (VisitEnd w' vr)) w s c v0 v1 v2 oD oO oU FD FO FU :=
 ⟨fun o0 o1 o2 p0 p1 p2 vr hv w' hb => (flat_list (h.below hb)).easy o0 o1 o2 (p0.below hb) (p1.below hb) (p2.below hb) vr hv, fun rd ro ru bd bo bu D O U e0 e1 e2 eD eO eU vr hv w' hb => (flat_list (h.below hb)).all rd ro ru bd bo bu D O U e0 e1 e2 eD eO eU vr hv⟩
theorem Vis.vmap {T : TypeId} {fv : Value} (h : ∀ n wa, (method (n + 20) T fv "VisitMap").run Tryz.prog wa = .ok (153, .agg #[]) wa) (wa : World) :
  (method (Tryz.prog.types.size + Made.depth) T fv "VisitMap").run Tryz.prog wa = .ok (153, .agg #[]) wa := by
 have e : Tryz.prog.types.size + Made.depth = (Tryz.prog.types.size + 80) + 20 := by
  have : Made.depth = 100 := rfl
  omega
 rw [e]
 exact h _ wa
def DestIs (w w' : World) (v0 : Value) (oD : Option (Nat × S25)) (rr : Nat) : Prop :=
 v0 = ptr rr ∨ (oD = none ∧ ∃ b, RN w' rr b ∧ NB w' b 4 ⟨#[]⟩ ⟨#[]⟩ (.slice none 0 0) ∧ w.heap.size ≤ rr ∧ w.heap.size ≤ b ∧ rr ≠ b)
theorem vmap_any {d : Nat} {w : World} {s c : Nat} {vis P : Value} {n m : Nat} {v0 v1 v2 : Value} {FD FO FU : Nat → Prop} {oD oO oU : Option (Nat × S25)} (h : Pre (d + 1) w s c vis P n m v0 v1 v2 FD FO FU oD oO oU) :
  Calls Tryz.prog 153 #[.agg #[], srcV s c, .pointer none] w fun e w' => ∃ rr, e = .returned (.tuple #[ptr rr, .nilIface]) ∧ Below w.heap.size w w' ∧ DestIs w w' v0 oD rr := by
 obtain ⟨q0, p0, e0⟩ := h.d0.pr (fun x e => (h.fit x (.inl e)).1)
 obtain ⟨q2, p2, e2⟩ := h.d2.pr (fun x e => (h.fit x (.inr (.inr e))).1)
 have hsrc := h.src
 have hsm := h.some_
 have hd0 := h.d0
 have hd2 := h.d2
 rcases oD with _ | D
 ·rcases oU with _ | U
  ·simp at hsm
  ·obtain ⟨ru, ev, _, _⟩ := hd2
   have e0' : v0 = .pointer none := hd0
   subst ev e0'
   refine (vmap_new w s c ru v1 q2 hsrc p2).mono ?_
   rintro e w' ⟨rr, b, rfl, h1, h2, h3, h4, h5, h6⟩
   exact ⟨rr, rfl, h3, .inr ⟨rfl, b, h1, h2, h4, h5, h6⟩⟩
 ·obtain ⟨rd, ev, _, _⟩ := hd0
  subst ev
  refine (vmap_dest w s c rd v1 v2 q0 q2 hsrc p0 p2).mono ?_
  rintro e w' ⟨rfl, hb⟩
  exact ⟨rd, rfl, hb, .inl rfl⟩
def KP (w : World) (base : Nat) (nm : ByteArray) (o : Option (List ByteArray × List Nat)) (x : Value) : Prop :=
 (nm ∉ okeys o ∧ x = .pointer none) ∨ ∃ ks bs q kr cv, o = some (ks, bs) ∧ ks[q]? = some nm ∧ x = ptr kr ∧ RN w kr (bs.getD (2 * q) 0) ∧ NB w (bs.getD (2 * q) 0) 8 ⟨#[]⟩ nm cv ∧ base ≤ kr
theorem KP.imp {w w' : World} {base : Nat} {nm : ByteArray} {o : Option (List ByteArray × List Nat)} {x : Value} (h : KP w base nm o x) (hr : ∀ r b, RN w r b → RN w' r b) (hn : ∀ b cv, NB w b 8 ⟨#[]⟩ nm cv → NB w' b 8 ⟨#[]⟩ nm cv) : KP w' base nm o x := by
 rcases h with h | ⟨ks, bs, q, kr, cv, h1, h2, h3, h4, h5, h6⟩
 ·exact .inl h
 ·exact .inr ⟨ks, bs, q, kr, cv, h1, h2, h3, hr _ _ h4, hn _ _ h5, h6⟩
theorem KP.below {w w' : World} {base : Nat} {nm : ByteArray} {o : Option (List ByteArray × List Nat)} {x : Value} (h : KP w base nm o x) (hb : Below w.heap.size w w') : KP w' base nm o x :=
 h.imp (fun _ _ h => h.below hb) (fun _ _ h => h.below hb)
theorem KP.pr {w : World} {base : Nat} {nm : ByteArray} {o : Option (List ByteArray × List Nat)} {x : Value} (h : KP w base nm o x) : ∃ q : PO, PR w x q ∧ (q.isNone = true ↔ nm ∉ okeys o) := by
 rcases h with ⟨h, e⟩ | ⟨ks, bs, q, kr, cv, h1, h2, h3, h4, h5, h6⟩
 ·exact ⟨none, e, by simp [h]⟩
 ·refine ⟨some (_, 8, _, _, cv), ⟨kr, h3, h4, h5, live_key⟩, ?_⟩
  subst h1
  have : nm ∈ okeys (some (ks, bs)) := List.mem_of_getElem? h2
  simp [this]
theorem KP.there {w : World} {base : Nat} {nm : ByteArray} {o : Option (List ByteArray × List Nat)} {x : Value} (h : KP w base nm o x) (hk : nm ∈ okeys o) : ∃ kr kb cv, x = ptr kr ∧ RN w kr kb ∧ NB w kb 8 ⟨#[]⟩ nm cv := by
 rcases h with ⟨h, e⟩ | ⟨ks, bs, q, kr, cv, h1, h2, h3, h4, h5, h6⟩
 ·exact absurd hk h
 ·exact ⟨kr, _, cv, h3, h4, h5⟩
def KR (w : World) (nm : ByteArray) (x : Value) : Prop := x = .pointer none ∨ ∃ kr kb cv, x = ptr kr ∧ RN w kr kb ∧ NB w kb 8 ⟨#[]⟩ nm cv
theorem KP.kr {w w4 : World} {base : Nat} {nm : ByteArray} {o : Option (List ByteArray × List Nat)} {x v : Value} (h : KP w base nm o x) (hs : SM w4 v o) (hr : ∀ k b, base ≤ k → RN w k b → RN w4 k b) : KR w4 nm x := by
 rcases h with ⟨h, e⟩ | ⟨ks, bs, q, kr, cv, h1, h2, h3, h4, h5, h6⟩
 ·exact .inl e
 ·subst h1
  obtain ⟨r, b, A, g, c, _, _, hf⟩ := hs
  have hq := List.getElem?_eq_some_iff.1 h2
  obtain ⟨cv', hn⟩ := hf.keys q hq.1
  rw [hq.2] at hn
  exact .inr ⟨kr, _, cv', h3, hr _ _ h6 h4, hn⟩
theorem KP.ptr_ {w : World} {base : Nat} {nm : ByteArray} {o : Option (List ByteArray × List Nat)} {x : Value} (h : KP w base nm o x) : ∃ p, x = .pointer p := by
 rcases h with ⟨h, e⟩ | ⟨ks, bs, q, kr, cv, h1, h2, h3, _⟩
 ·exact ⟨_, e⟩
 ·exact ⟨_, h3⟩
theorem vkeys {w : World} {g cap base : Nat} {nm : ByteArray} {x0 x1 x2 : Value} {q0 q1 q2 : Option (List ByteArray × List Nat)} (h : Src w g x0 x1 x2) (h0 : KP w base nm q0 x0) (h1 : KP w base nm q1 x1) (h2 : KP w base nm q2 x2) (c1 : nm ∈ okeys q1 → nm ∈ okeys q0) :
  ∃ vr, (vr = x0 ∨ vr = x2) ∧ Calls Tryz.prog 154 #[.agg #[], srcV g cap, .pointer none] w (VisitEnd w vr) := by
 obtain ⟨p0, a0, b0⟩ := h0.pr
 obtain ⟨p1, a1, b1⟩ := h1.pr
 obtain ⟨p2, a2, b2⟩ := h2.pr
 by_cases k1 : nm ∈ okeys q1
 ·by_cases k2 : nm ∈ okeys q2
  ·have k0 := c1 k1
   obtain ⟨r0, c0, d0, e0, f0, g0⟩ := h0.there k0
   obtain ⟨r1, c1, d1, e1, f1, g1⟩ := h1.there k1
   obtain ⟨r2, c2, d2, e2, f2, g2⟩ := h2.there k2
   subst e0 e1 e2
   exact ⟨ptr r0, .inl rfl, vscalar_all w g cap r0 r1 r2 c0 c1 c2 _ _ _ nm nm nm d0 d1 d2 h ⟨f0, g0, live_key⟩ ⟨f1, g1, live_key⟩ ⟨f2, g2, live_key⟩ _ (.inl ⟨rfl, rfl⟩)⟩
  ·exact ⟨x2, .inr rfl, vscalar_easy w g cap x0 x1 x2 p0 p1 p2 h a0 a1 a2 x2 (.inr (.inr ⟨by rw [Bool.eq_false_iff]; exact fun e => b1.1 e k1, b2.2 k2, rfl⟩))⟩
 ·by_cases k2 : nm ∈ okeys q2
  ·exact ⟨x2, .inr rfl, vscalar_easy w g cap x0 x1 x2 p0 p1 p2 h a0 a1 a2 x2 (.inr (.inl ⟨b1.2 k1, by rw [Bool.eq_false_iff]; exact fun e => b2.1 e k2, rfl⟩))⟩
  ·exact ⟨x0, .inl rfl, vscalar_easy w g cap x0 x1 x2 p0 p1 p2 h a0 a1 a2 x0 (.inl ⟨b1.2 k1, b2.2 k2, rfl⟩)⟩
def noMap : S25 := ⟨2, ⟨#[]⟩, ⟨#[]⟩, [], []⟩
theorem noMap_mp : Mp noMap := ⟨rfl, rfl, rfl, rfl, List.nodup_nil⟩
theorem row_set0 {w : World} {s c : Nat} {e : TypeId} {v0 v1 v2 x : Value} (h : w.ownsRow 0 e 1 (srcV s c) 3 [v0, v1, v2]) : (w.setCell ⟨s, 0, none⟩ x).ownsRow 0 e 1 (srcV s c) 3 [x, v1, v2] := by
 obtain ⟨h1, h2⟩ := h
 refine ⟨rfl, ?_⟩
 rcases h2 with ⟨e1, _⟩ | ⟨g, cap, cur, e1, hb, hg, hn, hc, hs, ht⟩
 ·cases e1
 ·cases e1
  refine .inr ⟨s, c, cur.setIfInBounds 0 x, rfl, hb, heap_set (a := ⟨s, 0, none⟩) hg rfl, hn, hc, by simpa using hs, ?_⟩
  rw [Array.toList_setIfInBounds, List.take_set, ht]
  rfl
theorem SrcMap.below {d : Nat} {w w' : World} {v : Value} {F : Nat → Prop} {Fs : Nat → Nat → Prop} {o : Option (Nat × S25)} {q : Option (List ByteArray × List Nat)} (h : SrcMap d w v F Fs o q) (hb : Below w.heap.size w w') : SrcMap d w' v F Fs o q := by
 cases o <;> cases q
 ·exact h
 ·exact h.elim
 ·exact h.elim
 ·obtain ⟨r, A, g, c, e, hr, e2, hp, hm⟩ := h
  exact ⟨r, A, g, c, e, hr.below hb, e2, hp, hm.below hb⟩
theorem SrcMap.now {d : Nat} {w : World} {v : Value} {F : Nat → Prop} {Fs : Nat → Nat → Prop} {o : Option (Nat × S25)} {q : Option (List ByteArray × List Nat)} (h : SrcMap d w v F Fs o q) : SM w v q :=
 h.sm (S := fun _ => False) (Chg.refl _ _) (fun k q => q.elim) (fun r _ q => q)
theorem SrcMap.keys {d : Nat} {w : World} {v : Value} {F : Nat → Prop} {Fs : Nat → Nat → Prop} {o : Option (Nat × S25)} {q : Option (List ByteArray × List Nat)} (h : SrcMap d w v F Fs o q) : (∀ nm, nm ∈ okeys q ↔ olk (sn o) nm ≠ none) ∧ (∀ x ∈ okeys q, ∃ z, o = some z ∧ x ∈ z.2.f3) ∧ (okeys q = [] ∨ ∃ z, o = some z ∧ okeys q = z.2.f3) := by
 cases o <;> cases q
 ·exact ⟨fun nm => ⟨fun e => (by cases e), fun e => absurd rfl e⟩, fun x e => (by cases e), .inl rfl⟩
 ·exact h.elim
 ·exact h.elim
 ·rename_i z q
  obtain ⟨ks, bs⟩ := q
  obtain ⟨r, A, g, c, e, hr, e2, hp, hm⟩ := h
  obtain rfl : ks = z.2.f3 := e2
  refine ⟨fun nm => ?_, fun x hx => ⟨z, rfl, hx⟩, .inr ⟨z, rfl, rfl⟩⟩
  have := hp.none_ (k := nm)
  exact ⟨fun h1 h2 => this.1 h2 h1, fun h1 => Classical.byContradiction fun h2 => h1 (this.2 h2)⟩
theorem Word.nonempty {x : ByteArray} (h : Word x) : x.size ≤ maxLen ∧ x.toList.isEmpty = false := by
 refine ⟨by have := h.le; unfold maxLen; omega, ?_⟩
 have h1 := h.pos
 rw [← Bool.not_eq_true, List.isEmpty_iff]
 intro e
 have h2 : x.toList.length = x.size := by rw [ByteArray.toList_eq]; simp
 rw [e] at h2
 simp at h2
 omega
section
variable {d : Nat} {w wc wd : World} {s c : Nat} {vis P : Value} {n m : Nat} {v0 v1 v2 : Value} {FD FO FU : Nat → Prop} {oD oO oU : Option (Nat × S25)}
theorem env_start (h : Pre (d + 1) w s c vis P n m v0 v1 v2 FD FO FU oD oO oU) (hlt : ∀ k, FD k ∨ FO k ∨ FU k → k < w.heap.size) (h2 : ∀ x, oD = some x ∨ oO = some x ∨ oU = some x → x.2.f0 = 2) {rr : Nat} (hb : Below w.heap.size w wc) (hd : DestIs w wc v0 oD rr) (hwd : wc.setCell ⟨s, 0, none⟩ (ptr rr) = wd) :
  ∃ (dn : Nat) (FDl : Nat → Prop) (FsO FsU : Nat → Nat → Prop) (q0 q1 q2 : Option (List ByteArray × List Nat)) (X0 : S25),
   Src wd s (ptr rr) v1 v2 ∧ SM wd (ptr rr) q0 ∧ SM wd v1 q1 ∧ SM wd v2 q2 ∧ okeys q0 = X0.f3 ∧ (∀ j, j < 3 → ∀ x ∈ okeys (pick3 q0 q1 q2 j), x.size ≤ maxLen ∧ x.toList.isEmpty = false) ∧ ((okeys q0).length ≤ 60 ∧ (okeys q1).length ≤ 60 ∧ (okeys q2).length ≤ 60) ∧
   (∀ nm, nm ∈ okeys q0 ∨ nm ∈ okeys q1 ∨ nm ∈ okeys q2 ↔ olk (sn oD) nm ≠ none ∨ olk (sn oO) nm ≠ none ∨ olk (sn oU) nm ≠ none) ∧ (∀ nm, (nm ∈ okeys q0 ↔ olk (sn oD) nm ≠ none) ∧ (nm ∈ okeys q1 ↔ olk (sn oO) nm ≠ none) ∧ (nm ∈ okeys q2 ↔ olk (sn oU) nm ≠ none)) ∧
   (∀ k, k < w.heap.size → k ≠ s → wd.heap[k]? = w.heap[k]?) ∧ (∀ k, FDl k → (FD k ∨ w.heap.size ≤ k) ∧ k < wd.heap.size) ∧
   ∀ ws, Below wd.heap.size wd ws → Env d ws s c rr dn vis P n m v1 v2 FDl FO FU FsO FsU (sn oD) oO oU q1 q2 ∧ Inv d ws dn P n FDl FsU (sn oD) oO oU q2 (fun _ => False) 0 ws X0 FDl ∧
    ∀ (done : ByteArray → Prop) (cnt : Nat) (w' : World) (X : S25) (G : Nat → Prop), (∀ nm, olk (sn oD) nm ≠ none ∨ olk (sn oO) nm ≠ none ∨ olk (sn oU) nm ≠ none → done nm) → Inv d ws dn P n FDl FsU (sn oD) oO oU q2 done cnt w' X G → Left (d + 1) w s P n v0 v2 FD FU oD oO oU (some rr) w' := by
 have hs := h.row
 have hsl : s < w.heap.size := own_lt hs s rfl
 have hbs := hb.size
 have hcd : Chg (fun k => k = s) w wd := by rw [← hwd]; exact (Chg.of_below (S := fun k => k = s) hb).setCell (p := ⟨s, 0, none⟩) (.inl rfl) _
 have hcd' : ∀ k, k < wc.heap.size → k ≠ s → wd.heap[k]? = wc.heap[k]? := fun k hk hn => by rw [← hwd]; exact heap_set_ne hn
 have hsd : wd.heap.size = wc.heap.size := by rw [← hwd]; simp [World.setCell]
 have hrow : wd.ownsRow 0 42 1 (srcV s c) 3 [ptr rr, v1, v2] := by
  rw [← hwd]
  exact row_set0 (own_move hs (fun k hk => hb.block k (own_lt hs k hk)))
 have hw : ∀ k, k < w.heap.size → k ≠ s → wd.heap[k]? = w.heap[k]? := fun k hk hn => hcd.block k hk hn
 have hv1 : SP (d + 1) wd v1 FO oO := by
  have h1 := h.d1
  cases oO with
  | none => exact h1
  |some x =>
   obtain ⟨r, e, hr, hy⟩ := h1
   exact ⟨r, e, hr.move (fun l => hw r l (fun q => h.hr r (.inr (.inl e)) (.inr (.inr (.inl q))))), hy.move (fun _ q => q) (fun k q l => hw k l (fun t => h.hO k q (.inr (.inr (.inl t)))))⟩
 have hv2 : SP (d + 1) wd v2 FU oU := by
  have h1 := h.d2
  cases oU with
  | none => exact h1
  |some x =>
   obtain ⟨r, e, hr, hy⟩ := h1
   exact ⟨r, e, hr.move (fun l => hw r l (fun q => h.hr r (.inr (.inr e)) (.inr (.inr (.inl q))))), hy.move (fun _ q => q) (fun k q l => hw k l (fun t => h.hs.2.1 (by rw [← t]; exact q)))⟩
 obtain ⟨FsO, q1, so⟩ := SrcMap.of hv1 (fun x e => ⟨h2 x (.inr (.inl e)), h.fit x (.inr (.inl e))⟩)
 obtain ⟨FsU, q2, su⟩ := SrcMap.of hv2 (fun x e => ⟨h2 x (.inr (.inr e)), h.fit x (.inr (.inr e))⟩)
 have hdest : ∃ (dn : Nat) (FDl : Nat → Prop) (q0 : Option (List ByteArray × List Nat)) (X0 : S25), MapSt d wd FDl dn X0 ∧ RN wd rr dn ∧ SM wd (ptr rr) q0 ∧ okeys q0 = X0.f3 ∧ X0.f3.length ≤ 60 ∧ (∀ k, lk X0 k = olk (sn oD) k) ∧ (∀ x ∈ X0.f3, ∃ z, oD = some z ∧ x ∈ z.2.f3) ∧
   (∀ k, FDl k → k < wd.heap.size ∧ ¬ FU k ∧ ¬ FO k ∧ P.ownBlock ≠ some k ∧ k ≠ s ∧ k ≠ rr ∧ v1 ≠ ptr k ∧ v2 ≠ ptr k) ∧
   (((∃ D, oD = some (dn, D)) ∧ FDl = FD ∧ v0 = ptr rr) ∨ ((∀ k, FDl k → w.heap.size ≤ k) ∧ w.heap.size ≤ rr)) := by
  have hd0 := h.d0
  have hr1 : ∀ q, v1 = ptr q ∨ v2 = ptr q → q < w.heap.size := fun q e => by
   rcases e with e | e
   ·have h1 := h.d1
    cases hoo : oO with
    | none => rw [hoo] at h1; have : v1 = .pointer none := h1; rw [this] at e; cases e
    | some x => rw [hoo] at h1; obtain ⟨r, e', hr, _⟩ := h1; rw [e'] at e; cases e; exact hr.lt
   ·have h1 := h.d2
    cases hoo : oU with
    | none => rw [hoo] at h1; have : v2 = .pointer none := h1; rw [this] at e; cases e
    | some x => rw [hoo] at h1; obtain ⟨r, e', hr, _⟩ := h1; rw [e'] at e; cases e; exact hr.lt
  have hPl : ∀ k, P.ownBlock = some k → k < w.heap.size := fun k hk => by
   obtain ⟨xs, ho⟩ := h.path
   exact own_lt ho k hk
  rcases hoD : oD with _ | ⟨dn, D⟩
  ·rw [hoD] at hd0 hd
   have e0 : v0 = .pointer none := hd0
   rcases hd with e | ⟨_, b, hr, hn, hrl, hbl, hne⟩
   ·rw [e0] at e; cases e
   ·have hbs' : b ≠ s := fun e => by omega
    have hrs' : rr ≠ s := fun e => by omega
    have hn' : NB wd b 4 ⟨#[]⟩ ⟨#[]⟩ (.slice none 0 0) := hn.move (fun l => hcd' b l hbs')
    refine ⟨b, fun k => k = b, some ([], []), noMap, ⟨?_, noMap_mp, fun y hy => (by cases hy), by simp [noMap]⟩, hr.move (fun l => hcd' rr l hrs'), ⟨rr, b, none, 0, 0, rfl, hr.move (fun l => hcd' rr l hrs'), ⟨hn', fun q => absurd q (Nat.lt_irrefl 0), rfl, Nat.zero_le _, fun i hi => absurd hi (Nat.not_lt_zero i), fun j hj => absurd hj (Nat.not_lt_zero j)⟩⟩, rfl, by simp [noMap], fun k => rfl, fun x hx => (by cases hx), fun k q => ?_, .inr ⟨fun k q => by rw [q]; exact hbl, hrl⟩⟩
    ·exact YN.close rfl hn' (bs := []) (own_nil _ _ _ _) (by simp [Value.ownBlock]) (by simp only [noMap, kv, List.map_nil, YL])
    ·subst q
     refine ⟨hn'.lt, fun t => ?_, fun t => ?_, fun t => ?_, hbs', fun t => hne t.symm, fun t => ?_, fun t => ?_⟩
     ·have := hlt k (.inr (.inr t)); omega
     ·have := hlt k (.inr (.inl t)); omega
     ·have := hPl k t; omega
     ·have := hr1 k (.inl t); omega
     ·have := hr1 k (.inr t); omega
  ·rw [hoD] at hd0 hd
   obtain ⟨r, e0, hr, hy⟩ := hd0
   have err : rr = r := by
    rcases hd with e | ⟨e, _⟩
    ·rw [e0] at e; cases e; rfl
    ·cases e
   subst err
   have hfit := h.fit (dn, D) (.inl hoD)
   have hD2 := h2 (dn, D) (.inl hoD)
   have hp := hfit.1.mp hD2
   rw [toY_two hD2] at hy
   have hrT := h.hr rr (.inl e0)
   have hst : MapSt d wd FD dn D := ⟨hy.move (fun _ q => q) (fun k q l => hw k l (fun t => h.hs.1 (by rw [← t]; exact q))), hp, fun y hy => (hfit.1.items y hy).live, by have : D.f3.length ≤ 60 := hfit.len.2; omega⟩
   obtain ⟨bs, A, g, c', hfm, _⟩ := hst.focus
   have hr' : RN wd rr dn := hr.move (fun l => hw rr l (fun t => hrT (.inr (.inr (.inl t)))))
   refine ⟨dn, FD, some (D.f3, bs), D, hst, hr', ⟨rr, dn, A, g, c', rfl, hr', hfm⟩, rfl, hfit.len.2, fun k => rfl, fun x hx => ⟨_, rfl, hx⟩, fun k q => ⟨by have := hlt k (.inl q); omega, h.hDU k q, fun t => h.hO k t (.inl q), fun t => (h.hp k t).1 q, fun t => h.hs.1 (by rw [← t]; exact q), fun t => hrT (.inl (by rw [← t]; exact q)), fun t => h.hr k (.inr (.inl t)) (.inl q), fun t => h.hr k (.inr (.inr t)) (.inl q)⟩, .inl ⟨⟨D, rfl⟩, rfl, e0⟩⟩
 obtain ⟨dn, FDl, q0, X0, hst, hrn, hsm0, hk0, hX60, hX0, hXk, hFDl, hside⟩ := hdest
 have hmaps : ∀ x, sn oD = some x ∨ sn oO = some x ∨ sn oU = some x → x.f0 = 2 ∧ Fit (d + 1) x := fun x q => by
  rcases q with q | q | q
  ·obtain ⟨z, hz, rfl⟩ := Option.map_eq_some_iff.1 q; exact ⟨h2 z (.inl hz), h.fit z (.inl hz)⟩
  ·obtain ⟨z, hz, rfl⟩ := Option.map_eq_some_iff.1 q; exact ⟨h2 z (.inr (.inl hz)), h.fit z (.inr (.inl hz))⟩
  ·obtain ⟨z, hz, rfl⟩ := Option.map_eq_some_iff.1 q; exact ⟨h2 z (.inr (.inr hz)), h.fit z (.inr (.inr hz))⟩
 have hwd2 : ∀ z, oD = some z ∨ oO = some z ∨ oU = some z → ∀ x ∈ z.2.f3, Word x := fun z hz x hx => by
  have hf := (h.fit z hz).1
  have hz2 := h2 z hz
  rcases hf with ⟨q, _⟩ | ⟨_, _, _, _, ⟨_, _, hk, _⟩ | ⟨q, _⟩⟩
  ·omega
  ·exact hk x hx
  ·omega
 have hk0' : ∀ nm, nm ∈ okeys q0 ↔ olk (sn oD) nm ≠ none := fun nm => by
  rw [hk0, ← hX0]
  have := hst.mp.none_ (k := nm)
  exact ⟨fun h1 h2 => this.1 h2 h1, fun h1 => Classical.byContradiction fun h2 => h1 (this.2 h2)⟩
 have hlen : ∀ {o : Option (Nat × S25)} {q : Option (List ByteArray × List Nat)}, (okeys q = [] ∨ ∃ z, o = some z ∧ okeys q = z.2.f3) → (∀ z, o = some z → Fit (d + 1) z.2) → (okeys q).length ≤ 60 := fun hq hf => by
  rcases hq with e | ⟨z, hz, e⟩
  ·rw [e]; exact Nat.zero_le _
  ·rw [e]; exact (hf z hz).len.2
 refine ⟨dn, FDl, FsO, FsU, q0, q1, q2, X0, ⟨own_cell hrow 0 _ rfl, own_cell hrow 1 _ rfl, own_cell hrow 2 _ rfl⟩, hsm0, so.now, su.now, hk0, ?_, ⟨by rw [hk0]; exact hX60, hlen so.keys.2.2 (fun z hz => h.fit z (.inr (.inl hz))), hlen su.keys.2.2 (fun z hz => h.fit z (.inr (.inr hz)))⟩, ?_, fun nm => ⟨hk0' nm, so.keys.1 nm, su.keys.1 nm⟩, hw, fun k q => ⟨?_, (hFDl k q).1⟩, fun ws hbw => ⟨?_, ?_, ?_⟩⟩
 ·intro j hj x hx
  match j, hj, hx with
  |0, _, hx =>
   have hx' : x ∈ okeys q0 := hx
   rw [hk0] at hx'
   obtain ⟨z, hz, hxz⟩ := hXk x hx'
   exact (hwd2 z (.inl hz) x hxz).nonempty
  |1, _, hx =>
   obtain ⟨z, hz, hxz⟩ := so.keys.2.1 x hx
   exact (hwd2 z (.inr (.inl hz)) x hxz).nonempty
  |2, _, hx =>
   obtain ⟨z, hz, hxz⟩ := su.keys.2.1 x hx
   exact (hwd2 z (.inr (.inr hz)) x hxz).nonempty
 ·intro nm
  rw [hk0' nm, so.keys.1 nm, su.keys.1 nm]
 ·rcases hside with ⟨_, e, _⟩ | ⟨hF, _⟩
  ·exact .inl (by rw [← e]; exact q)
  ·exact .inr (hF k q)
 ·have hbs' := hbw.size
  refine ⟨own_move hrow (fun k hk => hbw.block k (own_lt hrow k hk)), hrn.below hbw, so.below hbw, su.below hbw, h.cs, fun x q => (hmaps x q).1, fun x q => (hmaps x q).2, h.vis, h.few, fun k q => (hFDl k q).2.1, fun k q => ⟨fun t => (hFDl k t).2.2.1 q, fun t => h.hO k q (.inr (.inl t)), fun t => h.hO k q (.inr (.inr (.inr t)))⟩, fun k q => ⟨fun t => (hFDl k t).2.2.2.1 q, (h.hp k q).2, ?_⟩, fun q e => ?_, ⟨fun t => (hFDl s t).2.2.2.2.1 rfl, h.hs.2.1, h.hs.2.2⟩, fun k q => ?_⟩
  ·obtain ⟨xs, ho⟩ := h.path
   have := own_lt ho k q
   have := hcd.size
   omega
  ·have hql : q < ws.heap.size := by
    rcases e with e | e | e
    ·rw [e]; have := hrn.lt; omega
    ·have h1 := hv1
     cases hoo : oO with
     | none => rw [hoo] at h1; have : v1 = .pointer none := h1; rw [this] at e; cases e
     | some x => rw [hoo] at h1; obtain ⟨r, e', hr, _⟩ := h1; rw [e'] at e; cases e; have := hr.lt; omega
    ·have h1 := hv2
     cases hoo : oU with
     | none => rw [hoo] at h1; have : v2 = .pointer none := h1; rw [this] at e; cases e
     | some x => rw [hoo] at h1; obtain ⟨r, e', hr, _⟩ := h1; rw [e'] at e; cases e; have := hr.lt; omega
   rcases e with e | e | e
   ·subst e
    refine ⟨fun t => (hFDl q t).2.2.2.2.2.1 rfl, ?_⟩
    rcases hside with ⟨_, _, e0⟩ | ⟨_, hrl⟩
    ·have := h.hr q (.inl e0)
     exact ⟨fun t => this (.inr (.inl t)), fun t => this (.inr (.inr (.inr t))), hql⟩
    ·refine ⟨fun t => ?_, fun t => ?_, hql⟩
     ·have := hlt q (.inr (.inr t)); omega
     ·obtain ⟨xs, ho⟩ := h.path
      have := own_lt ho q t; omega
   ·have := h.hr q (.inr (.inl e))
    exact ⟨fun t => (hFDl q t).2.2.2.2.2.2.1 e, fun t => this (.inr (.inl t)), fun t => this (.inr (.inr (.inr t))), hql⟩
   ·have := h.hr q (.inr (.inr e))
    exact ⟨fun t => (hFDl q t).2.2.2.2.2.2.2 e, fun t => this (.inr (.inl t)), fun t => this (.inr (.inr (.inr t))), hql⟩
  ·have := hcd.size
   rcases q with q | q | q
   ·have := (hFDl k q).1; omega
   ·have := hlt k (.inr (.inl q)); omega
   ·have := hlt k (.inr (.inr q)); omega
 ·refine ⟨hst.tree.below hbw, ⟨hst.mp, fun k q => q.elim, fun k _ => hX0 k⟩, hst.liv, by omega, fun k q => .inl q, Chg.refl _ _, h.path.move (fun k hk => ?_)⟩
  obtain ⟨xs, ho⟩ := h.path
  have hkl := own_lt ho k hk
  have := hcd.size
  refine (hbw.block k (by omega)).trans (hw k hkl (fun e => h.hs.2.2 (by rw [← e]; exact hk)))
 ·intro done cnt w' X G hdone hI
  have hb0 := hbw.size
  have hb1 := hcd.size
  have hUs : ∀ k, Used FsU q2 done k → FU k := fun k ⟨j, a, _, _, q⟩ => su.inF j k q
  have hsome : (sn oD).isSome = true ∨ (sn oU).isSome = true := by
   rcases h.some_ with q | q
   ·exact .inl (by rw [Option.isSome_map]; exact q)
   ·exact .inr (by rw [Option.isSome_map]; exact q)
  have hmr : MR (d + 1) (sn oD) (sn oO) (sn oU) (some X) := MR.map h.cs (fun x q => (hmaps x q).1) hsome hI.part.mp (hI.part.all (fun k hk => by
   refine Classical.byContradiction fun hne => hk (hdone k ?_)
   by_cases e1 : olk (sn oD) k = none
   ·by_cases e2 : olk (sn oO) k = none
    ·by_cases e3 : olk (sn oU) k = none
     ·exact absurd ⟨e1, e2, e3⟩ hne
     ·exact .inr (.inr e3)
    ·exact .inr (.inl e2)
   ·exact .inl e1))
  have hcw : Chg (fun k => k = s ∨ FDl k ∨ FU k ∨ P.ownBlock = some k) w w' := ((hcd.trans (Chg.of_below hbw) (fun _ (q : False) => q.elim)).mono (fun k q => .inl q)).trans hI.chg (fun k q => by
   rcases q with q | q | q
   ·exact .inl (.inr (.inl q))
   ·exact .inl (.inr (.inr (.inl (hUs k q))))
   ·exact .inl (.inr (.inr (.inr q))))
  have hrr' : RN w' rr dn := hrn.move (fun l => by
   have hx : ¬ FDl rr := fun t => (hFDl rr t).2.2.2.2.2.1 rfl
   have hy : ¬ FU rr ∧ P.ownBlock ≠ some rr := by
    rcases hside with ⟨_, _, e0⟩ | ⟨_, hrl⟩
    ·have := h.hr rr (.inl e0)
     exact ⟨fun t => this (.inr (.inl t)), fun t => this (.inr (.inr (.inr t)))⟩
    ·refine ⟨fun t => ?_, fun t => ?_⟩
     ·have := hlt rr (.inr (.inr t)); omega
     ·obtain ⟨xs, ho⟩ := h.path
      have := own_lt ho rr t; omega
   refine (hI.chg.block rr (by omega) (fun q => ?_)).trans (hbw.block rr l)
   rcases q with q | q | q
   ·exact hx q
   ·exact hy.1 (hUs _ q)
   ·exact hy.2 q)
  refine ⟨hI.path, .inr ⟨rr, dn, G, X, rfl, hmr, hrr', ?_, ?_, ?_, ?_⟩⟩
  ·rw [toY_two hI.part.mp.kind]; exact hI.tree
  ·rw [toY_two hI.part.mp.kind]; exact live_map
  ·rcases hside with ⟨_, _, e0⟩ | ⟨_, hrl⟩
   ·exact .inl e0.symm
   ·exact .inr (.inr hrl)
  ·rcases hside with ⟨⟨D, eD⟩, eF, e0⟩ | ⟨hF, hrl⟩
   ·refine .inl ⟨⟨D, eD⟩, fun k q => ?_, hcw.mono (fun k q => ?_)⟩
    ·rcases hI.own k q with q | q | q
     ·exact .inl (by rw [← eF]; exact q)
     ·exact .inr (.inl (hUs k q))
     ·exact .inr (.inr (by omega))
    ·rcases q with q | q | q | q
     ·exact .inr (.inr (.inl q))
     ·exact .inl (by rw [← eF]; exact q)
     ·exact .inr (.inl q)
     ·exact .inr (.inr (.inr q))
   ·refine .inr ⟨fun k q => ?_, ?_⟩
    ·rcases hI.own k q with q | q | q
     ·exact .inr (hF k q)
     ·exact .inl (hUs k q)
     ·exact .inr (by omega)
    ·refine ⟨hcw.os, hcw.tape, hcw.output, hcw.size, fun k hk hn => hcw.block k hk (fun q => ?_)⟩
     rcases q with q | q | q | q
     ·exact hn (.inr (.inr (.inl q)))
     ·have := hF k q; omega
     ·exact hn (.inr (.inl q))
     ·exact hn (.inr (.inr (.inr q)))
end
end Go.Proofs.YtkpdkoafngjflaaGreat
