import Derived.Test.YtkpdkoafngjflaaGreatCovers
namespace Go.Proofs.YtkpdkoafngjflaaGreat
open Go.RowKit Go.Proofs.YtkpdkoafngjflaaGreatW.PrintWords Go.Proofs.YtkpdkoafngjflaaGreatW.PrintLast Go.Proofs.YtkpdkoafngjflaaGreat.PFnFields
set_option linter.unusedVariables false
set_option linter.unusedSimpArgs false
theorem one_nodeF {w w0 : World} {g : Nat} {y : S25} {v0 v1 v2 v3 v4 : Value} {t : TypeId} (h : w.heap[g]? = some (.cells #[v0, v1, v2, v3, v4] t (0, 0))) (hK : k25.K w0 y [v0, v1, v2, v3, v4]) :
  (Kd.fixed k25 w0).C w (some ⟨g, 0, none⟩) 1 [y] := by
 refine ⟨rfl, by simp, fun _ => ⟨_, rfl, fun j p hp => ?_⟩⟩
 match j, hp with
 |0, hp =>
  obtain rfl : y = p := by simpa using hp
  refine ⟨[v0, v1, v2, v3, v4], rfl, hK, fun i u hu => ?_⟩
  have ha : (⟨g, 0, none⟩ : Addr).add (0 * k25.sz + i) = ⟨g, i, none⟩ := by
   cases i <;> simp [Addr.add]
  show w.cell? ((⟨g, 0, none⟩ : Addr).add (0 * k25.sz + i)) = some u
  rw [ha, cell_of_block h]
  simpa using hu
 | j + 1, hp => simp at hp
theorem C_of_fixed {w0 w : World} (hb : Below w0.heap.size w0 w) {A : Option Addr} {n : Nat} {xs : List S25} (h : (Kd.fixed k25 w0).C w A n xs) : k25.C w A n xs :=
 Kd.C_read (d := k25) (dm := Kd.fixed k25 w0) rfl (fun x cs hk => k25.K_below hb hk) h
theorem R_flatmove {α : Type} {d : Kd α} (hd : ∀ {w1 w2 : World} {base : Nat} {ok1 ok2 : Nat → Prop} {x : α} {cs : List Value}, d.M w1 base ok1 x cs → d.M w2 base ok2 x cs) {e base : Nat} {w w1 : World} {ok ok' : Nat → Prop} {v : Value} {xs : List α}
  (h : d.R e w base ok v xs) (hm : ∀ k, v.ownBlock = some k → w1.heap[k]? = w.heap[k]?) (hok : ∀ k, v.ownBlock = some k → ok' k) : d.R e w1 base ok' v xs := by
 obtain ⟨h0, inner, hown, hr⟩ := h
 exact ⟨hok, inner, own_move hown hm, hr.imp_ (fun _ _ hp => hd hp)⟩
theorem R_ne_block {α : Type} {d : Kd α} {e base : Nat} {w : World} {ok : Nat → Prop} {v : Value} {xs : List α} (h : d.R e w base ok v xs) {k t : Nat} {cs : Array Value} (hk : w.heap[k]? = some (.cells cs t (0, 0))) (ht : t ≠ e) : some k ≠ v.ownBlock := fun q => by
 obtain ⟨inner, ho⟩ := Kd.R_own h
 obtain ⟨cells, hh⟩ := own_typed ho k q.symm
 rw [hk] at hh
 simp only [Option.some.injEq, Obj.cells.injEq] at hh
 exact ht hh.2.1
def heldK (S : Nat → Prop) (w0 : World) : Kd S25 where
 sz := k25.sz
 E := []
 K := fun _ x cs => ∀ W', Chg S w0 W' → k25.K W' x cs
 M := fun _ _ _ x cs => ∀ W', Chg S w0 W' → k25.K W' x cs
 K_len := fun h => k25.K_len (h w0 (Chg.refl _ _))
 K_one := fun h => k25.K_one (h w0 (Chg.refl _ _))
 K_below := fun _ h => h
 K_of_M := fun h => h
 M_mono := fun _ h => h
 M_bound := fun h => h
 M_move := fun _ h => h
 M_lower := fun _ h => h
def nodeR (S : Nat → Prop) (w : World) (x : S25) (A3 : Option Addr) (c3 : Nat) (A4 : Option Addr) (c4 : Nat) : Prop := ∀ W', Chg S w W' → nodeK W' x A3 c3 A4 c4
def NodePostS (S : Nat → Prop) (w : World) (x : S25) (e : Ending) (w' : World) : Prop := ∃ (A3 : Option Addr) (c3 : Nat) (A4 : Option Addr) (c4 : Nat), e = .returned (nodeV x A3 c3 A4 c4) ∧ nodeR S w' x A3 c3 A4 c4 ∧ Below w.heap.size w w'
theorem nodeR.now {S : Nat → Prop} {w : World} {x : S25} {A3 : Option Addr} {c3 : Nat} {A4 : Option Addr} {c4 : Nat} (h : nodeR S w x A3 c3 A4 c4) : nodeK w x A3 c3 A4 c4 := h w (Chg.refl _ _)
theorem nodeR.chg {S : Nat → Prop} {w w' : World} {x : S25} {A3 : Option Addr} {c3 : Nat} {A4 : Option Addr} {c4 : Nat} (h : nodeR S w x A3 c3 A4 c4) (hc : Chg S w w') : nodeR S w' x A3 c3 A4 c4 := fun W' hW => h W' (hc.trans hW (fun k q => .inl q))
theorem nodeR.below {S : Nat → Prop} {w w' : World} {x : S25} {A3 : Option Addr} {c3 : Nat} {A4 : Option Addr} {c4 : Nat} (h : nodeR S w x A3 c3 A4 c4) (hb : Below w.heap.size w w') : nodeR S w' x A3 c3 A4 c4 := h.chg (Chg.of_below hb)
theorem nodeR_no {w : World} {x : S25} {A3 : Option Addr} {c3 : Nat} {A4 : Option Addr} {c4 : Nat} (h : nodeK w x A3 c3 A4 c4) : nodeR (fun _ => False) w x A3 c3 A4 c4 := fun W' hW => k25.K_below hW.nothing h
theorem nodeR.late {S S' : Nat → Prop} {w w' : World} {x : S25} {A3 : Option Addr} {c3 : Nat} {A4 : Option Addr} {c4 : Nat} (h : nodeR S w x A3 c3 A4 c4) (hb : Chg S w w') (hs : ∀ k, S' k → S k ∨ w.heap.size ≤ k) : nodeR S' w' x A3 c3 A4 c4 := fun W' hW => h W' (hb.trans hW hs)
theorem nodeR.rows {S : Nat → Prop} {w : World} {x : S25} {A3 : Option Addr} {c3 : Nat} {A4 : Option Addr} {c4 : Nat} (h : nodeR S w x A3 c3 A4 c4) : ∀ W', Chg S w W' → k25.C W' A4 x.f4.length x.f4 := fun W' hW => by
 obtain ⟨B3, d3, B4, d4, he, l3, g3, l4, g4⟩ := k25_open (h W' hW)
 simp only [List.cons.injEq, Value.slice.injEq, true_and, and_true] at he
 obtain ⟨⟨rfl, rfl⟩, rfl, rfl⟩ := he
 exact g4
theorem add_block (a : Addr) (n : Nat) : (a.add n).block = a.block := by
 simp only [Addr.add]
 split <;> rfl
theorem add_off (a : Addr) (n i : Nat) (hi : 0 < i) : a.add (n + i) = ⟨(a.add n).block, (a.add n).off + i, none⟩ := by
 rw [add_block]
 simp only [Addr.add]
 rw [if_neg (by omega)]
 by_cases h : n = 0
 ·rw [if_pos h, h]; simp
 ·rw [if_neg h, Nat.add_assoc]
theorem held_ne {S : Nat → Prop} {w : World} {ad : Addr} {n : Nat} {xs : List S25} (h : ∀ W', Chg S w W' → k25.C W' (some ad) n xs) (hn : 0 < n) : ¬ S ad.block := fun q => by
 have hW : Chg S w { w with heap := w.heap.setIfInBounds ad.block (.cells #[] 0) } := ⟨rfl, rfl, rfl, by simp, fun k hk hne => by
  have : ad.block ≠ k := fun e => hne (e ▸ q)
  simp [this]⟩
 refine Kd.C_not_empty (h _ hW) hn (by show 0 < 5; decide) ?_
 by_cases hlt : ad.block < w.heap.size
 ·simp [World.cell?, hlt]
 ·simp [World.cell?, hlt]
theorem C_held {S : Nat → Prop} {w : World} {A : Option Addr} {n : Nat} {xs : List S25} (h : ∀ W', Chg S w W' → k25.C W' A n xs) : (heldK S w).C w A n xs := by
 obtain ⟨h1, h2, h3⟩ := h w (Chg.refl _ _)
 refine ⟨h1, h2, fun hn => ?_⟩
 obtain ⟨ad, rfl, h4⟩ := h3 hn
 have hns := held_ne h hn
 refine ⟨ad, rfl, fun j p hp => ?_⟩
 obtain ⟨cs, hl, hk, hc⟩ := h4 j p hp
 refine ⟨cs, hl, fun W' hW => ?_, hc⟩
 obtain ⟨_, _, h3'⟩ := h W' hW
 obtain ⟨ad', e, h4'⟩ := h3' hn
 obtain rfl := Option.some.inj e
 obtain ⟨cs', hl', hk', hc'⟩ := h4' j p hp
 have : cs' = cs := by
  refine List.ext_getElem (by rw [hl, hl']) fun i i1 i2 => ?_
  have e1 := hc i cs[i] (List.getElem?_eq_getElem i2)
  have e2 := hc' i cs'[i] (List.getElem?_eq_getElem i1)
  have e3 := hW.cell_of e1 (by rw [add_block]; exact hns)
  exact Option.some.inj (e2.symm.trans e3)
 rw [← this]
 exact hk'
theorem C_to_held {S : Nat → Prop} {w w' : World} (hb : Below w.heap.size w w') {A : Option Addr} {n : Nat} {xs : List S25} (h : ∀ W', Chg S w W' → k25.C W' A n xs) : (heldK S w).C w' A n xs := Kd.C_below (C_held h) hb
theorem C_of_held {S : Nat → Prop} {w0 w : World} (hc : Chg S w0 w) {A : Option Addr} {n : Nat} {xs : List S25} (h : (heldK S w0).C w A n xs) : k25.C w A n xs :=
 Kd.C_read (d := k25) (dm := heldK S w0) rfl (fun x cs hk => hk w hc) h
theorem one_nodeH {S : Nat → Prop} {w w0 : World} {g : Nat} {y : S25} {v0 v1 v2 v3 v4 : Value} {t : TypeId} (h : w.heap[g]? = some (.cells #[v0, v1, v2, v3, v4] t (0, 0))) (hK : ∀ W', Chg S w0 W' → k25.K W' y [v0, v1, v2, v3, v4]) :
  (heldK S w0).C w (some ⟨g, 0, none⟩) 1 [y] := by
 refine ⟨rfl, by simp, fun _ => ⟨_, rfl, fun j p hp => ?_⟩⟩
 match j, hp with
 |0, hp =>
  obtain rfl : y = p := by simpa using hp
  refine ⟨[v0, v1, v2, v3, v4], rfl, hK, fun i u hu => ?_⟩
  have ha : (⟨g, 0, none⟩ : Addr).add (0 * k25.sz + i) = ⟨g, i, none⟩ := by
   cases i <;> simp [Addr.add]
  show w.cell? ((⟨g, 0, none⟩ : Addr).add (0 * k25.sz + i)) = some u
  rw [ha, cell_of_block h]
  simpa using hu
 | j + 1, hp => simp at hp
theorem held_item {S : Nat → Prop} {w : World} {ad : Addr} {n : Nat} {xs : List S25} (h : ∀ W', Chg S w W' → k25.C W' (some ad) n xs) (j : Nat) (hj : j < n) {y : S25} (hy : xs.getD j z25 = y) {v0 v1 v2 v3 v4 : Value}
  (f0 : w.cell? (ad.add (j * 5)) = some v0) (f1 : w.cell? ⟨(ad.add (j * 5)).block, (ad.add (j * 5)).off + 1, none⟩ = some v1) (f2 : w.cell? ⟨(ad.add (j * 5)).block, (ad.add (j * 5)).off + 2, none⟩ = some v2) (f3 : w.cell? ⟨(ad.add (j * 5)).block, (ad.add (j * 5)).off + 3, none⟩ = some v3) (f4 : w.cell? ⟨(ad.add (j * 5)).block, (ad.add (j * 5)).off + 4, none⟩ = some v4) :
  ∀ W', Chg S w W' → k25.K W' y [v0, v1, v2, v3, v4] := by
 obtain ⟨h1, _, h3⟩ := C_held h
 obtain ⟨ad', e, h4⟩ := h3 (by omega)
 obtain rfl := Option.some.inj e
 have hj' : j < xs.length := by omega
 obtain ⟨cs, hl, hk, hc⟩ := h4 j y (by rw [List.getElem?_eq_getElem hj', ← hy, List.getD_eq_getElem?_getD, List.getElem?_eq_getElem hj', Option.getD_some])
 match cs, hl with
 |[u0, u1, u2, u3, u4], _ =>
  have c0 : w.cell? (ad.add (j * 5 + 0)) = some u0 := hc 0 u0 rfl
  have c1 : w.cell? (ad.add (j * 5 + 1)) = some u1 := hc 1 u1 rfl
  have c2 : w.cell? (ad.add (j * 5 + 2)) = some u2 := hc 2 u2 rfl
  have c3 : w.cell? (ad.add (j * 5 + 3)) = some u3 := hc 3 u3 rfl
  have c4 : w.cell? (ad.add (j * 5 + 4)) = some u4 := hc 4 u4 rfl
  rw [Nat.add_zero] at c0
  rw [add_off _ _ _ (by decide)] at c1 c2 c3 c4
  obtain rfl := Option.some.inj (c0.symm.trans f0)
  obtain rfl := Option.some.inj (c1.symm.trans f1)
  obtain rfl := Option.some.inj (c2.symm.trans f2)
  obtain rfl := Option.some.inj (c3.symm.trans f3)
  obtain rfl := Option.some.inj (c4.symm.trans f4)
  exact hk
end Go.Proofs.YtkpdkoafngjflaaGreat
