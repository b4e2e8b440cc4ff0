/-
  Rows of trees that came in; R_empty.
-/
import Derived.Test.YtigpgkfgkjabmaaPipe
namespace Go.Proofs.Ytigpgkfgkjabmaa
open Go.RowKit Go.Proofs.YtigpgkfgkjabmaaW.PrintWords Go.Proofs.YtigpgkfgkjabmaaW.PrintLast Go.Proofs.Ytigpgkfgkjabmaa.PFnFields
set_option linter.unusedVariables false
set_option linter.unusedSimpArgs false

/-- A box of one tree that is read in an older world. -/
theorem one_nodeF {w w0 : World} {g : Nat} {y : S25} {v0 v1 v2 v3 v4 : Value} {t : TypeId} (h : w.heap[g]? = some (.cells #[v0, v1, v2, v3, v4] t (0, 0))) (hK : k25.K w0 y [v0, v1, v2, v3, v4]) :
    (Kd.fixed k25 w0).C w (some ⟨g, 0, none⟩) 1 [y] := by
  refine ⟨rfl, by simp, fun _ => ⟨_, rfl, fun j p hp => ?_⟩⟩
  match j, hp with
  | 0, hp =>
    obtain rfl : y = p := by simpa using hp
    refine ⟨[v0, v1, v2, v3, v4], rfl, hK, fun i u hu => ?_⟩
    have ha : (⟨g, 0, none⟩ : Addr).add (0 * k25.sz + i) = ⟨g, i, none⟩ := by
      cases i <;> simp [Addr.add]
    show w.cell? ((⟨g, 0, none⟩ : Addr).add (0 * k25.sz + i)) = some u
    rw [ha, cell_of_block h]
    simpa using hu
  | j + 1, hp => simp at hp
/-- What is read in an older world is read now. -/
theorem C_of_fixed {w0 w : World} (hb : Below w0.heap.size w0 w) {A : Option Addr} {n : Nat} {xs : List S25} (h : (Kd.fixed k25 w0).C w A n xs) : k25.C w A n xs :=
  Kd.C_read (d := k25) (dm := Kd.fixed k25 w0) rfl (fun x cs hk => k25.K_below hb hk) h

def NodePost (w : World) (x : S25) (e : Ending) (w' : World) : Prop := ∃ (A3 : Option Addr) (c3 : Nat) (A4 : Option Addr) (c4 : Nat), e = .returned (nodeV x A3 c3 A4 c4) ∧ nodeK w' x A3 c3 A4 c4 ∧ Below w.heap.size w w'
/-- A flat row (its elements hold no blocks) over a change elsewhere. -/
theorem R_flatmove {α : Type} {d : Kd α} (hd : ∀ {w1 w2 : World} {base : Nat} {ok1 ok2 : Nat → Prop} {x : α} {cs : List Value}, d.M w1 base ok1 x cs → d.M w2 base ok2 x cs) {e base : Nat} {w w1 : World} {ok ok' : Nat → Prop} {v : Value} {xs : List α}
    (h : d.R e w base ok v xs) (hm : ∀ k, v.ownBlock = some k → w1.heap[k]? = w.heap[k]?) (hok : ∀ k, v.ownBlock = some k → ok' k) : d.R e w1 base ok' v xs := by
  obtain ⟨h0, inner, hown, hr⟩ := h
  exact ⟨hok, inner, own_move hown hm, hr.imp_ (fun _ _ hp => hd hp)⟩
theorem R_ne_block {α : Type} {d : Kd α} {e base : Nat} {w : World} {ok : Nat → Prop} {v : Value} {xs : List α} (h : d.R e w base ok v xs) {k t : Nat} {cs : Array Value} (hk : w.heap[k]? = some (.cells cs t (0, 0))) (ht : t ≠ e) : some k ≠ v.ownBlock := fun q => by
  obtain ⟨inner, ho⟩ := Kd.R_own h
  obtain ⟨cells, hh⟩ := own_typed ho k q.symm
  rw [hk] at hh
  simp only [Option.some.injEq, Obj.cells.injEq] at hh
  exact ht hh.2.1
/-- A row that came in, read then. -/
theorem C_to_fixed {w w' : World} (hb : Below w.heap.size w w') {A : Option Addr} {n : Nat} {xs : List S25} (h : k25.C w A n xs) : (Kd.fixed k25 w).C w' A n xs := by
  refine ReadsRow.imp_ (R := k25.K w) h hb (fun _ _ hp => hp)
end Go.Proofs.Ytigpgkfgkjabmaa
