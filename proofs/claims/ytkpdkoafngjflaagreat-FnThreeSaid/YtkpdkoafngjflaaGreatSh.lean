import Derived.Test.YtkpdkoafngjflaaGreatWTab
import Derived.OpenShut
namespace Go.Proofs.YtkpdkoafngjflaaGreat
set_option linter.unusedVariables false
open Go.RowKit Go.Proofs.YtkpdkoafngjflaaGreatW.PrintWords Go.Proofs.YtkpdkoafngjflaaGreatW.PrintLast
section
variable {P : Program} {ops : Array Oper} {Q : Exit → Act → World → Prop} {md : Region.Mode} {S : World → Prop} {ds : List Nat} {T : Bool × List (List Nat × List Nat)} {B : List Nat} {oi : Oper} {v : Value} {fuel : Nat} {l l' : Array Bool} {a a' : Act} {w : World}
theorem ps_ (i n : Nat) (hT : Aside0 (rtab md ops = T)) (h : wpAnyLast P md ops Q S ds fuel l' a' w) (hi : ops[i]? = some oi := by exact rfl) (hN : oi.dst = some n := by exact rfl)
  (hl : l.setIfInBounds i true = l' := by simp only [List.setIfInBounds_toArray, List.set_cons_zero, List.set_cons_succ]; rfl) (hc : anyT T l.toList l'.toList i = true := by kernel_rfl)
  (hQ : ∀ c a w, Q (.panic c) (a.put oi.dst v) w → Q (.panic c) a w := by exact fun _ _ _ h => h) (hw : Region.wanted oi (yielded ops a.tmps) = true := by rfl)
  (hr : ∀ w, (execOp a.eval oi).run P w = .ok (.value v) w := by intro w'; go_simp; with_reducible rfl)
  (ha : a.put (some n) v = a' := by simp only [Act.put, List.setIfInBounds_toArray, List.set_cons_zero, List.set_cons_succ, i64_w, i32_w]; rfl) : wpAnyLast P md ops Q S ds (fuel + 1) l a w :=
 pure_ l' hi hN (any_of hT.out hc) hQ (.inl ⟨hw, hr⟩) ha h
theorem us_ (i n : Nat) (hT : Aside0 (rtab md ops = T)) (h : wpAnyLast P md ops Q S ds fuel l' a' w) (hi : ops[i]? = some oi := by exact rfl) (hN : oi.dst = some n := by exact rfl)
  (hl : l.setIfInBounds i true = l' := by simp only [List.setIfInBounds_toArray, List.set_cons_zero, List.set_cons_succ]; rfl) (hc : anyT T l.toList l'.toList i = true := by kernel_rfl)
  (hQ : ∀ c a w, Q (.panic c) (a.put oi.dst undef) w → Q (.panic c) a w := by exact fun _ _ _ h => h) (hw : Region.wanted oi (yielded ops a.tmps) = false := by rfl)
  (ha : a.put (some n) undef = a' := by simp only [Act.put, List.setIfInBounds_toArray, List.set_cons_zero, List.set_cons_succ, i64_w, i32_w]; rfl) : wpAnyLast P md ops Q S ds (fuel + 1) l a w :=
 pure_ l' hi hN (any_of hT.out hc) hQ (.inr ⟨hw, rfl⟩) ha h
theorem ts_ (i n : Nat) (hT : Aside0 (rtab md ops = T)) (hB : Aside0 (waitsOk T.2 B = true)) (hS : S w) (h : wpAnyLast P md ops Q S ds fuel l' a' w) (hi : ops[i]? = some oi := by exact rfl) (hN : oi.dst = some n := by exact rfl)
  (hl : l.setIfInBounds i true = l' := by simp only [List.setIfInBounds_toArray, List.set_cons_zero, List.set_cons_succ]; rfl) (hc : takeW T B ds l.toList l'.toList i = true := by kernel_rfl)
  (hQ : ∀ c a w, Q (.panic c) (a.put oi.dst v) w → Q (.panic c) a w := by exact fun _ _ _ h => h) (hw : Region.wanted oi (yielded ops a.tmps) = true := by rfl)
  (hr : ∀ w, S w → (execOp a.eval oi).run P w = .ok (.value v) w := by intro w' hs_; (repeat (have hx_ := hs_.1; replace hs_ := hs_.2)); go_simp; with_reducible rfl)
  (ha : a.put (some n) v = a' := by simp only [Act.put, List.setIfInBounds_toArray, List.set_cons_zero, List.set_cons_succ, i64_w, i32_w]; rfl) : wpAnyLast P md ops Q S ds (fuel + 1) l a w :=
 take_ l' hi hN (take_ofW hT.out hB.out hc) hQ (.inl ⟨hw, hr⟩) hS ha h
theorem ns_ (h : wpAnyLast P md ops Q S ds fuel l a' w) (ha : a = a' := by first | (simp only [Act.put, List.setIfInBounds_toArray, List.set_cons_zero, List.set_cons_succ, i64_w, i32_w]; rfl) | rfl) : wpAnyLast P md ops Q S ds fuel l a w := norm_ ha h
end
end Go.Proofs.YtkpdkoafngjflaaGreat
