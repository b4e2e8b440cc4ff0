/-
  Plain laws of the trees that are let in.
-/
import Derived.Test.YtigpgkfgkjabmaaRight
import Derived.Test.YtigpgkfgkjabmaaPFnFieldsx4
namespace Go.Proofs.Ytigpgkfgkjabmaa
open Go.RowKit Go.Proofs.YtigpgkfgkjabmaaW.PrintWords Go.Proofs.YtigpgkfgkjabmaaW.PrintLast Go.Proofs.Ytigpgkfgkjabmaa.PFnFields
set_option linter.unusedVariables false
set_option linter.unusedSimpArgs false

theorem nodes_pos {d : Nat} {x : S25} (h : Wf d x) : 1 ≤ nodes d x := by
  cases d with
  | zero => exact h.elim
  | succ d => simp only [nodes]; omega
theorem length_le_sum {α : Type} (f : α → Nat) : ∀ (l : List α), (∀ y ∈ l, 1 ≤ f y) → l.length ≤ (l.map f).sum
  | [], _ => by simp
  | a :: l, h => by
    simp only [List.length_cons, List.map_cons, List.sum_cons]
    have h1 := h a (by simp)
    have h2 := length_le_sum f l (fun y hy => h y (by simp [hy]))
    omega
theorem Wf.items {d : Nat} {x : S25} (h : Wf (d + 1) x) : ∀ y ∈ x.f4, Wf d y := by
  rcases h with ⟨_, _, h4, _⟩ | ⟨_, _, _, h, _⟩
  · rw [h4]; intro y hy; cases hy
  · exact h
theorem Wf.len {d : Nat} {x : S25} (h : Wf (d + 1) x) : x.f4.length + 1 ≤ nodes (d + 1) x := by
  have := length_le_sum (nodes d) x.f4 (fun y hy => nodes_pos (h.items y hy))
  simp only [nodes]
  omega
theorem nodes_item {d : Nat} {x y : S25} (h : y ∈ x.f4) : nodes d y < nodes (d + 1) x := by
  simp only [nodes]
  have := le_sum_of_mem (List.mem_map_of_mem (f := nodes d) h)
  omega
theorem Wf.klen {d : Nat} {x : S25} (h : Wf (d + 1) x) : x.f3.length ≤ x.f4.length := by
  rcases h with ⟨_, h3, h4, _⟩ | ⟨_, _, _, h, ⟨_, hl, _⟩ | ⟨_, h3⟩⟩
  · rw [h3, h4]; simp
  · omega
  · rw [h3]; simp
theorem Wf.sh : ∀ {d : Nat} {x : S25}, Wf d x → nodes d x ≤ 60 → Sh d x
  | 0, _, h, _ => h.elim
  | d + 1, x, h, hn => by
    have hl := h.len
    refine ⟨by omega, ?_⟩
    have hi : ∀ y ∈ x.f4, Sh d y := fun y hy => Wf.sh (h.items y hy) (by have := nodes_item (d := d) hy; omega)
    rcases h with ⟨h1, _⟩ | ⟨_, _, _, _, ⟨h2, hk, _⟩ | ⟨h3, _⟩⟩
    · exact .inl h1
    · exact .inr (.inl ⟨h2, hk, hi⟩)
    · exact .inr (.inr ⟨h3, hi⟩)
theorem Wf.up : ∀ {d : Nat} {x : S25}, Wf d x → Wf (d + 1) x ∧ nodes (d + 1) x = nodes d x
  | 0, _, h => h.elim
  | d + 1, x, h => by
    have hi := h.items
    have hn : nodes (d + 2) x = nodes (d + 1) x := by
      simp only [nodes]
      congr 2
      exact List.map_congr_left fun y hy => (Wf.up (hi y hy)).2
    refine ⟨?_, hn⟩
    rcases h with h1 | ⟨h1, h2, h3, h4, h5⟩
    · exact .inl h1
    · exact .inr ⟨h1, h2, h3, fun y hy => (Wf.up (h4 y hy)).1, h5⟩
theorem Tree.item {x y : S25} (h : Tree x) (hy : y ∈ x.f4) : Tree y := by
  have h1 := h.1.items (d := 5) y hy
  have h2 := nodes_item (d := 5) hy
  have h3 : nodes (5 + 1) x ≤ 60 := h.2
  obtain ⟨h4, h5⟩ := h1.up
  exact ⟨h4, by show nodes (5 + 1) y ≤ 60; omega⟩
theorem Wf.map {d : Nat} {x : S25} (h : Wf (d + 1) x) (h2 : x.f0 = 2) : x.f3.length = x.f4.length ∧ x.f3.Nodup ∧ ∀ k ∈ x.f3, Word k := by
  rcases h with ⟨h1, _⟩ | ⟨_, _, _, _, ⟨_, hk, hw, hn⟩ | ⟨h3, _⟩⟩
  · omega
  · exact ⟨hk, hn, hw⟩
  · omega
theorem toY_one {d : Nat} {x : S25} (h : x.f0 = 1) : toY (d + 1) x = .mk 8 x.f2 x.f1 [] := by simp only [toY]; rw [if_pos h]
theorem toY_two {d : Nat} {x : S25} (h : x.f0 = 2) : toY (d + 1) x = .mk 4 ⟨#[]⟩ ⟨#[]⟩ (kv x.f3 (x.f4.map (toY d))) := by
  simp only [toY]; rw [if_neg (by omega), if_pos h]
theorem toY_three {d : Nat} {x : S25} (h : x.f0 = 3) : toY (d + 1) x = .mk 2 ⟨#[]⟩ ⟨#[]⟩ (x.f4.map (toY d)) := by
  simp only [toY]; rw [if_neg (by omega), if_neg (by omega)]
theorem Wf.ysh : ∀ {d : Nat} {x : S25}, Wf d x → nodes d x ≤ 60 → YSh d (toY d x)
  | 0, _, h, _ => h.elim
  | d + 1, x, h, hn => by
    have hl := h.len
    have hi : ∀ z ∈ x.f4.map (toY d), YSh d z := by
      intro z hz
      obtain ⟨y, hy, rfl⟩ := List.mem_map.1 hz
      exact Wf.ysh (h.items y hy) (by have := nodes_item (d := d) hy; omega)
    rcases h with ⟨h1, _⟩ | ⟨_, _, _, _, ⟨h2, hk, _⟩ | ⟨h3, _⟩⟩
    · rw [toY_one h1]; exact ⟨by simp [Y.content], .inl rfl⟩
    · rw [toY_two h2]
      refine ⟨?_, .inr (.inl ⟨rfl, x.f3, x.f4.map (toY d), by simpa using hk, rfl, hi⟩)⟩
      simp only [Y.content]
      rw [kv_length _ _ (by simpa using hk)]
      omega
    · rw [toY_three h3]
      exact ⟨by simp only [Y.content, List.length_map]; omega, .inr (.inr ⟨rfl, hi⟩)⟩
theorem Wf.live {d : Nat} {x : S25} (h : Wf d x) : Live (toY d x).kind (toY d x).tag := by
  cases d with
  | zero => exact h.elim
  | succ d =>
    rcases h with ⟨h1, _, _, hs⟩ | ⟨_, _, _, _, ⟨h2, hk, _⟩ | ⟨h3, _⟩⟩
    · rw [toY_one h1]
      refine ⟨rfl, ?_⟩
      simp only [Y.tag]
      rcases hs with ⟨hg, _⟩ | ⟨hg, _⟩ <;> rw [hg] <;> rfl
    · rw [toY_two h2]; exact ⟨rfl, by simp only [Y.tag]; rw [ByteArray.toList_eq]; rfl⟩
    · rw [toY_three h3]; exact ⟨rfl, by simp only [Y.tag]; rw [ByteArray.toList_eq]; rfl⟩
theorem Wf.ofY : ∀ {d : Nat} {x : S25}, Wf d x → ofY d (toY d x) = x
  | 0, _, h => h.elim
  | d + 1, x, h => by
    have hi : (x.f4.map (toY d)).map (Go.Proofs.Ytigpgkfgkjabmaa.ofY d) = x.f4 := by
      rw [List.map_map]
      conv => rhs; rw [← List.map_id x.f4]
      exact List.map_congr_left fun y hy => Wf.ofY (h.items y hy)
    rcases h with ⟨h1, h3, h4, hs⟩ | ⟨ht, hg, _, _, ⟨h2, hk, _⟩ | ⟨h3, h4⟩⟩
    · rw [toY_one h1]
      obtain ⟨a, b, c, e, f⟩ := x
      simp_all [Go.Proofs.Ytigpgkfgkjabmaa.ofY, Y.kind, Y.value, Y.tag]
    · rw [toY_two h2]
      rw [show Go.Proofs.Ytigpgkfgkjabmaa.ofY (d + 1) (.mk 4 ⟨#[]⟩ ⟨#[]⟩ (kv x.f3 (x.f4.map (toY d)))) = ⟨2, ⟨#[]⟩, ⟨#[]⟩, keysOf (kv x.f3 (x.f4.map (toY d))), (valsOf (kv x.f3 (x.f4.map (toY d)))).map (Go.Proofs.Ytigpgkfgkjabmaa.ofY d)⟩ from by simp [Go.Proofs.Ytigpgkfgkjabmaa.ofY, Y.kind, Y.content], keysOf_kv _ _ (by simpa using hk), valsOf_kv _ _ (by simpa using hk), hi]
      obtain ⟨a, b, c, e, f⟩ := x
      simp_all
    · rw [toY_three h3]
      rw [show Go.Proofs.Ytigpgkfgkjabmaa.ofY (d + 1) (.mk 2 ⟨#[]⟩ ⟨#[]⟩ (x.f4.map (toY d))) = ⟨3, ⟨#[]⟩, ⟨#[]⟩, [], (x.f4.map (toY d)).map (Go.Proofs.Ytigpgkfgkjabmaa.ofY d)⟩ from by simp [Go.Proofs.Ytigpgkfgkjabmaa.ofY, Y.kind, Y.content], hi]
      obtain ⟨a, b, c, e, f⟩ := x
      simp_all

theorem plc_nodup {l : List ByteArray} (h : l.Nodup) (i : Nat) (hi : i < l.length) : plc l l[i] = i := by
  obtain ⟨j, e, hj, he⟩ := plc_pos l l[i] (plc_mem (List.getElem_mem hi))
  rw [e]
  rcases Nat.lt_trichotomy i j with h1 | h1 | h1
  · exact absurd he.symm (List.pairwise_iff_getElem.1 h i j hi hj h1)
  · rw [h1]
  · exact absurd he (List.pairwise_iff_getElem.1 h j i hj hi h1)

theorem rd_node {l : List S25} {i : Nat} (h : i < l.length) : rd_T25 l (i : Int) = l[i] := by
  unfold rd_T25
  first
    | (rw [Int.toNat_natCast, List.getD_eq_getElem?_getD, List.getElem?_eq_getElem h]; rfl)
    | (unfold rdOf; rw [Int.toNat_natCast, List.getD_eq_getElem?_getD, List.getElem?_eq_getElem h]; rfl)
theorem rd_str {l : List ByteArray} {i : Nat} (h : i < l.length) : rdOf ByteArray.empty l (i : Int) = l[i] := by
  unfold rdOf
  rw [Int.toNat_natCast, List.getD_eq_getElem?_getD, List.getElem?_eq_getElem h]; rfl

/-- A shape of which spec.Same says that it is itself. -/
def Sm : Nat → S25 → Prop
  | 0, _ => False
  | d + 1, x => x.f4.length ≤ 62 ∧ x.f3.length ≤ x.f4.length ∧ (x.f0 = 2 → x.f3.length = x.f4.length ∧ x.f3.Nodup) ∧ ∀ y ∈ x.f4, Sm d y
theorem Wf.sm : ∀ {d : Nat} {x : S25}, Wf d x → nodes d x ≤ 60 → Sm d x
  | 0, _, h, _ => h.elim
  | d + 1, x, h, hn => by
    have hl := h.len
    refine ⟨by omega, h.klen, fun h2 => ?_, fun y hy => Wf.sm (h.items y hy) (by have := nodes_item (d := d) hy; omega)⟩
    rcases h with ⟨h1, _⟩ | ⟨_, _, _, _, ⟨_, hk, _, hnd⟩ | ⟨h3, _⟩⟩
    · omega
    · exact ⟨hk, hnd⟩
    · omega
end Go.Proofs.Ytigpgkfgkjabmaa
