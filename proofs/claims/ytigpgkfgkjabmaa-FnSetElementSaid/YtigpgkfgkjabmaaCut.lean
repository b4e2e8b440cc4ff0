/-
  Plain laws: a pair is taken out of a map; what is left is told.
-/
import Derived.Test.YtigpgkfgkjabmaaLaw
namespace Go.Proofs.Ytigpgkfgkjabmaa
open Go.RowKit Go.Proofs.YtigpgkfgkjabmaaW.PrintWords Go.Proofs.YtigpgkfgkjabmaaW.PrintLast Go.Proofs.Ytigpgkfgkjabmaa.PFnFields
set_option linter.unusedVariables false
set_option linter.unusedSimpArgs false

theorem YL.drop {w : World} : ∀ {F : Nat → Prop} {bs : List Nat} {ys : List Y} (j : Nat), YL w F bs ys → YL w F (bs.drop j) (ys.drop j)
  | _, [], [], j, _ => by simp only [List.drop_nil, YL]
  | F, b :: bs, y :: ys, 0, h => h
  | F, b :: bs, y :: ys, j + 1, h => by
    simp only [YL] at h
    obtain ⟨F1, _, _, h3⟩ := h
    exact (YL.drop j h3).mono (fun k q => q.1)
  | _, [], _ :: _, _, h => by simp only [YL] at h
  | _, _ :: _, [], _, h => by simp only [YL] at h
/-- What is left when a stretch of parts is taken out. -/
theorem YL.cut {w : World} : ∀ {F : Nat → Prop} {bs : List Nat} {ys : List Y} (i j : Nat), i ≤ j → YL w F bs ys → YL w F (bs.take i ++ bs.drop j) (ys.take i ++ ys.drop j)
  | F, bs, ys, 0, j, _, h => by simpa using YL.drop j h
  | _, [], [], i + 1, j, _, _ => by simp only [List.drop_nil, List.take_nil, List.append_nil, YL]
  | F, b :: bs, y :: ys, i + 1, j, hij, h => by
    obtain ⟨j, rfl⟩ : ∃ m, j = m + 1 := ⟨j - 1, by omega⟩
    simp only [YL] at h
    obtain ⟨F1, h1, h2, h3⟩ := h
    simp only [List.take_succ_cons, List.drop_succ_cons, List.cons_append, YL]
    exact ⟨F1, h1, h2, YL.cut i j (by omega) h3⟩
  | _, [], _ :: _, _ + 1, _, _, h => by simp only [YL] at h
  | _, _ :: _, [], _ + 1, _, _, h => by simp only [YL] at h
theorem kv_cut : ∀ (ks : List ByteArray) (ys : List Y) (j : Nat), ks.length = ys.length → (kv ks ys).take (2 * j) ++ (kv ks ys).drop (2 * j + 2) = kv (ks.take j ++ ks.drop (j + 1)) (ys.take j ++ ys.drop (j + 1))
  | [], [], j, _ => by simp [kv]
  | k :: ks, y :: ys, 0, _ => by simp [kv]
  | k :: ks, y :: ys, j + 1, h => by
    rw [show 2 * (j + 1) = 2 * j + 1 + 1 by omega, show 2 * j + 1 + 1 + 2 = (2 * j + 2) + 1 + 1 by omega]
    simp only [kv, List.take_succ_cons, List.drop_succ_cons, List.cons_append, kv_cut ks ys j (by simpa using h)]
  | [], _ :: _, _, h => by simp at h
  | _ :: _, [], _, h => by simp at h

/-- spec.Without: the keys that stay, and their items. -/
def woK (nm : ByteArray) : List ByteArray → List ByteArray
  | [] => []
  | k :: ks => if k = nm then woK nm ks else k :: woK nm ks
def woI {α : Type} (nm : ByteArray) : List ByteArray → List α → List α
  | k :: ks, y :: ys => if k = nm then woI nm ks ys else y :: woI nm ks ys
  | _, _ => []
theorem woK_snoc (nm : ByteArray) : ∀ (ks : List ByteArray) (k : ByteArray), woK nm (ks ++ [k]) = if k = nm then woK nm ks else woK nm ks ++ [k]
  | [], k => by simp [woK]
  | a :: ks, k => by
    simp only [List.cons_append, woK, woK_snoc nm ks k]
    by_cases h : a = nm
    · simp [h]
    · rw [if_neg h, if_neg h]
      by_cases hk : k = nm
      · simp [hk]
      · simp [hk]
theorem woI_snoc {α : Type} (nm : ByteArray) : ∀ (ks : List ByteArray) (ys : List α) (k : ByteArray) (y : α), ks.length = ys.length → woI nm (ks ++ [k]) (ys ++ [y]) = if k = nm then woI nm ks ys else woI nm ks ys ++ [y]
  | [], [], k, y, _ => by simp [woI]
  | a :: ks, b :: ys, k, y, h => by
    simp only [List.cons_append, woI, woI_snoc nm ks ys k y (by simpa using h)]
    by_cases ha : a = nm
    · simp [ha]
    · rw [if_neg ha, if_neg ha]
      by_cases hk : k = nm
      · simp [hk]
      · simp [hk]
  | [], _ :: _, _, _, h => by simp at h
  | _ :: _, [], _, _, h => by simp at h
theorem woK_len (nm : ByteArray) : ∀ (ks : List ByteArray), (woK nm ks).length ≤ ks.length
  | [] => by simp [woK]
  | k :: ks => by
    have := woK_len nm ks
    simp only [woK]
    split
    · simp only [List.length_cons]; omega
    · simp only [List.length_cons]; omega
theorem woI_len {α : Type} (nm : ByteArray) : ∀ (ks : List ByteArray) (ys : List α), ks.length = ys.length → (woI nm ks ys).length = (woK nm ks).length
  | [], [], _ => by simp [woK, woI]
  | k :: ks, y :: ys, h => by
    have := woI_len nm ks ys (by simpa using h)
    simp only [woK, woI]
    split
    · exact this
    · simp only [List.length_cons]; omega
  | [], _ :: _, h => by simp at h
  | _ :: _, [], h => by simp at h
theorem woK_none (nm : ByteArray) : ∀ (ks : List ByteArray), nm ∉ ks → woK nm ks = ks
  | [], _ => rfl
  | k :: ks, h => by
    simp only [List.mem_cons, not_or] at h
    simp only [woK]
    rw [if_neg (fun e => h.1 e.symm), woK_none nm ks h.2]
theorem woI_none {α : Type} (nm : ByteArray) : ∀ (ks : List ByteArray) (ys : List α), ks.length = ys.length → nm ∉ ks → woI nm ks ys = ys
  | [], [], _, _ => rfl
  | k :: ks, y :: ys, hl, h => by
    simp only [List.mem_cons, not_or] at h
    simp only [woI]
    rw [if_neg (fun e => h.1 e.symm), woI_none nm ks ys (by simpa using hl) h.2]
  | [], _ :: _, h, _ => by simp at h
  | _ :: _, [], h, _ => by simp at h
theorem woK_at (nm : ByteArray) : ∀ (ks : List ByteArray) (j : Nat), ks.Nodup → ks[j]? = some nm → woK nm ks = ks.take j ++ ks.drop (j + 1)
  | [], j, _, h => by simp at h
  | k :: ks, 0, hd, h => by
    obtain rfl : k = nm := by simpa using h
    simp only [woK, if_true]
    simpa using woK_none k ks (List.nodup_cons.1 hd).1
  | k :: ks, j + 1, hd, h => by
    have h' : ks[j]? = some nm := by simpa using h
    have hne : ¬ k = nm := fun e => (List.nodup_cons.1 hd).1 (by rw [e]; exact List.mem_of_getElem? h')
    simp only [woK, List.take_succ_cons, List.drop_succ_cons, List.cons_append]
    rw [if_neg hne, woK_at nm ks j (List.nodup_cons.1 hd).2 h']
theorem woI_at {α : Type} (nm : ByteArray) : ∀ (ks : List ByteArray) (ys : List α) (j : Nat), ks.length = ys.length → ks.Nodup → ks[j]? = some nm → woI nm ks ys = ys.take j ++ ys.drop (j + 1)
  | [], [], j, _, _, h => by simp at h
  | k :: ks, y :: ys, 0, hl, hd, h => by
    obtain rfl : k = nm := by simpa using h
    simp only [woI, if_true]
    simpa using woI_none k ks ys (by simpa using hl) (List.nodup_cons.1 hd).1
  | k :: ks, y :: ys, j + 1, hl, hd, h => by
    have h' : ks[j]? = some nm := by simpa using h
    have hne : ¬ k = nm := fun e => (List.nodup_cons.1 hd).1 (by rw [e]; exact List.mem_of_getElem? h')
    simp only [woI, List.take_succ_cons, List.drop_succ_cons, List.cons_append]
    rw [if_neg hne, woI_at nm ks ys j (by simpa using hl) (List.nodup_cons.1 hd).2 h']
  | [], _ :: _, _, h, _, _ => by simp at h
  | _ :: _, [], _, h, _, _ => by simp at h
theorem woK_mem {nm k : ByteArray} : ∀ {ks : List ByteArray}, k ∈ woK nm ks → k ∈ ks
  | [], h => h
  | a :: ks, h => by
    simp only [woK] at h
    split at h
    · exact List.mem_cons_of_mem _ (woK_mem h)
    · rcases List.mem_cons.1 h with h | h
      · exact List.mem_cons.2 (.inl h)
      · exact List.mem_cons_of_mem _ (woK_mem h)
theorem woK_nodup (nm : ByteArray) : ∀ (ks : List ByteArray), ks.Nodup → (woK nm ks).Nodup
  | [], h => by simp [woK]
  | k :: ks, h => by
    simp only [woK]
    split
    · exact woK_nodup nm ks (List.nodup_cons.1 h).2
    · exact List.nodup_cons.2 ⟨fun q => (List.nodup_cons.1 h).1 (woK_mem q), woK_nodup nm ks (List.nodup_cons.1 h).2⟩
theorem woI_mem {α : Type} {nm : ByteArray} {y : α} : ∀ {ks : List ByteArray} {ys : List α}, y ∈ woI nm ks ys → y ∈ ys
  | k :: ks, z :: ys, h => by
    simp only [woI] at h
    split at h
    · exact List.mem_cons_of_mem _ (woI_mem h)
    · rcases List.mem_cons.1 h with h | h
      · exact List.mem_cons.2 (.inl h)
      · exact List.mem_cons_of_mem _ (woI_mem h)
  | [], _, h => by simp [woI] at h
  | _ :: _, [], h => by simp [woI] at h

/-- A map of right items: its shape, what is told of it. -/
structure MapOk (d : Nat) (ks : List ByteArray) (is : List S25) : Prop where
  len : ks.length = is.length
  few : is.length ≤ 62
  nodup : ks.Nodup
  items : ∀ y ∈ is, Wf d y ∧ nodes d y ≤ 60
theorem MapOk.of {d : Nat} {x : S25} (h : Wf (d + 1) x) (h2 : x.f0 = 2) (hn : nodes (d + 1) x ≤ 60) : MapOk d x.f3 x.f4 :=
  ⟨(h.map h2).1, by have := h.len; omega, (h.map h2).2.1, fun y hy => ⟨h.items y hy, by have := nodes_item (d := d) hy; omega⟩⟩
theorem MapOk.ysh {d : Nat} {ks : List ByteArray} {is : List S25} (h : MapOk d ks is) (t v : ByteArray) : YSh (d + 1) (.mk 4 t v (kv ks (is.map (toY d)))) := by
  refine ⟨?_, .inr (.inl ⟨rfl, ks, is.map (toY d), by simpa using h.len, rfl, ?_⟩)⟩
  · simp only [Y.content]
    rw [kv_length _ _ (by simpa using h.len)]
    have := h.len
    have := h.few
    omega
  · intro z hz
    obtain ⟨y, hy, rfl⟩ := List.mem_map.1 hz
    exact (h.items y hy).1.ysh (h.items y hy).2
theorem MapOk.told {d : Nat} {ks : List ByteArray} {is : List S25} (h : MapOk d ks is) (t v : ByteArray) : ofY (d + 1) (.mk 4 t v (kv ks (is.map (toY d)))) = ⟨2, ⟨#[]⟩, ⟨#[]⟩, ks, is⟩ := by
  have hi : (is.map (toY d)).map (Go.Proofs.Ytigpgkfgkjabmaa.ofY d) = is := by
    rw [List.map_map]
    conv => rhs; rw [← List.map_id is]
    exact List.map_congr_left fun y hy => (h.items y hy).1.ofY
  rw [show Go.Proofs.Ytigpgkfgkjabmaa.ofY (d + 1) (.mk 4 t v (kv ks (is.map (toY d)))) = ⟨2, ⟨#[]⟩, ⟨#[]⟩, keysOf (kv ks (is.map (toY d))), (valsOf (kv ks (is.map (toY d)))).map (Go.Proofs.Ytigpgkfgkjabmaa.ofY d)⟩ from by simp [Go.Proofs.Ytigpgkfgkjabmaa.ofY, Y.kind, Y.content], keysOf_kv _ _ (by simpa using h.len), valsOf_kv _ _ (by simpa using h.len), hi]
theorem MapOk.sm {d : Nat} {ks : List ByteArray} {is : List S25} (h : MapOk d ks is) : Sm (d + 1) ⟨2, ⟨#[]⟩, ⟨#[]⟩, ks, is⟩ :=
  ⟨h.few, Nat.le_of_eq h.len, fun _ => ⟨h.len, h.nodup⟩, fun y hy => (h.items y hy).1.sm (h.items y hy).2⟩
theorem MapOk.without {d : Nat} {ks : List ByteArray} {is : List S25} (h : MapOk d ks is) (nm : ByteArray) : MapOk d (woK nm ks) (woI nm ks is) :=
  ⟨(woI_len nm ks is h.len).symm, by rw [woI_len nm ks is h.len]; have := woK_len nm ks; have := h.few; have := h.len; omega, woK_nodup nm ks h.nodup, fun y hy => h.items y (woI_mem hy)⟩
theorem live_map : Live 4 ⟨#[]⟩ := ⟨rfl, by rw [ByteArray.toList_eq]; rfl⟩
/-- A row of no cells. -/
theorem R_empty {α : Type} (d : Kd α) {w : World} {g e base : Nat} {ok : Nat → Prop} (h : w.heap[g]? = some (.cells #[] e (0, 0))) (hb : base ≤ g) (ho : ok g) : d.R e w base ok (.slice (some ⟨g, 0, none⟩) 0 0) [] :=
  ⟨fun k hk => by obtain rfl : g = k := by simpa [Value.ownBlock] using hk
                  exact ho, [], ⟨by simp, .inr ⟨g, 0, #[], rfl, hb, h, Nat.le_refl _, Nat.zero_le _, by simp, by simp⟩⟩, Reps.none _ _⟩
/-- spec.With, as data. -/
def wi (x : S25) (nm : ByteArray) (v : S25) : S25 :=
  if 0 ≤ plc x.f3 nm then ⟨2, ⟨#[]⟩, ⟨#[]⟩, x.f3, x.f4.set (plc x.f3 nm).toNat v⟩ else ⟨2, ⟨#[]⟩, ⟨#[]⟩, x.f3 ++ [nm], x.f4 ++ [v]⟩
theorem wi_at {x v : S25} {nm : ByteArray} {j : Nat} (hd : x.f3.Nodup) (h : x.f3[j]? = some nm) : wi x nm v = ⟨2, ⟨#[]⟩, ⟨#[]⟩, x.f3, x.f4.set j v⟩ := by
  obtain ⟨hj, he⟩ := List.getElem?_eq_some_iff.1 h
  have hp := plc_nodup hd j hj
  rw [he] at hp
  unfold wi
  rw [if_pos (by omega), hp, Int.toNat_natCast]
theorem wi_new {x v : S25} {nm : ByteArray} (h : nm ∉ x.f3) : wi x nm v = ⟨2, ⟨#[]⟩, ⟨#[]⟩, x.f3 ++ [nm], x.f4 ++ [v]⟩ := by
  unfold wi
  rw [if_neg (fun q => h (by obtain ⟨i, _, hi, hie⟩ := plc_pos x.f3 nm q; rw [← hie]; exact List.getElem_mem _))]
theorem MapOk.put {d : Nat} {ks : List ByteArray} {is : List S25} (h : MapOk d ks is) (j : Nat) {v : S25} (hv : Wf d v ∧ nodes d v ≤ 60) : MapOk d ks (is.set j v) :=
  ⟨by rw [List.length_set]; exact h.len, by rw [List.length_set]; exact h.few, h.nodup, fun y hy => by
    rcases List.mem_or_eq_of_mem_set hy with q | q
    · exact h.items y q
    · rw [q]; exact hv⟩
theorem MapOk.push {d : Nat} {ks : List ByteArray} {is : List S25} (h : MapOk d ks is) (hf : is.length ≤ 61) {nm : ByteArray} (hn : nm ∉ ks) {v : S25} (hv : Wf d v ∧ nodes d v ≤ 60) : MapOk d (ks ++ [nm]) (is ++ [v]) :=
  ⟨by simp [h.len], by simp; omega, by rw [List.nodup_append]; exact ⟨h.nodup, by simp, fun a ha b hb e => hn (by rw [← List.mem_singleton.1 hb, ← e]; exact ha)⟩, fun y hy => by
    rcases List.mem_append.1 hy with q | q
    · exact h.items y q
    · rw [List.mem_singleton.1 q]; exact hv⟩
theorem toY_up : ∀ {d : Nat} {x : S25}, Wf d x → toY (d + 1) x = toY d x
  | 0, _, h => h.elim
  | d + 1, x, h => by
    have hi : x.f4.map (toY (d + 1)) = x.f4.map (toY d) := List.map_congr_left fun y hy => toY_up (h.items y hy)
    rcases h with ⟨h1, _⟩ | ⟨_, _, _, _, ⟨h2, _⟩ | ⟨h3, _⟩⟩
    · rw [toY_one h1, toY_one h1]
    · rw [toY_two h2, toY_two h2, hi]
    · rw [toY_three h3, toY_three h3, hi]
theorem MapOk.up {d : Nat} {ks : List ByteArray} {is : List S25} (h : MapOk d ks is) : MapOk (d + 1) ks is :=
  ⟨h.len, h.few, h.nodup, fun y hy => by
    obtain ⟨h1, h2⟩ := (h.items y hy).1.up
    exact ⟨h1, by rw [h2]; exact (h.items y hy).2⟩⟩
theorem MapOk.toY_up {d : Nat} {ks : List ByteArray} {is : List S25} (h : MapOk d ks is) : is.map (toY (d + 1)) = is.map (toY d) := List.map_congr_left fun y hy => Go.Proofs.Ytigpgkfgkjabmaa.toY_up (h.items y hy).1
end Go.Proofs.Ytigpgkfgkjabmaa
