/-
  What ElementSetter does to a list that is laid: as trees, as plain data.
-/
import Derived.Test.YtigpgkfgkjabmaaElemSet
namespace Go.Proofs.Ytigpgkfgkjabmaa
open Go.RowKit Go.Proofs.YtigpgkfgkjabmaaW.PrintWords Go.Proofs.YtigpgkfgkjabmaaW.PrintLast Go.Proofs.Ytigpgkfgkjabmaa.PFnFields
set_option linter.unusedVariables false
set_option linter.unusedSimpArgs false

def selY (e : Option Y) (ms : Nat → Bool) (ys : List Y) : Nat → List Y
  | 0 => []
  | j + 1 => selY e ms ys j ++ (if ms j then e.toList else (ys[j]?).toList)
theorem anyN_at {ms : Nat → Bool} : ∀ {j : Nat}, anyN ms j = true → ∃ i, i < j ∧ ms i = true
  | 0, h => by cases h
  | j + 1, h => by
    unfold anyN at h
    rcases Bool.or_eq_true_iff.1 h with h | h
    · obtain ⟨i, h1, h2⟩ := anyN_at h
      exact ⟨i, by omega, h2⟩
    · exact ⟨j, by omega, h⟩
theorem sel_tree {w : World} {F G : Nat → Prop} {bs : List Nat} {ys : List Y} {E : Option Nat} {ye : Option Y} {ms : Nat → Bool} (h : YL w F bs ys) (hE : (E = none ∧ ye = none) ∨ ∃ ep y, E = some ep ∧ ye = some y ∧ YN w G ep y) (hd : ∀ k, F k → ¬ G k) (hu : ∀ i j, ms i = true → ms j = true → i = j) :
    ∀ j, j ≤ ys.length → ∃ Fj Rj : Nat → Prop, YL w Fj (selN E ms bs j) (selY ye ms ys j) ∧ YL w Rj (bs.drop j) (ys.drop j) ∧ (∀ k, Fj k → ¬ Rj k) ∧ (∀ k, Fj k → F k ∨ (anyN ms j = true ∧ G k)) ∧ (∀ k, Rj k → F k)
  | 0, _ => ⟨fun _ => False, F, by simp only [selN, selY, YL], h, fun _ q => q.elim, fun _ q => q.elim, fun _ q => q⟩
  | j + 1, hj => by
    obtain ⟨Fj, Rj, h1, h2, h3, h4, h5⟩ := sel_tree h hE hd hu j (by omega)
    have hjy : j < ys.length := by omega
    have hjb : j < bs.length := by have := h.length; omega
    rw [List.drop_eq_getElem_cons hjb, List.drop_eq_getElem_cons hjy] at h2
    simp only [YL] at h2
    obtain ⟨F1, g1, g2, g3⟩ := h2
    have eb : bs.getD j 0 = bs[j] := by rw [List.getD_eq_getElem?_getD, List.getElem?_eq_getElem hjb]; rfl
    have ey : (ys[j]?).toList = [ys[j]] := by rw [List.getElem?_eq_getElem hjy]; rfl
    have hn : selN E ms bs (j + 1) = selN E ms bs j ++ (if ms j then E.toList else [bs.getD j 0]) := rfl
    have hy : selY ye ms ys (j + 1) = selY ye ms ys j ++ (if ms j then ye.toList else (ys[j]?).toList) := rfl
    have ha : anyN ms (j + 1) = (anyN ms j || ms j) := rfl
    rw [hn, hy, ha, eb, ey]
    cases hm : ms j
    · refine ⟨fun k => Fj k ∨ F1 k, _, YL.append h1 (YL.one g2) (fun k q => .inl q) (fun k q => .inr q) (fun k q r => h3 k q (g1 k r)), g3, ?_, ?_, fun k q => h5 k q.1⟩
      · rintro k (q | q) ⟨r1, r2⟩
        · exact h3 k q r1
        · exact r2 q
      · rintro k (q | q)
        · rcases h4 k q with r | ⟨r1, r2⟩
          · exact .inl r
          · exact .inr ⟨by rw [r1]; rfl, r2⟩
        · exact .inl (h5 k (g1 k q))
    · rcases hE with ⟨rfl, rfl⟩ | ⟨ep, y, rfl, rfl, hye⟩
      · refine ⟨Fj, _, by simpa using h1, g3, fun k q r => h3 k q r.1, ?_, fun k q => h5 k q.1⟩
        intro k q
        rcases h4 k q with r | ⟨r1, r2⟩
        · exact .inl r
        · exact .inr ⟨by simp, r2⟩
      · have hno : ∀ k, Fj k → F k := fun k q => by
          rcases h4 k q with r | ⟨r1, _⟩
          · exact r
          · obtain ⟨i, hi, hmi⟩ := anyN_at r1
            have := hu i j hmi hm
            omega
        refine ⟨fun k => Fj k ∨ G k, _, YL.append h1 (YL.one hye) (fun k q => .inl q) (fun k q => .inr q) (fun k q r => hd k (hno k q) r), g3, ?_, ?_, fun k q => h5 k q.1⟩
        · rintro k (q | q) ⟨r1, _⟩
          · exact h3 k q r1
          · exact hd k (h5 k r1) q
        · rintro k (q | q)
          · exact .inl (hno k q)
          · exact .inr ⟨by simp, q⟩
/-- All of it. -/
def finY (e : Option Y) (ms : Nat → Bool) (ys : List Y) : List Y := selY e ms ys ys.length ++ (if anyN ms ys.length then [] else e.toList)
theorem fin_tree {w : World} {F G : Nat → Prop} {bs : List Nat} {ys : List Y} {E : Option Nat} {ye : Option Y} {ms : Nat → Bool} (h : YL w F bs ys) (hE : (E = none ∧ ye = none) ∨ ∃ ep y, E = some ep ∧ ye = some y ∧ YN w G ep y) (hd : ∀ k, F k → ¬ G k) (hu : ∀ i j, ms i = true → ms j = true → i = j) :
    YL w (fun k => F k ∨ G k) (finN E ms bs) (finY ye ms ys) := by
  obtain ⟨Fj, Rj, h1, _, _, h4, _⟩ := sel_tree h hE hd hu ys.length (Nat.le_refl _)
  unfold finN finY
  rw [h.length]
  cases ha : anyN ms ys.length
  · have hno : ∀ k, Fj k → F k := fun k q => by
      rcases h4 k q with r | ⟨r1, _⟩
      · exact r
      · rw [ha] at r1; cases r1
    rcases hE with ⟨rfl, rfl⟩ | ⟨ep, y, rfl, rfl, hye⟩
    · simpa using h1.mono (fun k q => .inl (hno k q))
    · exact YL.append h1 (YL.one hye) (fun k q => .inl (hno k q)) (fun k q => .inr q) (fun k q r => hd k (hno k q) r)
  · simpa using h1.mono (fun k q => (h4 k q).elim .inl (fun r => .inr r.2))
/-- An element's name. -/
def nmf (y : S25) : ByteArray := (spField y nameB).f1
/-- Whether the element at j has the name sv. -/
def msD (sv : ByteArray) (xs : List S25) (j : Nat) : Bool := match xs[j]? with
  | some y => decide (nmf y = sv)
  | none => false
/-- The list with the element of that name set or taken away. -/
def outD (e : Option S25) (sv : ByteArray) (xs : List S25) : List S25 :=
  xs.flatMap (fun y => if decide (nmf y = sv) then e.toList else [y]) ++ (if xs.any (fun y => decide (nmf y = sv)) then [] else e.toList)
theorem selY_data {f : S25 → Y} {e : Option S25} {sv : ByteArray} {xs : List S25} : ∀ j, j ≤ xs.length → selY (e.map f) (msD sv xs) (xs.map f) j = ((xs.take j).flatMap (fun y => if decide (nmf y = sv) then e.toList else [y])).map f
  | 0, _ => by simp [selY]
  | j + 1, hj => by
    have hjx : j < xs.length := by omega
    have ih := selY_data (f := f) (e := e) (sv := sv) (xs := xs) j (by omega)
    have hy : selY (e.map f) (msD sv xs) (xs.map f) (j + 1) = selY (e.map f) (msD sv xs) (xs.map f) j ++ (if msD sv xs j then (e.map f).toList else ((xs.map f)[j]?).toList) := rfl
    have hm : msD sv xs j = decide (nmf xs[j] = sv) := by unfold msD; rw [List.getElem?_eq_getElem hjx]
    rw [hy, ih, hm, List.take_succ_eq_append_getElem hjx, List.flatMap_append, List.map_append]
    congr 1
    simp only [List.flatMap_cons, List.flatMap_nil, List.append_nil, List.getElem?_map, List.getElem?_eq_getElem hjx]
    cases decide (nmf xs[j] = sv) <;> cases e <;> rfl
theorem anyN_data {sv : ByteArray} {xs : List S25} : ∀ j, j ≤ xs.length → anyN (msD sv xs) j = (xs.take j).any (fun y => decide (nmf y = sv))
  | 0, _ => by simp [anyN]
  | j + 1, hj => by
    have hjx : j < xs.length := by omega
    have ih := anyN_data (sv := sv) (xs := xs) j (by omega)
    have hm : msD sv xs j = decide (nmf xs[j] = sv) := by unfold msD; rw [List.getElem?_eq_getElem hjx]
    show (anyN (msD sv xs) j || msD sv xs j) = _
    rw [ih, hm, List.take_succ_eq_append_getElem hjx, List.any_append]
    simp
theorem finY_data {f : S25 → Y} {e : Option S25} {sv : ByteArray} {xs : List S25} : finY (e.map f) (msD sv xs) (xs.map f) = (outD e sv xs).map f := by
  unfold finY outD
  rw [List.length_map, selY_data _ (Nat.le_refl _), anyN_data _ (Nat.le_refl _), List.take_length, List.map_append]
  congr 1
  cases xs.any (fun y => decide (nmf y = sv)) <;> cases e <;> rfl
theorem msD_one {sv : ByteArray} {xs : List S25} (h : (xs.map nmf).Nodup) (i j : Nat) (hi : msD sv xs i = true) (hj : msD sv xs j = true) : i = j := by
  unfold msD at hi hj
  have key : ∀ k : Nat, (match xs[k]? with | some y => decide (nmf y = sv) | none => false) = true → (xs.map nmf)[k]? = some sv := fun k hk => by
    cases hx : xs[k]? with
    | none => rw [hx] at hk; cases hk
    | some y => rw [hx] at hk; rw [List.getElem?_map, hx]; exact congrArg some (by simpa using hk)
  obtain ⟨h1, e1⟩ := List.getElem?_eq_some_iff.1 (key i hi)
  obtain ⟨h2, e2⟩ := List.getElem?_eq_some_iff.1 (key j hj)
  exact nodup_get h h1 h2 (e1.trans e2.symm)
/-- A list of trees, told. -/
theorem holds_list {w : World} {r b : Nat} {F : Nat → Prop} {is : List S25} (ht : ∀ y ∈ is, Tree y) (hl : is.length ≤ 4000) (hr : RN w r b) (hy : YN w F b (.mk 2 ⟨#[]⟩ ⟨#[]⟩ (is.map (toY 6)))) : Holds w (some r) ⟨3, ⟨#[]⟩, ⟨#[]⟩, [], is⟩ := by
  refine .inr ⟨r, 6 + 1, b, F, _, rfl, hr, hy, ⟨by simpa [Y.content] using hl, .inr (.inr ⟨rfl, fun z hz => ?_⟩)⟩, ⟨rfl, by simp only [Y.tag]; rw [ByteArray.toList_eq]; rfl⟩, ?_⟩
  · obtain ⟨y, hy', rfl⟩ := List.mem_map.1 hz
    exact (ht y hy').1.ysh (ht y hy').2
  · have e : (is.map (toY 6)).map (ofY 6) = is := by
      rw [List.map_map]
      exact (List.map_congr_left fun y hy' => (ht y hy').1.ofY).trans (List.map_id is)
    show (if (2 : Int) = 8 then _ else if (2 : Int) = 4 then _ else _) = _
    rw [if_neg (by decide), if_neg (by decide)]
    exact congrArg (fun l => (⟨3, ⟨#[]⟩, ⟨#[]⟩, [], l⟩ : S25)) e
theorem outD_trees {e : Option S25} {sv : ByteArray} {xs : List S25} (hx : ∀ y ∈ xs, Tree y) (he : ∀ y, e = some y → Tree y) : ∀ y ∈ outD e sv xs, Tree y := by
  intro y hy
  unfold outD at hy
  rcases List.mem_append.1 hy with h | h
  · obtain ⟨z, hz, h⟩ := List.mem_flatMap.1 h
    split at h
    · exact he y (by simpa using h)
    · obtain rfl := List.mem_singleton.1 h; exact hx _ hz
  · split at h
    · cases h
    · exact he y (by simpa using h)
theorem es_method (E : Option Nat) (kx ck vx cv : Nat) (n : Nat) (wa : World) : (method (n + 1) 99 (.agg (es E kx ck vx cv)) "Filter").run Try.prog wa = .ok (123, .agg (es E kx ck vx cv)) wa := by kernel_rfl
/-- A tree that is a map with a name, laid. -/
theorem elem_ok {w : World} {F : Nat → Prop} {p : Nat} {y : S25} {sv : ByteArray} (hy : Tree y) (hn : has nameB y = true) (h1 : (spField y nameB).f0 = 1) (hY : YN w F p (toY 6 y)) :
    ∃ t v A g c ks cs vt, ElemOk w p sv (decide (nmf y = sv)) t v A g c ks cs vt := by
  obtain ⟨h2, hin⟩ := has_iff.1 hn
  obtain ⟨hkl, hnd, _⟩ := hy.1.map (d := 5) h2
  have hlen := hy.1.len (d := 5)
  have hlen2 : nodes (5 + 1) y ≤ 60 := hy.2
  rw [toY_two h2] at hY
  obtain ⟨A, g, c, bs, hnb, hA, hm, hcell, hkey, hval⟩ := map_open (by simpa using hkl) hY
  refine ⟨_, _, A, g, c, y.f3, bs, fun j => (toY 5 (y.f4.getD j z25)).value, ⟨hnb, live_map, hA, hm, by omega, List.length_pos_of_mem hin, hcell, keys_nb hkey, fun j hj => ?_, hin, fun j hj => ?_⟩⟩
  · have hj4 : j < y.f4.length := by omega
    obtain ⟨F1, _, h⟩ := hval j (by simpa using hj4)
    obtain ⟨cv, h'⟩ := node_open h
    have e : (y.f4.map (toY 5))[j]'(by simpa using hj4) = toY 5 (y.f4.getD j z25) := by
      rw [List.getElem_map, List.getD_eq_getElem?_getD, List.getElem?_eq_getElem hj4]; rfl
    rw [e] at h'
    exact ⟨_, _, cv, h'⟩
  · obtain ⟨hjl, _⟩ := List.getElem?_eq_some_iff.1 hj
    have hj4 : j < y.f4.length := by omega
    have e : spField y nameB = y.f4.getD j z25 := by
      rw [List.getD_eq_getElem?_getD, List.getElem?_eq_getElem hj4]
      exact spField_at h2 hnd hj (List.getElem?_eq_getElem hj4)
    show _ ↔ (toY 5 (y.f4.getD j z25)).value = sv
    unfold nmf
    rw [← e, toY_one (d := 4) h1]
    simp [Y.value]
theorem own_lower0 {w : World} {base e sz n : Nat} {v : Value} {xs : List Value} (h : w.ownsRow base e sz v n xs) : w.ownsRow 0 e sz v n xs := by
  obtain ⟨h1, h2⟩ := h
  exact ⟨h1, h2.imp id (fun ⟨g, cap, cur, a, _, r⟩ => ⟨g, cap, cur, a, Nat.zero_le _, r⟩)⟩
theorem outD_len (e : Option S25) (sv : ByteArray) (xs : List S25) : (outD e sv xs).length ≤ xs.length + 1 := by
  have h : ∀ l : List S25, (l.flatMap (fun y => if decide (nmf y = sv) then e.toList else [y])).length ≤ l.length := by
    intro l
    induction l with
    | nil => simp
    | cons a l ih =>
      rw [List.flatMap_cons, List.length_append, List.length_cons]
      have : (if decide (nmf a = sv) then e.toList else [a]).length ≤ 1 := by split <;> cases e <;> simp
      omega
  unfold outD
  rw [List.length_append]
  have h1 := h xs
  have : (if xs.any (fun y => decide (nmf y = sv)) then ([] : List S25) else e.toList).length ≤ 1 := by split <;> cases e <;> simp
  omega
theorem elset_does (x : S25) (e : Option S25) (sv : ByteArray) (hx : Tree x) (h3 : x.f0 = 3) (hnm : Named x) (hnd : (x.f4.map nmf).Nodup) (he : ∀ y, e = some y → Tree y) (hs : sv.toList.isEmpty = false) (w : World) (E : Option Nat) (G : Nat → Prop) (hE : (E = none ∧ e = none) ∨ ∃ ep y, E = some ep ∧ e = some y ∧ YN w G ep (toY 6 y))
    (kx ck vx cv : Nat) (hk : w.cell? ⟨kx, 0, none⟩ = some (.string nameB)) (hv : w.cell? ⟨vx, 0, none⟩ = some (.string sv)) :
    FilterDoes w 123 (.agg (es E kx ck vx cv)) x (e.getD z25) ⟨3, ⟨#[]⟩, ⟨#[]⟩, [], outD e sv x.f4⟩ := by
  intro w0 wa r b hb0 hb1 hr hrl hy
  replace hr := hr.rn
  have hs0 := hb0.size
  have hs1 := hb1.size
  have hwa : Below w.heap.size w wa := hb0.trans (hb1.mono hb0.size)
  have hlen := hx.1.len (d := 5)
  have hlen2 : nodes (5 + 1) x ≤ 60 := hx.2
  have hup : x.f4.map (toY 6) = x.f4.map (toY 5) := List.map_congr_left fun y hy => toY_up (hx.1.items y hy)
  rw [toY_three h3, ← hup] at hy
  obtain ⟨hF, cvv, bs, hn, hor, hfo, hyl⟩ := hy.open_
  simp only [Y.kind, Y.tag, Y.value, Y.content] at hn hyl
  obtain ⟨A, g, c, rfl, hA, hcell⟩ := row_open hor
  have hbl : bs.length = x.f4.length := by simpa using hyl.length
  have hl2 : Live 2 ⟨#[]⟩ := ⟨rfl, by rw [ByteArray.toList_eq]; rfl⟩
  have hEa : (E = none ∧ e = none) ∨ ∃ ep y, E = some ep ∧ e = some y ∧ YN wa (fun k => G k ∧ k < w.heap.size) ep (toY 6 y) := hE.imp id (fun ⟨ep, y, h1, h2, h⟩ => ⟨ep, y, h1, h2, h.lt.below hwa⟩)
  refine (elemset_calls wa r b ⟨#[]⟩ ⟨#[]⟩ A g c bs E kx ck vx cv sv (msD sv x.f4) hs hr hn hl2 hA (by omega) hcell ((hwa.cell (World.block_lt_of_cell? w _ hk)).trans hk) ((hwa.cell (World.block_lt_of_cell? w _ hv)).trans hv) ?el ?e1).mono ?_
  case el =>
    intro j hj
    have hjx : j < x.f4.length := by omega
    obtain ⟨b5, F5, eb5, _, hy5⟩ := hyl.get j (by simpa using hjx)
    have hb5 : bs[j] = b5 := by rw [List.getElem?_eq_getElem hj] at eb5; exact Option.some.inj eb5
    have hm : msD sv x.f4 j = decide (nmf x.f4[j] = sv) := by unfold msD; rw [List.getElem?_eq_getElem hjx]
    have hmem : x.f4[j] ∈ x.f4 := List.getElem_mem _
    rw [hb5, hm]
    rw [List.getElem_map] at hy5
    exact elem_ok (hx.item hmem) (hnm _ hmem).1 (hnm _ hmem).2 hy5
  case e1 =>
    intro ep hep
    rcases hEa with ⟨h, _⟩ | ⟨ep', y, h1, h2, h⟩
    · rw [h] at hep; cases hep
    · obtain rfl : ep' = ep := by rw [h1] at hep; exact Option.some.inj hep
      obtain ⟨cv', h'⟩ := node_open h
      have hlt := h.open_.1.2
      have hbw := hF.1
      exact ⟨_, _, _, cv', h', (he y h2).1.live, by omega⟩
  rintro e' w' ⟨o, rfl, hc, ⟨nv, hnb', hrow'⟩, hcase⟩
  have hbb := hF.1
  have hE' : (E = none ∧ e.map (toY 6) = none) ∨ ∃ ep y, E = some ep ∧ e.map (toY 6) = some y ∧ YN w' (fun k => G k ∧ k < w.heap.size) ep y := by
    rcases hEa with ⟨h, h'⟩ | ⟨ep, y, h1, h2, h⟩
    · exact .inl ⟨h, by rw [h']; rfl⟩
    · exact .inr ⟨ep, _, h1, by rw [h2]; rfl, h.chg hc (fun k q r => by have := q.2; omega)⟩
  refine ⟨o, rfl, hc.below hs1 (fun k q => by omega), ?_, ?_⟩
  · rcases hcase with ⟨h, rfl⟩ | ⟨ep, rr, h, rfl, hrr, _⟩
    · rcases hEa with ⟨_, h'⟩ | ⟨ep, y, h1, _⟩
      · rw [h']; exact .inl ⟨rfl, rfl⟩
      · rw [h] at h1; cases h1
    · rcases hEa with ⟨h', _⟩ | ⟨ep', y, h1, h2, hye⟩
      · rw [h] at h'; cases h'
      · obtain rfl : ep' = ep := by rw [h] at h1; exact (Option.some.inj h1).symm
        rw [h2]
        exact holds_tree (he y h2).1 (he y h2).2 hrr (hye.chg hc (fun k q r => by have := q.2; omega))
  · have hr' : RN w' r b := hr.move (fun hlt => hc.block r hlt (fun q => hF.2 q.symm))
    refine holds_list (outD_trees (fun y hy => hx.item hy) he) (by have := outD_len e sv x.f4; omega) hr' (F := fun _ => True) ?_
    have hyl' := hyl.lt.chg hc (fun k q r => q.1.2.1 r)
    have hfin := fin_tree (ms := msD sv x.f4) hyl' hE' (fun k q r => by have := q.1.1.1; have := r.2; omega) (fun i j hi hj => msD_one hnd i j hi hj)
    rw [finY_data] at hfin
    refine YN.close trivial hnb' (own_lower0 hrow') (fun _ _ => trivial) (hfin.mono (fun k q => ⟨trivial, ?_, fun e => ?_⟩))
    · rintro rfl
      rcases q with q | q
      · exact q.1.2.1 rfl
      · have := q.2; omega
    · have h1 := own_base hrow' k e.symm
      rcases q with q | q
      · have := q.2; omega
      · have := q.2; omega
end Go.Proofs.Ytigpgkfgkjabmaa
