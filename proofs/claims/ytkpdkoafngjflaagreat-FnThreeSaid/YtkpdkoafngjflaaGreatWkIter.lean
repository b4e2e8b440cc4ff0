import Derived.Test.YtkpdkoafngjflaaGreatWkDef
namespace Go.Proofs.YtkpdkoafngjflaaGreat
open Go.RowKit Go.Proofs.YtkpdkoafngjflaaGreatW.PrintWords Go.Proofs.YtkpdkoafngjflaaGreatW.PrintLast Go.Proofs.YtkpdkoafngjflaaGreat.PFnFields
set_option linter.unusedVariables false
set_option linter.unusedSimpArgs false
abbrev mapY (d : Nat) (X : S25) : Y := .mk 4 ⟨#[]⟩ ⟨#[]⟩ (kv X.f3 (X.f4.map (toY d)))
structure MapSt (d : Nat) (w : World) (G : Nat → Prop) (dn : Nat) (X : S25) : Prop where
 tree : YN w G dn (mapY d X)
 mp : Mp X
 liv : ∀ y ∈ X.f4, Live (toY d y).kind (toY d y).tag
 few : X.f3.length ≤ 900
theorem MapSt.len {d : Nat} {w : World} {G : Nat → Prop} {dn : Nat} {X : S25} (h : MapSt d w G dn X) : X.f3.length = (X.f4.map (toY d)).length := by simpa using h.mp.len
theorem MapSt.below {d : Nat} {w w' : World} {G : Nat → Prop} {dn : Nat} {X : S25} (h : MapSt d w G dn X) (hb : Below w.heap.size w w') : MapSt d w' G dn X := ⟨h.tree.below hb, h.mp, h.liv, h.few⟩
theorem MapSt.lt {d : Nat} {w : World} {G : Nat → Prop} {dn : Nat} {X : S25} (h : MapSt d w G dn X) : MapSt d w (fun k => G k ∧ k < w.heap.size) dn X := ⟨h.tree.lt, h.mp, h.liv, h.few⟩
def SetDone (d : Nat) (w : World) (T : Nat → Prop) (dn : Nat) (X : S25) (nm : ByteArray) (res : Option S25) (e : Ending) (w' : World) : Prop :=
 ∃ (o : Option Nat) (G' : Nat → Prop) (X' : S25), e = .returned (.tuple #[.pointer (o.map fun k => ⟨k, 0, none⟩), .nilIface]) ∧ YN w' G' dn (mapY d X') ∧ Mp X' ∧ (∀ y ∈ X'.f4, Live (toY d y).kind (toY d y).tag) ∧ (∀ k, lk X' k = if k = nm then res else lk X k) ∧
  X'.f3.length ≤ X.f3.length + 1 ∧ (∀ k, G' k → T k ∨ w.heap.size ≤ k) ∧ Chg T w w'
theorem set_other {d : Nat} {w : World} {r dn rv vb : Nat} {G Fv : Nat → Prop} {X R : S25} {nm : ByteArray} (h : MapSt d w G dn X) (hne : nm.toList.isEmpty = false) (hr : RN w r dn) (hrv : RN w rv vb) (hv : YN w Fv vb (toY d R)) (hl : Live (toY d R).kind (toY d R).tag)
  (hd : ∀ k, G k → ¬ Fv k) (hrG : ¬ G rv) : Calls Tryz.prog 164 #[.agg (fsc nm (ptr rv)), ptr r] w (SetDone d w (fun k => G k ∨ Fv k) dn X nm (some R)) := by
 refine (setter_calls w r dn rv vb G Fv _ _ X.f3 (X.f4.map (toY d)) nm (toY d R) hne hr h.tree live_map h.len (by have := h.few; omega) hrv hv hl hd hrG (fun y hy => by
  obtain ⟨z, hz, rfl⟩ := List.mem_map.1 hy
  exact h.liv z hz)).mono ?_
 rintro e w' ⟨o, rfl, F', ks', vs', hcase, hy, hF, hc, _⟩
 obtain ⟨hm, hlk⟩ := h.mp.wi nm R
 rcases hcase with ⟨hnin, rfl, rfl⟩ | ⟨j, hj, rfl, rfl⟩
 ·rw [wi_new hnin] at hm hlk
  refine ⟨o, F', _, rfl, ?_, hm, fun y hy => ?_, hlk, by simp, fun k q => ?_, hc.mono (fun k q => .inl q)⟩
  ·show YN w' F' dn (.mk 4 ⟨#[]⟩ ⟨#[]⟩ (kv (X.f3 ++ [nm]) ((X.f4 ++ [R]).map (toY d))))
   rw [List.map_append]
   exact hy
  ·rcases List.mem_append.1 hy with q | q
   ·exact h.liv y q
   ·rw [List.mem_singleton.1 q]; exact hl
  ·rcases hF k q with q | q | q
   ·exact .inl (.inl q)
   ·exact .inl (.inr q)
   ·exact .inr q
 ·rw [wi_at h.mp.nodup hj] at hm hlk
  refine ⟨o, F', _, rfl, ?_, hm, fun y hy => ?_, hlk, Nat.le_succ _, fun k q => ?_, hc.mono (fun k q => .inl q)⟩
  ·show YN w' F' dn (.mk 4 ⟨#[]⟩ ⟨#[]⟩ (kv X.f3 ((X.f4.set j R).map (toY d))))
   rw [List.map_set]
   exact hy
  ·rcases List.mem_or_eq_of_mem_set hy with q | q
   ·exact h.liv y q
   ·rw [q]; exact hl
  ·rcases hF k q with q | q | q
   ·exact .inl (.inl q)
   ·exact .inl (.inr q)
   ·exact .inr q
theorem set_gone {d : Nat} {w : World} {r dn : Nat} {G : Nat → Prop} {X : S25} {nm : ByteArray} (h : MapSt d w G dn X) (hne : nm.toList.isEmpty = false) (hr : RN w r dn) (hin : nm ∈ X.f3) :
  Calls Tryz.prog 164 #[.agg (fsc nm (.pointer none)), ptr r] w (SetDone d w G dn X nm none) := by
 refine (setter_niltree w r dn G nm X.f3 (X.f4.map (toY d)) hne hr h.tree h.len (List.length_pos_of_mem hin) (by have := h.few; omega)).mono ?_
 rintro e w' ⟨o, rfl, ⟨hnin, _⟩ | ⟨j, hj, hy, hc⟩⟩
 ·exact absurd hin hnin
 ·obtain ⟨hm, hlk⟩ := h.mp.wx nm
  have e1 : X.f3.take j ++ X.f3.drop (j + 1) = woK nm X.f3 := (woK_at nm X.f3 j h.mp.nodup hj).symm
  have e2 : (X.f4.map (toY d)).take j ++ (X.f4.map (toY d)).drop (j + 1) = (woI nm X.f3 X.f4).map (toY d) := by
   rw [woI_at nm X.f3 X.f4 j h.mp.len h.mp.nodup hj, List.map_append, List.map_take, List.map_drop]
  rw [e1, e2] at hy
  exact ⟨o, G, _, rfl, hy, hm, fun y q => h.liv y (woI_mem q), hlk, by have := woK_len nm X.f3; show (woK nm X.f3).length ≤ _; omega, fun k q => .inl q, hc⟩
theorem set_self {d : Nat} {w : World} {r dn rv vb j : Nat} {G : Nat → Prop} {X R : S25} {nm : ByteArray} {bs : List Nat} {A : Option Addr} {g c : Nat} (hm : Mp X) (hlv : ∀ y ∈ X.f4, Live (toY d y).kind (toY d y).tag) (hne : nm.toList.isEmpty = false) (hr : RN w r dn) (hf : FM w dn X.f3 bs A g c)
  (hj : X.f3[j]? = some nm) (hvb : bs.getD (2 * j + 1) 0 = vb) (hrv : RN w rv vb) {Fv : Nat → Prop} (hv : YN w Fv vb (toY d R)) (hl : Live (toY d R).kind (toY d R).tag) (ht : YN w G dn (.mk 4 ⟨#[]⟩ ⟨#[]⟩ (kv X.f3 ((X.f4.set j R).map (toY d))))) :
  Calls Tryz.prog 164 #[.agg (fsc nm (ptr rv)), ptr r] w (SetDone d w G dn X nm (some R)) := by
 obtain ⟨_, cvv, bsv, hn, hov, _, _⟩ := hv.open_
 obtain ⟨Av, cvc, rfl⟩ := own_slice hov
 refine (setter_self w r dn rv nm X.f3 bs A g c j _ _ _ Av bsv.length cvc hne hr hf hm.nodup hj (by rw [hvb]; exact hrv) (by rw [hvb]; exact hn) hl).mono ?_
 rintro e w' ⟨o, rfl, hb⟩
 obtain ⟨hm', hlk⟩ := hm.wi nm R
 rw [wi_at hm.nodup hj] at hm' hlk
 refine ⟨o, G, _, rfl, ht.below hb, hm', fun y hy => ?_, hlk, Nat.le_succ _, fun k q => .inl q, Chg.of_below hb⟩
 rcases List.mem_or_eq_of_mem_set hy with q | q
 ·exact hlv y q
 ·rw [q]; exact hl
theorem YL.build {w : World} : ∀ {F : Nat → Prop} {bs : List Nat} {ys : List Y} (Fs : Nat → Nat → Prop), bs.length = ys.length → (∀ i k, i < ys.length → Fs i k → F k) → (∀ i j k, i ≠ j → Fs i k → ¬ Fs j k) → (∀ i (h : i < ys.length), YN w (Fs i) (bs.getD i 0) ys[i]) → YL w F bs ys
 | _, [], [], _, _, _, _, _ => by simp only [YL]
 |F, b :: bs, y :: ys, Fs, hl, h1, h2, h3 => by
  simp only [YL]
  refine ⟨Fs 0, fun k q => h1 0 k (by simp) q, h3 0 (by simp), YL.build (fun i => Fs (i + 1)) (by simpa using hl) (fun i k hi q => ⟨h1 (i + 1) k (by simpa using hi) q, fun r => h2 (i + 1) 0 k (by omega) q r⟩) (fun i j k hij q => h2 _ _ k (by omega) q) (fun i hi => ?_)⟩
  have := h3 (i + 1) (by simpa using hi)
  simpa using this
 | _, [], _ :: _, _, hl, _, _, _ => by simp at hl
 | _, _ :: _, [], _, hl, _, _, _ => by simp at hl
theorem MapSt.focus {d : Nat} {w : World} {G : Nat → Prop} {dn : Nat} {X : S25} (h : MapSt d w G dn X) : ∃ bs A g c, FM w dn X.f3 bs A g c ∧ (∀ w' S, Chg S w w' → (∀ k, S k → ¬ G k) → FM w' dn X.f3 bs A g c) ∧ ∀ (j : Nat) (y : S25), X.f4[j]? = some y → ∃ F1 : Nat → Prop, (∀ k, F1 k → G k) ∧ YN w F1 (bs.getD (2 * j + 1) 0) (toY d y) ∧
  (∀ w' S, Chg S w w' → (∀ k, S k → G k → F1 k) → FM w' dn X.f3 bs A g c) ∧
  ∀ (w' : World) (F2 : Nat → Prop) (R : S25), YN w' F2 (bs.getD (2 * j + 1) 0) (toY d R) → (∀ k, G k → ¬ F1 k → k < w.heap.size → w'.heap[k]? = w.heap[k]?) → (∀ k, F2 k → F1 k ∨ ¬ G k) →
   YN w' (fun k => G k ∨ F2 k) dn (.mk 4 ⟨#[]⟩ ⟨#[]⟩ (kv X.f3 ((X.f4.set j R).map (toY d)))) := by
 have hkl := h.len
 obtain ⟨hF, cv, bs, hn, ho, hfo, hl⟩ := h.tree.open_
 simp only [Y.kind, Y.tag, Y.value, Y.content] at hn hl
 obtain ⟨A, g, c, rfl, hA, hcell⟩ := row_open ho
 have hlb := hl.length
 rw [kv_length _ _ hkl] at hlb
 have hll : (kv X.f3 (X.f4.map (toY d))).length = 2 * X.f3.length := kv_length _ _ hkl
 obtain ⟨Fs, f1, f2, f3⟩ := hl.split
 have hkey : ∀ j (hj : j < X.f3.length), YN w (Fs (2 * j)) (bs.getD (2 * j) 0) (.mk 8 ⟨#[]⟩ X.f3[j] []) := fun j hj => by
  have := f3 (2 * j) (by omega)
  have e := kv_key X.f3 _ j hkl hj
  rw [List.getElem?_eq_getElem (by omega)] at e
  rw [Option.some.inj e] at this
  exact this
 have hfm : FM w dn X.f3 bs A g c := ⟨hn, fun h0 => hA (by omega), hlb, by have := h.few; omega, hcell, fun j hj => by
  obtain ⟨_, cv', _, hnk, _⟩ := (hkey j hj).open_
  exact ⟨cv', hnk⟩⟩
 refine ⟨bs, A, g, c, hfm, fun w' S hc hs => ?_, fun j y hy => ?_⟩
 ·refine hfm.move (fun l => hc.block _ l (fun q => hs _ q hF)) (fun h0 l => hc.block _ l (fun q => ?_)) (fun i hi l => hc.block _ l (fun q => hs _ q (f1 _ _ (hkey i hi).open_.1).1))
  obtain rfl := hA (by omega)
  exact hs _ q (hfo g rfl)
 have hj : j < X.f4.length := (List.getElem?_eq_some_iff.1 hy).1
 have hj3 : j < X.f3.length := by rw [h.mp.len]; exact hj
 have hyj := f3 (2 * j + 1) (by omega)
 have hv1 := kv_val X.f3 (X.f4.map (toY d)) j hkl (by simpa using hj)
 rw [List.getElem?_eq_getElem (by omega)] at hv1
 rw [Option.some.inj hv1, List.getElem_map, (List.getElem?_eq_some_iff.1 hy).2] at hyj
 have hF1b : ∀ k, Fs (2 * j + 1) k → k ≠ dn := fun k q => (f1 _ k q).2.1
 have hF1o : ∀ k, Fs (2 * j + 1) k → some k ≠ (Value.slice A bs.length c).ownBlock := fun k q => (f1 _ k q).2.2
 refine ⟨Fs (2 * j + 1), fun k q => (f1 _ k q).1, hyj, fun w' S hc hs => ?_, fun w' F2 R hR hmv hd => ?_⟩
 ·have hcap : ∀ k, G k → ¬ Fs (2 * j + 1) k → ¬ S k := fun k q1 q2 q3 => q2 (hs k q3 q1)
  refine hfm.move (fun l => hc.block _ l (hcap _ hF (fun q => hF1b _ q rfl))) (fun h0 l => hc.block _ l ?_) (fun i hi l => hc.block _ l ?_)
  ·obtain rfl := hA (by omega)
   exact hcap _ (hfo g rfl) (fun q => hF1o _ q rfl)
  ·have hk3 := (hkey i hi).open_.1
   exact hcap _ (f1 _ _ hk3).1 (f2 _ _ _ (by omega) hk3)
 ·have hyl : YL w' (fun k => (G k ∨ F2 k) ∧ k ≠ dn ∧ some k ≠ (Value.slice A bs.length c).ownBlock) bs ((kv X.f3 (X.f4.map (toY d))).set (2 * j + 1) (toY d R)) := by
   have hF2b : ∀ k, F2 k → k ≠ dn := fun k q e => by
    rcases hd k q with q | q
    ·exact hF1b k q e
    ·exact q (by rw [e]; exact hF)
   have hF2o : ∀ k, F2 k → some k ≠ (Value.slice A bs.length c).ownBlock := fun k q e => by
    rcases hd k q with q | q
    ·exact hF1o k q e
    ·exact q (hfo k e.symm)
   have hF2s : ∀ i k, i ≠ 2 * j + 1 → F2 k → ¬ Fs i k := fun i k hi q r => by
    rcases hd k q with q | q
    ·exact f2 _ _ k hi r q
    ·exact q (f1 _ k r).1
   refine YL.build (fun i k => if i = 2 * j + 1 then F2 k else Fs i k) (by rw [List.length_set]; omega) (fun i k _ q => ?_) (fun i i' k hii q => ?_) (fun i hi => ?_)
   ·by_cases e : i = 2 * j + 1
    ·rw [if_pos e] at q; exact ⟨.inr q, hF2b k q, hF2o k q⟩
    ·rw [if_neg e] at q; exact ⟨.inl (f1 _ k q).1, (f1 _ k q).2⟩
   ·by_cases e : i = 2 * j + 1
    ·rw [if_pos e] at q
     rw [if_neg (fun e' => hii (by rw [e, e']))]
     exact hF2s _ k (fun e' => hii (by rw [e, e'])) q
    ·rw [if_neg e] at q
     by_cases e' : i' = 2 * j + 1
     ·rw [if_pos e']; exact fun r => hF2s i k e r q
     ·rw [if_neg e']; exact f2 _ _ k hii q
   ·rw [List.length_set] at hi
    by_cases e : i = 2 * j + 1
    ·subst e
     simp only [if_true, List.getElem_set_self]
     exact hR
    ·simp only [if_neg e]
     rw [List.getElem_set_ne (Ne.symm e)]
     exact (f3 i (by omega)).move (fun _ q => q) (fun k q hl => hmv k (f1 _ k q).1 (f2 _ _ k e q) hl)
  rw [kv_set, ← List.map_set] at hyl
  have hno : ∀ k, (Value.slice A bs.length c).ownBlock = some k → ¬ Fs (2 * j + 1) k := fun k hk q => hF1o k q hk.symm
  exact YN.close (.inl hF) ((hmv dn hF (fun q => hF1b dn q rfl) (lt_of_block hn)).trans hn) (own_move ho (fun k hk => hmv k (hfo k hk) (hno k hk) (own_lt ho k hk))) (fun k hk => .inl (hfo k hk)) hyl
def SrcMap (d : Nat) (w : World) (v : Value) (F : Nat → Prop) (Fs : Nat → Nat → Prop) : Option (Nat × S25) → Option (List ByteArray × List Nat) → Prop
 | none, none => v = .pointer none ∧ ∀ i k, ¬ Fs i k
 | some x, some q => ∃ r A g c, v = ptr r ∧ RN w r x.1 ∧ q.1 = x.2.f3 ∧ Mp x.2 ∧ MS w F x.1 x.2.f3 (x.2.f4.map (toY d)) q.2 A g c Fs
 | _, _ => False
theorem SrcMap.inF {d : Nat} {w : World} {v : Value} {F : Nat → Prop} {Fs : Nat → Nat → Prop} {o : Option (Nat × S25)} {q : Option (List ByteArray × List Nat)} (h : SrcMap d w v F Fs o q) : ∀ i k, Fs i k → F k := by
 cases o <;> cases q
 ·exact fun i k r => (h.2 i k r).elim
 ·exact h.elim
 ·exact h.elim
 ·obtain ⟨r, A, g, c, _, _, _, _, hm⟩ := h
  exact hm.inF
theorem SrcMap.apart {d : Nat} {w : World} {v : Value} {F : Nat → Prop} {Fs : Nat → Nat → Prop} {o : Option (Nat × S25)} {q : Option (List ByteArray × List Nat)} (h : SrcMap d w v F Fs o q) : ∀ i j k, i ≠ j → Fs i k → ¬ Fs j k := by
 cases o <;> cases q
 ·exact fun i j k _ r => (h.2 i k r).elim
 ·exact h.elim
 ·exact h.elim
 ·obtain ⟨r, A, g, c, _, _, _, _, hm⟩ := h
  exact hm.apart
theorem SrcMap.sm {d : Nat} {w w' : World} {v : Value} {F S : Nat → Prop} {Fs : Nat → Nat → Prop} {o : Option (Nat × S25)} {q : Option (List ByteArray × List Nat)} (h : SrcMap d w v F Fs o q) (hc : Chg S w w') (hs : ∀ k, S k → F k → ∃ j, Fs j k) (hr : ∀ r, v = ptr r → ¬ S r) : SM w' v q := by
 cases o <;> cases q
 ·exact h.1
 ·exact h.elim
 ·exact h.elim
 ·obtain ⟨r, A, g, c, e, hrn, e2, hmp, hm⟩ := h
  rename_i x q
  obtain ⟨ks, bs⟩ := q
  obtain rfl : ks = x.2.f3 := e2
  exact ⟨r, x.1, A, g, c, e, hrn.move (fun l => hc.block r l (hr r e)), hm.frame hc hs⟩
theorem SrcMap.of {d : Nat} {w : World} {v : Value} {F : Nat → Prop} {o : Option (Nat × S25)} (h : SP (d + 1) w v F o) (hm : ∀ x, o = some x → x.2.f0 = 2 ∧ Fit (d + 1) x.2) : ∃ Fs q, SrcMap d w v F Fs o q := by
 cases o with
 | none => exact ⟨fun _ _ => False, none, h, fun _ _ q => q⟩
 |some x =>
  obtain ⟨r, e, hr, hy⟩ := h
  obtain ⟨h2, hf⟩ := hm x rfl
  have hp := hf.1.mp h2
  rw [toY_two h2] at hy
  have hfew : x.2.f3.length ≤ 1000 := by
   have h1 := (MapOk.of hf.1 h2 hf.2).few
   have h3 := hp.len
   omega
  obtain ⟨bs, A, g, c, Fs, hms⟩ := MS.of (by simpa using hp.len) hfew hy
  exact ⟨Fs, some (x.2.f3, bs), r, A, g, c, e, hr, rfl, hp, hms⟩
theorem SrcMap.at_ {d : Nat} {w w' : World} {v x : Value} {F : Nat → Prop} {Fs : Nat → Nat → Prop} {o : Option (Nat × S25)} {q : Option (List ByteArray × List Nat)} {nm : ByteArray} {base : Nat} (h : SrcMap d w v F Fs o q) (hx : FV w' base nm q x) :
  (olk (sn o) nm = none ∧ x = .pointer none) ∨ ∃ (j vr vb : Nat) (y : S25) (z : S25), olk (sn o) nm = some y ∧ sn o = some z ∧ y ∈ z.f4 ∧ (okeys q)[j]? = some nm ∧ x = ptr vr ∧ RN w' vr vb ∧ base ≤ vr ∧ YN w (Fs j) vb (toY d y) := by
 cases o <;> cases q
 ·rcases hx with hx | ⟨ks, bs, j, vr, e, _⟩
  ·exact .inl ⟨rfl, hx.2⟩
  ·cases e
 ·exact h.elim
 ·exact h.elim
 ·rename_i z q
  obtain ⟨ks, bs⟩ := q
  obtain ⟨r, A, g, c, _, _, e2, hmp, hm⟩ := h
  obtain rfl : ks = z.2.f3 := e2
  rcases hx with hx | ⟨ks, bs', j, vr, e, hj, ex, hr, hb⟩
  ·exact .inl ⟨hmp.none_.2 hx.1, hx.2⟩
  ·cases e
   have hj3 : j < z.2.f3.length := (List.getElem?_eq_some_iff.1 hj).1
   have hj4 : j < z.2.f4.length := by rw [← hmp.len]; exact hj3
   have hl : lk z.2 nm = some z.2.f4[j] := by
    have := hmp.at_ j hj3
    rw [(List.getElem?_eq_some_iff.1 hj).2] at this
    exact this
   have hv := hm.vals j (by simpa using hj4)
   rw [List.getElem_map] at hv
   exact .inr ⟨j, vr, _, z.2.f4[j], z.2, hl, rfl, List.getElem_mem _, hj, ex, hr, hb, hv⟩
structure Env (d : Nat) (w1 : World) (s c r dn : Nat) (vis P : Value) (n m : Nat) (v1 v2 : Value) (FD FO FU : Nat → Prop) (FsO FsU : Nat → Nat → Prop) (sD : Option S25) (oO oU : Option (Nat × S25)) (q1 q2 : Option (List ByteArray × List Nat)) : Prop where
 row : w1.ownsRow 0 42 1 (srcV s c) 3 [ptr r, v1, v2]
 rn : RN w1 r dn
 o : SrcMap d w1 v1 FO FsO oO q1
 u : SrcMap d w1 v2 FU FsU oU q2
 cs : Cs (d + 1) sD (sn oO) (sn oU)
 maps : ∀ x, sD = some x ∨ sn oO = some x ∨ sn oU = some x → x.f0 = 2
 fit : ∀ x, sD = some x ∨ sn oO = some x ∨ sn oU = some x → Fit (d + 1) x
 vis : Vis m vis
 few : n + (d + 1) ≤ 20 ∧ m + (d + 1) ≤ 20
 hDU : ∀ k, FD k → ¬ FU k
 hO : ∀ k, FO k → ¬ FD k ∧ ¬ FU k ∧ P.ownBlock ≠ some k
 hp : ∀ k, P.ownBlock = some k → ¬ FD k ∧ ¬ FU k ∧ k < w1.heap.size
 hr : ∀ q, q = r ∨ v1 = ptr q ∨ v2 = ptr q → ¬ FD q ∧ ¬ FU q ∧ P.ownBlock ≠ some q ∧ q < w1.heap.size
 hs : ¬ FD s ∧ ¬ FU s ∧ P.ownBlock ≠ some s
 lt : ∀ k, FD k ∨ FO k ∨ FU k → k < w1.heap.size
def Used (FsU : Nat → Nat → Prop) (q2 : Option (List ByteArray × List Nat)) (done : ByteArray → Prop) (k : Nat) : Prop := ∃ j a, (okeys q2)[j]? = some a ∧ done a ∧ FsU j k
structure Inv (d : Nat) (w1 : World) (dn : Nat) (P : Value) (n : Nat) (FD : Nat → Prop) (FsU : Nat → Nat → Prop) (sD : Option S25) (oO oU : Option (Nat × S25)) (q2 : Option (List ByteArray × List Nat)) (done : ByteArray → Prop) (cnt : Nat) (w : World) (X : S25) (G : Nat → Prop) : Prop where
 tree : YN w G dn (mapY d X)
 part : Part d sD (sn oO) (sn oU) done X
 liv : ∀ y ∈ X.f4, Live (toY d y).kind (toY d y).tag
 few : X.f3.length ≤ 60 + cnt
 own : ∀ k, G k → FD k ∨ Used FsU q2 done k ∨ w1.heap.size ≤ k
 chg : Chg (fun k => FD k ∨ Used FsU q2 done k ∨ P.ownBlock = some k) w1 w
 path : PathOK w P n
section
variable {d : Nat} {w1 : World} {s c r dn : Nat} {vis P : Value} {n m : Nat} {v1 v2 : Value} {FD FO FU : Nat → Prop} {FsO FsU : Nat → Nat → Prop} {sD : Option S25} {oO oU : Option (Nat × S25)} {q1 q2 : Option (List ByteArray × List Nat)}
theorem Used.inU {done : ByteArray → Prop} {k : Nat} (hE : Env d w1 s c r dn vis P n m v1 v2 FD FO FU FsO FsU sD oO oU q1 q2) (h : Used FsU q2 done k) : FU k := by
 obtain ⟨j, a, _, _, h⟩ := h
 exact hE.u.inF j k h
variable {done : ByteArray → Prop} {cnt : Nat} {w : World} {X : S25} {G : Nat → Prop}
theorem Inv.stay (hE : Env d w1 s c r dn vis P n m v1 v2 FD FO FU FsO FsU sD oO oU q1 q2) (h : Inv d w1 dn P n FD FsU sD oO oU q2 done cnt w X G) {k : Nat} (hk : k < w1.heap.size) (hD : ¬ FD k) (hU : ¬ FU k) (hP : P.ownBlock ≠ some k) : w.heap[k]? = w1.heap[k]? :=
 h.chg.block k hk (fun q => by
  rcases q with q | q | q
  ·exact hD q
  ·exact hU (q.inU hE)
  ·exact hP q)
theorem Inv.st (h : Inv d w1 dn P n FD FsU sD oO oU q2 done cnt w X G) (hc : cnt ≤ 800) : MapSt d w G dn X := ⟨h.tree, h.part.mp, h.liv, by have := h.few; omega⟩
theorem Inv.rn (hE : Env d w1 s c r dn vis P n m v1 v2 FD FO FU FsO FsU sD oO oU q1 q2) (h : Inv d w1 dn P n FD FsU sD oO oU q2 done cnt w X G) : RN w r dn := by
 obtain ⟨a, b, e, f⟩ := hE.hr r (.inl rfl)
 exact hE.rn.move (fun l => h.stay hE l a b e)
theorem Inv.sm1 (hE : Env d w1 s c r dn vis P n m v1 v2 FD FO FU FsO FsU sD oO oU q1 q2) (h : Inv d w1 dn P n FD FsU sD oO oU q2 done cnt w X G) : SM w v1 q1 := by
 refine hE.o.sm h.chg (fun k q r => ?_) (fun q e t => ?_)
 ·obtain ⟨a, b, e⟩ := hE.hO k r
  rcases q with q | q | q
  ·exact absurd q a
  ·exact absurd (q.inU hE) b
  ·exact absurd q e
 ·obtain ⟨a, b, e', f⟩ := hE.hr q (.inr (.inl e))
  rcases t with t | t | t
  ·exact a t
  ·exact b (t.inU hE)
  ·exact e' t
theorem Inv.sm2 (hE : Env d w1 s c r dn vis P n m v1 v2 FD FO FU FsO FsU sD oO oU q1 q2) (h : Inv d w1 dn P n FD FsU sD oO oU q2 done cnt w X G) : SM w v2 q2 := by
 refine hE.u.sm h.chg (fun k q r => ?_) (fun q e t => ?_)
 ·rcases q with q | q | q
  ·exact absurd r (hE.hDU k q)
  ·obtain ⟨j, _, _, _, q⟩ := q; exact ⟨j, q⟩
  ·exact absurd r (hE.hp k q).2.1
 ·obtain ⟨a, b, e', f⟩ := hE.hr q (.inr (.inr e))
  rcases t with t | t | t
  ·exact a t
  ·exact b (t.inU hE)
  ·exact e' t
end
theorem Longer.chg {w w' : World} {P p' : Value} {n : Nat} (h : Longer w w' P p' n) : Chg (fun k => P.ownBlock = some k) w w' := by
 rcases h.2 with ⟨g, cap, rfl, rfl, hg⟩ | ⟨_, hg⟩
 ·exact ⟨hg.os, hg.tape, hg.output, hg.size, fun k hk hn => hg.block k hk (fun e => hn (by rw [Option.some.inj e]; rfl))⟩
 ·exact ⟨hg.os, hg.tape, hg.output, hg.size, fun k hk hn => hg.block k hk (by simp)⟩
theorem own_low {w : World} {base e size n : Nat} {v : Value} {xs : List Value} (h : w.ownsRow base e size v n xs) : w.ownsRow 0 e size v n xs := by
 obtain ⟨h1, h2⟩ := h
 refine ⟨h1, h2.imp id fun ⟨g, cap, cur, a, b, c⟩ => ⟨g, cap, cur, a, Nat.zero_le _, c⟩⟩
theorem Longer.own {w w' : World} {P p' : Value} {n : Nat} (h : Longer w w' P p' n) {k : Nat} (hk : p'.ownBlock = some k) : P.ownBlock = some k ∨ k = w.heap.size := by
 rcases h.2 with ⟨g, cap, rfl, rfl, hg⟩ | ⟨hb, _⟩
 ·exact .inl hk
 ·rw [hb] at hk; exact .inr (Option.some.inj hk).symm
section
variable {d : Nat} {w1 : World} {s c r dn : Nat} {vis P : Value} {n m : Nat} {v1 v2 : Value} {FD FO FU : Nat → Prop} {FsO FsU : Nat → Nat → Prop} {sD : Option S25} {oO oU : Option (Nat × S25)} {q1 q2 : Option (List ByteArray × List Nat)}
variable {done : ByteArray → Prop} {cnt : Nat} {w : World} {X : S25} {G : Nat → Prop}
def IterPost (d : Nat) (w1 : World) (dn : Nat) (P : Value) (n : Nat) (FD : Nat → Prop) (FsU : Nat → Nat → Prop) (sD : Option S25) (oO oU : Option (Nat × S25)) (q2 : Option (List ByteArray × List Nat)) (done : ByteArray → Prop) (cnt : Nat) (e : Ending) (w' : World) : Prop :=
 ∃ (o : Option Nat) (X' : S25) (G' : Nat → Prop), e = .returned (.tuple #[.pointer (o.map fun k => ⟨k, 0, none⟩), .nilIface]) ∧ Inv d w1 dn P n FD FsU sD oO oU q2 done (cnt + 1) w' X' G'
theorem iter (hE : Env d w1 s c r dn vis P n m v1 v2 FD FO FU FsO FsU sD oO oU q1 q2) (h : Inv d w1 dn P n FD FsU sD oO oU q2 done cnt w X G) (hc : cnt ≤ 800) {nm : ByteArray} (hne : nm.toList.isEmpty = false) (hnd : ¬ done nm) (hin : olk sD nm ≠ none ∨ olk (sn oO) nm ≠ none ∨ olk (sn oU) nm ≠ none) :
  ∃ bs A g0 c0, FM w dn X.f3 bs A g0 c0 ∧ ∀ (w2 w3 : World) (g cap base : Nat) (x0 x1 x2 p' : Value), Below w.heap.size w w2 → w.heap.size ≤ base → base ≤ w2.heap.size → w2.ownsRow base 42 1 (srcV g cap) 3 [x0, x1, x2] →
   FV w2 base nm (some (X.f3, bs)) x0 → FV w2 base nm q1 x1 → FV w2 base nm q2 x2 → Longer w2 w3 P p' n →
   ∃ (F1 F2 F3 : Nat → Prop) (oD' oO' oU' : Option (Nat × S25)), Pre d w3 g cap (.iface 63 (.agg (wk vis s c P))) p' (n + 1) (m + 1) x0 x1 x2 F1 F2 F3 oD' oO' oU' ∧
    ∀ (w4 : World) (p : Option Nat), Left d w3 g p' (n + 1) x0 x2 F1 F3 oD' oO' oU' p w4 →
     (∀ k, w.heap.size ≤ k → k < w3.heap.size → k ≠ g → p'.ownBlock ≠ some k → w4.heap[k]? = w3.heap[k]?) ∧ (∀ k, k < w1.heap.size → ¬ FD k → ¬ FU k → P.ownBlock ≠ some k → w4.heap[k]? = w1.heap[k]?) ∧
     FM w4 dn X.f3 bs A g0 c0 ∧ SM w4 v1 q1 ∧ SM w4 v2 q2 ∧ RN w4 r dn ∧ (∀ r', p = some r' → ∃ b, RN w4 r' b) ∧
     ∀ w5, Below w4.heap.size w4 w5 → Calls Tryz.prog 164 #[.agg (fsc nm (.pointer (p.map fun k => ⟨k, 0, none⟩))), ptr r] w5 (IterPost d w1 dn P n FD FsU sD oO oU q2 (fun k => done k ∨ k = nm) cnt) := by
 have hst := (h.st hc).lt
 obtain ⟨bs, A, g0, c0, hfm, hfree, hfoc⟩ := hst.focus
 refine ⟨bs, A, g0, c0, hfm, fun w2 w3 g cap base x0 x1 x2 p' hb2 hbase hbase2 hrow f0 f1 f2 hlo => ?_⟩
 have hs12 := h.chg.size
 have hs2 := hb2.size
 have hc23 := hlo.chg
 have hs3 := hc23.size
 have hPlt : ∀ k, P.ownBlock = some k → k < w1.heap.size := fun k q => (hE.hp k q).2.2
 have hpo : ∀ k, p'.ownBlock = some k → P.ownBlock = some k ∨ k = w2.heap.size := fun k q => hlo.own q
 have hp'out : ∀ k, p'.ownBlock = some k → ¬ FD k ∧ ¬ FU k := fun k q => by
  rcases hpo k q with q | q
  ·exact ⟨(hE.hp k q).1, (hE.hp k q).2.1⟩
  ·exact ⟨fun r => by have := hE.lt k (.inl r); omega, fun r => by have := hE.lt k (.inr (.inr r)); omega⟩
 have hGU : ∀ k, G k → ∀ j a, (okeys q2)[j]? = some a → ¬ done a → ¬ FsU j k := fun k q j a ha hna r => by
  have hu := hE.u.inF j k r
  rcases h.own k q with q | ⟨j', a', ha', hd', q⟩ | q
  ·exact hE.hDU k q hu
  ·have hjj : j' = j := by
    refine Classical.byContradiction fun hne => ?_
    exact hE.u.apart j' j k hne q r
   subst hjj
   rw [ha] at ha'
   obtain rfl := Option.some.inj ha'
   exact hna hd'
  ·have := hE.lt k (.inr (.inr hu)); omega
 have hGP : ∀ k, G k → P.ownBlock ≠ some k := fun k q e => by
  rcases h.own k q with q | q | q
  ·exact (hE.hp k e).1 q
  ·exact (hE.hp k e).2.1 (q.inU hE)
  ·have := hPlt k e; omega
 have hGO : ∀ k, G k → ¬ FO k := fun k q r => by
  obtain ⟨a, b, e⟩ := hE.hO k r
  rcases h.own k q with q | q | q
  ·exact a q
  ·exact b (q.inU hE)
  ·have := hE.lt k (.inr (.inl r)); omega
 have h13 : ∀ k, k < w1.heap.size → ¬ FD k → ¬ Used FsU q2 done k → P.ownBlock ≠ some k → w3.heap[k]? = w1.heap[k]? := fun k hk a b e =>
  ((hc23.block k (by omega) e).trans (hb2.block k (by omega))).trans (h.chg.block k hk (fun q => by
   rcases q with q | q | q
   ·exact a q
   ·exact b q
   ·exact e q))
 have hw3 : ∀ k, k < w.heap.size → P.ownBlock ≠ some k → w3.heap[k]? = w.heap[k]? := fun k hk e => (hc23.block k (by omega) e).trans (hb2.block k hk)
 have hr3 : ∀ {q b : Nat}, RN w2 q b → base ≤ q → RN w3 q b := fun hq hb => hq.move (fun l => hc23.block _ l (fun e => by have := hPlt _ e; omega))
 have hrow3 : w3.ownsRow base 42 1 (srcV g cap) 3 [x0, x1, x2] := own_move hrow (fun k hk => hc23.block k (own_lt hrow k hk) (fun e => by have := hPlt k e; have := own_base hrow k hk; omega))
 have hgb : base ≤ g ∧ g < w2.heap.size := ⟨own_base hrow g rfl, own_lt hrow g rfl⟩
 have hgP : p'.ownBlock ≠ some g := fun e => by
  rcases hpo g e with q | q
  ·have := hPlt g q; omega
  ·omega
 have hrg : ∀ {q b : Nat}, RN w3 q b → q ≠ g := fun {q b} hq e => by
  obtain ⟨cs, hh⟩ := own_typed hrow3 g rfl
  obtain ⟨_, _, _, hq⟩ := hq
  rw [e, hh] at hq
  simp at hq
 have hrP : ∀ {q b : Nat}, RN w2 q b → base ≤ q → p'.ownBlock ≠ some q := fun {q b} hq hb e => by
  have := hq.lt
  rcases hpo q e with t | t
  ·have := hPlt q t; omega
  ·omega
 have hX : (olk sD nm = none ∧ x0 = .pointer none) ∨ ∃ j vr y, X.f3[j]? = some nm ∧ X.f4[j]? = some y ∧ olk sD nm = some y ∧ x0 = ptr vr ∧ RN w2 vr (bs.getD (2 * j + 1) 0) ∧ base ≤ vr := by
  have htd := h.part.todo nm hnd
  rcases f0 with f0 | ⟨ks, bs', j, vr, e, hj, ex, hr, hb⟩
  ·exact .inl ⟨by rw [← htd]; exact h.part.mp.none_.2 f0.1, f0.2⟩
  ·cases e
   have hj3 := (List.getElem?_eq_some_iff.1 hj).1
   have hj4 : j < X.f4.length := by rw [← h.part.mp.len]; exact hj3
   have hl := h.part.mp.at_ j hj3
   rw [(List.getElem?_eq_some_iff.1 hj).2] at hl
   exact .inr ⟨j, vr, X.f4[j], hj, List.getElem?_eq_getElem hj4, by rw [← htd]; exact hl, ex, hr, hb⟩
 have hOx := hE.o.at_ f1
 have hUx := hE.u.at_ f2
 have hcs := hE.cs.sub hE.maps nm
 have hfitD : ∀ y, olk sD nm = some y → Fit d y := fun y e => by
  rcases hsd : sD with _ | D
  ·rw [hsd] at e; cases e
  ·rw [hsd] at e
   have hw := hE.fit D (.inl hsd)
   exact hw.item ((hw.1.mp (hE.maps D (.inl hsd))).mem e).2
 have S0 : ∃ (F1 : Nat → Prop) (oD' : Option (Nat × S25)), SP d w3 x0 F1 oD' ∧ sn oD' = olk sD nm ∧ (∀ k, F1 k → G k ∧ k < w.heap.size) ∧ (∀ vr, x0 = ptr vr → base ≤ vr ∧ ∃ b, RN w2 vr b) ∧
   (∀ w' S, Chg S w w' → (∀ k, S k → G k ∧ k < w.heap.size → F1 k) → FM w' dn X.f3 bs A g0 c0) ∧
   (∀ b D, oD' = some (b, D) → ∃ j, X.f3[j]? = some nm ∧ bs.getD (2 * j + 1) 0 = b ∧ ∀ (w' : World) (F2 : Nat → Prop) (R : S25), YN w' F2 b (toY d R) → (∀ k, G k ∧ k < w.heap.size → ¬ F1 k → k < w.heap.size → w'.heap[k]? = w.heap[k]?) → (∀ k, F2 k → F1 k ∨ ¬ (G k ∧ k < w.heap.size)) →
    YN w' (fun k => (G k ∧ k < w.heap.size) ∨ F2 k) dn (.mk 4 ⟨#[]⟩ ⟨#[]⟩ (kv X.f3 ((X.f4.set j R).map (toY d))))) := by
  rcases hX with ⟨e1, e2⟩ | ⟨j, vr, y, hj, hy, e1, e2, hr, hb⟩
  ·refine ⟨fun _ => False, none, e2, e1.symm, fun k q => q.elim, fun vr e => (by rw [e2] at e; cases e), fun w' S hc hs => hfree w' S hc (fun k q t => hs k q t), fun b D e => (by cases e)⟩
  ·obtain ⟨F1, g1, g2, g3, g4⟩ := hfoc j y hy
   refine ⟨F1, some (_, y), ⟨vr, e2, hr3 hr hb, g2.move (fun _ q => q) (fun k q _ => hw3 k (g1 k q).2 (hGP k (g1 k q).1))⟩, e1.symm, g1, fun vr' e => ?_, g3, fun b D e => ?_⟩
   ·rw [e2] at e
    cases e
    exact ⟨hb, _, hr⟩
   ·cases e
    exact ⟨j, hj, rfl, g4⟩
 have S1 : ∃ (F2 : Nat → Prop) (oO' : Option (Nat × S25)), SP d w3 x1 F2 oO' ∧ sn oO' = olk (sn oO) nm ∧ (∀ k, F2 k → FO k) ∧ (∀ vr, x1 = ptr vr → base ≤ vr ∧ ∃ b, RN w2 vr b) ∧ (∀ y, oO' = some y → Fit d y.2) := by
  rcases hOx with ⟨e1, e2⟩ | ⟨j, vr, vb, y, z, e1, ez, hyz, hj, e2, hr, hb, hy⟩
  ·exact ⟨fun _ => False, none, e2, e1.symm, fun k q => q.elim, fun vr e => (by rw [e2] at e; cases e), fun y e => (by cases e)⟩
  ·refine ⟨FsO j, some (vb, y), ⟨vr, e2, hr3 hr hb, hy.move (fun _ q => q) (fun k q _ => ?_)⟩, e1.symm, fun k q => hE.o.inF j k q, fun vr' e => ?_, fun y' e => ?_⟩
   ·have hk := hE.o.inF j k q
    obtain ⟨a, b, e⟩ := hE.hO k hk
    exact h13 k (hE.lt k (.inr (.inl hk))) a (fun q => b (q.inU hE)) e
   ·rw [e2] at e
    cases e
    exact ⟨hb, _, hr⟩
   ·cases e
    exact (hE.fit z (.inr (.inl ez))).item hyz
 have S2 : ∃ (F3 : Nat → Prop) (oU' : Option (Nat × S25)), SP d w3 x2 F3 oU' ∧ sn oU' = olk (sn oU) nm ∧ (∀ k, F3 k → FU k ∧ Used FsU q2 (fun k => done k ∨ k = nm) k ∧ ¬ G k) ∧ (∀ vr, x2 = ptr vr → base ≤ vr ∧ ∃ b, RN w2 vr b) ∧ (∀ y, oU' = some y → Fit d y.2) := by
  rcases hUx with ⟨e1, e2⟩ | ⟨j, vr, vb, y, z, e1, ez, hyz, hj, e2, hr, hb, hy⟩
  ·exact ⟨fun _ => False, none, e2, e1.symm, fun k q => q.elim, fun vr e => (by rw [e2] at e; cases e), fun y e => (by cases e)⟩
  ·refine ⟨FsU j, some (vb, y), ⟨vr, e2, hr3 hr hb, hy.move (fun _ q => q) (fun k q _ => ?_)⟩, e1.symm, fun k q => ⟨hE.u.inF j k q, ⟨j, nm, hj, .inr rfl, q⟩, fun t => hGU k t j nm hj hnd q⟩, fun vr' e => ?_, fun y' e => ?_⟩
   ·have hk := hE.u.inF j k q
    refine h13 k (hE.lt k (.inr (.inr hk))) (fun t => hE.hDU k t hk) (fun ⟨j', a', ha', hd', t⟩ => ?_) (fun t => (hE.hp k t).2.1 hk)
    have hjj : j' = j := by
     refine Classical.byContradiction fun hne => ?_
     exact hE.u.apart j' j k hne t q
    subst hjj
    rw [hj] at ha'
    obtain rfl := Option.some.inj ha'
    exact hnd hd'
   ·rw [e2] at e
    cases e
    exact ⟨hb, _, hr⟩
   ·cases e
    exact (hE.fit z (.inr (.inr ez))).item hyz
 obtain ⟨F1, oD', sp0, ed, g1, v0r, hfr1, hset⟩ := S0
 obtain ⟨F2, oO', sp1, eo, g2, v1r, fitO⟩ := S1
 obtain ⟨F3, oU', sp2, eu, g3, v2r, fitU⟩ := S2
 have hcs' : Cs d (sn oD') (sn oO') (sn oU') := by rw [ed, eo, eu]; exact hcs
 have hsome : oD'.isSome = true ∨ oU'.isSome = true := by
  rcases hoD : oD' with _ | x
  ·rcases hoU : oU' with _ | y
   ·rw [hoD] at ed
    rw [hoU] at eu
    exfalso
    rw [← ed, ← eu] at hin hcs
    rcases hin with t | t | t
    ·exact t rfl
    ·rcases hz : olk (sn oO) nm with _ | z
     ·exact t hz
     ·rw [hz] at hcs; exact hcs
    ·exact t rfl
   ·exact .inr rfl
  ·exact .inl rfl
 have hvr : ∀ vr, x0 = ptr vr ∨ x1 = ptr vr ∨ x2 = ptr vr → base ≤ vr ∧ ∃ b, RN w2 vr b := fun vr q => by
  rcases q with q | q | q
  ·exact v0r vr q
  ·exact v1r vr q
  ·exact v2r vr q
 have hpre : Pre d w3 g cap (.iface 63 (.agg (wk vis s c P))) p' (n + 1) (m + 1) x0 x1 x2 F1 F2 F3 oD' oO' oU' := by
  refine ⟨own_low hrow3, sp0, sp1, sp2, hcs', hsome, fun x q => ?_, hE.vis.step _ _ _ _ _ _, hlo.1, by have := hE.few; omega, fun k q t => (g3 k t).2.2 (g1 k q).1, fun k q t => ?_, ⟨fun q => ?_, fun q => ?_, hgP⟩, fun k q => ⟨fun t => ?_, fun t => (hp'out k q).2 (g3 k t).1⟩, fun vr q t => ?_⟩
  ·rcases q with q | q | q
   ·refine hfitD x.2 ?_
    rw [← ed, q]
    rfl
   ·exact fitO x q
   ·exact fitU x q
  ·have hk := g2 k q
   obtain ⟨a, b, e⟩ := hE.hO k hk
   have hkl := hE.lt k (.inr (.inl hk))
   rcases t with t | t | t | t
   ·exact hGO k (g1 k t).1 hk
   ·exact b (g3 k t).1
   ·omega
   ·rcases hpo k t with t | t
    ·exact e t
    ·omega
  ·have := (g1 g q).2; omega
  ·have := hE.lt g (.inr (.inr (g3 g q).1)); omega
  ·have hg := g1 k t
   rcases hpo k q with q | q
   ·exact hGP k hg.1 q
   ·omega
  ·obtain ⟨hb, b, hr⟩ := hvr vr q
   rcases t with t | t | t | t
   ·have := (g1 vr t).2; omega
   ·have := hE.lt vr (.inr (.inr (g3 vr t).1)); omega
   ·exact hrg (hr3 hr hb) t
   ·exact hrP hr hb t
 refine ⟨F1, F2, F3, oD', oO', oU', hpre, fun w4 p hleft => ?_⟩
 obtain ⟨hpath4, hcase⟩ := hleft
 have hTe : ∀ k, Terr F1 F3 g p' k → (G k ∧ k < w.heap.size ∧ F1 k) ∨ F3 k ∨ P.ownBlock = some k ∨ w.heap.size ≤ k := fun k t => by
  rcases t with t | t | t | t
  ·exact .inl ⟨(g1 k t).1, (g1 k t).2, t⟩
  ·exact .inr (.inl t)
  ·exact .inr (.inr (.inr (by omega)))
  ·rcases hpo k t with t | t
   ·exact .inr (.inr (.inl t))
   ·exact .inr (.inr (.inr (by omega)))
 have hc34 : Chg (Terr F1 F3 g p') w3 w4 := by
  rcases hcase with ⟨_, _, h3⟩ | ⟨_, _, _, _, _, _, _, _, _, _, ⟨_, _, h3⟩ | ⟨_, h3⟩⟩
  ·exact h3.terr (fun _ q => q.elim) (fun _ q => q)
  ·exact h3
  ·exact h3.terr (fun _ q => q.elim) (fun _ q => q)
 have hs4 := hc34.size
 have hcw4 : Chg (fun k => P.ownBlock = some k ∨ Terr F1 F3 g p' k) w w4 := (((Chg.of_below hb2).trans hc23 (fun k q => .inl q)).mono (fun k q => .inl q)).trans hc34 (fun k q => .inl (.inr q))
 have hUm : ∀ k, Used FsU q2 done k → Used FsU q2 (fun k => done k ∨ k = nm) k := fun k ⟨j, a, h1, h2, h3⟩ => ⟨j, a, h1, .inl h2, h3⟩
 have hc14 : Chg (fun k => FD k ∨ Used FsU q2 (fun k => done k ∨ k = nm) k ∨ P.ownBlock = some k) w1 w4 := (h.chg.mono (fun k q => q.imp id (fun q => q.imp (hUm k) id))).trans hcw4 (fun k q => by
  rcases q with q | q
  ·exact .inl (.inr (.inr q))
  ·rcases hTe k q with q | q | q | q
   ·rcases h.own k q.1 with q | q | q
    ·exact .inl (.inl q)
    ·exact .inl (.inr (.inl (hUm k q)))
    ·exact .inr q
   ·exact .inl (.inr (.inl (g3 k q).2.1))
   ·exact .inl (.inr (.inr q))
   ·exact .inr (by omega))
 have hpath2 : PathOK w2 P n := h.path.move (fun k hk => hb2.block k (by have := hPlt k hk; omega))
 have hP4 : PathOK w4 P n := hlo.back hpath2 hpath4 (fun k hk hnk => by
  have hkl := hPlt k hk
  have h34 : w4.heap[k]? = w3.heap[k]? := hc34.block k (by omega) (fun t => by
   rcases t with t | t | t | t
   ·exact hGP k (g1 k t).1 hk
   ·exact (hE.hp k hk).2.1 (g3 k t).1
   ·omega
   ·exact hnk t)
  rcases hlo.2 with ⟨g', cap', e1, e2, _⟩ | ⟨_, hg⟩
  ·rw [e1] at hk
   rw [e2] at hnk
   exact absurd hk hnk
  ·exact h34.trans (hg.block k (by omega) (by simp)))
 have hB4 : ∀ k, k < w1.heap.size → ¬ FD k → ¬ FU k → P.ownBlock ≠ some k → w4.heap[k]? = w1.heap[k]? := fun k hk a b e => hc14.block k hk (fun q => by
  rcases q with q | ⟨j, _, _, _, q⟩ | q
  ·exact a q
  ·exact b (hE.u.inF j k q)
  ·exact e q)
 have hr4 : RN w4 r dn := hE.rn.move (fun l => by
  obtain ⟨a, b, e, f⟩ := hE.hr r (.inl rfl)
  exact hB4 r l a b e)
 have hfm4 : FM w4 dn X.f3 bs A g0 c0 := hfr1 w4 _ hcw4 (fun k q t => by
  rcases q with q | q
  ·exact absurd q (hGP k t.1)
  ·rcases hTe k q with q | q | q | q
   ·exact q.2.2
   ·exact absurd t.1 (g3 k q).2.2
   ·exact absurd q (hGP k t.1)
   ·omega)
 have hsm1 : SM w4 v1 q1 := hE.o.sm hc14 (fun k q t => by
  obtain ⟨a, b, e⟩ := hE.hO k t
  rcases q with q | ⟨j, _, _, _, q⟩ | q
  ·exact absurd q a
  ·exact absurd (hE.u.inF j k q) b
  ·exact absurd q e) (fun q e t => by
  obtain ⟨a, b, e', f⟩ := hE.hr q (.inr (.inl e))
  rcases t with t | ⟨j, _, _, _, t⟩ | t
  ·exact a t
  ·exact b (hE.u.inF j q t)
  ·exact e' t)
 have hsm2 : SM w4 v2 q2 := hE.u.sm hc14 (fun k q t => by
  rcases q with q | ⟨j, _, _, _, q⟩ | q
  ·exact absurd t (hE.hDU k q)
  ·exact ⟨j, q⟩
  ·exact absurd t (hE.hp k q).2.1) (fun q e t => by
  obtain ⟨a, b, e', f⟩ := hE.hr q (.inr (.inr e))
  rcases t with t | ⟨j, _, _, _, t⟩ | t
  ·exact a t
  ·exact b (hE.u.inF j q t)
  ·exact e' t)
 refine ⟨fun k h1 h2 h3 h4 => hc34.block k h2 (fun t => ?_), hB4, hfm4, hsm1, hsm2, hr4, fun r' e => ?_, fun w5 hb5 => ?_⟩
 ·rcases t with t | t | t | t
  ·have := (g1 k t).2; omega
  ·have := hE.lt k (.inr (.inr (g3 k t).1)); omega
  ·exact h3 t
  ·exact h4 t
 ·rcases hcase with ⟨e2, _⟩ | ⟨r2, b, _, _, e2, _, hr, _⟩
  ·rw [e2] at e; cases e
  ·rw [e2] at e
   cases e
   exact ⟨b, hr⟩
 have close : ∀ (T : Nat → Prop) (res : Option S25) (hres : MR d (sn oD') (sn oO') (sn oU') res) (hT : ∀ k, T k → (G k ∧ k < w.heap.size) ∨ F3 k ∨ w3.heap.size ≤ k) (e : Ending) (w' : World), SetDone d w5 T dn X nm res e w' → IterPost d w1 dn P n FD FsU sD oO oU q2 (fun k => done k ∨ k = nm) cnt e w' := by
  intro T res hres hT e w' ⟨o, G', X', he, ht, hmp, hlv, hlk, hfew, hG', hcT⟩
  rw [ed, eo, eu] at hres
  have hs5 := hb5.size
  have hTl : ∀ k, T k → FD k ∨ Used FsU q2 (fun k => done k ∨ k = nm) k ∨ w1.heap.size ≤ k := fun k q => by
   rcases hT k q with q | q | q
   ·rcases h.own k q.1 with q | q | q
    ·exact .inl q
    ·exact .inr (.inl (hUm k q))
    ·exact .inr (.inr q)
   ·exact .inr (.inl (g3 k q).2.1)
   ·exact .inr (.inr (by omega))
  refine ⟨o, X', G', he, ht, h.part.step hres hmp hlk, hlv, by have := h.few; omega, fun k q => ?_, ?_, hP4.move (fun k hk => ?_)⟩
  ·rcases hG' k q with q | q
   ·exact hTl k q
   ·exact .inr (.inr (by omega))
  ·refine ((hc14.trans (Chg.of_below hb5) (fun _ (q : False) => q.elim))).trans hcT (fun k q => ?_)
   rcases hTl k q with q | q | q
   ·exact .inl (.inl q)
   ·exact .inl (.inr (.inl q))
   ·exact .inr q
  ·have hkl := hPlt k hk
   refine (hcT.block k (by omega) (fun q => ?_)).trans (hb5.block k (by omega))
   rcases hT k q with q | q | q
   ·exact hGP k q.1 hk
   ·exact (hE.hp k hk).2.1 (g3 k q).1
   ·omega
 have hG4 : Chg (Terr (fun _ => False) F3 g p') w3 w4 → MapSt d w5 (fun k => G k ∧ k < w.heap.size) dn X := fun hcc => by
  refine ⟨hst.tree.move (fun _ q => q) (fun k q _ => ?_), hst.mp, hst.liv, hst.few⟩
  refine (hb5.block k (by omega)).trans ((hcc.block k (by omega) (fun t => ?_)).trans (hw3 k q.2 (hGP k q.1)))
  rcases t with t | t | t | t
  ·exact t
  ·exact (g3 k t).2.2 q.1
  ·omega
  ·rcases hpo k t with t | t
   ·exact hGP k q.1 t
   ·omega
 have hr5 : RN w5 r dn := hr4.below hb5
 rcases hcase with ⟨rfl, hmr, hcc⟩ | ⟨rv, b, F, R, rfl, hmr, hrv, hyR, hlR, hrvw, hself⟩
 ·have hnm : nm ∈ X.f3 := by
   rcases hz : olk sD nm with _ | y
   ·exfalso
    rw [ed, eo, eu] at hmr
    rw [hz] at hmr hcs hin
    rcases ho : olk (sn oO) nm with _ | o
    ·rcases hu : olk (sn oU) nm with _ | u
     ·rw [ho, hu] at hin; simp at hin
     ·rw [ho, hu] at hmr
      obtain ⟨R, e, _⟩ := MR.nnu.1 hmr
      cases e
    ·rw [ho] at hcs
     rcases hu : olk (sn oU) nm with _ | u <;> (rw [hu] at hcs; exact hcs.elim)
   ·have := h.part.todo nm hnd
    rw [hz] at this
    exact (h.part.mp.mem this).1
  refine (set_gone (hG4 hcc) hne hr5 hnm).mono (fun e w' hd => close _ none hmr (fun k q => .inl q) e w' hd)
 ·rcases hself with ⟨⟨D, eD⟩, hF, hcc⟩ | ⟨hF, hcc⟩
  ·obtain ⟨j, hj, hvb, hreb⟩ := hset b D eD
   have hFl : ∀ k, F k → F1 k ∨ ¬ (G k ∧ k < w.heap.size) := fun k q => by
    rcases hF k q with q | q | q
    ·exact .inl q
    ·exact .inr (fun t => (g3 k q).2.2 t.1)
    ·exact .inr (fun t => by omega)
   have hy4 := hreb w4 (fun k => F k ∧ k < w4.heap.size) R hyR.lt (fun k q1 q2 _ => (hc34.block k (by omega) (fun t => by
    rcases hTe k t with t | t | t | t
    ·exact q2 t.2.2
    ·exact (g3 k t).2.2 q1.1
    ·exact hGP k q1.1 t
    ·omega)).trans (hw3 k q1.2 (hGP k q1.1))) (fun k q => hFl k q.1)
   refine (set_self (d := d) (X := X) (R := R) (rv := rv) (vb := b) (j := j) h.part.mp h.liv hne hr5 (hfm4.below hb5) hj hvb (hrv.below hb5) (hyR.below hb5) hlR (hy4.below hb5)).mono (fun e w' hd => close _ (some R) hmr (fun k q => ?_) e w' hd)
   rcases q with q | q
   ·exact .inl q
   ·rcases hF k q.1 with q | q | q
    ·exact .inl (g1 k q)
    ·exact .inr (.inl q)
    ·exact .inr (.inr q)
  ·have hrvb : w.heap.size ≤ rv := by
    rcases hrvw with t | t | t
    ·have := (v0r rv t.symm).1; omega
    ·have := (v2r rv t.symm).1; omega
    ·omega
   refine (set_other (Fv := F) (R := R) (hG4 hcc) hne hr5 (hrv.below hb5) (hyR.below hb5) hlR (fun k q t => ?_) (fun t => by omega)).mono (fun e w' hd => close _ (some R) hmr (fun k q => ?_) e w' hd)
   ·rcases hF k t with t | t
    ·exact (g3 k t).2.2 q.1
    ·omega
   ·rcases q with q | q
    ·exact .inl q
    ·rcases hF k q with q | q
     ·exact .inr (.inl q)
     ·exact .inr (.inr q)
end
end Go.Proofs.YtkpdkoafngjflaaGreat
