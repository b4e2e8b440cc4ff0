import Derived.Test.YtkpdkoafngjflaaGreatCut
import Derived.Test.YtkpdkoafngjflaaGreatOpen
import Derived.Test.YtkpdkoafngjflaaGreatRead
namespace Go.Proofs.YtkpdkoafngjflaaGreat
open Go.RowKit Go.Proofs.YtkpdkoafngjflaaGreatW.PrintWords Go.Proofs.YtkpdkoafngjflaaGreatW.PrintLast Go.Proofs.YtkpdkoafngjflaaGreat.PFnFields
set_option linter.unusedVariables false
set_option linter.unusedSimpArgs false
def look : List ByteArray → List S25 → ByteArray → Option S25
 | k :: ks, y :: ys, a => if k = a then some y else look ks ys a
 | _, _, _ => none
theorem look_none : ∀ {ks : List ByteArray} {ys : List S25} {a : ByteArray}, a ∉ ks → look ks ys a = none
 | [], _, _, _ => rfl
 | _ :: _, [], _, _ => rfl
 |k :: ks, y :: ys, a, h => by
  simp only [List.mem_cons, not_or] at h
  simp only [look]
  rw [if_neg (fun e => h.1 e.symm)]
  exact look_none h.2
theorem look_at : ∀ {ks : List ByteArray} {ys : List S25} {a : ByteArray} {y : S25} (j : Nat), ks.Nodup → ks[j]? = some a → ys[j]? = some y → look ks ys a = some y
 | [], _, _, _, j, _, h, _ => by simp at h
 | _ :: _, [], _, _, j, _, _, h => by simp at h
 |k :: ks, z :: ys, a, y, 0, _, h1, h2 => by
  obtain rfl : k = a := by simpa using h1
  obtain rfl : z = y := by simpa using h2
  simp [look]
 |k :: ks, z :: ys, a, y, j + 1, hd, h1, h2 => by
  have h1' : ks[j]? = some a := by simpa using h1
  have hne : ¬ k = a := fun e => (List.nodup_cons.1 hd).1 (by rw [e]; exact List.mem_of_getElem? h1')
  simp only [look]
  rw [if_neg hne]
  exact look_at j (List.nodup_cons.1 hd).2 h1' (by simpa using h2)
theorem look_some : ∀ {ks : List ByteArray} {ys : List S25} {a : ByteArray} {y : S25}, look ks ys a = some y → ∃ j : Nat, ks[j]? = some a ∧ ys[j]? = some y
 | [], _, _, _, h => by simp [look] at h
 | _ :: _, [], _, _, h => by simp [look] at h
 |k :: ks, z :: ys, a, y, h => by
  simp only [look] at h
  split at h
  ·next e => exact ⟨0, by simpa using e, by simpa using h⟩
  ·obtain ⟨j, h1, h2⟩ := look_some h
   exact ⟨j + 1, by simpa using h1, by simpa using h2⟩
theorem look_wo (nm : ByteArray) : ∀ (ks : List ByteArray) (ys : List S25) (a : ByteArray), look (woK nm ks) (woI nm ks ys) a = if a = nm then none else look ks ys a
 | [], ys, a => by simp [woK, woI, look]
 |k :: ks, [], a => by
  rw [show look (k :: ks) [] a = none from rfl]
  have : ∀ l : List ByteArray, look l ([] : List S25) a = none := fun l => by cases l <;> rfl
  rw [show woI nm (k :: ks) ([] : List S25) = [] from rfl, this]
  simp
 |k :: ks, y :: ys, a => by
  have ih := look_wo nm ks ys a
  simp only [woK, woI]
  by_cases hk : k = nm
  ·rw [if_pos hk, if_pos hk, ih]
   by_cases ha : a = nm
   ·rw [if_pos ha, if_pos ha]
   ·rw [if_neg ha, if_neg ha]
    simp only [look]
    rw [if_neg (fun e => ha (by rw [← e, hk]))]
  ·rw [if_neg hk, if_neg hk]
   simp only [look]
   by_cases hka : k = a
   ·rw [if_pos hka, if_neg (fun e => hk (by rw [hka, e])), if_pos hka]
   ·rw [if_neg hka, if_neg hka, ih]
theorem look_set : ∀ (ks : List ByteArray) (ys : List S25) (j : Nat) (nm : ByteArray) (v : S25) (a : ByteArray), ks.length = ys.length → ks.Nodup → ks[j]? = some nm → look ks (ys.set j v) a = if a = nm then some v else look ks ys a
 | [], ys, j, nm, v, a, _, _, h => by simp at h
 | k :: ks, [], j, nm, v, a, h, _, _ => by simp at h
 |k :: ks, y :: ys, 0, nm, v, a, _, hd, h => by
  obtain rfl : k = nm := by simpa using h
  simp only [List.set_cons_zero, look]
  by_cases ha : k = a
  ·rw [if_pos ha, if_pos ha.symm]
  ·rw [if_neg ha, if_neg (fun e => ha e.symm), if_neg ha]
 |k :: ks, y :: ys, j + 1, nm, v, a, hl, hd, h => by
  have h1' : ks[j]? = some nm := by simpa using h
  have hne : ¬ k = nm := fun e => (List.nodup_cons.1 hd).1 (by rw [e]; exact List.mem_of_getElem? h1')
  have ih := look_set ks ys j nm v a (by simpa using hl) (List.nodup_cons.1 hd).2 h1'
  simp only [List.set_cons_succ, look]
  by_cases ha : k = a
  ·rw [if_pos ha, if_neg (fun e => hne (by rw [ha, e])), if_pos ha]
  ·rw [if_neg ha, if_neg ha, ih]
theorem look_push : ∀ (ks : List ByteArray) (ys : List S25) (nm : ByteArray) (v : S25) (a : ByteArray), ks.length = ys.length → nm ∉ ks → look (ks ++ [nm]) (ys ++ [v]) a = if a = nm then some v else look ks ys a
 |[], [], nm, v, a, _, _ => by
  simp only [List.nil_append, look]
  by_cases ha : nm = a
  ·rw [if_pos ha, if_pos ha.symm]
  ·rw [if_neg ha, if_neg (fun e => ha e.symm)]
 | [], _ :: _, _, _, _, h, _ => by simp at h
 | _ :: _, [], _, _, _, h, _ => by simp at h
 |k :: ks, y :: ys, nm, v, a, hl, hn => by
  simp only [List.mem_cons, not_or] at hn
  have ih := look_push ks ys nm v a (by simpa using hl) hn.2
  simp only [List.cons_append, look]
  by_cases ha : k = a
  ·rw [if_pos ha, if_neg (fun e => hn.1 (by rw [ha, e])), if_pos ha]
  ·rw [if_neg ha, if_neg ha, ih]
def lk (x : S25) (k : ByteArray) : Option S25 := if x.f0 = 2 then look x.f3 x.f4 k else none
structure Mp (x : S25) : Prop where
 kind : x.f0 = 2
 text : x.f1 = ⟨#[]⟩
 tag : x.f2 = ⟨#[]⟩
 len : x.f3.length = x.f4.length
 nodup : x.f3.Nodup
theorem Wf.mp {d : Nat} {x : S25} (h : Wf (d + 1) x) (h2 : x.f0 = 2) : Mp x := by
 rcases h with ⟨h1, _⟩ | ⟨ht, hg, _, _, ⟨_, hk, _, hn⟩ | ⟨h3, _⟩⟩
 ·omega
 ·exact ⟨h2, ht, hg, hk, hn⟩
 ·omega
theorem Mp.lk_of {x : S25} (h : Mp x) (k : ByteArray) : lk x k = look x.f3 x.f4 k := if_pos h.kind
theorem Mp.mem {x : S25} (h : Mp x) {k : ByteArray} {y : S25} (e : lk x k = some y) : k ∈ x.f3 ∧ y ∈ x.f4 := by
 rw [h.lk_of] at e
 obtain ⟨j, h1, h2⟩ := look_some e
 exact ⟨List.mem_of_getElem? h1, List.mem_of_getElem? h2⟩
theorem Mp.at_ {x : S25} (h : Mp x) (i : Nat) (hi : i < x.f3.length) : lk x x.f3[i] = some (x.f4[i]'(by rw [← h.len]; exact hi)) := by
 rw [h.lk_of]
 exact look_at i h.nodup (List.getElem?_eq_getElem hi) (List.getElem?_eq_getElem _)
theorem Mp.none_ {x : S25} (h : Mp x) {k : ByteArray} : lk x k = none ↔ k ∉ x.f3 := by
 rw [h.lk_of]
 refine ⟨fun e hk => ?_, look_none⟩
 obtain ⟨i, hi, rfl⟩ := List.getElem_of_mem hk
 rw [look_at i h.nodup (List.getElem?_eq_getElem hi) (List.getElem?_eq_getElem (by rw [← h.len]; exact hi))] at e
 cases e
theorem Mp.some_ {x : S25} (h : Mp x) {k : ByteArray} (hk : k ∈ x.f3) : ∃ y, lk x k = some y := by
 cases e : lk x k with
 | none => exact absurd hk (h.none_.1 e)
 | some y => exact ⟨y, rfl⟩
theorem Mp.field {x : S25} (h : Mp x) {k : ByteArray} {y : S25} (e : lk x k = some y) : has k x = true ∧ spField x k = y := by
 rw [h.lk_of] at e
 obtain ⟨j, h1, h2⟩ := look_some e
 exact ⟨has_iff.2 ⟨h.kind, List.mem_of_getElem? h1⟩, spField_at h.kind h.nodup h1 h2⟩
theorem Mp.nofield {x : S25} (h : Mp x) {k : ByteArray} (e : lk x k = none) : has k x = false := by
 rw [← Bool.not_eq_true]
 exact fun q => h.none_.1 e (has_iff.1 q).2
theorem Mp.wi {x : S25} (h : Mp x) (nm : ByteArray) (v : S25) : Mp (wi x nm v) ∧ ∀ k, lk (Go.Proofs.YtkpdkoafngjflaaGreat.wi x nm v) k = if k = nm then some v else lk x k := by
 by_cases hm : nm ∈ x.f3
 ·obtain ⟨j, hj, e⟩ := List.getElem_of_mem hm
  have he : x.f3[j]? = some nm := by rw [List.getElem?_eq_getElem hj, e]
  rw [wi_at h.nodup he]
  have hp : Mp ⟨2, ⟨#[]⟩, ⟨#[]⟩, x.f3, x.f4.set j v⟩ := ⟨rfl, rfl, rfl, by simpa using h.len, h.nodup⟩
  exact ⟨hp, fun k => by rw [hp.lk_of, h.lk_of]; exact look_set _ _ j nm v k h.len h.nodup he⟩
 ·rw [wi_new hm]
  have hp : Mp ⟨2, ⟨#[]⟩, ⟨#[]⟩, x.f3 ++ [nm], x.f4 ++ [v]⟩ := ⟨rfl, rfl, rfl, by simp [h.len], by
   rw [List.nodup_append]; exact ⟨h.nodup, by simp, fun a ha b hb e => hm (by rw [← List.mem_singleton.1 hb, ← e]; exact ha)⟩⟩
  exact ⟨hp, fun k => by rw [hp.lk_of, h.lk_of]; exact look_push _ _ nm v k h.len hm⟩
def wx (x : S25) (nm : ByteArray) : S25 := ⟨2, ⟨#[]⟩, ⟨#[]⟩, woK nm x.f3, woI nm x.f3 x.f4⟩
theorem Mp.wx {x : S25} (h : Mp x) (nm : ByteArray) : Mp (wx x nm) ∧ ∀ k, lk (Go.Proofs.YtkpdkoafngjflaaGreat.wx x nm) k = if k = nm then none else lk x k := by
 have hp : Mp (Go.Proofs.YtkpdkoafngjflaaGreat.wx x nm) := ⟨rfl, rfl, rfl, (woI_len nm _ _ h.len).symm, woK_nodup nm _ h.nodup⟩
 exact ⟨hp, fun k => by rw [hp.lk_of, h.lk_of]; exact look_wo nm _ _ k⟩
def smD (loose : Bool) : Nat → S25 → S25 → Bool
 | 0, _, _ => false
 | d + 1, a, b => decide (a.f0 = b.f0) && decide (a.f1 = b.f1) && (!decide (a.f0 = 1) || decide (a.f2 = b.f2)) && decide (a.f3.length = b.f3.length) && decide (a.f4.length = b.f4.length) &&
   (List.range a.f4.length).all fun i => (if a.f0 = 2 then decide (0 ≤ plc b.f3 (a.f3.getD i ByteArray.empty)) && (loose || decide (plc b.f3 (a.f3.getD i ByteArray.empty) = i)) && smD loose d (a.f4.getD i z25) (b.f4.getD (plc b.f3 (a.f3.getD i ByteArray.empty)).toNat z25) else smD loose d (a.f4.getD i z25) (b.f4.getD i z25))
def Lq : Nat → S25 → S25 → Prop
 | 0, _, _ => False
 | d + 1, a, b => a.f0 = b.f0 ∧ a.f1 = b.f1 ∧ a.f2 = b.f2 ∧ a.f3.length = b.f3.length ∧ a.f4.length = b.f4.length ∧ (a.f0 = 2 → Mp a ∧ Mp b ∧ ∀ k y, lk a k = some y → ∃ z, lk b k = some z ∧ Lq d y z) ∧
   (a.f0 ≠ 2 → ∀ (i : Nat) (h1 : i < a.f4.length) (h2 : i < b.f4.length), Lq d a.f4[i] b.f4[i])
theorem Lq.refl : ∀ {d : Nat} {x : S25}, Wf d x → Lq d x x
 | 0, _, h => h.elim
 | d + 1, x, h => ⟨rfl, rfl, rfl, rfl, rfl, fun h2 => ⟨h.mp h2, h.mp h2, fun k y e => ⟨y, e, Lq.refl (h.items y ((h.mp h2).mem e).2)⟩⟩, fun _ i h1 _ => Lq.refl (h.items _ (List.getElem_mem h1))⟩
theorem Lq.sm : ∀ {d : Nat} {a b : S25}, Lq d a b → smD true d a b = true
 | 0, _, _, h => h.elim
 |d + 1, a, b, ⟨h0, h1, h2, h3, h4, hm, hl⟩ => by
  simp only [smD, h0, h1, h2, h3, h4, decide_true, Bool.true_and, Bool.or_true, List.all_eq_true, List.mem_range, Bool.true_or, Bool.and_true]
  intro i hi
  by_cases hk : b.f0 = 2
  ·obtain ⟨pa, pb, hf⟩ := hm (by rw [h0]; exact hk)
   rw [if_pos hk]
   have hi3 : i < a.f3.length := by rw [pa.len, h4]; exact hi
   have hi4 : i < a.f4.length := by rw [h4]; exact hi
   obtain ⟨z, hz, hq⟩ := hf _ _ (pa.at_ i hi3)
   rw [pb.lk_of] at hz
   obtain ⟨j, e1, e2⟩ := look_some hz
   obtain ⟨hj, e1'⟩ := List.getElem?_eq_some_iff.1 e1
   have hp : plc b.f3 (a.f3.getD i ByteArray.empty) = j := by
    rw [List.getD_eq_getElem?_getD, List.getElem?_eq_getElem hi3, Option.getD_some, ← e1']
    exact plc_nodup pb.nodup j hj
   rw [hp, List.getD_eq_getElem?_getD, List.getElem?_eq_getElem hi4, Int.toNat_natCast, List.getD_eq_getElem?_getD, e2]
   simp only [Option.getD_some]
   rw [hq.sm]
   simp
  ·rw [if_neg hk]
   have hi4 : i < a.f4.length := by rw [h4]; exact hi
   rw [List.getD_eq_getElem?_getD, List.getElem?_eq_getElem hi4, List.getD_eq_getElem?_getD, List.getElem?_eq_getElem hi]
   exact (hl (by rw [h0]; exact hk) i hi4 hi).sm
theorem Word.not_num {s : ByteArray} (h : Word s) (q : Num s) : False := by
 have h1 := h.first.1
 have h2 := (q.all 0 (Int.le_refl _) (by have := q.pos; omega)).2
 omega
theorem Sc.one {t g h : ByteArray} (h1 : Sc t g) (h2 : Sc t h) : g = h := by
 rcases h1 with ⟨a, b⟩ | ⟨a, b⟩ <;> rcases h2 with ⟨c, e⟩ | ⟨c, e⟩
 ·exact bytes_ext (a.trans c.symm)
 ·exact absurd e b.not_num
 ·exact absurd b e.not_num
 ·exact bytes_ext (a.trans c.symm)
theorem list_ext_getD {α : Type} {l m : List α} (h : l.length = m.length) (hi : ∀ (i : Nat) (h1 : i < l.length) (h2 : i < m.length), l[i] = m[i]) : l = m := List.ext_getElem h hi
theorem smD_eq : ∀ {d : Nat} {a b : S25}, Wf d a → Wf d b → smD false d a b = true → a = b
 | 0, _, _, h, _, _ => h.elim
 |d + 1, a, b, ha, hb, h => by
  simp only [smD, Bool.and_eq_true, Bool.or_eq_true, decide_eq_true_eq, List.all_eq_true, List.mem_range, Bool.not_eq_true', decide_eq_false_iff_not, Bool.false_eq_true, false_or] at h
  obtain ⟨⟨⟨⟨⟨h0, h1⟩, h2⟩, h3⟩, h4⟩, hi⟩ := h
  have key : ∀ (e2 : a.f2 = b.f2) (e3 : a.f3 = b.f3) (e4 : a.f4 = b.f4), a = b := fun e2 e3 e4 => by
   obtain ⟨x0, x1, x2, x3, x4⟩ := a
   obtain ⟨y0, y1, y2, y3, y4⟩ := b
   simp only at h0 h1 e2 e3 e4
   subst h0 h1 e2 e3 e4
   rfl
  have hwa := ha
  have hwb := hb
  rcases ha with ⟨k1, a3, a4, sa⟩ | ⟨at_, ag, _, ai, ⟨k2, al, _, an⟩ | ⟨k3, a3⟩⟩
  ·rcases hb with ⟨_, b3, b4, sb⟩ | ⟨_, _, _, _, ⟨q, _⟩ | ⟨q, _⟩⟩
   ·refine key ?_ (by rw [a3, b3]) (by rw [a4, b4])
    rcases h2 with h2 | h2
    ·exact absurd k1 h2
    ·exact h2
   ·omega
   ·omega
  ·have pb := hwb.mp (by omega)
   have pa := hwa.mp k2
   have e2 : a.f2 = b.f2 := by rw [pa.tag, pb.tag]
   have hall : ∀ i (h1 : i < a.f4.length), plc b.f3 (a.f3.getD i ByteArray.empty) = i ∧ smD false d (a.f4.getD i z25) (b.f4.getD i z25) = true := fun i hi4 => by
    have := hi i hi4
    rw [if_pos k2] at this
    simp only [Bool.and_eq_true, Bool.false_or, decide_eq_true_eq] at this
    obtain ⟨⟨q1, q2⟩, q3⟩ := this
    refine ⟨q2, ?_⟩
    rw [q2, Int.toNat_natCast] at q3
    exact q3
   refine key e2 (list_ext_getD h3 fun i i1 i2 => ?_) (list_ext_getD h4 fun i i1 i2 => ?_)
   ·obtain ⟨q1, _⟩ := hall i (by rw [← pa.len]; exact i1)
    obtain ⟨j, e, hj, he⟩ := plc_pos b.f3 _ (by rw [q1]; exact Int.natCast_nonneg i)
    rw [q1] at e
    have e' : i = j := by omega
    subst e'
    rw [List.getD_eq_getElem?_getD, List.getElem?_eq_getElem i1] at he
    exact he.symm
   ·obtain ⟨_, q2⟩ := hall i i1
    rw [List.getD_eq_getElem?_getD, List.getElem?_eq_getElem i1, List.getD_eq_getElem?_getD, List.getElem?_eq_getElem i2] at q2
    exact smD_eq (ai _ (List.getElem_mem _)) (hwb.items _ (List.getElem_mem _)) q2
  ·rcases hb with ⟨q, _⟩ | ⟨bt_, bg, _, bi, ⟨q, _⟩ | ⟨q, b3⟩⟩
   ·omega
   ·omega
   ·refine key (by rw [ag, bg]) (by rw [a3, b3]) (list_ext_getD h4 fun i i1 i2 => ?_)
    have := hi i i1
    rw [if_neg (by omega), List.getD_eq_getElem?_getD, List.getElem?_eq_getElem i1, List.getD_eq_getElem?_getD, List.getElem?_eq_getElem i2] at this
    exact smD_eq (ai _ (List.getElem_mem _)) (bi _ (List.getElem_mem _)) this
theorem smD_refl : ∀ {d : Nat} {a : S25}, Wf d a → smD false d a a = true
 | 0, _, h => h.elim
 |d + 1, a, h => by
  simp only [smD, decide_true, Bool.true_and, Bool.or_true, List.all_eq_true, List.mem_range]
  intro i hi
  by_cases hk : a.f0 = 2
  ·have pa := h.mp hk
   have hi3 : i < a.f3.length := by rw [pa.len]; exact hi
   rw [if_pos hk]
   have hp : plc a.f3 (a.f3.getD i ByteArray.empty) = i := by
    rw [List.getD_eq_getElem?_getD, List.getElem?_eq_getElem hi3, Option.getD_some]
    exact plc_nodup pa.nodup i hi3
   rw [hp, Int.toNat_natCast, List.getD_eq_getElem?_getD, List.getElem?_eq_getElem hi, Option.getD_some, smD_refl (h.items _ (List.getElem_mem _))]
   simp
  ·rw [if_neg hk, List.getD_eq_getElem?_getD, List.getElem?_eq_getElem hi, Option.getD_some]
   exact smD_refl (h.items _ (List.getElem_mem _))
def thO (th : S25 → S25 → S25 → S25) (D U : S25) : List (ByteArray × S25) → S25 → S25
 | [], out => out
 | (k, o) :: r, out => thO th D U r (if has k U then (if has k D then wi out k (th (spField D k) o (spField U k)) else out) else wx out k)
def thU (O : S25) : List (ByteArray × S25) → S25 → S25
 | [], out => out
 | (k, u) :: r, out => thU O r (if 0 ≤ plc O.f3 k then out else wi out k u)
def thD : Nat → S25 → S25 → S25 → S25
 | 0, D, _, _ => D
 | d + 1, D, O, U => if D.f0 = 2 then thU O (U.f3.zip U.f4) (thO (thD d) D U (O.f3.zip O.f4) D) else if smD false (d + 1) U O then D else U
theorem thO_lk (th : S25 → S25 → S25 → S25) (D U : S25) : ∀ (ks : List ByteArray) (os : List S25) (out : S25), Mp out → ks.Nodup → Mp (thO th D U (ks.zip os) out) ∧
  ∀ k, lk (thO th D U (ks.zip os) out) k = match look ks os k with
   | some o => if has k U then (if has k D then some (th (spField D k) o (spField U k)) else lk out k) else none
   | none => lk out k
 | [], os, out, h, _ => ⟨h, fun k => by simp only [List.zip_nil_left, thO, look]⟩
 | _ :: _, [], out, h, _ => ⟨h, fun k => by simp only [List.zip_nil_right, thO, look]⟩
 |a :: ks, o :: os, out, h, hd => by
  have hd' := List.nodup_cons.1 hd
  have hstep : ∃ out', thO th D U ((a :: ks).zip (o :: os)) out = thO th D U (ks.zip os) out' ∧ Mp out' ∧ ∀ k, lk out' k = if k = a then (if has a U then (if has a D then some (th (spField D a) o (spField U a)) else lk out a) else none) else lk out k := by
   refine ⟨_, rfl, ?_⟩
   by_cases hu : has a U = true
   ·by_cases hdd : has a D = true
    ·simp only [hu, hdd, if_true]
     exact h.wi a _
    ·simp only [hu, hdd, if_true, if_false, Bool.false_eq_true]
     exact ⟨h, fun k => by split; (next e => rw [e]); rfl⟩
   ·simp only [hu, if_false, Bool.false_eq_true]
    exact h.wx a
  obtain ⟨out', e1, h', hl⟩ := hstep
  obtain ⟨h2, h3⟩ := thO_lk th D U ks os out' h' hd'.2
  rw [e1]
  refine ⟨h2, fun k => ?_⟩
  rw [h3]
  by_cases hk : a = k
  ·subst hk
   rw [look_none hd'.1]
   simp only [look, if_true]
   rw [hl, if_pos rfl]
  ·simp only [look]
   rw [if_neg hk, hl, if_neg (fun e => hk e.symm)]
theorem thU_lk (O : S25) : ∀ (ks : List ByteArray) (us : List S25) (out : S25), Mp out → ks.Nodup → Mp (thU O (ks.zip us) out) ∧
  ∀ k, lk (thU O (ks.zip us) out) k = match look ks us k with
   | some u => if 0 ≤ plc O.f3 k then lk out k else some u
   | none => lk out k
 | [], us, out, h, _ => ⟨h, fun k => by simp only [List.zip_nil_left, thU, look]⟩
 | _ :: _, [], out, h, _ => ⟨h, fun k => by simp only [List.zip_nil_right, thU, look]⟩
 |a :: ks, u :: us, out, h, hd => by
  have hd' := List.nodup_cons.1 hd
  have hstep : ∃ out', thU O ((a :: ks).zip (u :: us)) out = thU O (ks.zip us) out' ∧ Mp out' ∧ ∀ k, lk out' k = if k = a then (if 0 ≤ plc O.f3 a then lk out a else some u) else lk out k := by
   refine ⟨_, rfl, ?_⟩
   by_cases hp : 0 ≤ plc O.f3 a
   ·simp only [if_pos hp]
    exact ⟨h, fun k => by split; (next e => rw [e]); rfl⟩
   ·simp only [if_neg hp]
    exact h.wi a _
  obtain ⟨out', e1, h', hl⟩ := hstep
  obtain ⟨h2, h3⟩ := thU_lk O ks us out' h' hd'.2
  rw [e1]
  refine ⟨h2, fun k => ?_⟩
  rw [h3]
  by_cases hk : a = k
  ·subst hk
   rw [look_none hd'.1]
   simp only [look, if_true]
   rw [hl, if_pos rfl]
  ·simp only [look]
   rw [if_neg hk, hl, if_neg (fun e => hk e.symm)]
theorem len_le : ∀ {l m : List ByteArray}, l.Nodup → (∀ a ∈ l, a ∈ m) → l.length ≤ m.length
 | [], _, _, _ => Nat.zero_le _
 |a :: l, m, hd, h => by
  have hd' := List.nodup_cons.1 hd
  obtain ⟨m1, m2, rfl⟩ := List.append_of_mem (h a (List.mem_cons_self ..))
  have ih : l.length ≤ (m1 ++ m2).length := len_le hd'.2 fun b hb => by
   have := h b (List.mem_cons_of_mem _ hb)
   rcases List.mem_append.1 this with q | q
   ·exact List.mem_append.2 (.inl q)
   ·rcases List.mem_cons.1 q with q | q
    ·rw [q] at hb; exact absurd hb hd'.1
    ·exact List.mem_append.2 (.inr q)
  simp only [List.length_append, List.length_cons] at ih ⊢
  omega
theorem Lq.map {d : Nat} {a b : S25} (ha : Mp a) (hb : Mp b) (h1 : ∀ k y, lk a k = some y → ∃ z, lk b k = some z ∧ Lq d y z) (h2 : ∀ k, lk a k = none → lk b k = none) : Lq (d + 1) a b := by
 have l1 : a.f3.length ≤ b.f3.length := len_le ha.nodup fun k hk => by
  obtain ⟨y, e⟩ := ha.some_ hk
  obtain ⟨z, e2, _⟩ := h1 k y e
  exact (hb.mem e2).1
 have l2 : b.f3.length ≤ a.f3.length := len_le hb.nodup fun k hk => by
  refine Classical.byContradiction fun q => ?_
  exact hb.none_.1 (h2 k (ha.none_.2 q)) hk
 exact ⟨by rw [ha.kind, hb.kind], by rw [ha.text, hb.text], by rw [ha.tag, hb.tag], by omega, by have := ha.len; have := hb.len; omega, fun _ => ⟨ha, hb, h1⟩, fun q => absurd ha.kind q⟩
def OK3 : Nat → S25 → S25 → S25 → Prop
 | 0, _, _, _ => False
 | d + 1, D, O, U => Wf (d + 1) D ∧ Wf (d + 1) O ∧ Wf (d + 1) U ∧ D.f0 = O.f0 ∧ D.f0 = U.f0 ∧ (D.f0 = 2 → ∀ k,
   (∀ o, lk O k = some o → ∃ m, lk D k = some m) ∧ (∀ m o, lk D k = some m → lk O k = some o → lk U k = none → m.f0 = 1 ∧ o.f0 = 1) ∧
   (∀ m u, lk D k = some m → lk U k = some u → ∃ o, lk O k = some o) ∧ (∀ m o u, lk D k = some m → lk O k = some o → lk U k = some u → OK3 d m o u))
def MR : Nat → Option S25 → Option S25 → Option S25 → Option S25 → Prop
 | _, none, none, none, r => r = none
 | _, some _, some _, none, r => r = none
 | d, some D, none, none, r => ∃ R, r = some R ∧ Lq d R D
 | d, none, none, some U, r => ∃ R, r = some R ∧ Lq d R U
 | d + 1, some D, some O, some U, r => ∃ R, r = some R ∧ ((D.f0 ≠ 2 ∧ R = if smD false (d + 1) U O then D else U) ∨ (D.f0 = 2 ∧ Mp R ∧ ∀ k, MR d (lk D k) (lk O k) (lk U k) (lk R k)))
 | _, _, _, _, _ => False
theorem OK3.wf {d : Nat} {D O U : S25} (h : OK3 d D O U) : Wf d D ∧ Wf d O ∧ Wf d U := by
 cases d with
 | zero => exact h.elim
 | succ d => exact ⟨h.1, h.2.1, h.2.2.1⟩
theorem MR.three : ∀ {d : Nat} {D O U R : S25}, OK3 d D O U → MR d (some D) (some O) (some U) (some R) → Lq d R (thD d D O U)
 | 0, _, _, _, _, h, _ => h.elim
 |d + 1, D, O, U, R, h, hm => by
  obtain ⟨wd, wo, wu, e1, e2, hk⟩ := h
  obtain ⟨R', e, hm⟩ := hm
  obtain rfl := Option.some.inj e
  rcases hm with ⟨n2, rfl⟩ | ⟨k2, pr, hf⟩
  ·rw [show thD (d + 1) D O U = if smD false (d + 1) U O then D else U from by unfold thD; rw [if_neg n2]]
   split
   ·exact Lq.refl wd
   ·exact Lq.refl wu
  ·have pd := wd.mp k2
   have po := wo.mp (by omega)
   have pu := wu.mp (by omega)
   have ht : thD (d + 1) D O U = thU O (U.f3.zip U.f4) (thO (thD d) D U (O.f3.zip O.f4) D) := by
    conv => lhs; unfold thD
    rw [if_pos k2]
   obtain ⟨p1, l1⟩ := thO_lk (thD d) D U O.f3 O.f4 D pd po.nodup
   obtain ⟨p2, l2⟩ := thU_lk O U.f3 U.f4 _ p1 pu.nodup
   rw [ht]
   have hl : ∀ k, lk (thU O (U.f3.zip U.f4) (thO (thD d) D U (O.f3.zip O.f4) D)) k = match lk U k, lk O k, lk D k with
     | some u, some o, some m => some (thD d m o u)
     | some u, none, _ => some u
     | none, some _, _ => none
     | none, none, m => m
     | some _, some _, none => none := fun k => by
    rw [l2, l1, ← pu.lk_of, ← po.lk_of]
    cases eu : lk U k with
    |none =>
     cases eo : lk O k with
     | none => simp only [eo]
     | some o => simp only [eo, pu.nofield eu]; rfl
    |some u =>
     cases eo : lk O k with
     |none =>
      have hn : ¬ 0 ≤ plc O.f3 k := fun q => po.none_.1 eo (plc_iff.1 q)
      simp only [eo, if_neg hn]
     |some o =>
      have hp : 0 ≤ plc O.f3 k := plc_iff.2 (po.mem eo).1
      obtain ⟨m, em⟩ := (hk k2 k).1 o eo
      obtain ⟨q1, q2⟩ := pu.field eu
      obtain ⟨q3, q4⟩ := pd.field em
      simp only [eo, if_pos hp, em, q1, q2, q3, q4, if_true]
   refine Lq.map pr p2 (fun k y ey => ?_) (fun k ey => ?_)
   ·have hm := hf k
    obtain ⟨c1, c2, c3, c4⟩ := hk k2 k
    rw [hl]
    rw [ey] at hm
    cases ed : lk D k with
    |none =>
     cases eo : lk O k with
     |none =>
      cases eu : lk U k with
      | none => rw [ed, eo, eu] at hm; exact absurd (show some y = none by cases d <;> exact hm) (by simp)
      |some u =>
       rw [ed, eo, eu] at hm
       obtain ⟨R2, e, hq⟩ : ∃ R2, some y = some R2 ∧ Lq d R2 u := by cases d <;> exact hm
       obtain rfl := Option.some.inj e
       exact ⟨u, rfl, hq⟩
     | some o => obtain ⟨m, e⟩ := c1 o eo; rw [ed] at e; cases e
    |some m =>
     cases eo : lk O k with
     |none =>
      cases eu : lk U k with
      |none =>
       rw [ed, eo, eu] at hm
       obtain ⟨R2, e, hq⟩ : ∃ R2, some y = some R2 ∧ Lq d R2 m := by cases d <;> exact hm
       obtain rfl := Option.some.inj e
       exact ⟨m, rfl, hq⟩
      | some u => obtain ⟨o, e⟩ := c3 m u ed eu; rw [eo] at e; cases e
     |some o =>
      cases eu : lk U k with
      | none => rw [ed, eo, eu] at hm; exact absurd (show some y = none by cases d <;> exact hm) (by simp)
      |some u =>
       rw [ed, eo, eu] at hm
       exact ⟨_, rfl, MR.three (c4 m o u ed eo eu) hm⟩
   ·have hm := hf k
    obtain ⟨c1, c2, c3, c4⟩ := hk k2 k
    rw [hl]
    rw [ey] at hm
    cases ed : lk D k with
    |none =>
     cases eo : lk O k with
     |none =>
      cases eu : lk U k with
      | none => rfl
      |some u =>
       rw [ed, eo, eu] at hm
       obtain ⟨R2, e, hq⟩ : ∃ R2, none = some R2 ∧ Lq d R2 u := by cases d <;> exact hm
       cases e
     | some o => obtain ⟨m, e⟩ := c1 o eo; rw [ed] at e; cases e
    |some m =>
     cases eo : lk O k with
     |none =>
      cases eu : lk U k with
      |none =>
       rw [ed, eo, eu] at hm
       obtain ⟨R2, e, hq⟩ : ∃ R2, none = some R2 ∧ Lq d R2 m := by cases d <;> exact hm
       cases e
      | some u => obtain ⟨o, e⟩ := c3 m u ed eu; rw [eo] at e; cases e
     |some o =>
      cases eu : lk U k with
      | none => rfl
      |some u =>
       rw [ed, eo, eu] at hm
       cases d with
       | zero => exact (c4 m o u ed eo eu).elim
       | succ d => obtain ⟨R2, e, _⟩ := hm; cases e
theorem MR.still : ∀ {d : Nat} {D O R : S25}, OK3 d D O O → MR d (some D) (some O) (some O) (some R) → Lq d R D
 | 0, _, _, _, h, _ => h.elim
 |d + 1, D, O, R, h, hm => by
  obtain ⟨wd, wo, _, e1, _, hk⟩ := h
  obtain ⟨R', e, hm⟩ := hm
  obtain rfl := Option.some.inj e
  rcases hm with ⟨n2, rfl⟩ | ⟨k2, pr, hf⟩
  ·rw [smD_refl wo, if_pos rfl]
   exact Lq.refl wd
  ·have pd := wd.mp k2
   refine Lq.map pr pd (fun k y ey => ?_) (fun k ey => ?_)
   ·have hm := hf k
    obtain ⟨c1, c2, c3, c4⟩ := hk k2 k
    rw [ey] at hm
    cases ed : lk D k with
    |none =>
     cases eo : lk O k with
     | none => rw [ed, eo] at hm; exact absurd (show some y = none by cases d <;> exact hm) (by simp)
     | some o => obtain ⟨m, e⟩ := c1 o eo; rw [ed] at e; cases e
    |some m =>
     cases eo : lk O k with
     |none =>
      rw [ed, eo] at hm
      obtain ⟨R2, e, hq⟩ : ∃ R2, some y = some R2 ∧ Lq d R2 m := by cases d <;> exact hm
      obtain rfl := Option.some.inj e
      exact ⟨m, rfl, hq⟩
     |some o =>
      rw [ed, eo] at hm
      exact ⟨m, rfl, MR.still (c4 m o o ed eo eo) hm⟩
   ·have hm := hf k
    obtain ⟨c1, c2, c3, c4⟩ := hk k2 k
    rw [ey] at hm
    cases ed : lk D k with
    | none => rfl
    |some m =>
     cases eo : lk O k with
     |none =>
      rw [ed, eo] at hm
      obtain ⟨R2, e, hq⟩ : ∃ R2, none = some R2 ∧ Lq d R2 m := by cases d <;> exact hm
      cases e
     |some o =>
      rw [ed, eo] at hm
      cases d with
      | zero => exact (c4 m o o ed eo eo).elim
      | succ d => obtain ⟨R2, e, _⟩ := hm; cases e
def AlP : Nat → S25 → S25 → Prop
 | 0, _, _ => False
 | d + 1, a, b => a.f0 = b.f0 ∧ ∀ k x y, lk a k = some x → lk b k = some y → AlP d x y
def CvP : Nat → S25 → S25 → Prop
 | 0, _, _ => False
 | d + 1, a, b => ∀ k y, lk b k = some y → ∃ x, lk a k = some x ∧ CvP d x y
def ClP : Nat → S25 → S25 → S25 → Prop
 | 0, _, _, _ => False
 | d + 1, a, b, w => ∀ k x y, lk a k = some x → lk b k = some y → ∃ z, lk w k = some z ∧ ClP d x y z
def TkP : Nat → S25 → S25 → Prop
 | 0, _, _ => False
 | d + 1, o, u => ∀ k x, lk o k = some x → (lk u k = none → x.f0 = 1) ∧ ∀ y, lk u k = some y → TkP d x y
theorem AlP.kind {d : Nat} {a b : S25} (h : AlP d a b) : a.f0 = b.f0 := by
 cases d with
 | zero => exact h.elim
 | succ d => exact h.1
theorem OK3.of : ∀ {d : Nat} {D O U : S25}, Wf d D → Wf d O → Wf d U → AlP d O D → AlP d U D → CvP d D O → ClP d D U O → TkP d O U → OK3 d D O U
 | 0, _, _, _, h, _, _, _, _, _, _, _ => h.elim
 |d + 1, D, O, U, wd, wo, wu, a1, a2, cv, cl, tk => by
  refine ⟨wd, wo, wu, a1.1.symm, a2.1.symm, fun h2 k => ⟨fun o e => ?_, fun m o em eo eu => ?_, fun m u em eu => ?_, fun m o u em eo eu => ?_⟩⟩
  ·obtain ⟨m, e2, _⟩ := cv k o e
   exact ⟨m, e2⟩
  ·have h1 := (tk k o eo).1 eu
   have h3 := (a1.2 k o m eo em).kind
   exact ⟨by omega, h1⟩
  ·obtain ⟨o, e, _⟩ := cl k m u em eu
   exact ⟨o, e⟩
  ·have pd := wd.mp h2
   have po := wo.mp (by have := a1.1; omega)
   have pu := wu.mp (by have := a2.1; omega)
   obtain ⟨m', e1, hc⟩ := cv k o eo
   obtain rfl := Option.some.inj (em.symm.trans e1)
   obtain ⟨o', e2, hl⟩ := cl k m u em eu
   obtain rfl := Option.some.inj (eo.symm.trans e2)
   exact OK3.of (wd.items _ (pd.mem em).2) (wo.items _ (po.mem eo).2) (wu.items _ (pu.mem eu).2) (a1.2 k o m eo em) (a2.2 k u m eu em) hc hl ((tk k o eo).2 u eu)
theorem OK3.same : ∀ {d : Nat} {D O : S25}, Wf d D → Wf d O → AlP d O D → CvP d D O → OK3 d D O O
 | 0, _, _, h, _, _, _ => h.elim
 |d + 1, D, O, wd, wo, a1, cv => by
  refine ⟨wd, wo, wo, a1.1.symm, a1.1.symm, fun h2 k => ⟨fun o e => ?_, fun m o em eo eu => ?_, fun m u em eu => ⟨u, eu⟩, fun m o u em eo eu => ?_⟩⟩
  ·obtain ⟨m, e2, _⟩ := cv k o e
   exact ⟨m, e2⟩
  ·rw [eo] at eu; cases eu
  ·obtain rfl := Option.some.inj (eo.symm.trans eu)
   have pd := wd.mp h2
   have po := wo.mp (by have := a1.1; omega)
   obtain ⟨m', e1, hc⟩ := cv k o eo
   obtain rfl := Option.some.inj (em.symm.trans e1)
   exact OK3.same (wd.items _ (pd.mem em).2) (wo.items _ (po.mem eo).2) (a1.2 k o m eo em) hc
def olk (o : Option S25) (k : ByteArray) : Option S25 := o.bind fun x => lk x k
def Cs : Nat → Option S25 → Option S25 → Option S25 → Prop
 | d, some D, some O, some U => OK3 d D O U
 | d, some D, some O, none => Wf d D ∧ Wf d O ∧ D.f0 = 1 ∧ O.f0 = 1
 | d, some D, none, none => Wf d D
 | d, none, none, some U => Wf d U
 | _, none, none, none => True
 | _, _, _, _ => False
theorem Cs.wfD {d : Nat} {D : S25} {oO oU : Option S25} (h : Cs d (some D) oO oU) : Wf d D := by
 rcases oO with _ | O <;> rcases oU with _ | U
 ·exact h
 ·exact h.elim
 ·exact h.1
 ·exact (OK3.wf h).1
theorem Cs.wfU {d : Nat} {U : S25} {oD oO : Option S25} (h : Cs d oD oO (some U)) : Wf d U := by
 rcases oD with _ | D <;> rcases oO with _ | O
 ·exact h
 ·exact h.elim
 ·exact h.elim
 ·exact (OK3.wf h).2.2
theorem Cs.sub {d : Nat} {oD oO oU : Option S25} (h : Cs (d + 1) oD oO oU) (hm : ∀ x, oD = some x ∨ oO = some x ∨ oU = some x → x.f0 = 2) (k : ByteArray) : Cs d (olk oD k) (olk oO k) (olk oU k) := by
 rcases oD with _ | D <;> rcases oO with _ | O <;> rcases oU with _ | U
 ·exact True.intro
 ·have hU : Wf (d + 1) U := h
  show Cs d none none (lk U k)
  cases eu : lk U k with
  | none => exact True.intro
  | some u => exact hU.items _ ((hU.mp (hm U (.inr (.inr rfl)))).mem eu).2
 ·exact h.elim
 ·exact h.elim
 ·have hD : Wf (d + 1) D := h
  show Cs d (lk D k) none none
  cases ed : lk D k with
  | none => exact True.intro
  | some m => exact hD.items _ ((hD.mp (hm D (.inl rfl))).mem ed).2
 ·exact h.elim
 ·have := hm D (.inl rfl)
  have := h.2.2.1
  omega
 ·obtain ⟨wd, wo, wu, e1, e2, hk⟩ := h
  have k2 := hm D (.inl rfl)
  obtain ⟨c1, c2, c3, c4⟩ := hk k2 k
  have pd := wd.mp k2
  have po := wo.mp (by omega)
  have pu := wu.mp (by omega)
  show Cs d (lk D k) (lk O k) (lk U k)
  cases ed : lk D k with
  |none =>
   cases eo : lk O k with
   |none =>
    cases eu : lk U k with
    | none => exact True.intro
    | some u => exact wu.items _ (pu.mem eu).2
   | some o => obtain ⟨m, e⟩ := c1 o eo; rw [ed] at e; cases e
  |some m =>
   cases eo : lk O k with
   |none =>
    cases eu : lk U k with
    | none => exact wd.items _ (pd.mem ed).2
    | some u => obtain ⟨o, e⟩ := c3 m u ed eu; rw [eo] at e; cases e
   |some o =>
    cases eu : lk U k with
    |none =>
     obtain ⟨q1, q2⟩ := c2 m o ed eo eu
     exact ⟨wd.items _ (pd.mem ed).2, wo.items _ (po.mem eo).2, q1, q2⟩
    | some u => exact c4 m o u ed eo eu
theorem MR.ddd {d : Nat} {D O U R : S25} (h : D.f0 = 2) (p : Mp R) (hk : ∀ k, MR d (lk D k) (lk O k) (lk U k) (lk R k)) : MR (d + 1) (some D) (some O) (some U) (some R) := ⟨R, rfl, .inr ⟨h, p, hk⟩⟩
theorem MR.nnn {d : Nat} {r : Option S25} : MR d none none none r ↔ r = none := by cases d <;> exact Iff.rfl
theorem MR.dnn {d : Nat} {D : S25} {r : Option S25} : MR d (some D) none none r ↔ ∃ R, r = some R ∧ Lq d R D := by cases d <;> exact Iff.rfl
theorem MR.nnu {d : Nat} {U : S25} {r : Option S25} : MR d none none (some U) r ↔ ∃ R, r = some R ∧ Lq d R U := by cases d <;> exact Iff.rfl
theorem MR.don {d : Nat} {D O : S25} {r : Option S25} : MR d (some D) (some O) none r ↔ r = none := by cases d <;> exact Iff.rfl
theorem MR.map {d : Nat} {oD oO oU : Option S25} {X : S25} (h : Cs (d + 1) oD oO oU) (hm : ∀ x, oD = some x ∨ oO = some x ∨ oU = some x → x.f0 = 2) (hne : oD.isSome = true ∨ oU.isSome = true) (p : Mp X)
  (hk : ∀ k, MR d (olk oD k) (olk oO k) (olk oU k) (lk X k)) : MR (d + 1) oD oO oU (some X) := by
 rcases oD with _ | D <;> rcases oO with _ | O <;> rcases oU with _ | U
 ·simp at hne
 ·have pu : Mp U := Wf.mp (d := d) h (hm U (.inr (.inr rfl)))
  refine MR.nnu.2 ⟨X, rfl, Lq.map p pu (fun k y ey => ?_) (fun k ey => ?_)⟩
  ·have q : MR d none none (lk U k) (lk X k) := hk k
   rw [ey] at q
   cases eu : lk U k with
   | none => rw [eu] at q; cases MR.nnn.1 q
   |some u =>
    rw [eu] at q
    obtain ⟨R, e, hq⟩ := MR.nnu.1 q
    obtain rfl := Option.some.inj e
    exact ⟨u, rfl, hq⟩
  ·have q : MR d none none (lk U k) (lk X k) := hk k
   rw [ey] at q
   cases eu : lk U k with
   | none => rfl
   | some u => rw [eu] at q; obtain ⟨R, e, _⟩ := MR.nnu.1 q; cases e
 ·exact h.elim
 ·exact h.elim
 ·have pd : Mp D := Wf.mp (d := d) h (hm D (.inl rfl))
  refine MR.dnn.2 ⟨X, rfl, Lq.map p pd (fun k y ey => ?_) (fun k ey => ?_)⟩
  ·have q : MR d (lk D k) none none (lk X k) := hk k
   rw [ey] at q
   cases eu : lk D k with
   | none => rw [eu] at q; cases MR.nnn.1 q
   |some u =>
    rw [eu] at q
    obtain ⟨R, e, hq⟩ := MR.dnn.1 q
    obtain rfl := Option.some.inj e
    exact ⟨u, rfl, hq⟩
  ·have q : MR d (lk D k) none none (lk X k) := hk k
   rw [ey] at q
   cases eu : lk D k with
   | none => rfl
   | some u => rw [eu] at q; obtain ⟨R, e, _⟩ := MR.dnn.1 q; cases e
 ·exact h.elim
 ·have := hm D (.inl rfl)
  have := h.2.2.1
  omega
 ·exact MR.ddd (hm D (.inl rfl)) p hk
structure Part (d : Nat) (oD oO oU : Option S25) (done : ByteArray → Prop) (X : S25) : Prop where
 mp : Mp X
 did : ∀ k, done k → MR d (olk oD k) (olk oO k) (olk oU k) (lk X k)
 todo : ∀ k, ¬ done k → lk X k = olk oD k
theorem Part.step {d : Nat} {oD oO oU : Option S25} {done : ByteArray → Prop} {X X' : S25} {nm : ByteArray} {r : Option S25} (h : Part d oD oO oU done X) (hr : MR d (olk oD nm) (olk oO nm) (olk oU nm) r) (hm : Mp X') (hl : ∀ k, lk X' k = if k = nm then r else lk X k) :
  Part d oD oO oU (fun k => done k ∨ k = nm) X' := by
 refine ⟨hm, fun k hk => ?_, fun k hk => ?_⟩
 ·rw [hl]
  by_cases e : k = nm
  ·rw [if_pos e, e]; exact hr
  ·rw [if_neg e]
   rcases hk with hk | hk
   ·exact h.did k hk
   ·exact absurd hk e
 ·rw [hl, if_neg (fun e => hk (.inr e))]
  exact h.todo k (fun q => hk (.inl q))
theorem Part.all {d : Nat} {oD oO oU : Option S25} {done : ByteArray → Prop} {X : S25} (h : Part d oD oO oU done X) (ha : ∀ k, ¬ done k → olk oD k = none ∧ olk oO k = none ∧ olk oU k = none) (k : ByteArray) : MR d (olk oD k) (olk oO k) (olk oU k) (lk X k) := by
 by_cases hk : done k
 ·exact h.did k hk
 ·obtain ⟨e1, e2, e3⟩ := ha k hk
  rw [h.todo k hk, e1, e2, e3]
  exact MR.nnn.2 rfl
end Go.Proofs.YtkpdkoafngjflaaGreat
namespace Go.Proofs.YtkpdkoafngjflaaGreat
open Go.RowKit Go.Proofs.YtkpdkoafngjflaaGreatW.PrintWords
set_option linter.unusedVariables false
set_option linter.unusedSimpArgs false
def Vis (m : Nat) (vis : Value) : Prop := ∃ T fv, vis = .iface T fv ∧ ∀ n wa,
 (method (n + m) T fv "VisitMap").run Tryz.prog wa = .ok (153, .agg #[]) wa ∧
 (method (n + m) T fv "VisitScalar").run Tryz.prog wa = .ok (154, .agg #[]) wa ∧
 (method (n + m) T fv "VisitList").run Tryz.prog wa = .ok (152, .agg #[]) wa
theorem Vis.base : Vis 1 (.iface 53 (.agg #[])) := ⟨_, _, rfl, fun n wa => ⟨by kernel_rfl, by kernel_rfl, by kernel_rfl⟩⟩
theorem walker_vmap (T : TypeId) (fv s src P i k m : Value) (n : Nat) (wa : World) : (method (n + 1) 63 (.agg #[.iface T fv, s, src, P, i, k, m]) "VisitMap").run Tryz.prog wa = (method n T fv "VisitMap").run Tryz.prog wa := by kernel_rfl
theorem walker_vscalar (T : TypeId) (fv s src P i k m : Value) (n : Nat) (wa : World) : (method (n + 1) 63 (.agg #[.iface T fv, s, src, P, i, k, m]) "VisitScalar").run Tryz.prog wa = (method n T fv "VisitScalar").run Tryz.prog wa := by kernel_rfl
theorem walker_vlist (T : TypeId) (fv s src P i k m : Value) (n : Nat) (wa : World) : (method (n + 1) 63 (.agg #[.iface T fv, s, src, P, i, k, m]) "VisitList").run Tryz.prog wa = (method n T fv "VisitList").run Tryz.prog wa := by kernel_rfl
theorem Vis.step {m : Nat} {vis : Value} (h : Vis m vis) (s src P i k q : Value) : Vis (m + 1) (.iface 63 (.agg #[vis, s, src, P, i, k, q])) := by
 obtain ⟨T, fv, rfl, h⟩ := h
 exact ⟨_, _, rfl, fun n wa => ⟨(walker_vmap T fv s src P i k q (n + m) wa).trans (h n wa).1, (walker_vscalar T fv s src P i k q (n + m) wa).trans (h n wa).2.1, (walker_vlist T fv s src P i k q (n + m) wa).trans (h n wa).2.2⟩⟩
theorem Vis.more {m m' : Nat} {vis : Value} (h : Vis m vis) (hm : m ≤ m') : Vis m' vis := by
 obtain ⟨T, fv, e, h⟩ := h
 refine ⟨T, fv, e, fun n wa => ?_⟩
 have := h (n + (m' - m)) wa
 rwa [show n + (m' - m) + m = n + m' by omega] at this
def PathOK (w : World) (pv : Value) (n : Nat) : Prop := ∃ xs, w.ownsRow 0 9 1 pv n xs
theorem PathOK.nil_ (w : World) : PathOK w (.slice none 0 0) 0 := ⟨[], World.ownsRow_nil _ _ _ _⟩
theorem PathOK.move {w w' : World} {pv : Value} {n : Nat} (h : PathOK w pv n) (hm : ∀ k, pv.ownBlock = some k → w'.heap[k]? = w.heap[k]?) : PathOK w' pv n := by
 obtain ⟨xs, h⟩ := h
 exact ⟨xs, own_move h hm⟩
theorem Tryz.infoS : (Tryz.prog.info? 9).map (fun i => (i.zero, i.size, i.bytes)) = some (some (.string ⟨#[]⟩), 1, 16) := by kernel_rfl
def Longer (w w' : World) (pv p' : Value) (n : Nat) : Prop :=
 PathOK w' p' (n + 1) ∧ ((∃ g cap, pv = .slice (some ⟨g, 0, none⟩) n cap ∧ p' = .slice (some ⟨g, 0, none⟩) (n + 1) cap ∧ w.grownBy w' (some g)) ∨ (p'.ownBlock = some w.heap.size ∧ w.grownBy w' none))
theorem path_append (w : World) (ty : TypeId) (pv : Value) (n : Nat) (h : PathOK w pv n) (hn : n ≤ 1000) (x : ByteArray) (ad : Addr) (c : Nat) (hx : w.cell? ad = some (.string x)) :
  ∃ p' w', (Builtin.append_ #[22, 22] ty #[pv, .slice (some ad) 1 c]).run Tryz.prog w = .ok p' w' ∧ Longer w w' pv p' n := by
 obtain ⟨i, hi, hz, hs, hb⟩ := info_parts Tryz.infoS
 obtain ⟨xs, hown⟩ := h
 have hnews : ∀ j u, ([Value.string x] : List Value)[j]? = some u → w.cell? (ad.add j) = some u := fun j u hu => by
  match j, hu with
  | 0, hu => obtain rfl := Option.some.inj hu; simpa [Addr.add] using hx
  | j + 1, hu => simp at hu
 have h1 : ∀ u ∈ ([Value.string x] : List Value), u.oneCell' = true := by simp [Value.oneCell']
 have hlen : (xs ++ [Value.string x]).length = (n + 1) * 1 := by have := hown.1; simp only [List.length_append, List.length_cons, List.length_nil]; omega
 have grown : ∀ (old : Nat), old < n + 1 → (w.drew.alloc (.cells (xs.toArray ++ [Value.string x].toArray ++ Builtin.zeroCells (Value.string ⟨#[]⟩).cells (grownCap w (n + 1) old 9 - (n + 1))) 9)).ownsRow 0 9 1
    (.slice (some ⟨w.heap.size, 0, none⟩) (n + 1) (grownCap w (n + 1) old 9)) (n + 1) (xs ++ [.string x]) ∧
   w.grownBy (w.drew.alloc (.cells (xs.toArray ++ [Value.string x].toArray ++ Builtin.zeroCells (Value.string ⟨#[]⟩).cells (grownCap w (n + 1) old 9 - (n + 1))) 9)) none := by
  intro old ho
  have hge := grownCap_ge w (n + 1) old 9
  have hcm : grownCap w (n + 1) old 9 ≤ maxLen := grownCap_le_maxLen w (n + 1) old 9 (by unfold maxLen; omega)
  refine ⟨⟨hlen, .inr ⟨w.heap.size, _, _, rfl, Nat.zero_le _, heap_alloc_new w.drew _, hge, hcm, ?_, ?_⟩⟩, ⟨rfl, rfl, rfl, by simp, fun k hk _ => Below.heap_alloc w.drew _ k hk⟩⟩
  ·have h1 := hown.1
   have h2 : (Value.string ⟨#[]⟩).cells.size = 1 := rfl
   simp only [Array.size_append, List.size_toArray, size_zeroCells, h2, List.length_cons, List.length_nil]
   omega
  ·simp only [Array.toList_append, List.append_assoc]
   rw [← List.append_assoc, ← hlen]
   exact List.take_left
 rcases hown.2 with ⟨rfl, rfl⟩ | ⟨g, cap, cur, rfl, hbg, hg, hnc, hcm, hcs, htake⟩
 ·have hx : xs = [] := List.eq_nil_of_length_eq_zero (by simpa using hown.1)
  subst hx
  have hr := run_append_nil (P := Tryz.prog) w 22 ty 9 i (.string ⟨#[]⟩) Tryz.underlying22 hi hz ad 1 c [.string x] (by simp [hs]) hnews (by omega) (by omega) (by rw [hb]; omega)
  have hgr := grown 0 (by omega)
  simp only [Nat.zero_add, List.nil_append, Array.empty_append] at hgr ⊢
  exact ⟨_, _, hr, ⟨_, hgr.1⟩, .inr ⟨rfl, hgr.2⟩⟩
 ·by_cases hroom : n + 1 ≤ cap
  ·have hr := run_append_room (P := Tryz.prog) w 22 ty 9 i Tryz.underlying22 hi g n cap cur hg ad 1 c [.string x] (by simp [hs]) hnews h1 hroom (by simp [hs]; omega)
   rw [hs] at hr
   refine ⟨_, _, hr, ⟨xs ++ [.string x], hlen, .inr ⟨g, cap, _, rfl, hbg, setRow_heap w g cur _ 9 _ hg, hroom, hcm, ?_, ?_⟩⟩, .inl ⟨g, cap, rfl, rfl, ⟨rfl, rfl, rfl, by simp, fun k _ hk => setRow_other w g k _ (fun e => hk (by rw [e]))⟩⟩⟩
   ·simp only [List.size_toArray, List.length_append, List.length_take, List.length_drop, Array.length_toList, List.length_cons, List.length_nil]
    omega
   ·rw [htake, ← hlen]
    exact List.take_left
  ·have holds : ∀ j u, xs[j]? = some u → w.cell? ((⟨g, 0, none⟩ : Addr).add j) = some u := hown.cells (g := g) rfl
   have hr := run_append_grow (P := Tryz.prog) w 22 ty 9 i (.string ⟨#[]⟩) Tryz.underlying22 hi hz ⟨g, 0, none⟩ n cap xs (by rw [hs]; exact hown.1) holds ad 1 c [.string x] (by simp [hs]) hnews (by omega) (by omega) (growslice_fits (by omega) (by rw [hb]; omega))
   have hgr := grown cap (by omega)
   exact ⟨_, _, hr, ⟨_, hgr.1⟩, .inr ⟨rfl, hgr.2⟩⟩
theorem Longer.back {w w1 w2 : World} {pv p' : Value} {n : Nat} (h : Longer w w1 pv p' n) (h0 : PathOK w pv n) (h2 : PathOK w2 p' (n + 1)) (hk : ∀ k, pv.ownBlock = some k → p'.ownBlock ≠ some k → w2.heap[k]? = w.heap[k]?) : PathOK w2 pv n := by
 rcases h.2 with ⟨g, cap, rfl, rfl, _⟩ | ⟨hb, _⟩
 ·obtain ⟨xs, h2⟩ := h2
  rcases h2.2 with ⟨e, _⟩ | ⟨g', cap', cur, e, hbg, hg, hnc, hcm, hcs, htake⟩
  ·cases e
  ·simp only [Value.slice.injEq, Option.some.injEq, Addr.mk.injEq, and_true, true_and] at e
   obtain ⟨rfl, rfl⟩ := e
   refine ⟨cur.toList.take (n * 1), ?_, .inr ⟨g, cap, cur, rfl, hbg, hg, by omega, hcm, hcs, rfl⟩⟩
   rw [List.length_take, Array.length_toList, hcs]
   omega
 ·refine h0.move (fun k hk' => hk k hk' (fun e => ?_))
  rw [hb] at e
  obtain ⟨xs, h0⟩ := h0
  have := own_lt h0 k hk'
  have := Option.some.inj e
  omega
theorem wp_longer {o : Oper} {a : Act} {w : World} {K : Act → World → Prop} {Q : Exit → Act → World → Prop} (s x : Operand)
  (ho : o.op = .call { callee := .builtin .append, args := #[s, x], argTypes := #[22, 22] }) (pv : Value) (n : Nat) (hs : a.eval s = pv) (h : PathOK w pv n) (hn : n ≤ 1000) (nm : ByteArray) (ad : Addr) (c : Nat) (hx : a.eval x = .slice (some ad) 1 c) (hc : w.cell? ad = some (.string nm))
  (hk : ∀ p' w', Longer w w' pv p' n → K (a.put o.dst p') w') : o.wp Tryz.prog a w K Q := by
 obtain ⟨p', w', hr, hl⟩ := path_append w o.type pv n h hn nm ad c hc
 unfold Oper.wp execOp
 simp only [ho, resolve, invoke, builtin, Sem.run_bind, Sem.run_pure, Result.andThen_ok, List.map_toArray, List.map_cons, List.map_nil, hs, hx, hr]
 exact hk p' w' hl
end Go.Proofs.YtkpdkoafngjflaaGreat
