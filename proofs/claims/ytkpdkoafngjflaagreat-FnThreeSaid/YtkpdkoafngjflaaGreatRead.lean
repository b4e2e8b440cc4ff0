import Derived.Test.YtkpdkoafngjflaaGreatPFnFieldsx1
import Derived.Test.YtkpdkoafngjflaaGreatPFnFieldsx2
import Derived.Test.YtkpdkoafngjflaaGreatPFnFieldsx3
import Derived.Test.YtkpdkoafngjflaaGreatPFnFieldsx4
import Derived.Test.YtkpdkoafngjflaaGreatPFnFieldsx0
import Derived.Test.YtkpdkoafngjflaaGreatWLast
import Derived.Test.YtkpdkoafngjflaaGreatWTab
import Derived.WalkKit
import Derived.WalkLawsBesides
import Derived.WalkSpells
import Derived.Laws.EntriesVeiled
import Derived.Deep.LoopGhost
import Derived.Deep.QuietTactic
import Derived.BigQuiet
import Derived.Deep.RegionHeld3
import Derived.Deep.AppendLies
import Derived.KernelRfl
namespace Go.Proofs.YtkpdkoafngjflaaGreat
open Go.RowKit Go.Proofs.YtkpdkoafngjflaaGreatW.PrintWords Go.Proofs.YtkpdkoafngjflaaGreat.PFnFields
set_option linter.unusedVariables false
set_option linter.unusedSimpArgs false
theorem wrap_succ {i : Int} {n : Nat} (h0 : 0 ≤ i) (h : i < (n : Int)) (hn : n ≤ 9223372036854775807) : wrap64 (i + 1) = i + 1 := by
 unfold wrap64
 omega
theorem wrap_pred {n : Nat} (h : 1 ≤ n) (hn : n ≤ 9223372036854775807) : wrap64 ((n : Int) - 1) = (n : Int) - 1 := by
 unfold wrap64
 omega
def wordByte (c : Int) : Prop := (97 ≤ c ∧ c ≤ 122) ∨ (48 ≤ c ∧ c ≤ 57) ∨ c = 45
structure Word (s : ByteArray) : Prop where
 pos : 1 ≤ s.size
 le : s.size ≤ 20
 first : 97 ≤ bt s 0 ∧ bt s 0 ≤ 122
 all : ∀ i : Int, 0 ≤ i → i < s.size → wordByte (bt s i)
 last : bt s ((s.size : Int) - 1) ≠ 45
 noTrue : s.toList ≠ [116, 114, 117, 101]
 noFalse : s.toList ≠ [102, 97, 108, 115, 101]
 noNull : s.toList ≠ [110, 117, 108, 108]
theorem ite_some_false {c : Prop} [Decidable c] {x : Option Bool} {p : Prop} (h : ∃ r, x = some r ∧ (r = true → p)) : ∃ r, (if c then some false else x) = some r ∧ (r = true → p) := by
 by_cases hc : c
 ·rw [if_pos hc]; exact ⟨_, rfl, fun h => by cases h⟩
 ·rw [if_neg hc]; exact h
theorem isWord_l0 (s : ByteArray) (hn : s.size ≤ 9223372036854775807) (d : Nat) : ∀ (k : Nat) (i : Int), 0 ≤ i → i ≤ s.size → (s.size : Int) - i = d → d < k → (∀ j : Int, 0 ≤ j → j < i → wordByte (bt s j)) → (0 < i → 97 ≤ bt s 0 ∧ bt s 0 ≤ 122) →
  ∃ r, spec_IsWord.l0 k s i = some r ∧ (r = true → Word s) := by
 induction d with
 |zero =>
  intro k i h0 h1 hd hk hw hf
  obtain ⟨k, rfl⟩ : ∃ m, k = m + 1 := ⟨k - 1, by omega⟩
  have hi : i = (s.size : Int) := by omega
  subst hi
  simp only [spec_IsWord.l0]
  rw [if_neg (by omega)]
  by_cases c1 : s.toList = [116, 114, 117, 101]
  ·rw [if_pos c1]; exact ⟨_, rfl, fun h => by cases h⟩
  rw [if_neg c1]
  by_cases c2 : s.toList = [102, 97, 108, 115, 101]
  ·rw [if_pos c2]; exact ⟨_, rfl, fun h => by cases h⟩
  rw [if_neg c2]
  by_cases c3 : s.toList = [110, 117, 108, 108]
  ·rw [if_pos c3]; exact ⟨_, rfl, fun h => by cases h⟩
  rw [if_neg c3]
  repeat (first | (refine ite_some_false ?_) | fail)
  by_cases p1 : (s.size : Int) ≥ 1
  ·rw [if_pos p1]
   by_cases p2 : (s.size : Int) ≤ 20
   ·rw [if_pos p2, wrap_pred (by omega) hn, if_pos (by omega), if_pos (by omega)]
    refine ⟨_, rfl, fun h => ⟨by omega, by omega, hf (by omega), hw, ?_, c1, c2, c3⟩⟩
    simpa using h
   ·rw [if_neg p2]; exact ⟨_, rfl, fun h => by cases h⟩
  ·rw [if_neg p1]; exact ⟨_, rfl, fun h => by cases h⟩
 |succ d ih =>
  intro k i h0 h1 hd hk hw hf
  obtain ⟨k, rfl⟩ : ∃ m, k = m + 1 := ⟨k - 1, by omega⟩
  have hlt : i < (s.size : Int) := by omega
  simp only [spec_IsWord.l0]
  rw [if_pos hlt, if_pos h0]
  rw [wrap_succ h0 hlt hn]
  by_cases hb : wordByte (bt s i) ∧ (i = 0 → 97 ≤ bt s 0 ∧ bt s 0 ≤ 122)
  ·obtain ⟨r, hr, hi⟩ := ih k (i + 1) (by omega) (by omega) (by omega) (by omega) (fun j hj0 hj => by
    rcases Int.lt_or_le j i with h | h
    ·exact hw j hj0 h
    ·rw [show j = i by omega]; exact hb.1) (fun _ => by
    rcases Int.lt_or_le 0 i with h | h
    ·exact hf h
    ·exact hb.2 (by omega))
   refine ⟨r, ?_, hi⟩
   rw [hr]
   have h2 := hb.1
   unfold wordByte at h2
   have h3 : i = 0 → 97 ≤ bt s i ∧ bt s i ≤ 122 := fun h => by rw [h]; exact hb.2 h
   repeat' split
   all_goals first | rfl | omega
  ·refine ⟨false, ?_, fun h => by cases h⟩
   have h3 : ¬ (wordByte (bt s i) ∧ (i = 0 → 97 ≤ bt s i ∧ bt s i ≤ 122)) := fun h => hb ⟨h.1, fun e => by have := h.2 e; rwa [e] at this⟩
   unfold wordByte at h3
   repeat' split
   all_goals first | rfl | (exfalso; omega)
theorem isWord_calls (s : ByteArray) (w : World) (hn : s.size ≤ 9223372036854775807) :
  Calls Tryz.prog 30 #[.string s] w fun e w' => ∃ r, e = .returned (.bool r) ∧ (r = true → Word s) ∧ Drawn0 w w' := by
 obtain ⟨r, hr, h⟩ := isWord_l0 s hn s.size (s.size + 1) 0 (by omega) (by omega) (by omega) (by omega) (fun j h0 h1 => by omega) (fun h => by omega)
 exact (spec_IsWord.calls _ s r w hr).mono fun e w' ⟨he, hd⟩ => ⟨r, he, h, hd⟩
theorem plain_l0 (s : ByteArray) (hs : Word s) (d : Nat) : ∀ (k : Nat) (i : Int), 0 ≤ i → i ≤ s.size → (s.size : Int) - i = d → d < k → impl_plain.l0 k s s.size i = some true := by
 have hle := hs.le
 induction d with
 |zero =>
  intro k i h0 h1 hd hk
  obtain ⟨k, rfl⟩ : ∃ m, k = m + 1 := ⟨k - 1, by omega⟩
  simp only [impl_plain.l0]
  have := hs.pos
  rw [if_neg (by omega), if_pos (by omega)]
  simp; omega
 |succ d ih =>
  intro k i h0 h1 hd hk
  obtain ⟨k, rfl⟩ : ∃ m, k = m + 1 := ⟨k - 1, by omega⟩
  have hlt : i < (s.size : Int) := by omega
  have h2 := hs.all i h0 hlt
  have h3 := hs.first
  have h4 : i = 0 → 97 ≤ bt s i ∧ bt s i ≤ 122 := fun e => by rw [e]; exact h3
  unfold wordByte at h2
  have hr := ih k (i + 1) (by omega) (by omega) (by omega) (by omega)
  simp only [impl_plain.l0]
  rw [if_pos hlt, if_pos h0, if_pos hlt, wrap_succ h0 hlt (by omega)]
  rcases h2 with h2 | h2 | h2
  ·rw [if_pos (show bt s i ≥ 97 by omega), if_pos (show bt s i ≤ 122 by omega)]; exact hr
  ·rw [if_neg (show ¬ bt s i ≥ 97 by omega), if_neg (show ¬ bt s i ≥ 65 by omega), if_pos (show bt s i ≥ 48 by omega), if_pos (show bt s i ≤ 57 by omega)]; exact hr
  ·rw [if_neg (show ¬ bt s i ≥ 97 by omega), if_neg (show ¬ bt s i ≥ 65 by omega), if_neg (show ¬ bt s i ≥ 48 by omega), if_neg (show ¬ i = 0 by omega), if_neg (show ¬ bt s i = 46 by omega), if_neg (show ¬ bt s i = 95 by omega), if_neg (show ¬ bt s i = 47 by omega), if_pos h2]; exact hr
theorem plain_calls (s : ByteArray) (w : World) (hs : Word s) :
  Calls Tryz.prog 47 #[.string s] w fun e w' => e = .returned (.bool true) ∧ Drawn0 w w' :=
 impl_plain.calls (s.size + 1) s true w (plain_l0 s hs s.size (s.size + 1) 0 (by omega) (by omega) (by omega) (by omega))
structure Num (s : ByteArray) : Prop where
 pos : 1 ≤ s.size
 le : s.size ≤ 9
 all : ∀ i : Int, 0 ≤ i → i < s.size → 48 ≤ bt s i ∧ bt s i ≤ 57
theorem plainNum_l0 (s : ByteArray) (hs : Num s) (d : Nat) : ∀ (k : Nat) (i : Int), 0 ≤ i → i ≤ s.size → (s.size : Int) - i = d → d < k → impl_plain.l0 k s s.size i = some true := by
 have hle := hs.le
 induction d with
 |zero =>
  intro k i h0 h1 hd hk
  obtain ⟨k, rfl⟩ : ∃ m, k = m + 1 := ⟨k - 1, by omega⟩
  simp only [impl_plain.l0]
  have := hs.pos
  rw [if_neg (by omega), if_pos (by omega)]
  simp; omega
 |succ d ih =>
  intro k i h0 h1 hd hk
  obtain ⟨k, rfl⟩ : ∃ m, k = m + 1 := ⟨k - 1, by omega⟩
  have hlt : i < (s.size : Int) := by omega
  have h2 := hs.all i h0 hlt
  have hr := ih k (i + 1) (by omega) (by omega) (by omega) (by omega)
  simp only [impl_plain.l0]
  rw [if_pos hlt, if_pos h0, if_pos hlt, wrap_succ h0 hlt (by omega)]
  rw [if_neg (show ¬ bt s i ≥ 97 by omega), if_neg (show ¬ bt s i ≥ 65 by omega), if_pos (show bt s i ≥ 48 by omega), if_pos (show bt s i ≤ 57 by omega)]; exact hr
theorem plainNum_calls (s : ByteArray) (w : World) (hs : Num s) :
  Calls Tryz.prog 47 #[.string s] w fun e w' => e = .returned (.bool true) ∧ Drawn0 w w' :=
 impl_plain.calls (s.size + 1) s true w (plainNum_l0 s hs s.size (s.size + 1) 0 (by omega) (by omega) (by omega) (by omega))
theorem digits_word (s : ByteArray) (hs : Word s) : impl_digits.f 1 s = some false := by
 have := hs.pos
 have := hs.first
 unfold impl_digits.f
 simp only [impl_digits.l0]
 rw [if_pos (by omega), if_pos (by omega), if_pos (by omega), if_neg (by omega), if_pos (by omega)]
theorem digits_num (s : ByteArray) (hs : Num s) (d : Nat) : ∀ (k : Nat) (i : Int), 0 ≤ i → i ≤ s.size → (s.size : Int) - i = d → d < k → impl_digits.l0 k s s.size i = some true := by
 have hle := hs.le
 induction d with
 |zero =>
  intro k i h0 h1 hd hk
  obtain ⟨k, rfl⟩ : ∃ m, k = m + 1 := ⟨k - 1, by omega⟩
  simp only [impl_digits.l0]
  have := hs.pos
  rw [if_neg (by omega)]
  simp; omega
 |succ d ih =>
  intro k i h0 h1 hd hk
  obtain ⟨k, rfl⟩ : ∃ m, k = m + 1 := ⟨k - 1, by omega⟩
  have hlt : i < (s.size : Int) := by omega
  have h2 := hs.all i h0 hlt
  simp only [impl_digits.l0]
  rw [if_pos hlt, if_pos h0, if_pos hlt, if_neg (by omega), if_neg (by omega), wrap_succ h0 hlt (by omega), ih k (i + 1) (by omega) (by omega) (by omega) (by omega)]
def strTag : List UInt8 := [33, 33, 115, 116, 114]
def intTag : List UInt8 := [33, 33, 105, 110, 116]
def Sc (t g : ByteArray) : Prop := (g.toList = strTag ∧ Word t) ∨ (g.toList = intTag ∧ Num t)
theorem bt_zero {s : ByteArray} {c : UInt8} {l : List UInt8} (h : s.toList = c :: l) : bt s 0 = c.toNat := by
 have e : s.data.toList = c :: l := by rw [← ByteArray.toList_eq]; exact h
 have hs : 0 < s.size := by
  have : s.size = s.data.toList.length := rfl
  rw [this, e]; simp
 have h0 : s[0]'hs = c := by
  have : s.data.toList[0]? = some c := by rw [e]; rfl
  have h2 : s.data[0]? = some c := by simpa using this
  have := Array.getElem?_eq_some_iff.1 h2
  exact this.2
 unfold bt
 rw [dif_pos (show (0 : Int).toNat < s.size from hs)]
 simp only [Int.toNat_zero, h0]
theorem num_not {t : ByteArray} (h : Num t) {c : UInt8} {l : List UInt8} (hc : ¬ (48 ≤ c.toNat ∧ c.toNat ≤ 57)) : t.toList ≠ c :: l := by
 intro e
 have h1 := h.all 0 (by omega) (by have := h.pos; omega)
 rw [bt_zero e] at h1
 omega
theorem typed_calls (t g : ByteArray) (w : World) (hs : Sc t g) :
  Calls Tryz.prog 48 #[.string t, .string g] w fun e w' => e = .returned (.bool true) ∧ Drawn0 w w' := by
 rcases hs with ⟨hg, hw⟩ | ⟨hg, hn⟩
 ·refine impl_typed.calls 2 t g true w ?_
  unfold impl_typed.f
  rw [if_neg hw.noNull, if_neg (by rw [hg]; decide), if_neg hw.noTrue]
  have hff : (t.toList == [102, 97, 108, 115, 101]) = false := by simpa using hw.noFalse
  rw [hff]
  simp only [impl_typed.j0]
  rw [if_neg (by decide), digits_word t hw]
  simp only [Option.bind_some]
  rw [if_neg (by decide), if_pos (by rw [hg]; rfl), if_pos (by have := hw.pos; omega)]
  have := hw.first
  simp; omega
 ·refine impl_typed.calls (t.size + 2) t g true w ?_
  unfold impl_typed.f
  rw [if_neg (num_not hn (by decide)), if_neg (by rw [hg]; decide), if_neg (num_not hn (by decide))]
  have hff : (t.toList == [102, 97, 108, 115, 101]) = false := by simpa using num_not hn (c := 102) (by decide)
  rw [hff]
  simp only [impl_typed.j0]
  have hd : impl_digits.f (t.size + 1) t = some true := digits_num t hn t.size (t.size + 1) 0 (by omega) (by omega) (by omega) (by omega)
  rw [if_neg (by decide), hd]
  simp only [Option.bind_some, if_true, hg]
  rfl
end Go.Proofs.YtkpdkoafngjflaaGreat
namespace Go.Proofs.YtkpdkoafngjflaaGreat
open Go.RowKit Go.Proofs.YtkpdkoafngjflaaGreatW.PrintWords
structure Chg (S : Nat → Prop) (w w' : World) : Prop where
 os : w'.os = w.os
 tape : w'.tape = w.tape
 output : w'.output = w.output
 size : w.heap.size ≤ w'.heap.size
 block : ∀ k, k < w.heap.size → ¬ S k → w'.heap[k]? = w.heap[k]?
namespace Chg
variable {S S' : Nat → Prop} {a b c w w' : World}
theorem refl (S : Nat → Prop) (w : World) : Chg S w w := ⟨rfl, rfl, rfl, Nat.le_refl _, fun _ _ _ => rfl⟩
theorem mono (h : Chg S w w') (hs : ∀ k, S k → S' k) : Chg S' w w' := ⟨h.os, h.tape, h.output, h.size, fun k hk hn => h.block k hk (fun q => hn (hs k q))⟩
theorem trans (h : Chg S a b) (k : Chg S' b c) (hs : ∀ k, S' k → S k ∨ a.heap.size ≤ k) : Chg S a c :=
 ⟨k.os.trans h.os, k.tape.trans h.tape, k.output.trans h.output, Nat.le_trans h.size k.size, fun i hi hn =>
  (k.block i (Nat.lt_of_lt_of_le hi h.size) (fun q => by rcases hs i q with q | q; exact hn q; omega)).trans (h.block i hi hn)⟩
theorem of_below (h : Below w.heap.size w w') : Chg S w w' := ⟨h.os, h.tape, h.output, h.size, fun k hk _ => h.block k hk⟩
theorem below {B : Nat} (h : Chg S w w') (hB : B ≤ w.heap.size) (hs : ∀ k, S k → B ≤ k) : Below B w w' :=
 ⟨h.os, h.tape, h.output, h.size, fun k hk => h.block k (by omega) (fun q => by have := hs k q; omega)⟩
theorem nothing (h : Chg (fun _ => False) w w') : Below w.heap.size w w' := h.below (Nat.le_refl _) (fun _ q => q.elim)
theorem alloc (h : Chg S a w) (o : Obj) : Chg S a (w.alloc o) :=
 ⟨h.os, h.tape, h.output, by simp; exact Nat.le_succ_of_le h.size, fun k hk hn => (Below.heap_alloc _ _ _ (Nat.lt_of_lt_of_le hk h.size)).trans (h.block k hk hn)⟩
theorem drew (h : Chg S a w) : Chg S a w.drew := ⟨h.os, h.tape, h.output, h.size, h.block⟩
theorem drewN (h : Chg S a w) (n : Nat) : Chg S a (w.drewN n) := ⟨h.os, h.tape, h.output, h.size, h.block⟩
theorem setCell (h : Chg S a w) {p : Addr} (hp : S p.block ∨ a.heap.size ≤ p.block) (u : Value) : Chg S a (w.setCell p u) :=
 ⟨h.os, h.tape, h.output, by simp [World.setCell]; exact h.size, fun k hk hn => (Below.heap_setCell _ _ _ _ (fun e => by subst e; rcases hp with q | q; exact hn q; omega)).trans (h.block k hk hn)⟩
theorem grown (h : Chg S a w) {row : Option Nat} (hg : w.grownBy w' row) (hr : ∀ k, row = some k → S k ∨ a.heap.size ≤ k) : Chg S a w' :=
 ⟨hg.os.trans h.os, hg.tape.trans h.tape, hg.output.trans h.output, Nat.le_trans h.size hg.size, fun k hk hn =>
  (hg.block k (Nat.lt_of_lt_of_le hk h.size) (fun e => by rcases hr k e.symm with q | q; exact hn q; omega)).trans (h.block k hk hn)⟩
theorem cell (h : Chg S w w') {p : Addr} (hp : p.block < w.heap.size) (hn : ¬ S p.block) : w'.cell? p = w.cell? p := World.cell?_of_block (w := w) (h.block p.block hp hn)
theorem cell_of (h : Chg S w w') {p : Addr} {v : Value} (hc : w.cell? p = some v) (hn : ¬ S p.block) : w'.cell? p = some v := (h.cell (World.block_lt_of_cell? w p hc) hn).trans hc
end Chg
inductive Y where
 | mk (kind : Int) (tag value : ByteArray) (content : List Y)
def Y.kind : Y → Int | .mk k _ _ _ => k
def Y.tag : Y → ByteArray | .mk _ t _ _ => t
def Y.value : Y → ByteArray | .mk _ _ v _ => v
def Y.content : Y → List Y | .mk _ _ _ c => c
def ycells (k : Int) (t v : ByteArray) (cv : Value) : Array Value :=
 #[.int .u32 k, .int .u32 0, .string t, .string v, .string ⟨#[]⟩, .pointer none, cv, .string ⟨#[]⟩, .string ⟨#[]⟩, .string ⟨#[]⟩, .int .i64 0, .int .i64 0]
abbrev ptr (b : Nat) : Value := .pointer (some ⟨b, 0, none⟩)
def ptrs (bs : List Nat) : List Value := bs.map ptr
theorem ptrs_append (as_ bs : List Nat) : ptrs (as_ ++ bs) = ptrs as_ ++ ptrs bs := by simp [ptrs]
open Go.Proofs.YtkpdkoafngjflaaGreat.PFnFields in
theorem strAt {w : World} {A : Option Addr} {n : Nat} {xs : List ByteArray} (h : Kd.string.C w A n xs) (j : Nat) (hj : j < n) : ∃ ad, A = some ad ∧ w.cell? (ad.add j) = some (.string (xs.getD j ByteArray.empty)) := by
 obtain ⟨ad, e, hc⟩ := Kd.at_string h (j : Int) (Int.natCast_nonneg _) (by omega)
 exact ⟨ad, e, by simpa [rdOf] using hc⟩
open Go.Proofs.YtkpdkoafngjflaaGreat.PFnFields in
theorem nodeAt {w : World} {A : Option Addr} {n : Nat} {xs : List S25} (h : Kd.C k25 w A n xs) (j : Nat) (hj : j < n) (y : S25) (hy : xs.getD j z25 = y) :
  ∃ ad A3 c3 A4 c4, A = some ad ∧ k25.K w y [.int .i64 y.f0, .string y.f1, .string y.f2, .slice A3 y.f3.length c3, .slice A4 y.f4.length c4] ∧
   w.cell? (ad.add (j * 5)) = some (.int .i64 y.f0) ∧ w.cell? ⟨(ad.add (j * 5)).block, (ad.add (j * 5)).off + 1, none⟩ = some (.string y.f1) ∧ w.cell? ⟨(ad.add (j * 5)).block, (ad.add (j * 5)).off + 2, none⟩ = some (.string y.f2) ∧
   w.cell? ⟨(ad.add (j * 5)).block, (ad.add (j * 5)).off + 3, none⟩ = some (.slice A3 y.f3.length c3) ∧ w.cell? ⟨(ad.add (j * 5)).block, (ad.add (j * 5)).off + 4, none⟩ = some (.slice A4 y.f4.length c4) := by
 obtain ⟨ad, A3, c3, A4, c4, e, f0, f1, f2, f3, f4, l3, g3, l4, g4⟩ := at_T25 h (j : Int) (Int.natCast_nonneg _) (by omega)
 simp only [rd_T25, Int.toNat_natCast, hy] at f0 f1 f2 f3 f4 l3 g3 l4 g4
 exact ⟨ad, A3, c3, A4, c4, e, k25_mk w y l3 g3 l4 g4, f0, f1, f2, f3, f4⟩
mutual
def YN (w : World) : (Nat → Prop) → Nat → Y → Prop
 | F, b, .mk k t v ys => F b ∧ ∃ cv bs, w.heap[b]? = some (.cells (ycells k t v cv) 82 (0, 0)) ∧ w.ownsRow 0 66 1 cv bs.length (ptrs bs) ∧
   (∀ g, cv.ownBlock = some g → F g) ∧ YL w (fun k => F k ∧ k ≠ b ∧ some k ≠ cv.ownBlock) bs ys
def YL (w : World) : (Nat → Prop) → List Nat → List Y → Prop
 | _, [], [] => True
 | F, b :: bs, y :: ys => ∃ F1 : Nat → Prop, (∀ k, F1 k → F k) ∧ YN w F1 b y ∧ YL w (fun k => F k ∧ ¬ F1 k) bs ys
 | _, _, _ => False
end
mutual
theorem YN.move {w w' : World} : ∀ {F F' : Nat → Prop} {b : Nat} {y : Y}, (∀ k, F k → F' k) → (∀ k, F k → k < w.heap.size → w'.heap[k]? = w.heap[k]?) → YN w F b y → YN w' F' b y
 |F, F', b, .mk k t v ys, hF, hm, h => by
  simp only [YN] at h ⊢
  obtain ⟨hb, cv, bs, h1, h2, h3, h4⟩ := h
  have hlt : ∀ {k o}, w.heap[k]? = some o → k < w.heap.size := fun e => (Array.getElem?_eq_some_iff.1 e).1
  refine ⟨hF b hb, cv, bs, (hm b hb (hlt h1)).trans h1, own_move h2 (fun k hk => hm k (h3 k hk) (own_lt h2 k hk)), fun g hg => hF g (h3 g hg), ?_⟩
  exact YL.move (fun k q => ⟨hF k q.1, q.2⟩) (fun k q => hm k q.1) h4
theorem YL.move {w w' : World} : ∀ {F F' : Nat → Prop} {bs : List Nat} {ys : List Y}, (∀ k, F k → F' k) → (∀ k, F k → k < w.heap.size → w'.heap[k]? = w.heap[k]?) → YL w F bs ys → YL w' F' bs ys
 | _, _, [], [], _, _, _ => by simp only [YL]
 |F, F', b :: bs, y :: ys, hF, hm, h => by
  simp only [YL] at h ⊢
  obtain ⟨F1, h1, h2, h3⟩ := h
  exact ⟨F1, fun k q => hF k (h1 k q), YN.move (fun _ q => q) (fun k q => hm k (h1 k q)) h2, YL.move (fun k q => ⟨hF k q.1, q.2⟩) (fun k q => hm k q.1) h3⟩
 | _, _, [], _ :: _, _, _, h => by simp only [YL] at h
 | _, _, _ :: _, [], _, _, h => by simp only [YL] at h
end
mutual
theorem YN.lt {w : World} : ∀ {F : Nat → Prop} {b : Nat} {y : Y}, YN w F b y → YN w (fun k => F k ∧ k < w.heap.size) b y
 |F, b, .mk k t v ys, h => by
  simp only [YN] at h ⊢
  obtain ⟨hb, cv, bs, h1, h2, h3, h4⟩ := h
  refine ⟨⟨hb, (Array.getElem?_eq_some_iff.1 h1).1⟩, cv, bs, h1, h2, fun g hg => ⟨h3 g hg, own_lt h2 g hg⟩, ?_⟩
  exact YL.move (fun k q => ⟨⟨q.1.1, q.2⟩, q.1.2⟩) (fun _ _ _ => rfl) (YL.lt h4)
theorem YL.lt {w : World} : ∀ {F : Nat → Prop} {bs : List Nat} {ys : List Y}, YL w F bs ys → YL w (fun k => F k ∧ k < w.heap.size) bs ys
 | _, [], [], _ => by simp only [YL]
 |F, b :: bs, y :: ys, h => by
  simp only [YL] at h ⊢
  obtain ⟨F1, h1, h2, h3⟩ := h
  exact ⟨fun k => F1 k ∧ k < w.heap.size, fun k q => ⟨h1 k q.1, q.2⟩, YN.lt h2, YL.move (fun k q => ⟨⟨q.1.1, q.2⟩, fun r => q.1.2 r.1⟩) (fun _ _ _ => rfl) (YL.lt h3)⟩
 | _, [], _ :: _, h => by simp only [YL] at h
 | _, _ :: _, [], h => by simp only [YL] at h
end
theorem YN.chg {w w' : World} {S F : Nat → Prop} {b : Nat} {y : Y} (h : YN w F b y) (hc : Chg S w w') (hs : ∀ k, F k → ¬ S k) : YN w' F b y :=
 YN.move (fun _ q => q) (fun k hk hl => hc.block k hl (hs k hk)) h
theorem YL.chg {w w' : World} {S F : Nat → Prop} {bs : List Nat} {ys : List Y} (h : YL w F bs ys) (hc : Chg S w w') (hs : ∀ k, F k → ¬ S k) : YL w' F bs ys :=
 YL.move (fun _ q => q) (fun k hk hl => hc.block k hl (hs k hk)) h
theorem YN.below {w w' : World} {F : Nat → Prop} {b : Nat} {y : Y} (h : YN w F b y) (hb : Below w.heap.size w w') : YN w' F b y :=
 YN.move (fun _ q => q) (fun k _ hl => hb.block k hl) h
theorem YL.below {w w' : World} {F : Nat → Prop} {bs : List Nat} {ys : List Y} (h : YL w F bs ys) (hb : Below w.heap.size w w') : YL w' F bs ys :=
 YL.move (fun _ q => q) (fun k _ hl => hb.block k hl) h
theorem YN.mono {w : World} {F F' : Nat → Prop} {b : Nat} {y : Y} (h : YN w F b y) (hF : ∀ k, F k → F' k) : YN w F' b y := YN.move hF (fun _ _ _ => rfl) h
theorem YL.mono {w : World} {F F' : Nat → Prop} {bs : List Nat} {ys : List Y} (h : YL w F bs ys) (hF : ∀ k, F k → F' k) : YL w F' bs ys := YL.move hF (fun _ _ _ => rfl) h
theorem YL.length {w : World} : ∀ {F : Nat → Prop} {bs : List Nat} {ys : List Y}, YL w F bs ys → bs.length = ys.length
 | _, [], [], _ => rfl
 |_, b :: bs, y :: ys, h => by
  simp only [YL] at h
  obtain ⟨_, _, _, h3⟩ := h
  simp [YL.length h3]
 | _, [], _ :: _, h => by simp only [YL] at h
 | _, _ :: _, [], h => by simp only [YL] at h
theorem YL.get {w : World} : ∀ {F : Nat → Prop} {bs : List Nat} {ys : List Y} (i : Nat), YL w F bs ys → (hi : i < ys.length) → ∃ b F1, bs[i]? = some b ∧ (∀ k, F1 k → F k) ∧ YN w F1 b (ys[i]'hi)
 | _, [], [], i, _, hi => absurd hi (Nat.not_lt_zero _)
 |F, b :: bs, y :: ys, 0, h, _ => by
  simp only [YL] at h
  obtain ⟨F1, h1, h2, _⟩ := h
  exact ⟨b, F1, rfl, h1, h2⟩
 |F, b :: bs, y :: ys, i + 1, h, hi => by
  simp only [YL] at h
  obtain ⟨F1, _, _, h3⟩ := h
  obtain ⟨c, F2, e, hF, hy⟩ := YL.get i h3 (by simpa using hi)
  exact ⟨c, F2, by simpa using e, fun k q => (hF k q).1, by simpa using hy⟩
 | _, [], _ :: _, _, h, _ => by simp only [YL] at h
 | _, _ :: _, [], _, h, _ => by simp only [YL] at h
theorem YL.append {w : World} : ∀ {F F1 F2 : Nat → Prop} {as_ bs : List Nat} {xs ys : List Y}, YL w F1 as_ xs → YL w F2 bs ys → (∀ k, F1 k → F k) → (∀ k, F2 k → F k) → (∀ k, F1 k → ¬ F2 k) → YL w F (as_ ++ bs) (xs ++ ys)
 | F, F1, F2, [], bs, [], ys, _, h2, _, hF, _ => by simpa using h2.mono hF
 |F, F1, F2, a :: as_, bs, x :: xs, ys, h1, h2, hF1, hF2, hd => by
  simp only [YL] at h1
  obtain ⟨G, g1, g2, g3⟩ := h1
  simp only [List.cons_append, YL]
  refine ⟨G, fun k q => hF1 k (g1 k q), g2, ?_⟩
  exact YL.append (F1 := fun k => F1 k ∧ ¬ G k) g3 h2 (fun k q => ⟨hF1 k q.1, q.2⟩) (fun k q => ⟨hF2 k q, fun r => hd k (g1 k r) q⟩) (fun k q => hd k q.1)
 | _, _, _, [], _, _ :: _, _, h, _, _, _, _ => by simp only [YL] at h
 | _, _, _, _ :: _, _, [], _, h, _, _, _, _ => by simp only [YL] at h
theorem YL.one {w : World} {F : Nat → Prop} {b : Nat} {y : Y} (h : YN w F b y) : YL w F [b] [y] := by
 simp only [YL]
 exact ⟨F, fun _ q => q, h, trivial⟩
theorem YN.open_ {w : World} {F : Nat → Prop} {b : Nat} {y : Y} (h : YN w F b y) : F b ∧ ∃ cv bs, w.heap[b]? = some (.cells (ycells y.kind y.tag y.value cv) 82 (0, 0)) ∧ w.ownsRow 0 66 1 cv bs.length (ptrs bs) ∧
   (∀ g, cv.ownBlock = some g → F g) ∧ YL w (fun k => F k ∧ k ≠ b ∧ some k ≠ cv.ownBlock) bs y.content := by
 cases y
 simpa only [YN, Y.kind, Y.tag, Y.value, Y.content] using h
theorem YN.close {w : World} {F : Nat → Prop} {b : Nat} {k : Int} {t v : ByteArray} {ys : List Y} {cv : Value} {bs : List Nat} (hb : F b) (h1 : w.heap[b]? = some (.cells (ycells k t v cv) 82 (0, 0)))
  (h2 : w.ownsRow 0 66 1 cv bs.length (ptrs bs)) (h3 : ∀ g, cv.ownBlock = some g → F g) (h4 : YL w (fun k => F k ∧ k ≠ b ∧ some k ≠ cv.ownBlock) bs ys) : YN w F b (.mk k t v ys) := by
 simp only [YN]
 exact ⟨hb, cv, bs, h1, h2, h3, h4⟩
theorem cell_of_block {w : World} {b i : Nat} {cs : Array Value} {t : TypeId} {fr : Nat × Nat} (h : w.heap[b]? = some (.cells cs t fr)) : w.cell? ⟨b, i, none⟩ = cs[i]? := by
 simp [World.cell?, h]
theorem frozen_of_block {w : World} {b i : Nat} {cs : Array Value} {t : TypeId} (h : w.heap[b]? = some (.cells cs t (0, 0))) : w.frozen? ⟨b, i, none⟩ = false := by
 simp [World.frozen?, h]
theorem fc_ {w : World} {b : Nat} {t : TypeId} {v0 v1 v2 v3 v4 : Value} (h : w.heap[b]? = some (.cells #[v0, v1, v2, v3, v4] t (0, 0))) :
  w.cell? ⟨b, 0, none⟩ = some v0 ∧ w.cell? ⟨b, 1, none⟩ = some v1 ∧ w.cell? ⟨b, 2, none⟩ = some v2 ∧ w.cell? ⟨b, 3, none⟩ = some v3 ∧ w.cell? ⟨b, 4, none⟩ = some v4 ∧
  w.frozen? ⟨b, 0, none⟩ = false ∧ w.frozen? ⟨b, 1, none⟩ = false ∧ w.frozen? ⟨b, 2, none⟩ = false ∧ w.frozen? ⟨b, 3, none⟩ = false ∧ w.frozen? ⟨b, 4, none⟩ = false :=
 ⟨(cell_of_block (i := 0) h).trans rfl, (cell_of_block (i := 1) h).trans rfl, (cell_of_block (i := 2) h).trans rfl, (cell_of_block (i := 3) h).trans rfl, (cell_of_block (i := 4) h).trans rfl, frozen_of_block (i := 0) h, frozen_of_block (i := 1) h, frozen_of_block (i := 2) h, frozen_of_block (i := 3) h, frozen_of_block (i := 4) h⟩
theorem lt_of_block {w : World} {b : Nat} {o : Obj} (h : w.heap[b]? = some o) : b < w.heap.size := (Array.getElem?_eq_some_iff.1 h).1
theorem heap_at {w : World} {n : Nat} (o : Obj) (h : n = w.heap.size) : (w.alloc o).heap[n]? = some o := by subst h; exact heap_alloc_new w o
theorem heap_old {w : World} {n : Nat} (o : Obj) (h : n < w.heap.size) : (w.alloc o).heap[n]? = w.heap[n]? := Below.heap_alloc w o n h
theorem heap_set {w : World} {a : Addr} {v : Value} {cs : Array Value} {t : TypeId} {fr : Nat × Nat} (h : w.heap[a.block]? = some (.cells cs t fr)) (hs : a.spot = none) : (w.setCell a v).heap[a.block]? = some (.cells (cs.setIfInBounds a.off v) t fr) := by
 simp [World.setCell, Array.getElem?_modify, h, hs]
theorem heap_set_ne {w : World} {a : Addr} {v : Value} {k : Nat} (h : k ≠ a.block) : (w.setCell a v).heap[k]? = w.heap[k]? := Below.heap_setCell w a v k h
theorem set5 {w : World} {r : Nat} {a0 a1 a2 a3 a4 v0 v1 v2 v3 v4 : Value} {t : TypeId} (h : w.heap[r]? = some (.cells #[a0, a1, a2, a3, a4] t (0, 0))) :
  ∃ w', ((((w.setCell ⟨r, 0, none⟩ v0).setCell ⟨r, 1, none⟩ v1).setCell ⟨r, 2, none⟩ v2).setCell ⟨r, 3, none⟩ v3).setCell ⟨r, 4, none⟩ v4 = w' ∧ w'.heap[r]? = some (.cells #[v0, v1, v2, v3, v4] t (0, 0)) ∧ Chg (fun k => k = r) w w' := by
 refine ⟨_, rfl, ?_, ?_⟩
 ·have h1 := heap_set (a := ⟨r, 0, none⟩) (v := v0) h rfl
  have h2 := heap_set (a := ⟨r, 1, none⟩) (v := v1) h1 rfl
  have h3 := heap_set (a := ⟨r, 2, none⟩) (v := v2) h2 rfl
  have h4 := heap_set (a := ⟨r, 3, none⟩) (v := v3) h3 rfl
  exact heap_set (a := ⟨r, 4, none⟩) (v := v4) h4 rfl
 ·have h0 := Chg.refl (fun k => k = r) w
  have h1 := h0.setCell (p := ⟨r, 0, none⟩) (.inl rfl) v0
  have h2 := h1.setCell (p := ⟨r, 1, none⟩) (.inl rfl) v1
  have h3 := h2.setCell (p := ⟨r, 2, none⟩) (.inl rfl) v2
  have h4 := h3.setCell (p := ⟨r, 3, none⟩) (.inl rfl) v3
  exact h4.setCell (p := ⟨r, 4, none⟩) (.inl rfl) v4
def rcells (fp : Value) (n : Value) (keep : Bool) (m : Value) : Array Value := #[fp, n, .bool keep, m]
def RN (w : World) (r b : Nat) : Prop := ∃ fp keep m, w.heap[r]? = some (.cells (rcells fp (ptr b) keep m) 78 (0, 0))
theorem RN.move {w w' : World} {r b : Nat} (h : RN w r b) (hm : r < w.heap.size → w'.heap[r]? = w.heap[r]?) : RN w' r b := by
 obtain ⟨fp, keep, m, h⟩ := h
 exact ⟨fp, keep, m, (hm (lt_of_block h)).trans h⟩
theorem RN.lt {w : World} {r b : Nat} (h : RN w r b) : r < w.heap.size := by
 obtain ⟨_, _, _, h⟩ := h
 exact lt_of_block h
theorem RN.below {w w' : World} {r b : Nat} (h : RN w r b) (hb : Below w.heap.size w w') : RN w' r b := h.move (fun l => hb.block r l)
def RN0 (w : World) (r b : Nat) : Prop := ∃ keep m, w.heap[r]? = some (.cells (rcells (.slice none 0 0) (ptr b) keep m) 78 (0, 0))
theorem RN0.rn {w : World} {r b : Nat} (h : RN0 w r b) : RN w r b := by
 obtain ⟨k, m, h⟩ := h
 exact ⟨_, k, m, h⟩
theorem RN0.move {w w' : World} {r b : Nat} (h : RN0 w r b) (hm : r < w.heap.size → w'.heap[r]? = w.heap[r]?) : RN0 w' r b := by
 obtain ⟨keep, m, h⟩ := h
 exact ⟨keep, m, (hm (lt_of_block h)).trans h⟩
theorem RN0.below {w w' : World} {r b : Nat} (h : RN0 w r b) (hb : Below w.heap.size w w') : RN0 w' r b := h.move (fun l => hb.block r l)
theorem RN.value {w : World} {r b : Nat} (h : RN w r b) : w.cell? ⟨r, 1, none⟩ = some (ptr b) := by
 obtain ⟨_, _, _, h⟩ := h
 rw [cell_of_block h]
 rfl
def NB (w : World) (b : Nat) (k : Int) (t v : ByteArray) (cv : Value) : Prop := w.heap[b]? = some (.cells (ycells k t v cv) 82 (0, 0))
namespace NB
variable {w w' : World} {b : Nat} {k : Int} {t v : ByteArray} {cv : Value}
theorem kind (h : NB w b k t v cv) : w.cell? ⟨b, 0, none⟩ = some (.int .u32 k) := by rw [cell_of_block h]; rfl
theorem style (h : NB w b k t v cv) : w.cell? ⟨b, 1, none⟩ = some (.int .u32 0) := by rw [cell_of_block h]; rfl
theorem tag (h : NB w b k t v cv) : w.cell? ⟨b, 2, none⟩ = some (.string t) := by rw [cell_of_block h]; rfl
theorem value (h : NB w b k t v cv) : w.cell? ⟨b, 3, none⟩ = some (.string v) := by rw [cell_of_block h]; rfl
theorem content (h : NB w b k t v cv) : w.cell? ⟨b, 6, none⟩ = some cv := by rw [cell_of_block h]; rfl
theorem lt (h : NB w b k t v cv) : b < w.heap.size := lt_of_block h
theorem move (h : NB w b k t v cv) (hm : b < w.heap.size → w'.heap[b]? = w.heap[b]?) : NB w' b k t v cv := (hm h.lt).trans h
theorem below (h : NB w b k t v cv) (hb : Below w.heap.size w w') : NB w' b k t v cv := h.move (fun l => hb.block b l)
end NB
theorem alloc_step {S : Nat → Prop} {wr wc : World} (HC : Chg S wr wc) (o : Obj) : ∃ w1 n, wc.alloc o = w1 ∧ wc.heap.size = n ∧ Chg S wr w1 ∧ Below wc.heap.size wc w1 ∧ w1.heap[n]? = some o ∧ w1.heap.size = n + 1 :=
 ⟨_, _, rfl, rfl, HC.alloc o, (Below.refl _ _).alloc (Nat.le_refl _) _, heap_at o rfl, by simp⟩
theorem call_step {S : Nat → Prop} {wr wc w1 : World} {b : Nat} {y : Y} (HC : Chg S wr wc) (hy : YN w1 (fun k => wc.heap.size ≤ k) b y) (hb : Below wc.heap.size wc w1) :
  ∃ lo hi, wc.heap.size = lo ∧ w1.heap.size = hi ∧ lo ≤ hi ∧ Chg S wr w1 ∧ YN w1 (fun k => lo ≤ k ∧ k < hi) b y :=
 ⟨_, _, rfl, rfl, hb.size, HC.trans (Chg.of_below hb) (fun _ (q : False) => q.elim), hy.lt⟩
theorem grow_step {nb base : Nat} {wr w1 w2 : World} {cv : Value} {n m g cap : Nat} {bs nbs : List Nat} {ys nys : List Y} {k : Int} {t v : ByteArray} {F2 : Nat → Prop}
  (HN : NB wr nb k t v cv) (hnb : nb < base) (HO : wr.ownsRow base 66 1 cv n (ptrs bs)) (HY : YL wr (fun k => base ≤ k ∧ some k ≠ cv.ownBlock) bs ys)
  (hc : Chg (fun _ => False) wr w1) (HY2 : YL w1 F2 nbs nys) (hF2 : ∀ k, F2 k → wr.heap.size ≤ k) (hbase : base ≤ wr.heap.size)
  (hown : w2.ownsRow base 66 1 (.slice (some ⟨g, 0, none⟩) (n + m) cap) (n + m) (ptrs bs ++ ptrs nbs)) (hg : w1.grownBy w2 cv.ownBlock) (hat : cv.ownBlock = some g ∨ g = w1.heap.size) :
  NB (w2.setCell ⟨nb, 6, none⟩ (.slice (some ⟨g, 0, none⟩) (n + m) cap)) nb k t v (.slice (some ⟨g, 0, none⟩) (n + m) cap) ∧
  (w2.setCell ⟨nb, 6, none⟩ (.slice (some ⟨g, 0, none⟩) (n + m) cap)).ownsRow base 66 1 (.slice (some ⟨g, 0, none⟩) (n + m) cap) (n + m) (ptrs (bs ++ nbs)) ∧
  YL (w2.setCell ⟨nb, 6, none⟩ (.slice (some ⟨g, 0, none⟩) (n + m) cap)) (fun k => base ≤ k ∧ some k ≠ (Value.slice (some ⟨g, 0, none⟩) (n + m) cap).ownBlock) (bs ++ nbs) (ys ++ nys) ∧
  Chg (fun k => k = nb ∨ some k = cv.ownBlock) wr (w2.setCell ⟨nb, 6, none⟩ (.slice (some ⟨g, 0, none⟩) (n + m) cap)) := by
 have hnl := HN.lt
 have hob : ∀ k, cv.ownBlock = some k → base ≤ k := own_base HO
 have hol : ∀ k, cv.ownBlock = some k → k < wr.heap.size := own_lt HO
 have hgb : base ≤ g := own_base hown g rfl
 have b12 : ∀ k, k < w1.heap.size → some k ≠ cv.ownBlock → w2.heap[k]? = w1.heap[k]? := fun k hk hn => hg.block k hk hn
 have br1 : ∀ k, k < wr.heap.size → w1.heap[k]? = wr.heap[k]? := fun k hk => hc.block k hk (fun q => q)
 have hs1 := hc.size
 have hN2 : NB w2 nb k t v cv := (b12 nb (by omega) (fun e => by have := hob _ e.symm; omega)).trans ((br1 nb hnl).trans HN)
 refine ⟨?_, ?_, ?_, ?_⟩
 ·have := heap_set (a := ⟨nb, 6, none⟩) (v := .slice (some ⟨g, 0, none⟩) (n + m) cap) hN2 rfl
  exact this
 ·rw [ptrs_append]
  exact own_move hown (fun k hk => heap_set_ne (by
   have : g = k := by simpa [Value.ownBlock] using hk
   show k ≠ nb
   omega))
 ·refine YL.append (F1 := fun k => (base ≤ k ∧ some k ≠ cv.ownBlock) ∧ k < wr.heap.size) (F2 := fun k => F2 k ∧ k < w1.heap.size) ?_ ?_ ?_ ?_ ?_
  ·refine YL.move (fun _ q => q) (fun k hk _ => ?_) HY.lt
   rw [heap_set_ne (by show k ≠ nb; omega), b12 k (by omega) hk.1.2, br1 k hk.2]
  ·refine YL.move (fun _ q => q) (fun k hk _ => ?_) HY2.lt
   have := hF2 k hk.1
   rw [heap_set_ne (by show k ≠ nb; omega), b12 k hk.2 (fun e => by have := hol _ e.symm; omega)]
  ·rintro k ⟨⟨h1, h2⟩, h3⟩
   refine ⟨h1, fun e => ?_⟩
   have e' : k = g := by simpa [Value.ownBlock] using e
   rcases hat with h | h
   ·exact h2 (by rw [e', h])
   ·omega
  ·rintro k ⟨h1, h2⟩
   have := hF2 k h1
   refine ⟨by omega, fun e => ?_⟩
   have e' : k = g := by simpa [Value.ownBlock] using e
   rcases hat with h | h
   ·have := hol _ h; omega
   ·omega
  ·rintro k ⟨_, h1⟩ ⟨h2, _⟩
   have := hF2 k h2
   omega
 ·refine Chg.setCell ?_ (.inl (.inl rfl)) _
  exact (hc.mono (fun _ q => q.elim)).grown hg (fun k e => .inl (.inr e.symm))
theorem R_upd {α : Type} {d : Kd α} {e : Nat} {w w1 : World} {base : Nat} {ok : Nat → Prop} {v : Value} {xs : List α} (h : d.R e w base ok v xs) (hm : ∀ k, ok k → base ≤ k → k < w.heap.size → w1.heap[k]? = w.heap[k]?) : d.R e w1 base ok v xs :=
 Kd.R_mono (Kd.R_move (Kd.R_bound h) (fun k hk => hm k hk.1 hk.2.1 hk.2.2.1)) (fun _ hk => hk.1)
theorem R_own {α : Type} {d : Kd α} {e : Nat} {w : World} {base : Nat} {ok : Nat → Prop} {v : Value} {xs : List α} (h : d.R e w base ok v xs) (k : Nat) (hk : v.ownBlock = some k) : base ≤ k ∧ k < w.heap.size ∧ ok k := by
 obtain ⟨inner, ho⟩ := Kd.R_own h
 exact ⟨own_base ho k hk, own_lt ho k hk, h.1 k hk⟩
theorem R_types_ne {α β : Type} {d : Kd α} {d' : Kd β} {e e' : Nat} {w : World} {base base' : Nat} {ok ok' : Nat → Prop} {v v' : Value} {xs : List α} {ys : List β} (h : d.R e w base ok v xs) (h' : d'.R e' w base' ok' v' ys) (hne : e ≠ e') (k : Nat) (hk : v.ownBlock = some k) : some k ≠ v'.ownBlock := by
 obtain ⟨inner, ho⟩ := Kd.R_own h
 obtain ⟨inner', ho'⟩ := Kd.R_own h'
 rcases own_type_ne ho ho' hne with h1 | h1
 ·rw [h1] at hk; cases hk
 ·rw [← hk]; exact h1
theorem world_ {P : Program} {md : Region.Mode} {ops : Array Oper} {Q : Exit → Act → World → Prop} {S : World → Prop} {ds : List Nat} {fuel : Nat} {l : Array Bool} {a : Act} {w w' : World} (h : w = w')
  (k : Go.Proofs.YtkpdkoafngjflaaGreatW.PrintLast.wpAnyLast P md ops Q S ds fuel l a w') : Go.Proofs.YtkpdkoafngjflaaGreatW.PrintLast.wpAnyLast P md ops Q S ds fuel l a w := by
 subst h
 exact k
def Live (k : Int) (t : ByteArray) : Prop := (k == 1) = false ∧ (t.toList == [33, 33, 110, 117, 108, 108]) = false
theorem ynode_calls (w : World) (r b : Nat) (hr : RN w r b) (k : Int) (t v : ByteArray) (cv : Value) (hn : NB w b k t v cv) (hl : Live k t) :
  Calls Tryz.prog 37 #[ptr r] w fun e w' => e = .returned (ptr b) ∧ w = w' := by
 have c1 := hr.value
 have c2 := hn.kind
 have h1 := hl.1
 clear hr hn hl
 go_enter Tryz.func37, Tryz.ntmps37
 go_wp2
 go_ret
 exact ⟨rfl, rfl⟩
theorem isnil_calls (w : World) (r b : Nat) (hr : RN w r b) (k : Int) (t v : ByteArray) (cv : Value) (hn : NB w b k t v cv) (hl : Live k t) :
  Calls Tryz.prog 67 #[ptr r] w fun e w' => e = .returned (.bool false) ∧ w = w' := by
 go_enter Tryz.func67, Tryz.ntmps67
 go_wp2_with (go_at_call 37; refine (ynode_calls _ r b hr k t v cv hn hl).mono ?_; rintro e w' ⟨rfl, rfl⟩)
 go_ret
 exact ⟨rfl, rfl⟩
theorem isnil_nil (w : World) :
  Calls Tryz.prog 67 #[.pointer none] w fun e w' => e = .returned (.bool true) ∧ w = w' := by
 go_enter Tryz.func67, Tryz.ntmps67
 go_wp2
 go_ret
 exact ⟨rfl, rfl⟩
theorem missing_calls (w : World) (r b : Nat) (hr : RN w r b) (k : Int) (t v : ByteArray) (cv : Value) (hn : NB w b k t v cv) (hl : Live k t) :
  Calls Tryz.prog 50 #[ptr r] w fun e w' => e = .returned (.bool false) ∧ w = w' := by
 have c1 := hn.tag
 have h2 := hl.2
 go_enter Tryz.func50, Tryz.ntmps50
 go_wp2_with (first | (go_at_call 37; refine (ynode_calls _ r b hr k t v cv hn hl).mono ?_; rintro e w' ⟨rfl, rfl⟩) | (go_at_call 67; refine (isnil_calls _ r b hr k t v cv hn hl).mono ?_; rintro e w' ⟨rfl, rfl⟩))
 go_ret
 exact ⟨rfl, rfl⟩
theorem missing_nil (w : World) :
  Calls Tryz.prog 50 #[.pointer none] w fun e w' => e = .returned (.bool true) ∧ w = w' := by
 go_enter Tryz.func50, Tryz.ntmps50
 go_wp2_with (go_at_call 67; refine (isnil_nil _).mono ?_; rintro e w' ⟨rfl, rfl⟩)
 go_ret
 exact ⟨rfl, rfl⟩
theorem content_calls (w : World) (r b : Nat) (hr : RN w r b) (k : Int) (t v : ByteArray) (cv : Value) (hn : NB w b k t v cv) (hl : Live k t) :
  Calls Tryz.prog 74 #[ptr r] w fun e w' => e = .returned cv ∧ w = w' := by
 have c1 := hn.content
 go_enter Tryz.func74, Tryz.ntmps74
 go_wp2_with (go_at_call 37; refine (ynode_calls _ r b hr k t v cv hn hl).mono ?_; rintro e w' ⟨rfl, rfl⟩)
 go_ret
 exact ⟨rfl, rfl⟩
theorem valid_calls (w : World) (r b : Nat) (hr : RN w r b) (k : Int) (t v : ByteArray) (A : Option Addr) (n c : Nat) (hn : NB w b k t v (.slice A n c)) (hl : Live k t) (he : (k == 4) = true → n % 2 = 0) (hm : n ≤ 9223372036854775807) :
  Calls Tryz.prog 51 #[ptr r, .int .u32 k] w fun e w' => e = .returned .nilIface ∧ w = w' := by
 have c1 := hn.kind
 have c2 := hn.content
 have hk0 : (k != k) = false := by simp
 by_cases h4 : (k == 4) = true
 ·have hev := he h4
  have hm1 : ((n : Int).tmod 2) = 0 := by
   rw [Int.tmod_eq_emod_of_nonneg (by omega)]
   omega
  have hm2 : wrap64 ((n : Int).tmod 2) = 0 := by rw [hm1]; unfold wrap64; omega
  clear he
  go_enter Tryz.func51, Tryz.ntmps51
  go_wp2_with (first | (go_at_call 37; refine (ynode_calls _ r b hr k t v _ hn hl).mono ?_; rintro e w' ⟨rfl, rfl⟩) | (go_at_call 50; refine (missing_calls _ r b hr k t v _ hn hl).mono ?_; rintro e w' ⟨rfl, rfl⟩))
  go_ret
  exact ⟨rfl, rfl⟩
 ·have h4' : (k == 4) = false := by simpa using h4
  clear he h4
  go_enter Tryz.func51, Tryz.ntmps51
  go_wp2_with (first | (go_at_call 37; refine (ynode_calls _ r b hr k t v _ hn hl).mono ?_; rintro e w' ⟨rfl, rfl⟩) | (go_at_call 50; refine (missing_calls _ r b hr k t v _ hn hl).mono ?_; rintro e w' ⟨rfl, rfl⟩))
  go_ret
  exact ⟨rfl, rfl⟩
theorem newrnode_calls (w : World) (b : Nat) :
  Calls Tryz.prog 34 #[ptr b] w fun e w' => e = .returned (ptr w.heap.size) ∧ w.alloc (.cells (rcells (.slice none 0 0) (ptr b) false (.slice none 0 0)) 78) = w' := by
 go_enter Tryz.func34, Tryz.ntmps34
 go_wp2
 go_ret
 exact ⟨rfl, rfl⟩
theorem RN0.new (w : World) (b : Nat) : RN0 (w.alloc (.cells (rcells (.slice none 0 0) (ptr b) false (.slice none 0 0)) 78)) w.heap.size b :=
 ⟨_, _, heap_alloc_new w _⟩
theorem RN.new (w : World) (b : Nat) : RN (w.alloc (.cells (rcells (.slice none 0 0) (ptr b) false (.slice none 0 0)) 78)) w.heap.size b :=
 ⟨_, _, _, heap_alloc_new w _⟩
end Go.Proofs.YtkpdkoafngjflaaGreat
