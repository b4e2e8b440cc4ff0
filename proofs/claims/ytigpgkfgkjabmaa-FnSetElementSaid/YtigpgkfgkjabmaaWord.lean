/-
  Words: what spec.IsWord, impl.plain and impl.typed say of a text, in plain Lean.
-/
import Derived.Test.YtigpgkfgkjabmaaPFnFieldsx1
import Derived.Test.YtigpgkfgkjabmaaPFnFieldsx2
import Derived.Test.YtigpgkfgkjabmaaPFnFieldsx3
import Derived.Test.YtigpgkfgkjabmaaPFnFieldsx4
namespace Go.Proofs.Ytigpgkfgkjabmaa
open Go.RowKit Go.Proofs.YtigpgkfgkjabmaaW.PrintWords Go.Proofs.Ytigpgkfgkjabmaa.PFnFields
set_option linter.unusedVariables false
set_option linter.unusedSimpArgs false

theorem wrap_succ {i : Int} {n : Nat} (h0 : 0 ≤ i) (h : i < (n : Int)) (hn : n ≤ 9223372036854775807) : wrap64 (i + 1) = i + 1 := by
  unfold wrap64
  omega
theorem wrap_pred {n : Nat} (h : 1 ≤ n) (hn : n ≤ 9223372036854775807) : wrap64 ((n : Int) - 1) = (n : Int) - 1 := by
  unfold wrap64
  omega

/-- A byte that a word may have. -/
def wordByte (c : Int) : Prop := (97 ≤ c ∧ c ≤ 122) ∨ (48 ≤ c ∧ c ≤ 57) ∨ c = 45
/-- A word. -/
structure Word (s : ByteArray) : Prop where
  pos : 1 ≤ s.size
  le : s.size ≤ 20
  first : 97 ≤ bt s 0 ∧ bt s 0 ≤ 122
  all : ∀ i : Int, 0 ≤ i → i < s.size → wordByte (bt s i)
  last : bt s ((s.size : Int) - 1) ≠ 45
  noTrue : s.toList ≠ [116, 114, 117, 101]
  noFalse : s.toList ≠ [102, 97, 108, 115, 101]
  noNull : s.toList ≠ [110, 117, 108, 108]

theorem ite_some_false {c : Prop} [Decidable c] {x : Option Bool} {p : Prop} (h : ∃ r, x = some r ∧ (r = true → p)) : ∃ r, (if c then some false else x) = some r ∧ (r = true → p) := by
  by_cases hc : c
  · rw [if_pos hc]; exact ⟨_, rfl, fun h => by cases h⟩
  · rw [if_neg hc]; exact h
theorem isWord_l0 (s : ByteArray) (hn : s.size ≤ 9223372036854775807) (d : Nat) : ∀ (k : Nat) (i : Int), 0 ≤ i → i ≤ s.size → (s.size : Int) - i = d → d < k → (∀ j : Int, 0 ≤ j → j < i → wordByte (bt s j)) → (0 < i → 97 ≤ bt s 0 ∧ bt s 0 ≤ 122) →
    ∃ r, spec_IsWord.l0 k s i = some r ∧ (r = true → Word s) := by
  induction d with
  | zero =>
    intro k i h0 h1 hd hk hw hf
    obtain ⟨k, rfl⟩ : ∃ m, k = m + 1 := ⟨k - 1, by omega⟩
    have hi : i = (s.size : Int) := by omega
    subst hi
    simp only [spec_IsWord.l0]
    rw [if_neg (by omega)]
    by_cases c1 : s.toList = [116, 114, 117, 101]
    · rw [if_pos c1]; exact ⟨_, rfl, fun h => by cases h⟩
    rw [if_neg c1]
    by_cases c2 : s.toList = [102, 97, 108, 115, 101]
    · rw [if_pos c2]; exact ⟨_, rfl, fun h => by cases h⟩
    rw [if_neg c2]
    by_cases c3 : s.toList = [110, 117, 108, 108]
    · rw [if_pos c3]; exact ⟨_, rfl, fun h => by cases h⟩
    rw [if_neg c3]
    repeat (first | (refine ite_some_false ?_) | fail)
    by_cases p1 : (s.size : Int) ≥ 1
    · rw [if_pos p1]
      by_cases p2 : (s.size : Int) ≤ 20
      · rw [if_pos p2, wrap_pred (by omega) hn, if_pos (by omega), if_pos (by omega)]
        refine ⟨_, rfl, fun h => ⟨by omega, by omega, hf (by omega), hw, ?_, c1, c2, c3⟩⟩
        simpa using h
      · rw [if_neg p2]; exact ⟨_, rfl, fun h => by cases h⟩
    · rw [if_neg p1]; exact ⟨_, rfl, fun h => by cases h⟩
  | succ d ih =>
    intro k i h0 h1 hd hk hw hf
    obtain ⟨k, rfl⟩ : ∃ m, k = m + 1 := ⟨k - 1, by omega⟩
    have hlt : i < (s.size : Int) := by omega
    simp only [spec_IsWord.l0]
    rw [if_pos hlt, if_pos h0]
    rw [wrap_succ h0 hlt hn]
    by_cases hb : wordByte (bt s i) ∧ (i = 0 → 97 ≤ bt s 0 ∧ bt s 0 ≤ 122)
    · obtain ⟨r, hr, hi⟩ := ih k (i + 1) (by omega) (by omega) (by omega) (by omega) (fun j hj0 hj => by
        rcases Int.lt_or_le j i with h | h
        · exact hw j hj0 h
        · rw [show j = i by omega]; exact hb.1) (fun _ => by
        rcases Int.lt_or_le 0 i with h | h
        · exact hf h
        · exact hb.2 (by omega))
      refine ⟨r, ?_, hi⟩
      rw [hr]
      have h2 := hb.1
      unfold wordByte at h2
      have h3 : i = 0 → 97 ≤ bt s i ∧ bt s i ≤ 122 := fun h => by rw [h]; exact hb.2 h
      repeat' split
      all_goals first | rfl | omega
    · refine ⟨false, ?_, fun h => by cases h⟩
      have h3 : ¬ (wordByte (bt s i) ∧ (i = 0 → 97 ≤ bt s i ∧ bt s i ≤ 122)) := fun h => hb ⟨h.1, fun e => by have := h.2 e; rwa [e] at this⟩
      unfold wordByte at h3
      repeat' split
      all_goals first | rfl | (exfalso; omega)

theorem isWord_calls (s : ByteArray) (w : World) (hn : s.size ≤ 9223372036854775807) :
    Calls Try.prog 23 #[.string s] w fun e w' => ∃ r, e = .returned (.bool r) ∧ (r = true → Word s) ∧ Drawn0 w w' := by
  obtain ⟨r, hr, h⟩ := isWord_l0 s hn s.size (s.size + 1) 0 (by omega) (by omega) (by omega) (by omega) (fun j h0 h1 => by omega) (fun h => by omega)
  exact (spec_IsWord.calls _ s r w hr).mono fun e w' ⟨he, hd⟩ => ⟨r, he, h, hd⟩

/-- Words are plain. -/
theorem plain_l0 (s : ByteArray) (hs : Word s) (d : Nat) : ∀ (k : Nat) (i : Int), 0 ≤ i → i ≤ s.size → (s.size : Int) - i = d → d < k → impl_plain.l0 k s s.size i = some true := by
  have hle := hs.le
  induction d with
  | zero =>
    intro k i h0 h1 hd hk
    obtain ⟨k, rfl⟩ : ∃ m, k = m + 1 := ⟨k - 1, by omega⟩
    simp only [impl_plain.l0]
    have := hs.pos
    rw [if_neg (by omega), if_pos (by omega)]
    simp; omega
  | succ d ih =>
    intro k i h0 h1 hd hk
    obtain ⟨k, rfl⟩ : ∃ m, k = m + 1 := ⟨k - 1, by omega⟩
    have hlt : i < (s.size : Int) := by omega
    have h2 := hs.all i h0 hlt
    have h3 := hs.first
    have h4 : i = 0 → 97 ≤ bt s i ∧ bt s i ≤ 122 := fun e => by rw [e]; exact h3
    unfold wordByte at h2
    have hr := ih k (i + 1) (by omega) (by omega) (by omega) (by omega)
    simp only [impl_plain.l0]
    rw [if_pos hlt, if_pos h0, if_pos hlt, wrap_succ h0 hlt (by omega)]
    rcases h2 with h2 | h2 | h2
    · rw [if_pos (show bt s i ≥ 97 by omega), if_pos (show bt s i ≤ 122 by omega)]; exact hr
    · rw [if_neg (show ¬ bt s i ≥ 97 by omega), if_neg (show ¬ bt s i ≥ 65 by omega), if_pos (show bt s i ≥ 48 by omega), if_pos (show bt s i ≤ 57 by omega)]; exact hr
    · rw [if_neg (show ¬ bt s i ≥ 97 by omega), if_neg (show ¬ bt s i ≥ 65 by omega), if_neg (show ¬ bt s i ≥ 48 by omega), if_neg (show ¬ i = 0 by omega), if_neg (show ¬ bt s i = 46 by omega), if_neg (show ¬ bt s i = 95 by omega), if_neg (show ¬ bt s i = 47 by omega), if_pos h2]; exact hr
theorem plain_calls (s : ByteArray) (w : World) (hs : Word s) :
    Calls Try.prog 46 #[.string s] w fun e w' => e = .returned (.bool true) ∧ Drawn0 w w' :=
  impl_plain.calls (s.size + 1) s true w (plain_l0 s hs s.size (s.size + 1) 0 (by omega) (by omega) (by omega) (by omega))

/-- A number of one to nine figures. -/
structure Num (s : ByteArray) : Prop where
  pos : 1 ≤ s.size
  le : s.size ≤ 9
  all : ∀ i : Int, 0 ≤ i → i < s.size → 48 ≤ bt s i ∧ bt s i ≤ 57
theorem plainNum_l0 (s : ByteArray) (hs : Num s) (d : Nat) : ∀ (k : Nat) (i : Int), 0 ≤ i → i ≤ s.size → (s.size : Int) - i = d → d < k → impl_plain.l0 k s s.size i = some true := by
  have hle := hs.le
  induction d with
  | zero =>
    intro k i h0 h1 hd hk
    obtain ⟨k, rfl⟩ : ∃ m, k = m + 1 := ⟨k - 1, by omega⟩
    simp only [impl_plain.l0]
    have := hs.pos
    rw [if_neg (by omega), if_pos (by omega)]
    simp; omega
  | succ d ih =>
    intro k i h0 h1 hd hk
    obtain ⟨k, rfl⟩ : ∃ m, k = m + 1 := ⟨k - 1, by omega⟩
    have hlt : i < (s.size : Int) := by omega
    have h2 := hs.all i h0 hlt
    have hr := ih k (i + 1) (by omega) (by omega) (by omega) (by omega)
    simp only [impl_plain.l0]
    rw [if_pos hlt, if_pos h0, if_pos hlt, wrap_succ h0 hlt (by omega)]
    rw [if_neg (show ¬ bt s i ≥ 97 by omega), if_neg (show ¬ bt s i ≥ 65 by omega), if_pos (show bt s i ≥ 48 by omega), if_pos (show bt s i ≤ 57 by omega)]; exact hr
theorem plainNum_calls (s : ByteArray) (w : World) (hs : Num s) :
    Calls Try.prog 46 #[.string s] w fun e w' => e = .returned (.bool true) ∧ Drawn0 w w' :=
  impl_plain.calls (s.size + 1) s true w (plainNum_l0 s hs s.size (s.size + 1) 0 (by omega) (by omega) (by omega) (by omega))

theorem digits_word (s : ByteArray) (hs : Word s) : impl_digits.f 1 s = some false := by
  have := hs.pos
  have := hs.first
  unfold impl_digits.f
  simp only [impl_digits.l0]
  rw [if_pos (by omega), if_pos (by omega), if_pos (by omega), if_neg (by omega), if_pos (by omega)]
theorem digits_num (s : ByteArray) (hs : Num s) (d : Nat) : ∀ (k : Nat) (i : Int), 0 ≤ i → i ≤ s.size → (s.size : Int) - i = d → d < k → impl_digits.l0 k s s.size i = some true := by
  have hle := hs.le
  induction d with
  | zero =>
    intro k i h0 h1 hd hk
    obtain ⟨k, rfl⟩ : ∃ m, k = m + 1 := ⟨k - 1, by omega⟩
    simp only [impl_digits.l0]
    have := hs.pos
    rw [if_neg (by omega)]
    simp; omega
  | succ d ih =>
    intro k i h0 h1 hd hk
    obtain ⟨k, rfl⟩ : ∃ m, k = m + 1 := ⟨k - 1, by omega⟩
    have hlt : i < (s.size : Int) := by omega
    have h2 := hs.all i h0 hlt
    simp only [impl_digits.l0]
    rw [if_pos hlt, if_pos h0, if_pos hlt, if_neg (by omega), if_neg (by omega), wrap_succ h0 hlt (by omega), ih k (i + 1) (by omega) (by omega) (by omega) (by omega)]

/-- The tags of words and numbers. -/
def strTag : List UInt8 := [33, 33, 115, 116, 114]
def intTag : List UInt8 := [33, 33, 105, 110, 116]
/-- A scalar of a tree: a word, or a number. -/
def Sc (t g : ByteArray) : Prop := (g.toList = strTag ∧ Word t) ∨ (g.toList = intTag ∧ Num t)

theorem bt_zero {s : ByteArray} {c : UInt8} {l : List UInt8} (h : s.toList = c :: l) : bt s 0 = c.toNat := by
  have e : s.data.toList = c :: l := by rw [← ByteArray.toList_eq]; exact h
  have hs : 0 < s.size := by
    have : s.size = s.data.toList.length := rfl
    rw [this, e]; simp
  have h0 : s[0]'hs = c := by
    have : s.data.toList[0]? = some c := by rw [e]; rfl
    have h2 : s.data[0]? = some c := by simpa using this
    have := Array.getElem?_eq_some_iff.1 h2
    exact this.2
  unfold bt
  rw [dif_pos (show (0 : Int).toNat < s.size from hs)]
  simp only [Int.toNat_zero, h0]
theorem num_not {t : ByteArray} (h : Num t) {c : UInt8} {l : List UInt8} (hc : ¬ (48 ≤ c.toNat ∧ c.toNat ≤ 57)) : t.toList ≠ c :: l := by
  intro e
  have h1 := h.all 0 (by omega) (by have := h.pos; omega)
  rw [bt_zero e] at h1
  omega

theorem typed_calls (t g : ByteArray) (w : World) (hs : Sc t g) :
    Calls Try.prog 81 #[.string t, .string g] w fun e w' => e = .returned (.bool true) ∧ Drawn0 w w' := by
  rcases hs with ⟨hg, hw⟩ | ⟨hg, hn⟩
  · refine impl_typed.calls 2 t g true w ?_
    unfold impl_typed.f
    rw [if_neg hw.noNull, if_neg (by rw [hg]; decide), if_neg hw.noTrue]
    have hff : (t.toList == [102, 97, 108, 115, 101]) = false := by simpa using hw.noFalse
    rw [hff]
    simp only [impl_typed.j0]
    rw [if_neg (by decide), digits_word t hw]
    simp only [Option.bind_some]
    rw [if_neg (by decide), if_pos (by rw [hg]; rfl), if_pos (by have := hw.pos; omega)]
    have := hw.first
    simp; omega
  · refine impl_typed.calls (t.size + 2) t g true w ?_
    unfold impl_typed.f
    rw [if_neg (num_not hn (by decide)), if_neg (by rw [hg]; decide), if_neg (num_not hn (by decide))]
    have hff : (t.toList == [102, 97, 108, 115, 101]) = false := by simpa using num_not hn (c := 102) (by decide)
    rw [hff]
    simp only [impl_typed.j0]
    have hd : impl_digits.f (t.size + 1) t = some true := digits_num t hn t.size (t.size + 1) 0 (by omega) (by omega) (by omega) (by omega)
    rw [if_neg (by decide), hd]
    simp only [Option.bind_some, if_true, hg]
    rfl
end Go.Proofs.Ytigpgkfgkjabmaa
