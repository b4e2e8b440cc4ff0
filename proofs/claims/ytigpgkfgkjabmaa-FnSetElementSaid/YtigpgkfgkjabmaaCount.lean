/-
  What spec.Place, spec.isScalar and spec.count say.
-/
import Derived.Test.YtigpgkfgkjabmaaWord
import Derived.Test.YtigpgkfgkjabmaaImpl
namespace Go.Proofs.Ytigpgkfgkjabmaa
open Go.RowKit Go.Proofs.YtigpgkfgkjabmaaW.PrintWords Go.Proofs.YtigpgkfgkjabmaaW.PrintLast Go.Proofs.Ytigpgkfgkjabmaa.PFnFields
set_option linter.unusedVariables false
set_option linter.unusedSimpArgs false

theorem bytes_ext {a b : ByteArray} (h : a.toList = b.toList) : a = b := by
  have h1 : a.data.toList = b.data.toList := by rw [← ByteArray.toList_eq, ← ByteArray.toList_eq]; exact h
  cases a; cases b
  congr
  exact Array.toList_inj.1 h1
/-- Where a text stands in a list; -1 where it doesn't. -/
def plc : List ByteArray → ByteArray → Int
  | [], _ => -1
  | k :: r, a => if k.toList = a.toList then 0 else if plc r a < 0 then -1 else plc r a + 1
theorem plc_neg : ∀ (l : List ByteArray) (a : ByteArray), plc l a < 0 → plc l a = -1 ∧ a ∉ l
  | [], a, _ => ⟨rfl, by simp⟩
  | k :: r, a, h => by
    have ih := plc_neg r a
    unfold plc at h ⊢
    by_cases h1 : k.toList = a.toList
    · rw [if_pos h1] at h; omega
    · rw [if_neg h1] at h ⊢
      by_cases h2 : plc r a < 0
      · rw [if_pos h2]
        refine ⟨rfl, ?_⟩
        simp only [List.mem_cons, not_or]
        exact ⟨fun e => h1 (by rw [e]), (ih h2).2⟩
      · rw [if_neg h2] at h; omega
theorem plc_pos : ∀ (l : List ByteArray) (a : ByteArray), 0 ≤ plc l a → ∃ i : Nat, plc l a = i ∧ ∃ h : i < l.length, l[i] = a
  | [], a, h => by simp [plc] at h
  | k :: r, a, h => by
    have ih := plc_pos r a
    unfold plc at h ⊢
    by_cases h1 : k.toList = a.toList
    · rw [if_pos h1]; exact ⟨0, rfl, by simp, bytes_ext h1⟩
    · rw [if_neg h1] at h ⊢
      by_cases h2 : plc r a < 0
      · rw [if_pos h2] at h; omega
      · rw [if_neg h2]
        obtain ⟨i, hi, hlt, e⟩ := ih (by omega)
        exact ⟨i + 1, by omega, by simpa using hlt, by simpa using e⟩
theorem plc_mem {l : List ByteArray} {a : ByteArray} (h : a ∈ l) : 0 ≤ plc l a := by
  rcases Int.lt_or_le (plc l a) 0 with h1 | h1
  · exact absurd h (plc_neg l a h1).2
  · exact h1
theorem place_l0 (l : List ByteArray) (a : ByteArray) (hn : l.length ≤ 9223372036854775807) (d : Nat) : ∀ (k : Nat) (i : Nat), i ≤ l.length → l.length - i = d → d < k →
    spec_Place.l0 k l a (l.length : Int) (i : Int) = some (if plc (l.drop i) a < 0 then -1 else (i : Int) + plc (l.drop i) a) := by
  induction d with
  | zero =>
    intro k i h1 hd hk
    obtain ⟨k, rfl⟩ : ∃ m, k = m + 1 := ⟨k - 1, by omega⟩
    simp only [spec_Place.l0]
    rw [if_neg (by omega), List.drop_eq_nil_of_le (by omega)]
    simp [plc]
  | succ d ih =>
    intro k i h1 hd hk
    obtain ⟨k, rfl⟩ : ∃ m, k = m + 1 := ⟨k - 1, by omega⟩
    have hlt : i < l.length := by omega
    have hd2 : l.drop i = l[i] :: l.drop (i + 1) := List.drop_eq_getElem_cons hlt
    have hrd : rdOf ByteArray.empty l (i : Int) = l[i] := by
      unfold rdOf
      rw [Int.toNat_natCast, List.getD_eq_getElem?_getD, List.getElem?_eq_getElem hlt]; rfl
    simp only [spec_Place.l0]
    rw [if_pos (by omega), if_pos (by omega), if_pos (by omega), hrd, wrap_succ (n := l.length) (by omega) (by omega) hn, hd2]
    have hr := ih k (i + 1) (by omega) (by omega) (by omega)
    rw [show ((i + 1 : Nat) : Int) = (i : Int) + 1 by omega] at hr
    rw [hr]
    by_cases h2 : l[i].toList = a.toList
    · have hc : plc (l[i] :: l.drop (i + 1)) a = 0 := by simp only [plc]; rw [if_pos h2]
      rw [if_pos h2, hc]; simp
    · rw [if_neg h2]
      by_cases h3 : plc (l.drop (i + 1)) a < 0
      · have hc : plc (l[i] :: l.drop (i + 1)) a = -1 := by simp only [plc]; rw [if_neg h2, if_pos h3]
        rw [if_pos h3, hc]; simp
      · have hc : plc (l[i] :: l.drop (i + 1)) a = plc (l.drop (i + 1)) a + 1 := by simp only [plc]; rw [if_neg h2, if_neg h3]
        rw [if_neg h3, hc, if_neg (by omega)]; congr 1; omega
theorem place_f (l : List ByteArray) (a : ByteArray) (hn : l.length ≤ 9223372036854775807) (k : Nat) (hk : l.length < k) : spec_Place.f k l a = some (plc l a) := by
  have h := place_l0 l a hn l.length k 0 (by omega) (by omega) hk
  unfold spec_Place.f
  rw [show ((0 : Nat) : Int) = 0 from rfl] at h
  rw [h]
  simp only [List.drop_zero]
  by_cases h1 : plc l a < 0
  · rw [if_pos h1, (plc_neg l a h1).1]
  · rw [if_neg h1]; congr 1; omega
theorem place_calls (w : World) (A : Option Addr) (c : Nat) (l : List ByteArray) (a : ByteArray) (hC : Kd.string.C w A l.length l) (hc : l.length ≤ c) :
    Calls Try.prog 33 #[.slice A l.length c, .string a] w fun e w' => e = .returned (.int .i64 (plc l a)) ∧ Drawn0 w w' :=
  spec_Place.calls (l.length + 1) A c l a (plc l a) w hC hc (place_f l a hC.2.1 _ (by omega))

theorem place_calls_n (w : World) (A : Option Addr) (n c : Nat) (l : List ByteArray) (a : ByteArray) (hn : l.length = n) (hC : Kd.string.C w A l.length l) (hc : l.length ≤ c) :
    Calls Try.prog 33 #[.slice A n c, .string a] w fun e w' => e = .returned (.int .i64 (plc l a)) ∧ Drawn0 w w' := by
  subst hn
  exact place_calls w A c l a hC hc

/-- All texts in it are of a length that Go can count. -/
inductive Sz : S25 → Prop
  | mk (x : S25) (h1 : x.f1.size ≤ 9223372036854775807) (h2 : x.f2.size ≤ 9223372036854775807) (h3 : ∀ k ∈ x.f3, k.size ≤ 9223372036854775807) (h4 : ∀ y ∈ x.f4, Sz y) : Sz x

theorem Sz.out {x : S25} (h : Sz x) : x.f1.size ≤ 9223372036854775807 ∧ x.f2.size ≤ 9223372036854775807 ∧ (∀ k ∈ x.f3, k.size ≤ 9223372036854775807) ∧ ∀ y ∈ x.f4, Sz y := by
  cases h with
  | mk _ h1 h2 h3 h4 => exact ⟨h1, h2, h3, h4⟩

theorem scalar_l0 (k0 : Int) (t g : ByteArray) (ks : List ByteArray) (ys : List S25) (hn : t.size ≤ 9223372036854775807) (d : Nat) : ∀ (k : Nat) (i : Int), 0 ≤ i → i ≤ t.size → (t.size : Int) - i = d → d < k →
    (∀ j : Int, 0 ≤ j → j < i → 48 ≤ bt t j ∧ bt t j ≤ 57) → ∃ r, spec_isScalar.l0 k i k0 t g ks ys = some r ∧ (r = true → g.toList = intTag ∧ Num t) := by
  induction d with
  | zero =>
    intro k i h0 h1 hd hk hw
    obtain ⟨k, rfl⟩ : ∃ m, k = m + 1 := ⟨k - 1, by omega⟩
    simp only [spec_isScalar.l0]
    rw [if_neg (by omega)]
    by_cases c1 : g.toList = [33, 33, 105, 110, 116]
    · rw [if_pos c1]
      by_cases c2 : (t.size : Int) ≥ 1
      · rw [if_pos c2]
        refine ⟨_, rfl, fun h => ⟨c1, by omega, by have := of_decide_eq_true h; omega, fun j h0 hj => hw j h0 (by omega)⟩⟩
      · rw [if_neg c2]; exact ⟨_, rfl, fun h => by cases h⟩
    · rw [if_neg c1]; exact ⟨_, rfl, fun h => by cases h⟩
  | succ d ih =>
    intro k i h0 h1 hd hk hw
    obtain ⟨k, rfl⟩ : ∃ m, k = m + 1 := ⟨k - 1, by omega⟩
    have hlt : i < (t.size : Int) := by omega
    simp only [spec_isScalar.l0]
    rw [if_pos hlt, if_pos h0]
    by_cases c1 : bt t i < 48
    · rw [if_pos c1]; exact ⟨_, rfl, fun h => by cases h⟩
    rw [if_neg c1]
    by_cases c2 : bt t i > 57
    · rw [if_pos c2]; exact ⟨_, rfl, fun h => by cases h⟩
    rw [if_neg c2, if_pos (by omega)]
    by_cases c3 : bt t 0 = 48
    · rw [if_pos c3]; exact ⟨_, rfl, fun h => by cases h⟩
    rw [if_neg c3, wrap_succ h0 hlt hn]
    exact ih k (i + 1) (by omega) (by omega) (by omega) (by omega) (fun j hj0 hj => by
      rcases Int.lt_or_le j i with h | h
      · exact hw j hj0 h
      · rw [show j = i by omega]; omega)

theorem isScalar_calls (x : S25) (w : World) (A3 : Option Addr) (c3 : Nat) (A4 : Option Addr) (c4 : Nat) (hK : k25.K w x [.int .i64 x.f0, .string x.f1, .string x.f2, .slice A3 x.f3.length c3, .slice A4 x.f4.length c4]) (hz : Sz x) :
    Calls Try.prog 76 #[.agg #[.int .i64 x.f0, .string x.f1, .string x.f2, .slice A3 x.f3.length c3, .slice A4 x.f4.length c4]] w fun e w' => ∃ r, e = .returned (.bool r) ∧ (r = true → x.f3 = [] ∧ x.f4 = [] ∧ Sc x.f1 x.f2) ∧ Below w.heap.size w w' := by
  obtain ⟨B3, d3, B4, d4, he, l3, g3, l4, g4⟩ := k25_open hK
  simp only [List.cons.injEq, Value.slice.injEq, true_and, and_true] at he
  obtain ⟨⟨rfl, rfl⟩, rfl, rfl⟩ := he
  obtain ⟨h1, h2, h3, h4⟩ := hz.out
  have key : ∃ k r, spec_isScalar.f k x.f0 x.f1 x.f2 x.f3 x.f4 = some r ∧ (r = true → x.f3 = [] ∧ x.f4 = [] ∧ Sc x.f1 x.f2) := by
    by_cases c1 : (x.f3.length : Int) > 0
    · refine ⟨1, false, ?_, fun h => by cases h⟩
      unfold spec_isScalar.f
      rw [if_pos c1]; rfl
    have e3 : x.f3 = [] := List.eq_nil_of_length_eq_zero (by omega)
    by_cases c2 : (x.f4.length : Int) > 0
    · refine ⟨1, false, ?_, fun h => by cases h⟩
      unfold spec_isScalar.f
      rw [if_neg c1, decide_eq_true c2]; rfl
    have e4 : x.f4 = [] := List.eq_nil_of_length_eq_zero (by omega)
    by_cases c3 : x.f2.toList = [33, 33, 115, 116, 114]
    · obtain ⟨r, hr, hw⟩ := isWord_l0 x.f1 h1 x.f1.size (x.f1.size + 1) 0 (by omega) (by omega) (by omega) (by omega) (fun j h0 h1 => by omega) (fun h => by omega)
      refine ⟨x.f1.size + 2, r, ?_, fun h => ⟨e3, e4, .inl ⟨c3, hw h⟩⟩⟩
      unfold spec_isScalar.f
      rw [if_neg c1, decide_eq_false c2]
      simp only [spec_isScalar.j0]
      rw [if_neg (by decide), if_pos c3, show spec_IsWord.f (x.f1.size + 1) x.f1 = some r from hr]; rfl
    · obtain ⟨r, hr, hw⟩ := scalar_l0 x.f0 x.f1 x.f2 x.f3 x.f4 h1 x.f1.size (x.f1.size + 1) 0 (by omega) (by omega) (by omega) (by omega) (fun j h0 h1 => by omega)
      refine ⟨x.f1.size + 2, r, ?_, fun h => ⟨e3, e4, .inr (hw h)⟩⟩
      unfold spec_isScalar.f
      rw [if_neg c1, decide_eq_false c2]
      simp only [spec_isScalar.j0]
      rw [if_neg (by decide), if_neg c3]; exact hr
  obtain ⟨k, r, hf, hr⟩ := key
  exact (spec_isScalar.calls k x.f0 x.f1 x.f2 A3 c3 x.f3 A4 c4 x.f4 r w g3 l3 g4 l4 hf).mono fun e w' ⟨he, hb⟩ => ⟨r, he, hr, hb⟩
end Go.Proofs.Ytigpgkfgkjabmaa
