import Derived.Test.YtkpdkoafngjflaaGreatTold
import Derived.Defers
import Derived.Recover
import Derived.Test.YtkpdkoafngjflaaGreatRead
namespace Go.Proofs.YtkpdkoafngjflaaGreat
open Go.RowKit Go.Proofs.YtkpdkoafngjflaaGreatW.PrintWords Go.Proofs.YtkpdkoafngjflaaGreatW.PrintLast Go.Proofs.YtkpdkoafngjflaaGreat.PFnFields
set_option linter.unusedVariables false
set_option linter.unusedSimpArgs false
theorem catch_idle (p : Addr) (w : World) :
  CallsD Tryz.prog 32 #[.pointer (some p)] .returning w fun e u' w' => u' = .returning ∧ e = .returned (.tuple #[]) ∧ w = w' := by
 refine callsD_of_wpS Tryz.func32 rfl fun c₀ cs hu => ?_
 apply wpS_seq
 apply wpS_region
 simp [wpOpsS, go_sem, recoverD, hu, Tryz.ntmps32, Exit.thenS]
 refine wpS_cond (t := false) (by simp [Act.eval, Array.replicate]) ?_
 simp
 refine wpS_of_wp (wp_skip ?_)
 cases c₀
 simp_all [bodyPostS, results, Tryz.results32]
theorem tried_calls (w : World) (f : FuncId) (cap : Array Value) (S : Nat → Prop) (Q : Bool → World → Prop) (hS : ∀ k, S k → k < w.heap.size)
  (h : ∀ wa, Below w.heap.size w wa → w.heap.size < wa.heap.size → Calls Tryz.prog f cap wa fun e w' => ∃ b, e = .returned (.bool b) ∧ Q b w' ∧ Chg S wa w') (hf : ∀ wa, (callFunc f cap).run Tryz.prog wa = .ok (.enter f cap) wa) :
  Calls Tryz.prog 22 #[.func (.func f) #[] cap] w fun e w' => ∃ b w1, e = .returned (.bool b) ∧ Q b w1 ∧ Chg (fun k => k = w.heap.size) w1 w' ∧ Chg S w w1 := by
 have hmf : ∀ (fn : Fn) (first cap : Array Value) (w : World), (Instr.makeFunc fn first cap).run Tryz.prog w = .ok (.func fn first cap) w := fun _ _ _ _ => rfl
 have H := Aside0.mk h
 clear h
 go_enter_defers Tryz.func22, Tryz.ntmps22
 go_wp2_with fail
 refine (H.out _ ((Below.refl _ _).alloc (Nat.le_refl _) _) (by simp)).mono ?_
 rintro e w1 ⟨b, rfl, hq, hc⟩
 have hblk : w1.heap[w.heap.size]? = some (.cells #[.bool false] 4 (0, 0)) := (hc.block _ (by simp) (fun q => by have := hS _ q; omega)).trans (heap_at _ rfl)
 have hcell : w1.cell? ⟨w.heap.size, 0, none⟩ = some (.bool false) := by rw [cell_of_block hblk]; rfl
 have hfr : w1.frozen? ⟨w.heap.size, 0, none⟩ = false := frozen_of_block hblk
 have HQ := Aside0.mk hq
 have HC := Aside0.mk hc
 have HBK := Aside0.mk hblk
 clear hq hc hblk
 go_wp2
 refine leaves_cons (f := 32) (args := #[.pointer (some ⟨w.heap.size, 0, none⟩)]) (by simp) (by simp [go_sem]) ?_
 refine (catch_idle ⟨w.heap.size, 0, none⟩ _).mono ?_
 rintro e u' w'' ⟨rfl, rfl, rfl⟩
 have hb2 := heap_set (a := ⟨w.heap.size, 0, none⟩) (v := .bool b) HBK.out rfl
 have hcell2 : (w1.setCell ⟨w.heap.size, 0, none⟩ (.bool b)).cell? ⟨w.heap.size, 0, none⟩ = some (.bool b) := by
  rw [cell_of_block hb2]; rfl
 refine ⟨.bool b, ?_, ?_⟩
 ·simp [results, Tryz.results22, go_sem, hcell2]
 ·refine ⟨b, w1, rfl, HQ.out, (Chg.refl (fun k => k = w.heap.size) w1).setCell (p := ⟨w.heap.size, 0, none⟩) (.inl rfl) _, ?_⟩
  exact ((Chg.refl S w).alloc _).trans HC.out (fun k q => .inl q)
theorem rnodeOf0_calls (d : Nat) (x : S25) (w : World) (cs : List Value) (hK : k25.K w x cs) (hS : Sh d x) :
  Calls Tryz.prog 25 #[.agg cs.toArray] w fun e w' => ∃ r b, e = .returned (ptr r) ∧ RN0 w' r b ∧ w.heap.size ≤ r ∧ YN w' (fun k => w.heap.size ≤ k ∧ k ≠ r) b (toY d x) ∧ Below w.heap.size w w' := by
 obtain ⟨A3, c3, A4, c4, rfl, l3, g3, l4, g4⟩ := k25_open hK
 have hu := Tryz.underlying25
 have h0 : (x.f0 == 0) = false := by
  cases d with
  | zero => exact hS.elim
  | succ d => rcases hS.2 with h | ⟨h, _⟩ | ⟨h, _⟩ <;> rw [h] <;> rfl
 have HK := Aside0.mk hK
 have HS := Aside0.mk hS
 clear hK hS g3 g4
 go_enter Tryz.func25, Tryz.ntmps25
 go_wp2_with (first | (go_at_call 35; refine (treeOf_calls d x _ [.int .i64 x.f0, .string x.f1, .string x.f2, .slice A3 x.f3.length c3, .slice A4 x.f4.length c4] (k25.K_below ((Below.refl _ _).alloc (Nat.le_refl _) _) HK.out) HS.out).mono ?_; rintro e w1 ⟨b, rfl, hy, hb1⟩; have HY := Aside0.mk hy; have HB := Aside0.mk hb1; clear hy hb1) | (go_at_call 34; refine (newrnode_calls _ b).mono ?_; rintro e w2 ⟨rfl, rfl⟩))
 go_ret
 have hb0 : Below w.heap.size w w1 := ((Below.refl _ _).alloc (Nat.le_refl _) _).trans (HB.out.mono (by simp))
 have hs := HB.out.size
 simp only [World.size_alloc] at hs
 refine ⟨w1.heap.size, b, rfl, RN0.new w1 b, by omega, ?_, hb0.alloc hb0.size _⟩
 refine YN.move (fun k q => ?_) (fun k q hlt => heap_old _ hlt) HY.out.lt
 simp only [World.size_alloc] at q
 exact ⟨by omega, by omega⟩
theorem told_calls (d : Nat) (y : Y) (w : World) (r b : Nat) (F : Nat → Prop) (hr : RN w r b) (hY : YN w F b y) (hS : YSh d y) (hl : Live y.kind y.tag) (o : S25) (ho : ofY d y = o) :
  Calls Tryz.prog 26 #[ptr r] w fun e w' => ∃ A3 n3 c3 A4 n4 c4, e = .returned (.agg #[.int .i64 o.f0, .string o.f1, .string o.f2, .slice A3 n3 c3, .slice A4 n4 c4]) ∧
   k25.M w' w.heap.size (fun _ => True) o [.int .i64 o.f0, .string o.f1, .string o.f2, .slice A3 n3 c3, .slice A4 n4 c4] ∧ Below w.heap.size w w' := by
 obtain ⟨_, cv, bs, hn, _⟩ := hY.open_
 have HN : Aside0 (NB w b y.kind y.tag y.value cv) := ⟨hn⟩
 have HR := Aside0.mk hr
 have HY := Aside0.mk hY
 have HS := Aside0.mk hS
 have HL := Aside0.mk hl
 have hu := Tryz.underlying25
 clear hr hY hS hl hn
 go_enter Tryz.func26, Tryz.ntmps26
 have hb0 : ∀ o, Below w.heap.size w (w.alloc o) := fun o => (Below.refl _ _).alloc (Nat.le_refl _) _
 have HO := Aside0.mk ho
 clear ho
 go_wp2_with (first | (go_at_call 37; refine (ynode_calls _ r b (HR.out.below (hb0 _)) _ _ _ _ (HN.out.below (hb0 _)) HL.out).mono ?_; rintro e w' ⟨rfl, rfl⟩) | (go_at_call 36; fail))
 refine (nodeOf_lit d y b F _ (HY.out.below (hb0 _)) HS.out o HO.out).mono ?_
 rintro e w1 ⟨A3, n3, c3, A4, n4, c4, rfl, him, hb1⟩
 have HB := Aside0.mk hb1
 have hw1 : w1.heap[w.heap.size]? = some (.cells #[.int .i64 0, .string ⟨#[]⟩, .string ⟨#[]⟩, .slice none 0 0, .slice none 0 0] 25 (0, 0)) := (hb1.block _ (by simp)).trans (heap_at _ rfl)
 have HW1 := Aside0.mk hw1
 have HIM := Aside0.mk (k25.M_lower (show w.heap.size + 1 ≤ _ by simp) him)
 clear him hb1 hw1
 obtain ⟨cr0, cr1, cr2, cr3, cr4, zr0, zr1, zr2, zr3, zr4⟩ := fc_ HW1.out
 go_wp2
 obtain ⟨wf, ef, hf, hcf⟩ := set5 (v0 := .int .i64 o.f0) (v1 := .string o.f1) (v2 := .string o.f2) (v3 := .slice A3 n3 c3) (v4 := .slice A4 n4 c4) HW1.out
 rw [ef]
 have HF := Aside0.mk hf
 obtain ⟨cf0, cf1, cf2, cf3, cf4, zf0, zf1, zf2, zf3, zf4⟩ := fc_ HF.out
 clear cr0 cr1 cr2 cr3 cr4 zr0 zr1 zr2 zr3 zr4 hf ef
 refine bodyPost_ret (v := .agg #[.int .i64 o.f0, .string o.f1, .string o.f2, .slice A3 n3 c3, .slice A4 n4 c4]) (by simp [results, Tryz.results26, go_sem, cf0, cf1, cf2, cf3, cf4]) rfl ⟨A3, n3, c3, A4, n4, c4, rfl, ?_, ?_⟩
 ·refine k25.M_lower (show w.heap.size ≤ w.heap.size + 1 by omega) (k25.M_mono (fun _ _ => trivial) (k25.M_move (w := w1) (fun k hk => ?_) (k25.M_bound HIM.out)))
  exact hcf.block k hk.2.2.1 (fun q => by have := hk.2.1; omega)
 ·have hb2 := (hb0 _).trans (HB.out.mono (show w.heap.size ≤ _ by simp))
  exact hb2.trans (hcf.below hb2.size (fun k q => by omega))
theorem bytes_ext {a b : ByteArray} (h : a.toList = b.toList) : a = b := by
 have h1 : a.data.toList = b.data.toList := by rw [← ByteArray.toList_eq, ← ByteArray.toList_eq]; exact h
 cases a; cases b
 congr
 exact Array.toList_inj.1 h1
def plc : List ByteArray → ByteArray → Int
 | [], _ => -1
 | k :: r, a => if k.toList = a.toList then 0 else if plc r a < 0 then -1 else plc r a + 1
theorem plc_neg : ∀ (l : List ByteArray) (a : ByteArray), plc l a < 0 → plc l a = -1 ∧ a ∉ l
 | [], a, _ => ⟨rfl, by simp⟩
 |k :: r, a, h => by
  have ih := plc_neg r a
  unfold plc at h ⊢
  by_cases h1 : k.toList = a.toList
  ·rw [if_pos h1] at h; omega
  ·rw [if_neg h1] at h ⊢
   by_cases h2 : plc r a < 0
   ·rw [if_pos h2]
    refine ⟨rfl, ?_⟩
    simp only [List.mem_cons, not_or]
    exact ⟨fun e => h1 (by rw [e]), (ih h2).2⟩
   ·rw [if_neg h2] at h; omega
theorem plc_pos : ∀ (l : List ByteArray) (a : ByteArray), 0 ≤ plc l a → ∃ i : Nat, plc l a = i ∧ ∃ h : i < l.length, l[i] = a
 | [], a, h => by simp [plc] at h
 |k :: r, a, h => by
  have ih := plc_pos r a
  unfold plc at h ⊢
  by_cases h1 : k.toList = a.toList
  ·rw [if_pos h1]; exact ⟨0, rfl, by simp, bytes_ext h1⟩
  ·rw [if_neg h1] at h ⊢
   by_cases h2 : plc r a < 0
   ·rw [if_pos h2] at h; omega
   ·rw [if_neg h2]
    obtain ⟨i, hi, hlt, e⟩ := ih (by omega)
    exact ⟨i + 1, by omega, by simpa using hlt, by simpa using e⟩
theorem plc_mem {l : List ByteArray} {a : ByteArray} (h : a ∈ l) : 0 ≤ plc l a := by
 rcases Int.lt_or_le (plc l a) 0 with h1 | h1
 ·exact absurd h (plc_neg l a h1).2
 ·exact h1
theorem place_l0 (l : List ByteArray) (a : ByteArray) (hn : l.length ≤ 9223372036854775807) (d : Nat) : ∀ (k : Nat) (i : Nat), i ≤ l.length → l.length - i = d → d < k →
  spec_Place.l0 k l a (l.length : Int) (i : Int) = some (if plc (l.drop i) a < 0 then -1 else (i : Int) + plc (l.drop i) a) := by
 induction d with
 |zero =>
  intro k i h1 hd hk
  obtain ⟨k, rfl⟩ : ∃ m, k = m + 1 := ⟨k - 1, by omega⟩
  simp only [spec_Place.l0]
  rw [if_neg (by omega), List.drop_eq_nil_of_le (by omega)]
  simp [plc]
 |succ d ih =>
  intro k i h1 hd hk
  obtain ⟨k, rfl⟩ : ∃ m, k = m + 1 := ⟨k - 1, by omega⟩
  have hlt : i < l.length := by omega
  have hd2 : l.drop i = l[i] :: l.drop (i + 1) := List.drop_eq_getElem_cons hlt
  have hrd : rdOf ByteArray.empty l (i : Int) = l[i] := by
   unfold rdOf
   rw [Int.toNat_natCast, List.getD_eq_getElem?_getD, List.getElem?_eq_getElem hlt]; rfl
  simp only [spec_Place.l0]
  rw [if_pos (by omega), if_pos (by omega), if_pos (by omega), hrd, wrap_succ (n := l.length) (by omega) (by omega) hn, hd2]
  have hr := ih k (i + 1) (by omega) (by omega) (by omega)
  rw [show ((i + 1 : Nat) : Int) = (i : Int) + 1 by omega] at hr
  rw [hr]
  by_cases h2 : l[i].toList = a.toList
  ·have hc : plc (l[i] :: l.drop (i + 1)) a = 0 := by simp only [plc]; rw [if_pos h2]
   rw [if_pos h2, hc]; simp
  ·rw [if_neg h2]
   by_cases h3 : plc (l.drop (i + 1)) a < 0
   ·have hc : plc (l[i] :: l.drop (i + 1)) a = -1 := by simp only [plc]; rw [if_neg h2, if_pos h3]
    rw [if_pos h3, hc]; simp
   ·have hc : plc (l[i] :: l.drop (i + 1)) a = plc (l.drop (i + 1)) a + 1 := by simp only [plc]; rw [if_neg h2, if_neg h3]
    rw [if_neg h3, hc, if_neg (by omega)]; congr 1; omega
theorem place_f (l : List ByteArray) (a : ByteArray) (hn : l.length ≤ 9223372036854775807) (k : Nat) (hk : l.length < k) : spec_Place.f k l a = some (plc l a) := by
 have h := place_l0 l a hn l.length k 0 (by omega) (by omega) hk
 unfold spec_Place.f
 rw [show ((0 : Nat) : Int) = 0 from rfl] at h
 rw [h]
 simp only [List.drop_zero]
 by_cases h1 : plc l a < 0
 ·rw [if_pos h1, (plc_neg l a h1).1]
 ·rw [if_neg h1]; congr 1; omega
theorem place_calls (w : World) (A : Option Addr) (c : Nat) (l : List ByteArray) (a : ByteArray) (hC : Kd.string.C w A l.length l) (hc : l.length ≤ c) :
  Calls Tryz.prog 19 #[.slice A l.length c, .string a] w fun e w' => e = .returned (.int .i64 (plc l a)) ∧ Drawn0 w w' :=
 spec_Place.calls (l.length + 1) A c l a (plc l a) w hC hc (place_f l a hC.2.1 _ (by omega))
theorem place_calls_n (w : World) (A : Option Addr) (n c : Nat) (l : List ByteArray) (a : ByteArray) (hn : l.length = n) (hC : Kd.string.C w A l.length l) (hc : l.length ≤ c) :
  Calls Tryz.prog 19 #[.slice A n c, .string a] w fun e w' => e = .returned (.int .i64 (plc l a)) ∧ Drawn0 w w' := by
 subst hn
 exact place_calls w A c l a hC hc
inductive Sz : S25 → Prop
 | mk (x : S25) (h1 : x.f1.size ≤ 9223372036854775807) (h2 : x.f2.size ≤ 9223372036854775807) (h3 : ∀ k ∈ x.f3, k.size ≤ 9223372036854775807) (h4 : ∀ y ∈ x.f4, Sz y) : Sz x
theorem Sz.out {x : S25} (h : Sz x) : x.f1.size ≤ 9223372036854775807 ∧ x.f2.size ≤ 9223372036854775807 ∧ (∀ k ∈ x.f3, k.size ≤ 9223372036854775807) ∧ ∀ y ∈ x.f4, Sz y := by
 cases h with
 | mk _ h1 h2 h3 h4 => exact ⟨h1, h2, h3, h4⟩
theorem scalar_l0 (k0 : Int) (t g : ByteArray) (ks : List ByteArray) (ys : List S25) (hn : t.size ≤ 9223372036854775807) (d : Nat) : ∀ (k : Nat) (i : Int), 0 ≤ i → i ≤ t.size → (t.size : Int) - i = d → d < k →
  (∀ j : Int, 0 ≤ j → j < i → 48 ≤ bt t j ∧ bt t j ≤ 57) → ∃ r, spec_isScalar.l0 k i k0 t g ks ys = some r ∧ (r = true → g.toList = intTag ∧ Num t) := by
 induction d with
 |zero =>
  intro k i h0 h1 hd hk hw
  obtain ⟨k, rfl⟩ : ∃ m, k = m + 1 := ⟨k - 1, by omega⟩
  simp only [spec_isScalar.l0]
  rw [if_neg (by omega)]
  by_cases c1 : g.toList = [33, 33, 105, 110, 116]
  ·rw [if_pos c1]
   by_cases c2 : (t.size : Int) ≥ 1
   ·rw [if_pos c2]
    refine ⟨_, rfl, fun h => ⟨c1, by omega, by have := of_decide_eq_true h; omega, fun j h0 hj => hw j h0 (by omega)⟩⟩
   ·rw [if_neg c2]; exact ⟨_, rfl, fun h => by cases h⟩
  ·rw [if_neg c1]; exact ⟨_, rfl, fun h => by cases h⟩
 |succ d ih =>
  intro k i h0 h1 hd hk hw
  obtain ⟨k, rfl⟩ : ∃ m, k = m + 1 := ⟨k - 1, by omega⟩
  have hlt : i < (t.size : Int) := by omega
  simp only [spec_isScalar.l0]
  rw [if_pos hlt, if_pos h0]
  by_cases c1 : bt t i < 48
  ·rw [if_pos c1]; exact ⟨_, rfl, fun h => by cases h⟩
  rw [if_neg c1]
  by_cases c2 : bt t i > 57
  ·rw [if_pos c2]; exact ⟨_, rfl, fun h => by cases h⟩
  rw [if_neg c2, if_pos (by omega)]
  by_cases c3 : bt t 0 = 48
  ·rw [if_pos c3]; exact ⟨_, rfl, fun h => by cases h⟩
  rw [if_neg c3, wrap_succ h0 hlt hn]
  exact ih k (i + 1) (by omega) (by omega) (by omega) (by omega) (fun j hj0 hj => by
   rcases Int.lt_or_le j i with h | h
   ·exact hw j hj0 h
   ·rw [show j = i by omega]; omega)
theorem isScalar_calls (x : S25) (w : World) (A3 : Option Addr) (c3 : Nat) (A4 : Option Addr) (c4 : Nat) (hK : k25.K w x [.int .i64 x.f0, .string x.f1, .string x.f2, .slice A3 x.f3.length c3, .slice A4 x.f4.length c4]) (hz : Sz x) :
  Calls Tryz.prog 29 #[.agg #[.int .i64 x.f0, .string x.f1, .string x.f2, .slice A3 x.f3.length c3, .slice A4 x.f4.length c4]] w fun e w' => ∃ r, e = .returned (.bool r) ∧ (r = true → x.f3 = [] ∧ x.f4 = [] ∧ Sc x.f1 x.f2) ∧ Below w.heap.size w w' := by
 obtain ⟨B3, d3, B4, d4, he, l3, g3, l4, g4⟩ := k25_open hK
 simp only [List.cons.injEq, Value.slice.injEq, true_and, and_true] at he
 obtain ⟨⟨rfl, rfl⟩, rfl, rfl⟩ := he
 obtain ⟨h1, h2, h3, h4⟩ := hz.out
 have key : ∃ k r, spec_isScalar.f k x.f0 x.f1 x.f2 x.f3 x.f4 = some r ∧ (r = true → x.f3 = [] ∧ x.f4 = [] ∧ Sc x.f1 x.f2) := by
  by_cases c1 : (x.f3.length : Int) > 0
  ·refine ⟨1, false, ?_, fun h => by cases h⟩
   unfold spec_isScalar.f
   rw [if_pos c1]; rfl
  have e3 : x.f3 = [] := List.eq_nil_of_length_eq_zero (by omega)
  by_cases c2 : (x.f4.length : Int) > 0
  ·refine ⟨1, false, ?_, fun h => by cases h⟩
   unfold spec_isScalar.f
   rw [if_neg c1, decide_eq_true c2]; rfl
  have e4 : x.f4 = [] := List.eq_nil_of_length_eq_zero (by omega)
  by_cases c3 : x.f2.toList = [33, 33, 115, 116, 114]
  ·obtain ⟨r, hr, hw⟩ := isWord_l0 x.f1 h1 x.f1.size (x.f1.size + 1) 0 (by omega) (by omega) (by omega) (by omega) (fun j h0 h1 => by omega) (fun h => by omega)
   refine ⟨x.f1.size + 2, r, ?_, fun h => ⟨e3, e4, .inl ⟨c3, hw h⟩⟩⟩
   unfold spec_isScalar.f
   rw [if_neg c1, decide_eq_false c2]
   simp only [spec_isScalar.j0]
   rw [if_neg (by decide), if_pos c3, show spec_IsWord.f (x.f1.size + 1) x.f1 = some r from hr]; rfl
  ·obtain ⟨r, hr, hw⟩ := scalar_l0 x.f0 x.f1 x.f2 x.f3 x.f4 h1 x.f1.size (x.f1.size + 1) 0 (by omega) (by omega) (by omega) (by omega) (fun j h0 h1 => by omega)
   refine ⟨x.f1.size + 2, r, ?_, fun h => ⟨e3, e4, .inr (hw h)⟩⟩
   unfold spec_isScalar.f
   rw [if_neg c1, decide_eq_false c2]
   simp only [spec_isScalar.j0]
   rw [if_neg (by decide), if_neg c3]; exact hr
 obtain ⟨k, r, hf, hr⟩ := key
 exact (spec_isScalar.calls k x.f0 x.f1 x.f2 A3 c3 x.f3 A4 c4 x.f4 r w g3 l3 g4 l4 hf).mono fun e w' ⟨he, hb⟩ => ⟨r, he, hr, hb⟩
def Wf : Nat → S25 → Prop
 | 0, _ => False
 | d + 1, x => (x.f0 = 1 ∧ x.f3 = [] ∧ x.f4 = [] ∧ Sc x.f1 x.f2) ∨ (x.f1 = ⟨#[]⟩ ∧ x.f2 = ⟨#[]⟩ ∧ x.f4 ≠ [] ∧ (∀ y ∈ x.f4, Wf d y) ∧
   ((x.f0 = 2 ∧ x.f3.length = x.f4.length ∧ (∀ k ∈ x.f3, Word k) ∧ x.f3.Nodup) ∨ (x.f0 = 3 ∧ x.f3 = [])))
def nodes : Nat → S25 → Nat
 | 0, _ => 0
 | d + 1, x => 1 + (x.f4.map (nodes d)).sum
theorem empty_of_toList {a : ByteArray} (h : a.toList = []) : a = ⟨#[]⟩ := bytes_ext (by rw [h, ByteArray.toList_eq])
theorem count_start {w : World} {nb : Nat} {nv : Int} (hn : w.heap[nb]? = some (.cells #[.int .i64 nv] 3 (0, 0))) (o : Obj) :
  ((w.setCell ⟨nb, 0, none⟩ (.int .i64 (nv + 1))).alloc o).heap[nb]? = some (.cells #[.int .i64 (nv + 1)] 3 (0, 0)) ∧ ((w.setCell ⟨nb, 0, none⟩ (.int .i64 (nv + 1))).alloc o).heap[w.heap.size]? = some o ∧
  Chg (fun k => k = nb) w ((w.setCell ⟨nb, 0, none⟩ (.int .i64 (nv + 1))).alloc o) := by
 have hlt := lt_of_block hn
 have h1 := heap_set (a := ⟨nb, 0, none⟩) (v := .int .i64 (nv + 1)) hn rfl
 have hs : (w.setCell ⟨nb, 0, none⟩ (.int .i64 (nv + 1))).heap.size = w.heap.size := by simp [World.setCell]
 exact ⟨(heap_old _ (by rw [hs]; exact hlt)).trans h1, heap_at _ hs.symm, ((Chg.refl (fun k => k = nb) w).setCell (p := ⟨nb, 0, none⟩) (.inl rfl) _).alloc _⟩
def CountPost (w : World) (nb : Nat) (nv : Int) (m : Nat) (x : S25) (e : Ending) (w' : World) : Prop :=
 ∃ r nv', e = .returned (.bool r) ∧ w'.heap[nb]? = some (.cells #[.int .i64 nv'] 3 (0, 0)) ∧ Chg (fun k => k = nb) w w' ∧ (r = true → Wf m x ∧ nv' = nv + nodes m x ∧ nv' ≤ 60)
theorem count_false {w : World} {nb : Nat} {nv : Int} {m : Nat} {x : S25} (hn : w.heap[nb]? = some (.cells #[.int .i64 nv] 3 (0, 0))) (o : Obj) :
  CountPost w nb nv m x (.returned (.bool false)) ((w.setCell ⟨nb, 0, none⟩ (.int .i64 (nv + 1))).alloc o) := by
 obtain ⟨q1, q2, q3⟩ := count_start hn o
 exact ⟨false, _, rfl, q1, q3, fun h => by cases h⟩
set_option maxRecDepth 100000 in
set_option maxHeartbeats 3200000 in
theorem count_calls (W : World) (m : Nat) : ∀ (x : S25) (dp nv : Int) (nb : Nat) (w : World) (A3 : Option Addr) (c3 : Nat) (A4 : Option Addr) (c4 : Nat),
  k25.K W x [.int .i64 x.f0, .string x.f1, .string x.f2, .slice A3 x.f3.length c3, .slice A4 x.f4.length c4] → Sz x → dp = 7 - (m : Int) → 0 ≤ dp → 0 ≤ nv → nv ≤ 60 → W.heap.size ≤ nb → Below W.heap.size W w → w.heap[nb]? = some (.cells #[.int .i64 nv] 3 (0, 0)) →
  Calls Tryz.prog 20 #[.agg #[.int .i64 x.f0, .string x.f1, .string x.f2, .slice A3 x.f3.length c3, .slice A4 x.f4.length c4], .int .i64 dp, ptr nb] w (CountPost w nb nv m x) := by
 induction m with
 |zero =>
  intro x dp nv nb w A3 c3 A4 c4 hK hz hd h0 hv0 hv1 hnb hb hn
  have hu := Tryz.underlying25
  have hlt := lt_of_block hn
  have hne : ¬ nb = w.heap.size := by omega
  have hn' : ∀ o, (w.alloc o).cell? ⟨nb, 0, none⟩ = some (.int .i64 nv) := fun o => by rw [World.cell?_alloc_lt _ _ _ hlt, cell_of_block hn]; rfl
  have hz' : ∀ o, (w.alloc o).frozen? ⟨nb, 0, none⟩ = false := fun o => frozen_of_block ((heap_old o hlt).trans hn)
  obtain rfl : dp = 7 := by omega
  have HN := Aside0.mk hn
  clear hd h0 hK hz hb hn
  go_enter Tryz.func20, Tryz.ntmps20
  go_wp2
  go_ret
  exact count_false HN.out _
 |succ m ih =>
  intro x dp nv nb w A3 c3 A4 c4 hK hz hd h0 hv0 hv1 hnb hb hn
  have hu := Tryz.underlying25
  have hlt := lt_of_block hn
  have hne : ¬ nb = w.heap.size := by omega
  have hn' : ∀ o, (w.alloc o).cell? ⟨nb, 0, none⟩ = some (.int .i64 nv) := fun o => by rw [World.cell?_alloc_lt _ _ _ hlt, cell_of_block hn]; rfl
  have hz' : ∀ o, (w.alloc o).frozen? ⟨nb, 0, none⟩ = false := fun o => frozen_of_block ((heap_old o hlt).trans hn)
  have hn2 : ∀ o, ((w.setCell ⟨nb, 0, none⟩ (.int .i64 (nv + 1))).alloc o).cell? ⟨nb, 0, none⟩ = some (.int .i64 (nv + 1)) := fun o => by rw [cell_of_block (count_start hn o).1]; rfl
  have HN := Aside0.mk hn
  have hdp : dp ≤ 6 := by omega
  have hdb : decide (6 < dp) = false := by simp; omega
  have HD := Aside0.mk hd
  have HK := Aside0.mk hK
  have HZ := Aside0.mk hz
  have HB := Aside0.mk hb
  have IH := Aside0.mk ih
  clear hd hK hz hb hn ih
  by_cases hfull : 60 < nv + 1
  ·go_enter Tryz.func20, Tryz.ntmps20
   go_wp2
   go_ret
   exact count_false HN.out _
  by_cases k1 : x.f0 = 1
  ·have K1 := Aside0.mk k1
   rw [k1]
   clear k1
   go_enter Tryz.func20, Tryz.ntmps20
   go_wp2_with fail
   obtain ⟨q1, q2, q3⟩ := count_start HN.out (.cells #[.int .i64 1, .string x.f1, .string x.f2, .slice A3 x.f3.length c3, .slice A4 x.f4.length c4] 25)
   have hsc := fun w0 (hb0 : Below W.heap.size W w0) => isScalar_calls x w0 A3 c3 A4 c4 (k25.K_below hb0 HK.out) HZ.out
   rw [K1.out] at hsc
   refine (hsc _ (HB.out.trans (q3.below HB.out.size (fun k e => by omega)))).mono ?_
   rintro e w1 ⟨r, rfl, hr, hb1⟩
   have HR := Aside0.mk (And.intro q1 (And.intro q3 (And.intro hr hb1)))
   clear q1 q2 q3 hr hb1 hsc
   go_wp2
   go_ret
   obtain ⟨q1, q3, hr, hb1⟩ := HR.out
   refine ⟨r, nv + 1, rfl, (hb1.block _ (lt_of_block q1)).trans q1, q3.trans (Chg.of_below hb1) (fun _ (q : False) => q.elim), fun h => ?_⟩
   obtain ⟨e3, e4, hsc⟩ := hr h
   refine ⟨.inl ⟨K1.out, e3, e4, hsc⟩, ?_, by omega⟩
   simp [nodes, e4]
  have k1' : (x.f0 == 1) = false := by simpa using k1
  by_cases k2 : x.f0 = 2
  ·have K2 := Aside0.mk k2
   rw [k2]
   clear k1 k1' k2
   go_enter Tryz.func20, Tryz.ntmps20
   go_wp2_with fail
   all_goals try (go_ret; exact count_false HN.out _)
   have e1 : (x.f3.length : Int) = (x.f4.length : Int) := by assumption
   have e2 : x.f1.toList = [] := by assumption
   have e3 : (!x.f2.toList.isEmpty) = false := by assumption
   have HE : Aside0 (x.f3.length = x.f4.length ∧ x.f1 = ⟨#[]⟩ ∧ x.f2 = ⟨#[]⟩) := ⟨by omega, empty_of_toList e2, empty_of_toList (by simpa using e3)⟩
   clear e1 e2 e3
   rename_i h1 h2 h3
   clear h1 h2 h3
   obtain ⟨q1, q2, q3⟩ := count_start HN.out (.cells #[.int .i64 2, .string x.f1, .string x.f2, .slice A3 x.f3.length c3, .slice A4 x.f4.length c4] 25)
   have HQ := Aside0.mk (And.intro q1 (And.intro q2 q3))
   clear q1 q2 q3
   go_loopg [53] x.f3.length (fun k i wr => ∃ j : Nat, i = .int .i64 j ∧ Aside0 (j ≤ x.f3.length ∧ k + j = x.f3.length) ∧ Aside0 (wr.heap[nb]? = some (.cells #[.int .i64 (nv + 1)] 3 (0, 0))) ∧
    Aside0 (wr.heap[w.heap.size]? = some (.cells #[.int .i64 2, .string x.f1, .string x.f2, .slice A3 x.f3.length c3, .slice A4 x.f4.length c4] 25 (0, 0))) ∧ Aside0 (Chg (fun k => k = nb) w wr) ∧
    Aside0 ((∀ k ∈ x.f3.take j, Word k) ∧ (x.f3.take j).Nodup))
   case atStart => exact ⟨0, rfl, ⟨by omega⟩, ⟨HQ.out.1⟩, ⟨HQ.out.2.1⟩, ⟨HQ.out.2.2⟩, ⟨by simp⟩⟩
   case round =>
    obtain ⟨j, rfl, HJ, HNB, HXB, HC, HP⟩ := hrel
    by_cases hj : j < x.f3.length
    ·obtain ⟨g3, hg3⟩ : ∃ q : Kd.string.C W A3 x.f3.length x.f3, x.f3.length ≤ c3 := by
      obtain ⟨B3, d3, B4, d4, he, l3, g3, l4, g4⟩ := k25_open HK.out
      simp only [List.cons.injEq, Value.slice.injEq, true_and, and_true] at he
      obtain ⟨⟨rfl, rfl⟩, rfl, rfl⟩ := he
      exact ⟨g3, l3⟩
     generalize hkk : x.f3.getD j ByteArray.empty = kk
     obtain ⟨ad3, ea, hs3⟩ := strAt g3 j hj
     rw [hkk] at hs3
     subst ea
     have HG3 := Aside0.mk g3
     have HKK := Aside0.mk hkk
     have hbw : Below W.heap.size W wr := HB.out.trans (HC.out.below HB.out.size (fun k e => by omega))
     have HBW := Aside0.mk hbw
     have hs3' := (hbw.cell (World.block_lt_of_cell? W _ hs3)).trans hs3
     have cx3 := (cell_of_block (i := 3) HXB.out).trans (show _ = some _ from rfl)
     have hjm : x.f3.length ≤ 9223372036854775807 := g3.2.1
     clear g3 hkk hs3 hbw
     have hj4 : ¬ (x.f4.length : Int) ≤ (j : Int) := by have := HE.out.1; omega
     have hkl : kk.size ≤ 9223372036854775807 := HZ.out.out.2.2.1 kk (by rw [← HKK.out, List.getD_eq_getElem?_getD, List.getElem?_eq_getElem hj]; exact List.getElem_mem _)
     go_wp2_with fail
     refine (isWord_calls kk _ hkl).mono ?_
     rintro e w1 ⟨r, rfl, hr, ⟨⟨n1, rfl⟩⟩⟩
     cases r
     ·go_wp2_with fail
      go_ret
      exact ⟨false, _, rfl, HNB.out, HC.out.drewN _, fun h => by cases h⟩
     have HW := Aside0.mk (hr rfl)
     clear hr hkl
     have hjc : j ≤ c3 := by omega
     go_wp2_with fail
     refine (place_calls_n _ (some ad3) j c3 (x.f3.take j) kk (by simp; omega) (Kd.C_take (Kd.C_below HG3.out (pw_below_drewN HBW.out n1)) (by omega)) (by simp; omega)).mono ?_
     rintro e w1 ⟨rfl, ⟨⟨n2, rfl⟩⟩⟩
     by_cases hp : 0 ≤ plc (x.f3.take j) kk
     ·go_wp2_with fail
      go_ret
      exact ⟨false, _, rfl, HNB.out, HC.out.drewN _, fun h => by cases h⟩
     have HNM := Aside0.mk (plc_neg (x.f3.take j) kk (by omega)).2
     go_wp2_with fail
     go_roundg (gk - 1)
     case measure => have := HJ.out; omega
     case rel =>
      refine ⟨j + 1, by go_num, ⟨by have := HJ.out; omega⟩, ⟨HNB.out⟩, ⟨HXB.out⟩, ⟨HC.out.drewN _⟩, ⟨?_⟩⟩
      have hke : kk = x.f3[j] := by rw [← HKK.out, List.getD_eq_getElem?_getD, List.getElem?_eq_getElem hj]; rfl
      rw [List.take_succ_eq_append_getElem hj, ← hke]
      refine ⟨fun k hk => ?_, ?_⟩
      ·rcases List.mem_append.1 hk with h | h
       ·exact HP.out.1 k h
       ·rw [List.mem_singleton.1 h]; exact HW.out
      ·rw [List.nodup_append]
       exact ⟨HP.out.2, by simp, fun a ha b hb e => HNM.out (by rw [← List.mem_singleton.1 hb, ← e]; exact ha)⟩
    ·have hje : j = x.f3.length := by have := HJ.out; omega
     have HPA : Aside0 ((∀ k ∈ x.f3, Word k) ∧ x.f3.Nodup) := ⟨by have := HP.out; rwa [hje, List.take_length] at this⟩
     have cx4 := (cell_of_block (i := 4) HXB.out).trans (show _ = some _ from rfl)
     have hj4 : (x.f4.length : Int) ≤ (j : Int) := by have := HE.out.1; omega
     have hj5 : decide ((j : Int) < (x.f4.length : Int)) = false := by simp; omega
     have hj6 : decide (j < x.f4.length) = false := by simp; omega
     clear hje
     go_wp2_with fail
     obtain ⟨g4, hg4⟩ : ∃ q : k25.C W A4 x.f4.length x.f4, True := by
      obtain ⟨B3, d3, B4, d4, he, l3, g3, l4, g4⟩ := k25_open HK.out
      simp only [List.cons.injEq, Value.slice.injEq, true_and, and_true] at he
      obtain ⟨⟨rfl, rfl⟩, rfl, rfl⟩ := he
      exact ⟨g4, trivial⟩
     have hm4 : x.f4.length ≤ 9223372036854775807 := g4.2.1
     have HG4 := Aside0.mk g4
     clear g4 hg4
     go_loopg [90] x.f4.length (fun k i wr => ∃ q : Nat, i = .int .i64 q ∧ Aside0 (q ≤ x.f4.length ∧ k + q = x.f4.length) ∧ Aside0 (wr.heap[nb]? = some (.cells #[.int .i64 (nv + 1 + (((x.f4.take q).map (nodes m)).sum : Nat))] 3 (0, 0))) ∧
      Aside0 (wr.heap[w.heap.size]? = some (.cells #[.int .i64 2, .string x.f1, .string x.f2, .slice A3 x.f3.length c3, .slice A4 x.f4.length c4] 25 (0, 0))) ∧ Aside0 (Chg (fun k => k = nb) w wr) ∧
      Aside0 ((∀ y ∈ x.f4.take q, Wf m y) ∧ nv + 1 + (((x.f4.take q).map (nodes m)).sum : Nat) ≤ 60))
     case atStart => exact ⟨0, rfl, ⟨by omega⟩, ⟨by simpa using HNB.out⟩, ⟨HXB.out⟩, ⟨HC.out⟩, ⟨by simp; omega⟩⟩
     case round =>
      clear HNB HXB HC
      obtain ⟨q, rfl, HJ, HNB, HXB, HC, HP⟩ := hrel
      have hbw : Below W.heap.size W _ := HB.out.trans (HC.out.below HB.out.size (fun k e => by omega))
      have HBW := Aside0.mk hbw
      clear hbw
      have cx4 := (cell_of_block (i := 4) HXB.out).trans (show _ = some _ from rfl)
      by_cases hj : q < x.f4.length
      ·generalize hyy : x.f4.getD q z25 = yy
       obtain ⟨ad4, B3, b3, B4, b4, e4, hKy, f0', f1', f2', f3', f4'⟩ := nodeAt HG4.out q hj yy hyy
       subst e4
       have f0 := (HBW.out.cell (World.block_lt_of_cell? W _ f0')).trans f0'
       have f1 := (HBW.out.cell (World.block_lt_of_cell? W _ f1')).trans f1'
       have f2 := (HBW.out.cell (World.block_lt_of_cell? W _ f2')).trans f2'
       have f3 := (HBW.out.cell (World.block_lt_of_cell? W _ f3')).trans f3'
       have f4 := (HBW.out.cell (World.block_lt_of_cell? W _ f4')).trans f4'
       have HYY := Aside0.mk hyy
       have HKY := Aside0.mk hKy
       clear hyy hKy f0' f1' f2' f3' f4'
       generalize hsum : nv + 1 + (((x.f4.take q).map (nodes m)).sum : Nat) = nq at HNB HP
       have HSUM := Aside0.mk hsum
       clear hsum
       have hnq0 : 0 ≤ nq := by have := HSUM.out; omega
       go_wp2_with fail
       refine (IH.out yy (dp + 1) nq nb _ B3 b3 B4 b4 HKY.out (HZ.out.out.2.2.2 yy (by rw [← HYY.out, List.getD_eq_getElem?_getD, List.getElem?_eq_getElem hj]; exact List.getElem_mem _)) (by have := HD.out; omega) (by omega) hnq0 HP.out.2 hnb (HBW.out.alloc HBW.out.size _) ((heap_old _ (lt_of_block HNB.out)).trans HNB.out)).mono ?_
       rintro e w1 ⟨r, nv', rfl, hn1, hc1, hr1⟩
       have hc2 := (HC.out.alloc (.cells #[.int .i64 yy.f0, .string yy.f1, .string yy.f2, .slice B3 yy.f3.length b3, .slice B4 yy.f4.length b4] 25)).trans hc1 (fun k e => .inl e)
       cases r
       ·have HC2 := Aside0.mk (And.intro hn1 hc2)
        clear hn1 hc1 hc2 hr1
        go_wp2_with fail
        go_ret
        exact ⟨false, _, rfl, HC2.out.1, HC2.out.2, fun h => by cases h⟩
       obtain ⟨h1, h2, h3⟩ := hr1 rfl
       have hx1 := ((hc1.block w.heap.size (by have := lt_of_block HXB.out; simp; omega) (fun e => by omega)).trans (heap_old _ (lt_of_block HXB.out))).trans HXB.out
       have HX1 := Aside0.mk hx1
       have HC2 := Aside0.mk (And.intro hn1 (And.intro hc2 (And.intro h1 (And.intro h2 h3))))
       clear hn1 hc1 hc2 hr1 h1 h2 h3 hx1
       go_wp2_with fail
       go_roundg (gk - 1)
       case measure => have := HJ.out; omega
       case rel =>
        have e2 : x.f4.take (q + 1) = x.f4.take q ++ [yy] := by
         rw [List.take_succ_eq_append_getElem hj, ← HYY.out, List.getD_eq_getElem?_getD, List.getElem?_eq_getElem hj]; rfl
        have hs := HSUM.out
        obtain ⟨h1, h2, h3, h4, h5⟩ := HC2.out
        have e3 : nv + 1 + (((x.f4.take (q + 1)).map (nodes m)).sum : Nat) = nv' := by
         rw [e2, List.map_append, List.sum_append]; simp only [List.map_cons, List.map_nil, List.sum_cons, List.sum_nil]; omega
        refine ⟨q + 1, by go_num, ⟨by have := HJ.out; omega⟩, ⟨by rw [e3]; exact h1⟩, HX1, ⟨h2⟩, ⟨fun y hy => ?_, by rw [e3]; exact h5⟩⟩
        rw [e2] at hy
        rcases List.mem_append.1 hy with h | h
        ·exact HP.out.1 y h
        ·rw [List.mem_singleton.1 h]; exact h3
      ·have hje : q = x.f4.length := by have := HJ.out; omega
       have hp := HP.out
       have hn := HNB.out
       rw [hje, List.take_length] at hp hn
       have HPB := Aside0.mk hp
       have HNC := Aside0.mk hn
       clear hp hn hje HP HNB
       go_wp2_with fail
       go_ret
       refine ⟨_, _, rfl, HNC.out, HC.out, fun h => ⟨.inr ?_, by simp only [nodes]; omega, HPB.out.2⟩⟩
       have h4 : x.f4 ≠ [] := by
        intro e
        rw [e] at h
        simp at h
       exact ⟨HE.out.2.1, HE.out.2.2, h4, HPB.out.1, .inl ⟨K2.out, HE.out.1, HPA.out.1, HPA.out.2⟩⟩
  have k2' : (x.f0 == 2) = false := by simpa using k2
  by_cases k3 : x.f0 = 3
  ·have K3 := Aside0.mk k3
   rw [k3]
   clear k1 k1' k2 k2' k3
   by_cases n0 : x.f3 = []
   ·have HN0 := Aside0.mk n0
    have n0' : x.f3.length = 0 := by rw [n0]; rfl
    rw [n0']
    clear n0 n0'
    go_enter Tryz.func20, Tryz.ntmps20
    go_wp2_with fail
    all_goals try (go_ret; exact count_false HN.out _)
    have e2 : x.f1.toList = [] := by assumption
    have e3 : (!x.f2.toList.isEmpty) = false := by assumption
    have HE : Aside0 (x.f1 = ⟨#[]⟩ ∧ x.f2 = ⟨#[]⟩) := ⟨empty_of_toList e2, empty_of_toList (by simpa using e3)⟩
    obtain ⟨q1, q2, q3⟩ := count_start HN.out (.cells #[.int .i64 3, .string x.f1, .string x.f2, .slice A3 0 c3, .slice A4 x.f4.length c4] 25)
    have HNB := Aside0.mk q1
    have HXB := Aside0.mk q2
    have HC := Aside0.mk q3
    clear q1 q2 q3
    obtain ⟨g4, hg4⟩ : ∃ q : k25.C W A4 x.f4.length x.f4, True := by
     obtain ⟨B3, d3, B4, d4, he, l3, g3, l4, g4⟩ := k25_open HK.out
     simp only [List.cons.injEq, Value.slice.injEq, true_and, and_true] at he
     obtain ⟨⟨rfl, rfl⟩, rfl, rfl⟩ := he
     exact ⟨g4, trivial⟩
    have hm4 : x.f4.length ≤ 9223372036854775807 := g4.2.1
    have HG4 := Aside0.mk g4
    clear g4 hg4
    go_loopg [90] x.f4.length (fun k i wr => ∃ q : Nat, i = .int .i64 q ∧ Aside0 (q ≤ x.f4.length ∧ k + q = x.f4.length) ∧ Aside0 (wr.heap[nb]? = some (.cells #[.int .i64 (nv + 1 + (((x.f4.take q).map (nodes m)).sum : Nat))] 3 (0, 0))) ∧
     Aside0 (wr.heap[w.heap.size]? = some (.cells #[.int .i64 3, .string x.f1, .string x.f2, .slice A3 0 c3, .slice A4 x.f4.length c4] 25 (0, 0))) ∧ Aside0 (Chg (fun k => k = nb) w wr) ∧
     Aside0 ((∀ y ∈ x.f4.take q, Wf m y) ∧ nv + 1 + (((x.f4.take q).map (nodes m)).sum : Nat) ≤ 60))
    case atStart => exact ⟨0, rfl, ⟨by omega⟩, ⟨by simpa using HNB.out⟩, ⟨HXB.out⟩, ⟨HC.out⟩, ⟨by simp; omega⟩⟩
    case round =>
     clear HNB HXB HC
     obtain ⟨q, rfl, HJ, HNB, HXB, HC, HP⟩ := hrel
     have hbw : Below W.heap.size W _ := HB.out.trans (HC.out.below HB.out.size (fun k e => by omega))
     have HBW := Aside0.mk hbw
     clear hbw
     have cx4 := (cell_of_block (i := 4) HXB.out).trans (show _ = some _ from rfl)
     by_cases hj : q < x.f4.length
     ·generalize hyy : x.f4.getD q z25 = yy
      obtain ⟨ad4, B3, b3, B4, b4, e4, hKy, f0', f1', f2', f3', f4'⟩ := nodeAt HG4.out q hj yy hyy
      subst e4
      have f0 := (HBW.out.cell (World.block_lt_of_cell? W _ f0')).trans f0'
      have f1 := (HBW.out.cell (World.block_lt_of_cell? W _ f1')).trans f1'
      have f2 := (HBW.out.cell (World.block_lt_of_cell? W _ f2')).trans f2'
      have f3 := (HBW.out.cell (World.block_lt_of_cell? W _ f3')).trans f3'
      have f4 := (HBW.out.cell (World.block_lt_of_cell? W _ f4')).trans f4'
      have HYY := Aside0.mk hyy
      have HKY := Aside0.mk hKy
      clear hyy hKy f0' f1' f2' f3' f4'
      generalize hsum : nv + 1 + (((x.f4.take q).map (nodes m)).sum : Nat) = nq at HNB HP
      have HSUM := Aside0.mk hsum
      clear hsum
      have hnq0 : 0 ≤ nq := by have := HSUM.out; omega
      go_wp2_with fail
      refine (IH.out yy (dp + 1) nq nb _ B3 b3 B4 b4 HKY.out (HZ.out.out.2.2.2 yy (by rw [← HYY.out, List.getD_eq_getElem?_getD, List.getElem?_eq_getElem hj]; exact List.getElem_mem _)) (by have := HD.out; omega) (by omega) hnq0 HP.out.2 hnb (HBW.out.alloc HBW.out.size _) ((heap_old _ (lt_of_block HNB.out)).trans HNB.out)).mono ?_
      rintro e w1 ⟨r, nv', rfl, hn1, hc1, hr1⟩
      have hc2 := (HC.out.alloc (.cells #[.int .i64 yy.f0, .string yy.f1, .string yy.f2, .slice B3 yy.f3.length b3, .slice B4 yy.f4.length b4] 25)).trans hc1 (fun k e => .inl e)
      cases r
      ·have HC2 := Aside0.mk (And.intro hn1 hc2)
       clear hn1 hc1 hc2 hr1
       go_wp2_with fail
       go_ret
       exact ⟨false, _, rfl, HC2.out.1, HC2.out.2, fun h => by cases h⟩
      obtain ⟨h1, h2, h3⟩ := hr1 rfl
      have hx1 := ((hc1.block w.heap.size (by have := lt_of_block HXB.out; simp; omega) (fun e => by omega)).trans (heap_old _ (lt_of_block HXB.out))).trans HXB.out
      have HX1 := Aside0.mk hx1
      have HC2 := Aside0.mk (And.intro hn1 (And.intro hc2 (And.intro h1 (And.intro h2 h3))))
      clear hn1 hc1 hc2 hr1 h1 h2 h3 hx1
      go_wp2_with fail
      go_roundg (gk - 1)
      case measure => have := HJ.out; omega
      case rel =>
       have e2 : x.f4.take (q + 1) = x.f4.take q ++ [yy] := by
        rw [List.take_succ_eq_append_getElem hj, ← HYY.out, List.getD_eq_getElem?_getD, List.getElem?_eq_getElem hj]; rfl
       have hs := HSUM.out
       obtain ⟨h1, h2, h3, h4, h5⟩ := HC2.out
       have e3 : nv + 1 + (((x.f4.take (q + 1)).map (nodes m)).sum : Nat) = nv' := by
        rw [e2, List.map_append, List.sum_append]; simp only [List.map_cons, List.map_nil, List.sum_cons, List.sum_nil]; omega
       refine ⟨q + 1, by go_num, ⟨by have := HJ.out; omega⟩, ⟨by rw [e3]; exact h1⟩, HX1, ⟨h2⟩, ⟨fun y hy => ?_, by rw [e3]; exact h5⟩⟩
       rw [e2] at hy
       rcases List.mem_append.1 hy with h | h
       ·exact HP.out.1 y h
       ·rw [List.mem_singleton.1 h]; exact h3
     ·have hje : q = x.f4.length := by have := HJ.out; omega
      have hp := HP.out
      have hn := HNB.out
      rw [hje, List.take_length] at hp hn
      have HPB := Aside0.mk hp
      have HNC := Aside0.mk hn
      clear hp hn hje HP HNB
      go_wp2_with fail
      go_ret
      refine ⟨_, _, rfl, HNC.out, HC.out, fun h => ⟨.inr ?_, by simp only [nodes]; omega, HPB.out.2⟩⟩
      have h4 : x.f4 ≠ [] := by
       intro e
       rw [e] at h
       simp at h
      exact ⟨HE.out.1, HE.out.2, h4, HPB.out.1, .inr ⟨K3.out, HN0.out⟩⟩
   ·have n0' : 0 < x.f3.length := List.length_pos_iff.2 n0
    generalize x.f3.length = n3 at n0'
    have n0b : decide (0 < (n3 : Int)) = true := by simp; omega
    clear n0
    go_enter Tryz.func20, Tryz.ntmps20
    go_wp2_with fail
    all_goals (go_ret; exact count_false HN.out _)
  have k3' : (x.f0 == 3) = false := by simpa using k3
  clear k1 k2 k3
  go_enter Tryz.func20, Tryz.ntmps20
  go_wp2
  go_ret
  exact count_false HN.out _
end Go.Proofs.YtkpdkoafngjflaaGreat
