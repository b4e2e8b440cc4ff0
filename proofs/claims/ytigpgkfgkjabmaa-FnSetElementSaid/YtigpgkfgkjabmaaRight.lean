/-
  spec.IsTree, spec.IsMap, spec.IsList, zzFits; impl.count and impl.right of a tree that the laws let in.
-/
import Derived.Test.YtigpgkfgkjabmaaGuard
namespace Go.Proofs.Ytigpgkfgkjabmaa
open Go.RowKit Go.Proofs.YtigpgkfgkjabmaaW.PrintWords Go.Proofs.YtigpgkfgkjabmaaW.PrintLast Go.Proofs.Ytigpgkfgkjabmaa.PFnFields
set_option linter.unusedVariables false
set_option linter.unusedSimpArgs false

/-- A tree that the laws let in. -/
def Tree (x : S25) : Prop := Wf 6 x ∧ nodes 6 x ≤ 60
def TreePost (w : World) (x : S25) (P : Prop) (e : Ending) (w' : World) : Prop :=
  ∃ r, e = .returned (.bool r) ∧ Below w.heap.size w w' ∧ (r = true → P)

set_option maxRecDepth 100000 in
theorem isTree_calls (x : S25) (w : World) (A3 : Option Addr) (c3 : Nat) (A4 : Option Addr) (c4 : Nat)
    (hK : k25.K w x [.int .i64 x.f0, .string x.f1, .string x.f2, .slice A3 x.f3.length c3, .slice A4 x.f4.length c4]) (hz : Sz x) :
    Calls Try.prog 26 #[.agg #[.int .i64 x.f0, .string x.f1, .string x.f2, .slice A3 x.f3.length c3, .slice A4 x.f4.length c4]] w (TreePost w x (Tree x)) := by
  have hu := Try.underlying25
  have HK := Aside0.mk hK
  have HZ := Aside0.mk hz
  clear hK hz
  go_enter Try.func26, Try.ntmps26
  go_wp2_with fail
  have e2 : ∃ w1, w1 = ((w.alloc (.cells #[.int .i64 x.f0, .string x.f1, .string x.f2, .slice A3 x.f3.length c3, .slice A4 x.f4.length c4] 25)).alloc (.cells #[.int .i64 0] 3)) := ⟨_, rfl⟩
  refine (count_calls w 6 x 1 0 (w.heap.size + 1) _ A3 c3 A4 c4 HK.out HZ.out (by omega) (by omega) (by omega) (by omega) (by omega) (((Below.refl w.heap.size w).alloc (Nat.le_refl _) _).alloc (by simp) _) (heap_at _ (by simp))).mono ?_
  rintro e w1 ⟨r, nv, rfl, h1, h2, h3⟩
  have HR := Aside0.mk (And.intro h2 h3)
  clear h1 h2 h3
  go_wp2
  go_ret
  refine ⟨r, rfl, ((((Below.refl w.heap.size w).alloc (Nat.le_refl _) _).alloc (by simp) _)).trans (HR.out.1.below (by simp; omega) (fun k e => by omega)), fun h => ?_⟩
  obtain ⟨q1, q2, q3⟩ := HR.out.2 h
  exact ⟨q1, by omega⟩

set_option maxRecDepth 100000 in
theorem isMap_calls (x : S25) (w : World) (A3 : Option Addr) (c3 : Nat) (A4 : Option Addr) (c4 : Nat)
    (hK : k25.K w x [.int .i64 x.f0, .string x.f1, .string x.f2, .slice A3 x.f3.length c3, .slice A4 x.f4.length c4]) (hz : Sz x) :
    Calls Try.prog 15 #[.agg #[.int .i64 x.f0, .string x.f1, .string x.f2, .slice A3 x.f3.length c3, .slice A4 x.f4.length c4]] w (TreePost w x (x.f0 = 2 ∧ Tree x)) := by
  have hu := Try.underlying25
  have HK := Aside0.mk hK
  have HZ := Aside0.mk hz
  clear hK hz
  by_cases k2 : x.f0 = 2
  · have K2 := Aside0.mk k2
    rw [k2]
    clear k2
    go_enter Try.func15, Try.ntmps15
    go_wp2_with fail
    have hh := fun w0 (hb0 : Below w.heap.size w w0) => isTree_calls x w0 A3 c3 A4 c4 (k25.K_below hb0 HK.out) HZ.out
    rw [K2.out] at hh
    refine (hh _ ((Below.refl w.heap.size w).alloc (Nat.le_refl _) _)).mono ?_
    rintro e w1 ⟨r, rfl, h2, h3⟩
    have HR := Aside0.mk (And.intro h2 h3)
    clear h2 h3 hh
    go_wp2
    go_ret
    exact ⟨r, rfl, ((Below.refl w.heap.size w).alloc (Nat.le_refl _) _).trans (HR.out.1.mono (by simp)), fun h => ⟨trivial, HR.out.2 h⟩⟩
  have k2' : (x.f0 == 2) = false := by simpa using k2
  clear k2
  go_enter Try.func15, Try.ntmps15
  go_wp2
  go_ret
  exact ⟨false, rfl, (Below.refl w.heap.size w).alloc (Nat.le_refl _) _, fun h => by cases h⟩

set_option maxRecDepth 100000 in
theorem isList_calls (x : S25) (w : World) (A3 : Option Addr) (c3 : Nat) (A4 : Option Addr) (c4 : Nat)
    (hK : k25.K w x [.int .i64 x.f0, .string x.f1, .string x.f2, .slice A3 x.f3.length c3, .slice A4 x.f4.length c4]) (hz : Sz x) :
    Calls Try.prog 11 #[.agg #[.int .i64 x.f0, .string x.f1, .string x.f2, .slice A3 x.f3.length c3, .slice A4 x.f4.length c4]] w (TreePost w x (x.f0 = 3 ∧ Tree x)) := by
  have hu := Try.underlying25
  have HK := Aside0.mk hK
  have HZ := Aside0.mk hz
  clear hK hz
  by_cases k2 : x.f0 = 3
  · have K2 := Aside0.mk k2
    rw [k2]
    clear k2
    go_enter Try.func11, Try.ntmps11
    go_wp2_with fail
    have hh := fun w0 (hb0 : Below w.heap.size w w0) => isTree_calls x w0 A3 c3 A4 c4 (k25.K_below hb0 HK.out) HZ.out
    rw [K2.out] at hh
    refine (hh _ ((Below.refl w.heap.size w).alloc (Nat.le_refl _) _)).mono ?_
    rintro e w1 ⟨r, rfl, h2, h3⟩
    have HR := Aside0.mk (And.intro h2 h3)
    clear h2 h3 hh
    go_wp2
    go_ret
    exact ⟨r, rfl, ((Below.refl w.heap.size w).alloc (Nat.le_refl _) _).trans (HR.out.1.mono (by simp)), fun h => ⟨trivial, HR.out.2 h⟩⟩
  have k2' : (x.f0 == 3) = false := by simpa using k2
  clear k2
  go_enter Try.func11, Try.ntmps11
  go_wp2
  go_ret
  exact ⟨false, rfl, (Below.refl w.heap.size w).alloc (Nat.le_refl _) _, fun h => by cases h⟩

theorem fits2_l0 (l : List ByteArray) (hn : l.length ≤ 9223372036854775807) (d : Nat) : ∀ (k : Nat) (i : Nat), i ≤ l.length → l.length - i = d → d < k →
    ∃ r, laws_zzFits2.l0 k l (l.length : Int) (i : Int) = some r := by
  induction d with
  | zero =>
    intro k i h1 hd hk
    obtain ⟨k, rfl⟩ : ∃ m, k = m + 1 := ⟨k - 1, by omega⟩
    simp only [laws_zzFits2.l0]
    rw [if_neg (by omega)]
    exact ⟨_, rfl⟩
  | succ d ih =>
    intro k i h1 hd hk
    obtain ⟨k, rfl⟩ : ∃ m, k = m + 1 := ⟨k - 1, by omega⟩
    simp only [laws_zzFits2.l0]
    rw [if_pos (by omega), if_pos (by omega), if_pos (by omega), wrap_succ (n := l.length) (by omega) (by omega) hn]
    have hr := ih k (i + 1) (by omega) (by omega) (by omega)
    rw [show ((i + 1 : Nat) : Int) = (i : Int) + 1 by omega] at hr
    split
    · exact ⟨_, rfl⟩
    · exact hr
theorem fits2_f (l : List ByteArray) (hn : l.length ≤ 9223372036854775807) : ∃ r, laws_zzFits2.f (l.length + 1) l = some r := by
  unfold laws_zzFits2.f
  split
  · exact ⟨_, rfl⟩
  · exact fits2_l0 l hn l.length (l.length + 1) 0 (by omega) (by omega) (by omega)
theorem fits1_calls (x : S25) (w : World) (A3 : Option Addr) (c3 : Nat) (A4 : Option Addr) (c4 : Nat)
    (hK : k25.K w x [.int .i64 x.f0, .string x.f1, .string x.f2, .slice A3 x.f3.length c3, .slice A4 x.f4.length c4]) :
    Calls Try.prog 10 #[.agg #[.int .i64 x.f0, .string x.f1, .string x.f2, .slice A3 x.f3.length c3, .slice A4 x.f4.length c4]] w (TreePost w x True) := by
  obtain ⟨B3, d3, B4, d4, he, l3, g3, l4, g4⟩ := k25_open hK
  simp only [List.cons.injEq, Value.slice.injEq, true_and, and_true] at he
  obtain ⟨⟨rfl, rfl⟩, rfl, rfl⟩ := he
  have key : ∃ r, laws_zzFits1.f (x.f3.length + 1) x.f0 x.f1 x.f2 x.f3 x.f4 = some r := by
    unfold laws_zzFits1.f
    split
    · exact ⟨_, rfl⟩
    split
    · exact ⟨_, rfl⟩
    obtain ⟨r, hr⟩ := fits2_f x.f3 g3.2.1
    rw [hr]
    simp only [Option.bind_some]
    split
    · split <;> exact ⟨_, rfl⟩
    · exact ⟨_, rfl⟩
  obtain ⟨r, hr⟩ := key
  exact (laws_zzFits1.calls (x.f3.length + 1) x.f0 x.f1 x.f2 A3 c3 x.f3 A4 c4 x.f4 r w g3 l3 g4 l4 hr).mono fun e w' ⟨he, hb⟩ => ⟨r, he, hb, fun _ => trivial⟩

theorem index_l0 (l : List ByteArray) (a : ByteArray) (ha : a ∉ l) (hn : l.length ≤ 9223372036854775807) (d : Nat) : ∀ (k : Nat) (i : Nat), i ≤ l.length → l.length - i = d → d < k →
    slices_Index_string_string.l0 k l a (l.length : Int) (i : Int) = some (-1) := by
  induction d with
  | zero =>
    intro k i h1 hd hk
    obtain ⟨k, rfl⟩ : ∃ m, k = m + 1 := ⟨k - 1, by omega⟩
    simp only [slices_Index_string_string.l0]
    rw [if_neg (by omega)]
  | succ d ih =>
    intro k i h1 hd hk
    obtain ⟨k, rfl⟩ : ∃ m, k = m + 1 := ⟨k - 1, by omega⟩
    have hlt : i < l.length := by omega
    have hrd : rdOf ByteArray.empty l (i : Int) = l[i] := by
      unfold rdOf
      rw [Int.toNat_natCast, List.getD_eq_getElem?_getD, List.getElem?_eq_getElem hlt]; rfl
    simp only [slices_Index_string_string.l0]
    have hr := ih k (i + 1) (by omega) (by omega) (by omega)
    rw [show ((i + 1 : Nat) : Int) = (i : Int) + 1 by omega] at hr
    rw [if_pos (by omega), if_pos (by omega), if_pos (by omega), hrd, wrap_succ (n := l.length) (by omega) (by omega) hn, if_neg, hr]
    exact fun h => ha (by rw [bytes_ext h]; exact List.getElem_mem _)
theorem contains_calls (w : World) (A : Option Addr) (n c : Nat) (l : List ByteArray) (a : ByteArray) (hn : l.length = n) (hC : Kd.string.C w A l.length l) (hc : l.length ≤ c) (ha : a ∉ l) :
    Calls Try.prog 82 #[.slice A n c, .string a] w fun e w' => e = .returned (.bool false) ∧ Drawn0 w w' := by
  subst hn
  refine slices_Contains_string_string.calls (l.length + 1) A c l a false w hC hc ?_
  unfold slices_Contains_string_string.f slices_Index_string_string.f
  rw [show (0 : Int) = ((0 : Nat) : Int) from rfl, index_l0 l a ha hC.2.1 l.length (l.length + 1) 0 (by omega) (by omega) (by omega)]
  rfl

theorem sum_take_le (l : List Nat) : ∀ n, (l.take n).sum ≤ l.sum := by
  induction l with
  | nil => intro n; simp
  | cons a l ih =>
    intro n
    cases n with
    | zero => simp
    | succ n => simp only [List.take_succ_cons, List.sum_cons]; have := ih n; omega
theorem le_sum_of_mem {l : List Nat} {a : Nat} (h : a ∈ l) : a ≤ l.sum := by
  induction l with
  | nil => cases h
  | cons b l ih =>
    rcases List.mem_cons.1 h with rfl | h
    · simp
    · simp only [List.sum_cons]; have := ih h; omega

set_option maxRecDepth 100000 in
set_option maxHeartbeats 3200000 in
theorem icount_calls (d : Nat) : ∀ (x : S25) (dp : Int) (w : World) (A3 : Option Addr) (c3 : Nat) (A4 : Option Addr) (c4 : Nat),
    k25.K w x [.int .i64 x.f0, .string x.f1, .string x.f2, .slice A3 x.f3.length c3, .slice A4 x.f4.length c4] → Wf d x → nodes d x ≤ 60 → 0 ≤ dp → dp + d ≤ 13 →
    Calls Try.prog 61 #[.agg #[.int .i64 x.f0, .string x.f1, .string x.f2, .slice A3 x.f3.length c3, .slice A4 x.f4.length c4], .int .i64 dp] w fun e w' => e = .returned (.int .i64 (nodes d x)) ∧ Below w.heap.size w w' := by
  induction d with
  | zero => intro x dp w A3 c3 A4 c4 hK hw; exact hw.elim
  | succ d ih =>
    intro x dp w A3 c3 A4 c4 hK hw hn h0 hd
    have hu := Try.underlying25
    obtain ⟨W, eW⟩ : ∃ W, W = w := ⟨_, rfl⟩
    have HK : Aside0 (k25.K W x [.int .i64 x.f0, .string x.f1, .string x.f2, .slice A3 x.f3.length c3, .slice A4 x.f4.length c4]) := ⟨by rw [eW]; exact hK⟩
    have HB : Aside0 (Below W.heap.size W w) := ⟨by rw [eW]; exact Below.refl _ _⟩
    have hdp : dp ≤ 12 := by omega
    have hdb : decide (12 < dp) = false := by simp; omega
    have HD := Aside0.mk hd
    have HN := Aside0.mk hn
    have IH := Aside0.mk ih
    clear hd hK hn ih eW
    rcases hw with ⟨h1, h3, h4, hsc⟩ | ⟨ht, hg, hne, hall, ⟨h2, hlen, hks, hnd⟩ | ⟨h2, h3⟩⟩
    · have HSC := Aside0.mk hsc
      have n3 : x.f3.length = 0 := by rw [h3]; rfl
      have n4 : x.f4.length = 0 := by rw [h4]; rfl
      have H4 := Aside0.mk h4
      rw [h1, n3, n4]
      clear h1 h3 h4 n3 n4 hsc
      go_enter Try.func61, Try.ntmps61
      go_wp2_with fail
      have hp : ∀ w0, Calls Try.prog 46 #[.string x.f1] w0 fun e w' => e = .returned (.bool true) ∧ Drawn0 w0 w' := fun w0 => by
        rcases HSC.out with h | h
        · exact plain_calls x.f1 w0 h.2
        · exact plainNum_calls x.f1 w0 h.2
      refine (hp _).mono ?_
      rintro e w1 ⟨rfl, ⟨⟨n1, rfl⟩⟩⟩
      clear hp
      go_wp2_with fail
      refine (typed_calls x.f1 x.f2 _ HSC.out).mono ?_
      rintro e w1 ⟨rfl, ⟨⟨n2, rfl⟩⟩⟩
      go_wp2
      go_ret
      refine ⟨?_, pw_below_drewN ((Below.refl w.heap.size w).alloc (Nat.le_refl _) _) _⟩
      simp [nodes, H4.out]
    · have e1 : x.f1.toList = [] := by rw [ht, ByteArray.toList_eq]
      have e2 : x.f2.toList = [] := by rw [hg, ByteArray.toList_eq]
      have hle : (x.f3.length : Int) = (x.f4.length : Int) := by omega
      have HL := Aside0.mk hlen
      have HKS := Aside0.mk (And.intro hks hnd)
      rw [h2]
      clear h2 hlen hks hnd ht hg hne
      go_enter Try.func61, Try.ntmps61
      go_wp2_with fail
      have HX0 : Aside0 ((w.alloc (.cells #[.int .i64 2, .string x.f1, .string x.f2, .slice A3 x.f3.length c3, .slice A4 x.f4.length c4] 25)).heap[w.heap.size]? = some (.cells #[.int .i64 2, .string x.f1, .string x.f2, .slice A3 x.f3.length c3, .slice A4 x.f4.length c4] 25 (0, 0))) := ⟨heap_at _ rfl⟩
      go_loopg [61] x.f3.length (fun k i wr => ∃ j : Nat, i = .int .i64 j ∧ Aside0 (j ≤ x.f3.length ∧ k + j = x.f3.length) ∧
        Aside0 (wr.heap[w.heap.size]? = some (.cells #[.int .i64 2, .string x.f1, .string x.f2, .slice A3 x.f3.length c3, .slice A4 x.f4.length c4] 25 (0, 0))) ∧ Aside0 (Below w.heap.size w wr))
      case atStart => exact ⟨0, rfl, ⟨by omega⟩, HX0, ⟨(Below.refl w.heap.size w).alloc (Nat.le_refl _) _⟩⟩
      case round =>
        clear HX0
        obtain ⟨j, rfl, HJ, HXB, HBB⟩ := hrel
        by_cases hj : j < x.f3.length
        · obtain ⟨g3, hg3⟩ : ∃ q : Kd.string.C W A3 x.f3.length x.f3, x.f3.length ≤ c3 := by
            obtain ⟨B3, d3, B4, d4, he, l3, g3, l4, g4⟩ := k25_open HK.out
            simp only [List.cons.injEq, Value.slice.injEq, true_and, and_true] at he
            obtain ⟨⟨rfl, rfl⟩, rfl, rfl⟩ := he
            exact ⟨g3, l3⟩
          generalize hkk : x.f3.getD j ByteArray.empty = kk
          obtain ⟨ad3, ea, hs3⟩ := strAt g3 j hj
          rw [hkk] at hs3
          subst ea
          have HG3 := Aside0.mk g3
          have HKK : Aside0 (kk = x.f3[j]) := ⟨by rw [← hkk, List.getD_eq_getElem?_getD, List.getElem?_eq_getElem hj]; rfl⟩
          have hbw : Below W.heap.size W wr := HB.out.trans (HBB.out.mono HB.out.size)
          have HBW := Aside0.mk hbw
          have hs3' := (hbw.cell (World.block_lt_of_cell? W _ hs3)).trans hs3
          have cx3 := (cell_of_block (i := 3) HXB.out).trans (show _ = some _ from rfl)
          have hjm : x.f3.length ≤ 9223372036854775807 := g3.2.1
          clear g3 hkk hs3 hbw
          have hwd : Word kk := HKS.out.1 kk (by rw [HKK.out]; exact List.getElem_mem _)
          have hjc : j ≤ c3 := by omega
          have hj4 : ¬ (x.f4.length : Int) ≤ (j : Int) := by have := HL.out; omega
          go_wp2_with fail
          refine (plain_calls kk _ hwd).mono ?_
          rintro e w1 ⟨rfl, ⟨⟨n1, rfl⟩⟩⟩
          go_wp2_with fail
          refine (contains_calls _ (some ad3) j c3 (x.f3.take j) kk (by simp; omega) (Kd.C_take (Kd.C_below HG3.out (pw_below_drewN HBW.out n1)) (by omega)) (by simp; omega) ?_).mono ?_
          · rw [HKK.out]
            exact fun hm => by
              have := HKS.out.2
              obtain ⟨i, hi, he⟩ := List.getElem_of_mem hm
              simp only [List.length_take] at hi
              rw [List.getElem_take] at he
              exact (List.pairwise_iff_getElem.1 this i j (by omega) hj (by omega)) he
          rintro e w1 ⟨rfl, ⟨⟨n2, rfl⟩⟩⟩
          go_wp2_with fail
          go_roundg (gk - 1)
          case measure => have := HJ.out; omega
          case rel => exact ⟨j + 1, by go_num, ⟨by have := HJ.out; omega⟩, ⟨HXB.out⟩, ⟨pw_below_drewN HBB.out _⟩⟩
        · have cx4 := (cell_of_block (i := 4) HXB.out).trans (show _ = some _ from rfl)
          have hj4 : (x.f4.length : Int) ≤ (j : Int) := by have := HL.out; omega
          have hj5 : decide ((j : Int) < (x.f4.length : Int)) = false := by simp; omega
          have hj6 : decide (j < x.f4.length) = false := by simp; omega
          go_wp2_with fail
          obtain ⟨g4, hg4⟩ : ∃ q : k25.C W A4 x.f4.length x.f4, True := by
            obtain ⟨B3, d3, B4, d4, he, l3, g3, l4, g4⟩ := k25_open HK.out
            simp only [List.cons.injEq, Value.slice.injEq, true_and, and_true] at he
            obtain ⟨⟨rfl, rfl⟩, rfl, rfl⟩ := he
            exact ⟨g4, trivial⟩
          have hm4 : x.f4.length ≤ 9223372036854775807 := g4.2.1
          have HG4 := Aside0.mk g4
          clear g4 hg4
          go_loopg [5, 97] x.f4.length (fun k n i wr => ∃ q : Nat, n = .int .i64 (1 + (((x.f4.take q).map (nodes d)).sum : Nat)) ∧ i = .int .i64 q ∧ Aside0 (q ≤ x.f4.length ∧ k + q = x.f4.length) ∧
            Aside0 (wr.heap[w.heap.size]? = some (.cells #[.int .i64 2, .string x.f1, .string x.f2, .slice A3 x.f3.length c3, .slice A4 x.f4.length c4] 25 (0, 0))) ∧ Aside0 (Below w.heap.size w wr))
          case atStart => exact ⟨0, by simp, rfl, ⟨by omega⟩, HXB, HBB⟩
          case round =>
            clear HXB HBB
            obtain ⟨q, rfl, rfl, HJ, HXB, HBB⟩ := hrel
            have hbw : Below W.heap.size W wr := HB.out.trans (HBB.out.mono HB.out.size)
            have HBW := Aside0.mk hbw
            clear hbw
            by_cases hj : q < x.f4.length
            · generalize hyy : x.f4.getD q z25 = yy
              obtain ⟨ad4, B3, b3, B4, b4, e4, hKy, f0', f1', f2', f3', f4'⟩ := nodeAt HG4.out q hj yy hyy
              subst e4
              have f0 := (HBW.out.cell (World.block_lt_of_cell? W _ f0')).trans f0'
              have f1 := (HBW.out.cell (World.block_lt_of_cell? W _ f1')).trans f1'
              have f2 := (HBW.out.cell (World.block_lt_of_cell? W _ f2')).trans f2'
              have f3 := (HBW.out.cell (World.block_lt_of_cell? W _ f3')).trans f3'
              have f4 := (HBW.out.cell (World.block_lt_of_cell? W _ f4')).trans f4'
              have HYY := Aside0.mk hyy
              have HKY := Aside0.mk hKy
              clear hyy hKy f0' f1' f2' f3' f4'
              have hym : yy ∈ x.f4 := by rw [← HYY.out, List.getD_eq_getElem?_getD, List.getElem?_eq_getElem hj]; exact List.getElem_mem _
              have e2 : x.f4.take (q + 1) = x.f4.take q ++ [yy] := by
                rw [List.take_succ_eq_append_getElem hj, ← HYY.out, List.getD_eq_getElem?_getD, List.getElem?_eq_getElem hj]; rfl
              have e3 : (((x.f4.take (q + 1)).map (nodes d)).sum) = ((x.f4.take q).map (nodes d)).sum + nodes d yy := by
                rw [e2, List.map_append, List.sum_append]; simp only [List.map_cons, List.map_nil, List.sum_cons, List.sum_nil]; omega
              have e4 := sum_take_le (x.f4.map (nodes d)) (q + 1)
              rw [← List.map_take, e3] at e4
              have hN := HN.out
              simp only [nodes] at hN
              have hE := Aside0.mk (And.intro hym (And.intro e3 (And.intro e4 hN)))
              generalize hsum : ((x.f4.take q).map (nodes d)).sum = nq at e3 e4
              have HSUM := Aside0.mk hsum
              have hq60 : (nq : Int) ≤ 60 := by omega
              have hq61 : ((1 : Int) + nq) + (nodes d yy) ≤ 60 := by omega
              have hqb : decide (200 < ((1 : Int) + nq) + (nodes d yy : Nat)) = false := by simp; omega
              have hqp : 0 ≤ ((1 : Int) + nq) + (nodes d yy) := by omega
              have hqw : wrap64 (((1 : Int) + nq) + (nodes d yy : Nat)) = ((1 : Int) + nq) + (nodes d yy : Nat) := by unfold wrap64; omega
              clear hym e2 e3 e4 hN hsum
              go_wp2_with fail
              refine (IH.out yy (dp + 1) _ B3 b3 B4 b4 (k25.K_below (HBW.out.alloc HBW.out.size _) HKY.out) (hall yy hE.out.1) (by have := hE.out; omega) (by omega) (by have := HD.out; omega)).mono ?_
              rintro e w1 ⟨rfl, hb1⟩
              have hbb2 := (HBB.out.alloc HBB.out.size (.cells #[.int .i64 yy.f0, .string yy.f1, .string yy.f2, .slice B3 yy.f3.length b3, .slice B4 yy.f4.length b4] 25)).trans (hb1.mono (by have := HBB.out.size; simp; omega))
              have hx1 := ((hb1.block _ (lt_of_block ((heap_old (.cells #[.int .i64 yy.f0, .string yy.f1, .string yy.f2, .slice B3 yy.f3.length b3, .slice B4 yy.f4.length b4] 25) (lt_of_block HXB.out)).trans HXB.out))).trans (heap_old _ (lt_of_block HXB.out))).trans HXB.out
              have HB2 := Aside0.mk hbb2
              have HX2 := Aside0.mk hx1
              clear hbb2 hx1 hb1
              go_wp2_with fail
              go_roundg (gk - 1)
              case measure => have := HJ.out; omega
              case rel =>
                have h3 := hE.out.2.1
                have hs := HSUM.out
                refine ⟨q + 1, by rw [h3, hs]; congr 1; omega, by go_num, ⟨by have := HJ.out; omega⟩, HX2, HB2⟩
            · have hje : q = x.f4.length := by have := HJ.out; omega
              generalize hsum : ((x.f4.take q).map (nodes d)).sum = nq
              have HSUM := Aside0.mk hsum
              have HJE := Aside0.mk hje
              clear hje hsum
              go_wp2_with fail
              go_ret
              refine ⟨?_, HBB.out⟩
              have hs := HSUM.out
              rw [HJE.out, List.take_length] at hs
              simp only [nodes]
              rw [hs]
              congr 2
    · have e1 : x.f1.toList = [] := by rw [ht, ByteArray.toList_eq]
      have e2 : x.f2.toList = [] := by rw [hg, ByteArray.toList_eq]
      have n3 : x.f3.length = 0 := by rw [h3]; rfl
      rw [h2, n3]
      clear h2 n3 ht hg hne h3
      go_enter Try.func61, Try.ntmps61
      go_wp2_with fail
      have HXB : Aside0 ((w.alloc (.cells #[.int .i64 3, .string x.f1, .string x.f2, .slice A3 0 c3, .slice A4 x.f4.length c4] 25)).heap[w.heap.size]? = some (.cells #[.int .i64 3, .string x.f1, .string x.f2, .slice A3 0 c3, .slice A4 x.f4.length c4] 25 (0, 0))) := ⟨heap_at _ rfl⟩
      have HBB : Aside0 (Below w.heap.size w (w.alloc (.cells #[.int .i64 3, .string x.f1, .string x.f2, .slice A3 0 c3, .slice A4 x.f4.length c4] 25))) := ⟨(Below.refl w.heap.size w).alloc (Nat.le_refl _) _⟩
      obtain ⟨g4, hg4⟩ : ∃ q : k25.C W A4 x.f4.length x.f4, True := by
        obtain ⟨B3, d3, B4, d4, he, l3, g3, l4, g4⟩ := k25_open HK.out
        simp only [List.cons.injEq, Value.slice.injEq, true_and, and_true] at he
        obtain ⟨⟨rfl, rfl⟩, rfl, rfl⟩ := he
        exact ⟨g4, trivial⟩
      have hm4 : x.f4.length ≤ 9223372036854775807 := g4.2.1
      have HG4 := Aside0.mk g4
      clear g4 hg4
      go_loopg [5, 97] x.f4.length (fun k n i wr => ∃ q : Nat, n = .int .i64 (1 + (((x.f4.take q).map (nodes d)).sum : Nat)) ∧ i = .int .i64 q ∧ Aside0 (q ≤ x.f4.length ∧ k + q = x.f4.length) ∧
        Aside0 (wr.heap[w.heap.size]? = some (.cells #[.int .i64 3, .string x.f1, .string x.f2, .slice A3 0 c3, .slice A4 x.f4.length c4] 25 (0, 0))) ∧ Aside0 (Below w.heap.size w wr))
      case atStart => exact ⟨0, by simp, rfl, ⟨by omega⟩, HXB, HBB⟩
      case round =>
        clear HXB HBB
        obtain ⟨q, rfl, rfl, HJ, HXB, HBB⟩ := hrel
        have hbw : Below W.heap.size W wr := HB.out.trans (HBB.out.mono HB.out.size)
        have HBW := Aside0.mk hbw
        clear hbw
        by_cases hj : q < x.f4.length
        · generalize hyy : x.f4.getD q z25 = yy
          obtain ⟨ad4, B3, b3, B4, b4, e4, hKy, f0', f1', f2', f3', f4'⟩ := nodeAt HG4.out q hj yy hyy
          subst e4
          have f0 := (HBW.out.cell (World.block_lt_of_cell? W _ f0')).trans f0'
          have f1 := (HBW.out.cell (World.block_lt_of_cell? W _ f1')).trans f1'
          have f2 := (HBW.out.cell (World.block_lt_of_cell? W _ f2')).trans f2'
          have f3 := (HBW.out.cell (World.block_lt_of_cell? W _ f3')).trans f3'
          have f4 := (HBW.out.cell (World.block_lt_of_cell? W _ f4')).trans f4'
          have HYY := Aside0.mk hyy
          have HKY := Aside0.mk hKy
          clear hyy hKy f0' f1' f2' f3' f4'
          have hym : yy ∈ x.f4 := by rw [← HYY.out, List.getD_eq_getElem?_getD, List.getElem?_eq_getElem hj]; exact List.getElem_mem _
          have e2 : x.f4.take (q + 1) = x.f4.take q ++ [yy] := by
            rw [List.take_succ_eq_append_getElem hj, ← HYY.out, List.getD_eq_getElem?_getD, List.getElem?_eq_getElem hj]; rfl
          have e3 : (((x.f4.take (q + 1)).map (nodes d)).sum) = ((x.f4.take q).map (nodes d)).sum + nodes d yy := by
            rw [e2, List.map_append, List.sum_append]; simp only [List.map_cons, List.map_nil, List.sum_cons, List.sum_nil]; omega
          have e4 := sum_take_le (x.f4.map (nodes d)) (q + 1)
          rw [← List.map_take, e3] at e4
          have hN := HN.out
          simp only [nodes] at hN
          have hE := Aside0.mk (And.intro hym (And.intro e3 (And.intro e4 hN)))
          generalize hsum : ((x.f4.take q).map (nodes d)).sum = nq at e3 e4
          have HSUM := Aside0.mk hsum
          have hq60 : (nq : Int) ≤ 60 := by omega
          have hq61 : ((1 : Int) + nq) + (nodes d yy) ≤ 60 := by omega
          have hqb : decide (200 < ((1 : Int) + nq) + (nodes d yy : Nat)) = false := by simp; omega
          have hqp : 0 ≤ ((1 : Int) + nq) + (nodes d yy) := by omega
          have hqw : wrap64 (((1 : Int) + nq) + (nodes d yy : Nat)) = ((1 : Int) + nq) + (nodes d yy : Nat) := by unfold wrap64; omega
          clear hym e2 e3 e4 hN hsum
          go_wp2_with fail
          refine (IH.out yy (dp + 1) _ B3 b3 B4 b4 (k25.K_below (HBW.out.alloc HBW.out.size _) HKY.out) (hall yy hE.out.1) (by have := hE.out; omega) (by omega) (by have := HD.out; omega)).mono ?_
          rintro e w1 ⟨rfl, hb1⟩
          have hbb2 := (HBB.out.alloc HBB.out.size (.cells #[.int .i64 yy.f0, .string yy.f1, .string yy.f2, .slice B3 yy.f3.length b3, .slice B4 yy.f4.length b4] 25)).trans (hb1.mono (by have := HBB.out.size; simp; omega))
          have hx1 := ((hb1.block _ (lt_of_block ((heap_old (.cells #[.int .i64 yy.f0, .string yy.f1, .string yy.f2, .slice B3 yy.f3.length b3, .slice B4 yy.f4.length b4] 25) (lt_of_block HXB.out)).trans HXB.out))).trans (heap_old _ (lt_of_block HXB.out))).trans HXB.out
          have HB2 := Aside0.mk hbb2
          have HX2 := Aside0.mk hx1
          clear hbb2 hx1 hb1
          go_wp2_with fail
          go_roundg (gk - 1)
          case measure => have := HJ.out; omega
          case rel =>
            have h3 := hE.out.2.1
            have hs := HSUM.out
            refine ⟨q + 1, by rw [h3, hs]; congr 1; omega, by go_num, ⟨by have := HJ.out; omega⟩, HX2, HB2⟩
        · have hje : q = x.f4.length := by have := HJ.out; omega
          generalize hsum : ((x.f4.take q).map (nodes d)).sum = nq
          have HSUM := Aside0.mk hsum
          have HJE := Aside0.mk hje
          clear hje hsum
          go_wp2_with fail
          go_ret
          refine ⟨?_, HBB.out⟩
          have hs := HSUM.out
          rw [HJE.out, List.take_length] at hs
          simp only [nodes]
          rw [hs]
          congr 2
theorem right_calls (x : S25) (w : World) (A3 : Option Addr) (c3 : Nat) (A4 : Option Addr) (c4 : Nat)
    (hK : k25.K w x [.int .i64 x.f0, .string x.f1, .string x.f2, .slice A3 x.f3.length c3, .slice A4 x.f4.length c4]) (hx : Tree x) :
    Calls Try.prog 34 #[.agg #[.int .i64 x.f0, .string x.f1, .string x.f2, .slice A3 x.f3.length c3, .slice A4 x.f4.length c4]] w fun e w' => e = .returned (.bool true) ∧ Below w.heap.size w w' := by
  have hu := Try.underlying25
  have HK := Aside0.mk hK
  obtain ⟨n, hn⟩ : ∃ n, n = nodes 6 x := ⟨_, rfl⟩
  have hn60 : (n : Int) ≤ 60 := by have := hx.2; omega
  have hnb : decide ((n : Int) ≤ 200) = true := by simp; omega
  have HX := Aside0.mk (And.intro hx hn)
  clear hK hx hn
  go_enter Try.func34, Try.ntmps34
  go_wp2_with fail
  refine (icount_calls 6 x 1 _ A3 c3 A4 c4 (k25.K_below ((Below.refl w.heap.size w).alloc (Nat.le_refl _) _) HK.out) HX.out.1.1 HX.out.1.2 (by omega) (by omega)).mono ?_
  rintro e w1 ⟨rfl, hb1⟩
  have HB1 := Aside0.mk hb1
  clear hb1
  rw [← HX.out.2]
  go_wp2
  go_ret
  exact ⟨rfl, ((Below.refl w.heap.size w).alloc (Nat.le_refl _) _).trans (HB1.out.mono (by simp))⟩
end Go.Proofs.Ytigpgkfgkjabmaa
