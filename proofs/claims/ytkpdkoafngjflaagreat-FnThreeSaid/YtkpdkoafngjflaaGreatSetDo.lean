import Derived.Test.YtkpdkoafngjflaaGreatSh
import Derived.Test.YtkpdkoafngjflaaGreatSetter
namespace Go.Proofs.YtkpdkoafngjflaaGreat
open Go.RowKit Go.Proofs.YtkpdkoafngjflaaGreatW.PrintWords Go.Proofs.YtkpdkoafngjflaaGreatW.PrintLast Go.Proofs.YtkpdkoafngjflaaGreat.PFnFields
set_option linter.unusedVariables false
set_option linter.unusedSimpArgs false
theorem match_method (nm : ByteArray) (V : Value) (sv : ByteArray) (C : Value) (n : Nat) (wa : World) : (method (n + 1) 165 (.agg (fm nm V sv C)) "Filter").run Tryz.prog wa = .ok (173, .agg (fm nm V sv C)) wa := by kernel_rfl
abbrev fsc (nm : ByteArray) (V : Value) : Array Value := #[.string ⟨#[]⟩, .string nm, .string ⟨#[]⟩, .string ⟨#[]⟩, .string ⟨#[]⟩, V, .string ⟨#[]⟩, .bool false, .int .u32 0]
def SetPost (w : World) (b : Nat) (F Fv : Nat → Prop) (t v : ByteArray) (ks : List ByteArray) (vs : List Y) (nm : ByteArray) (yv : Y) (o : Option Nat) (w' : World) : Prop :=
 ∃ (F' : Nat → Prop) (ks' : List ByteArray) (vs' : List Y), ((nm ∉ ks ∧ ks' = ks ++ [nm] ∧ vs' = vs ++ [yv]) ∨ ∃ j, ks[j]? = some nm ∧ ks' = ks ∧ vs' = vs.set j yv) ∧ YN w' F' b (.mk 4 t v (kv ks' vs')) ∧
  (∀ k, F' k → F k ∨ Fv k ∨ w.heap.size ≤ k) ∧ Chg F w w' ∧ ∃ (ro bo : Nat) (Fo : Nat → Prop), o = some ro ∧ RN w' ro bo ∧ YN w' Fo bo yv
theorem setnew_fin {w wc w5 : World} {b g' cap n kb rv vb c : Nat} {A : Option Addr} {F Fv : Nat → Prop} {t v nm : ByteArray} {bs : List Nat} {ks : List ByteArray} {vs : List Y} {yv : Y} (hn : NB w b 4 t v (.slice A bs.length c)) (hF : F b)
  (ho : w.ownsRow 0 66 1 (.slice A bs.length c) bs.length (ptrs bs)) (hfo : ∀ g, (Value.slice A bs.length c).ownBlock = some g → F g) (hyl : YL w (fun k => F k ∧ k ≠ b ∧ some k ≠ (Value.slice A bs.length c).ownBlock) bs (kv ks vs))
  (hkl : ks.length = vs.length) (hv : YN w Fv vb yv) (hd : ∀ k, F k → ¬ Fv k) (hrv : RN w rv vb) (hrF : ¬ F rv) (hnin : nm ∉ ks) (hb : Below w.heap.size w wc) (hkb : NB wc kb 8 ⟨#[]⟩ nm (.slice none 0 0)) (hkn : w.heap.size ≤ kb) (hbn : bs.length = n)
  (hown : w5.ownsRow 0 66 1 (.slice (some ⟨g', 0, none⟩) (n + 2) cap) (n + 2) (ptrs bs ++ [ptr kb, ptr vb])) (hg : wc.grownBy w5 (Value.slice A bs.length c).ownBlock) (hat : (Value.slice A bs.length c).ownBlock = some g' ∨ g' = wc.heap.size) :
  SetPost w b F Fv t v ks vs nm yv (some rv) (w5.setCell ⟨b, 6, none⟩ (.slice (some ⟨g', 0, none⟩) (n + 2) cap)) := by
 have hbs := hb.size
 have hFlt : ∀ k, F k → k < w.heap.size → k ≠ kb := fun k _ hk e => by omega
 have hnew : YL wc (fun k => (Fv k ∧ k < w.heap.size) ∨ k = kb) [kb, vb] [.mk 8 ⟨#[]⟩ nm [], yv] := by
  refine YL.append (as_ := [kb]) (xs := [.mk 8 ⟨#[]⟩ nm []]) (F1 := fun k => k = kb) (F2 := fun k => Fv k ∧ k < w.heap.size) (YL.one ?_) (YL.one (hv.lt.below hb)) (fun _ q => .inr q) (fun _ q => .inl q) (fun k q r => by omega)
  exact YN.close rfl hkb (bs := []) (own_nil _ _ _ _) (by simp [Value.ownBlock]) (by simp only [YL])
 have hyw := YN.close hF hn ho hfo hyl
 obtain ⟨q1, q2⟩ := grow_tree (F := fun k => F k ∧ k < w.heap.size) (F2 := fun k => (Fv k ∧ k < w.heap.size) ∨ k = kb) (nbs := [kb, vb]) (m := 2) (g := g') (n := n) (cap := cap) (ys := kv ks vs) ⟨hF, lt_of_block hn⟩ hn ho (fun g hg => ⟨hfo g hg, own_lt ho g hg⟩)
  (YL.move (fun k q => ⟨⟨q.1.1, q.2⟩, q.1.2⟩) (fun _ _ _ => rfl) hyl.lt) hb hnew (fun k q r => by
   rcases r with ⟨r, _⟩ | r
   ·exact hd k q.1 r
   ·omega) hbn rfl hown hg hat
 have hgF : ¬ Fv g' ∨ w.heap.size ≤ g' := by
  rcases hat with h | h
  ·exact .inl (hd g' (hfo g' h))
  ·exact .inr (by omega)
 refine ⟨_, ks ++ [nm], vs ++ [yv], .inl ⟨hnin, rfl, rfl⟩, by rw [kv_snoc ks vs nm yv hkl]; exact q1, fun k q => ?_, q2.mono (fun k q => ?_), rv, vb, fun k => Fv k ∧ k < w.heap.size, rfl, ?_, ?_⟩
 ·rcases q with q | (⟨q, _⟩ | q) | q
  ·exact .inl q.1
  ·exact .inr (.inl q)
  ·exact .inr (.inr (by omega))
  ·rcases hat with h | h
   ·exact .inl (by rw [q]; exact hfo g' h)
   ·exact .inr (.inr (by omega))
 ·rcases q with rfl | q
  ·exact hF
  ·exact hfo k q.symm
 ·exact hrv.move (fun hlt => q2.block rv hlt (fun q => by
   rcases q with q | q
   ·exact hrF (by rw [q]; exact hF)
   ·exact hrF (hfo rv q.symm)))
 ·exact hv.lt.chg q2 (fun k q r => by
   rcases r with r | r
   ·exact hd k (by rw [r]; exact hF) q.1
   ·exact hd k (hfo k r.symm) q.1)
def setr23.T : Bool × List (List Nat × List Nat) := (true, [([], []), ([0], [0]), ([], []), ([2, 1], [2]), ([3], [3]), ([4], [4]), ([5], [5]), ([], []), ([7], [7]), ([], []), ([9], [9]), ([], []), ([11], [11]), ([12], [12]), ([], []), ([14], [14]), ([15], [15]), ([], []), ([17], [17]), ([18], [18]), ([8, 10, 13, 16, 19], [8, 10, 13, 16, 19]), ([20], [20]), ([], []), ([22], [22]), ([23, 3], [23]), ([21, 24], [21, 24]), ([6, 25, 24], [6, 25]), ([1, 0, 1, 2, 3, 4, 5, 6, 7, 8, 9, 10, 11, 12, 13, 14, 15, 16, 17, 18, 19, 20, 21, 22, 23, 24, 25, 26], [1]), ([27, 0, 1, 2, 3, 4, 5, 6, 7, 8, 9, 10, 11, 12, 13, 14, 15, 16, 17, 18, 19, 20, 21, 22, 23, 24, 25, 26], [27]), ([28, 26, 26, 0, 1, 2, 3, 4, 5, 6, 7, 8, 9, 10, 11, 12, 13, 14, 15, 16, 17, 18, 19, 20, 21, 22, 23, 24, 25, 26], [26, 28])])
def setr23.B : List Nat := [0, 1, 0, 7, 15, 31, 63, 0, 128, 0, 512, 0, 2048, 6144, 0, 16384, 49152, 0, 131072, 393216, 1048448, 2097024, 0, 4194304, 12582927, 33554319, 67108863, 134217727, 268435455, 536870911]
theorem setr23.tab : rtab .any (opsOf Tryz.f164 23) = setr23.T := by kernel_rfl
theorem setr23.bits : waitsOk setr23.T.2 setr23.B = true := by kernel_rfl
set_option maxRecDepth 100000 in
set_option maxHeartbeats 6400000 in
theorem setter_calls (w : World) (r b rv vb : Nat) (F Fv : Nat → Prop) (t v : ByteArray) (ks : List ByteArray) (vs : List Y) (nm : ByteArray) (yv : Y) (hne : nm.toList.isEmpty = false) (hr : RN w r b) (hy : YN w F b (.mk 4 t v (kv ks vs))) (hl : Live 4 t)
  (hkl : ks.length = vs.length) (hb : ks.length ≤ 1000) (hrv : RN w rv vb) (hv : YN w Fv vb yv) (hlv : Live yv.kind yv.tag) (hd : ∀ k, F k → ¬ Fv k) (hrF : ¬ F rv) (hlvs : ∀ y ∈ vs, Live y.kind y.tag) :
  Calls Tryz.prog 164 #[.agg (fsc nm (ptr rv)), ptr r] w (FilterPost (SetPost w b F Fv t v ks vs nm yv)) := by
 have hmf : ∀ (fn : Fn) (first cap : Array Value) (w : World), (Instr.makeFunc fn first cap).run Tryz.prog w = .ok (.func fn first cap) w := fun _ _ _ _ => rfl
 obtain ⟨hF, cv, bs, hn, ho, hfo, hyl⟩ := hy.open_
 simp only [Y.kind, Y.tag, Y.value, Y.content] at hn hyl
 obtain ⟨A, g, c, rfl, hA, hcell⟩ := row_open ho
 obtain ⟨hFv, cvv, bsv, hnv, hov, hfov, hylv⟩ := hv.open_
 obtain ⟨Av, cvc, rfl⟩ := own_slice hov
 have hbl : bs.length = 2 * ks.length := by rw [hyl.length, kv_length _ _ hkl]
 have HR := Aside0.mk (And.intro hr (And.intro hrv hrF))
 have HN : Aside0 (NB w b 4 t v (.slice A bs.length c)) := ⟨hn⟩
 have HV : Aside0 (NB w vb yv.kind yv.tag yv.value (.slice Av bsv.length cvc)) := ⟨hnv⟩
 have HL := Aside0.mk (And.intro hl (And.intro hlv hlvs))
 have HY := Aside0.mk (And.intro hy (And.intro hv hd))
 have HO := Aside0.mk (And.intro hF (And.intro ho (And.intro hfo hyl)))
 have HOV := Aside0.mk (And.intro hFv (And.intro hov (And.intro hfov hylv)))
 have HM := Aside0.mk (And.intro hkl (And.intro hb (And.intro hbl (And.intro hA hcell))))
 have hk8 : Aside0 (∀ j (h : j < ks.length), ∃ t cv, NB w (bs.getD (2 * j) 0) 8 t ks[j] cv) := ⟨fun j hj => by
  obtain ⟨kb, F1, ek, hF1, hyk⟩ := hyl.get (2 * j) (by rw [kv_length _ _ hkl]; omega)
  have := kv_key ks vs j hkl hj
  rw [List.getElem?_eq_getElem (by rw [kv_length _ _ hkl]; omega)] at this
  rw [Option.some.inj this] at hyk
  rw [List.getD_eq_getElem?_getD, ek]
  obtain ⟨_, cv', _, hnk, _⟩ := hyk.open_
  exact ⟨_, cv', hnk⟩⟩
 clear hr hrv hrF hn hnv hl hlv hlvs hy hv hd hF ho hfo hyl hFv hov hfov hylv hkl hb hbl hA hcell
 go_enter Tryz.func164, Tryz.ntmps164
 go_wp2_with fail
 obtain ⟨w0, e0⟩ : ∃ w0, w0 = w.alloc (.cells (fsc nm (ptr rv)) 101) := ⟨_, rfl⟩
 rw [← e0]
 have hb0 : Below w.heap.size w w0 := by rw [e0]; exact (Below.refl _ _).alloc (Nat.le_refl _) _
 have hf0 : w0.heap[w.heap.size]? = some (.cells (fsc nm (ptr rv)) 101 (0, 0)) := by rw [e0]; exact heap_at _ rfl
 have hs0 : w0.heap.size = w.heap.size + 1 := by rw [e0]; simp
 have H0 := Aside0.mk (And.intro hb0 (And.intro hf0 hs0))
 clear hb0 hf0 hs0 e0
 refine (rnull_calls w0 rv vb (HR.out.2.1.below H0.out.1) _ _ _ _ (HV.out.below H0.out.1) HL.out.2.1).mono ?_
 rintro e w1 ⟨rfl, rfl⟩
 have cf1 : w0.cell? ⟨w.heap.size, 1, none⟩ = some (.string nm) := by rw [cell_of_block H0.out.2.1]; rfl
 go_wp2_with fail
 obtain ⟨w1, e1⟩ : ∃ w1, w1 = w0.alloc (.cells #[.iface 165 (.agg (fm nm (.pointer none) ⟨#[]⟩ (.pointer none)))] 132) := ⟨_, rfl⟩
 try rw [← e1]
 have hb1 : Below w0.heap.size w0 w1 := by rw [e1]; exact (Below.refl _ _).alloc (Nat.le_refl _) _
 have hi1 : w1.heap[w0.heap.size]? = some (.cells #[.iface 165 (.agg (fm nm (.pointer none) ⟨#[]⟩ (.pointer none)))] 132 (0, 0)) := by rw [e1]; exact heap_at _ rfl
 have H1 := Aside0.mk (And.intro (H0.out.1.trans (hb1.mono H0.out.1.size)) (And.intro ((hb1.block _ (lt_of_block H0.out.2.1)).trans H0.out.2.1) hi1))
 clear hb1 hi1 e1 cf1
 have hcg : w1.cell? ⟨w0.heap.size, 0, none⟩ = some (.iface 165 (.agg (fm nm (.pointer none) ⟨#[]⟩ (.pointer none)))) := by rw [cell_of_block H1.out.2.2]; rfl
 refine (pipe1_calls w1 r b 4 t v _ (HR.out.1.below H1.out.1) (HN.out.below H1.out.1) (by rfl) w0.heap.size 1 165 _ _ 173 hcg _ (match_method nm _ _ _) (fun xs wa => enters_ Tryz.func173 rfl rfl xs wa)
  (matchA_calls w1 r b t v A g c nm ks bs hne (HR.out.1.below H1.out.1) (HN.out.below H1.out.1) HL.out.1 (fun h => HM.out.2.2.2.1 (by have := HM.out.2.2.1; omega)) HM.out.2.2.1 HM.out.2.1 (fun i hi => (H1.out.1.cell (World.block_lt_of_cell? w _ (HM.out.2.2.2.2 i hi))).trans (HM.out.2.2.2.2 i hi)) (fun j hj => by
   obtain ⟨t', cv', h⟩ := hk8.out j hj
   exact ⟨t', cv', h.below H1.out.1⟩))).mono ?_
 rintro e w2 ⟨o, rfl, hb2, hcase⟩
 have hbw : Below w.heap.size w w2 := H1.out.1.trans (hb2.mono H1.out.1.size)
 have hf2 := (hb2.block _ (lt_of_block H1.out.2.1)).trans H1.out.2.1
 have hlw := H1.out.1.size
 have H2 := Aside0.mk (And.intro hbw (And.intro hf2 hlw))
 clear hb2 hcg hbw hf2 hlw
 rcases hcase with ⟨hnin, rfl⟩ | ⟨j, rr, hj, rfl, hrr, hrl⟩
 ·have HC := Aside0.mk hnin
  clear hnin
  go_wp2_with fail
  have HS : Aside0 (∀ w' : World, Below w2.heap.size w2 w' → w'.cell? ⟨b, 6, none⟩ = some (.slice A bs.length c) ∧ w'.cell? ⟨w.heap.size, 1, none⟩ = some (.string nm) ∧ w'.cell? ⟨w.heap.size, 2, none⟩ = some (.string ⟨#[]⟩) ∧ w'.cell? ⟨w.heap.size, 3, none⟩ = some (.string ⟨#[]⟩) ∧ w'.cell? ⟨w.heap.size, 4, none⟩ = some (.string ⟨#[]⟩) ∧ w'.cell? ⟨w.heap.size, 5, none⟩ = some (ptr rv) ∧ w'.cell? ⟨w.heap.size, 8, none⟩ = some (.int .u32 0)) := ⟨fun w' hb => by
   have hf := (hb.block _ (lt_of_block H2.out.2.1)).trans H2.out.2.1
   have hn := (HN.out.below H2.out.1).below hb
   refine ⟨hn.content, ?_, ?_, ?_, ?_, ?_, ?_⟩ <;> (rw [cell_of_block hf]; rfl)⟩
  obtain ⟨i0, hi0, hz0, hz1, hz2⟩ : ∃ i0 : TypeInfo, Aside0 (Tryz.prog.info? 66 = some i0) ∧ Aside0 (i0.zero = some (.pointer none)) ∧ Aside0 (i0.size = 1) ∧ Aside0 (i0.bytes = 8) := by
   obtain ⟨i0, h1, h2⟩ := Option.map_eq_some_iff.1 Tryz.infoYP
   simp only [Prod.mk.injEq] at h2
   exact ⟨i0, ⟨h1⟩, ⟨h2.1⟩, ⟨h2.2.1⟩, ⟨h2.2.2⟩⟩
  refine start_ (n := 30) (S := fun w' => w'.cell? ⟨b, 6, none⟩ = some (.slice A bs.length c) ∧ w'.cell? ⟨w.heap.size, 1, none⟩ = some (.string nm) ∧ w'.cell? ⟨w.heap.size, 2, none⟩ = some (.string ⟨#[]⟩) ∧ w'.cell? ⟨w.heap.size, 3, none⟩ = some (.string ⟨#[]⟩) ∧ w'.cell? ⟨w.heap.size, 4, none⟩ = some (.string ⟨#[]⟩) ∧ w'.cell? ⟨w.heap.size, 5, none⟩ = some (ptr rv) ∧ w'.cell? ⟨w.heap.size, 8, none⟩ = some (.int .u32 0)) (ds := [26, 29]) #[false, false, false, false, false, false, false, false, false, false, false, false, false, false, false, false, false, false, false, false, false, false, false, false, false, false, false, false, false, false] (by kernel_rfl) rfl rfl (HS.out _ (Below.refl _ _).drew) (fun hHeld => ?_)
  refine with_tabW (T := setr23.T) (B := setr23.B) setr23.tab setr23.bits (fun HT_ HW_ => ?_)
  have HB := Aside0.mk ((Below.refl w2.heap.size w2).drew)
  generalize w2.drew = wc at HB hHeld ⊢
  refine ps_ 0 129 HT_ ?_
  refine ps_ 2 131 HT_ ?_
  refine ps_ 7 136 HT_ ?_
  refine ps_ 9 138 HT_ ?_
  refine ps_ 11 140 HT_ ?_
  refine ps_ 12 141 HT_ ?_
  refine ps_ 14 143 HT_ ?_
  refine ps_ 15 144 HT_ ?_
  refine ps_ 17 146 HT_ ?_
  refine ps_ 18 147 HT_ ?_
  refine ps_ 22 151 HT_ ?_
  refine ts_ 8 137 HT_ HW_ hHeld ?_
  refine ts_ 10 139 HT_ HW_ hHeld ?_
  refine ts_ 13 142 HT_ HW_ hHeld ?_
  refine ts_ 16 145 HT_ HW_ hHeld ?_
  refine ts_ 19 148 HT_ HW_ hHeld ?_
  refine ps_ 20 149 HT_ ?_
  refine ts_ 23 152 HT_ HW_ hHeld ?_
  refine two_ (i := 1) (j := 21) (Ni := (some 130)) (Nj := (some 150)) #[true, true, true, false, false, false, false, true, true, true, true, true, true, true, true, true, true, true, true, true, true, false, true, true, false, false, false, false, false, false] #[true, false, true, false, false, false, false, true, true, true, true, true, true, true, true, true, true, true, true, true, true, true, true, true, false, false, false, false, false, false] rfl rfl rfl rfl (two_of HT_.out (by kernel_rfl)) (by decide) (by decide) (fun K hK => ?_) (fun K hK => ?_)
  ·refine goes_ Tryz.func37 (by kernel_rfl) rfl #[ptr r] (by rfl) rfl rfl (by simp only [List.map_toArray, List.map_cons, List.map_nil]; rfl) ?_
   refine (ynode_calls wc r b (HR.out.1.below (H2.out.1.trans (HB.out.mono H2.out.1.size))) _ _ _ _ (HN.out.below (H2.out.1.trans (HB.out.mono H2.out.1.size))) HL.out.1).mono ?_
   rintro e w4 ⟨rfl, rfl⟩
   refine ⟨_, rfl, ?_⟩
   refine hK.out _ _ hHeld (fun hHeld => ?_)
   clear hK K
   refine ns_ ?_
   refine two_ (i := 3) (j := 21) (Ni := (some 132)) (Nj := (some 150)) #[true, true, true, true, false, false, false, true, true, true, true, true, true, true, true, true, true, true, true, true, true, false, true, true, false, false, false, false, false, false] #[true, true, true, false, false, false, false, true, true, true, true, true, true, true, true, true, true, true, true, true, true, true, true, true, false, false, false, false, false, false] rfl rfl rfl rfl (two_of HT_.out (by kernel_rfl)) (by decide) (by decide) (fun K hK => ?_) (fun K hK => ?_)
   ·refine goes_ Tryz.func37 (by kernel_rfl) rfl #[ptr r] (by rfl) rfl rfl (by simp only [List.map_toArray, List.map_cons, List.map_nil]; rfl) ?_
    refine (ynode_calls wc r b (HR.out.1.below (H2.out.1.trans (HB.out.mono H2.out.1.size))) _ _ _ _ (HN.out.below (H2.out.1.trans (HB.out.mono H2.out.1.size))) HL.out.1).mono ?_
    rintro e w4 ⟨rfl, rfl⟩
    refine ⟨_, rfl, ?_⟩
    refine hK.out _ _ hHeld (fun hHeld => ?_)
    clear hK K
    refine ns_ ?_
    refine ps_ 4 133 HT_ ?_
    refine ps_ 5 134 HT_ ?_
    refine ts_ 6 135 HT_ HW_ hHeld ?_
    refine two_ (i := 21) (j := 24) (Ni := (some 150)) (Nj := (some 153)) #[true, true, true, true, true, true, true, true, true, true, true, true, true, true, true, true, true, true, true, true, true, true, true, true, false, false, false, false, false, false] #[true, true, true, true, true, true, true, true, true, true, true, true, true, true, true, true, true, true, true, true, true, false, true, true, true, false, false, false, false, false] rfl rfl rfl rfl (two_of HT_.out (by kernel_rfl)) (by decide) (by decide) (fun K hK => ?_) (fun K hK => ?_)
    ·rw [if_pos (by rfl)]
     go_simp
     obtain ⟨wn, kb, e3, eg, _, hb3, hh3, hs3⟩ := alloc_step (Chg.refl (fun _ => False) wc) (.cells (ycells 8 ⟨#[]⟩ nm (.slice none 0 0)) 82)
     have HB3 := Aside0.mk (And.intro (HB.out.trans (hb3.mono HB.out.size)) (And.intro (show NB wn kb 8 ⟨#[]⟩ nm (.slice none 0 0) from hh3) (show w2.heap.size ≤ kb by have := HB.out.size; omega)))
     refine hK.out _ _ (HS.out _ (HB.out.alloc HB.out.size _)) (fun _ => ?_)
     refine world_ (w' := wn) e3 ?_
     rw [eg]
     have hHeld := HS.out _ HB3.out.1
     clear HB e3 eg hb3 hh3 hs3
     have HB := Aside0.mk HB3.out.1
     have HKB := Aside0.mk HB3.out.2
     clear HB3
     rename World => wc
     clear hK K
     refine ns_ ?_
     refine one_ (i := 24) (N := (some 153)) #[true, true, true, true, true, true, true, true, true, true, true, true, true, true, true, true, true, true, true, true, true, true, true, true, true, false, false, false, false, false] rfl rfl (one_of HT_.out (by kernel_rfl)) (by decide) (fun K hK => ?_)
     refine goes_ Tryz.func37 (by kernel_rfl) rfl #[ptr rv] (by rfl) rfl rfl (by simp only [List.map_toArray, List.map_cons, List.map_nil]; rfl) ?_
     refine (ynode_calls wc rv vb (HR.out.2.1.below (H2.out.1.trans (HB.out.mono H2.out.1.size))) _ _ _ _ (HV.out.below (H2.out.1.trans (HB.out.mono H2.out.1.size))) HL.out.2.1).mono ?_
     rintro e w4 ⟨rfl, rfl⟩
     refine ⟨_, rfl, ?_⟩
     refine hK.out _ _ hHeld (fun hHeld => ?_)
     clear hK K
     refine ns_ ?_
     refine one_ (i := 25) (N := (some 154)) #[true, true, true, true, true, true, true, true, true, true, true, true, true, true, true, true, true, true, true, true, true, true, true, true, true, true, false, false, false, false] rfl rfl (one_of HT_.out (by kernel_rfl)) (by decide) (fun K hK => ?_)
     rw [if_pos (by rfl)]
     go_simp
     obtain ⟨wn, g25, e3, eg, _, hb3, hh3, hs3⟩ := alloc_step (Chg.refl (fun _ => False) wc) (.cells #[ptr kb, ptr vb] 66)
     rw [e3, eg]
     have HB3 := Aside0.mk (And.intro (HB.out.trans (hb3.mono HB.out.size)) (And.intro (HKB.out.1.below hb3) (And.intro HKB.out.2 hh3)))
     refine hK.out _ _ (HS.out _ HB3.out.1) (fun hHeld => ?_)
     clear HB e3 eg hb3 hh3 hs3 HKB
     have HB := Aside0.mk HB3.out.1
     have HKB := Aside0.mk HB3.out.2
     clear HB3
     rename World => wc
     clear hK K
     refine ns_ ?_
     refine last_ (i := 26) (N := (some 155)) #[true, true, true, true, true, true, true, true, true, true, true, true, true, true, true, true, true, true, true, true, true, true, true, true, true, true, true, false, false, false] rfl rfl (one_of HT_.out (by kernel_rfl)) (by decide) (fun K hK => ?_)
     rw [if_pos (by rfl)]
     have hbw : Below w.heap.size w wc := H2.out.1.trans (HB.out.mono H2.out.1.size)
     have ho := own_move (w1 := wc) HO.out.2.1 (fun k hk => hbw.block k (own_lt HO.out.2.1 k hk))
     have HBW := Aside0.mk hbw
     refine wp_append_lies wc (.tmp 135) (.tmp 154) 80 rfl 0 66 i0 (.pointer none) 1 8 Tryz.underlying80 hi0.out hz0.out hz1.out hz2.out rfl (by decide) (.slice A bs.length c) bs.length (ptrs bs) (by rfl) ho ⟨g25, 0, none⟩ 2 2 [ptr kb, ptr vb] (by rfl) rfl (World.news_of_block (cs := #[ptr kb, ptr vb]) (fr := (0, 0)) HKB.out.2.2) (by simp [Value.oneCell']) (by omega) (by unfold maxLen; have := HM.out; omega) (by have := HM.out; omega) (by omega) _ rfl ?_
     intro g' cap w5 hown hgrow hat hlt
     have HG := Aside0.mk (And.intro hown (And.intro hgrow hat))
     refine hK.out _ _ ?_
     clear hown hgrow hat hlt ho hbw
     clear hK K
     refine ns_ ?_
     refine ps_ 27 156 HT_ ?_
     refine ps_ 28 157 HT_ ?_
     refine last_ (i := 29) (N := none) #[true, true, true, true, true, true, true, true, true, true, true, true, true, true, true, true, true, true, true, true, true, true, true, true, true, true, true, true, true, true] rfl rfl (one_of HT_.out (by kernel_rfl)) (by decide) (fun K hK => ?_)
     have hn5 : NB w5 b 4 t v (.slice A bs.length c) := by
      have h1 := HN.out.lt
      have hbo : ¬ some b = (Value.slice A bs.length c).ownBlock := fun e => by
       obtain ⟨cells, hh⟩ := own_typed HO.out.2.1 b e.symm
       rw [HN.out] at hh
       simp at hh
      exact (HG.out.2.1.block _ (Nat.lt_of_lt_of_le h1 HBW.out.size) hbo).trans ((HBW.out.block _ h1).trans HN.out)
     have hcell : w5.cell? ⟨b, 6, none⟩ = some (.slice A bs.length c) := hn5.content
     have hfr : w5.frozen? ⟨b, 6, none⟩ = false := frozen_of_block hn5
     clear hn5
     rw [if_pos (by rfl)]
     go_simp
     refine hK.out _ _ ?_
     clear hcell hfr
     clear hK K
     refine ns_ ?_
     refine done_ (done_of HT_.out (by kernel_rfl)) ?_
     have HFIN := setnew_fin HN.out HO.out.1 HO.out.2.1 HO.out.2.2.1 HO.out.2.2.2 HM.out.1 HY.out.2.1 HY.out.2.2 HR.out.2.1 HR.out.2.2 HC.out HBW.out HKB.out.1 (Nat.le_trans H2.out.1.size HKB.out.2.1) rfl HG.out.1 HG.out.2.1 HG.out.2.2
     have HFN := Aside0.mk HFIN
     have hfw := (HB.out.block _ (lt_of_block H2.out.2.1)).trans H2.out.2.1
     have hf5 : (w5.setCell ⟨b, 6, none⟩ (.slice (some ⟨g', 0, none⟩) (bs.length + 2) cap)).heap[w.heap.size]? = some (.cells (fsc nm (ptr rv)) 101 (0, 0)) :=
      (heap_set_ne (by have := HN.out.lt; show w.heap.size ≠ b; omega)).trans ((HG.out.2.1.block _ (lt_of_block hfw) (fun e => by have := own_lt HO.out.2.1 _ e.symm; omega)).trans hfw)
     have cfv : (w5.setCell ⟨b, 6, none⟩ (.slice (some ⟨g', 0, none⟩) (bs.length + 2) cap)).cell? ⟨w.heap.size, 5, none⟩ = some (ptr rv) := by rw [cell_of_block hf5]; rfl
     clear HFIN hfw hf5
     go_wp2
     refine bodyPost_ret (v := .tuple #[ptr rv, .nilIface]) (by simp [results, Tryz.results164, go_sem]) rfl ⟨some rv, rfl, HFN.out⟩
    ·refine goes_ Tryz.func37 (by kernel_rfl) rfl #[ptr rv] (by rfl) rfl rfl (by simp only [List.map_toArray, List.map_cons, List.map_nil]; rfl) ?_
     refine (ynode_calls wc rv vb (HR.out.2.1.below (H2.out.1.trans (HB.out.mono H2.out.1.size))) _ _ _ _ (HV.out.below (H2.out.1.trans (HB.out.mono H2.out.1.size))) HL.out.2.1).mono ?_
     rintro e w4 ⟨rfl, rfl⟩
     refine ⟨_, rfl, ?_⟩
     refine hK.out _ _ hHeld (fun hHeld => ?_)
     clear hK K
     refine ns_ ?_
     refine one_ (i := 21) (N := (some 150)) #[true, true, true, true, true, true, true, true, true, true, true, true, true, true, true, true, true, true, true, true, true, true, true, true, true, false, false, false, false, false] rfl rfl (one_of HT_.out (by kernel_rfl)) (by decide) (fun K hK => ?_)
     rw [if_pos (by rfl)]
     go_simp
     obtain ⟨wn, kb, e3, eg, _, hb3, hh3, hs3⟩ := alloc_step (Chg.refl (fun _ => False) wc) (.cells (ycells 8 ⟨#[]⟩ nm (.slice none 0 0)) 82)
     have HB3 := Aside0.mk (And.intro (HB.out.trans (hb3.mono HB.out.size)) (And.intro (show NB wn kb 8 ⟨#[]⟩ nm (.slice none 0 0) from hh3) (show w2.heap.size ≤ kb by have := HB.out.size; omega)))
     refine hK.out _ _ (HS.out _ (HB.out.alloc HB.out.size _)) (fun _ => ?_)
     refine world_ (w' := wn) e3 ?_
     rw [eg]
     have hHeld := HS.out _ HB3.out.1
     clear HB e3 eg hb3 hh3 hs3
     have HB := Aside0.mk HB3.out.1
     have HKB := Aside0.mk HB3.out.2
     clear HB3
     rename World => wc
     clear hK K
     refine ns_ ?_
     refine one_ (i := 25) (N := (some 154)) #[true, true, true, true, true, true, true, true, true, true, true, true, true, true, true, true, true, true, true, true, true, true, true, true, true, true, false, false, false, false] rfl rfl (one_of HT_.out (by kernel_rfl)) (by decide) (fun K hK => ?_)
     rw [if_pos (by rfl)]
     go_simp
     obtain ⟨wn, g25, e3, eg, _, hb3, hh3, hs3⟩ := alloc_step (Chg.refl (fun _ => False) wc) (.cells #[ptr kb, ptr vb] 66)
     rw [e3, eg]
     have HB3 := Aside0.mk (And.intro (HB.out.trans (hb3.mono HB.out.size)) (And.intro (HKB.out.1.below hb3) (And.intro HKB.out.2 hh3)))
     refine hK.out _ _ (HS.out _ HB3.out.1) (fun hHeld => ?_)
     clear HB e3 eg hb3 hh3 hs3 HKB
     have HB := Aside0.mk HB3.out.1
     have HKB := Aside0.mk HB3.out.2
     clear HB3
     rename World => wc
     clear hK K
     refine ns_ ?_
     refine last_ (i := 26) (N := (some 155)) #[true, true, true, true, true, true, true, true, true, true, true, true, true, true, true, true, true, true, true, true, true, true, true, true, true, true, true, false, false, false] rfl rfl (one_of HT_.out (by kernel_rfl)) (by decide) (fun K hK => ?_)
     rw [if_pos (by rfl)]
     have hbw : Below w.heap.size w wc := H2.out.1.trans (HB.out.mono H2.out.1.size)
     have ho := own_move (w1 := wc) HO.out.2.1 (fun k hk => hbw.block k (own_lt HO.out.2.1 k hk))
     have HBW := Aside0.mk hbw
     refine wp_append_lies wc (.tmp 135) (.tmp 154) 80 rfl 0 66 i0 (.pointer none) 1 8 Tryz.underlying80 hi0.out hz0.out hz1.out hz2.out rfl (by decide) (.slice A bs.length c) bs.length (ptrs bs) (by rfl) ho ⟨g25, 0, none⟩ 2 2 [ptr kb, ptr vb] (by rfl) rfl (World.news_of_block (cs := #[ptr kb, ptr vb]) (fr := (0, 0)) HKB.out.2.2) (by simp [Value.oneCell']) (by omega) (by unfold maxLen; have := HM.out; omega) (by have := HM.out; omega) (by omega) _ rfl ?_
     intro g' cap w5 hown hgrow hat hlt
     have HG := Aside0.mk (And.intro hown (And.intro hgrow hat))
     refine hK.out _ _ ?_
     clear hown hgrow hat hlt ho hbw
     clear hK K
     refine ns_ ?_
     refine ps_ 27 156 HT_ ?_
     refine ps_ 28 157 HT_ ?_
     refine last_ (i := 29) (N := none) #[true, true, true, true, true, true, true, true, true, true, true, true, true, true, true, true, true, true, true, true, true, true, true, true, true, true, true, true, true, true] rfl rfl (one_of HT_.out (by kernel_rfl)) (by decide) (fun K hK => ?_)
     have hn5 : NB w5 b 4 t v (.slice A bs.length c) := by
      have h1 := HN.out.lt
      have hbo : ¬ some b = (Value.slice A bs.length c).ownBlock := fun e => by
       obtain ⟨cells, hh⟩ := own_typed HO.out.2.1 b e.symm
       rw [HN.out] at hh
       simp at hh
      exact (HG.out.2.1.block _ (Nat.lt_of_lt_of_le h1 HBW.out.size) hbo).trans ((HBW.out.block _ h1).trans HN.out)
     have hcell : w5.cell? ⟨b, 6, none⟩ = some (.slice A bs.length c) := hn5.content
     have hfr : w5.frozen? ⟨b, 6, none⟩ = false := frozen_of_block hn5
     clear hn5
     rw [if_pos (by rfl)]
     go_simp
     refine hK.out _ _ ?_
     clear hcell hfr
     clear hK K
     refine ns_ ?_
     refine done_ (done_of HT_.out (by kernel_rfl)) ?_
     have HFIN := setnew_fin HN.out HO.out.1 HO.out.2.1 HO.out.2.2.1 HO.out.2.2.2 HM.out.1 HY.out.2.1 HY.out.2.2 HR.out.2.1 HR.out.2.2 HC.out HBW.out HKB.out.1 (Nat.le_trans H2.out.1.size HKB.out.2.1) rfl HG.out.1 HG.out.2.1 HG.out.2.2
     have HFN := Aside0.mk HFIN
     have hfw := (HB.out.block _ (lt_of_block H2.out.2.1)).trans H2.out.2.1
     have hf5 : (w5.setCell ⟨b, 6, none⟩ (.slice (some ⟨g', 0, none⟩) (bs.length + 2) cap)).heap[w.heap.size]? = some (.cells (fsc nm (ptr rv)) 101 (0, 0)) :=
      (heap_set_ne (by have := HN.out.lt; show w.heap.size ≠ b; omega)).trans ((HG.out.2.1.block _ (lt_of_block hfw) (fun e => by have := own_lt HO.out.2.1 _ e.symm; omega)).trans hfw)
     have cfv : (w5.setCell ⟨b, 6, none⟩ (.slice (some ⟨g', 0, none⟩) (bs.length + 2) cap)).cell? ⟨w.heap.size, 5, none⟩ = some (ptr rv) := by rw [cell_of_block hf5]; rfl
     clear HFIN hfw hf5
     go_wp2
     refine bodyPost_ret (v := .tuple #[ptr rv, .nilIface]) (by simp [results, Tryz.results164, go_sem]) rfl ⟨some rv, rfl, HFN.out⟩
   ·rw [if_pos (by rfl)]
    go_simp
    obtain ⟨wn, kb, e3, eg, _, hb3, hh3, hs3⟩ := alloc_step (Chg.refl (fun _ => False) wc) (.cells (ycells 8 ⟨#[]⟩ nm (.slice none 0 0)) 82)
    have HB3 := Aside0.mk (And.intro (HB.out.trans (hb3.mono HB.out.size)) (And.intro (show NB wn kb 8 ⟨#[]⟩ nm (.slice none 0 0) from hh3) (show w2.heap.size ≤ kb by have := HB.out.size; omega)))
    refine hK.out _ _ (HS.out _ (HB.out.alloc HB.out.size _)) (fun _ => ?_)
    refine world_ (w' := wn) e3 ?_
    rw [eg]
    have hHeld := HS.out _ HB3.out.1
    clear HB e3 eg hb3 hh3 hs3
    have HB := Aside0.mk HB3.out.1
    have HKB := Aside0.mk HB3.out.2
    clear HB3
    rename World => wc
    clear hK K
    refine ns_ ?_
    refine one_ (i := 3) (N := (some 132)) #[true, true, true, true, false, false, false, true, true, true, true, true, true, true, true, true, true, true, true, true, true, true, true, true, false, false, false, false, false, false] rfl rfl (one_of HT_.out (by kernel_rfl)) (by decide) (fun K hK => ?_)
    refine goes_ Tryz.func37 (by kernel_rfl) rfl #[ptr r] (by rfl) rfl rfl (by simp only [List.map_toArray, List.map_cons, List.map_nil]; rfl) ?_
    refine (ynode_calls wc r b (HR.out.1.below (H2.out.1.trans (HB.out.mono H2.out.1.size))) _ _ _ _ (HN.out.below (H2.out.1.trans (HB.out.mono H2.out.1.size))) HL.out.1).mono ?_
    rintro e w4 ⟨rfl, rfl⟩
    refine ⟨_, rfl, ?_⟩
    refine hK.out _ _ hHeld (fun hHeld => ?_)
    clear hK K
    refine ns_ ?_
    refine ps_ 4 133 HT_ ?_
    refine ps_ 5 134 HT_ ?_
    refine ts_ 6 135 HT_ HW_ hHeld ?_
    refine one_ (i := 24) (N := (some 153)) #[true, true, true, true, true, true, true, true, true, true, true, true, true, true, true, true, true, true, true, true, true, true, true, true, true, false, false, false, false, false] rfl rfl (one_of HT_.out (by kernel_rfl)) (by decide) (fun K hK => ?_)
    refine goes_ Tryz.func37 (by kernel_rfl) rfl #[ptr rv] (by rfl) rfl rfl (by simp only [List.map_toArray, List.map_cons, List.map_nil]; rfl) ?_
    refine (ynode_calls wc rv vb (HR.out.2.1.below (H2.out.1.trans (HB.out.mono H2.out.1.size))) _ _ _ _ (HV.out.below (H2.out.1.trans (HB.out.mono H2.out.1.size))) HL.out.2.1).mono ?_
    rintro e w4 ⟨rfl, rfl⟩
    refine ⟨_, rfl, ?_⟩
    refine hK.out _ _ hHeld (fun hHeld => ?_)
    clear hK K
    refine ns_ ?_
    refine one_ (i := 25) (N := (some 154)) #[true, true, true, true, true, true, true, true, true, true, true, true, true, true, true, true, true, true, true, true, true, true, true, true, true, true, false, false, false, false] rfl rfl (one_of HT_.out (by kernel_rfl)) (by decide) (fun K hK => ?_)
    rw [if_pos (by rfl)]
    go_simp
    obtain ⟨wn, g25, e3, eg, _, hb3, hh3, hs3⟩ := alloc_step (Chg.refl (fun _ => False) wc) (.cells #[ptr kb, ptr vb] 66)
    rw [e3, eg]
    have HB3 := Aside0.mk (And.intro (HB.out.trans (hb3.mono HB.out.size)) (And.intro (HKB.out.1.below hb3) (And.intro HKB.out.2 hh3)))
    refine hK.out _ _ (HS.out _ HB3.out.1) (fun hHeld => ?_)
    clear HB e3 eg hb3 hh3 hs3 HKB
    have HB := Aside0.mk HB3.out.1
    have HKB := Aside0.mk HB3.out.2
    clear HB3
    rename World => wc
    clear hK K
    refine ns_ ?_
    refine last_ (i := 26) (N := (some 155)) #[true, true, true, true, true, true, true, true, true, true, true, true, true, true, true, true, true, true, true, true, true, true, true, true, true, true, true, false, false, false] rfl rfl (one_of HT_.out (by kernel_rfl)) (by decide) (fun K hK => ?_)
    rw [if_pos (by rfl)]
    have hbw : Below w.heap.size w wc := H2.out.1.trans (HB.out.mono H2.out.1.size)
    have ho := own_move (w1 := wc) HO.out.2.1 (fun k hk => hbw.block k (own_lt HO.out.2.1 k hk))
    have HBW := Aside0.mk hbw
    refine wp_append_lies wc (.tmp 135) (.tmp 154) 80 rfl 0 66 i0 (.pointer none) 1 8 Tryz.underlying80 hi0.out hz0.out hz1.out hz2.out rfl (by decide) (.slice A bs.length c) bs.length (ptrs bs) (by rfl) ho ⟨g25, 0, none⟩ 2 2 [ptr kb, ptr vb] (by rfl) rfl (World.news_of_block (cs := #[ptr kb, ptr vb]) (fr := (0, 0)) HKB.out.2.2) (by simp [Value.oneCell']) (by omega) (by unfold maxLen; have := HM.out; omega) (by have := HM.out; omega) (by omega) _ rfl ?_
    intro g' cap w5 hown hgrow hat hlt
    have HG := Aside0.mk (And.intro hown (And.intro hgrow hat))
    refine hK.out _ _ ?_
    clear hown hgrow hat hlt ho hbw
    clear hK K
    refine ns_ ?_
    refine ps_ 27 156 HT_ ?_
    refine ps_ 28 157 HT_ ?_
    refine last_ (i := 29) (N := none) #[true, true, true, true, true, true, true, true, true, true, true, true, true, true, true, true, true, true, true, true, true, true, true, true, true, true, true, true, true, true] rfl rfl (one_of HT_.out (by kernel_rfl)) (by decide) (fun K hK => ?_)
    have hn5 : NB w5 b 4 t v (.slice A bs.length c) := by
     have h1 := HN.out.lt
     have hbo : ¬ some b = (Value.slice A bs.length c).ownBlock := fun e => by
      obtain ⟨cells, hh⟩ := own_typed HO.out.2.1 b e.symm
      rw [HN.out] at hh
      simp at hh
     exact (HG.out.2.1.block _ (Nat.lt_of_lt_of_le h1 HBW.out.size) hbo).trans ((HBW.out.block _ h1).trans HN.out)
    have hcell : w5.cell? ⟨b, 6, none⟩ = some (.slice A bs.length c) := hn5.content
    have hfr : w5.frozen? ⟨b, 6, none⟩ = false := frozen_of_block hn5
    clear hn5
    rw [if_pos (by rfl)]
    go_simp
    refine hK.out _ _ ?_
    clear hcell hfr
    clear hK K
    refine ns_ ?_
    refine done_ (done_of HT_.out (by kernel_rfl)) ?_
    have HFIN := setnew_fin HN.out HO.out.1 HO.out.2.1 HO.out.2.2.1 HO.out.2.2.2 HM.out.1 HY.out.2.1 HY.out.2.2 HR.out.2.1 HR.out.2.2 HC.out HBW.out HKB.out.1 (Nat.le_trans H2.out.1.size HKB.out.2.1) rfl HG.out.1 HG.out.2.1 HG.out.2.2
    have HFN := Aside0.mk HFIN
    have hfw := (HB.out.block _ (lt_of_block H2.out.2.1)).trans H2.out.2.1
    have hf5 : (w5.setCell ⟨b, 6, none⟩ (.slice (some ⟨g', 0, none⟩) (bs.length + 2) cap)).heap[w.heap.size]? = some (.cells (fsc nm (ptr rv)) 101 (0, 0)) :=
     (heap_set_ne (by have := HN.out.lt; show w.heap.size ≠ b; omega)).trans ((HG.out.2.1.block _ (lt_of_block hfw) (fun e => by have := own_lt HO.out.2.1 _ e.symm; omega)).trans hfw)
    have cfv : (w5.setCell ⟨b, 6, none⟩ (.slice (some ⟨g', 0, none⟩) (bs.length + 2) cap)).cell? ⟨w.heap.size, 5, none⟩ = some (ptr rv) := by rw [cell_of_block hf5]; rfl
    clear HFIN hfw hf5
    go_wp2
    refine bodyPost_ret (v := .tuple #[ptr rv, .nilIface]) (by simp [results, Tryz.results164, go_sem]) rfl ⟨some rv, rfl, HFN.out⟩
  ·rw [if_pos (by rfl)]
   go_simp
   obtain ⟨wn, kb, e3, eg, _, hb3, hh3, hs3⟩ := alloc_step (Chg.refl (fun _ => False) wc) (.cells (ycells 8 ⟨#[]⟩ nm (.slice none 0 0)) 82)
   have HB3 := Aside0.mk (And.intro (HB.out.trans (hb3.mono HB.out.size)) (And.intro (show NB wn kb 8 ⟨#[]⟩ nm (.slice none 0 0) from hh3) (show w2.heap.size ≤ kb by have := HB.out.size; omega)))
   refine hK.out _ _ (HS.out _ (HB.out.alloc HB.out.size _)) (fun _ => ?_)
   refine world_ (w' := wn) e3 ?_
   rw [eg]
   have hHeld := HS.out _ HB3.out.1
   clear HB e3 eg hb3 hh3 hs3
   have HB := Aside0.mk HB3.out.1
   have HKB := Aside0.mk HB3.out.2
   clear HB3
   rename World => wc
   clear hK K
   refine ns_ ?_
   refine one_ (i := 1) (N := (some 130)) #[true, true, true, false, false, false, false, true, true, true, true, true, true, true, true, true, true, true, true, true, true, true, true, true, false, false, false, false, false, false] rfl rfl (one_of HT_.out (by kernel_rfl)) (by decide) (fun K hK => ?_)
   refine goes_ Tryz.func37 (by kernel_rfl) rfl #[ptr r] (by rfl) rfl rfl (by simp only [List.map_toArray, List.map_cons, List.map_nil]; rfl) ?_
   refine (ynode_calls wc r b (HR.out.1.below (H2.out.1.trans (HB.out.mono H2.out.1.size))) _ _ _ _ (HN.out.below (H2.out.1.trans (HB.out.mono H2.out.1.size))) HL.out.1).mono ?_
   rintro e w4 ⟨rfl, rfl⟩
   refine ⟨_, rfl, ?_⟩
   refine hK.out _ _ hHeld (fun hHeld => ?_)
   clear hK K
   refine ns_ ?_
   refine one_ (i := 3) (N := (some 132)) #[true, true, true, true, false, false, false, true, true, true, true, true, true, true, true, true, true, true, true, true, true, true, true, true, false, false, false, false, false, false] rfl rfl (one_of HT_.out (by kernel_rfl)) (by decide) (fun K hK => ?_)
   refine goes_ Tryz.func37 (by kernel_rfl) rfl #[ptr r] (by rfl) rfl rfl (by simp only [List.map_toArray, List.map_cons, List.map_nil]; rfl) ?_
   refine (ynode_calls wc r b (HR.out.1.below (H2.out.1.trans (HB.out.mono H2.out.1.size))) _ _ _ _ (HN.out.below (H2.out.1.trans (HB.out.mono H2.out.1.size))) HL.out.1).mono ?_
   rintro e w4 ⟨rfl, rfl⟩
   refine ⟨_, rfl, ?_⟩
   refine hK.out _ _ hHeld (fun hHeld => ?_)
   clear hK K
   refine ns_ ?_
   refine ps_ 4 133 HT_ ?_
   refine ps_ 5 134 HT_ ?_
   refine ts_ 6 135 HT_ HW_ hHeld ?_
   refine one_ (i := 24) (N := (some 153)) #[true, true, true, true, true, true, true, true, true, true, true, true, true, true, true, true, true, true, true, true, true, true, true, true, true, false, false, false, false, false] rfl rfl (one_of HT_.out (by kernel_rfl)) (by decide) (fun K hK => ?_)
   refine goes_ Tryz.func37 (by kernel_rfl) rfl #[ptr rv] (by rfl) rfl rfl (by simp only [List.map_toArray, List.map_cons, List.map_nil]; rfl) ?_
   refine (ynode_calls wc rv vb (HR.out.2.1.below (H2.out.1.trans (HB.out.mono H2.out.1.size))) _ _ _ _ (HV.out.below (H2.out.1.trans (HB.out.mono H2.out.1.size))) HL.out.2.1).mono ?_
   rintro e w4 ⟨rfl, rfl⟩
   refine ⟨_, rfl, ?_⟩
   refine hK.out _ _ hHeld (fun hHeld => ?_)
   clear hK K
   refine ns_ ?_
   refine one_ (i := 25) (N := (some 154)) #[true, true, true, true, true, true, true, true, true, true, true, true, true, true, true, true, true, true, true, true, true, true, true, true, true, true, false, false, false, false] rfl rfl (one_of HT_.out (by kernel_rfl)) (by decide) (fun K hK => ?_)
   rw [if_pos (by rfl)]
   go_simp
   obtain ⟨wn, g25, e3, eg, _, hb3, hh3, hs3⟩ := alloc_step (Chg.refl (fun _ => False) wc) (.cells #[ptr kb, ptr vb] 66)
   rw [e3, eg]
   have HB3 := Aside0.mk (And.intro (HB.out.trans (hb3.mono HB.out.size)) (And.intro (HKB.out.1.below hb3) (And.intro HKB.out.2 hh3)))
   refine hK.out _ _ (HS.out _ HB3.out.1) (fun hHeld => ?_)
   clear HB e3 eg hb3 hh3 hs3 HKB
   have HB := Aside0.mk HB3.out.1
   have HKB := Aside0.mk HB3.out.2
   clear HB3
   rename World => wc
   clear hK K
   refine ns_ ?_
   refine last_ (i := 26) (N := (some 155)) #[true, true, true, true, true, true, true, true, true, true, true, true, true, true, true, true, true, true, true, true, true, true, true, true, true, true, true, false, false, false] rfl rfl (one_of HT_.out (by kernel_rfl)) (by decide) (fun K hK => ?_)
   rw [if_pos (by rfl)]
   have hbw : Below w.heap.size w wc := H2.out.1.trans (HB.out.mono H2.out.1.size)
   have ho := own_move (w1 := wc) HO.out.2.1 (fun k hk => hbw.block k (own_lt HO.out.2.1 k hk))
   have HBW := Aside0.mk hbw
   refine wp_append_lies wc (.tmp 135) (.tmp 154) 80 rfl 0 66 i0 (.pointer none) 1 8 Tryz.underlying80 hi0.out hz0.out hz1.out hz2.out rfl (by decide) (.slice A bs.length c) bs.length (ptrs bs) (by rfl) ho ⟨g25, 0, none⟩ 2 2 [ptr kb, ptr vb] (by rfl) rfl (World.news_of_block (cs := #[ptr kb, ptr vb]) (fr := (0, 0)) HKB.out.2.2) (by simp [Value.oneCell']) (by omega) (by unfold maxLen; have := HM.out; omega) (by have := HM.out; omega) (by omega) _ rfl ?_
   intro g' cap w5 hown hgrow hat hlt
   have HG := Aside0.mk (And.intro hown (And.intro hgrow hat))
   refine hK.out _ _ ?_
   clear hown hgrow hat hlt ho hbw
   clear hK K
   refine ns_ ?_
   refine ps_ 27 156 HT_ ?_
   refine ps_ 28 157 HT_ ?_
   refine last_ (i := 29) (N := none) #[true, true, true, true, true, true, true, true, true, true, true, true, true, true, true, true, true, true, true, true, true, true, true, true, true, true, true, true, true, true] rfl rfl (one_of HT_.out (by kernel_rfl)) (by decide) (fun K hK => ?_)
   have hn5 : NB w5 b 4 t v (.slice A bs.length c) := by
    have h1 := HN.out.lt
    have hbo : ¬ some b = (Value.slice A bs.length c).ownBlock := fun e => by
     obtain ⟨cells, hh⟩ := own_typed HO.out.2.1 b e.symm
     rw [HN.out] at hh
     simp at hh
    exact (HG.out.2.1.block _ (Nat.lt_of_lt_of_le h1 HBW.out.size) hbo).trans ((HBW.out.block _ h1).trans HN.out)
   have hcell : w5.cell? ⟨b, 6, none⟩ = some (.slice A bs.length c) := hn5.content
   have hfr : w5.frozen? ⟨b, 6, none⟩ = false := frozen_of_block hn5
   clear hn5
   rw [if_pos (by rfl)]
   go_simp
   refine hK.out _ _ ?_
   clear hcell hfr
   clear hK K
   refine ns_ ?_
   refine done_ (done_of HT_.out (by kernel_rfl)) ?_
   have HFIN := setnew_fin HN.out HO.out.1 HO.out.2.1 HO.out.2.2.1 HO.out.2.2.2 HM.out.1 HY.out.2.1 HY.out.2.2 HR.out.2.1 HR.out.2.2 HC.out HBW.out HKB.out.1 (Nat.le_trans H2.out.1.size HKB.out.2.1) rfl HG.out.1 HG.out.2.1 HG.out.2.2
   have HFN := Aside0.mk HFIN
   have hfw := (HB.out.block _ (lt_of_block H2.out.2.1)).trans H2.out.2.1
   have hf5 : (w5.setCell ⟨b, 6, none⟩ (.slice (some ⟨g', 0, none⟩) (bs.length + 2) cap)).heap[w.heap.size]? = some (.cells (fsc nm (ptr rv)) 101 (0, 0)) :=
    (heap_set_ne (by have := HN.out.lt; show w.heap.size ≠ b; omega)).trans ((HG.out.2.1.block _ (lt_of_block hfw) (fun e => by have := own_lt HO.out.2.1 _ e.symm; omega)).trans hfw)
   have cfv : (w5.setCell ⟨b, 6, none⟩ (.slice (some ⟨g', 0, none⟩) (bs.length + 2) cap)).cell? ⟨w.heap.size, 5, none⟩ = some (ptr rv) := by rw [cell_of_block hf5]; rfl
   clear HFIN hfw hf5
   go_wp2
   refine bodyPost_ret (v := .tuple #[ptr rv, .nilIface]) (by simp [results, Tryz.results164, go_sem]) rfl ⟨some rv, rfl, HFN.out⟩
 ·replace hrr := hrr.rn
  have hj3 : j < ks.length := by
   rcases Nat.lt_or_ge j ks.length with h | h
   ·exact h
   ·rw [List.getElem?_eq_none h] at hj; cases hj
  obtain ⟨vbj, F1, evb, hF1, hyj, hfr⟩ := HO.out.2.2.2.focus (2 * j + 1) (by rw [kv_length _ _ HM.out.1]; omega)
  rw [List.getD_eq_getElem?_getD, evb] at hrr
  have hjv : j < vs.length := by have := HM.out.1; omega
  have hv1 := kv_val ks vs j HM.out.1 hjv
  rw [List.getElem?_eq_getElem (by rw [kv_length _ _ HM.out.1]; omega)] at hv1
  rw [Option.some.inj hv1] at hyj
  obtain ⟨hF1b, cvj, bsj, hnj, _⟩ := hyj.open_
  obtain ⟨kj, tj, vj, hkj, hlj⟩ : ∃ kj tj vj, NB w vbj kj tj vj cvj ∧ Live kj tj := ⟨_, _, _, hnj, HL.out.2.2 _ (List.getElem_mem _)⟩
  have HC := Aside0.mk (And.intro hj (And.intro hrr (And.intro hrl (And.intro hkj (And.intro hlj (And.intro hF1b (And.intro hF1 (And.intro hfr hjv))))))))
  have hnv2 : NB w2 vb yv.kind yv.tag yv.value (.slice Av bsv.length cvc) := HV.out.below H2.out.1
  have hnj2 : NB w2 vbj kj tj vj cvj := hkj.below H2.out.1
  have cs1 : w2.cell? ⟨vb, 1, none⟩ = some (.int .u32 0) := hnv2.style
  have cs2 : w2.cell? ⟨vbj, 1, none⟩ = some (.int .u32 0) := hnj2.style
  have zs1 : w2.frozen? ⟨vb, 1, none⟩ = false := frozen_of_block hnv2
  have HID : Aside0 (w2.setCell ⟨vb, 1, none⟩ (.int .u32 0) = w2) := ⟨setCell_id hnv2 rfl⟩
  clear hj hrr hrl hkj hlj hF1b hF1 hfr hnj hyj hv1 evb hnv2 hnj2
  have cf7 : w2.cell? ⟨w.heap.size, 7, none⟩ = some (.bool false) := by rw [cell_of_block H2.out.2.1]; rfl
  have cf5 : w2.cell? ⟨w.heap.size, 5, none⟩ = some (ptr rv) := by rw [cell_of_block H2.out.2.1]; rfl
  go_wp2_with fail
  refine (ynode_calls w2 rv vb (HR.out.2.1.below H2.out.1) _ _ _ _ (HV.out.below H2.out.1) HL.out.2.1).mono ?_
  rintro e w' ⟨rfl, rfl⟩
  go_wp2_with fail
  refine (ynode_calls w2 rr vbj HC.out.2.1 _ _ _ _ (HC.out.2.2.2.1.below H2.out.1) HC.out.2.2.2.2.1).mono ?_
  rintro e w' ⟨rfl, rfl⟩
  go_wp2_with fail
  rw [HID.out]
  refine (ynode_calls w2 rv vb (HR.out.2.1.below H2.out.1) _ _ _ _ (HV.out.below H2.out.1) HL.out.2.1).mono ?_
  rintro e w' ⟨rfl, rfl⟩
  go_wp2_with fail
  refine (setynode_calls w2 rr vbj vb kj _ tj vj _ _ cvj Av bsv.length cvc HC.out.2.1 (HC.out.2.2.2.1.below H2.out.1) (HV.out.below H2.out.1)).mono ?_
  rintro e w3 ⟨rfl, hn3, hc3⟩
  have HF := Aside0.mk (And.intro hn3 hc3)
  clear hn3 hc3
  go_wp2_with fail
  refine bodyPost_ret (v := .tuple #[ptr rr, .nilIface]) (by simp [results, Tryz.results164, go_sem]) rfl ⟨some rr, rfl, ?_⟩
  obtain ⟨hn3, hc3⟩ := HF.out
  obtain ⟨hj, hrr, hrl, hkj, hlj, hF1b, hF1, hfr, _⟩ := HC.out
  obtain ⟨hF, ho, hfo, hyl⟩ := HO.out
  obtain ⟨hFv, hov, hfov, hylv⟩ := HOV.out
  have hb2 := H2.out.1
  have hvl : vb < w.heap.size := lt_of_block HV.out
  have hjl : vbj < w.heap.size := lt_of_block hkj
  have hFj : F vbj ∧ vbj ≠ b ∧ some vbj ≠ (Value.slice A bs.length c).ownBlock := hF1 vbj hF1b
  have hnFv : ¬ Fv vbj := HY.out.2.2 vbj hFj.1
  have hcw : Chg (fun k => k = vbj) w w3 := (Chg.of_below hb2).trans hc3 (fun k q => .inl q)
  have hownv : ∀ k, (Value.slice Av bsv.length cvc).ownBlock = some k → k ≠ vb := fun k hk e => by
   obtain ⟨cells, hh⟩ := own_typed hov k hk
   have hv := HV.out
   rw [e, hv] at hh
   simp at hh
  have hyv3 : YN w3 (fun k => k = vbj ∨ (Fv k ∧ k ≠ vb)) vbj yv := by
   rw [← Y.eta yv]
   refine YN.close (.inl rfl) hn3 (own_move hov (fun k hk => hcw.block k (own_lt hov k hk) (fun e => hnFv (by rw [← e]; exact hfov k hk)))) (fun k hk => .inr ⟨hfov k hk, hownv k hk⟩) ?_
   refine YL.move (fun k q => ⟨.inr ⟨q.1, q.2.1⟩, fun e => hnFv (by rw [← e]; exact q.1), q.2.2⟩) (fun k q hk => hcw.block k hk (fun e => hnFv (by rw [← e]; exact q.1))) hylv
  have hyl3 := hfr w3 (fun k => k = vbj ∨ (Fv k ∧ k ≠ vb)) yv hyv3 (fun k q1 q2 hk => hcw.block k hk (fun e => q2 (by rw [e]; exact hF1b))) (fun k q => by
   rcases q with rfl | ⟨q, _⟩
   ·exact .inl hF1b
   ·exact .inr (fun r => HY.out.2.2 k r.1 q))
  rw [kv_set] at hyl3
  have hbF : ∀ k, (k = vbj ∨ (Fv k ∧ k ≠ vb)) → k ≠ b := by
   rintro k (rfl | ⟨q, _⟩) e
   ·exact hFj.2.1 e
   ·exact HY.out.2.2 k (by rw [e]; exact hF) q
  have hoF : ∀ k, (k = vbj ∨ (Fv k ∧ k ≠ vb)) → some k ≠ (Value.slice A bs.length c).ownBlock := by
   rintro k (rfl | ⟨q, _⟩) e
   ·exact hFj.2.2 e
   ·exact HY.out.2.2 k (hfo k e.symm) q
  have hno : ∀ k, (Value.slice A bs.length c).ownBlock = some k → k ≠ vbj := fun k hk e => hFj.2.2 (by rw [← e, hk])
  refine ⟨fun k => F k ∨ Fv k, ks, vs.set j yv, .inr ⟨j, hj, rfl, rfl⟩, ?_, fun k q => ?_, hcw.mono (fun k e => by rw [e]; exact hFj.1), rr, vbj, _, rfl, ?_, hyv3⟩
  ·refine YN.close (.inl hF) ((hcw.block b (lt_of_block HN.out) (fun e => hFj.2.1 e.symm)).trans HN.out) (own_move ho (fun k hk => hcw.block k (own_lt ho k hk) (hno k hk))) (fun k hk => .inl (hfo k hk)) (hyl3.mono (fun k q => ?_))
   rcases q with ⟨q, _⟩ | q
   ·exact ⟨.inl q.1, q.2.1, q.2.2⟩
   ·refine ⟨?_, hbF k q, hoF k q⟩
    rcases q with rfl | ⟨q, _⟩
    ·exact .inl hFj.1
    ·exact .inr q
  ·rcases q with q | q
   ·exact .inl q
   ·exact .inr (.inl q)
  ·exact hrr.move (fun hlt => hc3.block rr hlt (by have := H2.out.2.2; omega))
end Go.Proofs.YtkpdkoafngjflaaGreat
