import Derived.Test.YtkpdkoafngjflaaGreatSetDo
import Derived.Test.YtkpdkoafngjflaaGreatClear
import Derived.Test.YtkpdkoafngjflaaGreatRFields
import Derived.Test.YtkpdkoafngjflaaGreatVals
import Derived.Test.YtkpdkoafngjflaaGreatVw
import Derived.Test.YtkpdkoafngjflaaGreatVisN
import Derived.Test.YtkpdkoafngjflaaGreatFval
import Derived.Test.YtkpdkoafngjflaaGreatCovers
namespace Go.Proofs.YtkpdkoafngjflaaGreat
open Go.RowKit Go.Proofs.YtkpdkoafngjflaaGreatW.PrintWords Go.Proofs.YtkpdkoafngjflaaGreatW.PrintLast Go.Proofs.YtkpdkoafngjflaaGreat.PFnFields
set_option linter.unusedVariables false
set_option linter.unusedSimpArgs false
theorem clear_method (nm : ByteArray) (n : Nat) (wa : World) : (method (n + 1) 220 (.agg #[.string ⟨#[]⟩, .string nm, .bool false]) "Filter").run Tryz.prog wa = .ok (183, .agg #[.string ⟨#[]⟩, .string nm, .bool false]) wa := by kernel_rfl
theorem clear_calls (nm : ByteArray) (w : World) : Calls Tryz.prog 166 #[.string nm] w fun e w' => e = .returned (.agg #[.string ⟨#[]⟩, .string nm, .bool false]) ∧ Below w.heap.size w w' := by
 go_enter Tryz.func166, Tryz.ntmps166
 go_wp2
 refine bodyPost_ret (v := .agg #[.string ⟨#[]⟩, .string nm, .bool false]) (by simp [results, Tryz.results166, go_sem]) rfl ⟨rfl, (Below.refl _ _).alloc (Nat.le_refl _) _⟩
set_option maxRecDepth 100000 in
set_option maxHeartbeats 1600000 in
theorem setter_self (w : World) (r b rv : Nat) (nm : ByteArray) (ks : List ByteArray) (bs : List Nat) (A : Option Addr) (g c j : Nat) (kv : Int) (tv vv : ByteArray) (Av : Option Addr) (nv cv : Nat) (hne : nm.toList.isEmpty = false) (hr : RN w r b) (hf : FM w b ks bs A g c) (hnd : ks.Nodup) (hj : ks[j]? = some nm)
  (hrv : RN w rv (bs.getD (2 * j + 1) 0)) (hn : NB w (bs.getD (2 * j + 1) 0) kv tv vv (.slice Av nv cv)) (hl : Live kv tv) :
  Calls Tryz.prog 164 #[.agg (fsc nm (ptr rv)), ptr r] w (FilterPost (fun o w' => Below w.heap.size w w')) := by
 have hmf : ∀ (fn : Fn) (first cap : Array Value) (w : World), (Instr.makeFunc fn first cap).run Tryz.prog w = .ok (.func fn first cap) w := fun _ _ _ _ => rfl
 obtain ⟨vb, hvb⟩ : ∃ vb, vb = bs.getD (2 * j + 1) 0 := ⟨_, rfl⟩
 rw [← hvb] at hrv hn
 have HR := Aside0.mk (And.intro hr (And.intro hrv hf))
 have HV := Aside0.mk (And.intro hn hl)
 have HJ := Aside0.mk (And.intro hnd (And.intro hj hvb))
 clear hr hf hnd hj hrv hn hl hvb
 go_enter Tryz.func164, Tryz.ntmps164
 go_wp2_with fail
 obtain ⟨w0, e0⟩ : ∃ w0, w0 = w.alloc (.cells (fsc nm (ptr rv)) 101) := ⟨_, rfl⟩
 rw [← e0]
 have hb0 : Below w.heap.size w w0 := by rw [e0]; exact (Below.refl _ _).alloc (Nat.le_refl _) _
 have hf0 : w0.heap[w.heap.size]? = some (.cells (fsc nm (ptr rv)) 101 (0, 0)) := by rw [e0]; exact heap_at _ rfl
 have hs0 : w0.heap.size = w.heap.size + 1 := by rw [e0]; simp
 have H0 := Aside0.mk (And.intro hb0 (And.intro hf0 hs0))
 clear hb0 hf0 hs0 e0
 refine (rnull_calls w0 rv vb (HR.out.2.1.below H0.out.1) _ _ _ _ (HV.out.1.below H0.out.1) HV.out.2).mono ?_
 rintro e w1 ⟨rfl, rfl⟩
 have cf1 : w0.cell? ⟨w.heap.size, 1, none⟩ = some (.string nm) := by rw [cell_of_block H0.out.2.1]; rfl
 go_wp2_with fail
 obtain ⟨w1, e1⟩ : ∃ w1, w1 = w0.alloc (.cells #[.iface 165 (.agg (fm nm (.pointer none) ⟨#[]⟩ (.pointer none)))] 132) := ⟨_, rfl⟩
 try rw [← e1]
 have hb1 : Below w0.heap.size w0 w1 := by rw [e1]; exact (Below.refl _ _).alloc (Nat.le_refl _) _
 have hi1 : w1.heap[w0.heap.size]? = some (.cells #[.iface 165 (.agg (fm nm (.pointer none) ⟨#[]⟩ (.pointer none)))] 132 (0, 0)) := by rw [e1]; exact heap_at _ rfl
 have H1 := Aside0.mk (And.intro (H0.out.1.trans (hb1.mono H0.out.1.size)) (And.intro ((hb1.block _ (lt_of_block H0.out.2.1)).trans H0.out.2.1) hi1))
 clear hb1 hi1 e1 cf1
 have hcg : w1.cell? ⟨w0.heap.size, 0, none⟩ = some (.iface 165 (.agg (fm nm (.pointer none) ⟨#[]⟩ (.pointer none)))) := by rw [cell_of_block H1.out.2.2]; rfl
 have HF1 := Aside0.mk (HR.out.2.2.below H1.out.1)
 refine (pipe1_calls w1 r b 4 _ _ _ (HR.out.1.below H1.out.1) HF1.out.nb (by rfl) w0.heap.size 1 165 _ _ 173 hcg _ (match_method nm _ _ _) (fun xs wa => enters_ Tryz.func173 rfl rfl xs wa)
  (matchA_calls w1 r b _ _ A g c nm ks bs hne (HR.out.1.below H1.out.1) HF1.out.nb live_map HF1.out.at_ HF1.out.len HF1.out.most HF1.out.cells (fun j hj => by
   obtain ⟨cv', h⟩ := HF1.out.keys j hj
   exact ⟨_, cv', h⟩))).mono ?_
 rintro e w2 ⟨o, rfl, hb2, hcase⟩
 have hbw : Below w.heap.size w w2 := H1.out.1.trans (hb2.mono H1.out.1.size)
 have hf2 := (hb2.block _ (lt_of_block H1.out.2.1)).trans H1.out.2.1
 have H2 := Aside0.mk (And.intro hbw hf2)
 clear hb2 hcg hbw hf2
 rcases hcase with ⟨hnin, rfl⟩ | ⟨q, rr, hq, rfl, hrr, hrl⟩
 ·exact absurd (List.mem_of_getElem? HJ.out.2.1) hnin
 ·have hqj : q = j := by
   have h1 := (List.getElem?_eq_some_iff.1 hq)
   have h2 := (List.getElem?_eq_some_iff.1 HJ.out.2.1)
   have e1 := plc_nodup HJ.out.1 q h1.1
   have e2 := plc_nodup HJ.out.1 j h2.1
   rw [h1.2] at e1
   rw [h2.2] at e2
   omega
  subst hqj
  replace hrr := hrr.rn
  rw [← HJ.out.2.2] at hrr
  have HC := Aside0.mk hrr
  have hnv2 : NB w2 vb kv tv vv (.slice Av nv cv) := HV.out.1.below H2.out.1
  have cs1 : w2.cell? ⟨vb, 1, none⟩ = some (.int .u32 0) := hnv2.style
  have zs1 : w2.frozen? ⟨vb, 1, none⟩ = false := frozen_of_block hnv2
  have HID : Aside0 (w2.setCell ⟨vb, 1, none⟩ (.int .u32 0) = w2) := ⟨setCell_id hnv2 rfl⟩
  clear hq hrr hrl hnv2
  have cf7 : w2.cell? ⟨w.heap.size, 7, none⟩ = some (.bool false) := by rw [cell_of_block H2.out.2]; rfl
  have cf5 : w2.cell? ⟨w.heap.size, 5, none⟩ = some (ptr rv) := by rw [cell_of_block H2.out.2]; rfl
  go_wp2_with fail
  refine (ynode_calls w2 rv vb (HR.out.2.1.below H2.out.1) _ _ _ _ (HV.out.1.below H2.out.1) HV.out.2).mono ?_
  rintro e w' ⟨rfl, rfl⟩
  go_wp2_with fail
  refine (ynode_calls w2 rr vb HC.out _ _ _ _ (HV.out.1.below H2.out.1) HV.out.2).mono ?_
  rintro e w' ⟨rfl, rfl⟩
  go_wp2_with fail
  rw [HID.out]
  refine (ynode_calls w2 rv vb (HR.out.2.1.below H2.out.1) _ _ _ _ (HV.out.1.below H2.out.1) HV.out.2).mono ?_
  rintro e w' ⟨rfl, rfl⟩
  go_wp2_with fail
  refine (setynode_calls w2 rr vb vb kv kv tv vv tv vv _ Av nv cv HC.out (HV.out.1.below H2.out.1) (HV.out.1.below H2.out.1)).mono ?_
  rintro e w3 ⟨rfl, hn3, hc3⟩
  have hb3 : Below w2.heap.size w2 w3 := ⟨hc3.os, hc3.tape, hc3.output, hc3.size, fun k hk => by
   by_cases e : k = vb
   ·subst e; exact hn3.trans (HV.out.1.below H2.out.1).symm
   ·exact hc3.block k hk e⟩
  have HF := Aside0.mk (H2.out.1.trans (hb3.mono H2.out.1.size))
  clear hn3 hc3 hb3
  go_wp2_with fail
  exact bodyPost_ret (v := .tuple #[ptr rr, .nilIface]) (by simp [results, Tryz.results164, go_sem]) rfl ⟨some rr, rfl, HF.out⟩
set_option maxRecDepth 100000 in
set_option maxHeartbeats 1600000 in
theorem setter_nil (w : World) (r b g c : Nat) (nm : ByteArray) (ks : List ByteArray) (bs : List Nat) (hne : nm.toList.isEmpty = false) (hr : RN w r b) (hn : NB w b 4 ⟨#[]⟩ ⟨#[]⟩ (.slice (some ⟨g, 0, none⟩) bs.length c))
  (hrow : w.ownsRow 0 66 1 (.slice (some ⟨g, 0, none⟩) bs.length c) bs.length (ptrs bs)) (hm : bs.length = 2 * ks.length) (hm1 : ks.length ≤ 1000) (hkey : ∀ j (h : j < ks.length), ∃ t cv, NB w (bs.getD (2 * j) 0) 8 t ks[j] cv) :
  Calls Tryz.prog 164 #[.agg (fsc nm (.pointer none)), ptr r] w fun e w' => ∃ w1, Below w.heap.size w w1 ∧ ClearPost w1 b g c ⟨#[]⟩ ⟨#[]⟩ bs ks nm e w' := by
 have HR := Aside0.mk (And.intro hr (And.intro hn (And.intro hrow (And.intro hm (And.intro hm1 hkey)))))
 clear hr hn hrow hm hm1 hkey
 go_enter Tryz.func164, Tryz.ntmps164
 go_wp2_with fail
 obtain ⟨w0, e0⟩ : ∃ w0, w0 = w.alloc (.cells (fsc nm (.pointer none)) 101) := ⟨_, rfl⟩
 rw [← e0]
 have hb0 : Below w.heap.size w w0 := by rw [e0]; exact (Below.refl _ _).alloc (Nat.le_refl _) _
 have H0 := Aside0.mk hb0
 clear hb0 e0
 refine (clear_calls nm w0).mono ?_
 rintro e w1 ⟨rfl, hb1⟩
 have H1 := Aside0.mk (H0.out.trans (hb1.mono H0.out.size))
 clear hb1
 go_wp2_with fail
 obtain ⟨w2, e2⟩ : ∃ w2, w2 = w1.alloc (.cells #[.iface 220 (.agg #[.string ⟨#[]⟩, .string nm, .bool false])] 132) := ⟨_, rfl⟩
 try rw [← e2]
 have hb2 : Below w1.heap.size w1 w2 := by rw [e2]; exact (Below.refl _ _).alloc (Nat.le_refl _) _
 have hi2 : w2.heap[w1.heap.size]? = some (.cells #[.iface 220 (.agg #[.string ⟨#[]⟩, .string nm, .bool false])] 132 (0, 0)) := by rw [e2]; exact heap_at _ rfl
 have H2 := Aside0.mk (H1.out.trans (hb2.mono H1.out.size))
 have hcg : w2.cell? ⟨w1.heap.size, 0, none⟩ = some (.iface 220 (.agg #[.string ⟨#[]⟩, .string nm, .bool false])) := by rw [cell_of_block hi2]; rfl
 clear hb2 hi2 e2
 refine (pipe1_calls w2 r b 4 _ _ _ (HR.out.1.below H2.out) (HR.out.2.1.below H2.out) (by rfl) w1.heap.size 1 220 _ _ 183 hcg (fun (o : Option Nat) (w' : World) => ClearPost w2 b g c ⟨#[]⟩ ⟨#[]⟩ bs ks nm (.returned (.tuple #[.pointer (o.map fun k => ⟨k, 0, none⟩), .nilIface])) w') (clear_method nm) (fun xs wa => enters_ Tryz.func183 rfl rfl xs wa)
  ((clearfilter_calls w2 r b g c 0 _ _ nm ks bs (HR.out.1.below H2.out) live_map (HR.out.2.1.below H2.out) (own_move HR.out.2.2.1 (fun k hk => H2.out.block k (own_lt HR.out.2.2.1 k hk))) HR.out.2.2.2.1 HR.out.2.2.2.2.1 (fun j hj => by
   obtain ⟨t, cv, h⟩ := HR.out.2.2.2.2.2 j hj
   exact ⟨t, cv, h.below H2.out⟩)).mono ?_)).mono ?_
 ·intro e w' h
  rcases h with ⟨h1, rfl, h2⟩ | ⟨j, rr, bs', h1, h2, rfl, h3⟩
  ·exact ⟨none, rfl, .inl ⟨h1, rfl, h2⟩⟩
  ·exact ⟨some rr, rfl, .inr ⟨j, rr, bs', h1, h2, rfl, h3⟩⟩
 rintro e w3 ⟨o, rfl, hq⟩
 have HQ := Aside0.mk hq
 clear hq hcg
 go_wp2_with fail
 exact bodyPost_ret (v := .tuple #[.pointer (o.map fun k => ⟨k, 0, none⟩), .nilIface]) (by simp [results, Tryz.results164, go_sem]) rfl ⟨w2, H2.out, HQ.out⟩
def NilPost (w : World) (b : Nat) (F : Nat → Prop) (ks : List ByteArray) (vs : List Y) (nm : ByteArray) (e : Ending) (w' : World) : Prop :=
 ∃ o : Option Nat, e = .returned (.tuple #[.pointer (o.map fun k => ⟨k, 0, none⟩), .nilIface]) ∧ ((nm ∉ ks ∧ Below w.heap.size w w') ∨ ∃ j, ks[j]? = some nm ∧ YN w' F b (.mk 4 ⟨#[]⟩ ⟨#[]⟩ (kv (ks.take j ++ ks.drop (j + 1)) (vs.take j ++ vs.drop (j + 1)))) ∧ Chg F w w')
theorem setter_niltree (w : World) (r b : Nat) (F : Nat → Prop) (nm : ByteArray) (ks : List ByteArray) (vs : List Y) (hne : nm.toList.isEmpty = false) (hr : RN w r b) (hy : YN w F b (.mk 4 ⟨#[]⟩ ⟨#[]⟩ (kv ks vs))) (hkl : ks.length = vs.length) (h0 : 0 < ks.length) (hm1 : ks.length ≤ 1000) :
  Calls Tryz.prog 164 #[.agg (fsc nm (.pointer none)), ptr r] w (NilPost w b F ks vs nm) := by
 obtain ⟨hF, cv, bs, hn, ho, hfo, hl⟩ := hy.open_
 simp only [Y.kind, Y.tag, Y.value, Y.content] at hn hl
 have hbl : bs.length = 2 * ks.length := by rw [hl.length, kv_length _ _ hkl]
 obtain ⟨g, c, rfl, _, hgl⟩ := ho.form (by omega)
 have hFg : F g := hfo g rfl
 obtain ⟨Fs, f1, f2, f3⟩ := hl.split
 have hkey : ∀ j (h : j < ks.length), ∃ t cv, NB w (bs.getD (2 * j) 0) 8 t ks[j] cv := fun j hj => by
  have := f3 (2 * j) (by rw [kv_length _ _ hkl]; omega)
  have e := kv_key ks vs j hkl hj
  rw [List.getElem?_eq_getElem (by rw [kv_length _ _ hkl]; omega)] at e
  rw [Option.some.inj e] at this
  obtain ⟨_, cv, _, hk, _⟩ := this.open_
  exact ⟨_, cv, hk⟩
 refine (setter_nil w r b g c nm ks bs hne hr hn ho hbl hm1 hkey).mono ?_
 rintro e w' ⟨w1, hb1, (⟨h1, rfl, hb⟩ | ⟨j, rr, bs', hj, rfl, rfl, q1, q2, q3, q4, q5⟩)⟩
 ·exact ⟨none, rfl, .inl ⟨h1, hb1.trans (hb.mono hb1.size)⟩⟩
 ·have hlv : ∀ k, F k ∧ k ≠ b ∧ some k ≠ (Value.slice (some ⟨g, 0, none⟩) bs.length c).ownBlock → ¬ (k = b ∨ k = g) := by
   rintro k ⟨_, h3, h4⟩ (rfl | rfl)
   ·exact h3 rfl
   ·exact h4 rfl
  have hl' := (hl.below hb1).chg q4 hlv
  have hc := hl'.cut (2 * j) (2 * j + 2) (by omega)
  rw [kv_cut _ _ _ hkl] at hc
  refine ⟨some rr, rfl, .inr ⟨j, hj, YN.close hF q2 q3 (fun k hk => hfo k hk) hc, (Chg.of_below hb1).trans q4 (fun k q => .inl ?_)⟩⟩
  rcases q with rfl | rfl
  ·exact hF
  ·exact hFg
def Gb (c : UInt8) : Prop := (97 ≤ c.toNat ∧ c.toNat ≤ 122) ∨ (48 ≤ c.toNat ∧ c.toNat ≤ 57) ∨ c.toNat = 45
def End_ (r : List UInt8) : Prop := ∀ c l, r = c :: l → ¬ Gb c
theorem scan : ∀ {u v r s : List UInt8}, (∀ c ∈ u, Gb c) → (∀ c ∈ v, Gb c) → End_ r → End_ s → u ++ r = v ++ s → u = v ∧ r = s
 | [], [], r, s, _, _, _, _, h => ⟨rfl, h⟩
 | [], c :: v, r, s, _, hv, hr, _, h => absurd (hv c (List.mem_cons_self ..)) (hr c (v ++ s) h)
 | c :: u, [], r, s, hu, _, _, hs, h => absurd (hu c (List.mem_cons_self ..)) (hs c (u ++ r) h.symm)
 |c :: u, e :: v, r, s, hu, hv, hr, hs, h => by
  simp only [List.cons_append, List.cons.injEq] at h
  obtain ⟨rfl, h⟩ := h
  obtain ⟨rfl, rfl⟩ := scan (fun q hq => hu q (List.mem_cons_of_mem _ hq)) (fun q hq => hv q (List.mem_cons_of_mem _ hq)) hr hs h
  exact ⟨rfl, rfl⟩
def lL : List (List UInt8) → List UInt8
 | [] => []
 | v :: vs => v ++ 44 :: 32 :: lL vs
def lM : List (List UInt8) → List (List UInt8) → List UInt8
 | k :: ks, v :: vs => k ++ 58 :: 32 :: (v ++ 44 :: 32 :: lM ks vs)
 | _, _ => []
theorem txL_list : ∀ (vs : List ByteArray) (o : ByteArray), (txL vs o).data.toList = o.data.toList ++ lL (vs.map fun v => v.data.toList)
 | [], o => by simp [txL, lL]
 |v :: vs, o => by
  simp only [txL]
  rw [txL_list vs]
  simp [lL, ByteArray.data_append]
theorem txM_list : ∀ (ks vs : List ByteArray) (o : ByteArray), (txM ks vs o).data.toList = o.data.toList ++ lM (ks.map fun v => v.data.toList) (vs.map fun v => v.data.toList)
 | [], vs, o => by simp [txM, lM]
 | _ :: _, [], o => by simp [txM, lM]
 |k :: ks, v :: vs, o => by
  simp only [txM]
  rw [txM_list ks vs]
  simp [lM, ByteArray.data_append]
theorem bt_mem {s : ByteArray} {c : UInt8} (h : c ∈ s.data.toList) : ∃ i : Int, 0 ≤ i ∧ i < s.size ∧ bt s i = c.toNat := by
 obtain ⟨i, hi, e⟩ := List.getElem_of_mem h
 have hs : i < s.size := by
  have : s.size = s.data.toList.length := rfl
  omega
 refine ⟨i, by omega, by omega, ?_⟩
 have hs' : (i : Int).toNat < s.size := by rw [Int.toNat_natCast]; exact hs
 unfold bt
 rw [dif_pos hs']
 have : s[(i : Int).toNat]'hs' = c := by
  rw [← e]
  simp only [Int.toNat_natCast]
  rfl
 rw [this]
theorem Sc.bytes {t g : ByteArray} (h : Sc t g) : (∀ c ∈ t.data.toList, Gb c) ∧ t.data.toList ≠ [] := by
 have hl : t.size = t.data.toList.length := rfl
 rcases h with ⟨_, q⟩ | ⟨_, q⟩
 ·refine ⟨fun c hc => ?_, fun e => by have := q.pos; rw [hl, e] at this; simp at this⟩
  obtain ⟨i, h0, h1, e⟩ := bt_mem hc
  have := q.all i h0 h1
  rw [e] at this
  unfold wordByte at this
  unfold Gb
  omega
 ·refine ⟨fun c hc => ?_, fun e => by have := q.pos; rw [hl, e] at this; simp at this⟩
  obtain ⟨i, h0, h1, e⟩ := bt_mem hc
  have := q.all i h0 h1
  rw [e] at this
  unfold Gb
  omega
theorem Word.bytes {t : ByteArray} (q : Word t) : ∀ c ∈ t.data.toList, Gb c := fun c hc => by
 obtain ⟨i, h0, h1, e⟩ := bt_mem hc
 have := q.all i h0 h1
 rw [e] at this
 unfold wordByte at this
 unfold Gb
 omega
def tl (d : Nat) (x : S25) : List UInt8 := (tx d x).data.toList
theorem ba_ext {a b : ByteArray} (h : a.data.toList = b.data.toList) : a = b := by
 apply ByteArray.ext
 exact Array.toList_inj.1 h
theorem tl_one {d : Nat} {x : S25} (h : x.f0 = 1) : tl (d + 1) x = x.f1.data.toList := by
 simp only [tl, tx]
 rw [if_pos h]
theorem tl_two {d : Nat} {x : S25} (h : x.f0 = 2) : tl (d + 1) x = 123 :: (lM (x.f3.map fun v => v.data.toList) (x.f4.map (tl d)) ++ [125]) := by
 simp only [tl, tx]
 rw [if_neg (by omega), if_pos h, ByteArray.data_append, Array.toList_append, ByteArray.data_append, Array.toList_append, txM_list, List.map_map]
 rfl
theorem tl_three {d : Nat} {x : S25} (h : x.f0 = 3) : tl (d + 1) x = 91 :: (lL (x.f4.map (tl d)) ++ [93]) := by
 simp only [tl, tx]
 rw [if_neg (by omega), if_neg (by omega), ByteArray.data_append, Array.toList_append, ByteArray.data_append, Array.toList_append, txL_list, List.map_map]
 rfl
theorem tl_first {d : Nat} {x : S25} (h : Wf d x) : ∃ c l, tl d x = c :: l ∧ (Gb c ∨ c = 123 ∨ c = 91) := by
 cases d with
 | zero => exact h.elim
 |succ d =>
  rcases h with ⟨h1, _, _, hs⟩ | ⟨_, _, _, hi, ⟨h2, _⟩ | ⟨h3, _⟩⟩
  ·rw [tl_one h1]
   obtain ⟨hg, hn⟩ := hs.bytes
   cases e : x.f1.data.toList with
   | nil => exact absurd e hn
   | cons c l => exact ⟨c, l, rfl, .inl (hg c (by rw [e]; exact List.mem_cons_self ..))⟩
  ·exact ⟨_, _, tl_two h2, .inr (.inl rfl)⟩
  ·exact ⟨_, _, tl_three h3, .inr (.inr rfl)⟩
def InjAt (d : Nat) : Prop := ∀ (x y : S25) (r s : List UInt8), Wf d x → Wf d y → End_ r → End_ s → tl d x ++ r = tl d y ++ s → x = y ∧ r = s
theorem ng {c : UInt8} (h : c = 44 ∨ c = 58 ∨ c = 93 ∨ c = 125 ∨ c = 123 ∨ c = 91) : ¬ Gb c := by
 rcases h with rfl | rfl | rfl | rfl | rfl | rfl <;> (unfold Gb; decide)
theorem end_cons {c : UInt8} {l : List UInt8} (h : ¬ Gb c) : End_ (c :: l) := fun _ _ e => by
 simp only [List.cons.injEq] at e
 rw [← e.1]
 exact h
theorem lL_inj {d : Nat} (P : InjAt d) : ∀ (xs ys : List S25) (r s : List UInt8), (∀ x ∈ xs, Wf d x) → (∀ y ∈ ys, Wf d y) → lL (xs.map (tl d)) ++ 93 :: r = lL (ys.map (tl d)) ++ 93 :: s → xs = ys ∧ r = s
 |[], [], r, s, _, _, h => by
  simp only [List.map_nil, lL, List.nil_append, List.cons.injEq, true_and] at h
  exact ⟨rfl, h⟩
 |[], y :: ys, r, s, _, hy, h => by
  obtain ⟨c, l, e, hc⟩ := tl_first (hy y (List.mem_cons_self ..))
  simp only [List.map_nil, List.map_cons, lL, List.nil_append, e, List.cons_append, List.cons.injEq] at h
  rw [← h.1] at hc
  rcases hc with hc | hc | hc
  ·exact absurd hc (ng (by decide))
  ·exact absurd hc (by decide)
  ·exact absurd hc (by decide)
 |x :: xs, [], r, s, hx, _, h => by
  obtain ⟨c, l, e, hc⟩ := tl_first (hx x (List.mem_cons_self ..))
  simp only [List.map_nil, List.map_cons, lL, List.nil_append, e, List.cons_append, List.cons.injEq] at h
  rw [h.1] at hc
  rcases hc with hc | hc | hc
  ·exact absurd hc (ng (by decide))
  ·exact absurd hc (by decide)
  ·exact absurd hc (by decide)
 |x :: xs, y :: ys, r, s, hx, hy, h => by
  simp only [List.map_cons, lL, List.append_assoc, List.cons_append] at h
  obtain ⟨rfl, h1⟩ := P x y _ _ (hx x (List.mem_cons_self ..)) (hy y (List.mem_cons_self ..)) (end_cons (ng (by decide))) (end_cons (ng (by decide))) h
  have h2 := (List.cons.inj (List.cons.inj h1).2).2
  obtain ⟨rfl, rfl⟩ := lL_inj P xs ys r s (fun q hq => hx q (List.mem_cons_of_mem _ hq)) (fun q hq => hy q (List.mem_cons_of_mem _ hq)) h2
  exact ⟨rfl, rfl⟩
theorem lM_inj {d : Nat} (P : InjAt d) : ∀ (ks js : List ByteArray) (xs ys : List S25) (r s : List UInt8), ks.length = xs.length → js.length = ys.length → (∀ k ∈ ks, Word k) → (∀ k ∈ js, Word k) → (∀ x ∈ xs, Wf d x) → (∀ y ∈ ys, Wf d y) →
  lM (ks.map fun v => v.data.toList) (xs.map (tl d)) ++ 125 :: r = lM (js.map fun v => v.data.toList) (ys.map (tl d)) ++ 125 :: s → ks = js ∧ xs = ys ∧ r = s
 |[], [], [], [], r, s, _, _, _, _, _, _, h => by
  simp only [List.map_nil, lM, List.nil_append, List.cons.injEq, true_and] at h
  exact ⟨rfl, rfl, h⟩
 |[], j :: js, [], y :: ys, r, s, _, _, _, hj, _, hy, h => by
  exfalso
  have hw := hj j (List.mem_cons_self ..)
  simp only [List.map_nil, List.map_cons, lM, List.nil_append] at h
  cases e : j.data.toList with
  | nil => have := hw.pos; have hl : j.size = j.data.toList.length := rfl; rw [hl, e] at this; simp at this
  |cons c l =>
   rw [e] at h
   have hc := hw.bytes c (by rw [e]; exact List.mem_cons_self ..)
   have h1 := (List.cons.inj h).1
   rw [← h1] at hc
   exact ng (by decide) hc
 |k :: ks, [], x :: xs, [], r, s, _, _, hk, _, hx, _, h => by
  exfalso
  have hw := hk k (List.mem_cons_self ..)
  simp only [List.map_nil, List.map_cons, lM, List.nil_append] at h
  cases e : k.data.toList with
  | nil => have := hw.pos; have hl : k.size = k.data.toList.length := rfl; rw [hl, e] at this; simp at this
  |cons c l =>
   rw [e] at h
   have hc := hw.bytes c (by rw [e]; exact List.mem_cons_self ..)
   have h1 := (List.cons.inj h).1
   rw [h1] at hc
   exact ng (by decide) hc
 |k :: ks, j :: js, x :: xs, y :: ys, r, s, hl, hm, hk, hj, hx, hy, h => by
  simp only [List.map_cons, lM, List.append_assoc, List.cons_append] at h
  obtain ⟨e1, h1⟩ := scan (hk k (List.mem_cons_self ..)).bytes (hj j (List.mem_cons_self ..)).bytes (end_cons (ng (by decide))) (end_cons (ng (by decide))) h
  obtain rfl := ba_ext e1
  have h2 := (List.cons.inj (List.cons.inj h1).2).2
  obtain ⟨rfl, h3⟩ := P x y _ _ (hx x (List.mem_cons_self ..)) (hy y (List.mem_cons_self ..)) (end_cons (ng (by decide))) (end_cons (ng (by decide))) h2
  have h4 := (List.cons.inj (List.cons.inj h3).2).2
  obtain ⟨rfl, rfl, rfl⟩ := lM_inj P ks js xs ys r s (by simpa using hl) (by simpa using hm) (fun q hq => hk q (List.mem_cons_of_mem _ hq)) (fun q hq => hj q (List.mem_cons_of_mem _ hq)) (fun q hq => hx q (List.mem_cons_of_mem _ hq)) (fun q hq => hy q (List.mem_cons_of_mem _ hq)) h4
  exact ⟨rfl, rfl, rfl⟩
 | [], _, _ :: _, _, _, _, h, _, _, _, _, _, _ => by simp at h
 | _ :: _, _, [], _, _, _, h, _, _, _, _, _, _ => by simp at h
 | _, [], _, _ :: _, _, _, _, h, _, _, _, _, _ => by simp at h
 | _, _ :: _, _, [], _, _, _, h, _, _, _, _, _ => by simp at h
theorem injAt : ∀ d, InjAt d
 | 0 => fun _ _ _ _ h _ _ _ _ => h.elim
 |d + 1 => fun x y r s hx hy hr hs h => by
  have key : x.f0 = y.f0 → x.f1 = y.f1 → x.f2 = y.f2 → x.f3 = y.f3 → x.f4 = y.f4 → x = y := fun h0 h1 h2 h3 h4 => by
   obtain ⟨x0, x1, x2, x3, x4⟩ := x
   obtain ⟨y0, y1, y2, y3, y4⟩ := y
   simp only at h0 h1 h2 h3 h4
   subst h0 h1 h2 h3 h4
   rfl
  have far : ∀ {a b : S25} {c : UInt8} {l r s : List UInt8}, Wf (d + 1) a → a.f0 = 1 → ¬ Gb c → tl (d + 1) a ++ r = c :: l ++ s → False := fun {a b c l r s} ha h1 hc e => by
   rcases ha with ⟨_, _, _, hsc⟩ | ⟨_, _, _, _, ⟨q, _⟩ | ⟨q, _⟩⟩
   ·rw [tl_one h1] at e
    obtain ⟨hg, hn⟩ := hsc.bytes
    cases e2 : a.f1.data.toList with
    | nil => exact hn e2
    |cons c2 l2 =>
     rw [e2] at e
     have := (List.cons.inj e).1
     have h3 := hg c2 (by rw [e2]; exact List.mem_cons_self ..)
     rw [this] at h3
     exact hc h3
   ·omega
   ·omega
  have wx := hx
  have wy := hy
  rcases hx with ⟨k1, a3, a4, sa⟩ | ⟨at_, ag, _, ai, ⟨k2, al, ak, _⟩ | ⟨k3, a3⟩⟩
  ·rcases hy with ⟨q1, b3, b4, sb⟩ | ⟨_, _, _, _, ⟨q2, _⟩ | ⟨q3, _⟩⟩
   ·rw [tl_one k1, tl_one q1] at h
    obtain ⟨e1, e2⟩ := scan sa.bytes.1 sb.bytes.1 hr hs h
    have e1 := ba_ext e1
    rw [e1] at sa
    exact ⟨key (by omega) e1 (Sc.one sa sb) (by rw [a3, b3]) (by rw [a4, b4]), e2⟩
   ·rw [tl_two q2] at h
    exact (far (b := x) wx k1 (ng (by decide)) h).elim
   ·rw [tl_three q3] at h
    exact (far (b := x) wx k1 (ng (by decide)) h).elim
  ·rcases hy with ⟨q1, _⟩ | ⟨bt_, bg, _, bi, ⟨q2, bl, bk, _⟩ | ⟨q3, _⟩⟩
   ·rw [tl_two k2] at h
    exact (far (b := x) wy q1 (ng (by decide)) h.symm).elim
   ·rw [tl_two k2, tl_two q2] at h
    simp only [List.cons_append, List.append_assoc, List.nil_append, List.cons.injEq, true_and] at h
    obtain ⟨e3, e4, e5⟩ := lM_inj (injAt d) _ _ _ _ _ _ al bl ak bk ai bi h
    exact ⟨key (by omega) (by rw [at_, bt_]) (by rw [ag, bg]) e3 e4, e5⟩
   ·rw [tl_two k2, tl_three q3] at h
    have := (List.cons.inj h).1
    exact absurd this (by decide)
  ·rcases hy with ⟨q1, _⟩ | ⟨bt_, bg, _, bi, ⟨q2, _⟩ | ⟨q3, b3⟩⟩
   ·rw [tl_three k3] at h
    exact (far (b := x) wy q1 (ng (by decide)) h.symm).elim
   ·rw [tl_three k3, tl_two q2] at h
    have := (List.cons.inj h).1
    exact absurd this (by decide)
   ·rw [tl_three k3, tl_three q3] at h
    simp only [List.cons_append, List.append_assoc, List.nil_append, List.cons.injEq, true_and] at h
    obtain ⟨e4, e5⟩ := lL_inj (injAt d) _ _ _ _ ai bi h
    exact ⟨key (by omega) (by rw [at_, bt_]) (by rw [ag, bg]) (by rw [a3, b3]) e4, e5⟩
theorem tx_inj {d : Nat} {x y : S25} (hx : Wf d x) (hy : Wf d y) (h : tx d x = tx d y) : x = y :=
 (injAt d x y [] [] hx hy (fun _ _ e => by cases e) (fun _ _ e => by cases e) (by simp only [List.append_nil, tl, h])).1
theorem goesM_ {P : Program} {ops : Array Oper} {Q : Exit → Act → World → Prop} {oi : Oper} {N : Option Tmp} {a : Act} {w : World} {K : Act → World → Prop} {f : FuncId} {ro : Operand} {name : String} {as_ : Array Operand} {ts : Array TypeId} {T : TypeId} {fv recv : Value} (args : Array Value)
  (hw : Region.wanted oi (yielded ops a.tmps) = true) (hN : oi.dst = N) (hop : oi.op = .call { callee := .invoke ro name, args := as_, argTypes := ts }) (ho : a.eval ro = .iface T fv) (hargs : as_.map a.eval = args)
  (hm : (method (P.types.size + Made.depth) T fv name).run P w = .ok (f, recv) w) (hf : ∀ (xs : Array Value) (wa : World), (callFunc f xs).run P wa = .ok (.enter f xs) wa)
  (h : Calls P f (#[recv] ++ args) w fun e w' => ∃ v, e = .returned v ∧ K (a.put N v) w') : if Region.wanted oi (yielded ops a.tmps) = true then Oper.wp P oi a w K Q else K (a.put N undef) w := by
 refine call_ f (#[recv] ++ args) hw hN ?_ h
 unfold execOp
 have h0 : (#[Value.iface T fv] ++ args)[0]? = some (.iface T fv) := by rw [Array.getElem?_append_left (by simp)]; rfl
 simp [hop, resolve, invoke, callMethod, ho, hargs, hm, hf, h0]
def SP (d : Nat) (w : World) (v : Value) (F : Nat → Prop) : Option (Nat × S25) → Prop
 | none => v = .pointer none
 | some x => ∃ r, v = ptr r ∧ RN w r x.1 ∧ YN w F x.1 (toY d x.2)
theorem SP.below {d : Nat} {w w' : World} {v : Value} {F : Nat → Prop} {o : Option (Nat × S25)} (h : SP d w v F o) (hb : Below w.heap.size w w') : SP d w' v F o := by
 cases o with
 | none => exact h
 | some x => obtain ⟨r, e, hr, hy⟩ := h; exact ⟨r, e, hr.below hb, hy.below hb⟩
theorem SP.lt {d : Nat} {w : World} {v : Value} {F : Nat → Prop} {o : Option (Nat × S25)} (h : SP d w v F o) : SP d w v (fun k => F k ∧ k < w.heap.size) o := by
 cases o with
 | none => exact h
 | some x => obtain ⟨r, e, hr, hy⟩ := h; exact ⟨r, e, hr, hy.lt⟩
abbrev sn (o : Option (Nat × S25)) : Option S25 := o.map Prod.snd
abbrev wk (vis : Value) (s c : Nat) (P : Value) : Array Value := #[vis, .pointer none, srcV s c, P, .bool false, .bool true, .int .i64 0]
def Terr (FD FU : Nat → Prop) (s : Nat) (P : Value) (k : Nat) : Prop := FD k ∨ FU k ∨ k = s ∨ P.ownBlock = some k
structure Pre (d : Nat) (w : World) (s c : Nat) (vis P : Value) (n m : Nat) (v0 v1 v2 : Value) (FD FO FU : Nat → Prop) (oD oO oU : Option (Nat × S25)) : Prop where
 row : w.ownsRow 0 42 1 (srcV s c) 3 [v0, v1, v2]
 d0 : SP d w v0 FD oD
 d1 : SP d w v1 FO oO
 d2 : SP d w v2 FU oU
 cs : Cs d (sn oD) (sn oO) (sn oU)
 some_ : oD.isSome = true ∨ oU.isSome = true
 fit : ∀ x, oD = some x ∨ oO = some x ∨ oU = some x → Fit d x.2
 vis : Vis m vis
 path : PathOK w P n
 few : n + d ≤ 20 ∧ m + d ≤ 20
 hDU : ∀ k, FD k → ¬ FU k
 hO : ∀ k, FO k → ¬ Terr FD FU s P k
 hs : ¬ FD s ∧ ¬ FU s ∧ P.ownBlock ≠ some s
 hp : ∀ k, P.ownBlock = some k → ¬ FD k ∧ ¬ FU k
 hr : ∀ r, v0 = ptr r ∨ v1 = ptr r ∨ v2 = ptr r → ¬ Terr FD FU s P r
def Left (d : Nat) (w : World) (s : Nat) (P : Value) (n : Nat) (v0 v2 : Value) (FD FU : Nat → Prop) (oD oO oU : Option (Nat × S25)) (p : Option Nat) (w' : World) : Prop :=
 PathOK w' P n ∧ ((p = none ∧ MR d (sn oD) (sn oO) (sn oU) none ∧ Chg (Terr (fun _ => False) FU s P) w w') ∨
  ∃ (r b : Nat) (F : Nat → Prop) (R : S25), p = some r ∧ MR d (sn oD) (sn oO) (sn oU) (some R) ∧ RN w' r b ∧ YN w' F b (toY d R) ∧ Live (toY d R).kind (toY d R).tag ∧ (ptr r = v0 ∨ ptr r = v2 ∨ w.heap.size ≤ r) ∧
   (((∃ D, oD = some (b, D)) ∧ (∀ k, F k → FD k ∨ FU k ∨ w.heap.size ≤ k) ∧ Chg (Terr FD FU s P) w w') ∨ ((∀ k, F k → FU k ∨ w.heap.size ≤ k) ∧ Chg (Terr (fun _ => False) FU s P) w w')))
def WalkPost (d : Nat) (w : World) (s : Nat) (P : Value) (n : Nat) (v0 v2 : Value) (FD FU : Nat → Prop) (oD oO oU : Option (Nat × S25)) (e : Ending) (w' : World) : Prop :=
 ∃ p : Option Nat, e = .returned (.tuple #[.pointer (p.map fun r => ⟨r, 0, none⟩), .nilIface]) ∧ Left d w s P n v0 v2 FD FU oD oO oU p w'
def WalkOK (d : Nat) : Prop := ∀ (w : World) (s c : Nat) (vis P : Value) (n m : Nat) (v0 v1 v2 : Value) (FD FO FU : Nat → Prop) (oD oO oU : Option (Nat × S25)), Pre d w s c vis P n m v0 v1 v2 FD FO FU oD oO oU →
 Calls Tryz.prog 33 #[.agg (wk vis s c P)] w (WalkPost d w s P n v0 v2 FD FU oD oO oU)
theorem Chg.terr {FD FU FD' FU' : Nat → Prop} {s : Nat} {P : Value} {w w' : World} (h : Chg (Terr FD FU s P) w w') (h1 : ∀ k, FD k → FD' k) (h2 : ∀ k, FU k → FU' k) : Chg (Terr FD' FU' s P) w w' :=
 h.mono fun k q => by
  rcases q with q | q | q | q
  ·exact .inl (h1 k q)
  ·exact .inr (.inl (h2 k q))
  ·exact .inr (.inr (.inl q))
  ·exact .inr (.inr (.inr q))
theorem WalkOK.of_lt {d : Nat} {w : World} {s c : Nat} {vis P : Value} {n m : Nat} {v0 v1 v2 : Value} {FD FO FU : Nat → Prop} {oD oO oU : Option (Nat × S25)} {e : Ending} {w' : World}
  (h : WalkPost d w s P n v0 v2 (fun k => FD k ∧ k < w.heap.size) (fun k => FU k ∧ k < w.heap.size) oD oO oU e w') : WalkPost d w s P n v0 v2 FD FU oD oO oU e w' := by
 obtain ⟨p, e1, hp, h⟩ := h
 refine ⟨p, e1, hp, ?_⟩
 rcases h with ⟨h1, h2, h3⟩ | ⟨r, b, F, R, h1, h2, h3, h4, h5, h6, h7⟩
 ·exact .inl ⟨h1, h2, h3.terr (fun _ q => q) (fun _ q => q.1)⟩
 ·refine .inr ⟨r, b, F, R, h1, h2, h3, h4, h5, h6, ?_⟩
  rcases h7 with ⟨q1, q2, q3⟩ | ⟨q2, q3⟩
  ·exact .inl ⟨q1, fun k q => (q2 k q).imp (fun q => q.1) (fun q => q.imp (fun q => q.1) id), q3.terr (fun _ q => q.1) (fun _ q => q.1)⟩
  ·exact .inr ⟨fun k q => (q2 k q).imp (fun q => q.1) id, q3.terr (fun _ q => q) (fun _ q => q.1)⟩
theorem Pre.lt {d : Nat} {w : World} {s c : Nat} {vis P : Value} {n m : Nat} {v0 v1 v2 : Value} {FD FO FU : Nat → Prop} {oD oO oU : Option (Nat × S25)} (h : Pre d w s c vis P n m v0 v1 v2 FD FO FU oD oO oU) :
  Pre d w s c vis P n m v0 v1 v2 (fun k => FD k ∧ k < w.heap.size) (fun k => FO k ∧ k < w.heap.size) (fun k => FU k ∧ k < w.heap.size) oD oO oU := by
 have ht : ∀ k, Terr (fun k => FD k ∧ k < w.heap.size) (fun k => FU k ∧ k < w.heap.size) s P k → Terr FD FU s P k := fun k q => by
  rcases q with q | q | q | q
  ·exact .inl q.1
  ·exact .inr (.inl q.1)
  ·exact .inr (.inr (.inl q))
  ·exact .inr (.inr (.inr q))
 exact ⟨h.row, h.d0.lt, h.d1.lt, h.d2.lt, h.cs, h.some_, h.fit, h.vis, h.path, h.few, fun k q r => h.hDU k q.1 r.1, fun k q r => h.hO k q.1 (ht k r), ⟨fun q => h.hs.1 q.1, fun q => h.hs.2.1 q.1, h.hs.2.2⟩, fun k q => ⟨fun r => (h.hp k q).1 r.1, fun r => (h.hp k q).2 r.1⟩, fun r q t => h.hr r q (ht r t)⟩
theorem Pre.src {d : Nat} {w : World} {s c : Nat} {vis P : Value} {n m : Nat} {v0 v1 v2 : Value} {FD FO FU : Nat → Prop} {oD oO oU : Option (Nat × S25)} (h : Pre d w s c vis P n m v0 v1 v2 FD FO FU oD oO oU) : Src w s v0 v1 v2 :=
 ⟨own_cell h.row 0 _ rfl, own_cell h.row 1 _ rfl, own_cell h.row 2 _ rfl⟩
theorem Pre.below {d : Nat} {w w' : World} {s c : Nat} {vis P : Value} {n m : Nat} {v0 v1 v2 : Value} {FD FO FU : Nat → Prop} {oD oO oU : Option (Nat × S25)} (h : Pre d w s c vis P n m v0 v1 v2 FD FO FU oD oO oU) (hb : Below w.heap.size w w') :
  Pre d w' s c vis P n m v0 v1 v2 FD FO FU oD oO oU :=
 ⟨own_move h.row (fun k hk => hb.block k (own_lt h.row k hk)), h.d0.below hb, h.d1.below hb, h.d2.below hb, h.cs, h.some_, h.fit, h.vis, h.path.move (fun k hk => by obtain ⟨xs, ho⟩ := h.path; exact hb.block k (own_lt ho k hk)), h.few, h.hDU, h.hO, h.hs, h.hp, h.hr⟩
theorem Left.back {d : Nat} {w w1 w' : World} {s : Nat} {P : Value} {n : Nat} {v0 v2 : Value} {FD FU : Nat → Prop} {oD oO oU : Option (Nat × S25)} {p : Option Nat} (h : Left d w1 s P n v0 v2 FD FU oD oO oU p w') (hb : Below w.heap.size w w1) : Left d w s P n v0 v2 FD FU oD oO oU p w' := by
 have hs := hb.size
 obtain ⟨hp, h⟩ := h
 refine ⟨hp, ?_⟩
 rcases h with ⟨h1, h2, h3⟩ | ⟨r, b, F, R, h1, h2, h3, h4, h5, h6, h7⟩
 ·exact .inl ⟨h1, h2, (Chg.of_below hb).trans h3 (fun k q => .inl q)⟩
 ·refine .inr ⟨r, b, F, R, h1, h2, h3, h4, h5, h6.imp id (fun q => q.imp id (Nat.le_trans hs)), ?_⟩
  rcases h7 with ⟨q1, q2, q3⟩ | ⟨q2, q3⟩
  ·exact .inl ⟨q1, fun k q => (q2 k q).imp id (fun q => q.imp id (Nat.le_trans hs)), (Chg.of_below hb).trans q3 (fun k q => .inl q)⟩
  ·exact .inr ⟨fun k q => (q2 k q).imp id (Nat.le_trans hs), (Chg.of_below hb).trans q3 (fun k q => .inl q)⟩
end Go.Proofs.YtkpdkoafngjflaaGreat
