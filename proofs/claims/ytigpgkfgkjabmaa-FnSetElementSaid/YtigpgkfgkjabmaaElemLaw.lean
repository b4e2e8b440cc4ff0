/-
  laws.FnSetElement: an element is set in the place of the one with its name, or behind all others; it is taken away where nothing is set.
-/
import Derived.Test.YtigpgkfgkjabmaaElemSetI
import Derived.Test.YtigpgkfgkjabmaaSame
namespace Go.Proofs.Ytigpgkfgkjabmaa
open Go.RowKit Go.Proofs.YtigpgkfgkjabmaaW.PrintWords Go.Proofs.YtigpgkfgkjabmaaW.PrintLast Go.Proofs.Ytigpgkfgkjabmaa.PFnFields
set_option linter.unusedVariables false
set_option linter.unusedSimpArgs false

def LawPostE (w : World) (e : Ending) (w' : World) : Prop := e = .returned (.bool true) ∧ Below w.heap.size w w'
/-- Where the two arguments stand. -/
structure VarsE (w wc : World) (x : S25) (A3 : Option Addr) (c3 : Nat) (A4 : Option Addr) (c4 : Nat) (v : S25) (V3 : Option Addr) (e3 : Nat) (V4 : Option Addr) (e4 : Nat) : Prop where
  below : Below w.heap.size w wc
  x : inVar wc w.heap.size x A3 c3 A4 c4
  v : inVar wc (w.heap.size + 1) v V3 e3 V4 e4
theorem VarsE.next {w wc w' : World} {x : S25} {A3 : Option Addr} {c3 : Nat} {A4 : Option Addr} {c4 : Nat} {v : S25} {V3 : Option Addr} {e3 : Nat} {V4 : Option Addr} {e4 : Nat} (h : VarsE w wc x A3 c3 A4 c4 v V3 e3 V4 e4) (hb : Below wc.heap.size wc w') : VarsE w w' x A3 c3 A4 c4 v V3 e3 V4 e4 :=
  ⟨h.below.trans (hb.mono h.below.size), (hb.block _ (lt_of_block h.x)).trans h.x, (hb.block _ (lt_of_block h.v)).trans h.v⟩
/-- A variable that is a list. -/
def ListVar (w : World) (b : Nat) (B : Option Addr) (n d : Nat) : Prop := w.heap[b]? = some (.cells #[.int .i64 3, .string ⟨#[]⟩, .string ⟨#[]⟩, .slice none 0 0, .slice B n d] 25 (0, 0))
def oP (el : S25) (nm : ByteArray) (xs : List S25) : List S25 := xs.flatMap (fun y => if decide (nmf y = nm) then [el] else [y])
def oQ (nm : ByteArray) (xs : List S25) : List S25 := xs.flatMap (fun y => if decide (nmf y = nm) then [] else [y])
theorem oP_snoc (el y : S25) (nm : ByteArray) (xs : List S25) : oP el nm (xs ++ [y]) = oP el nm xs ++ [if decide (nmf y = nm) then el else y] := by
  unfold oP
  rw [List.flatMap_append]
  congr 1
  simp only [List.flatMap_cons, List.flatMap_nil, List.append_nil]
  cases decide (nmf y = nm) <;> rfl
theorem oQ_snoc (y : S25) (nm : ByteArray) (xs : List S25) : oQ nm (xs ++ [y]) = oQ nm xs ++ (if decide (nmf y = nm) then [] else [y]) := by
  unfold oQ
  rw [List.flatMap_append]
  congr 1
  simp
theorem oP_len (el : S25) (nm : ByteArray) : ∀ xs : List S25, (oP el nm xs).length ≤ xs.length
  | [] => Nat.le_refl _
  | y :: xs => by
    have ih := oP_len el nm xs
    have e : oP el nm (y :: xs) = (if decide (nmf y = nm) then [el] else [y]) ++ oP el nm xs := rfl
    rw [e, List.length_append, List.length_cons]
    have : (if decide (nmf y = nm) then [el] else [y]).length ≤ 1 := by split <;> simp
    omega
theorem oQ_len (nm : ByteArray) : ∀ xs : List S25, (oQ nm xs).length ≤ xs.length
  | [] => Nat.le_refl _
  | y :: xs => by
    have ih := oQ_len nm xs
    have e : oQ nm (y :: xs) = (if decide (nmf y = nm) then [] else [y]) ++ oQ nm xs := rfl
    rw [e, List.length_append, List.length_cons]
    have : (if decide (nmf y = nm) then ([] : List S25) else [y]).length ≤ 1 := by split <;> simp
    omega
theorem out_some (el : S25) (nm : ByteArray) (xs : List S25) : outD (some el) nm xs = oP el nm xs ++ (if xs.any (fun y => decide (nmf y = nm)) then [] else [el]) := rfl
theorem out_none (nm : ByteArray) (xs : List S25) : outD none nm xs = oQ nm xs := by
  unfold outD oQ
  split <;> simp
theorem name_word {y : S25} (hy : Tree y) (hn : has nameB y = true) (h1 : (spField y nameB).f0 = 1) (ht : (spField y nameB).f2.toList = strTag) : Word (nmf y) := by
  obtain ⟨h2, hin⟩ := has_iff.1 hn
  obtain ⟨hkl, hnd, _⟩ := hy.1.map (d := 5) h2
  obtain ⟨j, hj, he⟩ := List.getElem_of_mem hin
  have hj4 : j < y.f4.length := by omega
  have e : spField y nameB = y.f4[j] := spField_at h2 hnd (by rw [List.getElem?_eq_getElem hj, he]) (List.getElem?_eq_getElem hj4)
  have hw : Wf 5 (spField y nameB) := by rw [e]; exact hy.1.items _ (List.getElem_mem _)
  have hsc : Sc (spField y nameB).f1 (spField y nameB).f2 := by
    rcases hw with ⟨_, _, _, h⟩ | ⟨_, _, _, _, ⟨h, _⟩ | ⟨h, _⟩⟩
    · exact h
    · omega
    · omega
  rcases hsc with ⟨_, h⟩ | ⟨h, _⟩
  · exact h
  · rw [h] at ht; exact absurd ht (by decide)
/-- The two lists under way. -/
structure LS (w w9 wr : World) (pb : Nat) (B : Option Addr) (d : Nat) (pl : List S25) (C : Option Addr) (e : Nat) (ll : List S25) : Prop where
  low : Below pb w9 wr
  hs : pb + 2 ≤ wr.heap.size
  put : ListVar wr pb B pl.length d
  left : ListVar wr (pb + 1) C ll.length e
  rp : (Kd.fixed k25 w).R 25 wr (pb + 2) (fun _ => True) (.slice B pl.length d) pl
  rl : (Kd.fixed k25 w).R 25 wr (pb + 2) (fun _ => True) (.slice C ll.length e) ll
  ne : ∀ k, (Value.slice B pl.length d).ownBlock = some k → some k ≠ (Value.slice C ll.length e).ownBlock
theorem LS.next {w w9 wr w' : World} {pb : Nat} {B : Option Addr} {d : Nat} {pl : List S25} {C : Option Addr} {e : Nat} {ll : List S25} (h : LS w w9 wr pb B d pl C e ll) (hb : Below wr.heap.size wr w') : LS w w9 w' pb B d pl C e ll := by
  have h1 := h.hs
  exact ⟨h.low.trans (hb.mono (by omega)), Nat.le_trans h1 hb.size, (hb.block _ (by omega)).trans h.put, (hb.block _ (by omega)).trans h.left, R_upd h.rp (fun k _ _ hk => hb.block k hk), R_upd h.rl (fun k _ _ hk => hb.block k hk), h.ne⟩
theorem LS.push {w w9 wr w1 : World} {pb : Nat} {B : Option Addr} {d : Nat} {pl : List S25} {C : Option Addr} {e : Nat} {ll : List S25} (h : LS w w9 wr pb B d pl C e ll) {y : S25} {B1 : Option Addr} {d1 : Nat} (hg : wr.grownBy w1 (Value.slice B pl.length d).ownBlock)
    (hr : (Kd.fixed k25 w).R 25 w1 (pb + 2) (fun _ => True) (.slice B1 (pl ++ [y]).length d1) (pl ++ [y])) (hat : (Value.slice B1 (pl ++ [y]).length d1).ownBlock = (Value.slice B pl.length d).ownBlock ∨ ∃ b, (Value.slice B1 (pl ++ [y]).length d1).ownBlock = some b ∧ wr.heap.size ≤ b) :
    LS w w9 (w1.setCell ⟨pb, 4, none⟩ (.slice B1 (pl ++ [y]).length d1)) pb B1 d1 (pl ++ [y]) C e ll := by
  have h1 := h.hs
  have hob : ∀ k, (Value.slice B pl.length d).ownBlock = some k → pb + 2 ≤ k ∧ k < wr.heap.size := fun k hk => ⟨(R_own h.rp k hk).1, (R_own h.rp k hk).2.1⟩
  have hoc : ∀ k, (Value.slice C ll.length e).ownBlock = some k → pb + 2 ≤ k ∧ k < wr.heap.size := fun k hk => ⟨(R_own h.rl k hk).1, (R_own h.rl k hk).2.1⟩
  have hn : ∀ k, k ≠ pb → (w1.setCell ⟨pb, 4, none⟩ (.slice B1 (pl ++ [y]).length d1)).heap[k]? = w1.heap[k]? := fun k hk => heap_set_ne hk
  have hgp : w1.heap[pb]? = wr.heap[pb]? := hg.block pb (by omega) (fun e => by have := hob _ e.symm; omega)
  have hgl : w1.heap[pb + 1]? = wr.heap[pb + 1]? := hg.block (pb + 1) (by omega) (fun e => by have := hob _ e.symm; omega)
  have hgs := hg.size
  refine ⟨?_, ?_, heap_set (a := ⟨pb, 4, none⟩) (hgp.trans h.put) rfl, (hn _ (by omega)).trans (hgl.trans h.left), R_upd hr (fun k _ hk _ => hn k (by omega)), ?_, ?_⟩
  · refine h.low.trans ?_
    have hc : Chg (fun k => pb ≤ k) wr (w1.setCell ⟨pb, 4, none⟩ (.slice B1 (pl ++ [y]).length d1)) := ((Chg.refl (fun k => pb ≤ k) wr).grown hg (fun k e => .inl (by have := hob k e; omega))).setCell (p := ⟨pb, 4, none⟩) (.inl (Nat.le_refl _)) _
    exact hc.below (by omega) (fun k q => q)
  · have : (w1.setCell ⟨pb, 4, none⟩ (.slice B1 (pl ++ [y]).length d1)).heap.size = w1.heap.size := by simp [World.setCell]
    omega
  · exact R_flatmove (fun h => h) h.rl (fun k hk => by
      have h2 := hoc k hk
      rw [hn k (by omega)]
      exact hg.block k h2.2 (fun e => h.ne k e.symm hk.symm)) (fun _ _ => trivial)
  · intro k hk e
    rcases hat with h2 | ⟨b, h2, h3⟩
    · exact h.ne k (h2.symm.trans hk) e
    · have h4 := hoc k e.symm
      rw [h2] at hk
      have : b = k := by simpa using hk
      omega
/-- What is handed back is small. -/
theorem sx_sm {eo : Option S25} {nm : ByteArray} {x : S25} (hx : Tree x) (he : ∀ y, eo = some y → Tree y) : Sm 7 ⟨3, ⟨#[]⟩, ⟨#[]⟩, [], outD eo nm x.f4⟩ := by
  have h1 : x.f4.length + 1 ≤ nodes (5 + 1) x := hx.1.len
  have h2 : nodes (5 + 1) x ≤ 60 := hx.2
  have h3 := outD_len eo nm x.f4
  refine ⟨by show (outD eo nm x.f4).length ≤ 62; omega, Nat.zero_le _, fun h => absurd h (by show ¬ (3 : Int) = 2; decide), fun y hy => ?_⟩
  have ht := outD_trees (fun y hy => hx.item hy) he y hy
  exact ht.1.sm ht.2
/-- The list of one map. -/
abbrev one_ (el : S25) : S25 := ⟨3, ⟨#[]⟩, ⟨#[]⟩, [], [el]⟩
def elaw13.T : Bool × List (List Nat × List Nat) := (true, [([], []), ([0], [0]), ([], []), ([2], [2]), ([1, 3], [1, 3]), ([], []), ([5], [5]), ([], []), ([7], [7]), ([6, 8, 4], [6, 8]), ([0, 1, 2, 3, 4], []), ([10, 4, 9, 0, 1, 2, 3, 4], [4, 10]), ([0, 1, 2, 3, 4, 5, 6, 7, 8, 9, 10, 11], []), ([12, 9, 11, 0, 1, 2, 3, 4, 5, 6, 7, 8, 9, 10, 11], [9, 12])])
def elaw13.B : List Nat := [0, 1, 0, 4, 15, 0, 32, 0, 128, 511, 31, 2047, 4095, 8191]
theorem elaw13.tab : rtab .any (opsOf Try.f9 13) = elaw13.T := by kernel_rfl
theorem elaw13.bits : waitsOk elaw13.T.2 elaw13.B = true := by kernel_rfl
set_option maxRecDepth 100000 in
set_option maxHeartbeats 3200000 in
theorem elemlaw_calls (x : S25) (hz : Sz x) (v : S25) (hzv : Sz v) (w : World) (A3 : Option Addr) (c3 : Nat) (A4 : Option Addr) (c4 : Nat) (hK : nodeK w x A3 c3 A4 c4) (V3 : Option Addr) (e3 : Nat) (V4 : Option Addr) (e4 : Nat) (hV : nodeK w v V3 e3 V4 e4) :
    Calls Try.prog 9 #[nodeV x A3 c3 A4 c4, nodeV v V3 e3 V4 e4] w (LawPostE w) := by
  have hu := Try.underlying25
  have HK := Aside0.mk (And.intro hK hV)
  have HZ := Aside0.mk (And.intro hz hzv)
  clear hK hV hz hzv
  go_enter Try.func9, Try.ntmps9
  go_wp2_with fail
  obtain ⟨w0, e0⟩ : ∃ w0, w0 = (w.alloc (.cells #[.int .i64 x.f0, .string x.f1, .string x.f2, .slice A3 x.f3.length c3, .slice A4 x.f4.length c4] 25)).alloc (.cells #[.int .i64 v.f0, .string v.f1, .string v.f2, .slice V3 v.f3.length e3, .slice V4 v.f4.length e4] 25) := ⟨_, rfl⟩
  rw [← e0]
  have HV0 : Aside0 (VarsE w w0 x A3 c3 A4 c4 v V3 e3 V4 e4) := ⟨by rw [e0]; exact ((Below.refl _ _).alloc (Nat.le_refl _) _).alloc (by simp) _, by rw [e0]; exact (heap_old _ (by simp)).trans (heap_at _ rfl), by rw [e0]; exact heap_at _ (by simp)⟩
  clear e0
  refine (fits1_calls x w0 A3 c3 A4 c4 (k25.K_below HV0.out.below HK.out.1)).mono ?_
  rintro e w1 ⟨r, rfl, hb, _⟩
  have HV1 := Aside0.mk (HV0.out.next hb)
  clear hb HV0
  cases r
  · go_wp2
    go_ret
    exact ⟨rfl, HV1.out.below⟩
  have HY := Aside0.mk HV1.out.v
  have cs0 := (cell_of_block (i := 0) HY.out).trans (show _ = some _ from rfl); have cs1 := (cell_of_block (i := 1) HY.out).trans (show _ = some _ from rfl); have cs2 := (cell_of_block (i := 2) HY.out).trans (show _ = some _ from rfl); have cs3 := (cell_of_block (i := 3) HY.out).trans (show _ = some _ from rfl); have cs4 := (cell_of_block (i := 4) HY.out).trans (show _ = some _ from rfl); have zs0 := frozen_of_block (i := 0) HY.out; have zs1 := frozen_of_block (i := 1) HY.out; have zs2 := frozen_of_block (i := 2) HY.out; have zs3 := frozen_of_block (i := 3) HY.out; have zs4 := frozen_of_block (i := 4) HY.out
  go_wp2_with fail
  refine (fits1_calls v w1 V3 e3 V4 e4 (k25.K_below HV1.out.below HK.out.2)).mono ?_
  rintro e w2 ⟨r, rfl, hb, _⟩
  have HV2 := Aside0.mk (HV1.out.next hb)
  clear hb HV1 HY cs0 cs1 cs2 cs3 cs4 zs0 zs1 zs2 zs3 zs4
  cases r
  · go_wp2
    go_ret
    exact ⟨rfl, HV2.out.below⟩
  have HX := Aside0.mk HV2.out.x
  have cr0 := (cell_of_block (i := 0) HX.out).trans (show _ = some _ from rfl); have cr1 := (cell_of_block (i := 1) HX.out).trans (show _ = some _ from rfl); have cr2 := (cell_of_block (i := 2) HX.out).trans (show _ = some _ from rfl); have cr3 := (cell_of_block (i := 3) HX.out).trans (show _ = some _ from rfl); have cr4 := (cell_of_block (i := 4) HX.out).trans (show _ = some _ from rfl); have zr0 := frozen_of_block (i := 0) HX.out; have zr1 := frozen_of_block (i := 1) HX.out; have zr2 := frozen_of_block (i := 2) HX.out; have zr3 := frozen_of_block (i := 3) HX.out; have zr4 := frozen_of_block (i := 4) HX.out
  go_wp2_with fail
  refine (isList_calls x w2 A3 c3 A4 c4 (k25.K_below HV2.out.below HK.out.1) HZ.out.1).mono ?_
  rintro e w3 ⟨r, rfl, hb, hlist⟩
  have HV3 := Aside0.mk (HV2.out.next hb)
  clear hb HV2 HX cr0 cr1 cr2 cr3 cr4 zr0 zr1 zr2 zr3 zr4
  cases r
  · clear hlist
    go_wp2
    go_ret
    exact ⟨rfl, HV3.out.below⟩
  have HT := Aside0.mk (hlist rfl)
  clear hlist
  have HX := Aside0.mk HV3.out.x
  have cr0 := (cell_of_block (i := 0) HX.out).trans (show _ = some _ from rfl); have cr1 := (cell_of_block (i := 1) HX.out).trans (show _ = some _ from rfl); have cr2 := (cell_of_block (i := 2) HX.out).trans (show _ = some _ from rfl); have cr3 := (cell_of_block (i := 3) HX.out).trans (show _ = some _ from rfl); have cr4 := (cell_of_block (i := 4) HX.out).trans (show _ = some _ from rfl); have zr0 := frozen_of_block (i := 0) HX.out; have zr1 := frozen_of_block (i := 1) HX.out; have zr2 := frozen_of_block (i := 2) HX.out; have zr3 := frozen_of_block (i := 3) HX.out; have zr4 := frozen_of_block (i := 4) HX.out
  go_wp2_with fail
  refine (areNamed_calls x HT.out.2 w3 A3 c3 A4 c4 (k25.K_below HV3.out.below HK.out.1)).mono ?_
  rintro e w4 ⟨r, rfl, hb, hnamed⟩
  have HV4 := Aside0.mk (HV3.out.next hb)
  clear hb HV3 HX cr0 cr1 cr2 cr3 cr4 zr0 zr1 zr2 zr3 zr4
  cases r
  · clear hnamed
    go_wp2
    go_ret
    exact ⟨rfl, HV4.out.below⟩
  have HN := Aside0.mk (hnamed rfl)
  clear hnamed
  have HY := Aside0.mk HV4.out.v
  have cs0 := (cell_of_block (i := 0) HY.out).trans (show _ = some _ from rfl); have cs1 := (cell_of_block (i := 1) HY.out).trans (show _ = some _ from rfl); have cs2 := (cell_of_block (i := 2) HY.out).trans (show _ = some _ from rfl); have cs3 := (cell_of_block (i := 3) HY.out).trans (show _ = some _ from rfl); have cs4 := (cell_of_block (i := 4) HY.out).trans (show _ = some _ from rfl); have zs0 := frozen_of_block (i := 0) HY.out; have zs1 := frozen_of_block (i := 1) HY.out; have zs2 := frozen_of_block (i := 2) HY.out; have zs3 := frozen_of_block (i := 3) HY.out; have zs4 := frozen_of_block (i := 4) HY.out
  go_wp2_with fail
  refine (isMap_calls v w4 V3 e3 V4 e4 (k25.K_below HV4.out.below HK.out.2) HZ.out.2).mono ?_
  rintro e w5 ⟨r, rfl, hb, hmap⟩
  have HV5 := Aside0.mk (HV4.out.next hb)
  clear hb HV4 HY cs0 cs1 cs2 cs3 cs4 zs0 zs1 zs2 zs3 zs4
  cases r
  · clear hmap
    go_wp2
    go_ret
    exact ⟨rfl, HV5.out.below⟩
  have HM := Aside0.mk (hmap rfl)
  clear hmap
  have HY := Aside0.mk HV5.out.v
  have cs0 := (cell_of_block (i := 0) HY.out).trans (show _ = some _ from rfl); have cs1 := (cell_of_block (i := 1) HY.out).trans (show _ = some _ from rfl); have cs2 := (cell_of_block (i := 2) HY.out).trans (show _ = some _ from rfl); have cs3 := (cell_of_block (i := 3) HY.out).trans (show _ = some _ from rfl); have cs4 := (cell_of_block (i := 4) HY.out).trans (show _ = some _ from rfl); have zs0 := frozen_of_block (i := 0) HY.out; have zs1 := frozen_of_block (i := 1) HY.out; have zs2 := frozen_of_block (i := 2) HY.out; have zs3 := frozen_of_block (i := 3) HY.out; have zs4 := frozen_of_block (i := 4) HY.out
  go_wp2_with fail
  obtain ⟨w6, e6⟩ : ∃ w6, w6 = w5.alloc (.cells #[.int .i64 v.f0, .string v.f1, .string v.f2, .slice V3 v.f3.length e3, .slice V4 v.f4.length e4] 25) := ⟨_, rfl⟩
  try rw [← e6]
  have hb6 : Below w5.heap.size w5 w6 := by rw [e6]; exact (Below.refl _ _).alloc (Nat.le_refl _) _
  have hg6 : w6.heap[w5.heap.size]? = some (.cells #[.int .i64 v.f0, .string v.f1, .string v.f2, .slice V3 v.f3.length e3, .slice V4 v.f4.length e4] 25 (0, 0)) := by rw [e6]; exact heap_at _ rfl
  have HV6 := Aside0.mk (HV5.out.next hb6)
  have HG6 := Aside0.mk hg6
  clear hb6 hg6 e6 HV5 HY cs0 cs1 cs2 cs3 cs4 zs0 zs1 zs2 zs3 zs4
  refine (areNamedL_calls (one_ v) ⟨fun y hy => (by rw [List.mem_singleton.1 hy]; exact HM.out.2), (by show 1 ≤ 60; decide)⟩ w6 none 0 (some ⟨w5.heap.size, 0, none⟩) 1 (k25_mk w6 (one_ v) (Nat.le_refl 0) (Kd.C_nil _ _) (Nat.le_refl 1) (C_of_fixed HV6.out.below (one_nodeF HG6.out HK.out.2)))).mono ?_
  rintro e w7 ⟨r, rfl, hb, hone⟩
  have HV7 := Aside0.mk (HV6.out.next hb)
  clear hb HV6 HG6
  cases r
  · clear hone
    go_wp2
    go_ret
    exact ⟨rfl, HV7.out.below⟩
  obtain ⟨nm, hnm⟩ : ∃ nm, nm = nmf v := ⟨_, rfl⟩
  have hwd : Word nm := by
    obtain ⟨h1, _, h3⟩ := hone rfl
    obtain ⟨h4, h5⟩ := h1 v (List.mem_singleton.2 rfl)
    rw [hnm]
    exact name_word HM.out.2 h4 h5 (h3 v (List.mem_singleton.2 rfl))
  have HW := Aside0.mk (And.intro hnm hwd)
  clear hone hnm hwd
  have HY := Aside0.mk HV7.out.v
  have cs0 := (cell_of_block (i := 0) HY.out).trans (show _ = some _ from rfl); have cs1 := (cell_of_block (i := 1) HY.out).trans (show _ = some _ from rfl); have cs2 := (cell_of_block (i := 2) HY.out).trans (show _ = some _ from rfl); have cs3 := (cell_of_block (i := 3) HY.out).trans (show _ = some _ from rfl); have cs4 := (cell_of_block (i := 4) HY.out).trans (show _ = some _ from rfl); have zs0 := frozen_of_block (i := 0) HY.out; have zs1 := frozen_of_block (i := 1) HY.out; have zs2 := frozen_of_block (i := 2) HY.out; have zs3 := frozen_of_block (i := 3) HY.out; have zs4 := frozen_of_block (i := 4) HY.out
  go_wp2_with fail
  refine (nameOf_calls v HM.out.2.1.klen w7 V3 e3 V4 e4 (k25.K_below HV7.out.below HK.out.2)).mono ?_
  rintro e w8 ⟨rfl, hb⟩
  rw [show (spField v nameB).f1 = nm from HW.out.1.symm]
  have HV8 := Aside0.mk (HV7.out.next hb)
  clear hb HV7 HY cs0 cs1 cs2 cs3 cs4 zs0 zs1 zs2 zs3 zs4
  have hl8 := lt_of_block HV8.out.x
  have cx4 : ∀ o o' : Obj, ((w8.alloc o).alloc o').cell? ⟨w.heap.size, 4, none⟩ = some (.slice A4 x.f4.length c4) := fun o o' => by
    rw [World.cell?_alloc_lt _ _ _ (by simp; omega), World.cell?_alloc_lt _ _ _ hl8, cell_of_block HV8.out.x]
    rfl
  have hg4 : k25.C w A4 x.f4.length x.f4 := by
    obtain ⟨_, _, _, _, he, l3, g3, l4, g4⟩ := k25_open HK.out.1
    simp only [List.cons.injEq, Value.slice.injEq, true_and, and_true] at he
    obtain ⟨⟨rfl, rfl⟩, rfl, rfl⟩ := he
    exact g4
  have HG := Aside0.mk hg4
  have hxl : x.f4.length ≤ 60 := by
    have h1 := HT.out.2.1.len (d := 5)
    have h2 : nodes (5 + 1) x ≤ 60 := HT.out.2.2
    omega
  clear hg4
  go_wp2_with fail
  obtain ⟨w9, e9⟩ : ∃ w9, w9 = (w8.alloc (.cells #[.int .i64 3, .string ⟨#[]⟩, .string ⟨#[]⟩, .slice none 0 0, .slice none 0 0] 25)).alloc (.cells #[.int .i64 3, .string ⟨#[]⟩, .string ⟨#[]⟩, .slice none 0 0, .slice none 0 0] 25) := ⟨_, rfl⟩
  rw [← e9]
  have hb9 : Below w8.heap.size w8 w9 := by rw [e9]; exact ((Below.refl _ _).alloc (Nat.le_refl _) _).alloc (by simp) _
  obtain ⟨pb, hpb⟩ : ∃ pb, pb = w8.heap.size := ⟨_, rfl⟩
  have hs9 : w9.heap.size = w8.heap.size + 2 := by rw [e9]; simp
  have hp9 : ListVar w9 pb none 0 0 := by rw [hpb, e9]; exact (heap_old _ (by simp)).trans (heap_at _ rfl)
  have hq9 : ListVar w9 (pb + 1) none 0 0 := by rw [hpb, e9]; exact heap_at _ (by simp)
  have HV9 := Aside0.mk (HV8.out.next hb9)
  have hpw : w.heap.size + 2 ≤ pb := by have := lt_of_block HV8.out.v; omega
  have H9 := Aside0.mk hpw
  have HL9 : Aside0 (LS w w9 w9 pb none 0 [] none 0 []) := ⟨⟨Below.refl _ _, by omega, hp9, hq9, Kd.R_nil _ _ _ _ _, Kd.R_nil _ _ _ _ _, fun k hk => by simp [Value.ownBlock] at hk⟩⟩
  rw [← hpb]
  clear hb9 hs9 hp9 hq9 hpw e9 hl8 cx4 HV8 hpb
  go_loopg [50, 8] x.f4.length (fun k i mt wr => ∃ (j : Nat) (B : Option Addr) (d : Nat) (pl : List S25) (C : Option Addr) (e : Nat) (ll : List S25) (mb : Bool), i = .int .i64 j ∧ mt = .bool mb ∧ Aside0 (j ≤ x.f4.length ∧ k + j = x.f4.length) ∧
    Aside0 (pl = oP v nm (x.f4.take j) ∧ ll = oQ nm (x.f4.take j) ∧ mb = (x.f4.take j).any (fun y => decide (nmf y = nm))) ∧ Aside0 (LS w w9 wr pb B d pl C e ll))
  case atStart => exact ⟨0, none, 0, [], none, 0, [], false, rfl, rfl, ⟨by simp⟩, ⟨rfl, rfl, rfl⟩, HL9⟩
  case round =>
    obtain ⟨j, B, d, pl, C, e, ll, mb, rfl, rfl, HJ, HD, HL⟩ := hrel
    have hq0 : (0 : Int) ≤ (j : Int) := Int.natCast_nonneg _
    have hq1 : (j : Int) ≤ 4000 := by have := HJ.out; omega
    by_cases hj : j < x.f4.length
    · have hjd : decide ((j : Int) < (x.f4.length : Int)) = true := by simp; omega
      generalize hyy : x.f4.getD j z25 = yy
      obtain ⟨am, P3, p3, P4, p4, e6, hKp, fp0, fp1, fp2, fp3, fp4⟩ := nodeAt HG.out j hj yy hyy
      subst e6
      have hbr : Below w.heap.size w wr := HV9.out.below.trans (HL.out.low.mono (by have := H9.out; omega))
      have old : ∀ {a : Addr} {v : Value}, w.cell? a = some v → wr.cell? a = some v := fun {a v} h => (hbr.cell (World.block_lt_of_cell? w a h)).trans h
      have d0 := old fp0
      have d1 := old fp1
      have d2 := old fp2
      have d3 := old fp3
      have d4 := old fp4
      have hye : yy = x.f4[j] := by rw [← hyy, List.getD_eq_getElem?_getD, List.getElem?_eq_getElem hj]; rfl
      have hym : yy ∈ x.f4 := by rw [hye]; exact List.getElem_mem _
      have hyt : x.f4.take (j + 1) = x.f4.take j ++ [yy] := by rw [List.take_succ_eq_append_getElem hj, hye]
      have HY := Aside0.mk (And.intro hKp (And.intro hym (And.intro hyt hbr)))
      clear hyy hKp fp0 fp1 fp2 fp3 fp4 old hym hyt hye hbr
      go_wp2_with fail
      obtain ⟨w10, e10⟩ : ∃ w10, w10 = wr.alloc (.cells #[.int .i64 yy.f0, .string yy.f1, .string yy.f2, .slice P3 yy.f3.length p3, .slice P4 yy.f4.length p4] 25) := ⟨_, rfl⟩
      rw [← e10]
      have hv10 : inVar w10 wr.heap.size yy P3 p3 P4 p4 := by rw [e10]; exact heap_at _ rfl
      have hb10 : Below wr.heap.size wr w10 := by rw [e10]; exact (Below.refl _ _).alloc (Nat.le_refl _) _
      obtain ⟨yb, hyb⟩ : ∃ yb, yb = wr.heap.size := ⟨_, rfl⟩
      rw [← hyb] at hv10 ⊢
      have HL10 := Aside0.mk (HL.out.next hb10)
      have HV10 := Aside0.mk (And.intro hv10 (HY.out.2.2.2.trans (hb10.mono HY.out.2.2.2.size)))
      have HYB : Aside0 (pb + 2 ≤ yb ∧ (∀ k, (Value.slice B pl.length d).ownBlock = some k → k < yb) ∧ ∀ k, (Value.slice C ll.length e).ownBlock = some k → k < yb) := ⟨by rw [hyb]; exact HL.out.hs, fun k hk => by rw [hyb]; exact (R_own HL.out.rp k hk).2.1, fun k hk => by rw [hyb]; exact (R_own HL.out.rl k hk).2.1⟩
      clear hv10 hb10 hyb e10 d0 d1 d2 d3 d4 HL
      have HYT := Aside0.mk (HT.out.2.item HY.out.2.1)
      refine (nameOf_calls yy HYT.out.1.klen w10 P3 p3 P4 p4 (k25.K_below HV10.out.2 HY.out.1)).mono ?_
      rintro e w11 ⟨rfl, hb⟩
      obtain ⟨ny, hny⟩ : ∃ ny, ny = nmf yy := ⟨_, rfl⟩
      rw [show (spField yy nameB).f1 = ny from hny.symm]
      have HL11 := Aside0.mk (HL10.out.next hb)
      have HV11 := Aside0.mk (And.intro ((hb.block _ (lt_of_block HV10.out.1)).trans HV10.out.1) (And.intro (HV10.out.2.trans (hb.mono HV10.out.2.size)) hny))
      clear hb hny HL10 HV10
      have HOP := Aside0.mk HL11.out.put
      have HOQ := Aside0.mk HL11.out.left
      have hvv : inVar w11 (w.heap.size + 1) v V3 e3 V4 e4 := (HL11.out.low.block _ (by have := H9.out; omega)).trans HV9.out.v
      have HVV := Aside0.mk hvv
      clear hvv
      by_cases hmt : ny = nm
      · have hnb : (ny.toList == nm.toList) = true := by rw [hmt]; simp
        have HMT := Aside0.mk hmt
        obtain ⟨w12, e12⟩ : ∃ w12, w12 = w11.alloc (.cells #[.int .i64 v.f0, .string v.f1, .string v.f2, .slice V3 v.f3.length e3, .slice V4 v.f4.length e4] 25) := ⟨_, rfl⟩
        have hb12 : Below w11.heap.size w11 w12 := by rw [e12]; exact (Below.refl _ _).alloc (Nat.le_refl _) _
        have hn12 : w12.heap[w11.heap.size]? = some (.cells #[.int .i64 v.f0, .string v.f1, .string v.f2, .slice V3 v.f3.length e3, .slice V4 v.f4.length e4] 25 (0, 0)) := by rw [e12]; exact heap_at _ rfl
        have HL12 := Aside0.mk (HL11.out.next hb12)
        have HN12 := Aside0.mk hn12
        clear hmt hb12 hn12
        have co0 := (cell_of_block (i := 0) HOP.out).trans (show _ = some _ from rfl); have co1 := (cell_of_block (i := 1) HOP.out).trans (show _ = some _ from rfl); have co2 := (cell_of_block (i := 2) HOP.out).trans (show _ = some _ from rfl); have co3 := (cell_of_block (i := 3) HOP.out).trans (show _ = some _ from rfl); have co4 := (cell_of_block (i := 4) HOP.out).trans (show _ = some _ from rfl); have zo0 := frozen_of_block (i := 0) HOP.out; have zo1 := frozen_of_block (i := 1) HOP.out; have zo2 := frozen_of_block (i := 2) HOP.out; have zo3 := frozen_of_block (i := 3) HOP.out; have zo4 := frozen_of_block (i := 4) HOP.out
        have cs0 := (cell_of_block (i := 0) HVV.out).trans (show _ = some _ from rfl); have cs1 := (cell_of_block (i := 1) HVV.out).trans (show _ = some _ from rfl); have cs2 := (cell_of_block (i := 2) HVV.out).trans (show _ = some _ from rfl); have cs3 := (cell_of_block (i := 3) HVV.out).trans (show _ = some _ from rfl); have cs4 := (cell_of_block (i := 4) HVV.out).trans (show _ = some _ from rfl); have zs0 := frozen_of_block (i := 0) HVV.out; have zs1 := frozen_of_block (i := 1) HVV.out; have zs2 := frozen_of_block (i := 2) HVV.out; have zs3 := frozen_of_block (i := 3) HVV.out; have zs4 := frozen_of_block (i := 4) HVV.out
        have hpl : pl.length ≤ 60 := by rw [HD.out.1]; have h1 := oP_len v nm (x.f4.take j); have h2 := List.length_take_le j x.f4; omega
        go_wp2_with ((with_reducible refine gate_builtin (b := .append) (xs := #[.tmp 59, .tmp 61]) rfl ?_); at_builtin; rw [← e12]; (refine Kd.R_append_rows (Kd.fixed k25 w) (Rr := (Kd.fixed k25 w).K w12) (w0 := w12) (pb + 2) rfl (.tmp 59) (.tmp 61) 23 25 (.agg #[.int .i64 0, .string ⟨#[]⟩, .string ⟨#[]⟩, .slice none 0 0, .slice none 0 0]) 88 rfl Try.underlying23 Try.infoNode rfl (by show 0 < 5; decide) (by decide) (.slice B pl.length d) pl [v] (some ⟨w11.heap.size, 0, none⟩) 1 1 (fun _ => True) (fun _ => False) rfl rfl HL12.out.rp (show ReadsRow ((Kd.fixed k25 w).K w12) 5 w12 (some ⟨w11.heap.size, 0, none⟩) 1 [v] from one_nodeF HN12.out HK.out.2) (fun _ _ h => h) (fun _ h => h.elim) (fun _ _ => trivial) (Below.refl _ _) HL12.out.hs (by omega) ?_); (intro v1 w13 hr13 hb13 hg13 hat13); (obtain ⟨B13, d13, rfl, _, _⟩ := Kd.R_reads hr13); (have HL13 := Aside0.mk (HL12.out.push hg13 hr13 hat13)); (have HO13 := Aside0.mk ((hg13.block pb (by have := HL12.out.hs; omega) (fun e => by have := (R_own HL12.out.rp pb e.symm).1; omega)).trans HL12.out.put)); clear hr13 hb13 hg13 hat13 co0 co1 co2 co3 co4 zo0 zo1 zo2 zo3 zo4; have co0 := (cell_of_block (i := 0) HO13.out).trans (show _ = some _ from rfl); have co1 := (cell_of_block (i := 1) HO13.out).trans (show _ = some _ from rfl); have co2 := (cell_of_block (i := 2) HO13.out).trans (show _ = some _ from rfl); have co3 := (cell_of_block (i := 3) HO13.out).trans (show _ = some _ from rfl); have co4 := (cell_of_block (i := 4) HO13.out).trans (show _ = some _ from rfl); have zo0 := frozen_of_block (i := 0) HO13.out; have zo1 := frozen_of_block (i := 1) HO13.out; have zo2 := frozen_of_block (i := 2) HO13.out; have zo3 := frozen_of_block (i := 3) HO13.out; have zo4 := frozen_of_block (i := 4) HO13.out)
        have hn13 : pl.length + 1 = (pl ++ [v]).length := by simp
        try rw [hn13]
        generalize w13.setCell ⟨pb, 4, none⟩ (.slice B13 (pl ++ [v]).length d13) = w14 at HL13 ⊢
        go_roundg (gk - 1)
        case measure => have := HJ.out; omega
        case rel =>
          have hde : decide (nmf yy = nm) = true := by rw [← HV11.out.2.2, HMT.out]; simp
          refine ⟨j + 1, B13, d13, pl ++ [v], C, e, ll, true, by go_num, rfl, ⟨by have := HJ.out; omega⟩, ⟨?_, ?_, ?_⟩, HL13⟩
          · rw [HY.out.2.2.1, oP_snoc, ← HD.out.1, hde]; rfl
          · rw [HY.out.2.2.1, oQ_snoc, ← HD.out.2.1, hde]; simp
          · rw [HY.out.2.2.1, List.any_append]; simp [hde]
      · have hnb : (ny.toList == nm.toList) = false := by rw [beq_eq_false_iff_ne]; exact fun e => hmt (bytes_ext e)
        have HMT := Aside0.mk hmt
        have HPL : Aside0 (pl.length ≤ 60 ∧ ll.length ≤ 60) := ⟨by
          have h1 := oP_len v nm (x.f4.take j)
          have h2 := List.length_take_le j x.f4
          have h3 := oQ_len nm (x.f4.take j)
          rw [HD.out.1, HD.out.2.1]
          omega⟩
        have HNE := Aside0.mk HL11.out.ne
        have HSB := Aside0.mk HL11.out.hs
        have HYL := Aside0.mk (lt_of_block HV11.out.1)
        clear hmt
        go_wp2_with fail
        have LW : Aside0 (Below pb w11 w11.drew) := ⟨(Below.refl _ _).drew⟩
        have SZ : Aside0 (w11.heap.size ≤ w11.drew.heap.size) := ⟨Nat.le_refl _⟩
        have P0 : Aside0 ((Kd.fixed k25 w).R 25 w11.drew (pb + 2) (fun _ => True) (.slice B pl.length d) (pl)) := ⟨R_upd HL11.out.rp (fun k _ _ _ => rfl)⟩
        have L0 : Aside0 ((Kd.fixed k25 w).R 25 w11.drew (pb + 2) (fun _ => True) (.slice C ll.length e) (ll)) := ⟨R_upd HL11.out.rl (fun k _ _ _ => rfl)⟩
        have V0 : Aside0 (ListVar w11.drew pb B pl.length d) := ⟨HL11.out.put⟩
        have U0 : Aside0 (ListVar w11.drew (pb + 1) C ll.length e) := ⟨HL11.out.left⟩
        have YV : Aside0 (inVar w11.drew yb yy P3 p3 P4 p4) := ⟨HV11.out.1⟩
        refine start_ (n := 14) (S := fun w' => True) (ds := []) #[false, false, false, false, false, false, false, false, false, false, false, false, false, false] (by kernel_rfl) rfl rfl trivial (fun hHeld => ?_)
        refine with_tabW (T := elaw13.T) (B := elaw13.B) elaw13.tab elaw13.bits (fun HT_ HW_ => ?_)
        refine pure_ (i := 0) (N := some 64) (v := ?_) (a' := ?_) #[true, false, false, false, false, false, false, false, false, false, false, false, false, false] rfl rfl (any_of HT_.out (by kernel_rfl)) (fun _ _ _ h => h) (Or.inl ⟨by rfl, ?_⟩) ?_ ?_
        rotate_left
        · intro w'
          go_simp
          with_reducible rfl
        rotate_left
        · simp only [Act.put, List.setIfInBounds_toArray, List.set_cons_zero, List.set_cons_succ, i64_w, i32_w]
          rfl
        refine pure_ (i := 5) (N := some 69) (v := ?_) (a' := ?_) #[true, false, false, false, false, true, false, false, false, false, false, false, false, false] rfl rfl (any_of HT_.out (by kernel_rfl)) (fun _ _ _ h => h) (Or.inl ⟨by rfl, ?_⟩) ?_ ?_
        rotate_left
        · intro w'
          go_simp
          with_reducible rfl
        rotate_left
        · simp only [Act.put, List.setIfInBounds_toArray, List.set_cons_zero, List.set_cons_succ, i64_w, i32_w]
          rfl
        refine inv_at [1, 2, 3, 4, 6, 7, 8, 9, 10, 11, 12, 13] (fun a0_ b a w' => ∃ (g3 : Nat) (ga : Nat) (ca : Nat) (g8 : Nat) (gb : Nat) (cb : Nat) (m3_ : Value) (m4_ : Value) (m8_ : Value) (m9_ : Value), a = putSel a0_ b [(1, 65, .slice B pl.length d), (2, 66, nodeV yy P3 p3 P4 p4), (3, 67, m3_), (4, 68, m4_), (6, 70, .slice C ll.length e), (7, 71, nodeV yy P3 p3 P4 p4), (8, 72, m8_), (9, 73, m9_), (10, 74, .pointer (some ⟨pb, 4, none⟩)), (12, 75, .pointer (some ⟨pb + 1, 4, none⟩))] ∧ (Below pb w11 w') ∧ (w11.heap.size ≤ w'.heap.size) ∧ (b 3 = true → b 4 = false → w'.heap[g3]? = some (.cells #[.int .i64 yy.f0, .string yy.f1, .string yy.f2, .slice P3 yy.f3.length p3, .slice P4 yy.f4.length p4] 25 (0, 0))) ∧ (b 8 = true → b 9 = false → w'.heap[g8]? = some (.cells #[.int .i64 yy.f0, .string yy.f1, .string yy.f2, .slice P3 yy.f3.length p3, .slice P4 yy.f4.length p4] 25 (0, 0)) ∧ w11.heap.size ≤ g8) ∧ (b 4 = false → (Kd.fixed k25 w).R 25 w' (pb + 2) (fun _ => True) (.slice B pl.length d) (pl)) ∧ (b 4 = true → (Kd.fixed k25 w).R 25 w' (pb + 2) (fun _ => True) (.slice (some ⟨ga, 0, none⟩) (pl.length + 1) ca) (pl ++ [yy])) ∧ (b 4 = true → b 9 = false → (Value.slice C ll.length e).ownBlock ≠ some ga) ∧ (b 9 = false → (Kd.fixed k25 w).R 25 w' (pb + 2) (fun _ => True) (.slice C ll.length e) (ll)) ∧ (b 9 = true → (Kd.fixed k25 w).R 25 w' (pb + 2) (fun _ => True) (.slice (some ⟨gb, 0, none⟩) (ll.length + 1) cb) (ll ++ [yy])) ∧ (b 9 = true → ga ≠ gb) ∧ (b 11 = false → ListVar w' pb B pl.length d) ∧ (b 11 = true → ListVar w' pb (some ⟨ga, 0, none⟩) (pl.length + 1) ca) ∧ (b 13 = false → ListVar w' (pb + 1) C ll.length e) ∧ (b 13 = true → ListVar w' (pb + 1) (some ⟨gb, 0, none⟩) (ll.length + 1) cb) ∧ (inVar w' yb yy P3 p3 P4 p4) ∧ (b 3 = true → (m3_ : Value) = .slice (some ⟨g3, 0, none⟩) 1 1) ∧ (b 4 = true → (m4_ : Value) = .slice (some ⟨ga, 0, none⟩) (pl.length + 1) ca) ∧ (b 8 = true → (m8_ : Value) = .slice (some ⟨g8, 0, none⟩) 1 1) ∧ (b 9 = true → (m9_ : Value) = .slice (some ⟨gb, 0, none⟩) (ll.length + 1) cb)) HT_.out HW_.out (by kernel_rfl) (by kernel_rfl) ?_ ?_ ?_
        · exact ⟨0, 0, 0, 0, 0, 0, .bool false, .bool false, .bool false, .bool false, by simp only [putSel, Bool.false_eq_true, if_false], LW.out, SZ.out, fun h_ => absurd h_ (by decide), fun h_ => absurd h_ (by decide), fun _ => P0.out, fun h_ => absurd h_ (by decide), fun h_ => absurd h_ (by decide), fun _ => L0.out, fun h_ => absurd h_ (by decide), fun h_ => absurd h_ (by decide), fun _ => V0.out, fun h_ => absurd h_ (by decide), fun _ => U0.out, fun h_ => absurd h_ (by decide), YV.out, fun h_ => absurd h_ (by decide), fun h_ => absurd h_ (by decide), fun h_ => absurd h_ (by decide), fun h_ => absurd h_ (by decide)⟩
        · skip
          clear L0 LW P0 SZ U0 V0 YV
          refine steps_cons ?_ ?_
          · rintro b a w' ⟨g3, ga, ca, g8, gb, cb, m3_, m4_, m8_, m9_, ha, Q_LW, Q_SZ, Q_G3, Q_G8, Q_P0, Q_P4, Q_D4, Q_L0, Q_L9, Q_D9, Q_V0, Q_V1, Q_U0, Q_U1, Q_YV, Q_X3_, Q_X4_, Q_X8_, Q_X9_⟩ hb_ hon hoff
            refine ⟨_, rfl, fun K hK => ?_⟩
            have e64 : a.tmps[64]? = some (.pointer (some ⟨pb, 4, none⟩)) := by rw [ha]; exact (putSel_off rfl).trans rfl
            replace ha := Aside0.mk ha
            have LW := Aside0.mk Q_LW
            have SZ := Aside0.mk Q_SZ
            have P0 := Aside0.mk (Q_P0 (hoff 4 (by kernel_rfl)))
            have L0 := Aside0.mk (Q_L0 (hoff 9 (by kernel_rfl)))
            have V0 := Aside0.mk (Q_V0 (hoff 11 (by kernel_rfl)))
            have U0 := Aside0.mk (Q_U0 (hoff 13 (by kernel_rfl)))
            have YV := Aside0.mk Q_YV
            have co : w'.cell? ⟨pb, 4, none⟩ = some (.slice B pl.length d) := by rw [cell_of_block V0.out]; rfl
            refine value_ (w1 := w') (v := .slice B pl.length d) (by rfl) rfl ?_ ?_
            · go_simp
              (try simp only [i64_w])
              try rfl
            refine hK.out _ _ ⟨g3, ga, ca, g8, gb, cb, m3_, m4_, m8_, m9_, (by rw [ha.out]; exact putSel_upk 0 hb_ rfl rfl rfl), Q_LW, Q_SZ, Q_G3, Q_G8, Q_P0, fun h0_ => absurd ((hoff 4 (by kernel_rfl)).symm.trans h0_) (by decide), fun h0_ _ => absurd ((hoff 4 (by kernel_rfl)).symm.trans h0_) (by decide), Q_L0, fun h0_ => absurd ((hoff 9 (by kernel_rfl)).symm.trans h0_) (by decide), fun h0_ => absurd ((hoff 9 (by kernel_rfl)).symm.trans h0_) (by decide), Q_V0, fun h0_ => absurd ((hoff 11 (by kernel_rfl)).symm.trans h0_) (by decide), Q_U0, fun h0_ => absurd ((hoff 13 (by kernel_rfl)).symm.trans h0_) (by decide), Q_YV, Q_X3_, fun h0_ => absurd ((hoff 4 (by kernel_rfl)).symm.trans h0_) (by decide), Q_X8_, fun h0_ => absurd ((hoff 9 (by kernel_rfl)).symm.trans h0_) (by decide)⟩
          refine steps_cons ?_ ?_
          · rintro b a w' ⟨g3, ga, ca, g8, gb, cb, m3_, m4_, m8_, m9_, ha, Q_LW, Q_SZ, Q_G3, Q_G8, Q_P0, Q_P4, Q_D4, Q_L0, Q_L9, Q_D9, Q_V0, Q_V1, Q_U0, Q_U1, Q_YV, Q_X3_, Q_X4_, Q_X8_, Q_X9_⟩ hb_ hon hoff
            refine ⟨_, rfl, fun K hK => ?_⟩
            have e10 : a.tmps[10]? = some (.pointer (some ⟨yb, 0, none⟩)) := by rw [ha]; exact (putSel_off rfl).trans rfl
            replace ha := Aside0.mk ha
            have LW := Aside0.mk Q_LW
            have SZ := Aside0.mk Q_SZ
            have P0 := Aside0.mk (Q_P0 (hoff 4 (by kernel_rfl)))
            have L0 := Aside0.mk (Q_L0 (hoff 9 (by kernel_rfl)))
            have V0 := Aside0.mk (Q_V0 (hoff 11 (by kernel_rfl)))
            have U0 := Aside0.mk (Q_U0 (hoff 13 (by kernel_rfl)))
            have YV := Aside0.mk Q_YV
            have cv0 := (cell_of_block (i := 0) YV.out).trans (show _ = some _ from rfl); have cv1 := (cell_of_block (i := 1) YV.out).trans (show _ = some _ from rfl); have cv2 := (cell_of_block (i := 2) YV.out).trans (show _ = some _ from rfl); have cv3 := (cell_of_block (i := 3) YV.out).trans (show _ = some _ from rfl); have cv4 := (cell_of_block (i := 4) YV.out).trans (show _ = some _ from rfl); have zv0 := frozen_of_block (i := 0) YV.out; have zv1 := frozen_of_block (i := 1) YV.out; have zv2 := frozen_of_block (i := 2) YV.out; have zv3 := frozen_of_block (i := 3) YV.out; have zv4 := frozen_of_block (i := 4) YV.out
            refine value_ (w1 := w') (v := nodeV yy P3 p3 P4 p4) (by rfl) rfl ?_ ?_
            · go_simp
              (try simp only [i64_w])
              try rfl
            refine hK.out _ _ ⟨g3, ga, ca, g8, gb, cb, m3_, m4_, m8_, m9_, (by rw [ha.out]; exact putSel_upk 1 hb_ rfl rfl rfl), Q_LW, Q_SZ, fun h0_ _ => absurd ((hoff 3 (by kernel_rfl)).symm.trans h0_) (by decide), Q_G8, Q_P0, fun h0_ => absurd ((hoff 4 (by kernel_rfl)).symm.trans h0_) (by decide), fun h0_ _ => absurd ((hoff 4 (by kernel_rfl)).symm.trans h0_) (by decide), Q_L0, fun h0_ => absurd ((hoff 9 (by kernel_rfl)).symm.trans h0_) (by decide), fun h0_ => absurd ((hoff 9 (by kernel_rfl)).symm.trans h0_) (by decide), Q_V0, fun h0_ => absurd ((hoff 11 (by kernel_rfl)).symm.trans h0_) (by decide), Q_U0, fun h0_ => absurd ((hoff 13 (by kernel_rfl)).symm.trans h0_) (by decide), Q_YV, fun h0_ => absurd ((hoff 3 (by kernel_rfl)).symm.trans h0_) (by decide), fun h0_ => absurd ((hoff 4 (by kernel_rfl)).symm.trans h0_) (by decide), Q_X8_, fun h0_ => absurd ((hoff 9 (by kernel_rfl)).symm.trans h0_) (by decide)⟩
          refine steps_cons ?_ ?_
          · rintro b a w' ⟨g3, ga, ca, g8, gb, cb, m3_, m4_, m8_, m9_, ha, Q_LW, Q_SZ, Q_G3, Q_G8, Q_P0, Q_P4, Q_D4, Q_L0, Q_L9, Q_D9, Q_V0, Q_V1, Q_U0, Q_U1, Q_YV, Q_X3_, Q_X4_, Q_X8_, Q_X9_⟩ hb_ hon hoff
            refine ⟨_, rfl, fun K hK => ?_⟩
            have e66 : a.tmps[66]? = some (nodeV yy P3 p3 P4 p4) := by rw [ha]; exact putSel_on (e := (2, 66, nodeV yy P3 p3 P4 p4)) 1 rfl rfl (hon 2 (by kernel_rfl)) rfl
            replace ha := Aside0.mk ha
            have LW := Aside0.mk Q_LW
            have SZ := Aside0.mk Q_SZ
            have P0 := Aside0.mk (Q_P0 (hoff 4 (by kernel_rfl)))
            have L0 := Aside0.mk (Q_L0 (hoff 9 (by kernel_rfl)))
            have V0 := Aside0.mk (Q_V0 (hoff 11 (by kernel_rfl)))
            have U0 := Aside0.mk (Q_U0 (hoff 13 (by kernel_rfl)))
            have YV := Aside0.mk Q_YV
            have hb3 : Below w'.heap.size w' (w'.alloc (.cells #[.int .i64 yy.f0, .string yy.f1, .string yy.f2, .slice P3 yy.f3.length p3, .slice P4 yy.f4.length p4] 25)) := (Below.refl _ _).alloc (Nat.le_refl _) _
            have hn3 : (w'.alloc (.cells #[.int .i64 yy.f0, .string yy.f1, .string yy.f2, .slice P3 yy.f3.length p3, .slice P4 yy.f4.length p4] 25)).heap[w'.heap.size]? = some (.cells #[.int .i64 yy.f0, .string yy.f1, .string yy.f2, .slice P3 yy.f3.length p3, .slice P4 yy.f4.length p4] 25 (0, 0)) := heap_at _ rfl
            refine value_ (w1 := w'.alloc (.cells #[.int .i64 yy.f0, .string yy.f1, .string yy.f2, .slice P3 yy.f3.length p3, .slice P4 yy.f4.length p4] 25)) (v := .slice (some ⟨w'.heap.size, 0, none⟩) 1 1) (by rfl) rfl ?_ ?_
            · go_simp
            refine hK.out _ _ ⟨w'.heap.size, ga, ca, g8, gb, cb, (.slice (some ⟨w'.heap.size, 0, none⟩) 1 1), m4_, m8_, m9_, (by rw [ha.out]; exact putSel_upk 2 hb_ rfl rfl rfl), LW.out.trans (hb3.mono (by have := SZ.out; have := HSB.out; omega)), Nat.le_trans SZ.out hb3.size, fun _ _ => hn3, fun h0_ h1_ => ⟨(hb3.block _ (lt_of_block (Q_G8 h0_ h1_).1)).trans (Q_G8 h0_ h1_).1, (Q_G8 h0_ h1_).2⟩, fun _ => R_upd P0.out (fun k _ _ hk => hb3.block k hk), fun h0_ => absurd ((hoff 4 (by kernel_rfl)).symm.trans h0_) (by decide), fun h0_ _ => absurd ((hoff 4 (by kernel_rfl)).symm.trans h0_) (by decide), fun _ => R_upd L0.out (fun k _ _ hk => hb3.block k hk), fun h0_ => absurd ((hoff 9 (by kernel_rfl)).symm.trans h0_) (by decide), fun h0_ => absurd ((hoff 9 (by kernel_rfl)).symm.trans h0_) (by decide), fun _ => (hb3.block _ (lt_of_block V0.out)).trans V0.out, fun h0_ => absurd ((hoff 11 (by kernel_rfl)).symm.trans h0_) (by decide), fun _ => (hb3.block _ (lt_of_block U0.out)).trans U0.out, fun h0_ => absurd ((hoff 13 (by kernel_rfl)).symm.trans h0_) (by decide), (hb3.block _ (lt_of_block YV.out)).trans YV.out, fun _ => rfl, fun h0_ => absurd ((hoff 4 (by kernel_rfl)).symm.trans h0_) (by decide), Q_X8_, fun h0_ => absurd ((hoff 9 (by kernel_rfl)).symm.trans h0_) (by decide)⟩
          refine steps_cons ?_ ?_
          · rintro b a w' ⟨g3, ga, ca, g8, gb, cb, m3_, m4_, m8_, m9_, ha, Q_LW, Q_SZ, Q_G3, Q_G8, Q_P0, Q_P4, Q_D4, Q_L0, Q_L9, Q_D9, Q_V0, Q_V1, Q_U0, Q_U1, Q_YV, Q_X3_, Q_X4_, Q_X8_, Q_X9_⟩ hb_ hon hoff
            refine ⟨_, rfl, fun K hK => ?_⟩
            have e65 : a.tmps[65]? = some (.slice B pl.length d) := by rw [ha]; exact putSel_on (e := (1, 65, .slice B pl.length d)) 0 rfl rfl (hon 1 (by kernel_rfl)) rfl
            have e67 : a.tmps[67]? = some (m3_) := by rw [ha]; exact putSel_on (e := (3, 67, m3_)) 2 rfl rfl (hon 3 (by kernel_rfl)) rfl
            rw [Q_X3_ (hon 3 (by kernel_rfl))] at e67
            replace ha := Aside0.mk ha
            have LW := Aside0.mk Q_LW
            have SZ := Aside0.mk Q_SZ
            have G3 := Aside0.mk (Q_G3 (hon 3 (by kernel_rfl)) hb_)
            have P0 := Aside0.mk (Q_P0 hb_)
            have L0 := Aside0.mk (Q_L0 (hoff 9 (by kernel_rfl)))
            have V0 := Aside0.mk (Q_V0 (hoff 11 (by kernel_rfl)))
            have U0 := Aside0.mk (Q_U0 (hoff 13 (by kernel_rfl)))
            have YV := Aside0.mk Q_YV
            refine Kd.R_append_rows_step (Kd.fixed k25 w) (Rr := (Kd.fixed k25 w).K w') (w0 := w') (pb + 2) (by rfl) (.tmp 65) (.tmp 67) 23 25 (.agg #[.int .i64 0, .string ⟨#[]⟩, .string ⟨#[]⟩, .slice none 0 0, .slice none 0 0]) 88 rfl Try.underlying23 Try.infoNode rfl (by show 0 < 5; decide) (by decide) (.slice B pl.length d) pl [yy] (some ⟨g3, 0, none⟩) 1 1 (fun _ => True) (fun _ => False) (eval_of e65) (eval_of e67) P0.out (one_nodeF G3.out HY.out.1) (fun _ _ h => h) (fun _ h => h.elim) (fun _ _ => trivial) (Below.refl _ _) (by have := SZ.out; have := HSB.out; omega) (by have := HPL.out; omega) ?_
            intro v1 w3 hr1 _ hg1 hat1
            obtain ⟨inner1, ho1⟩ := Kd.R_own hr1
            obtain ⟨gn, cn, hv1, _, _⟩ := ho1.form (by simp)
            rw [show (pl ++ [yy]).length = pl.length + 1 by simp] at hv1
            subst hv1
            have hoo : ∀ k, (Value.slice B pl.length d).ownBlock = some k → pb + 2 ≤ k ∧ k < w'.heap.size := fun k hk => ⟨(R_own P0.out k hk).1, (R_own P0.out k hk).2.1⟩
            have hlow : Below pb w' w3 := ((Chg.refl (fun k => pb ≤ k) w').grown hg1 (fun k e => .inl (by have := hoo k e; omega))).below (by have := SZ.out; have := HSB.out; omega) (fun k q => q)
            have hmv : ∀ {b : Nat} {o : Obj}, w'.heap[b]? = some o → (∀ k, (Value.slice B pl.length d).ownBlock = some k → b ≠ k) → w3.heap[b]? = some o := fun {b o} h hn => (hg1.block b (lt_of_block h) (fun e => hn b e.symm rfl)).trans h
            refine hK.out _ _ ⟨g3, gn, cn, g8, gb, cb, m3_, (.slice (some ⟨gn, 0, none⟩) (pl.length + 1) cn), m8_, m9_, (by rw [ha.out]; exact putSel_upk 3 hb_ rfl rfl rfl), LW.out.trans hlow, Nat.le_trans SZ.out hg1.size, fun _ h1_ => absurd ((up_self b 4).symm.trans h1_) (by decide), fun h0_ h1_ => ⟨hmv (Q_G8 h0_ h1_).1 (fun k hk => by have h1 := HYB.out.2.1 k hk; have h2 := HSB.out; have h3 := (Q_G8 h0_ h1_).2; have h4 := HYL.out; omega), (Q_G8 h0_ h1_).2⟩, fun h0_ => absurd ((up_self b 4).symm.trans h0_) (by decide), fun _ => hr1, fun _ _ => (by intro hc; rcases hat1 with h | ⟨b', h, hl⟩; (· exact HNE.out gn (h.symm.trans rfl) hc.symm); (· have h1 : some gn = some b' := h; have h2 := (R_own L0.out gn hc).2.1; have h3 := Option.some.inj h1; omega)), fun _ => R_flatmove (fun h => h) L0.out (fun k hk => hg1.block k (R_own L0.out k hk).2.1 (fun e => HNE.out k e.symm hk.symm)) (fun _ _ => trivial), fun h0_ => absurd ((hoff 9 (by kernel_rfl)).symm.trans h0_) (by decide), fun h0_ => absurd ((hoff 9 (by kernel_rfl)).symm.trans h0_) (by decide), fun _ => hmv V0.out (fun k hk => by have := hoo k hk; omega), fun h0_ => absurd ((hoff 11 (by kernel_rfl)).symm.trans h0_) (by decide), fun _ => hmv U0.out (fun k hk => by have := hoo k hk; omega), fun h0_ => absurd ((hoff 13 (by kernel_rfl)).symm.trans h0_) (by decide), hmv YV.out (fun k hk => by have := HYB.out.2.1 k hk; omega), Q_X3_, fun _ => rfl, Q_X8_, fun h0_ => absurd ((hoff 9 (by kernel_rfl)).symm.trans h0_) (by decide)⟩
          refine steps_cons ?_ ?_
          · rintro b a w' ⟨g3, ga, ca, g8, gb, cb, m3_, m4_, m8_, m9_, ha, Q_LW, Q_SZ, Q_G3, Q_G8, Q_P0, Q_P4, Q_D4, Q_L0, Q_L9, Q_D9, Q_V0, Q_V1, Q_U0, Q_U1, Q_YV, Q_X3_, Q_X4_, Q_X8_, Q_X9_⟩ hb_ hon hoff
            refine ⟨_, rfl, fun K hK => ?_⟩
            have e69 : a.tmps[69]? = some (.pointer (some ⟨pb + 1, 4, none⟩)) := by rw [ha]; exact (putSel_off rfl).trans rfl
            replace ha := Aside0.mk ha
            have LW := Aside0.mk Q_LW
            have SZ := Aside0.mk Q_SZ
            have L0 := Aside0.mk (Q_L0 (hoff 9 (by kernel_rfl)))
            have V0 := Aside0.mk (Q_V0 (hoff 11 (by kernel_rfl)))
            have U0 := Aside0.mk (Q_U0 (hoff 13 (by kernel_rfl)))
            have YV := Aside0.mk Q_YV
            have co : w'.cell? ⟨pb + 1, 4, none⟩ = some (.slice C ll.length e) := by rw [cell_of_block U0.out]; rfl
            refine value_ (w1 := w') (v := .slice C ll.length e) (by rfl) rfl ?_ ?_
            · go_simp
              (try simp only [i64_w])
              try rfl
            refine hK.out _ _ ⟨g3, ga, ca, g8, gb, cb, m3_, m4_, m8_, m9_, (by rw [ha.out]; exact putSel_upk 4 hb_ rfl rfl rfl), Q_LW, Q_SZ, Q_G3, Q_G8, Q_P0, Q_P4, Q_D4, Q_L0, fun h0_ => absurd ((hoff 9 (by kernel_rfl)).symm.trans h0_) (by decide), fun h0_ => absurd ((hoff 9 (by kernel_rfl)).symm.trans h0_) (by decide), Q_V0, fun h0_ => absurd ((hoff 11 (by kernel_rfl)).symm.trans h0_) (by decide), Q_U0, fun h0_ => absurd ((hoff 13 (by kernel_rfl)).symm.trans h0_) (by decide), Q_YV, Q_X3_, Q_X4_, Q_X8_, fun h0_ => absurd ((hoff 9 (by kernel_rfl)).symm.trans h0_) (by decide)⟩
          refine steps_cons ?_ ?_
          · rintro b a w' ⟨g3, ga, ca, g8, gb, cb, m3_, m4_, m8_, m9_, ha, Q_LW, Q_SZ, Q_G3, Q_G8, Q_P0, Q_P4, Q_D4, Q_L0, Q_L9, Q_D9, Q_V0, Q_V1, Q_U0, Q_U1, Q_YV, Q_X3_, Q_X4_, Q_X8_, Q_X9_⟩ hb_ hon hoff
            refine ⟨_, rfl, fun K hK => ?_⟩
            have e10 : a.tmps[10]? = some (.pointer (some ⟨yb, 0, none⟩)) := by rw [ha]; exact (putSel_off rfl).trans rfl
            replace ha := Aside0.mk ha
            have LW := Aside0.mk Q_LW
            have SZ := Aside0.mk Q_SZ
            have L0 := Aside0.mk (Q_L0 (hoff 9 (by kernel_rfl)))
            have V0 := Aside0.mk (Q_V0 (hoff 11 (by kernel_rfl)))
            have U0 := Aside0.mk (Q_U0 (hoff 13 (by kernel_rfl)))
            have YV := Aside0.mk Q_YV
            have cv0 := (cell_of_block (i := 0) YV.out).trans (show _ = some _ from rfl); have cv1 := (cell_of_block (i := 1) YV.out).trans (show _ = some _ from rfl); have cv2 := (cell_of_block (i := 2) YV.out).trans (show _ = some _ from rfl); have cv3 := (cell_of_block (i := 3) YV.out).trans (show _ = some _ from rfl); have cv4 := (cell_of_block (i := 4) YV.out).trans (show _ = some _ from rfl); have zv0 := frozen_of_block (i := 0) YV.out; have zv1 := frozen_of_block (i := 1) YV.out; have zv2 := frozen_of_block (i := 2) YV.out; have zv3 := frozen_of_block (i := 3) YV.out; have zv4 := frozen_of_block (i := 4) YV.out
            refine value_ (w1 := w') (v := nodeV yy P3 p3 P4 p4) (by rfl) rfl ?_ ?_
            · go_simp
              (try simp only [i64_w])
              try rfl
            refine hK.out _ _ ⟨g3, ga, ca, g8, gb, cb, m3_, m4_, m8_, m9_, (by rw [ha.out]; exact putSel_upk 5 hb_ rfl rfl rfl), Q_LW, Q_SZ, Q_G3, fun h0_ _ => absurd ((hoff 8 (by kernel_rfl)).symm.trans h0_) (by decide), Q_P0, Q_P4, Q_D4, Q_L0, fun h0_ => absurd ((hoff 9 (by kernel_rfl)).symm.trans h0_) (by decide), fun h0_ => absurd ((hoff 9 (by kernel_rfl)).symm.trans h0_) (by decide), Q_V0, fun h0_ => absurd ((hoff 11 (by kernel_rfl)).symm.trans h0_) (by decide), Q_U0, fun h0_ => absurd ((hoff 13 (by kernel_rfl)).symm.trans h0_) (by decide), Q_YV, Q_X3_, Q_X4_, fun h0_ => absurd ((hoff 8 (by kernel_rfl)).symm.trans h0_) (by decide), fun h0_ => absurd ((hoff 9 (by kernel_rfl)).symm.trans h0_) (by decide)⟩
          refine steps_cons ?_ ?_
          · rintro b a w' ⟨g3, ga, ca, g8, gb, cb, m3_, m4_, m8_, m9_, ha, Q_LW, Q_SZ, Q_G3, Q_G8, Q_P0, Q_P4, Q_D4, Q_L0, Q_L9, Q_D9, Q_V0, Q_V1, Q_U0, Q_U1, Q_YV, Q_X3_, Q_X4_, Q_X8_, Q_X9_⟩ hb_ hon hoff
            refine ⟨_, rfl, fun K hK => ?_⟩
            have e71 : a.tmps[71]? = some (nodeV yy P3 p3 P4 p4) := by rw [ha]; exact putSel_on (e := (7, 71, nodeV yy P3 p3 P4 p4)) 5 rfl rfl (hon 7 (by kernel_rfl)) rfl
            replace ha := Aside0.mk ha
            have LW := Aside0.mk Q_LW
            have SZ := Aside0.mk Q_SZ
            have L0 := Aside0.mk (Q_L0 (hoff 9 (by kernel_rfl)))
            have V0 := Aside0.mk (Q_V0 (hoff 11 (by kernel_rfl)))
            have U0 := Aside0.mk (Q_U0 (hoff 13 (by kernel_rfl)))
            have YV := Aside0.mk Q_YV
            have hb3 : Below w'.heap.size w' (w'.alloc (.cells #[.int .i64 yy.f0, .string yy.f1, .string yy.f2, .slice P3 yy.f3.length p3, .slice P4 yy.f4.length p4] 25)) := (Below.refl _ _).alloc (Nat.le_refl _) _
            have hn3 : (w'.alloc (.cells #[.int .i64 yy.f0, .string yy.f1, .string yy.f2, .slice P3 yy.f3.length p3, .slice P4 yy.f4.length p4] 25)).heap[w'.heap.size]? = some (.cells #[.int .i64 yy.f0, .string yy.f1, .string yy.f2, .slice P3 yy.f3.length p3, .slice P4 yy.f4.length p4] 25 (0, 0)) := heap_at _ rfl
            refine value_ (w1 := w'.alloc (.cells #[.int .i64 yy.f0, .string yy.f1, .string yy.f2, .slice P3 yy.f3.length p3, .slice P4 yy.f4.length p4] 25)) (v := .slice (some ⟨w'.heap.size, 0, none⟩) 1 1) (by rfl) rfl ?_ ?_
            · go_simp
            refine hK.out _ _ ⟨g3, ga, ca, w'.heap.size, gb, cb, m3_, m4_, (.slice (some ⟨w'.heap.size, 0, none⟩) 1 1), m9_, (by rw [ha.out]; exact putSel_upk 6 hb_ rfl rfl rfl), LW.out.trans (hb3.mono (by have := SZ.out; have := HSB.out; omega)), Nat.le_trans SZ.out hb3.size, fun h0_ h1_ => (hb3.block _ (lt_of_block (Q_G3 h0_ h1_))).trans (Q_G3 h0_ h1_), fun _ _ => ⟨hn3, SZ.out⟩, fun h0_ => R_upd (Q_P0 h0_) (fun k _ _ hk => hb3.block k hk), fun h0_ => R_upd (Q_P4 h0_) (fun k _ _ hk => hb3.block k hk), fun h0_ h1_ => (Q_D4 h0_ h1_), fun _ => R_upd L0.out (fun k _ _ hk => hb3.block k hk), fun h0_ => absurd ((hoff 9 (by kernel_rfl)).symm.trans h0_) (by decide), fun h0_ => absurd ((hoff 9 (by kernel_rfl)).symm.trans h0_) (by decide), fun _ => (hb3.block _ (lt_of_block V0.out)).trans V0.out, fun h0_ => absurd ((hoff 11 (by kernel_rfl)).symm.trans h0_) (by decide), fun _ => (hb3.block _ (lt_of_block U0.out)).trans U0.out, fun h0_ => absurd ((hoff 13 (by kernel_rfl)).symm.trans h0_) (by decide), (hb3.block _ (lt_of_block YV.out)).trans YV.out, Q_X3_, Q_X4_, fun _ => rfl, fun h0_ => absurd ((hoff 9 (by kernel_rfl)).symm.trans h0_) (by decide)⟩
          refine steps_cons ?_ ?_
          · rintro b a w' ⟨g3, ga, ca, g8, gb, cb, m3_, m4_, m8_, m9_, ha, Q_LW, Q_SZ, Q_G3, Q_G8, Q_P0, Q_P4, Q_D4, Q_L0, Q_L9, Q_D9, Q_V0, Q_V1, Q_U0, Q_U1, Q_YV, Q_X3_, Q_X4_, Q_X8_, Q_X9_⟩ hb_ hon hoff
            refine ⟨_, rfl, fun K hK => ?_⟩
            have e70 : a.tmps[70]? = some (.slice C ll.length e) := by rw [ha]; exact putSel_on (e := (6, 70, .slice C ll.length e)) 4 rfl rfl (hon 6 (by kernel_rfl)) rfl
            have e72 : a.tmps[72]? = some (m8_) := by rw [ha]; exact putSel_on (e := (8, 72, m8_)) 6 rfl rfl (hon 8 (by kernel_rfl)) rfl
            rw [Q_X8_ (hon 8 (by kernel_rfl))] at e72
            replace ha := Aside0.mk ha
            have LW := Aside0.mk Q_LW
            have SZ := Aside0.mk Q_SZ
            have G8 := Aside0.mk (Q_G8 (hon 8 (by kernel_rfl)) hb_)
            have P4 := Aside0.mk (Q_P4 (hon 4 (by kernel_rfl)))
            have D4 := Aside0.mk (Q_D4 (hon 4 (by kernel_rfl)) hb_)
            have L0 := Aside0.mk (Q_L0 hb_)
            have V0 := Aside0.mk (Q_V0 (hoff 11 (by kernel_rfl)))
            have U0 := Aside0.mk (Q_U0 (hoff 13 (by kernel_rfl)))
            have YV := Aside0.mk Q_YV
            refine Kd.R_append_rows_step (Kd.fixed k25 w) (Rr := (Kd.fixed k25 w).K w') (w0 := w') (pb + 2) (by rfl) (.tmp 70) (.tmp 72) 23 25 (.agg #[.int .i64 0, .string ⟨#[]⟩, .string ⟨#[]⟩, .slice none 0 0, .slice none 0 0]) 88 rfl Try.underlying23 Try.infoNode rfl (by show 0 < 5; decide) (by decide) (.slice C ll.length e) ll [yy] (some ⟨g8, 0, none⟩) 1 1 (fun _ => True) (fun _ => False) (eval_of e70) (eval_of e72) L0.out (one_nodeF G8.out.1 HY.out.1) (fun _ _ h => h) (fun _ h => h.elim) (fun _ _ => trivial) (Below.refl _ _) (by have := SZ.out; have := HSB.out; omega) (by have := HPL.out; omega) ?_
            intro v1 w3 hr1 _ hg1 hat1
            obtain ⟨inner1, ho1⟩ := Kd.R_own hr1
            obtain ⟨gn, cn, hv1, _, _⟩ := ho1.form (by simp)
            rw [show (ll ++ [yy]).length = ll.length + 1 by simp] at hv1
            subst hv1
            have hoo : ∀ k, (Value.slice C ll.length e).ownBlock = some k → pb + 2 ≤ k ∧ k < w'.heap.size := fun k hk => ⟨(R_own L0.out k hk).1, (R_own L0.out k hk).2.1⟩
            have hlow : Below pb w' w3 := ((Chg.refl (fun k => pb ≤ k) w').grown hg1 (fun k e => .inl (by have := hoo k e; omega))).below (by have := SZ.out; have := HSB.out; omega) (fun k q => q)
            have hmv : ∀ {b : Nat} {o : Obj}, w'.heap[b]? = some o → (∀ k, (Value.slice C ll.length e).ownBlock = some k → b ≠ k) → w3.heap[b]? = some o := fun {b o} h hn => (hg1.block b (lt_of_block h) (fun e => hn b e.symm rfl)).trans h
            refine hK.out _ _ ⟨g3, ga, ca, g8, gn, cn, m3_, m4_, m8_, (.slice (some ⟨gn, 0, none⟩) (ll.length + 1) cn), (by rw [ha.out]; exact putSel_upk 7 hb_ rfl rfl rfl), LW.out.trans hlow, Nat.le_trans SZ.out hg1.size, fun _ h1_ => absurd ((hon 4 (by kernel_rfl)).symm.trans h1_) (by decide), fun _ h1_ => absurd ((up_self b 9).symm.trans h1_) (by decide), fun h0_ => absurd ((hon 4 (by kernel_rfl)).symm.trans h0_) (by decide), fun _ => R_flatmove (fun h => h) P4.out (fun k hk => hg1.block k (R_own P4.out k hk).2.1 (fun e => by have hk' : ga = k := Option.some.inj hk; exact D4.out (by rw [hk']; exact e.symm))) (fun _ _ => trivial), fun _ h1_ => absurd ((up_self b 9).symm.trans h1_) (by decide), fun h0_ => absurd ((up_self b 9).symm.trans h0_) (by decide), fun _ => hr1, fun _ => (by intro hc; rcases hat1 with h | ⟨b', h, hl⟩; (· exact D4.out (by rw [hc]; exact h.symm)); (· have h1 : some gn = some b' := h; have h2 := (R_own P4.out ga rfl).2.1; have h3 := Option.some.inj h1; omega)), fun _ => hmv V0.out (fun k hk => by have := hoo k hk; omega), fun h0_ => absurd ((hoff 11 (by kernel_rfl)).symm.trans h0_) (by decide), fun _ => hmv U0.out (fun k hk => by have := hoo k hk; omega), fun h0_ => absurd ((hoff 13 (by kernel_rfl)).symm.trans h0_) (by decide), hmv YV.out (fun k hk => by have := HYB.out.2.2 k hk; omega), Q_X3_, Q_X4_, Q_X8_, fun _ => rfl⟩
          refine steps_cons ?_ ?_
          · rintro b a w' ⟨g3, ga, ca, g8, gb, cb, m3_, m4_, m8_, m9_, ha, Q_LW, Q_SZ, Q_G3, Q_G8, Q_P0, Q_P4, Q_D4, Q_L0, Q_L9, Q_D9, Q_V0, Q_V1, Q_U0, Q_U1, Q_YV, Q_X3_, Q_X4_, Q_X8_, Q_X9_⟩ hb_ hon hoff
            refine ⟨_, rfl, fun K hK => ?_⟩
            have e6 : a.tmps[6]? = some (.pointer (some ⟨pb, 0, none⟩)) := by rw [ha]; exact (putSel_off rfl).trans rfl
            replace ha := Aside0.mk ha
            have LW := Aside0.mk Q_LW
            have SZ := Aside0.mk Q_SZ
            have P4 := Aside0.mk (Q_P4 (hon 4 (by kernel_rfl)))
            have V0 := Aside0.mk (Q_V0 (hoff 11 (by kernel_rfl)))
            have U0 := Aside0.mk (Q_U0 (hoff 13 (by kernel_rfl)))
            have YV := Aside0.mk Q_YV
            refine value_ (w1 := w') (v := .pointer (some ⟨pb, 4, none⟩)) (by rfl) rfl ?_ ?_
            · go_simp
              (try simp only [i64_w])
              try rfl
            refine hK.out _ _ ⟨g3, ga, ca, g8, gb, cb, m3_, m4_, m8_, m9_, (by rw [ha.out]; exact putSel_upk 8 hb_ rfl rfl rfl), Q_LW, Q_SZ, fun _ h1_ => absurd ((hon 4 (by kernel_rfl)).symm.trans h1_) (by decide), Q_G8, fun h0_ => absurd ((hon 4 (by kernel_rfl)).symm.trans h0_) (by decide), Q_P4, Q_D4, Q_L0, Q_L9, Q_D9, Q_V0, fun h0_ => absurd ((hoff 11 (by kernel_rfl)).symm.trans h0_) (by decide), Q_U0, fun h0_ => absurd ((hoff 13 (by kernel_rfl)).symm.trans h0_) (by decide), Q_YV, Q_X3_, Q_X4_, Q_X8_, Q_X9_⟩
          refine steps_cons ?_ ?_
          · rintro b a w' ⟨g3, ga, ca, g8, gb, cb, m3_, m4_, m8_, m9_, ha, Q_LW, Q_SZ, Q_G3, Q_G8, Q_P0, Q_P4, Q_D4, Q_L0, Q_L9, Q_D9, Q_V0, Q_V1, Q_U0, Q_U1, Q_YV, Q_X3_, Q_X4_, Q_X8_, Q_X9_⟩ hb_ hon hoff
            refine ⟨_, rfl, fun K hK => ?_⟩
            have e74 : a.tmps[74]? = some (.pointer (some ⟨pb, 4, none⟩)) := by rw [ha]; exact putSel_on (e := (10, 74, .pointer (some ⟨pb, 4, none⟩))) 8 rfl rfl (hon 10 (by kernel_rfl)) rfl
            have e68 : a.tmps[68]? = some (m4_) := by rw [ha]; exact putSel_on (e := (4, 68, m4_)) 3 rfl rfl (hon 4 (by kernel_rfl)) rfl
            rw [Q_X4_ (hon 4 (by kernel_rfl))] at e68
            replace ha := Aside0.mk ha
            have LW := Aside0.mk Q_LW
            have SZ := Aside0.mk Q_SZ
            have P4 := Aside0.mk (Q_P4 (hon 4 (by kernel_rfl)))
            have L9 := Aside0.mk (Q_L9 (hon 9 (by kernel_rfl)))
            have D9 := Aside0.mk (Q_D9 (hon 9 (by kernel_rfl)))
            have V0 := Aside0.mk (Q_V0 hb_)
            have U0 := Aside0.mk (Q_U0 (hoff 13 (by kernel_rfl)))
            have YV := Aside0.mk Q_YV
            have co : w'.cell? ⟨pb, 4, none⟩ = some (.slice B pl.length d) := by rw [cell_of_block V0.out]; rfl
            have zo : w'.frozen? ⟨pb, 4, none⟩ = false := frozen_of_block V0.out
            rw [if_pos (by rfl)]
            go_simp
            have hso := heap_set (w := w') (a := ⟨pb, 4, none⟩) (v := .slice (some ⟨ga, 0, none⟩) (pl.length + 1) ca) V0.out rfl
            have hsn : ∀ k, k ≠ pb → (w'.setCell ⟨pb, 4, none⟩ (.slice (some ⟨ga, 0, none⟩) (pl.length + 1) ca)).heap[k]? = w'.heap[k]? := fun k hk => heap_set_ne hk
            have hss : Chg (fun k => k = pb) w' (w'.setCell ⟨pb, 4, none⟩ (.slice (some ⟨ga, 0, none⟩) (pl.length + 1) ca)) := (Chg.refl (fun k => k = pb) w').setCell (p := ⟨pb, 4, none⟩) (.inl rfl) _
            generalize w'.setCell ⟨pb, 4, none⟩ (.slice (some ⟨ga, 0, none⟩) (pl.length + 1) ca) = w3 at hso hsn hss ⊢
            clear co zo
            refine hK.out _ _ ⟨g3, ga, ca, g8, gb, cb, m3_, m4_, m8_, m9_, (by rw [ha.out]; exact putSel_none (v := undef) rfl), LW.out.trans (hss.below (by have := SZ.out; have := HSB.out; omega) (fun k q => by have q' : k = pb := q; omega)), Nat.le_trans SZ.out hss.size, fun _ h1_ => absurd ((hon 4 (by kernel_rfl)).symm.trans h1_) (by decide), fun _ h1_ => absurd ((hon 9 (by kernel_rfl)).symm.trans h1_) (by decide), fun h0_ => absurd ((hon 4 (by kernel_rfl)).symm.trans h0_) (by decide), fun _ => R_upd P4.out (fun k _ hk _ => hsn k (by omega)), fun _ h1_ => absurd ((hon 9 (by kernel_rfl)).symm.trans h1_) (by decide), fun h0_ => absurd ((hon 9 (by kernel_rfl)).symm.trans h0_) (by decide), fun _ => R_upd L9.out (fun k _ hk _ => hsn k (by omega)), fun _ => D9.out, fun h0_ => absurd ((up_self b 11).symm.trans h0_) (by decide), fun _ => hso, fun _ => (hsn _ (by omega)).trans U0.out, fun h0_ => absurd ((hoff 13 (by kernel_rfl)).symm.trans h0_) (by decide), (hsn _ (by have := HYB.out.1; omega)).trans YV.out, Q_X3_, Q_X4_, Q_X8_, Q_X9_⟩
          refine steps_cons ?_ ?_
          · rintro b a w' ⟨g3, ga, ca, g8, gb, cb, m3_, m4_, m8_, m9_, ha, Q_LW, Q_SZ, Q_G3, Q_G8, Q_P0, Q_P4, Q_D4, Q_L0, Q_L9, Q_D9, Q_V0, Q_V1, Q_U0, Q_U1, Q_YV, Q_X3_, Q_X4_, Q_X8_, Q_X9_⟩ hb_ hon hoff
            refine ⟨_, rfl, fun K hK => ?_⟩
            have e7 : a.tmps[7]? = some (.pointer (some ⟨pb + 1, 0, none⟩)) := by rw [ha]; exact (putSel_off rfl).trans rfl
            replace ha := Aside0.mk ha
            have LW := Aside0.mk Q_LW
            have SZ := Aside0.mk Q_SZ
            have P4 := Aside0.mk (Q_P4 (hon 4 (by kernel_rfl)))
            have L9 := Aside0.mk (Q_L9 (hon 9 (by kernel_rfl)))
            have D9 := Aside0.mk (Q_D9 (hon 9 (by kernel_rfl)))
            have V1 := Aside0.mk (Q_V1 (hon 11 (by kernel_rfl)))
            have U0 := Aside0.mk (Q_U0 (hoff 13 (by kernel_rfl)))
            have YV := Aside0.mk Q_YV
            refine value_ (w1 := w') (v := .pointer (some ⟨pb + 1, 4, none⟩)) (by rfl) rfl ?_ ?_
            · go_simp
              (try simp only [i64_w])
              try rfl
            refine hK.out _ _ ⟨g3, ga, ca, g8, gb, cb, m3_, m4_, m8_, m9_, (by rw [ha.out]; exact putSel_upk 9 hb_ rfl rfl rfl), Q_LW, Q_SZ, fun _ h1_ => absurd ((hon 4 (by kernel_rfl)).symm.trans h1_) (by decide), fun _ h1_ => absurd ((hon 9 (by kernel_rfl)).symm.trans h1_) (by decide), fun h0_ => absurd ((hon 4 (by kernel_rfl)).symm.trans h0_) (by decide), Q_P4, fun _ h1_ => absurd ((hon 9 (by kernel_rfl)).symm.trans h1_) (by decide), fun h0_ => absurd ((hon 9 (by kernel_rfl)).symm.trans h0_) (by decide), Q_L9, Q_D9, fun h0_ => absurd ((hon 11 (by kernel_rfl)).symm.trans h0_) (by decide), Q_V1, Q_U0, fun h0_ => absurd ((hoff 13 (by kernel_rfl)).symm.trans h0_) (by decide), Q_YV, Q_X3_, Q_X4_, Q_X8_, Q_X9_⟩
          refine steps_cons ?_ ?_
          · rintro b a w' ⟨g3, ga, ca, g8, gb, cb, m3_, m4_, m8_, m9_, ha, Q_LW, Q_SZ, Q_G3, Q_G8, Q_P0, Q_P4, Q_D4, Q_L0, Q_L9, Q_D9, Q_V0, Q_V1, Q_U0, Q_U1, Q_YV, Q_X3_, Q_X4_, Q_X8_, Q_X9_⟩ hb_ hon hoff
            refine ⟨_, rfl, fun K hK => ?_⟩
            have e75 : a.tmps[75]? = some (.pointer (some ⟨pb + 1, 4, none⟩)) := by rw [ha]; exact putSel_on (e := (12, 75, .pointer (some ⟨pb + 1, 4, none⟩))) 9 rfl rfl (hon 12 (by kernel_rfl)) rfl
            have e73 : a.tmps[73]? = some (m9_) := by rw [ha]; exact putSel_on (e := (9, 73, m9_)) 7 rfl rfl (hon 9 (by kernel_rfl)) rfl
            rw [Q_X9_ (hon 9 (by kernel_rfl))] at e73
            replace ha := Aside0.mk ha
            have LW := Aside0.mk Q_LW
            have SZ := Aside0.mk Q_SZ
            have P4 := Aside0.mk (Q_P4 (hon 4 (by kernel_rfl)))
            have L9 := Aside0.mk (Q_L9 (hon 9 (by kernel_rfl)))
            have D9 := Aside0.mk (Q_D9 (hon 9 (by kernel_rfl)))
            have V1 := Aside0.mk (Q_V1 (hon 11 (by kernel_rfl)))
            have U0 := Aside0.mk (Q_U0 hb_)
            have YV := Aside0.mk Q_YV
            have co : w'.cell? ⟨pb + 1, 4, none⟩ = some (.slice C ll.length e) := by rw [cell_of_block U0.out]; rfl
            have zo : w'.frozen? ⟨pb + 1, 4, none⟩ = false := frozen_of_block U0.out
            rw [if_pos (by rfl)]
            go_simp
            have hso := heap_set (w := w') (a := ⟨pb + 1, 4, none⟩) (v := .slice (some ⟨gb, 0, none⟩) (ll.length + 1) cb) U0.out rfl
            have hsn : ∀ k, k ≠ pb + 1 → (w'.setCell ⟨pb + 1, 4, none⟩ (.slice (some ⟨gb, 0, none⟩) (ll.length + 1) cb)).heap[k]? = w'.heap[k]? := fun k hk => heap_set_ne hk
            have hss : Chg (fun k => k = pb + 1) w' (w'.setCell ⟨pb + 1, 4, none⟩ (.slice (some ⟨gb, 0, none⟩) (ll.length + 1) cb)) := (Chg.refl (fun k => k = pb + 1) w').setCell (p := ⟨pb + 1, 4, none⟩) (.inl rfl) _
            generalize w'.setCell ⟨pb + 1, 4, none⟩ (.slice (some ⟨gb, 0, none⟩) (ll.length + 1) cb) = w3 at hso hsn hss ⊢
            clear co zo
            refine hK.out _ _ ⟨g3, ga, ca, g8, gb, cb, m3_, m4_, m8_, m9_, (by rw [ha.out]; exact putSel_none (v := undef) rfl), LW.out.trans (hss.below (by have := SZ.out; have := HSB.out; omega) (fun k q => by have q' : k = pb + 1 := q; omega)), Nat.le_trans SZ.out hss.size, fun _ h1_ => absurd ((hon 4 (by kernel_rfl)).symm.trans h1_) (by decide), fun _ h1_ => absurd ((hon 9 (by kernel_rfl)).symm.trans h1_) (by decide), fun h0_ => absurd ((hon 4 (by kernel_rfl)).symm.trans h0_) (by decide), fun _ => R_upd P4.out (fun k _ hk _ => hsn k (by omega)), fun _ h1_ => absurd ((hon 9 (by kernel_rfl)).symm.trans h1_) (by decide), fun h0_ => absurd ((hon 9 (by kernel_rfl)).symm.trans h0_) (by decide), fun _ => R_upd L9.out (fun k _ hk _ => hsn k (by omega)), fun _ => D9.out, fun h0_ => absurd ((hon 11 (by kernel_rfl)).symm.trans h0_) (by decide), fun _ => (hsn _ (by omega)).trans V1.out, fun h0_ => absurd ((up_self b 13).symm.trans h0_) (by decide), fun _ => hso, (hsn _ (by have := HYB.out.1; omega)).trans YV.out, Q_X3_, Q_X4_, Q_X8_, Q_X9_⟩
          exact steps_nil
        rintro b a w' hall ⟨g3, ga, ca, g8, gb, cb, m3_, m4_, m8_, m9_, ha, Q_LW, Q_SZ, Q_G3, Q_G8, Q_P0, Q_P4, Q_D4, Q_L0, Q_L9, Q_D9, Q_V0, Q_V1, Q_U0, Q_U1, Q_YV, Q_X3_, Q_X4_, Q_X8_, Q_X9_⟩
        clear L0 LW P0 SZ U0 V0 YV
        have hb1_ := hall 1 (by kernel_rfl)
        have hb2_ := hall 2 (by kernel_rfl)
        have hb3_ := hall 3 (by kernel_rfl)
        have hb4_ := hall 4 (by kernel_rfl)
        have hb6_ := hall 6 (by kernel_rfl)
        have hb7_ := hall 7 (by kernel_rfl)
        have hb8_ := hall 8 (by kernel_rfl)
        have hb9_ := hall 9 (by kernel_rfl)
        have hb10_ := hall 10 (by kernel_rfl)
        have hb11_ := hall 11 (by kernel_rfl)
        have hb12_ := hall 12 (by kernel_rfl)
        have hb13_ := hall 13 (by kernel_rfl)
        subst ha
        obtain rfl := Q_X3_ hb3_
        obtain rfl := Q_X4_ hb4_
        obtain rfl := Q_X8_ hb8_
        obtain rfl := Q_X9_ hb9_
        simp only [putSel, hb1_, hb2_, hb3_, hb4_, hb6_, hb7_, hb8_, hb9_, hb10_, hb11_, hb12_, hb13_, if_true, Act.put, List.setIfInBounds_toArray, List.set_cons_zero, List.set_cons_succ]
        have LW := Aside0.mk Q_LW
        clear Q_LW
        have SZ := Aside0.mk Q_SZ
        clear Q_SZ
        clear Q_G3
        clear Q_G8
        clear Q_P0
        have P4 := Aside0.mk (Q_P4 hb4_)
        clear Q_P4
        clear Q_D4
        clear Q_L0
        have L9 := Aside0.mk (Q_L9 hb9_)
        clear Q_L9
        have D9 := Aside0.mk (Q_D9 hb9_)
        clear Q_D9
        clear Q_V0
        have V1 := Aside0.mk (Q_V1 hb11_)
        clear Q_V1
        clear Q_U0
        have U1 := Aside0.mk (Q_U1 hb13_)
        clear Q_U1
        have YV := Aside0.mk Q_YV
        clear Q_YV
        clear hall hb1_ hb2_ hb3_ hb4_ hb6_ hb7_ hb8_ hb9_ hb10_ hb11_ hb12_ hb13_
        obtain ⟨w3, hw3⟩ : ∃ w3, w3 = w' := ⟨_, rfl⟩
        rw [← hw3] at LW SZ P4 L9 V1 U1 ⊢
        clear hw3
        go_wp2
        go_roundg (gk - 1)
        case measure => have := HJ.out; omega
        case rel =>
          have hde : decide (nmf yy = nm) = false := by rw [← HV11.out.2.2]; exact decide_eq_false HMT.out
          have hl1 : (pl ++ [yy]).length = pl.length + 1 := by simp
          have hl2 : (ll ++ [yy]).length = ll.length + 1 := by simp
          refine ⟨j + 1, some ⟨ga, 0, none⟩, ca, pl ++ [yy], some ⟨gb, 0, none⟩, cb, ll ++ [yy], mb, by go_num, rfl, ⟨by have := HJ.out; omega⟩, ⟨?_, ?_, ?_⟩, ⟨⟨HL11.out.low.trans LW.out, Nat.le_trans HSB.out SZ.out, by rw [hl1]; exact V1.out, by rw [hl2]; exact U1.out, by rw [hl1]; exact P4.out, by rw [hl2]; exact L9.out, fun k hk e => ?_⟩⟩⟩
          · rw [HY.out.2.2.1, oP_snoc, ← HD.out.1, hde]; rfl
          · rw [HY.out.2.2.1, oQ_snoc, ← HD.out.2.1, hde]; rfl
          · rw [HY.out.2.2.1, List.any_append, ← HD.out.2.2]; simp [hde]
          · have h1 : ga = k := Option.some.inj hk
            have h2 : k = gb := Option.some.inj e
            exact D9.out (h1.trans h2)
    · have hje : j = x.f4.length := by have := HJ.out; omega
      have hjd : decide ((j : Int) < (x.f4.length : Int)) = false := by simp; omega
      have hD := HD.out
      rw [List.take_of_length_le (show x.f4.length ≤ j by omega)] at hD
      have HD2 := Aside0.mk hD
      clear hje hD HD
      go_upto_if 78 with fail
      go_cut [] from 79 (fun w' => Aside0 (∃ (B2 : Option Addr) (d2 : Nat) (pl2 : List S25), LS w w9 w' pb B2 d2 pl2 C e ll ∧ pl2 = outD (some v) nm x.f4))
      case first =>
        cases mb
        · have HOP := Aside0.mk HL.out.put
          have hvv : inVar wr (w.heap.size + 1) v V3 e3 V4 e4 := (HL.out.low.block _ (by have := lt_of_block HV9.out.v; have := HV9.out.v; have := H9.out; omega)).trans HV9.out.v
          have HVV := Aside0.mk hvv
          clear hvv
          obtain ⟨w12, e12⟩ : ∃ w12, w12 = wr.alloc (.cells #[.int .i64 v.f0, .string v.f1, .string v.f2, .slice V3 v.f3.length e3, .slice V4 v.f4.length e4] 25) := ⟨_, rfl⟩
          have hb12 : Below wr.heap.size wr w12 := by rw [e12]; exact (Below.refl _ _).alloc (Nat.le_refl _) _
          have hn12 : w12.heap[wr.heap.size]? = some (.cells #[.int .i64 v.f0, .string v.f1, .string v.f2, .slice V3 v.f3.length e3, .slice V4 v.f4.length e4] 25 (0, 0)) := by rw [e12]; exact heap_at _ rfl
          have HL12 := Aside0.mk (HL.out.next hb12)
          have HN12 := Aside0.mk hn12
          clear hb12 hn12
          have co0 := (cell_of_block (i := 0) HOP.out).trans (show _ = some _ from rfl); have co1 := (cell_of_block (i := 1) HOP.out).trans (show _ = some _ from rfl); have co2 := (cell_of_block (i := 2) HOP.out).trans (show _ = some _ from rfl); have co3 := (cell_of_block (i := 3) HOP.out).trans (show _ = some _ from rfl); have co4 := (cell_of_block (i := 4) HOP.out).trans (show _ = some _ from rfl); have zo0 := frozen_of_block (i := 0) HOP.out; have zo1 := frozen_of_block (i := 1) HOP.out; have zo2 := frozen_of_block (i := 2) HOP.out; have zo3 := frozen_of_block (i := 3) HOP.out; have zo4 := frozen_of_block (i := 4) HOP.out
          have cs0 := (cell_of_block (i := 0) HVV.out).trans (show _ = some _ from rfl); have cs1 := (cell_of_block (i := 1) HVV.out).trans (show _ = some _ from rfl); have cs2 := (cell_of_block (i := 2) HVV.out).trans (show _ = some _ from rfl); have cs3 := (cell_of_block (i := 3) HVV.out).trans (show _ = some _ from rfl); have cs4 := (cell_of_block (i := 4) HVV.out).trans (show _ = some _ from rfl); have zs0 := frozen_of_block (i := 0) HVV.out; have zs1 := frozen_of_block (i := 1) HVV.out; have zs2 := frozen_of_block (i := 2) HVV.out; have zs3 := frozen_of_block (i := 3) HVV.out; have zs4 := frozen_of_block (i := 4) HVV.out
          have hpl : pl.length ≤ 60 := by rw [HD2.out.1]; have h1 := oP_len v nm x.f4; omega
          go_wp2_with ((with_reducible refine gate_builtin (b := .append) (xs := #[.tmp 80, .tmp 82]) rfl ?_); at_builtin; rw [← e12]; (refine Kd.R_append_rows (Kd.fixed k25 w) (Rr := (Kd.fixed k25 w).K w12) (w0 := w12) (pb + 2) rfl (.tmp 80) (.tmp 82) 23 25 (.agg #[.int .i64 0, .string ⟨#[]⟩, .string ⟨#[]⟩, .slice none 0 0, .slice none 0 0]) 88 rfl Try.underlying23 Try.infoNode rfl (by show 0 < 5; decide) (by decide) (.slice B pl.length d) pl [v] (some ⟨wr.heap.size, 0, none⟩) 1 1 (fun _ => True) (fun _ => False) rfl rfl HL12.out.rp (show ReadsRow ((Kd.fixed k25 w).K w12) 5 w12 (some ⟨wr.heap.size, 0, none⟩) 1 [v] from one_nodeF HN12.out HK.out.2) (fun _ _ h => h) (fun _ h => h.elim) (fun _ _ => trivial) (Below.refl _ _) HL12.out.hs (by omega) ?_); (intro v1 w13 hr13 hb13 hg13 hat13); (obtain ⟨B13, d13, rfl, _, _⟩ := Kd.R_reads hr13); (have HL13 := Aside0.mk (HL12.out.push hg13 hr13 hat13)); (have HO13 := Aside0.mk ((hg13.block pb (by have := HL12.out.hs; omega) (fun e => by have := (R_own HL12.out.rp pb e.symm).1; omega)).trans HL12.out.put)); clear hr13 hb13 hg13 hat13 co0 co1 co2 co3 co4 zo0 zo1 zo2 zo3 zo4; have co0 := (cell_of_block (i := 0) HO13.out).trans (show _ = some _ from rfl); have co1 := (cell_of_block (i := 1) HO13.out).trans (show _ = some _ from rfl); have co2 := (cell_of_block (i := 2) HO13.out).trans (show _ = some _ from rfl); have co3 := (cell_of_block (i := 3) HO13.out).trans (show _ = some _ from rfl); have co4 := (cell_of_block (i := 4) HO13.out).trans (show _ = some _ from rfl); have zo0 := frozen_of_block (i := 0) HO13.out; have zo1 := frozen_of_block (i := 1) HO13.out; have zo2 := frozen_of_block (i := 2) HO13.out; have zo3 := frozen_of_block (i := 3) HO13.out; have zo4 := frozen_of_block (i := 4) HO13.out)
          have hn13 : pl.length + 1 = (pl ++ [v]).length := by simp
          try rw [hn13]
          generalize w13.setCell ⟨pb, 4, none⟩ (.slice B13 (pl ++ [v]).length d13) = w14 at HL13 ⊢
          go_meet
          exact ⟨B13, d13, pl ++ [v], HL13.out, by rw [out_some, ← HD2.out.1, ← HD2.out.2.2]; rfl⟩
        · go_wp2_with fail
          go_meet
          exact ⟨B, d, pl, HL.out, by rw [out_some, ← HD2.out.1, ← HD2.out.2.2]; simp⟩
      case rest =>
      obtain ⟨B2, d2, pl2, hls, hpl2⟩ := hcut.out
      obtain ⟨w20, hw20⟩ : ∃ w20, w20 = wc := ⟨_, rfl⟩
      rw [← hw20] at hls ⊢
      clear hcut hw20 wc
      have HLS := Aside0.mk hls
      have HPL2 := Aside0.mk (And.intro hpl2 (show ll = outD none nm x.f4 from by rw [out_none]; exact HD2.out.2.1))
      have HV20 : Aside0 (VarsE w w20 x A3 c3 A4 c4 v V3 e3 V4 e4) := ⟨⟨HV9.out.below.trans (hls.low.mono (by have := H9.out; omega)), (hls.low.block _ (by have := H9.out; omega)).trans HV9.out.x, (hls.low.block _ (by have := H9.out; omega)).trans HV9.out.v⟩⟩
      clear hls hpl2 HL HD2
      have HX := Aside0.mk HV20.out.x
      have HY := Aside0.mk HV20.out.v
      have cr0 := (cell_of_block (i := 0) HX.out).trans (show _ = some _ from rfl); have cr1 := (cell_of_block (i := 1) HX.out).trans (show _ = some _ from rfl); have cr2 := (cell_of_block (i := 2) HX.out).trans (show _ = some _ from rfl); have cr3 := (cell_of_block (i := 3) HX.out).trans (show _ = some _ from rfl); have cr4 := (cell_of_block (i := 4) HX.out).trans (show _ = some _ from rfl); have zr0 := frozen_of_block (i := 0) HX.out; have zr1 := frozen_of_block (i := 1) HX.out; have zr2 := frozen_of_block (i := 2) HX.out; have zr3 := frozen_of_block (i := 3) HX.out; have zr4 := frozen_of_block (i := 4) HX.out
      have cs0 := (cell_of_block (i := 0) HY.out).trans (show _ = some _ from rfl); have cs1 := (cell_of_block (i := 1) HY.out).trans (show _ = some _ from rfl); have cs2 := (cell_of_block (i := 2) HY.out).trans (show _ = some _ from rfl); have cs3 := (cell_of_block (i := 3) HY.out).trans (show _ = some _ from rfl); have cs4 := (cell_of_block (i := 4) HY.out).trans (show _ = some _ from rfl); have zs0 := frozen_of_block (i := 0) HY.out; have zs1 := frozen_of_block (i := 1) HY.out; have zs2 := frozen_of_block (i := 2) HY.out; have zs3 := frozen_of_block (i := 3) HY.out; have zs4 := frozen_of_block (i := 4) HY.out
      have hl20 := lt_of_block HY.out
      have cv : ∀ q q' : Obj, ((w20.alloc q).alloc q').cell? ⟨w.heap.size + 1, 0, none⟩ = some (.int .i64 v.f0) ∧ ((w20.alloc q).alloc q').cell? ⟨w.heap.size + 1, 1, none⟩ = some (.string v.f1) ∧ ((w20.alloc q).alloc q').cell? ⟨w.heap.size + 1, 2, none⟩ = some (.string v.f2) ∧ ((w20.alloc q).alloc q').cell? ⟨w.heap.size + 1, 3, none⟩ = some (.slice V3 v.f3.length e3) ∧ ((w20.alloc q).alloc q').cell? ⟨w.heap.size + 1, 4, none⟩ = some (.slice V4 v.f4.length e4) := fun q q' => by
        refine ⟨?_, ?_, ?_, ?_, ?_⟩ <;> (rw [World.cell?_alloc_lt _ _ _ (by simp; omega), World.cell?_alloc_lt _ _ _ hl20]; assumption)
      go_wp2_with fail
      obtain ⟨w21, e21⟩ : ∃ w21, w21 = (w20.alloc (.cells #[.string nameB] 9)).alloc (.cells #[.string nm] 9) := ⟨_, rfl⟩
      try rw [← e21]
      have hb21 : Below w20.heap.size w20 w21 := by rw [e21]; exact ((Below.refl _ _).alloc (Nat.le_refl _) _).alloc (by simp) _
      have g1 : w21.heap[w20.heap.size]? = some (.cells #[.string nameB] 9 (0, 0)) := by rw [e21]; exact (heap_old _ (by simp)).trans (heap_at _ rfl)
      have g2 : w21.heap[w20.heap.size + 1]? = some (.cells #[.string nm] 9 (0, 0)) := by rw [e21]; exact heap_at _ (by simp)
      have HG12 := Aside0.mk (And.intro g1 g2)
      have HV21 := Aside0.mk (HV20.out.next hb21)
      have HLS21 := Aside0.mk (HLS.out.next hb21)
      clear g1 g2 hb21 e21 hl20 cv HV20 HLS HX HY cr0 cr1 cr2 cr3 cr4 zr0 zr1 zr2 zr3 zr4 cs0 cs1 cs2 cs3 cs4 zs0 zs1 zs2 zs3 zs4
      have HNX : Aside0 (Named x ∧ (x.f4.map nmf).Nodup) := ⟨HN.out.1, HN.out.2.1⟩
      refine (isetelem_calls x v (some v) nm HT.out.2 HT.out.1 HNX.out.1 HNX.out.2 HW.out.2 (.inr ⟨rfl, HM.out.2⟩) w21 A3 c3 A4 c4 (k25.K_below HV21.out.below HK.out.1) V3 e3 V4 e4 (k25.K_below HV21.out.below HK.out.2) (some ⟨w20.heap.size, 0, none⟩) 1 (one_str HG12.out.1) (some ⟨w20.heap.size + 1, 0, none⟩) 1 (one_str HG12.out.2)).mono ?_
      rintro e' w22 ⟨E3, f3, E4, f4, rfl, hk22, hb22⟩
      obtain ⟨xa, hxa⟩ : ∃ xa, xa = sx (some v) nm x := ⟨_, rfl⟩
      rw [← hxa] at hk22 ⊢
      have HXA := Aside0.mk hxa
      have HV22 := Aside0.mk (And.intro (HV21.out.next hb22) hk22)
      have HLS22 := Aside0.mk (HLS21.out.next hb22)
      clear hk22 hb22 hxa HG12 HV21 HLS21
      have HX := Aside0.mk HV22.out.1.x
      have cr0 := (cell_of_block (i := 0) HX.out).trans (show _ = some _ from rfl); have cr1 := (cell_of_block (i := 1) HX.out).trans (show _ = some _ from rfl); have cr2 := (cell_of_block (i := 2) HX.out).trans (show _ = some _ from rfl); have cr3 := (cell_of_block (i := 3) HX.out).trans (show _ = some _ from rfl); have cr4 := (cell_of_block (i := 4) HX.out).trans (show _ = some _ from rfl); have zr0 := frozen_of_block (i := 0) HX.out; have zr1 := frozen_of_block (i := 1) HX.out; have zr2 := frozen_of_block (i := 2) HX.out; have zr3 := frozen_of_block (i := 3) HX.out; have zr4 := frozen_of_block (i := 4) HX.out
      have hl22 := lt_of_block HX.out
      have cx : ∀ q : Obj, (w22.alloc q).cell? ⟨w.heap.size, 0, none⟩ = some (.int .i64 x.f0) ∧ (w22.alloc q).cell? ⟨w.heap.size, 1, none⟩ = some (.string x.f1) ∧ (w22.alloc q).cell? ⟨w.heap.size, 2, none⟩ = some (.string x.f2) ∧ (w22.alloc q).cell? ⟨w.heap.size, 3, none⟩ = some (.slice A3 x.f3.length c3) ∧ (w22.alloc q).cell? ⟨w.heap.size, 4, none⟩ = some (.slice A4 x.f4.length c4) := fun q => by
        refine ⟨?_, ?_, ?_, ?_, ?_⟩ <;> (rw [World.cell?_alloc_lt _ _ _ hl22]; assumption)
      go_wp2_with fail
      obtain ⟨w23, e23⟩ : ∃ w23, w23 = w22.alloc (.cells #[.int .i64 xa.f0, .string xa.f1, .string xa.f2, .slice E3 xa.f3.length f3, .slice E4 xa.f4.length f4] 25) := ⟨_, rfl⟩
      try rw [← e23]
      obtain ⟨w24, e24⟩ : ∃ w24, w24 = (w23.alloc (.cells #[.string nameB] 9)).alloc (.cells #[.string nm] 9) := ⟨_, rfl⟩
      try rw [← e24]
      have hb23 : Below w22.heap.size w22 w23 := by rw [e23]; exact (Below.refl _ _).alloc (Nat.le_refl _) _
      have g0 : inVar w23 w22.heap.size xa E3 f3 E4 f4 := by rw [e23]; exact heap_at _ rfl
      have hb24 : Below w23.heap.size w23 w24 := by rw [e24]; exact ((Below.refl _ _).alloc (Nat.le_refl _) _).alloc (by simp) _
      have g1 : w24.heap[w23.heap.size]? = some (.cells #[.string nameB] 9 (0, 0)) := by rw [e24]; exact (heap_old _ (by simp)).trans (heap_at _ rfl)
      have g2 : w24.heap[w23.heap.size + 1]? = some (.cells #[.string nm] 9 (0, 0)) := by rw [e24]; exact heap_at _ (by simp)
      have hs23 : w23.heap.size = w22.heap.size + 1 := by rw [e23]; simp
      have hb224 : Below w22.heap.size w22 w24 := hb23.trans (hb24.mono hb23.size)
      have HG34 := Aside0.mk (And.intro g1 (And.intro g2 ((hb24.block _ (lt_of_block g0)).trans g0)))
      have HV24 := Aside0.mk (And.intro (HV22.out.1.next hb224) (k25.K_below hb224 HV22.out.2))
      have HLS24 := Aside0.mk (HLS22.out.next hb224)
      try rw [hs23]
      rw [hs23] at HG34
      clear g0 g1 g2 hb23 hb24 hb224 e23 e24 hs23 hl22 cx HV22 HLS22 HX cr0 cr1 cr2 cr3 cr4 zr0 zr1 zr2 zr3 zr4
      refine (isetelem_calls x z25 none nm HT.out.2 HT.out.1 HNX.out.1 HNX.out.2 HW.out.2 (.inl ⟨rfl, rfl⟩) w24 A3 c3 A4 c4 (k25.K_below HV24.out.1.below HK.out.1) none 0 none 0 (zero_K _) (some ⟨w22.heap.size + 1, 0, none⟩) 1 (one_str HG34.out.1) (some ⟨w22.heap.size + 1 + 1, 0, none⟩) 1 (one_str HG34.out.2.1)).mono ?_
      rintro e' w25 ⟨G3, h3, G4, h4, rfl, hk25, hb25⟩
      obtain ⟨xb, hxb⟩ : ∃ xb, xb = sx none nm x := ⟨_, rfl⟩
      rw [← hxb] at hk25 ⊢
      have HXB := Aside0.mk hxb
      have HV25 := Aside0.mk (And.intro (HV24.out.1.next hb25) (And.intro (k25.K_below hb25 HV24.out.2) (And.intro hk25 ((hb25.block _ (lt_of_block HG34.out.2.2)).trans HG34.out.2.2))))
      have HLS25 := Aside0.mk (HLS24.out.next hb25)
      clear hk25 hb25 hxb HG34 HV24 HLS24
      obtain ⟨w26, e26⟩ : ∃ w26, w26 = w25.alloc (.cells #[.int .i64 xb.f0, .string xb.f1, .string xb.f2, .slice G3 xb.f3.length h3, .slice G4 xb.f4.length h4] 25) := ⟨_, rfl⟩
      have hb26 : Below w25.heap.size w25 w26 := by rw [e26]; exact (Below.refl _ _).alloc (Nat.le_refl _) _
      have g26 : inVar w26 w25.heap.size xb G3 h3 G4 h4 := by rw [e26]; exact heap_at _ rfl
      have HV26 := Aside0.mk (And.intro (HV25.out.1.next hb26) (And.intro (k25.K_below hb26 HV25.out.2.1) (And.intro (k25.K_below hb26 HV25.out.2.2.1) (And.intro ((hb26.block _ (lt_of_block HV25.out.2.2.2)).trans HV25.out.2.2.2) g26))))
      have HLS26 := Aside0.mk (HLS25.out.next hb26)
      have HXV := Aside0.mk HV26.out.2.2.2.1
      have HPV := Aside0.mk HLS26.out.put
      have cr0 := (cell_of_block (i := 0) HXV.out).trans (show _ = some _ from rfl); have cr1 := (cell_of_block (i := 1) HXV.out).trans (show _ = some _ from rfl); have cr2 := (cell_of_block (i := 2) HXV.out).trans (show _ = some _ from rfl); have cr3 := (cell_of_block (i := 3) HXV.out).trans (show _ = some _ from rfl); have cr4 := (cell_of_block (i := 4) HXV.out).trans (show _ = some _ from rfl); have zr0 := frozen_of_block (i := 0) HXV.out; have zr1 := frozen_of_block (i := 1) HXV.out; have zr2 := frozen_of_block (i := 2) HXV.out; have zr3 := frozen_of_block (i := 3) HXV.out; have zr4 := frozen_of_block (i := 4) HXV.out
      have cs0 := (cell_of_block (i := 0) HPV.out).trans (show _ = some _ from rfl); have cs1 := (cell_of_block (i := 1) HPV.out).trans (show _ = some _ from rfl); have cs2 := (cell_of_block (i := 2) HPV.out).trans (show _ = some _ from rfl); have cs3 := (cell_of_block (i := 3) HPV.out).trans (show _ = some _ from rfl); have cs4 := (cell_of_block (i := 4) HPV.out).trans (show _ = some _ from rfl); have zs0 := frozen_of_block (i := 0) HPV.out; have zs1 := frozen_of_block (i := 1) HPV.out; have zs2 := frozen_of_block (i := 2) HPV.out; have zs3 := frozen_of_block (i := 3) HPV.out; have zs4 := frozen_of_block (i := 4) HPV.out
      rw [e26] at cr0 cr1 cr2 cr3 cr4 cs0 cs1 cs2 cs3 cs4
      clear hb26 g26 HV25 HLS25 zr0 zr1 zr2 zr3 zr4 zs0 zs1 zs2 zs3 zs4
      go_wp2_with fail
      try rw [← e26]
      have hkp : nodeK w26 ⟨3, ⟨#[]⟩, ⟨#[]⟩, [], pl2⟩ none 0 B2 d2 := by
        obtain ⟨_, hnd, hC⟩ := Kd.R_reads' HLS26.out.rp
        exact k25_mk w26 ⟨3, ⟨#[]⟩, ⟨#[]⟩, [], pl2⟩ (Nat.le_refl 0) (Kd.C_nil _ _) hnd (C_of_fixed HV26.out.1.below hC)
      have hkq : nodeK w26 ⟨3, ⟨#[]⟩, ⟨#[]⟩, [], ll⟩ none 0 C e := by
        obtain ⟨_, hnd, hC⟩ := Kd.R_reads' HLS26.out.rl
        exact k25_mk w26 ⟨3, ⟨#[]⟩, ⟨#[]⟩, [], ll⟩ (Nat.le_refl 0) (Kd.C_nil _ _) hnd (C_of_fixed HV26.out.1.below hC)
      have exa : (⟨3, ⟨#[]⟩, ⟨#[]⟩, [], pl2⟩ : S25) = xa := by rw [HXA.out, HPL2.out.1]; rfl
      have exb : (⟨3, ⟨#[]⟩, ⟨#[]⟩, [], ll⟩ : S25) = xb := by rw [HXB.out, HPL2.out.2]; rfl
      have hsa : Sm 7 ⟨3, ⟨#[]⟩, ⟨#[]⟩, [], pl2⟩ := by rw [HPL2.out.1]; exact sx_sm HT.out.2 (fun y hy => by rw [← Option.some.inj hy]; exact HM.out.2)
      have hsb : Sm 7 ⟨3, ⟨#[]⟩, ⟨#[]⟩, [], ll⟩ := by rw [HPL2.out.2]; exact sx_sm HT.out.2 (fun y hy => by cases hy)
      subst exa
      subst exb
      have HKPQ := Aside0.mk (And.intro hkp (And.intro hkq (And.intro hsa hsb)))
      clear hkp hkq hsa hsb
      refine (sameS_calls 7 ⟨3, ⟨#[]⟩, ⟨#[]⟩, [], pl2⟩ HKPQ.out.2.2.1 false w26 E3 f3 E4 f4 none 0 B2 d2 HV26.out.2.1 HKPQ.out.1).mono ?_
      rintro e' w27 ⟨rfl, hb27⟩
      have HB27 := Aside0.mk hb27
      have HXV2 := Aside0.mk ((hb27.block _ (lt_of_block HV26.out.2.2.2.2)).trans HV26.out.2.2.2.2)
      have HPV2 := Aside0.mk ((hb27.block _ (lt_of_block HLS26.out.left)).trans HLS26.out.left)
      clear hb27 cr0 cr1 cr2 cr3 cr4 cs0 cs1 cs2 cs3 cs4 e26
      have cr0 := (cell_of_block (i := 0) HXV2.out).trans (show _ = some _ from rfl); have cr1 := (cell_of_block (i := 1) HXV2.out).trans (show _ = some _ from rfl); have cr2 := (cell_of_block (i := 2) HXV2.out).trans (show _ = some _ from rfl); have cr3 := (cell_of_block (i := 3) HXV2.out).trans (show _ = some _ from rfl); have cr4 := (cell_of_block (i := 4) HXV2.out).trans (show _ = some _ from rfl); have zr0 := frozen_of_block (i := 0) HXV2.out; have zr1 := frozen_of_block (i := 1) HXV2.out; have zr2 := frozen_of_block (i := 2) HXV2.out; have zr3 := frozen_of_block (i := 3) HXV2.out; have zr4 := frozen_of_block (i := 4) HXV2.out
      have cs0 := (cell_of_block (i := 0) HPV2.out).trans (show _ = some _ from rfl); have cs1 := (cell_of_block (i := 1) HPV2.out).trans (show _ = some _ from rfl); have cs2 := (cell_of_block (i := 2) HPV2.out).trans (show _ = some _ from rfl); have cs3 := (cell_of_block (i := 3) HPV2.out).trans (show _ = some _ from rfl); have cs4 := (cell_of_block (i := 4) HPV2.out).trans (show _ = some _ from rfl); have zs0 := frozen_of_block (i := 0) HPV2.out; have zs1 := frozen_of_block (i := 1) HPV2.out; have zs2 := frozen_of_block (i := 2) HPV2.out; have zs3 := frozen_of_block (i := 3) HPV2.out; have zs4 := frozen_of_block (i := 4) HPV2.out
      go_wp2_with fail
      refine (sameS_calls 7 ⟨3, ⟨#[]⟩, ⟨#[]⟩, [], ll⟩ HKPQ.out.2.2.2 false w27 G3 h3 G4 h4 none 0 C e (k25.K_below HB27.out HV26.out.2.2.1) (k25.K_below HB27.out HKPQ.out.2.1)).mono ?_
      rintro e' w28 ⟨rfl, hb28⟩
      have HFIN := Aside0.mk (HV26.out.1.below.trans ((HB27.out.trans (hb28.mono HB27.out.size)).mono HV26.out.1.below.size))
      clear hb28
      go_wp2
      go_ret
      exact ⟨rfl, HFIN.out⟩
theorem elem_law (w : World) (x : S25) (hz : Sz x) (A3 : Option Addr) (c3 : Nat) (A4 : Option Addr) (c4 : Nat) (hK : nodeK w x A3 c3 A4 c4) (v : S25) (hzv : Sz v) (V3 : Option Addr) (e3 : Nat) (V4 : Option Addr) (e4 : Nat) (hV : nodeK w v V3 e3 V4 e4) :
    Calls Try.prog 9 #[nodeV x A3 c3 A4 c4, nodeV v V3 e3 V4 e4] w fun e w' => e = .returned (.bool true) ∧ Below w.heap.size w w' := elemlaw_calls x hz v hzv w A3 c3 A4 c4 hK V3 e3 V4 e4 hV
end Go.Proofs.Ytigpgkfgkjabmaa
