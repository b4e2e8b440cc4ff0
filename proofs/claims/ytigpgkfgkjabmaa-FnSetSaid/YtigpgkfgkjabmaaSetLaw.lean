/-
  laws.FnSet: a key's value is set in its place, or behind all others.
-/
import Derived.Test.YtigpgkfgkjabmaaSetI
import Derived.Test.YtigpgkfgkjabmaaWith
import Derived.Test.YtigpgkfgkjabmaaSame
namespace Go.Proofs.Ytigpgkfgkjabmaa
open Go.RowKit Go.Proofs.YtigpgkfgkjabmaaW.PrintWords Go.Proofs.YtigpgkfgkjabmaaW.PrintLast Go.Proofs.Ytigpgkfgkjabmaa.PFnFields
set_option linter.unusedVariables false
set_option linter.unusedSimpArgs false

def setlaw6.T : Bool × List (List Nat × List Nat) := (true, [([], []), ([0], [0]), ([1], [1]), ([1], [1]), ([1], [1]), ([1], [1]), ([3, 4, 5, 1, 1], [1, 3, 4, 5]), ([2, 6, 6, 1], [1, 2, 6]), ([1, 7], [1, 7]), ([8, 7, 0, 1, 2, 3, 4, 5, 6, 7, 8], [8])])
def setlaw6.B : List Nat := [0, 1, 3, 3, 3, 3, 59, 127, 255, 511]
theorem setlaw6.tab : rtab .any (opsOf Try.f7 6) = setlaw6.T := by kernel_rfl
theorem setlaw6.bits : waitsOk setlaw6.T.2 setlaw6.B = true := by kernel_rfl
def LawPostS (w : World) (e : Ending) (w' : World) : Prop := e = .returned (.bool true) ∧ Below w.heap.size w w'
/-- Where the two arguments stand. -/
structure VarsS (w wc : World) (x : S25) (A3 : Option Addr) (c3 : Nat) (A4 : Option Addr) (c4 : Nat) (v : S25) (V3 : Option Addr) (e3 : Nat) (V4 : Option Addr) (e4 : Nat) : Prop where
  below : Below w.heap.size w wc
  x : inVar wc w.heap.size x A3 c3 A4 c4
  v : inVar wc (w.heap.size + 1) v V3 e3 V4 e4
theorem VarsS.next {w wc w' : World} {x : S25} {A3 : Option Addr} {c3 : Nat} {A4 : Option Addr} {c4 : Nat} {v : S25} {V3 : Option Addr} {e3 : Nat} {V4 : Option Addr} {e4 : Nat} (h : VarsS w wc x A3 c3 A4 c4 v V3 e3 V4 e4) (hb : Below wc.heap.size wc w') : VarsS w w' x A3 c3 A4 c4 v V3 e3 V4 e4 :=
  ⟨h.below.trans (hb.mono h.below.size), (hb.block _ (lt_of_block h.x)).trans h.x, (hb.block _ (lt_of_block h.v)).trans h.v⟩
set_option maxRecDepth 100000 in
set_option maxHeartbeats 3200000 in
theorem setlaw_calls (x : S25) (hz : Sz x) (nm : ByteArray) (hnm : nm.size ≤ 9223372036854775807) (v : S25) (hzv : Sz v) (w : World) (A3 : Option Addr) (c3 : Nat) (A4 : Option Addr) (c4 : Nat) (hK : nodeK w x A3 c3 A4 c4) (V3 : Option Addr) (e3 : Nat) (V4 : Option Addr) (e4 : Nat) (hV : nodeK w v V3 e3 V4 e4) :
    Calls Try.prog 7 #[nodeV x A3 c3 A4 c4, .string nm, nodeV v V3 e3 V4 e4] w (LawPostS w) := by
  have hu := Try.underlying25
  have HK := Aside0.mk (And.intro hK hV)
  have HZ := Aside0.mk (And.intro hz hzv)
  clear hK hV hz hzv
  go_enter Try.func7, Try.ntmps7
  go_wp2_with fail
  obtain ⟨w0, e0⟩ : ∃ w0, w0 = (w.alloc (.cells #[.int .i64 x.f0, .string x.f1, .string x.f2, .slice A3 x.f3.length c3, .slice A4 x.f4.length c4] 25)).alloc (.cells #[.int .i64 v.f0, .string v.f1, .string v.f2, .slice V3 v.f3.length e3, .slice V4 v.f4.length e4] 25) := ⟨_, rfl⟩
  rw [← e0]
  have HV0 : Aside0 (VarsS w w0 x A3 c3 A4 c4 v V3 e3 V4 e4) := ⟨by rw [e0]; exact ((Below.refl _ _).alloc (Nat.le_refl _) _).alloc (by simp) _, by rw [e0]; exact (heap_old _ (by simp)).trans (heap_at _ rfl), by rw [e0]; exact heap_at _ (by simp)⟩
  clear e0
  refine (fits1_calls x w0 A3 c3 A4 c4 (k25.K_below HV0.out.below HK.out.1)).mono ?_
  rintro e w1 ⟨r, rfl, hb, _⟩
  have HV1 := Aside0.mk (HV0.out.next hb)
  clear hb HV0
  cases r
  · go_wp2
    go_ret
    exact ⟨rfl, HV1.out.below⟩
  have HX := Aside0.mk HV1.out.x
  have HY := Aside0.mk HV1.out.v
  have cr0 := (cell_of_block (i := 0) HX.out).trans (show _ = some _ from rfl); have cr1 := (cell_of_block (i := 1) HX.out).trans (show _ = some _ from rfl); have cr2 := (cell_of_block (i := 2) HX.out).trans (show _ = some _ from rfl); have cr3 := (cell_of_block (i := 3) HX.out).trans (show _ = some _ from rfl); have cr4 := (cell_of_block (i := 4) HX.out).trans (show _ = some _ from rfl); have zr0 := frozen_of_block (i := 0) HX.out; have zr1 := frozen_of_block (i := 1) HX.out; have zr2 := frozen_of_block (i := 2) HX.out; have zr3 := frozen_of_block (i := 3) HX.out; have zr4 := frozen_of_block (i := 4) HX.out
  have cs0 := (cell_of_block (i := 0) HY.out).trans (show _ = some _ from rfl); have cs1 := (cell_of_block (i := 1) HY.out).trans (show _ = some _ from rfl); have cs2 := (cell_of_block (i := 2) HY.out).trans (show _ = some _ from rfl); have cs3 := (cell_of_block (i := 3) HY.out).trans (show _ = some _ from rfl); have cs4 := (cell_of_block (i := 4) HY.out).trans (show _ = some _ from rfl); have zs0 := frozen_of_block (i := 0) HY.out; have zs1 := frozen_of_block (i := 1) HY.out; have zs2 := frozen_of_block (i := 2) HY.out; have zs3 := frozen_of_block (i := 3) HY.out; have zs4 := frozen_of_block (i := 4) HY.out
  go_wp2_with fail
  rotate_left
  · go_ret
    exact ⟨rfl, HV1.out.below⟩
  refine (fits1_calls v w1 V3 e3 V4 e4 (k25.K_below HV1.out.below HK.out.2)).mono ?_
  rintro e w2 ⟨r, rfl, hb, _⟩
  have HV2 := Aside0.mk (HV1.out.next hb)
  clear hb HV1 HX HY cr0 cr1 cr2 cr3 cr4 zr0 zr1 zr2 zr3 zr4 cs0 cs1 cs2 cs3 cs4 zs0 zs1 zs2 zs3 zs4
  cases r
  · go_wp2
    go_ret
    exact ⟨rfl, HV2.out.below⟩
  have HX := Aside0.mk HV2.out.x
  have cr0 := (cell_of_block (i := 0) HX.out).trans (show _ = some _ from rfl); have cr1 := (cell_of_block (i := 1) HX.out).trans (show _ = some _ from rfl); have cr2 := (cell_of_block (i := 2) HX.out).trans (show _ = some _ from rfl); have cr3 := (cell_of_block (i := 3) HX.out).trans (show _ = some _ from rfl); have cr4 := (cell_of_block (i := 4) HX.out).trans (show _ = some _ from rfl); have zr0 := frozen_of_block (i := 0) HX.out; have zr1 := frozen_of_block (i := 1) HX.out; have zr2 := frozen_of_block (i := 2) HX.out; have zr3 := frozen_of_block (i := 3) HX.out; have zr4 := frozen_of_block (i := 4) HX.out
  go_wp2_with fail
  refine (isMap_calls x w2 A3 c3 A4 c4 (k25.K_below HV2.out.below HK.out.1) HZ.out.1).mono ?_
  rintro e w3 ⟨r, rfl, hb, hmap⟩
  have HV3 := Aside0.mk (HV2.out.next hb)
  clear hb HV2 HX cr0 cr1 cr2 cr3 cr4 zr0 zr1 zr2 zr3 zr4
  cases r
  · clear hmap
    go_wp2
    go_ret
    exact ⟨rfl, HV3.out.below⟩
  have HM := Aside0.mk (hmap rfl)
  clear hmap
  go_wp2_with fail
  refine (isWord_calls nm w3 hnm).mono ?_
  rintro e w4 ⟨r, rfl, hr, ⟨⟨n1, rfl⟩⟩⟩
  have hb : Below w3.heap.size w3 (w3.drewN n1) := pw_below_drewN (Below.refl _ _) n1
  generalize w3.drewN n1 = w4 at hb ⊢
  have HV4 := Aside0.mk (HV3.out.next hb)
  clear hb HV3
  cases r
  · clear hr
    go_wp2
    go_ret
    exact ⟨rfl, HV4.out.below⟩
  have HW := Aside0.mk (hr rfl)
  clear hr
  have HY := Aside0.mk HV4.out.v
  have cs0 := (cell_of_block (i := 0) HY.out).trans (show _ = some _ from rfl); have cs1 := (cell_of_block (i := 1) HY.out).trans (show _ = some _ from rfl); have cs2 := (cell_of_block (i := 2) HY.out).trans (show _ = some _ from rfl); have cs3 := (cell_of_block (i := 3) HY.out).trans (show _ = some _ from rfl); have cs4 := (cell_of_block (i := 4) HY.out).trans (show _ = some _ from rfl); have zs0 := frozen_of_block (i := 0) HY.out; have zs1 := frozen_of_block (i := 1) HY.out; have zs2 := frozen_of_block (i := 2) HY.out; have zs3 := frozen_of_block (i := 3) HY.out; have zs4 := frozen_of_block (i := 4) HY.out
  go_wp2_with fail
  refine (isTree_calls v w4 V3 e3 V4 e4 (k25.K_below HV4.out.below HK.out.2) HZ.out.2).mono ?_
  rintro e w5 ⟨r, rfl, hb, htree⟩
  have HV5 := Aside0.mk (HV4.out.next hb)
  clear hb HV4 HY cs0 cs1 cs2 cs3 cs4 zs0 zs1 zs2 zs3 zs4
  cases r
  · clear htree
    go_wp2
    go_ret
    exact ⟨rfl, HV5.out.below⟩
  have HT := Aside0.mk (htree rfl)
  clear htree
  have HX := Aside0.mk HV5.out.x
  have HY := Aside0.mk HV5.out.v
  have cr0 := (cell_of_block (i := 0) HX.out).trans (show _ = some _ from rfl); have cr1 := (cell_of_block (i := 1) HX.out).trans (show _ = some _ from rfl); have cr2 := (cell_of_block (i := 2) HX.out).trans (show _ = some _ from rfl); have cr3 := (cell_of_block (i := 3) HX.out).trans (show _ = some _ from rfl); have cr4 := (cell_of_block (i := 4) HX.out).trans (show _ = some _ from rfl); have zr0 := frozen_of_block (i := 0) HX.out; have zr1 := frozen_of_block (i := 1) HX.out; have zr2 := frozen_of_block (i := 2) HX.out; have zr3 := frozen_of_block (i := 3) HX.out; have zr4 := frozen_of_block (i := 4) HX.out
  have cs0 := (cell_of_block (i := 0) HY.out).trans (show _ = some _ from rfl); have cs1 := (cell_of_block (i := 1) HY.out).trans (show _ = some _ from rfl); have cs2 := (cell_of_block (i := 2) HY.out).trans (show _ = some _ from rfl); have cs3 := (cell_of_block (i := 3) HY.out).trans (show _ = some _ from rfl); have cs4 := (cell_of_block (i := 4) HY.out).trans (show _ = some _ from rfl); have zs0 := frozen_of_block (i := 0) HY.out; have zs1 := frozen_of_block (i := 1) HY.out; have zs2 := frozen_of_block (i := 2) HY.out; have zs3 := frozen_of_block (i := 3) HY.out; have zs4 := frozen_of_block (i := 4) HY.out
  go_wp2_with fail
  refine (iset_calls x v HM.out.2 HM.out.1 HT.out nm HW.out w5 A3 c3 A4 c4 (k25.K_below HV5.out.below HK.out.1) V3 e3 V4 e4 (k25.K_below HV5.out.below HK.out.2)).mono ?_
  rintro e w6 ⟨E3, f3, E4, f4, rfl, hk6, hb⟩
  have HV6 := Aside0.mk (HV5.out.next hb)
  have HK6 := Aside0.mk hk6
  clear hb hk6 HV5 HX HY cr0 cr1 cr2 cr3 cr4 zr0 zr1 zr2 zr3 zr4 cs0 cs1 cs2 cs3 cs4 zs0 zs1 zs2 zs3 zs4
  go_wp2_with fail
  obtain ⟨w7, e7⟩ : ∃ w7, w7 = w6.alloc (.cells #[.int .i64 (wi x nm v).f0, .string (wi x nm v).f1, .string (wi x nm v).f2, .slice E3 (wi x nm v).f3.length f3, .slice E4 (wi x nm v).f4.length f4] 25) := ⟨_, rfl⟩
  try rw [← e7]
  have hb7 : Below w6.heap.size w6 w7 := by rw [e7]; exact (Below.refl _ _).alloc (Nat.le_refl _) _
  have g7 : inVar w7 w6.heap.size (wi x nm v) E3 f3 E4 f4 := by rw [e7]; exact heap_at _ rfl
  have HV7 := Aside0.mk (HV6.out.next hb7)
  have H7 := Aside0.mk (And.intro g7 (k25.K_below hb7 HK6.out))
  clear hb7 g7 e7 HV6 HK6
  have HS : Aside0 (∀ w' : World, Below w7.heap.size w7 w' → w'.cell? ⟨w6.heap.size, 0, none⟩ = some (.int .i64 (wi x nm v).f0) ∧ w'.cell? ⟨w6.heap.size, 1, none⟩ = some (.string (wi x nm v).f1) ∧ w'.cell? ⟨w6.heap.size, 2, none⟩ = some (.string (wi x nm v).f2) ∧ w'.cell? ⟨w6.heap.size, 3, none⟩ = some (.slice E3 (wi x nm v).f3.length f3) ∧ w'.cell? ⟨w6.heap.size, 4, none⟩ = some (.slice E4 (wi x nm v).f4.length f4) ∧ w'.cell? ⟨w.heap.size, 0, none⟩ = some (.int .i64 x.f0) ∧ w'.cell? ⟨w.heap.size, 1, none⟩ = some (.string x.f1) ∧ w'.cell? ⟨w.heap.size, 2, none⟩ = some (.string x.f2) ∧ w'.cell? ⟨w.heap.size, 3, none⟩ = some (.slice A3 x.f3.length c3) ∧ w'.cell? ⟨w.heap.size, 4, none⟩ = some (.slice A4 x.f4.length c4) ∧ w'.cell? ⟨(w.heap.size + 1), 0, none⟩ = some (.int .i64 v.f0) ∧ w'.cell? ⟨(w.heap.size + 1), 1, none⟩ = some (.string v.f1) ∧ w'.cell? ⟨(w.heap.size + 1), 2, none⟩ = some (.string v.f2) ∧ w'.cell? ⟨(w.heap.size + 1), 3, none⟩ = some (.slice V3 v.f3.length e3) ∧ w'.cell? ⟨(w.heap.size + 1), 4, none⟩ = some (.slice V4 v.f4.length e4)) := ⟨fun w' hw => by
    have HQ1 := Aside0.mk ((hw.block _ (lt_of_block H7.out.1)).trans H7.out.1)
    have HQ2 := Aside0.mk ((hw.block _ (lt_of_block HV7.out.x)).trans HV7.out.x)
    have HQ3 := Aside0.mk ((hw.block _ (lt_of_block HV7.out.v)).trans HV7.out.v)
    have ca0 := (cell_of_block (i := 0) HQ1.out).trans (show _ = some _ from rfl); have ca1 := (cell_of_block (i := 1) HQ1.out).trans (show _ = some _ from rfl); have ca2 := (cell_of_block (i := 2) HQ1.out).trans (show _ = some _ from rfl); have ca3 := (cell_of_block (i := 3) HQ1.out).trans (show _ = some _ from rfl); have ca4 := (cell_of_block (i := 4) HQ1.out).trans (show _ = some _ from rfl); have za0 := frozen_of_block (i := 0) HQ1.out; have za1 := frozen_of_block (i := 1) HQ1.out; have za2 := frozen_of_block (i := 2) HQ1.out; have za3 := frozen_of_block (i := 3) HQ1.out; have za4 := frozen_of_block (i := 4) HQ1.out
    have cb0 := (cell_of_block (i := 0) HQ2.out).trans (show _ = some _ from rfl); have cb1 := (cell_of_block (i := 1) HQ2.out).trans (show _ = some _ from rfl); have cb2 := (cell_of_block (i := 2) HQ2.out).trans (show _ = some _ from rfl); have cb3 := (cell_of_block (i := 3) HQ2.out).trans (show _ = some _ from rfl); have cb4 := (cell_of_block (i := 4) HQ2.out).trans (show _ = some _ from rfl); have zb0 := frozen_of_block (i := 0) HQ2.out; have zb1 := frozen_of_block (i := 1) HQ2.out; have zb2 := frozen_of_block (i := 2) HQ2.out; have zb3 := frozen_of_block (i := 3) HQ2.out; have zb4 := frozen_of_block (i := 4) HQ2.out
    have cc0 := (cell_of_block (i := 0) HQ3.out).trans (show _ = some _ from rfl); have cc1 := (cell_of_block (i := 1) HQ3.out).trans (show _ = some _ from rfl); have cc2 := (cell_of_block (i := 2) HQ3.out).trans (show _ = some _ from rfl); have cc3 := (cell_of_block (i := 3) HQ3.out).trans (show _ = some _ from rfl); have cc4 := (cell_of_block (i := 4) HQ3.out).trans (show _ = some _ from rfl); have zc0 := frozen_of_block (i := 0) HQ3.out; have zc1 := frozen_of_block (i := 1) HQ3.out; have zc2 := frozen_of_block (i := 2) HQ3.out; have zc3 := frozen_of_block (i := 3) HQ3.out; have zc4 := frozen_of_block (i := 4) HQ3.out
    exact ⟨ca0, ca1, ca2, ca3, ca4, cb0, cb1, cb2, cb3, cb4, cc0, cc1, cc2, cc3, cc4⟩⟩
  have hsm : Sm 7 (wi x nm v) := by
    obtain ⟨ks, is, he, hok⟩ := wi_ok HM.out.2 HM.out.1 HT.out nm
    rw [he]; exact hok.sm
  have HOK := Aside0.mk hsm
  clear hsm
  refine start_ (n := 10) (S := fun w' => w'.cell? ⟨w6.heap.size, 0, none⟩ = some (.int .i64 (wi x nm v).f0) ∧ w'.cell? ⟨w6.heap.size, 1, none⟩ = some (.string (wi x nm v).f1) ∧ w'.cell? ⟨w6.heap.size, 2, none⟩ = some (.string (wi x nm v).f2) ∧ w'.cell? ⟨w6.heap.size, 3, none⟩ = some (.slice E3 (wi x nm v).f3.length f3) ∧ w'.cell? ⟨w6.heap.size, 4, none⟩ = some (.slice E4 (wi x nm v).f4.length f4) ∧ w'.cell? ⟨w.heap.size, 0, none⟩ = some (.int .i64 x.f0) ∧ w'.cell? ⟨w.heap.size, 1, none⟩ = some (.string x.f1) ∧ w'.cell? ⟨w.heap.size, 2, none⟩ = some (.string x.f2) ∧ w'.cell? ⟨w.heap.size, 3, none⟩ = some (.slice A3 x.f3.length c3) ∧ w'.cell? ⟨w.heap.size, 4, none⟩ = some (.slice A4 x.f4.length c4) ∧ w'.cell? ⟨(w.heap.size + 1), 0, none⟩ = some (.int .i64 v.f0) ∧ w'.cell? ⟨(w.heap.size + 1), 1, none⟩ = some (.string v.f1) ∧ w'.cell? ⟨(w.heap.size + 1), 2, none⟩ = some (.string v.f2) ∧ w'.cell? ⟨(w.heap.size + 1), 3, none⟩ = some (.slice V3 v.f3.length e3) ∧ w'.cell? ⟨(w.heap.size + 1), 4, none⟩ = some (.slice V4 v.f4.length e4)) (ds := [7]) #[false, false, false, false, false, false, false, false, false, false] (by kernel_rfl) rfl rfl (HS.out _ (Below.refl _ _).drew) (fun hHeld => ?_)
  refine with_tabW (T := setlaw6.T) (B := setlaw6.B) setlaw6.tab setlaw6.bits (fun HT_ HW_ => ?_)
  have HB := Aside0.mk ((Below.refl w7.heap.size w7).drew)
  generalize w7.drew = wc at HB hHeld ⊢
  refine pure_ (i := 0) (N := (some 42)) (v := ?_) (a' := ?_) #[true, false, false, false, false, false, false, false, false, false] rfl rfl (any_of HT_.out (by kernel_rfl)) (fun _ _ _ h => h) (Or.inl ⟨by rfl, ?_⟩) ?_ ?_
  rotate_left
  · intro w'
    go_simp
    with_reducible rfl
  rotate_left
  · simp only [Act.put, List.setIfInBounds_toArray, List.set_cons_zero, List.set_cons_succ, i64_w, i32_w]
    rfl
  refine pure_ (i := 1) (N := (some 43)) (v := ?_) (a' := ?_) #[true, true, false, false, false, false, false, false, false, false] rfl rfl (any_of HT_.out (by kernel_rfl)) (fun _ _ _ h => h) (Or.inl ⟨by rfl, ?_⟩) ?_ ?_
  rotate_left
  · intro w'
    go_simp
    with_reducible rfl
  rotate_left
  · simp only [Act.put, List.setIfInBounds_toArray, List.set_cons_zero, List.set_cons_succ, i64_w, i32_w]
    rfl
  refine pure_ (i := 4) (N := (some 46)) (v := ?_) (a' := ?_) #[true, true, false, false, true, false, false, false, false, false] rfl rfl (any_of HT_.out (by kernel_rfl)) (fun _ _ _ h => h) (Or.inl ⟨by rfl, ?_⟩) ?_ ?_
  rotate_left
  · intro w'
    go_simp
    with_reducible rfl
  rotate_left
  · simp only [Act.put, List.setIfInBounds_toArray, List.set_cons_zero, List.set_cons_succ, i64_w, i32_w]
    rfl
  refine take_ (i := 2) (N := (some 44)) (v := ?_) (a' := ?_) #[true, true, true, false, true, false, false, false, false, false] rfl rfl (take_ofW HT_.out HW_.out (by kernel_rfl)) (fun _ _ _ h => h) (Or.inl ⟨by rfl, ?_⟩) hHeld ?_ ?_
  rotate_left
  · rintro w' ⟨s0, s1, s2, s3, s4, s5, s6, s7, s8, s9, s10, s11, s12, s13, s14⟩
    go_simp
    with_reducible rfl
  rotate_left
  · simp only [Act.put, List.setIfInBounds_toArray, List.set_cons_zero, List.set_cons_succ, i64_w, i32_w]
    rfl
  refine take_ (i := 3) (N := (some 45)) (v := ?_) (a' := ?_) #[true, true, true, true, true, false, false, false, false, false] rfl rfl (take_ofW HT_.out HW_.out (by kernel_rfl)) (fun _ _ _ h => h) (Or.inl ⟨by rfl, ?_⟩) hHeld ?_ ?_
  rotate_left
  · rintro w' ⟨s0, s1, s2, s3, s4, s5, s6, s7, s8, s9, s10, s11, s12, s13, s14⟩
    go_simp
    with_reducible rfl
  rotate_left
  · simp only [Act.put, List.setIfInBounds_toArray, List.set_cons_zero, List.set_cons_succ, i64_w, i32_w]
    rfl
  refine take_ (i := 5) (N := (some 47)) (v := ?_) (a' := ?_) #[true, true, true, true, true, true, false, false, false, false] rfl rfl (take_ofW HT_.out HW_.out (by kernel_rfl)) (fun _ _ _ h => h) (Or.inl ⟨by rfl, ?_⟩) hHeld ?_ ?_
  rotate_left
  · rintro w' ⟨s0, s1, s2, s3, s4, s5, s6, s7, s8, s9, s10, s11, s12, s13, s14⟩
    go_simp
    with_reducible rfl
  rotate_left
  · simp only [Act.put, List.setIfInBounds_toArray, List.set_cons_zero, List.set_cons_succ, i64_w, i32_w]
    rfl
  refine one_ (i := 6) (N := (some 48)) #[true, true, true, true, true, true, true, false, false, false] rfl rfl (one_of HT_.out (by kernel_rfl)) (by decide) (fun K hK => ?_)
  refine goes_ Try.func28 (by kernel_rfl) rfl #[nodeV x A3 c3 A4 c4, .string nm, nodeV v V3 e3 V4 e4] (by rfl) rfl rfl (by simp only [List.map_toArray, List.map_cons, List.map_nil]; rfl) ?_
  have hbw : Below w.heap.size w wc := HV7.out.below.trans (HB.out.mono HV7.out.below.size)
  refine (with_calls x v nm (HM.out.2.1.map (d := 5) HM.out.1).1 (MapOk.of HM.out.2.1 HM.out.1 HM.out.2.2).few wc A3 c3 A4 c4 (k25.K_below hbw HK.out.1) V3 e3 V4 e4 (k25.K_below hbw HK.out.2)).mono ?_
  rintro e w8 ⟨G3, g3, G4, g4, rfl, k8, hb8⟩
  refine ⟨_, rfl, ?_⟩
  have hb8' : Below w7.heap.size w7 w8 := HB.out.trans (hb8.mono HB.out.size)
  refine hK.out _ _ (HS.out _ hb8') (fun hHeld => ?_)
  have HB8 := Aside0.mk (And.intro hb8' k8)
  clear hb8 hb8' k8 hbw
  clear hK K
  refine norm_ (a' := ?_) ?_ ?_
  rotate_left
  · first | (simp only [Act.put, List.setIfInBounds_toArray, List.set_cons_zero, List.set_cons_succ, i64_w, i32_w]; rfl) | rfl
  refine last_ (i := 7) (N := (some 49)) #[true, true, true, true, true, true, true, true, false, false] rfl rfl (one_of HT_.out (by kernel_rfl)) (by decide) (fun K hK => ?_)
  refine goes_ Try.func19 (by kernel_rfl) rfl #[nodeV (wi x nm v) E3 f3 E4 f4, nodeV (wi x nm v) G3 g3 G4 g4, .bool false] (by rfl) rfl rfl (by simp only [List.map_toArray, List.map_cons, List.map_nil]; rfl) ?_
  refine (sameS_calls 7 (wi x nm v) HOK.out false w8 E3 f3 E4 f4 G3 g3 G4 g4 (k25.K_below HB8.out.1 H7.out.2) HB8.out.2).mono ?_
  rintro e w9 ⟨rfl, hb9⟩
  refine ⟨_, rfl, ?_⟩
  refine hK.out _ _ ?_
  have HB9 := Aside0.mk (HB8.out.1.trans (hb9.mono HB8.out.1.size))
  clear hb9
  clear hK K
  refine norm_ (a' := ?_) ?_ ?_
  rotate_left
  · first | (simp only [Act.put, List.setIfInBounds_toArray, List.set_cons_zero, List.set_cons_succ, i64_w, i32_w]; rfl) | rfl
  refine pure_ (i := 8) (N := (some 50)) (v := ?_) (a' := ?_) #[true, true, true, true, true, true, true, true, true, false] rfl rfl (any_of HT_.out (by kernel_rfl)) (fun _ _ _ h => h) (Or.inl ⟨by rfl, ?_⟩) ?_ ?_
  rotate_left
  · intro w'
    go_simp
    with_reducible rfl
  rotate_left
  · simp only [Act.put, List.setIfInBounds_toArray, List.set_cons_zero, List.set_cons_succ, i64_w, i32_w]
    rfl
  refine pure_ (i := 9) (N := (some 6)) (v := ?_) (a' := ?_) #[true, true, true, true, true, true, true, true, true, true] rfl rfl (any_of HT_.out (by kernel_rfl)) (fun _ _ _ h => h) (Or.inl ⟨by rfl, ?_⟩) ?_ ?_
  rotate_left
  · intro w'
    go_simp
    with_reducible rfl
  rotate_left
  · simp only [Act.put, List.setIfInBounds_toArray, List.set_cons_zero, List.set_cons_succ, i64_w, i32_w]
    rfl
  refine done_ (done_of HT_.out (by kernel_rfl)) ?_
  have HFIN := Aside0.mk (HV7.out.below.trans (HB9.out.mono HV7.out.below.size))
  go_wp2
  go_ret
  exact ⟨rfl, HFIN.out⟩
theorem set_law (w : World) (x : S25) (hz : Sz x) (A3 : Option Addr) (c3 : Nat) (A4 : Option Addr) (c4 : Nat) (hK : nodeK w x A3 c3 A4 c4) (nm : ByteArray) (hnm : nm.size ≤ 9223372036854775807) (v : S25) (hzv : Sz v) (V3 : Option Addr) (e3 : Nat) (V4 : Option Addr) (e4 : Nat) (hV : nodeK w v V3 e3 V4 e4) :
    Calls Try.prog 7 #[nodeV x A3 c3 A4 c4, .string nm, nodeV v V3 e3 V4 e4] w fun e w' => e = .returned (.bool true) ∧ Below w.heap.size w w' := setlaw_calls x hz nm hnm v hzv w A3 c3 A4 c4 hK V3 e3 V4 e4 hV
end Go.Proofs.Ytigpgkfgkjabmaa
