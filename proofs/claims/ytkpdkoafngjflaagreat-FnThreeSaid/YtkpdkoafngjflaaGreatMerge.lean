import Derived.Test.YtkpdkoafngjflaaGreatWkEnv
import Derived.Test.YtkpdkoafngjflaaGreatCovers
import Derived.Test.YtkpdkoafngjflaaGreatWkMap
import Derived.Test.YtkpdkoafngjflaaGreatVw
import Derived.Test.YtkpdkoafngjflaaGreatSh
namespace Go.Proofs.YtkpdkoafngjflaaGreat
open Go.RowKit Go.Proofs.YtkpdkoafngjflaaGreatW.PrintWords Go.Proofs.YtkpdkoafngjflaaGreatW.PrintLast Go.Proofs.YtkpdkoafngjflaaGreat.PFnFields
set_option linter.unusedVariables false
set_option linter.unusedSimpArgs false
set_option maxRecDepth 100000 in
theorem wscalar_calls {d : Nat} (w : World) (s c : Nat) (vis P : Value) (n m : Nat) (v0 v1 v2 : Value) (FD FO FU : Nat → Prop) (oD oO oU : Option (Nat × S25)) (h : Pre (d + 1) w s c vis P n m v0 v1 v2 FD FO FU oD oO oU) (h1 : ∀ x, oD = some x ∨ oO = some x ∨ oU = some x → x.2.f0 = 1) :
  Calls Tryz.prog 46 #[.agg (wk vis s c P)] w (WalkPost (d + 1) w s P n v0 v2 FD FU oD oO oU) := by
 obtain ⟨T, fv, rfl, hv⟩ := h.vis.more (m' := 20) (by have := h.few; omega)
 have hm : ∀ n wa, (method (n + 20) T fv "VisitScalar").run Tryz.prog wa = .ok (154, .agg #[]) wa := fun n wa => (hv n wa).2.1
 have HB : Aside0 (∀ o : Obj, Below w.heap.size w (w.alloc o)) := ⟨fun o => (Below.refl _ _).alloc (Nat.le_refl _) o⟩
 have H := Aside0.mk (And.intro h h1)
 clear hv h h1
 go_enter Tryz.func46, Tryz.ntmps46
 go_wp2_with fail
 obtain ⟨w1, e1⟩ : ∃ w1, w1 = w.alloc (.cells (wk (.iface T fv) s c P) 63) := ⟨_, rfl⟩
 try rw [← e1]
 have hb1 : Below w.heap.size w w1 := by rw [e1]; exact HB.out _
 have H1 := Aside0.mk (H.out.1.below hb1)
 have HB1 := Aside0.mk hb1
 clear hb1 e1
 obtain ⟨p, hc, hl⟩ := flat_left H1.out (fun x e => by have := H.out.2 x e; omega) (flat_scalar H1.out H.out.2)
 have HL := Aside0.mk hl
 clear hl
 refine (hc).mono ?_
 rintro e w2 ⟨rfl, hb⟩
 have HF := Aside0.mk ((HL.out w2 hb).back HB1.out)
 clear hb hc
 go_wp2_with fail
 exact bodyPost_ret (v := .tuple #[.pointer (p.map fun r => ⟨r, 0, none⟩), .nilIface]) (by simp [results, Tryz.results46, go_sem]) rfl ⟨p, rfl, HF.out⟩
set_option maxRecDepth 100000 in
theorem wlist_calls {d : Nat} (w : World) (s c : Nat) (vis P : Value) (n m : Nat) (v0 v1 v2 : Value) (FD FO FU : Nat → Prop) (oD oO oU : Option (Nat × S25)) (h : Pre (d + 1) w s c vis P n m v0 v1 v2 FD FO FU oD oO oU) (h1 : ∀ x, oD = some x ∨ oO = some x ∨ oU = some x → x.2.f0 = 3) :
  Calls Tryz.prog 45 #[.agg (wk vis s c P)] w (WalkPost (d + 1) w s P n v0 v2 FD FU oD oO oU) := by
 obtain ⟨T, fv, rfl, hv⟩ := h.vis.more (m' := 20) (by have := h.few; omega)
 have hm : ∀ n wa, (method (n + 20) T fv "VisitList").run Tryz.prog wa = .ok (152, .agg #[]) wa := fun n wa => (hv n wa).2.2
 have HB : Aside0 (∀ o : Obj, Below w.heap.size w (w.alloc o)) := ⟨fun o => (Below.refl _ _).alloc (Nat.le_refl _) o⟩
 have H := Aside0.mk (And.intro h h1)
 clear hv h h1
 go_enter Tryz.func45, Tryz.ntmps45
 go_wp2_with fail
 obtain ⟨w1, e1⟩ : ∃ w1, w1 = w.alloc (.cells (wk (.iface T fv) s c P) 63) := ⟨_, rfl⟩
 try rw [← e1]
 have hb1 : Below w.heap.size w w1 := by rw [e1]; exact HB.out _
 have H1 := Aside0.mk (H.out.1.below hb1)
 have HB1 := Aside0.mk hb1
 clear hb1 e1
 obtain ⟨p, hc, hl⟩ := flat_left H1.out (fun x e => by have := H.out.2 x e; omega) (flat_later H1.out)
 have HL := Aside0.mk hl
 clear hl
 refine (vlist_calls w1 s c _ hc).mono ?_
 rintro e w2 ⟨rfl, hb⟩
 have HF := Aside0.mk ((HL.out w2 hb).back HB1.out)
 clear hb hc
 go_wp2_with fail
 exact bodyPost_ret (v := .tuple #[.pointer (p.map fun r => ⟨r, 0, none⟩), .nilIface]) (by simp [results, Tryz.results45, go_sem]) rfl ⟨p, rfl, HF.out⟩
end Go.Proofs.YtkpdkoafngjflaaGreat
namespace Go.Proofs.YtkpdkoafngjflaaGreat
open Go.RowKit Go.Proofs.YtkpdkoafngjflaaGreatW.PrintWords
set_option linter.unusedVariables false
def VR (w : World) (k : Int) (v : Value) : Prop := v = .pointer none ∨ ∃ r b t x A n c, v = ptr r ∧ RN w r b ∧ NB w b k t x (.slice A n c) ∧ Live k t ∧ ((k == 4) = true → n % 2 = 0) ∧ n ≤ 9223372036854775807
set_option maxHeartbeats 800000 in
theorem valid3_calls (w : World) (s c : Nat) (k : Int) (v0 v1 v2 : Value) (h : Src w s v0 v1 v2) (h0 : VR w k v0) (h1 : VR w k v1) (h2 : VR w k v2) :
  Calls Tryz.prog 41 #[.int .u32 k, srcV s c] w fun e w' => e = .returned .nilIface ∧ w = w' := by
 have HV := Aside0.mk (And.intro h0 (And.intro h1 h2))
 have c0 := h.c0
 have c1 := h.c1
 have c2 := h.c2
 clear h h0 h1 h2
 go_enter Tryz.func41, Tryz.ntmps41
 go_wp2_with fail
 obtain ⟨w1, hw1⟩ : ∃ w1, w1 = w := ⟨_, rfl⟩
 go_loopg [9] 3 (fun k i wr => ∃ j : Nat, i = .int .i64 j ∧ Aside0 (j ≤ 3 ∧ k + j = 3) ∧ Aside0 (wr = w))
 case atStart => exact ⟨0, rfl, ⟨by omega⟩, ⟨rfl⟩⟩
 case round =>
  obtain ⟨j, rfl, HJ, HW⟩ := hrel
  obtain rfl := HW.out
  have hj : j = 0 ∨ j = 1 ∨ j = 2 ∨ j = 3 := by have := HJ.out; omega
  rcases hj with rfl | rfl | rfl | rfl
  ·rcases HV.out.1 with e | ⟨r, b, t, x, A, m, d, e, hr, hn, hl, he, hm⟩
   ·subst e
    go_wp2_with fail
    refine (missing_nil _).mono ?_
    rintro e w' ⟨rfl, rfl⟩
    go_wp2_with fail
    go_roundg (gk - 1)
    case measure => have := HJ.out; omega
    case rel => exact ⟨1, by go_num, ⟨by have := HJ.out; omega⟩, ⟨rfl⟩⟩
   ·subst e
    have HR := Aside0.mk (And.intro hr (And.intro hn (And.intro hl (And.intro he hm))))
    clear hr hn hl he hm
    go_wp2_with fail
    refine (missing_calls _ r b HR.out.1 k t x _ HR.out.2.1 HR.out.2.2.1).mono ?_
    rintro e w' ⟨rfl, rfl⟩
    go_wp2_with fail
    refine (valid_calls _ r b HR.out.1 k t x A m d HR.out.2.1 HR.out.2.2.1 HR.out.2.2.2.1 HR.out.2.2.2.2).mono ?_
    rintro e w' ⟨rfl, rfl⟩
    go_wp2_with fail
    go_roundg (gk - 1)
    case measure => have := HJ.out; omega
    case rel => exact ⟨1, by go_num, ⟨by have := HJ.out; omega⟩, ⟨rfl⟩⟩
  ·rcases HV.out.2.1 with e | ⟨r, b, t, x, A, m, d, e, hr, hn, hl, he, hm⟩
   ·subst e
    go_wp2_with fail
    refine (missing_nil _).mono ?_
    rintro e w' ⟨rfl, rfl⟩
    go_wp2_with fail
    go_roundg (gk - 1)
    case measure => have := HJ.out; omega
    case rel => exact ⟨2, by go_num, ⟨by have := HJ.out; omega⟩, ⟨rfl⟩⟩
   ·subst e
    have HR := Aside0.mk (And.intro hr (And.intro hn (And.intro hl (And.intro he hm))))
    clear hr hn hl he hm
    go_wp2_with fail
    refine (missing_calls _ r b HR.out.1 k t x _ HR.out.2.1 HR.out.2.2.1).mono ?_
    rintro e w' ⟨rfl, rfl⟩
    go_wp2_with fail
    refine (valid_calls _ r b HR.out.1 k t x A m d HR.out.2.1 HR.out.2.2.1 HR.out.2.2.2.1 HR.out.2.2.2.2).mono ?_
    rintro e w' ⟨rfl, rfl⟩
    go_wp2_with fail
    go_roundg (gk - 1)
    case measure => have := HJ.out; omega
    case rel => exact ⟨2, by go_num, ⟨by have := HJ.out; omega⟩, ⟨rfl⟩⟩
  ·rcases HV.out.2.2 with e | ⟨r, b, t, x, A, m, d, e, hr, hn, hl, he, hm⟩
   ·subst e
    go_wp2_with fail
    refine (missing_nil _).mono ?_
    rintro e w' ⟨rfl, rfl⟩
    go_wp2_with fail
    go_roundg (gk - 1)
    case measure => have := HJ.out; omega
    case rel => exact ⟨3, by go_num, ⟨by have := HJ.out; omega⟩, ⟨rfl⟩⟩
   ·subst e
    have HR := Aside0.mk (And.intro hr (And.intro hn (And.intro hl (And.intro he hm))))
    clear hr hn hl he hm
    go_wp2_with fail
    refine (missing_calls _ r b HR.out.1 k t x _ HR.out.2.1 HR.out.2.2.1).mono ?_
    rintro e w' ⟨rfl, rfl⟩
    go_wp2_with fail
    refine (valid_calls _ r b HR.out.1 k t x A m d HR.out.2.1 HR.out.2.2.1 HR.out.2.2.2.1 HR.out.2.2.2.2).mono ?_
    rintro e w' ⟨rfl, rfl⟩
    go_wp2_with fail
    go_roundg (gk - 1)
    case measure => have := HJ.out; omega
    case rel => exact ⟨3, by go_num, ⟨by have := HJ.out; omega⟩, ⟨rfl⟩⟩
  ·go_wp2
   go_ret
   exact ⟨rfl, rfl⟩
end Go.Proofs.YtkpdkoafngjflaaGreat
namespace Go.Proofs.YtkpdkoafngjflaaGreat
open Go.RowKit Go.Proofs.YtkpdkoafngjflaaGreatW.PrintWords Go.Proofs.YtkpdkoafngjflaaGreatW.PrintLast Go.Proofs.YtkpdkoafngjflaaGreat.PFnFields
set_option linter.unusedVariables false
set_option linter.unusedSimpArgs false
theorem Cs.kinds {d : Nat} {oD oO oU : Option S25} (h : Cs (d + 1) oD oO oU) (hs : oD.isSome = true ∨ oU.isSome = true) : ∃ k : Int, (k = 1 ∨ k = 2 ∨ k = 3) ∧ ∀ x, oD = some x ∨ oO = some x ∨ oU = some x → x.f0 = k := by
 have hw : ∀ {x : S25}, Wf (d + 1) x → x.f0 = 1 ∨ x.f0 = 2 ∨ x.f0 = 3 := fun hx => by
  rcases hx with ⟨q, _⟩ | ⟨_, _, _, _, ⟨q, _⟩ | ⟨q, _⟩⟩
  ·exact .inl q
  ·exact .inr (.inl q)
  ·exact .inr (.inr q)
 rcases oD with _ | D <;> rcases oO with _ | O <;> rcases oU with _ | U
 ·simp at hs
 ·exact ⟨U.f0, hw h, fun x q => by rcases q with q | q | q <;> cases q; rfl⟩
 ·exact h.elim
 ·exact h.elim
 ·exact ⟨D.f0, hw h, fun x q => by rcases q with q | q | q <;> cases q; rfl⟩
 ·exact h.elim
 ·exact ⟨1, .inl rfl, fun x q => by
   rcases q with q | q | q
   ·cases q; exact h.2.2.1
   ·cases q; exact h.2.2.2
   ·cases q⟩
 ·obtain ⟨wd, wo, wu, e1, e2, _⟩ := h
  exact ⟨D.f0, hw wd, fun x q => by
   rcases q with q | q | q
   ·cases q; rfl
   ·cases q; exact e1.symm
   ·cases q; exact e2.symm⟩
def ykind (k : Int) : Int := if k = 1 then 8 else if k = 2 then 4 else 2
theorem toY_kind {d : Nat} {x : S25} {k : Int} (hk : k = 1 ∨ k = 2 ∨ k = 3) (h : x.f0 = k) : (toY (d + 1) x).kind = ykind k := by
 rcases hk with rfl | rfl | rfl
 ·rw [toY_one h]; rfl
 ·rw [toY_two h]; rfl
 ·rw [toY_three h]; rfl
theorem SP.vr {d : Nat} {w : World} {v : Value} {F : Nat → Prop} {o : Option (Nat × S25)} {k : Int} (h : SP (d + 1) w v F o) (hk : k = 1 ∨ k = 2 ∨ k = 3) (hf : ∀ x, o = some x → Fit (d + 1) x.2 ∧ x.2.f0 = k) : VR w (ykind k) v := by
 cases o with
 | none => exact .inl h
 |some x =>
  obtain ⟨r, e, hr, hy⟩ := h
  obtain ⟨hfit, hx⟩ := hf x rfl
  obtain ⟨_, cv, bs, hn, ho, _, hl⟩ := hy.open_
  obtain ⟨A, c, rfl⟩ := own_slice ho
  rw [toY_kind hk hx] at hn
  have hll := hl.length
  have hlive := hfit.1.live
  rw [toY_kind hk hx] at hlive
  have hlen := hfit.len
  refine .inr ⟨r, x.1, _, _, A, bs.length, c, e, hr, hn, hlive, fun h4 => ?_, ?_⟩
  ·rcases hk with rfl | rfl | rfl
   ·exact absurd h4 (by decide)
   ·rw [toY_two hx] at hll
    have hp := hfit.1.mp hx
    have e2 := kv_length x.2.f3 (x.2.f4.map (toY d)) (by simpa using hp.len)
    have : (Y.content (.mk 4 ⟨#[]⟩ ⟨#[]⟩ (kv x.2.f3 (x.2.f4.map (toY d))))) = kv x.2.f3 (x.2.f4.map (toY d)) := rfl
    rw [this, e2] at hll
    omega
   ·exact absurd h4 (by decide)
  ·rcases hk with rfl | rfl | rfl
   ·rw [toY_one hx] at hll
    have : bs.length = 0 := hll
    omega
   ·rw [toY_two hx] at hll
    have hp := hfit.1.mp hx
    have e2 := kv_length x.2.f3 (x.2.f4.map (toY d)) (by simpa using hp.len)
    have : (Y.content (.mk 4 ⟨#[]⟩ ⟨#[]⟩ (kv x.2.f3 (x.2.f4.map (toY d))))) = kv x.2.f3 (x.2.f4.map (toY d)) := rfl
    rw [this, e2] at hll
    omega
   ·rw [toY_three hx] at hll
    have : bs.length = (x.2.f4.map (toY d)).length := hll
    rw [List.length_map] at this
    omega
theorem kind_any {d : Nat} {w : World} {s c : Nat} {vis P : Value} {n m : Nat} {v0 v1 v2 : Value} {FD FO FU : Nat → Prop} {oD oO oU : Option (Nat × S25)} (h : Pre (d + 1) w s c vis P n m v0 v1 v2 FD FO FU oD oO oU) {k : Int} (hk : k = 1 ∨ k = 2 ∨ k = 3) (hx : ∀ x, oD = some x ∨ oO = some x ∨ oU = some x → x.2.f0 = k) :
  Calls Tryz.prog 40 #[.agg (wk vis s c P)] w fun e w' => e = .returned (.int .u32 (ykind k)) ∧ Below w.heap.size w w' := by
 have hsm := h.some_
 have hcs := h.cs
 have hd0 := h.d0
 have hd2 := h.d2
 have hsrc := h.src
 rcases oD with _ | D
 ·rcases oU with _ | U
  ·simp at hsm
  ·have e0 : v0 = .pointer none := hd0
   have e1 : v1 = .pointer none := by
    rcases oO with _ | O
    ·exact h.d1
    ·exact hcs.elim
   obtain ⟨r, e2, hr, hy⟩ := hd2
   subst e0 e1 e2
   obtain ⟨cv, hn⟩ := node_open hy
   have hl := (h.fit _ (.inr (.inr rfl))).1.live
   rw [toY_kind hk (hx _ (.inr (.inr rfl)))] at hn hl
   exact kind_new w vis P s c false true 0 r U.1 _ _ _ cv hsrc hr hn hl
 ·obtain ⟨r, e2, hr, hy⟩ := hd0
  obtain ⟨cv, hn⟩ := node_open hy
  have hl := (h.fit _ (.inl rfl)).1.live
  rw [toY_kind hk (hx _ (.inl rfl))] at hn hl
  exact kind_calls w vis P s c false true 0 v0 v1 v2 r D.1 _ _ _ cv hsrc e2 hr hn hl
theorem VR.below {w w' : World} {k : Int} {v : Value} (h : VR w k v) (hb : Below w.heap.size w w') : VR w' k v := by
 rcases h with h | ⟨r, b, t, x, A, n, c, e, hr, hn, h⟩
 ·exact .inl h
 ·exact .inr ⟨r, b, t, x, A, n, c, e, hr.below hb, hn.below hb, h⟩
theorem Pre.lt_of {d : Nat} {w : World} {s c : Nat} {vis P : Value} {n m : Nat} {v0 v1 v2 : Value} {FD FO FU : Nat → Prop} {oD oO oU : Option (Nat × S25)} (h : Pre (d + 1) w s c vis P n m v0 v1 v2 FD FO FU oD oO oU) (h2 : ∀ x, oD = some x ∨ oO = some x ∨ oU = some x → x.2.f0 = 2) (IH : WalkOK d) :
  Calls Tryz.prog 42 #[.agg (wk vis s c P)] w (WalkPost (d + 1) w s P n v0 v2 FD FU oD oO oU) :=
 (walkmap_in IH w s c vis P n m v0 v1 v2 _ _ _ oD oO oU h.lt (fun k q => by rcases q with q | q | q <;> exact q.2) h2).mono (fun e w' hp => WalkOK.of_lt (FO := FO) (v1 := v1) (m := m) (vis := vis) (c := c) hp)
set_option maxRecDepth 100000 in
set_option maxHeartbeats 3200000 in
theorem walk_calls (d : Nat) : WalkOK d := by
 induction d with
 |zero =>
  intro w s c vis P n m v0 v1 v2 FD FO FU oD oO oU h
  have hs := h.some_
  have hc := h.cs
  rcases oD with _ | D
  ·rcases oU with _ | U
   ·simp at hs
   ·exact (hc.wfU (U := U.2)).elim
  ·exact (hc.wfD (D := D.2)).elim
 |succ d IH =>
  intro w s c vis P n m v0 v1 v2 FD FO FU oD oO oU h
  obtain ⟨k, hk, hkx0⟩ := h.cs.kinds (by rcases h.some_ with q | q; exact .inl (by rw [Option.isSome_map]; exact q); exact .inr (by rw [Option.isSome_map]; exact q))
  have hkx : ∀ x, oD = some x ∨ oO = some x ∨ oU = some x → x.2.f0 = k := fun x q => hkx0 x.2 (by
   rcases q with q | q | q
   ·exact .inl (by rw [q]; rfl)
   ·exact .inr (.inl (by rw [q]; rfl))
   ·exact .inr (.inr (by rw [q]; rfl)))
  have HB : Aside0 (∀ o : Obj, Below w.heap.size w (w.alloc o)) := ⟨fun o => (Below.refl _ _).alloc (Nat.le_refl _) o⟩
  have H := Aside0.mk h
  clear h hkx0
  go_enter Tryz.func33, Tryz.ntmps33
  go_wp2_with fail
  obtain ⟨w1, e1⟩ : ∃ w1, w1 = w.alloc (.cells (wk vis s c P) 63) := ⟨_, rfl⟩
  try rw [← e1]
  have hb1 : Below w.heap.size w w1 := by rw [e1]; exact HB.out _
  have hl1 : w1.heap[w.heap.size]? = some (.cells (wk vis s c P) 63 (0, 0)) := by rw [e1]; exact heap_at _ rfl
  clear e1
  refine (schema_calls w1 vis (srcV s c) P false true 0 ⟨s, c, rfl⟩).mono ?_
  rintro e w2 ⟨rfl, hb2⟩
  have hl2 := (hb2.block _ (lt_of_block hl1)).trans hl1
  have HB2 := Aside0.mk (hb1.trans (hb2.mono hb1.size))
  have H2 := Aside0.mk (H.out.below HB2.out)
  have HL2 := Aside0.mk hl2
  have HID : Aside0 (w2.setCell ⟨w.heap.size, 1, none⟩ (.pointer none) = w2) := ⟨setCell_id hl2 rfl⟩
  clear hb1 hl1 hb2 hl2
  have l0 := (cell_of_block (i := 0) (HL2.out)).trans (show _ = some _ from rfl); have l1 := (cell_of_block (i := 1) (HL2.out)).trans (show _ = some _ from rfl); have l2 := (cell_of_block (i := 2) (HL2.out)).trans (show _ = some _ from rfl); have l3 := (cell_of_block (i := 3) (HL2.out)).trans (show _ = some _ from rfl); have l4 := (cell_of_block (i := 4) (HL2.out)).trans (show _ = some _ from rfl); have l5 := (cell_of_block (i := 5) (HL2.out)).trans (show _ = some _ from rfl); have l6 := (cell_of_block (i := 6) (HL2.out)).trans (show _ = some _ from rfl)
  have z1 : w2.frozen? ⟨w.heap.size, 1, none⟩ = false := frozen_of_block HL2.out
  have hk' := hk
  rcases hk' with rfl | rfl | rfl
  ·have HKD := Aside0.mk (kind_any H2.out hk hkx)
   have HVR := Aside0.mk (And.intro (H2.out.d0.vr hk (fun x e => ⟨H2.out.fit x (.inl e), hkx x (.inl e)⟩)) (And.intro (H2.out.d1.vr hk (fun x e => ⟨H2.out.fit x (.inr (.inl e)), hkx x (.inr (.inl e))⟩)) (H2.out.d2.vr hk (fun x e => ⟨H2.out.fit x (.inr (.inr e)), hkx x (.inr (.inr e))⟩))))
   have HKX := Aside0.mk hkx
   clear hk hkx
   go_wp2_with fail
   rw [HID.out]
   refine HKD.out.mono ?_
   rintro e w3 ⟨rfl, hb3⟩
   have HB3 := Aside0.mk (And.intro hb3 ((hb3.block _ (lt_of_block HL2.out)).trans HL2.out))
   have H3 := Aside0.mk (H2.out.below hb3)
   have HV3 := Aside0.mk (And.intro (HVR.out.1.below hb3) (And.intro (HVR.out.2.1.below hb3) (HVR.out.2.2.below hb3)))
   clear hb3 l0 l1 l2 l3 l4 l5 l6 z1
   have l0 := (cell_of_block (i := 0) (HB3.out.2)).trans (show _ = some _ from rfl); have l1 := (cell_of_block (i := 1) (HB3.out.2)).trans (show _ = some _ from rfl); have l2 := (cell_of_block (i := 2) (HB3.out.2)).trans (show _ = some _ from rfl); have l3 := (cell_of_block (i := 3) (HB3.out.2)).trans (show _ = some _ from rfl); have l4 := (cell_of_block (i := 4) (HB3.out.2)).trans (show _ = some _ from rfl); have l5 := (cell_of_block (i := 5) (HB3.out.2)).trans (show _ = some _ from rfl); have l6 := (cell_of_block (i := 6) (HB3.out.2)).trans (show _ = some _ from rfl)
   rw [show ykind 1 = 8 from rfl]
   go_wp2_with (first | (go_at_call 41; refine (valid3_calls w3 s c 8 v0 v1 v2 H3.out.src HV3.out.1 HV3.out.2.1 HV3.out.2.2).mono ?_; rintro e w' ⟨rfl, rfl⟩) | (go_at_call 46; fail))
   refine (wscalar_calls w3 s c vis P n m v0 v1 v2 FD FO FU oD oO oU H3.out HKX.out).mono ?_
   rintro e w4 ⟨p, rfl, hl⟩
   have HL4 := Aside0.mk ((hl.back HB3.out.1).back HB2.out)
   clear hl
   go_wp2_with fail
   exact bodyPost_ret (v := .tuple #[.pointer (p.map fun r => ⟨r, 0, none⟩), .nilIface]) (by simp [results, Tryz.results33, go_sem]) rfl ⟨p, rfl, HL4.out⟩
  ·have HKD := Aside0.mk (kind_any H2.out hk hkx)
   have HVR := Aside0.mk (And.intro (H2.out.d0.vr hk (fun x e => ⟨H2.out.fit x (.inl e), hkx x (.inl e)⟩)) (And.intro (H2.out.d1.vr hk (fun x e => ⟨H2.out.fit x (.inr (.inl e)), hkx x (.inr (.inl e))⟩)) (H2.out.d2.vr hk (fun x e => ⟨H2.out.fit x (.inr (.inr e)), hkx x (.inr (.inr e))⟩))))
   have HKX := Aside0.mk hkx
   clear hk hkx
   go_wp2_with fail
   rw [HID.out]
   refine HKD.out.mono ?_
   rintro e w3 ⟨rfl, hb3⟩
   have HB3 := Aside0.mk (And.intro hb3 ((hb3.block _ (lt_of_block HL2.out)).trans HL2.out))
   have H3 := Aside0.mk (H2.out.below hb3)
   have HV3 := Aside0.mk (And.intro (HVR.out.1.below hb3) (And.intro (HVR.out.2.1.below hb3) (HVR.out.2.2.below hb3)))
   clear hb3 l0 l1 l2 l3 l4 l5 l6 z1
   have l0 := (cell_of_block (i := 0) (HB3.out.2)).trans (show _ = some _ from rfl); have l1 := (cell_of_block (i := 1) (HB3.out.2)).trans (show _ = some _ from rfl); have l2 := (cell_of_block (i := 2) (HB3.out.2)).trans (show _ = some _ from rfl); have l3 := (cell_of_block (i := 3) (HB3.out.2)).trans (show _ = some _ from rfl); have l4 := (cell_of_block (i := 4) (HB3.out.2)).trans (show _ = some _ from rfl); have l5 := (cell_of_block (i := 5) (HB3.out.2)).trans (show _ = some _ from rfl); have l6 := (cell_of_block (i := 6) (HB3.out.2)).trans (show _ = some _ from rfl)
   rw [show ykind 2 = 4 from rfl]
   go_wp2_with (first | (go_at_call 41; refine (valid3_calls w3 s c 4 v0 v1 v2 H3.out.src HV3.out.1 HV3.out.2.1 HV3.out.2.2).mono ?_; rintro e w' ⟨rfl, rfl⟩) | (go_at_call 42; fail))
   refine (Pre.lt_of H3.out HKX.out IH).mono ?_
   rintro e w4 ⟨p, rfl, hl⟩
   have HL4 := Aside0.mk ((hl.back HB3.out.1).back HB2.out)
   clear hl
   go_wp2_with fail
   exact bodyPost_ret (v := .tuple #[.pointer (p.map fun r => ⟨r, 0, none⟩), .nilIface]) (by simp [results, Tryz.results33, go_sem]) rfl ⟨p, rfl, HL4.out⟩
  ·have HKD := Aside0.mk (kind_any H2.out hk hkx)
   have HVR := Aside0.mk (And.intro (H2.out.d0.vr hk (fun x e => ⟨H2.out.fit x (.inl e), hkx x (.inl e)⟩)) (And.intro (H2.out.d1.vr hk (fun x e => ⟨H2.out.fit x (.inr (.inl e)), hkx x (.inr (.inl e))⟩)) (H2.out.d2.vr hk (fun x e => ⟨H2.out.fit x (.inr (.inr e)), hkx x (.inr (.inr e))⟩))))
   have HKX := Aside0.mk hkx
   clear hk hkx
   go_wp2_with fail
   rw [HID.out]
   refine HKD.out.mono ?_
   rintro e w3 ⟨rfl, hb3⟩
   have HB3 := Aside0.mk (And.intro hb3 ((hb3.block _ (lt_of_block HL2.out)).trans HL2.out))
   have H3 := Aside0.mk (H2.out.below hb3)
   have HV3 := Aside0.mk (And.intro (HVR.out.1.below hb3) (And.intro (HVR.out.2.1.below hb3) (HVR.out.2.2.below hb3)))
   clear hb3 l0 l1 l2 l3 l4 l5 l6 z1
   have l0 := (cell_of_block (i := 0) (HB3.out.2)).trans (show _ = some _ from rfl); have l1 := (cell_of_block (i := 1) (HB3.out.2)).trans (show _ = some _ from rfl); have l2 := (cell_of_block (i := 2) (HB3.out.2)).trans (show _ = some _ from rfl); have l3 := (cell_of_block (i := 3) (HB3.out.2)).trans (show _ = some _ from rfl); have l4 := (cell_of_block (i := 4) (HB3.out.2)).trans (show _ = some _ from rfl); have l5 := (cell_of_block (i := 5) (HB3.out.2)).trans (show _ = some _ from rfl); have l6 := (cell_of_block (i := 6) (HB3.out.2)).trans (show _ = some _ from rfl)
   rw [show ykind 3 = 2 from rfl]
   go_wp2_with (first | (go_at_call 41; refine (valid3_calls w3 s c 2 v0 v1 v2 H3.out.src HV3.out.1 HV3.out.2.1 HV3.out.2.2).mono ?_; rintro e w' ⟨rfl, rfl⟩) | (go_at_call 43; refine (assoc_calls w3 s c).mono ?_; rintro e w' ⟨rfl, rfl⟩) | (go_at_call 45; fail))
   refine (wlist_calls w3 s c vis P n m v0 v1 v2 FD FO FU oD oO oU H3.out HKX.out).mono ?_
   rintro e w4 ⟨p, rfl, hl⟩
   have HL4 := Aside0.mk ((hl.back HB3.out.1).back HB2.out)
   clear hl
   go_wp2_with fail
   exact bodyPost_ret (v := .tuple #[.pointer (p.map fun r => ⟨r, 0, none⟩), .nilIface]) (by simp [results, Tryz.results33, go_sem]) rfl ⟨p, rfl, HL4.out⟩
theorem Lq.wf : ∀ {d : Nat} {a b : S25}, Lq d a b → Wf d b → Wf d a
 | 0, _, _, h, _ => h.elim
 |d + 1, a, b, ⟨h0, h1, h2, h3, h4, hm, hl⟩, hb => by
  have hbb := hb
  rcases hb with ⟨k1, b3, b4, sb⟩ | ⟨bt, bg, bne, bi, ⟨k2, bl, bk, bn⟩ | ⟨k3, b3⟩⟩
  ·exact .inl ⟨by rw [h0]; exact k1, List.eq_nil_of_length_eq_zero (by rw [h3, b3]; rfl), List.eq_nil_of_length_eq_zero (by rw [h4, b4]; rfl), by rw [h1, h2]; exact sb⟩
  ·obtain ⟨pa, pb, hf⟩ := hm (by rw [h0]; exact k2)
   refine .inr ⟨by rw [h1]; exact bt, by rw [h2]; exact bg, fun e => bne (List.eq_nil_of_length_eq_zero (by rw [← h4, e]; rfl)), fun y hy => ?_, .inl ⟨by rw [h0]; exact k2, pa.len, fun k hk => ?_, pa.nodup⟩⟩
   ·obtain ⟨i, hi, rfl⟩ := List.getElem_of_mem hy
    have hi3 : i < a.f3.length := by rw [pa.len]; exact hi
    obtain ⟨z, hz, hq⟩ := hf _ _ (pa.at_ i hi3)
    exact hq.wf (bi z (pb.mem hz).2)
   ·obtain ⟨y, hy⟩ := pa.some_ hk
    obtain ⟨z, hz, _⟩ := hf k y hy
    exact bk k (pb.mem hz).1
  ·have n2 : a.f0 ≠ 2 := by rw [h0]; omega
   refine .inr ⟨by rw [h1]; exact bt, by rw [h2]; exact bg, fun e => bne (List.eq_nil_of_length_eq_zero (by rw [← h4, e]; rfl)), fun y hy => ?_, .inr ⟨by rw [h0]; exact k3, List.eq_nil_of_length_eq_zero (by rw [h3, b3]; rfl)⟩⟩
   obtain ⟨i, hi, rfl⟩ := List.getElem_of_mem hy
   exact (hl n2 i hi (by rw [← h4]; exact hi)).wf (bi _ (List.getElem_mem _))
theorem Mp.sum {x : S25} (h : Mp x) (f : S25 → Nat) : (x.f4.map f).sum = (x.f3.map fun k => (lk x k).elim 0 f).sum := by
 have e : x.f4.map f = x.f3.map fun k => (lk x k).elim 0 f := by
  refine List.ext_getElem (by simp [h.len]) fun i h1 h2 => ?_
  simp only [List.length_map] at h1 h2
  simp only [List.getElem_map, h.at_ i h2, Option.elim_some]
 rw [e]
theorem Lq.nodes : ∀ {d : Nat} {a b : S25}, Lq d a b → nodes d a = nodes d b
 | 0, _, _, h => h.elim
 |d + 1, a, b, ⟨h0, h1, h2, h3, h4, hm, hl⟩ => by
  simp only [Go.Proofs.YtkpdkoafngjflaaGreat.nodes]
  congr 1
  by_cases k2 : a.f0 = 2
  ·obtain ⟨pa, pb, hf⟩ := hm k2
   have hperm : a.f3.Perm b.f3 := by
    refine (List.perm_ext_iff_of_nodup pa.nodup pb.nodup).2 fun k => ⟨fun hk => ?_, fun hk => ?_⟩
    ·obtain ⟨y, hy⟩ := pa.some_ hk
     obtain ⟨z, hz, _⟩ := hf k y hy
     exact (pb.mem hz).1
    ·refine Classical.byContradiction fun hn => ?_
     have hle := len_le (l := k :: a.f3) (m := b.f3) (List.nodup_cons.2 ⟨hn, pa.nodup⟩) (fun q hq => by
      rcases List.mem_cons.1 hq with e | hq
      ·rw [e]; exact hk
      ·obtain ⟨y, hy⟩ := pa.some_ hq
       obtain ⟨z, hz, _⟩ := hf q y hy
       exact (pb.mem hz).1)
     simp only [List.length_cons] at hle
     omega
   rw [pa.sum, pb.sum]
   have e : (a.f3.map fun k => (lk a k).elim 0 (Go.Proofs.YtkpdkoafngjflaaGreat.nodes d)) = (a.f3.map fun k => (lk b k).elim 0 (Go.Proofs.YtkpdkoafngjflaaGreat.nodes d)) := by
    refine List.map_congr_left fun k hk => ?_
    obtain ⟨y, hy⟩ := pa.some_ hk
    obtain ⟨z, hz, hq⟩ := hf k y hy
    rw [hy, hz]
    exact hq.nodes
   rw [e]
   exact (hperm.map _).sum_nat
  ·have e : a.f4.map (Go.Proofs.YtkpdkoafngjflaaGreat.nodes d) = b.f4.map (Go.Proofs.YtkpdkoafngjflaaGreat.nodes d) := by
    refine List.ext_getElem (by simp [h4]) fun i i1 i2 => ?_
    simp only [List.length_map] at i1 i2
    simp only [List.getElem_map]
    exact (hl k2 i i1 i2).nodes
   rw [e]
theorem taken_calls (x : S25) (hx : Tree x) (h0 : (x.f0 == 0) = false) (w : World) (A3 : Option Addr) (c3 : Nat) (A4 : Option Addr) (c4 : Nat) (hK : nodeK w x A3 c3 A4 c4) :
  Calls Tryz.prog 21 #[nodeV x A3 c3 A4 c4] w fun e w' => e = .returned (.bool true) ∧ Below w.heap.size w w' := by
 have hu := Tryz.underlying25
 have HX := Aside0.mk (And.intro hx hK)
 have HB : Aside0 (∀ o : Obj, Below w.heap.size w (w.alloc o)) := ⟨fun o => (Below.refl _ _).alloc (Nat.le_refl _) o⟩
 clear hx hK
 go_enter Tryz.func21, Tryz.ntmps21
 go_wp2_with fail
 refine (right_calls x _ A3 c3 A4 c4 (k25.K_below (HB.out _) HX.out.2) HX.out.1).mono ?_
 rintro e w1 ⟨rfl, hb⟩
 have HB1 := Aside0.mk ((HB.out _).trans (hb.mono (HB.out _).size))
 clear hb
 go_wp2
 go_ret
 exact ⟨rfl, HB1.out⟩
set_option maxRecDepth 100000 in
theorem zzmerge_calls (w : World) (base rd ro ru bd bo bu : Nat) (D O U : S25) (FD FO FU : Nat → Prop) (hok : OK3 6 D O U) (hf : Fit 6 D ∧ Fit 6 O ∧ Fit 6 U) (hd : RN w rd bd ∧ YN w FD bd (toY 6 D)) (ho : RN w ro bo ∧ YN w FO bo (toY 6 O)) (hu : RN w ru bu ∧ YN w FU bu (toY 6 U))
  (h1 : ∀ k, FD k → ¬ FU k ∧ ¬ FO k) (h2 : ∀ k, FU k → ¬ FO k) (h3 : ∀ k, k = rd ∨ k = ro ∨ k = ru → ¬ FD k ∧ ¬ FU k) (h4 : ∀ k, FD k ∨ FO k ∨ FU k → base ≤ k ∧ k < w.heap.size) (hbase : base ≤ w.heap.size) :
  Calls Tryz.prog 24 #[ptr rd, ptr ro, ptr ru, .bool false] w fun e w' => ∃ r b F R, e = .returned (.tuple #[ptr r, .nilIface]) ∧ MR 6 (some D) (some O) (some U) (some R) ∧ RN w' r b ∧ YN w' F b (toY 6 R) ∧ Below base w w' := by
 have hlt : rd < w.heap.size ∧ ro < w.heap.size ∧ ru < w.heap.size := ⟨hd.1.lt, ho.1.lt, hu.1.lt⟩
 have hpre : ∀ w' : World, Below w.heap.size w w' → ∀ s c, w.heap.size ≤ s → w'.ownsRow 0 42 1 (srcV s c) 3 [ptr rd, ptr ro, ptr ru] → Pre 6 w' s c (.iface 53 (.agg #[])) (.slice none 0 0) 0 1 (ptr rd) (ptr ro) (ptr ru) FD FO FU (some (bd, D)) (some (bo, O)) (some (bu, U)) := fun w' hb s c hs hrow => by
  have hP : (Value.slice none 0 0).ownBlock = none := rfl
  refine ⟨hrow, ⟨rd, rfl, hd.1.below hb, hd.2.below hb⟩, ⟨ro, rfl, ho.1.below hb, ho.2.below hb⟩, ⟨ru, rfl, hu.1.below hb, hu.2.below hb⟩, hok, .inl rfl, fun x q => ?_, Vis.base, PathOK.nil_ _, by omega, fun k q => (h1 k q).1, fun k q t => ?_, ⟨fun t => ?_, fun t => ?_, by simp [hP]⟩, fun k q => by simp [hP] at q, fun r q t => ?_⟩
  ·rcases q with q | q | q <;> cases q
   ·exact hf.1
   ·exact hf.2.1
   ·exact hf.2.2
  ·rcases t with t | t | t | t
   ·exact (h1 k t).2 q
   ·exact h2 k t q
   ·have := (h4 k (.inr (.inl q))).2; omega
   ·simp [hP] at t
  ·have := (h4 s (.inl t)).2; omega
  ·have := (h4 s (.inr (.inr t))).2; omega
  ·have hr : r = rd ∨ r = ro ∨ r = ru := by
    rcases q with q | q | q <;> cases q
    ·exact .inl rfl
    ·exact .inr (.inl rfl)
    ·exact .inr (.inr rfl)
   obtain ⟨a, b⟩ := h3 r hr
   rcases t with t | t | t | t
   ·exact a t
   ·exact b t
   ·rcases hr with e | e | e <;> omega
   ·simp [hP] at t
 have HP := Aside0.mk hpre
 have H4 := Aside0.mk (And.intro h4 hbase)
 clear hpre hok hf hd ho hu h1 h2 h3 h4 hlt hbase
 go_enter Tryz.func24, Tryz.ntmps24
 go_wp2_with fail
 obtain ⟨w1, e1⟩ : ∃ w1, w1 = w.alloc (.cells #[ptr rd, ptr ro, ptr ru] 42) := ⟨_, rfl⟩
 rw [← e1]
 have hb1 : Below w.heap.size w w1 := by rw [e1]; exact (Below.refl _ _).alloc (Nat.le_refl _) _
 have hrow : w1.ownsRow 0 42 1 (srcV w.heap.size 3) 3 [ptr rd, ptr ro, ptr ru] :=
  ⟨rfl, .inr ⟨w.heap.size, 3, #[ptr rd, ptr ro, ptr ru], rfl, Nat.zero_le _, by rw [e1]; exact heap_at _ rfl, Nat.le_refl _, by decide, rfl, rfl⟩⟩
 have HB1 := Aside0.mk hb1
 have HPR := Aside0.mk (HP.out w1 hb1 w.heap.size 3 (Nat.le_refl _) hrow)
 clear hb1 hrow e1
 refine (walk_calls 6 w1 w.heap.size 3 _ _ 0 1 (ptr rd) (ptr ro) (ptr ru) FD FO FU _ _ _ HPR.out).mono ?_
 rintro e w2 ⟨p, rfl, _, hcase⟩
 have hbb : ∀ FDx : Nat → Prop, (∀ k, FDx k → FD k) → Chg (Terr FDx FU w.heap.size (.slice none 0 0)) w1 w2 → Below base w w2 := fun FDx hx hc => by
  have hs := HB1.out.size
  have := H4.out.2
  refine (HB1.out.mono H4.out.2).trans (hc.below (by omega) (fun k q => ?_))
  rcases q with q | q | q | q
  ·exact (H4.out.1 k (.inl (hx k q))).1
  ·exact (H4.out.1 k (.inr (.inr q))).1
  ·omega
  ·simp [Value.ownBlock] at q
 rcases hcase with ⟨_, hm, _⟩ | ⟨r, b, F, R, rfl, hm, hr, hy, _, _, hch⟩
 ·exact absurd hm (by rintro ⟨R, e, _⟩; cases e)
 ·have HF := Aside0.mk (And.intro hm (And.intro hr (And.intro hy (show Below base w w2 by
   rcases hch with ⟨_, _, hc⟩ | ⟨_, hc⟩
   ·exact hbb FD (fun _ q => q) hc
   ·exact hbb _ (fun _ q => q.elim) hc))))
  clear hm hr hy hch hbb
  go_wp2_with fail
  exact bodyPost_ret (v := .tuple #[ptr r, .nilIface]) (by simp [results, Tryz.results24, go_sem]) rfl ⟨r, b, F, R, rfl, HF.out.1, HF.out.2.1, HF.out.2.2.1, HF.out.2.2.2⟩
def OutPost (w : World) (ga : Nat) (Q : S25 → Prop) (e : Ending) (w' : World) : Prop := e = .returned (.bool true) ∧ (∃ R, Q R ∧ NodeAt w' w.heap.size ga R) ∧ Chg (fun k => k = ga) w w'
def mg1.T : Bool × List (List Nat × List Nat) := (true, [([], []), ([0], [0]), ([], []), ([2, 1], [2]), ([], []), ([4, 3], [4]), ([], []), ([1, 3, 5, 6, 5], [1, 3, 5, 6]), ([7], [7]), ([8], [8]), ([8], [8]), ([9, 7, 0, 1, 2, 3, 4, 5, 6, 7, 8, 9], [9]), ([10, 11, 0, 1, 2, 3, 4, 5, 6, 7, 8, 9, 10, 11], [10])])
def mg1.B : List Nat := [0, 1, 0, 7, 0, 31, 0, 127, 255, 511, 511, 1023, 4095]
theorem mg1.tab : rtab .any (opsOf Tryz.f23 1) = mg1.T := by kernel_rfl
theorem mg1.bits : waitsOk mg1.T.2 mg1.B = true := by kernel_rfl
set_option maxRecDepth 100000 in
set_option maxHeartbeats 6400000 in
theorem merge31_calls (w : World) (a0 a1 a2 a3 ga : Nat) (D O U : S25) (A3 : Option Addr) (c3 : Nat) (A4 : Option Addr) (c4 : Nat) (B3 : Option Addr) (d3 : Nat) (B4 : Option Addr) (d4 : Nat) (C3 : Option Addr) (e3 : Nat) (C4 : Option Addr) (e4 : Nat)
  (h0 : inVar w a0 D A3 c3 A4 c4) (h1 : inVar w a1 O B3 d3 B4 d4) (h2 : inVar w a2 U C3 e3 C4 e4) (h3 : w.heap[a3]? = some (.cells #[.bool false] 4 (0, 0))) (hg : w.heap[ga]? = some (.cells #[.int .i64 0, .string ⟨#[]⟩, .string ⟨#[]⟩, .slice none 0 0, .slice none 0 0] 25 (0, 0)))
  (hK0 : nodeK w D A3 c3 A4 c4) (hK1 : nodeK w O B3 d3 B4 d4) (hK2 : nodeK w U C3 e3 C4 e4) (hok : OK3 6 D O U) (hf : Fit 6 D ∧ Fit 6 O ∧ Fit 6 U) (hw : ∀ R, MR 6 (some D) (some O) (some U) (some R) → Wf 6 R ∧ nodes 6 R ≤ 60) :
  Calls Tryz.prog 23 #[.pointer (some ⟨a0, 0, none⟩), .pointer (some ⟨a1, 0, none⟩), .pointer (some ⟨a2, 0, none⟩), .pointer (some ⟨a3, 0, none⟩), .pointer (some ⟨ga, 0, none⟩)] w (OutPost w ga (fun R => MR 6 (some D) (some O) (some U) (some R))) := by
 have hu := Tryz.underlying25
 have H := Aside0.mk (And.intro h0 (And.intro h1 (And.intro h2 (And.intro h3 hg))))
 have HK := Aside0.mk (And.intro hK0 (And.intro hK1 hK2))
 have HO := Aside0.mk (And.intro hok (And.intro hf hw))
 have HS : Aside0 (∀ w' : World, Below w.heap.size w w' → w'.cell? ⟨a0, 0, none⟩ = some (.int .i64 D.f0) ∧ w'.cell? ⟨a0, 1, none⟩ = some (.string D.f1) ∧ w'.cell? ⟨a0, 2, none⟩ = some (.string D.f2) ∧ w'.cell? ⟨a0, 3, none⟩ = some (.slice A3 D.f3.length c3) ∧ w'.cell? ⟨a0, 4, none⟩ = some (.slice A4 D.f4.length c4) ∧
   w'.cell? ⟨a1, 0, none⟩ = some (.int .i64 O.f0) ∧ w'.cell? ⟨a1, 1, none⟩ = some (.string O.f1) ∧ w'.cell? ⟨a1, 2, none⟩ = some (.string O.f2) ∧ w'.cell? ⟨a1, 3, none⟩ = some (.slice B3 O.f3.length d3) ∧ w'.cell? ⟨a1, 4, none⟩ = some (.slice B4 O.f4.length d4) ∧
   w'.cell? ⟨a2, 0, none⟩ = some (.int .i64 U.f0) ∧ w'.cell? ⟨a2, 1, none⟩ = some (.string U.f1) ∧ w'.cell? ⟨a2, 2, none⟩ = some (.string U.f2) ∧ w'.cell? ⟨a2, 3, none⟩ = some (.slice C3 U.f3.length e3) ∧ w'.cell? ⟨a2, 4, none⟩ = some (.slice C4 U.f4.length e4) ∧ w'.cell? ⟨a3, 0, none⟩ = some (.bool false)) := ⟨fun w' hb => by
  have g0 := (hb.block _ (lt_of_block H.out.1)).trans H.out.1
  have g1 := (hb.block _ (lt_of_block H.out.2.1)).trans H.out.2.1
  have g2 := (hb.block _ (lt_of_block H.out.2.2.1)).trans H.out.2.2.1
  have g3 := (hb.block _ (lt_of_block H.out.2.2.2.1)).trans H.out.2.2.2.1
  obtain ⟨cx0, cx1, cx2, cx3, cx4, _⟩ := fc_ (g0)
  obtain ⟨cy0, cy1, cy2, cy3, cy4, _⟩ := fc_ (g1)
  obtain ⟨cz0, cz1, cz2, cz3, cz4, _⟩ := fc_ (g2)
  have cb := (cell_of_block (i := 0) g3).trans (show _ = some _ from rfl)
  exact ⟨cx0, cx1, cx2, cx3, cx4, cy0, cy1, cy2, cy3, cy4, cz0, cz1, cz2, cz3, cz4, cb⟩⟩
 clear h0 h1 h2 h3 hg hK0 hK1 hK2 hok hf hw
 go_enter Tryz.func23, Tryz.ntmps23
 go_wp2_with fail
 refine start_ (n := 13) (S := fun w' => w'.cell? ⟨a0, 0, none⟩ = some (.int .i64 D.f0) ∧ w'.cell? ⟨a0, 1, none⟩ = some (.string D.f1) ∧ w'.cell? ⟨a0, 2, none⟩ = some (.string D.f2) ∧ w'.cell? ⟨a0, 3, none⟩ = some (.slice A3 D.f3.length c3) ∧ w'.cell? ⟨a0, 4, none⟩ = some (.slice A4 D.f4.length c4) ∧ w'.cell? ⟨a1, 0, none⟩ = some (.int .i64 O.f0) ∧ w'.cell? ⟨a1, 1, none⟩ = some (.string O.f1) ∧ w'.cell? ⟨a1, 2, none⟩ = some (.string O.f2) ∧ w'.cell? ⟨a1, 3, none⟩ = some (.slice B3 O.f3.length d3) ∧ w'.cell? ⟨a1, 4, none⟩ = some (.slice B4 O.f4.length d4) ∧ w'.cell? ⟨a2, 0, none⟩ = some (.int .i64 U.f0) ∧ w'.cell? ⟨a2, 1, none⟩ = some (.string U.f1) ∧ w'.cell? ⟨a2, 2, none⟩ = some (.string U.f2) ∧ w'.cell? ⟨a2, 3, none⟩ = some (.slice C3 U.f3.length e3) ∧ w'.cell? ⟨a2, 4, none⟩ = some (.slice C4 U.f4.length e4) ∧ w'.cell? ⟨a3, 0, none⟩ = some (.bool false)) (ds := [7]) #[false, false, false, false, false, false, false, false, false, false, false, false, false] (by kernel_rfl) rfl rfl (HS.out _ (Below.refl _ _).drew) (fun hHeld => ?_)
 refine with_tabW (T := mg1.T) (B := mg1.B) mg1.tab mg1.bits (fun HT_ HW_ => ?_)
 have HB := Aside0.mk ((Below.refl w.heap.size w).drew)
 generalize w.drew = wc at HB hHeld ⊢
 refine ts_ 0 9 HT_ HW_ hHeld ?_
 refine ts_ 2 11 HT_ HW_ hHeld ?_
 refine ts_ 4 13 HT_ HW_ hHeld ?_
 refine ts_ 6 15 HT_ HW_ hHeld ?_
 refine one_ (i := 1) (N := (some 10)) #[true, true, true, false, true, false, true, false, false, false, false, false, false] rfl rfl (one_of HT_.out (by kernel_rfl)) (by decide) (fun K hK => ?_)
 refine goes_ Tryz.func25 (by kernel_rfl) rfl #[nodeV D A3 c3 A4 c4] (by rfl) rfl rfl (by simp only [List.map_toArray, List.map_cons, List.map_nil]; rfl) ?_
 refine (rnodeOf0_calls 6 D wc _ (k25.K_below HB.out HK.out.1) (HO.out.2.1.1.1.sh HO.out.2.1.1.2)).mono ?_
 rintro e w1 ⟨r0, b0, rfl, hr, hrl, hy, hb⟩
 refine ⟨_, rfl, ?_⟩
 have H1 := Aside0.mk (And.intro hr.rn (And.intro hrl (And.intro hy (And.intro (HB.out.trans (hb.mono HB.out.size)) (And.intro hr.rn.lt HB.out.size)))))
 clear hr hrl hy hb
 refine hK.out _ _ (HS.out _ H1.out.2.2.2.1) (fun hHeld => ?_)
 clear hK K
 refine ns_ ?_
 refine one_ (i := 3) (N := (some 12)) #[true, true, true, true, true, false, true, false, false, false, false, false, false] rfl rfl (one_of HT_.out (by kernel_rfl)) (by decide) (fun K hK => ?_)
 refine goes_ Tryz.func25 (by kernel_rfl) rfl #[nodeV O B3 d3 B4 d4] (by rfl) rfl rfl (by simp only [List.map_toArray, List.map_cons, List.map_nil]; rfl) ?_
 refine (rnodeOf0_calls 6 O w1 _ (k25.K_below H1.out.2.2.2.1 HK.out.2.1) (HO.out.2.1.2.1.1.sh HO.out.2.1.2.1.2)).mono ?_
 rintro e w2 ⟨r1, b1, rfl, hr, hrl, hy, hb⟩
 refine ⟨_, rfl, ?_⟩
 have H2 := Aside0.mk (And.intro hr.rn (And.intro hrl (And.intro hy (And.intro (H1.out.2.2.2.1.trans (hb.mono H1.out.2.2.2.1.size)) (And.intro hr.rn.lt hb)))))
 clear hr hrl hy hb
 refine hK.out _ _ (HS.out _ H2.out.2.2.2.1) (fun hHeld => ?_)
 clear hK K
 refine ns_ ?_
 refine one_ (i := 5) (N := (some 14)) #[true, true, true, true, true, true, true, false, false, false, false, false, false] rfl rfl (one_of HT_.out (by kernel_rfl)) (by decide) (fun K hK => ?_)
 refine goes_ Tryz.func25 (by kernel_rfl) rfl #[nodeV U C3 e3 C4 e4] (by rfl) rfl rfl (by simp only [List.map_toArray, List.map_cons, List.map_nil]; rfl) ?_
 refine (rnodeOf0_calls 6 U w2 _ (k25.K_below H2.out.2.2.2.1 HK.out.2.2) (HO.out.2.1.2.2.1.sh HO.out.2.1.2.2.2)).mono ?_
 rintro e w3 ⟨r2, b2, rfl, hr, hrl, hy, hb⟩
 refine ⟨_, rfl, ?_⟩
 have H3 := Aside0.mk (And.intro hr.rn (And.intro hrl (And.intro hy (And.intro (H2.out.2.2.2.1.trans (hb.mono H2.out.2.2.2.1.size)) (And.intro hr.rn.lt hb)))))
 clear hr hrl hy hb
 refine hK.out _ _ (HS.out _ H3.out.2.2.2.1) (fun hHeld => ?_)
 clear hK K
 refine ns_ ?_
 refine last_ (i := 7) (N := (some 16)) #[true, true, true, true, true, true, true, true, false, false, false, false, false] rfl rfl (one_of HT_.out (by kernel_rfl)) (by decide) (fun K hK => ?_)
 refine goes_ Tryz.func24 (by kernel_rfl) rfl #[ptr r0, ptr r1, ptr r2, .bool false] (by rfl) rfl rfl (by simp only [List.map_toArray, List.map_cons, List.map_nil]; rfl) ?_
 have hs1 := H1.out.2.2.2.1.size
 have hs12 := H2.out.2.2.2.2.2.size
 have hs23 := H3.out.2.2.2.2.2.size
 refine (zzmerge_calls w3 w.heap.size r0 r1 r2 b0 b1 b2 D O U (fun k => (wc.heap.size ≤ k ∧ k ≠ r0) ∧ k < w1.heap.size) (fun k => (w1.heap.size ≤ k ∧ k ≠ r1) ∧ k < w2.heap.size) (fun k => (w2.heap.size ≤ k ∧ k ≠ r2) ∧ k < w3.heap.size) HO.out.1 HO.out.2.1
  ⟨(H1.out.1.below H2.out.2.2.2.2.2).below H3.out.2.2.2.2.2, (H1.out.2.2.1.lt.below H2.out.2.2.2.2.2).below H3.out.2.2.2.2.2⟩ ⟨H2.out.1.below H3.out.2.2.2.2.2, H2.out.2.2.1.lt.below H3.out.2.2.2.2.2⟩ ⟨H3.out.1, H3.out.2.2.1.lt⟩
  (fun k q => ⟨fun t => by omega, fun t => by omega⟩) (fun k q t => by omega) (fun k q => ?_) (fun k q => ?_) (by omega)).mono ?_
 ·have a0 := H1.out.2.2.2.2.1
  have a1 := H2.out.2.2.2.2.1
  have a2 := H3.out.2.2.2.2.1
  have g1 := H2.out.2.1
  have g2 := H3.out.2.1
  refine ⟨fun t => ?_, fun t => ?_⟩ <;> (rcases q with q | q | q <;> omega)
 ·have := H1.out.2.2.2.2.2
  rcases q with q | q | q <;> omega
 rintro e w4 ⟨r, b, F, R, rfl, hm, hr, hy, hb⟩
 refine ⟨_, rfl, ?_⟩
 have H4 := Aside0.mk (And.intro hm (And.intro hr (And.intro hy (H3.out.2.2.2.1.trans hb))))
 clear hm hr hy hb hs1 hs12 hs23
 refine hK.out _ _ ?_
 clear hK K
 refine ns_ ?_
 refine ps_ 8 8 HT_ ?_
 refine ps_ 9 17 HT_ ?_
 refine ps_ 10 18 HT_ ?_
 refine ps_ 11 6 HT_ ?_
 refine ps_ 12 7 HT_ ?_
 refine done_ (done_of HT_.out (by kernel_rfl)) ?_
 go_wp2_with fail
 have hwR := HO.out.2.2 R H4.out.1
 refine (toldO_calls w4 (some r) R (holds_tree hwR.1 hwR.2 H4.out.2.1 H4.out.2.2.1)).mono ?_
 rintro e w5 ⟨E3, f3, E4, f4, rfl, k5, hb5⟩
 have H5 := Aside0.mk (And.intro (k25.M_lower H4.out.2.2.2.size k5) (H4.out.2.2.2.trans (hb5.mono H4.out.2.2.2.size)))
 have HGA := Aside0.mk ((H5.out.2.block _ (lt_of_block H.out.2.2.2.2)).trans H.out.2.2.2.2)
 obtain ⟨cg0, cg1, cg2, cg3, cg4, zg0, zg1, zg2, zg3, zg4⟩ := fc_ HGA.out
 clear k5 hb5 hwR
 go_wp2_with fail
 obtain ⟨wf, ef, hf, hcf⟩ := set5 (v0 := .int .i64 R.f0) (v1 := .string R.f1) (v2 := .string R.f2) (v3 := .slice E3 R.f3.length f3) (v4 := .slice E4 R.f4.length f4) HGA.out
 rw [ef]
 clear cg0 cg1 cg2 cg3 cg4 zg0 zg1 zg2 zg3 zg4 ef
 have hlg := lt_of_block H.out.2.2.2.2
 go_ret
 refine ⟨rfl, ⟨R, H4.out.1, E3, f3, E4, f4, hf, ?_⟩, (Chg.of_below H5.out.2).trans hcf (fun k q => .inl q)⟩
 exact M_upd H5.out.1 (fun k hb hk => hcf.block k hk (by omega))
end Go.Proofs.YtkpdkoafngjflaaGreat
