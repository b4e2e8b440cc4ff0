import Derived.Test.YtkpdkoafngjflaaGreatRead
import Derived.Test.YtkpdkoafngjflaaGreatOpen
import Derived.Test.YtkpdkoafngjflaaGreatCut
import Derived.Handy
import Derived.Test.YtkpdkoafngjflaaGreatSh
import Derived.Test.YtkpdkoafngjflaaGreatVw
namespace Go.Proofs.YtkpdkoafngjflaaGreat
open Go.RowKit Go.Proofs.YtkpdkoafngjflaaGreatW.PrintWords
set_option linter.unusedVariables false
def PR (w : World) (v : Value) : Option (Nat × Int × ByteArray × ByteArray × Value) → Prop
 | none => v = .pointer none
 | some (b, k, t, s, cv) => ∃ r, v = ptr r ∧ RN w r b ∧ NB w b k t s cv ∧ Live k t
theorem PR.nil_ {w : World} {v : Value} (h : PR w v none) : v = .pointer none := h
structure Src (w : World) (s : Nat) (v0 v1 v2 : Value) : Prop where
 c0 : w.cell? ⟨s, 0, none⟩ = some v0
 c1 : w.cell? ⟨s, 1, none⟩ = some v1
 c2 : w.cell? ⟨s, 2, none⟩ = some v2
abbrev srcV (s c : Nat) : Value := .slice (some ⟨s, 0, none⟩) 3 c
theorem dest_calls (w : World) (s c : Nat) (v0 v1 v2 : Value) (h : Src w s v0 v1 v2) :
  Calls Tryz.prog 160 #[srcV s c] w fun e w' => e = .returned v0 ∧ w = w' := by
 have c0 := h.c0
 clear h
 go_enter Tryz.func160, Tryz.ntmps160
 go_wp2
 go_ret
 exact ⟨rfl, rfl⟩
theorem origin_calls (w : World) (s c : Nat) (v0 v1 v2 : Value) (h : Src w s v0 v1 v2) :
  Calls Tryz.prog 162 #[srcV s c] w fun e w' => e = .returned v1 ∧ w = w' := by
 have c1 := h.c1
 clear h
 go_enter Tryz.func162, Tryz.ntmps162
 go_wp2
 go_ret
 exact ⟨rfl, rfl⟩
theorem updated_calls (w : World) (s c : Nat) (v0 v1 v2 : Value) (h : Src w s v0 v1 v2) :
  Calls Tryz.prog 158 #[srcV s c] w fun e w' => e = .returned v2 ∧ w = w' := by
 have c2 := h.c2
 clear h
 go_enter Tryz.func158, Tryz.ntmps158
 go_wp2
 go_ret
 exact ⟨rfl, rfl⟩
theorem clearnode_calls (w : World) : Calls Tryz.prog 161 #[] w fun e w' => e = .returned (.pointer none) ∧ w = w' := by
 go_enter Tryz.func161, Tryz.ntmps161
 go_wp2
 go_ret
 exact ⟨rfl, rfl⟩
theorem ytagged_calls (w : World) (b : Nat) (k : Int) (t v : ByteArray) (cv : Value) (hn : NB w b k t v cv) (hl : Live k t) :
  Calls Tryz.prog 132 #[ptr b] w fun e w' => e = .returned (.bool false) ∧ w = w' := by
 have c1 := hn.tag
 have h2 := hl.2
 clear hn hl
 go_enter Tryz.func132, Tryz.ntmps132
 go_wp2
 go_ret
 exact ⟨rfl, rfl⟩
theorem tagged_calls (w : World) (r b : Nat) (hr : RN w r b) (k : Int) (t v : ByteArray) (cv : Value) (hn : NB w b k t v cv) (hl : Live k t) :
  Calls Tryz.prog 159 #[ptr r] w fun e w' => e = .returned (.bool false) ∧ w = w' := by
 go_enter Tryz.func159, Tryz.ntmps159
 go_wp2_with (first | (go_at_call 37; refine (ynode_calls _ r b hr k t v cv hn hl).mono ?_; rintro e w' ⟨rfl, rfl⟩) | (go_at_call 67; refine (isnil_calls _ r b hr k t v cv hn hl).mono ?_; rintro e w' ⟨rfl, rfl⟩) | (go_at_call 132; refine (ytagged_calls _ b k t v cv hn hl).mono ?_; rintro e w' ⟨rfl, rfl⟩))
 go_ret
 exact ⟨rfl, rfl⟩
theorem tagged_nil (w : World) :
  Calls Tryz.prog 159 #[.pointer none] w fun e w' => e = .returned (.bool false) ∧ w = w' := by
 go_enter Tryz.func159, Tryz.ntmps159
 go_wp2_with (go_at_call 67; refine (isnil_nil _).mono ?_; rintro e w' ⟨rfl, rfl⟩)
 go_ret
 exact ⟨rfl, rfl⟩
theorem pr_missing (w : World) (v : Value) (o : Option (Nat × Int × ByteArray × ByteArray × Value)) (h : PR w v o) :
  Calls Tryz.prog 50 #[v] w fun e w' => e = .returned (.bool o.isNone) ∧ w = w' := by
 cases o with
 | none => obtain rfl := h.nil_; exact missing_nil w
 | some x => obtain ⟨b, k, t, s, cv⟩ := x; obtain ⟨r, rfl, hr, hn, hl⟩ := h; exact missing_calls w r b hr k t s cv hn hl
theorem pr_tagged (w : World) (v : Value) (o : Option (Nat × Int × ByteArray × ByteArray × Value)) (h : PR w v o) :
  Calls Tryz.prog 159 #[v] w fun e w' => e = .returned (.bool false) ∧ w = w' := by
 cases o with
 | none => obtain rfl := h.nil_; exact tagged_nil w
 | some x => obtain ⟨b, k, t, s, cv⟩ := x; obtain ⟨r, rfl, hr, hn, hl⟩ := h; exact tagged_calls w r b hr k t s cv hn hl
theorem setdest_calls (w : World) (s c : Nat) (v0 v1 v2 : Value) (p : Option Addr) (h : Src w s v0 v1 v2) (hf : w.frozen? ⟨s, 0, none⟩ = false) :
  Calls Tryz.prog 52 #[srcV s c, .pointer p, .nilIface] w fun e w' => e = .returned (.tuple #[.pointer p, .nilIface]) ∧ w.setCell ⟨s, 0, none⟩ (.pointer p) = w' := by
 have c0 := h.c0
 clear h
 go_enter Tryz.func52, Tryz.ntmps52
 go_wp2
 exact ⟨rfl, .tuple #[.pointer p, .nilIface], by simp [results, Tryz.results52, go_sem], rfl, rfl⟩
theorem assoc_calls (w : World) (s c : Nat) : Calls Tryz.prog 43 #[.pointer none, srcV s c, .bool false] w fun e w' => e = .returned (.bool false) ∧ w = w' := by
 go_enter Tryz.func43, Tryz.ntmps43
 go_wp2
 go_ret
 exact ⟨rfl, rfl⟩
theorem schema_calls (w : World) (vis src : Value) (P : Value) (i v : Bool) (n : Int) (hs : ∃ s c, src = srcV s c) :
  Calls Tryz.prog 39 #[.agg #[vis, .pointer none, src, P, .bool i, .bool v, .int .i64 n]] w fun e w' => e = .returned (.pointer none) ∧ Below w.heap.size w w' := by
 obtain ⟨s, c, rfl⟩ := hs
 go_enter Tryz.func39, Tryz.ntmps39
 go_wp2
 go_ret
 exact ⟨rfl, (Below.refl _ _).alloc (Nat.le_refl _) _⟩
abbrev PO := Option (Nat × Int × ByteArray × ByteArray × Value)
theorem kind_calls (w : World) (vis P : Value) (s c : Nat) (i v : Bool) (n : Int) (v0 v1 v2 : Value) (r b : Nat) (k : Int) (t x : ByteArray) (cv : Value) (h : Src w s v0 v1 v2) (h0 : v0 = ptr r) (hr : RN w r b) (hn : NB w b k t x cv) (hl : Live k t) :
  Calls Tryz.prog 40 #[.agg #[vis, .pointer none, srcV s c, P, .bool i, .bool v, .int .i64 n]] w fun e w' => e = .returned (.int .u32 k) ∧ Below w.heap.size w w' := by
 subst h0
 have c0 := h.c0
 have HR := Aside0.mk (And.intro hr (And.intro hn hl))
 have HB : Aside0 (∀ o : Obj, Below w.heap.size w (w.alloc o)) := ⟨fun o => (Below.refl _ _).alloc (Nat.le_refl _) o⟩
 clear h hr hn hl
 go_enter Tryz.func40, Tryz.ntmps40
 go_wp2_with fail
 obtain ⟨w1, e1⟩ : ∃ w1, w1 = w.alloc (.cells #[vis, .pointer none, srcV s c, P, .bool i, .bool v, .int .i64 n] 63) := ⟨_, rfl⟩
 try rw [← e1]
 have hb1 : Below w.heap.size w w1 := by rw [e1]; exact HB.out _
 have c0' := (hb1.cell (World.block_lt_of_cell? w _ c0)).trans c0
 have HR1 := Aside0.mk (And.intro (HR.out.1.below hb1) (And.intro (HR.out.2.1.below hb1) HR.out.2.2))
 have hk0 := HR1.out.2.1.kind
 have HB1 := Aside0.mk hb1
 clear e1 hb1 HB HR c0
 go_loopg [8] 1 (fun k i wr => i = .int .i64 0 ∧ Aside0 (wr = w1))
 case atStart => exact ⟨rfl, ⟨rfl⟩⟩
 case round =>
  obtain ⟨rfl, HW⟩ := hrel
  obtain rfl := HW.out
  go_wp2_with fail
  refine (missing_calls _ r b HR1.out.1 k t x cv HR1.out.2.1 HR1.out.2.2).mono ?_
  rintro e w' ⟨rfl, rfl⟩
  go_wp2_with fail
  refine (ynode_calls _ r b HR1.out.1 k t x cv HR1.out.2.1 HR1.out.2.2).mono ?_
  rintro e w' ⟨rfl, rfl⟩
  go_wp2
  go_ret
  exact ⟨rfl, HB1.out⟩
theorem kind_new (w : World) (vis P : Value) (s c : Nat) (i v : Bool) (n : Int) (r b : Nat) (k : Int) (t x : ByteArray) (cv : Value) (h : Src w s (.pointer none) (.pointer none) (ptr r)) (hr : RN w r b) (hn : NB w b k t x cv) (hl : Live k t) :
  Calls Tryz.prog 40 #[.agg #[vis, .pointer none, srcV s c, P, .bool i, .bool v, .int .i64 n]] w fun e w' => e = .returned (.int .u32 k) ∧ Below w.heap.size w w' := by
 have HR := Aside0.mk (And.intro hr (And.intro hn (And.intro hl h)))
 have HB : Aside0 (∀ o : Obj, Below w.heap.size w (w.alloc o)) := ⟨fun o => (Below.refl _ _).alloc (Nat.le_refl _) o⟩
 clear h hr hn hl
 go_enter Tryz.func40, Tryz.ntmps40
 go_wp2_with fail
 obtain ⟨w1, e1⟩ : ∃ w1, w1 = w.alloc (.cells #[vis, .pointer none, srcV s c, P, .bool i, .bool v, .int .i64 n] 63) := ⟨_, rfl⟩
 try rw [← e1]
 have hb1 : Below w.heap.size w w1 := by rw [e1]; exact HB.out _
 have c0 := (hb1.cell (World.block_lt_of_cell? w _ HR.out.2.2.2.c0)).trans HR.out.2.2.2.c0
 have c1 := (hb1.cell (World.block_lt_of_cell? w _ HR.out.2.2.2.c1)).trans HR.out.2.2.2.c1
 have c2 := (hb1.cell (World.block_lt_of_cell? w _ HR.out.2.2.2.c2)).trans HR.out.2.2.2.c2
 have HR1 := Aside0.mk (And.intro (HR.out.1.below hb1) (And.intro (HR.out.2.1.below hb1) HR.out.2.2.1))
 have hk0 := HR1.out.2.1.kind
 have HB1 := Aside0.mk hb1
 clear e1 hb1 HB HR
 go_loopg [8] 3 (fun k i wr => ∃ j : Nat, i = .int .i64 j ∧ Aside0 (j ≤ 2 ∧ k + j = 3) ∧ Aside0 (wr = w1))
 case atStart => exact ⟨0, rfl, ⟨by omega⟩, ⟨rfl⟩⟩
 case round =>
  obtain ⟨j, rfl, HJ, HW⟩ := hrel
  obtain rfl := HW.out
  have hj : j = 0 ∨ j = 1 ∨ j = 2 := by have := HJ.out; omega
  rcases hj with rfl | rfl | rfl
  ·go_wp2_with fail
   refine (missing_nil _).mono ?_
   rintro e w' ⟨rfl, rfl⟩
   go_wp2_with fail
   go_roundg (gk - 1)
   case measure => have := HJ.out; omega
   case rel => exact ⟨1, by go_num, ⟨by have := HJ.out; omega⟩, ⟨rfl⟩⟩
  ·go_wp2_with fail
   refine (missing_nil _).mono ?_
   rintro e w' ⟨rfl, rfl⟩
   go_wp2_with fail
   go_roundg (gk - 1)
   case measure => have := HJ.out; omega
   case rel => exact ⟨2, by go_num, ⟨by have := HJ.out; omega⟩, ⟨rfl⟩⟩
  ·go_wp2_with fail
   refine (missing_calls _ r b HR1.out.1 k t x cv HR1.out.2.1 HR1.out.2.2).mono ?_
   rintro e w' ⟨rfl, rfl⟩
   go_wp2_with fail
   refine (ynode_calls _ r b HR1.out.1 k t x cv HR1.out.2.1 HR1.out.2.2).mono ?_
   rintro e w' ⟨rfl, rfl⟩
   go_wp2
   go_ret
   exact ⟨rfl, HB1.out⟩
end Go.Proofs.YtkpdkoafngjflaaGreat
namespace Go.Proofs.YtkpdkoafngjflaaGreat
open Go.RowKit Go.Proofs.YtkpdkoafngjflaaGreatW.PrintWords Go.Proofs.YtkpdkoafngjflaaGreatW.PrintLast Go.Proofs.YtkpdkoafngjflaaGreat.PFnFields
set_option linter.unusedVariables false
set_option linter.unusedSimpArgs false
def FilterPost (Q : Option Nat → World → Prop) (e : Ending) (w' : World) : Prop := ∃ o, e = .returned (.tuple #[.pointer (o.map fun k => ⟨k, 0, none⟩), .nilIface]) ∧ Q o w'
set_option maxRecDepth 100000 in
theorem pipe1_calls (w : World) (r b : Nat) (k : Int) (t v : ByteArray) (cv : Value) (hr : RN w r b) (hn : NB w b k t v cv) (hk : (k == 1) = false) (g c : Nat) (T : TypeId) (fv recv : Value) (F : FuncId)
  (hg : w.cell? ⟨g, 0, none⟩ = some (.iface T fv)) (Q : Option Nat → World → Prop) (hm : ∀ n wa, (method (n + 1) T fv "Filter").run Tryz.prog wa = .ok (F, recv) wa) (hf : ∀ (xs : Array Value) (wa : World), (callFunc F xs).run Tryz.prog wa = .ok (.enter F xs) wa)
  (h : Calls Tryz.prog F #[recv, ptr r] w (FilterPost Q)) :
  Calls Tryz.prog 57 #[ptr r, .slice (some ⟨g, 0, none⟩) 1 c] w (FilterPost Q) := by
 have c1 := hr.value
 have c2 := hn.kind
 go_enter Tryz.func57, Tryz.ntmps57
 go_wp2_with fail
 have H := Aside0.mk h
 clear h
 go_loopg [41, 6, 7] 1 (fun k i v e wr => e = .nilIface ∧ ∃ (j : Nat) (o : Option Nat), i = .int .i64 j ∧ v = .pointer (o.map fun k => ⟨k, 0, none⟩) ∧ Aside0 (j ≤ 1 ∧ k + j = 1) ∧ Aside0 (j = 0 → wr = w ∧ o = some r) ∧ Aside0 (j = 1 → Q o wr))
 case atStart => exact ⟨rfl, 0, some r, rfl, rfl, ⟨by omega⟩, ⟨fun _ => ⟨rfl, rfl⟩⟩, ⟨fun h => by cases h⟩⟩
 case round =>
  obtain ⟨rfl, j, o, rfl, rfl, HJ, H0, H1⟩ := hrel
  by_cases hj : j = 0
  ·subst hj
   obtain ⟨rfl, rfl⟩ := H0.out rfl
   go_wp2_with fail
   refine H.out.mono ?_
   rintro e w1 ⟨o, rfl, hq⟩
   have HQ := Aside0.mk hq
   clear hq c1 c2 hg
   rcases o with _ | o
   ·go_wp2_with fail
    refine bodyPost_ret (v := .tuple #[.pointer none, .nilIface]) (by simp [results, Tryz.results57, go_sem]) rfl ⟨none, rfl, HQ.out⟩
   ·go_wp2_with fail
    go_roundg (gk - 1)
    case measure => have := HJ.out; omega
    case rel => exact ⟨rfl, 1, some o, rfl, rfl, ⟨by have := HJ.out; omega⟩, ⟨fun h => by cases h⟩, ⟨fun _ => HQ.out⟩⟩
  ·have hje : j = 1 := by have := HJ.out; omega
   subst hje
   have HQ := Aside0.mk (H1.out rfl)
   go_wp2_with fail
   refine bodyPost_ret (v := .tuple #[.pointer (o.map fun k => ⟨k, 0, none⟩), .nilIface]) (by simp [results, Tryz.results57, go_sem]) rfl ⟨o, rfl, HQ.out⟩
def Holds (w : World) (o : Option Nat) (x : S25) : Prop :=
 (o = none ∧ x = z25) ∨ ∃ (r d b : Nat) (F : Nat → Prop) (y : Y), o = some r ∧ RN w r b ∧ YN w F b y ∧ YSh d y ∧ Live y.kind y.tag ∧ ofY d y = x
theorem Holds.below {w w' : World} {o : Option Nat} {x : S25} (h : Holds w o x) (hb : Below w.heap.size w w') : Holds w' o x := by
 rcases h with h | ⟨r, d, b, F, y, h0, h1, h2, h3⟩
 ·exact .inl h
 ·exact .inr ⟨r, d, b, F, y, h0, h1.below hb, h2.below hb, h3⟩
abbrev nodeV (x : S25) (A3 : Option Addr) (c3 : Nat) (A4 : Option Addr) (c4 : Nat) : Value := .agg #[.int .i64 x.f0, .string x.f1, .string x.f2, .slice A3 x.f3.length c3, .slice A4 x.f4.length c4]
abbrev nodeM (w : World) (base : Nat) (x : S25) (A3 : Option Addr) (c3 : Nat) (A4 : Option Addr) (c4 : Nat) : Prop := k25.M w base (fun _ => True) x [.int .i64 x.f0, .string x.f1, .string x.f2, .slice A3 x.f3.length c3, .slice A4 x.f4.length c4]
abbrev nodeK (w : World) (x : S25) (A3 : Option Addr) (c3 : Nat) (A4 : Option Addr) (c4 : Nat) : Prop := k25.K w x [.int .i64 x.f0, .string x.f1, .string x.f2, .slice A3 x.f3.length c3, .slice A4 x.f4.length c4]
def ToldPost (w : World) (x : S25) (e : Ending) (w' : World) : Prop := ∃ (A3 : Option Addr) (c3 : Nat) (A4 : Option Addr) (c4 : Nat), e = .returned (nodeV x A3 c3 A4 c4) ∧ nodeM w' w.heap.size x A3 c3 A4 c4 ∧ Below w.heap.size w w'
theorem zero_M (w : World) (base : Nat) : nodeM w base z25 none 0 none 0 := k25_mkM w base _ z25 (Kd.R_nil _ _ _ _ _) (Kd.R_nil _ _ _ _ _)
theorem toldN_calls (w : World) : Calls Tryz.prog 26 #[.pointer none] w (ToldPost w z25) := by
 have hu := Tryz.underlying25
 go_enter Tryz.func26, Tryz.ntmps26
 go_wp2_with fail
 refine bodyPost_ret (v := nodeV z25 none 0 none 0) (by simp [results, Tryz.results26, go_sem, z25, nodeV]) rfl ⟨none, 0, none, 0, rfl, zero_M _ _, (Below.refl _ _).alloc (Nat.le_refl _) _⟩
theorem toldO_calls (w : World) (o : Option Nat) (x : S25) (h : Holds w o x) : Calls Tryz.prog 26 #[.pointer (o.map fun k => ⟨k, 0, none⟩)] w (ToldPost w x) := by
 rcases h with ⟨rfl, rfl⟩ | ⟨r, d, b, F, y, rfl, h1, h2, h3, h4, h5⟩
 ·exact toldN_calls w
 ·refine (told_calls d y w r b F h1 h2 h3 h4 x h5).mono ?_
  rintro e w' ⟨A3, n3, c3, A4, n4, c4, rfl, hm, hb⟩
  have hk := k25.K_of_M hm
  obtain ⟨B3, d3, B4, d4, he, l3, g3, l4, g4⟩ := k25_open hk
  simp only [List.cons.injEq, Value.slice.injEq, true_and, and_true] at he
  obtain ⟨⟨rfl, rfl, rfl⟩, rfl, rfl, rfl⟩ := he
  exact ⟨A3, c3, A4, c4, rfl, hm, hb⟩
def NodeAt (w : World) (base a : Nat) (x : S25) : Prop := ∃ (A3 : Option Addr) (c3 : Nat) (A4 : Option Addr) (c4 : Nat), inVar w a x A3 c3 A4 c4 ∧ nodeM w base x A3 c3 A4 c4
theorem M_upd {w w1 : World} {base : Nat} {x : S25} {cs : List Value} (h : k25.M w base (fun _ => True) x cs) (hm : ∀ k, base ≤ k → k < w.heap.size → w1.heap[k]? = w.heap[k]?) : k25.M w1 base (fun _ => True) x cs :=
 k25.M_mono (fun _ _ => trivial) (k25.M_move (fun k hk => hm k hk.2.1 hk.2.2.1) (k25.M_bound h))
def FilterDoes (w : World) (F : FuncId) (recv : Value) (x o1 o2 : S25) : Prop :=
 ∀ w0 wa r b, Below w.heap.size w w0 → Below w0.heap.size w0 wa → RN0 wa r b → w0.heap.size ≤ r → YN wa (fun k => w0.heap.size ≤ k ∧ k ≠ r) b (toY 6 x) → Calls Tryz.prog F #[recv, ptr r] wa (FilterPost fun o w' => Below w0.heap.size wa w' ∧ Holds w' o o1 ∧ Holds w' (some r) o2)
theorem FilterDoes.below {w w1 : World} {F : FuncId} {recv : Value} {x o1 o2 : S25} (h : FilterDoes w F recv x o1 o2) (hb : Below w.heap.size w w1) : FilterDoes w1 F recv x o1 o2 :=
 fun w0 wa r b h1 => h w0 wa r b (hb.trans (h1.mono hb.size))
theorem Wf.two {d : Nat} {x : S25} (h : Wf (d + 1) x) (h2 : x.f0 = 2) : x = ⟨2, ⟨#[]⟩, ⟨#[]⟩, x.f3, x.f4⟩ := by
 rcases h with ⟨h1, _⟩ | ⟨ht, hg, _, _, _⟩
 ·omega
 ·obtain ⟨a, b, c, e, f⟩ := x
  simp_all
theorem Wf.some {d : Nat} {x : S25} (h : Wf (d + 1) x) (h2 : x.f0 = 2) : 0 < x.f4.length := by
 rcases h with ⟨h1, _⟩ | ⟨_, _, h4, _⟩
 ·omega
 ·exact List.length_pos_iff.2 h4
theorem holds_tree {w : World} {r b : Nat} {F : Nat → Prop} {d : Nat} {x : S25} (h : Wf d x) (hn : nodes d x ≤ 60) (hr : RN w r b) (hy : YN w F b (toY d x)) : Holds w (some r) x :=
 .inr ⟨r, d, b, F, _, rfl, hr, hy, h.ysh hn, h.live, h.ofY⟩
def BoolPost (w : World) (P : Prop) (e : Ending) (w' : World) : Prop := ∃ r, e = .returned (.bool r) ∧ Below w.heap.size w w' ∧ (r = true → P)
theorem node_rows {w : World} {x : S25} {A3 : Option Addr} {c3 : Nat} {A4 : Option Addr} {c4 : Nat} (hK : nodeK w x A3 c3 A4 c4) : Kd.string.C w A3 x.f3.length x.f3 ∧ k25.C w A4 x.f4.length x.f4 := by
 obtain ⟨_, _, _, _, he, l3, g3, l4, g4⟩ := k25_open hK
 simp only [List.cons.injEq, Value.slice.injEq, true_and, and_true] at he
 obtain ⟨⟨rfl, rfl⟩, rfl, rfl⟩ := he
 exact ⟨g3, g4⟩
theorem keys_all {x : S25} {P : ByteArray → S25 → Prop} (hm : x.f0 = 2 → Mp x) (h : ∀ i, i < x.f3.length → P (x.f3.getD i ByteArray.empty) (x.f4.getD i z25)) : ∀ k y, lk x k = some y → P k y := by
 intro k y e
 by_cases h2 : x.f0 = 2
 ·rw [(hm h2).lk_of] at e
  obtain ⟨j, e1, e2⟩ := look_some e
  have hj := (List.getElem?_eq_some_iff.1 e1).1
  have := h j hj
  rw [List.getD_eq_getElem?_getD, e1, List.getD_eq_getElem?_getD, e2] at this
  exact this
 ·unfold lk at e
  rw [if_neg h2] at e
  cases e
theorem has_lk {d : Nat} {x : S25} (hx : Wf (d + 1) x) (k : ByteArray) : (has k x = true → lk x k = some (spField x k)) ∧ (has k x = false → lk x k = none) := by
 by_cases h2 : x.f0 = 2
 ·have hm := hx.mp h2
  cases e : lk x k with
  | none => exact ⟨fun h => (by rw [hm.nofield e] at h; cases h), fun _ => rfl⟩
  | some y => exact ⟨fun _ => (by rw [(hm.field e).2]), fun h => (by rw [(hm.field e).1] at h; cases h)⟩
 ·have hn : lk x k = none := by unfold lk; rw [if_neg h2]
  exact ⟨fun h => absurd (has_iff.1 h).1 h2, fun _ => hn⟩
theorem Wf.mpi {d : Nat} {x : S25} (hx : Wf (d + 1) x) : x.f0 = 2 → Mp x := fun h => hx.mp h
abbrev Fit (d : Nat) (x : S25) : Prop := Wf d x ∧ nodes d x ≤ 60
theorem Fit.item {d : Nat} {x y : S25} (h : Fit (d + 1) x) (hy : y ∈ x.f4) : Fit d y := ⟨h.1.items y hy, by have := nodes_item (d := d) hy; have := h.2; omega⟩
theorem Fit.len {d : Nat} {x : S25} (h : Fit (d + 1) x) : x.f4.length ≤ 60 ∧ x.f3.length ≤ 60 := by
 have h1 := h.1.len
 have h2 := h.2
 have h3 := h.1.klen
 omega
theorem Fit.sub {d : Nat} {x : S25} (h : Fit (d + 1) x) {k : ByteArray} (hk : has k x = true) : Fit d (spField x k) := by
 have h2 := (has_iff.1 hk).1
 exact h.item ((h.1.mp h2).mem ((has_lk h.1 k).1 hk)).2
theorem Fit.up {d : Nat} {x : S25} (h : Fit d x) : Fit (d + 1) x := by
 obtain ⟨h1, h2⟩ := h.1.up
 exact ⟨h1, by rw [h2]; exact h.2⟩
theorem Fit.tree {x : S25} : ∀ (m d : Nat), d + m = 6 → Fit d x → Tree x
 |0, d, e, h => by
  obtain rfl : d = 6 := by omega
  exact h
 | m + 1, d, e, h => Fit.tree m (d + 1) (by omega) h.up
def cov5f.T : Bool × List (List Nat × List Nat) := (true, [([], []), ([0], [0]), ([1], [1]), ([2], [2]), ([2], [2]), ([4, 2], [2, 4]), ([2], [2]), ([5, 6, 2], [2, 5, 6]), ([7, 2], [2, 7]), ([3, 8, 2, 2], [2, 3, 8]), ([9, 2], [2, 9]), ([2, 10], [2, 10])])
def cov5f.B : List Nat := [0, 1, 3, 7, 7, 23, 7, 119, 247, 511, 1023, 2047]
theorem cov5f.tab : rtab .any (opsOf Tryz.f8 5) = cov5f.T := by kernel_rfl
theorem cov5f.bits : waitsOk cov5f.T.2 cov5f.B = true := by kernel_rfl
set_option maxRecDepth 100000 in
set_option maxHeartbeats 1600000 in
theorem covers_calls (d : Nat) : ∀ (a b : S25) (ha : Fit d a) (hb : Fit d b) (w : World) (A3 : Option Addr) (c3 : Nat) (A4 : Option Addr) (c4 : Nat) (B3 : Option Addr) (d3 : Nat) (B4 : Option Addr) (d4 : Nat) (hK : nodeK w a A3 c3 A4 c4) (hK' : nodeK w b B3 d3 B4 d4),
  Calls Tryz.prog 8 #[nodeV a A3 c3 A4 c4, nodeV b B3 d3 B4 d4] w (BoolPost w (CvP d a b)) := by
 induction d with
 | zero => intro a b ha; exact ha.1.elim
 |succ d ih =>
  intro a b ha hb w A3 c3 A4 c4 B3 d3 B4 d4 hK hK'
  have hu := Tryz.underlying25
  have HK := Aside0.mk (And.intro hK hK')
  have HX := Aside0.mk (And.intro ha hb)
  have HG := Aside0.mk (node_rows hK')
  have IH := Aside0.mk ih
  have hbl := hb.len
  have hkl := hb.1.klen
  clear hK hK' ha hb ih
  go_enter Tryz.func8, Tryz.ntmps8
  go_wp2_with fail
  obtain ⟨w0, e0⟩ : ∃ w0, w0 = (w.alloc (.cells #[.int .i64 a.f0, .string a.f1, .string a.f2, .slice A3 a.f3.length c3, .slice A4 a.f4.length c4] 25)).alloc (.cells #[.int .i64 b.f0, .string b.f1, .string b.f2, .slice B3 b.f3.length d3, .slice B4 b.f4.length d4] 25) := ⟨_, rfl⟩
  try rw [← e0]
  have H0 : Aside0 (Below w.heap.size w w0 ∧ w0.heap[w.heap.size]? = some (.cells #[.int .i64 a.f0, .string a.f1, .string a.f2, .slice A3 a.f3.length c3, .slice A4 a.f4.length c4] 25 (0, 0)) ∧ w0.heap[w.heap.size + 1]? = some (.cells #[.int .i64 b.f0, .string b.f1, .string b.f2, .slice B3 b.f3.length d3, .slice B4 b.f4.length d4] 25 (0, 0))) := ⟨by rw [e0]; exact ((Below.refl _ _).alloc (Nat.le_refl _) _).alloc (by simp) _, by rw [e0]; exact (heap_old _ (by simp)).trans (heap_at _ rfl), by rw [e0]; exact heap_at _ (by simp)⟩
  clear e0
  go_loopg [12] b.f3.length (fun k i wr => ∃ j : Nat, i = .int .i64 j ∧ Aside0 (j ≤ b.f3.length ∧ k + j = b.f3.length) ∧ Aside0 (Below w.heap.size w wr ∧ wr.heap[w.heap.size]? = some (.cells #[.int .i64 a.f0, .string a.f1, .string a.f2, .slice A3 a.f3.length c3, .slice A4 a.f4.length c4] 25 (0, 0)) ∧ wr.heap[w.heap.size + 1]? = some (.cells #[.int .i64 b.f0, .string b.f1, .string b.f2, .slice B3 b.f3.length d3, .slice B4 b.f4.length d4] 25 (0, 0))) ∧
   Aside0 (∀ i, i < j → ∃ x, lk a (b.f3.getD i ByteArray.empty) = some x ∧ CvP d x (b.f4.getD i z25)))
  case atStart => exact ⟨0, rfl, ⟨by omega⟩, H0, ⟨fun i hi => absurd hi (Nat.not_lt_zero _)⟩⟩
  case round =>
   clear H0
   obtain ⟨j, rfl, HJ, HB, HP⟩ := hrel
   by_cases hj : j < b.f3.length
   ·have hj4 : j < b.f4.length := by omega
    generalize hkk : b.f3.getD j ByteArray.empty = kk
    generalize hyy : b.f4.getD j z25 = yy
    obtain ⟨ad3, ea, hs3⟩ := strAt HG.out.1 j hj
    obtain ⟨am, P3, p3, P4, p4, e6, hKp, fp0, fp1, fp2, fp3, fp4⟩ := nodeAt HG.out.2 j hj4 yy hyy
    rw [hkk] at hs3
    subst ea e6
    have hym : yy ∈ b.f4 := by rw [← hyy, List.getD_eq_getElem?_getD, List.getElem?_eq_getElem hj4]; exact List.getElem_mem _
    have HY := Aside0.mk (And.intro hkk (And.intro hyy (And.intro hKp (HX.out.2.item hym))))
    have HEL := Aside0.mk (And.intro fp0 (And.intro fp1 (And.intro fp2 (And.intro fp3 fp4))))
    have hs3' := (HB.out.1.cell (World.block_lt_of_cell? w _ hs3)).trans hs3
    have HXA := Aside0.mk HB.out.2.1
    obtain ⟨cr0, cr1, cr2, cr3, cr4, zr0, zr1, zr2, zr3, zr4⟩ := fc_ HXA.out
    clear hkk hyy hKp fp0 fp1 fp2 fp3 fp4 hs3 hym
    go_wp2_with fail
    refine (spField_calls a kk HX.out.1.1.klen wr A3 c3 A4 c4 (k25.K_below HB.out.1 HK.out.1)).mono ?_
    rintro e w3 ⟨hb3, D3, q3, D4, q4, rfl, hKs⟩
    obtain ⟨sf, hsf⟩ : ∃ sf, sf = spField a kk := ⟨_, rfl⟩
    obtain ⟨hs, hhs⟩ : ∃ hs, hs = has kk a := ⟨_, rfl⟩
    rw [← hsf, ← hhs]
    rw [← hsf] at hKs
    have HSF := Aside0.mk (And.intro hsf (And.intro hhs (k25.K_below hb3 hKs)))
    have HB3 := Aside0.mk (And.intro (HB.out.1.trans (hb3.mono HB.out.1.size)) (And.intro ((hb3.block _ (lt_of_block HB.out.2.1)).trans HB.out.2.1) ((hb3.block _ (lt_of_block HB.out.2.2)).trans HB.out.2.2)))
    clear hb3 hKs hsf hhs HXA cr0 cr1 cr2 cr3 cr4 zr0 zr1 zr2 zr3 zr4 hs3'
    go_wp2_with fail
    obtain ⟨w4, e4⟩ : ∃ w4, w4 = w3.alloc (.cells #[.int .i64 sf.f0, .string sf.f1, .string sf.f2, .slice D3 sf.f3.length q3, .slice D4 sf.f4.length q4] 25) := ⟨_, rfl⟩
    rw [← e4]
    obtain ⟨vb, hvb⟩ : ∃ vb, vb = w3.heap.size := ⟨_, rfl⟩
    rw [← hvb]
    have hb4 : Below w3.heap.size w3 w4 := by rw [e4]; exact (Below.refl _ _).alloc (Nat.le_refl _) _
    have hv4 : w4.heap[vb]? = some (.cells #[.int .i64 sf.f0, .string sf.f1, .string sf.f2, .slice D3 sf.f3.length q3, .slice D4 sf.f4.length q4] 25 (0, 0)) := by rw [e4]; exact heap_at _ hvb
    have HB4 := Aside0.mk (And.intro (HB3.out.1.trans (hb4.mono HB3.out.1.size)) (And.intro ((hb4.block _ (lt_of_block HB3.out.2.1)).trans HB3.out.2.1) ((hb4.block _ (lt_of_block HB3.out.2.2)).trans HB3.out.2.2)))
    have HV4 := Aside0.mk (And.intro hv4 (k25.K_below hb4 HSF.out.2.2))
    clear hb4 hv4 e4 hvb HB3
    cases hs
    ·clear HEL
     refine start_ (n := 12) (S := fun w' => w'.cell? ⟨vb, 0, none⟩ = some (.int .i64 sf.f0)) (ds := []) #[false, false, false, false, false, false, false, false, false, false, false, false] (by kernel_rfl) rfl rfl (by rw [cell_of_block (w := w4.drew) HV4.out.1]; rfl) (fun hHeld => ?_)
     refine with_tabW (T := cov5f.T) (B := cov5f.B) cov5f.tab cov5f.bits (fun HT_ HW_ => ?_)
     refine ps_ 0 23 HT_ ?_
     refine ps_ 1 24 HT_ ?_
     refine ps_ 2 25 HT_ ?_
     refine us_ 3 26 HT_ ?_
     refine us_ 4 27 HT_ ?_
     refine us_ 5 28 HT_ ?_
     refine us_ 6 29 HT_ ?_
     refine us_ 7 30 HT_ ?_
     refine us_ 8 31 HT_ ?_
     refine us_ 9 32 HT_ ?_
     refine us_ 10 33 HT_ ?_
     refine ps_ 11 34 HT_ ?_
     refine done_ (done_of HT_.out (by kernel_rfl)) ?_
     go_wp2
     go_ret
     exact ⟨false, rfl, HB4.out.1.drew, fun h => by cases h⟩
    ·have HS : Aside0 (∀ w', Below w4.heap.size w4 w' → w'.cell? ⟨vb, 0, none⟩ = some (.int .i64 sf.f0) ∧ w'.cell? ⟨vb, 1, none⟩ = some (.string sf.f1) ∧ w'.cell? ⟨vb, 2, none⟩ = some (.string sf.f2) ∧ w'.cell? ⟨vb, 3, none⟩ = some (.slice D3 sf.f3.length q3) ∧ w'.cell? ⟨vb, 4, none⟩ = some (.slice D4 sf.f4.length q4) ∧ w'.cell? ⟨w.heap.size + 1, 4, none⟩ = some (.slice (some am) b.f4.length d4) ∧ w'.cell? (am.add (j * 5)) = some (.int .i64 yy.f0) ∧ w'.cell? ⟨(am.add (j * 5)).block, (am.add (j * 5)).off + 1, none⟩ = some (.string yy.f1) ∧ w'.cell? ⟨(am.add (j * 5)).block, (am.add (j * 5)).off + 2, none⟩ = some (.string yy.f2) ∧ w'.cell? ⟨(am.add (j * 5)).block, (am.add (j * 5)).off + 3, none⟩ = some (.slice P3 yy.f3.length p3) ∧ w'.cell? ⟨(am.add (j * 5)).block, (am.add (j * 5)).off + 4, none⟩ = some (.slice P4 yy.f4.length p4)) := ⟨fun w' hc => by
      have old : ∀ {a : Addr} {v : Value}, w.cell? a = some v → w'.cell? a = some v := fun {a v} h => by
       have h1 := (HB4.out.1.cell (World.block_lt_of_cell? w a h)).trans h
       exact (hc.cell (World.block_lt_of_cell? _ _ h1)).trans h1
      have hx := Aside0.mk ((hc.block _ (lt_of_block HV4.out.1)).trans HV4.out.1)
      have hy := (hc.block _ (lt_of_block HB4.out.2.2)).trans HB4.out.2.2
      obtain ⟨cv0, cv1, cv2, cv3, cv4, zv0, zv1, zv2, zv3, zv4⟩ := fc_ hx.out
      exact ⟨cv0, cv1, cv2, cv3, cv4, by rw [cell_of_block hy]; rfl, old HEL.out.1, old HEL.out.2.1, old HEL.out.2.2.1, old HEL.out.2.2.2.1, old HEL.out.2.2.2.2⟩⟩
     refine start_ (n := 12) (S := fun w' => w'.cell? ⟨vb, 0, none⟩ = some (.int .i64 sf.f0) ∧ w'.cell? ⟨vb, 1, none⟩ = some (.string sf.f1) ∧ w'.cell? ⟨vb, 2, none⟩ = some (.string sf.f2) ∧ w'.cell? ⟨vb, 3, none⟩ = some (.slice D3 sf.f3.length q3) ∧ w'.cell? ⟨vb, 4, none⟩ = some (.slice D4 sf.f4.length q4) ∧ w'.cell? ⟨w.heap.size + 1, 4, none⟩ = some (.slice (some am) b.f4.length d4) ∧ w'.cell? (am.add (j * 5)) = some (.int .i64 yy.f0) ∧ w'.cell? ⟨(am.add (j * 5)).block, (am.add (j * 5)).off + 1, none⟩ = some (.string yy.f1) ∧ w'.cell? ⟨(am.add (j * 5)).block, (am.add (j * 5)).off + 2, none⟩ = some (.string yy.f2) ∧ w'.cell? ⟨(am.add (j * 5)).block, (am.add (j * 5)).off + 3, none⟩ = some (.slice P3 yy.f3.length p3) ∧ w'.cell? ⟨(am.add (j * 5)).block, (am.add (j * 5)).off + 4, none⟩ = some (.slice P4 yy.f4.length p4)) (ds := [9]) #[false, false, false, false, false, false, false, false, false, false, false, false] (by kernel_rfl) rfl rfl (HS.out _ (Below.refl _ _).drew) (fun hHeld => ?_)
     refine with_tabW (T := cov5f.T) (B := cov5f.B) cov5f.tab cov5f.bits (fun HT_ HW_ => ?_)
     refine ps_ 0 23 HT_ ?_
     refine ps_ 1 24 HT_ ?_
     refine ps_ 2 25 HT_ ?_
     refine ps_ 4 27 HT_ ?_
     refine ps_ 6 29 HT_ ?_
     refine ts_ 3 26 HT_ HW_ hHeld ?_
     refine ts_ 5 28 HT_ HW_ hHeld ?_
     refine ps_ 7 30 HT_ ?_
     refine ts_ 8 31 HT_ HW_ hHeld ?_
     refine last_ (i := 9) (N := (some 32)) #[true, true, true, true, true, true, true, true, true, true, false, false] rfl rfl (one_of HT_.out (by kernel_rfl)) (by decide) (fun K hK => ?_)
     refine goes_ Tryz.func8 (by kernel_rfl) rfl #[nodeV sf D3 q3 D4 q4, nodeV yy P3 p3 P4 p4] (by rfl) rfl rfl (by simp only [List.map_toArray, List.map_cons, List.map_nil]; rfl) ?_
     have hbd : Below w.heap.size w w4.drew := HB4.out.1.drew
     refine (IH.out sf yy (by rw [HSF.out.1]; exact HX.out.1.sub HSF.out.2.1.symm) HY.out.2.2.2 w4.drew D3 q3 D4 q4 P3 p3 P4 p4 (k25.K_below (Below.refl _ _).drew HV4.out.2) (k25.K_below hbd HY.out.2.2.1)).mono ?_
     rintro e w9 ⟨r, rfl, hb9, hr⟩
     refine ⟨_, rfl, ?_⟩
     have hb9' : Below w4.heap.size w4 w9 := (Below.refl _ _).drew.trans hb9
     refine hK.out _ _ ?_
     have HB9 := Aside0.mk (And.intro (HB4.out.1.trans (hb9'.mono HB4.out.1.size)) (And.intro ((hb9'.block _ (lt_of_block HB4.out.2.1)).trans HB4.out.2.1) ((hb9'.block _ (lt_of_block HB4.out.2.2)).trans HB4.out.2.2)))
     have HR := Aside0.mk hr
     clear hb9 hb9' hbd hr
     clear hK K
     refine ns_ ?_
     refine ps_ 10 33 HT_ ?_
     refine ps_ 11 34 HT_ ?_
     refine done_ (done_of HT_.out (by kernel_rfl)) ?_
     cases r
     ·go_wp2
      go_ret
      exact ⟨false, rfl, HB9.out.1, fun h => by cases h⟩
     ·go_wp2_with fail
      go_roundg (gk - 1)
      case measure => have := HJ.out; omega
      case rel =>
       refine ⟨j + 1, by go_num, ⟨by have := HJ.out; omega⟩, HB9, ⟨fun i hi => ?_⟩⟩
       rcases Nat.lt_or_ge i j with h | h
       ·exact HP.out i h
       ·have hij : i = j := by omega
        rw [hij, HY.out.1, HY.out.2.1]
        exact ⟨sf, by rw [HSF.out.1]; exact (has_lk HX.out.1.1 kk).1 HSF.out.2.1.symm, HR.out (by simp)⟩
   ·have hje : j = b.f3.length := by have := HJ.out; omega
    have HP2 : Aside0 (CvP (d + 1) a b) := ⟨keys_all HX.out.2.1.mpi (fun i hi => HP.out i (by omega))⟩
    clear hje HP
    go_wp2
    go_ret
    exact ⟨true, rfl, HB.out.1, fun _ => HP2.out⟩
end Go.Proofs.YtkpdkoafngjflaaGreat
