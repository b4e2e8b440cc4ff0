/-
  RNode.Pipe of one filter; impl.piped.
-/
import Derived.Test.YtigpgkfgkjabmaaOpen
import Derived.Test.YtigpgkfgkjabmaaCut
import Derived.Handy
namespace Go.Proofs.Ytigpgkfgkjabmaa
open Go.RowKit Go.Proofs.YtigpgkfgkjabmaaW.PrintWords Go.Proofs.YtigpgkfgkjabmaaW.PrintLast Go.Proofs.Ytigpgkfgkjabmaa.PFnFields
set_option linter.unusedVariables false
set_option linter.unusedSimpArgs false

def piped6.T : Bool × List (List Nat × List Nat) := (true, [([], []), ([], []), ([0, 0], [0]), ([1, 2, 0, 1, 2], [1]), ([3, 0, 1, 2, 3], [])])
def piped6.B : List Nat := [0, 0, 1, 7, 15]
theorem piped6.tab : rtab .any (opsOf Try.f49 6) = piped6.T := by kernel_rfl
theorem piped6.bits : waitsOk piped6.T.2 piped6.B = true := by kernel_rfl
def FilterPost (Q : Option Nat → World → Prop) (e : Ending) (w' : World) : Prop := ∃ o, e = .returned (.tuple #[.pointer (o.map fun k => ⟨k, 0, none⟩), .nilIface]) ∧ Q o w'
set_option maxRecDepth 100000 in
theorem pipe1_calls (w : World) (r b : Nat) (k : Int) (t v : ByteArray) (cv : Value) (hr : RN w r b) (hn : NB w b k t v cv) (hk : (k == 1) = false) (g c : Nat) (T : TypeId) (fv recv : Value) (F : FuncId)
    (hg : w.cell? ⟨g, 0, none⟩ = some (.iface T fv)) (Q : Option Nat → World → Prop) (hm : ∀ n wa, (method (n + 1) T fv "Filter").run Try.prog wa = .ok (F, recv) wa) (hf : ∀ (xs : Array Value) (wa : World), (callFunc F xs).run Try.prog wa = .ok (.enter F xs) wa)
    (h : Calls Try.prog F #[recv, ptr r] w (FilterPost Q)) :
    Calls Try.prog 75 #[ptr r, .slice (some ⟨g, 0, none⟩) 1 c] w (FilterPost Q) := by
  have c1 := hr.value
  have c2 := hn.kind
  go_enter Try.func75, Try.ntmps75
  go_wp2_with fail
  have H := Aside0.mk h
  clear h
  go_loopg [41, 6, 7] 1 (fun k i v e wr => e = .nilIface ∧ ∃ (j : Nat) (o : Option Nat), i = .int .i64 j ∧ v = .pointer (o.map fun k => ⟨k, 0, none⟩) ∧ Aside0 (j ≤ 1 ∧ k + j = 1) ∧ Aside0 (j = 0 → wr = w ∧ o = some r) ∧ Aside0 (j = 1 → Q o wr))
  case atStart => exact ⟨rfl, 0, some r, rfl, rfl, ⟨by omega⟩, ⟨fun _ => ⟨rfl, rfl⟩⟩, ⟨fun h => by cases h⟩⟩
  case round =>
    obtain ⟨rfl, j, o, rfl, rfl, HJ, H0, H1⟩ := hrel
    by_cases hj : j = 0
    · subst hj
      obtain ⟨rfl, rfl⟩ := H0.out rfl
      go_wp2_with fail
      refine H.out.mono ?_
      rintro e w1 ⟨o, rfl, hq⟩
      have HQ := Aside0.mk hq
      clear hq c1 c2 hg
      rcases o with _ | o
      · go_wp2_with fail
        refine bodyPost_ret (v := .tuple #[.pointer none, .nilIface]) (by simp [results, Try.results75, go_sem]) rfl ⟨none, rfl, HQ.out⟩
      · go_wp2_with fail
        go_roundg (gk - 1)
        case measure => have := HJ.out; omega
        case rel => exact ⟨rfl, 1, some o, rfl, rfl, ⟨by have := HJ.out; omega⟩, ⟨fun h => by cases h⟩, ⟨fun _ => HQ.out⟩⟩
    · have hje : j = 1 := by have := HJ.out; omega
      subst hje
      have HQ := Aside0.mk (H1.out rfl)
      go_wp2_with fail
      refine bodyPost_ret (v := .tuple #[.pointer (o.map fun k => ⟨k, 0, none⟩), .nilIface]) (by simp [results, Try.results75, go_sem]) rfl ⟨o, rfl, HQ.out⟩

/-- What stands behind an RNode, as plain data. -/
def Holds (w : World) (o : Option Nat) (x : S25) : Prop :=
  (o = none ∧ x = z25) ∨ ∃ (r d b : Nat) (F : Nat → Prop) (y : Y), o = some r ∧ RN w r b ∧ YN w F b y ∧ YSh d y ∧ Live y.kind y.tag ∧ ofY d y = x
theorem Holds.below {w w' : World} {o : Option Nat} {x : S25} (h : Holds w o x) (hb : Below w.heap.size w w') : Holds w' o x := by
  rcases h with h | ⟨r, d, b, F, y, h0, h1, h2, h3⟩
  · exact .inl h
  · exact .inr ⟨r, d, b, F, y, h0, h1.below hb, h2.below hb, h3⟩
abbrev nodeV (x : S25) (A3 : Option Addr) (c3 : Nat) (A4 : Option Addr) (c4 : Nat) : Value := .agg #[.int .i64 x.f0, .string x.f1, .string x.f2, .slice A3 x.f3.length c3, .slice A4 x.f4.length c4]
abbrev nodeM (w : World) (base : Nat) (x : S25) (A3 : Option Addr) (c3 : Nat) (A4 : Option Addr) (c4 : Nat) : Prop := k25.M w base (fun _ => True) x [.int .i64 x.f0, .string x.f1, .string x.f2, .slice A3 x.f3.length c3, .slice A4 x.f4.length c4]
abbrev nodeK (w : World) (x : S25) (A3 : Option Addr) (c3 : Nat) (A4 : Option Addr) (c4 : Nat) : Prop := k25.K w x [.int .i64 x.f0, .string x.f1, .string x.f2, .slice A3 x.f3.length c3, .slice A4 x.f4.length c4]
def ToldPost (w : World) (x : S25) (e : Ending) (w' : World) : Prop := ∃ (A3 : Option Addr) (c3 : Nat) (A4 : Option Addr) (c4 : Nat), e = .returned (nodeV x A3 c3 A4 c4) ∧ nodeM w' w.heap.size x A3 c3 A4 c4 ∧ Below w.heap.size w w'
theorem zero_M (w : World) (base : Nat) : nodeM w base z25 none 0 none 0 := k25_mkM w base _ z25 (Kd.R_nil _ _ _ _ _) (Kd.R_nil _ _ _ _ _)
theorem zero_K (w : World) : nodeK w z25 none 0 none 0 := k25_mk w z25 (Nat.le_refl _) (Kd.C_nil _ _) (Nat.le_refl _) (Kd.C_nil _ _)
theorem toldN_calls (w : World) : Calls Try.prog 45 #[.pointer none] w (ToldPost w z25) := by
  have hu := Try.underlying25
  go_enter Try.func45, Try.ntmps45
  go_wp2_with fail
  refine bodyPost_ret (v := nodeV z25 none 0 none 0) (by simp [results, Try.results45, go_sem, z25, nodeV]) rfl ⟨none, 0, none, 0, rfl, zero_M _ _, (Below.refl _ _).alloc (Nat.le_refl _) _⟩
theorem toldO_calls (w : World) (o : Option Nat) (x : S25) (h : Holds w o x) : Calls Try.prog 45 #[.pointer (o.map fun k => ⟨k, 0, none⟩)] w (ToldPost w x) := by
  rcases h with ⟨rfl, rfl⟩ | ⟨r, d, b, F, y, rfl, h1, h2, h3, h4, h5⟩
  · exact toldN_calls w
  · refine (told_calls d y w r b F h1 h2 h3 h4 x h5).mono ?_
    rintro e w' ⟨A3, n3, c3, A4, n4, c4, rfl, hm, hb⟩
    have hk := k25.K_of_M hm
    obtain ⟨B3, d3, B4, d4, he, l3, g3, l4, g4⟩ := k25_open hk
    simp only [List.cons.injEq, Value.slice.injEq, true_and, and_true] at he
    obtain ⟨⟨rfl, rfl, rfl⟩, rfl, rfl, rfl⟩ := he
    exact ⟨A3, c3, A4, c4, rfl, hm, hb⟩

/-- A variable that holds a tree as plain data. -/
def NodeAt (w : World) (base a : Nat) (x : S25) : Prop := ∃ (A3 : Option Addr) (c3 : Nat) (A4 : Option Addr) (c4 : Nat), inVar w a x A3 c3 A4 c4 ∧ nodeM w base x A3 c3 A4 c4
/-- A datum of one's own over a change elsewhere. -/
theorem M_upd {w w1 : World} {base : Nat} {x : S25} {cs : List Value} (h : k25.M w base (fun _ => True) x cs) (hm : ∀ k, base ≤ k → k < w.heap.size → w1.heap[k]? = w.heap[k]?) : k25.M w1 base (fun _ => True) x cs :=
  k25.M_mono (fun _ _ => trivial) (k25.M_move (fun k hk => hm k hk.2.1 hk.2.2.1) (k25.M_bound h))
/-- What the filter does to a tree that is laid. -/
def FilterDoes (w : World) (F : FuncId) (recv : Value) (x o1 o2 : S25) : Prop :=
  ∀ w0 wa r b, Below w.heap.size w w0 → Below w0.heap.size w0 wa → RN0 wa r b → w0.heap.size ≤ r → YN wa (fun k => w0.heap.size ≤ k ∧ k ≠ r) b (toY 6 x) → Calls Try.prog F #[recv, ptr r] wa (FilterPost fun o w' => Below w0.heap.size wa w' ∧ Holds w' o o1 ∧ Holds w' (some r) o2)
def P1Post (w : World) (ga ha : Nat) (o1 o2 : S25) (e : Ending) (w' : World) : Prop := e = .returned (.bool true) ∧ NodeAt w' w.heap.size ga o1 ∧ NodeAt w' w.heap.size ha o2 ∧ Chg (fun k => k = ga ∨ k = ha) w w'
set_option maxRecDepth 100000 in
set_option maxHeartbeats 1600000 in
theorem piped1_calls (x o1 o2 : S25) (hx : Tree x) (w : World) (a fa ga ha g c : Nat) (A3 : Option Addr) (c3 : Nat) (A4 : Option Addr) (c4 : Nat) (T : TypeId) (fv recv : Value) (F : FuncId)
    (hm : ∀ n wa, (method (n + 1) T fv "Filter").run Try.prog wa = .ok (F, recv) wa) (hf : ∀ (xs : Array Value) (wa : World), (callFunc F xs).run Try.prog wa = .ok (.enter F xs) wa)
    (h0 : inVar w a x A3 c3 A4 c4) (h1 : w.heap[fa]? = some (.cells #[.slice (some ⟨g, 0, none⟩) 1 c] 114 (0, 0))) (h2 : w.cell? ⟨g, 0, none⟩ = some (.iface T fv))
    (h3 : w.heap[ga]? = some (.cells #[.int .i64 0, .string ⟨#[]⟩, .string ⟨#[]⟩, .slice none 0 0, .slice none 0 0] 25 (0, 0)))
    (h4 : w.heap[ha]? = some (.cells #[.int .i64 0, .string ⟨#[]⟩, .string ⟨#[]⟩, .slice none 0 0, .slice none 0 0] 25 (0, 0))) (hgh : ga ≠ ha)
    (hK : nodeK w x A3 c3 A4 c4) (hd : FilterDoes w F recv x o1 o2) :
    Calls Try.prog 74 #[.pointer (some ⟨a, 0, none⟩), .pointer (some ⟨fa, 0, none⟩), .pointer (some ⟨ga, 0, none⟩), .pointer (some ⟨ha, 0, none⟩)] w (P1Post w ga ha o1 o2) := by
  have hu := Try.underlying25
  have HX := Aside0.mk hx
  have H := Aside0.mk (And.intro h0 (And.intro h1 (And.intro h2 (And.intro h3 (And.intro h4 hgh)))))
  have HK := Aside0.mk hK
  have HD := Aside0.mk hd
  have HM := Aside0.mk (And.intro hm hf)
  have HA := Aside0.mk h0
  have cr0 := (cell_of_block (i := 0) HA.out).trans (show _ = some _ from rfl); have cr1 := (cell_of_block (i := 1) HA.out).trans (show _ = some _ from rfl); have cr2 := (cell_of_block (i := 2) HA.out).trans (show _ = some _ from rfl); have cr3 := (cell_of_block (i := 3) HA.out).trans (show _ = some _ from rfl); have cr4 := (cell_of_block (i := 4) HA.out).trans (show _ = some _ from rfl); have zr0 := frozen_of_block (i := 0) HA.out; have zr1 := frozen_of_block (i := 1) HA.out; have zr2 := frozen_of_block (i := 2) HA.out; have zr3 := frozen_of_block (i := 3) HA.out; have zr4 := frozen_of_block (i := 4) HA.out
  clear h0 h1 h2 h3 h4 hgh hK hd hm hf hx
  go_enter Try.func74, Try.ntmps74
  go_wp2_with fail
  refine (rnodeOf0_calls 6 x w _ HK.out (HX.out.1.sh HX.out.2)).mono ?_
  rintro e w1 ⟨r, b, rfl, hr, hrl, hy, hb1⟩
  have H1 := Aside0.mk (And.intro hr (And.intro hrl (And.intro hy hb1)))
  have cf : w1.cell? ⟨fa, 0, none⟩ = some (.slice (some ⟨g, 0, none⟩) 1 c) := by rw [cell_of_block ((hb1.block _ (lt_of_block H.out.2.1)).trans H.out.2.1)]; rfl
  have cg : w1.cell? ⟨g, 0, none⟩ = some (.iface T fv) := (hb1.cell (World.block_lt_of_cell? w _ H.out.2.2.1)).trans H.out.2.2.1
  have HCG := Aside0.mk cg
  clear hr hrl hy hb1 cr0 cr1 cr2 cr3 cr4 zr0 zr1 zr2 zr3 zr4 cg
  go_wp2_with fail
  obtain ⟨cv, hn⟩ := node_open H1.out.2.2.1
  refine (pipe1_calls w1 r b _ _ _ cv H1.out.1.rn hn HX.out.1.live.1 g c T fv recv F HCG.out _ HM.out.1 HM.out.2 (HD.out w w1 r b (Below.refl _ _) H1.out.2.2.2 H1.out.1 H1.out.2.1 H1.out.2.2.1)).mono ?_
  rintro e w2 ⟨o, rfl, hb2, q1, q2⟩
  have HB2 := Aside0.mk (H1.out.2.2.2.trans hb2)
  have HQ := Aside0.mk (And.intro q1 q2)
  clear hn cf hb2 q1 q2
  go_wp2_with fail
  refine (toldO_calls w2 o o1 HQ.out.1).mono ?_
  rintro e w3 ⟨B3, d3, B4, d4, rfl, k3, hb3⟩
  have HQ3 := Aside0.mk (HQ.out.2.below hb3)
  have H3 := Aside0.mk (And.intro (k25.M_lower HB2.out.size k3) (HB2.out.trans (hb3.mono HB2.out.size)))
  clear k3 hb3
  go_wp2_with fail
  refine (toldO_calls w3 (some r) o2 HQ3.out).mono ?_
  rintro e w4 ⟨E3, e3, E4, e4, rfl, k4, hb4⟩
  have hb4' : Below w.heap.size w w4 := H3.out.2.trans (hb4.mono H3.out.2.size)
  have H4 := Aside0.mk (And.intro (M_upd H3.out.1 (fun k _ hk => hb4.block k hk)) (And.intro (k25.M_lower H3.out.2.size k4) hb4'))
  have HGA := Aside0.mk ((hb4'.block _ (lt_of_block H.out.2.2.2.1)).trans H.out.2.2.2.1)
  have HHA := Aside0.mk ((hb4'.block _ (lt_of_block H.out.2.2.2.2.1)).trans H.out.2.2.2.2.1)
  have cg0 := (cell_of_block (i := 0) HGA.out).trans (show _ = some _ from rfl); have cg1 := (cell_of_block (i := 1) HGA.out).trans (show _ = some _ from rfl); have cg2 := (cell_of_block (i := 2) HGA.out).trans (show _ = some _ from rfl); have cg3 := (cell_of_block (i := 3) HGA.out).trans (show _ = some _ from rfl); have cg4 := (cell_of_block (i := 4) HGA.out).trans (show _ = some _ from rfl); have zg0 := frozen_of_block (i := 0) HGA.out; have zg1 := frozen_of_block (i := 1) HGA.out; have zg2 := frozen_of_block (i := 2) HGA.out; have zg3 := frozen_of_block (i := 3) HGA.out; have zg4 := frozen_of_block (i := 4) HGA.out
  have ch0 := (cell_of_block (i := 0) HHA.out).trans (show _ = some _ from rfl); have ch1 := (cell_of_block (i := 1) HHA.out).trans (show _ = some _ from rfl); have ch2 := (cell_of_block (i := 2) HHA.out).trans (show _ = some _ from rfl); have ch3 := (cell_of_block (i := 3) HHA.out).trans (show _ = some _ from rfl); have ch4 := (cell_of_block (i := 4) HHA.out).trans (show _ = some _ from rfl); have zh0 := frozen_of_block (i := 0) HHA.out; have zh1 := frozen_of_block (i := 1) HHA.out; have zh2 := frozen_of_block (i := 2) HHA.out; have zh3 := frozen_of_block (i := 3) HHA.out; have zh4 := frozen_of_block (i := 4) HHA.out
  have hgh := H.out.2.2.2.2.2
  have hgh' : ha ≠ ga := fun e => hgh e.symm
  clear k4 hb4 hb4'
  go_wp2_with fail
  obtain ⟨wf, ef, hf, hcf⟩ := set5 (v0 := .int .i64 o1.f0) (v1 := .string o1.f1) (v2 := .string o1.f2) (v3 := .slice B3 o1.f3.length d3) (v4 := .slice B4 o1.f4.length d4) HGA.out
  rw [ef]
  obtain ⟨wl, el, hl, hcl⟩ := set5 (v0 := .int .i64 o2.f0) (v1 := .string o2.f1) (v2 := .string o2.f2) (v3 := .slice E3 o2.f3.length e3) (v4 := .slice E4 o2.f4.length e4) ((hcf.block _ (lt_of_block HHA.out) hgh').trans HHA.out)
  rw [el]
  clear cg0 cg1 cg2 cg3 cg4 zg0 zg1 zg2 zg3 zg4 ch0 ch1 ch2 ch3 ch4 zh0 zh1 zh2 zh3 zh4 ef el
  have hcc : Chg (fun k => k = ga ∨ k = ha) w4 wl := (hcf.mono (fun k e => .inl e)).trans hcl (fun k e => .inl (.inr e))
  have hlg := lt_of_block H.out.2.2.2.1
  have hlh := lt_of_block H.out.2.2.2.2.1
  go_ret
  refine ⟨rfl, ⟨B3, d3, B4, d4, (hcl.block _ (lt_of_block hf) hgh).trans hf, ?_⟩, ⟨E3, e3, E4, e4, hl, ?_⟩, (Chg.of_below H4.out.2.2).trans hcc (fun k q => .inl q)⟩
  · exact M_upd H4.out.1 (fun k hb hk => hcc.block k hk (by omega))
  · exact M_upd H4.out.2.1 (fun k hb hk => hcc.block k hk (by omega))

theorem FilterDoes.below {w w1 : World} {F : FuncId} {recv : Value} {x o1 o2 : S25} (h : FilterDoes w F recv x o1 o2) (hb : Below w.heap.size w w1) : FilterDoes w1 F recv x o1 o2 :=
  fun w0 wa r b h1 => h w0 wa r b (hb.trans (h1.mono hb.size))
def PipedPost (w : World) (o1 o2 : S25) (e : Ending) (w' : World) : Prop :=
  ∃ (A3 : Option Addr) (c3 : Nat) (A4 : Option Addr) (c4 : Nat) (B3 : Option Addr) (d3 : Nat) (B4 : Option Addr) (d4 : Nat), e = .returned (.tuple #[nodeV o1 A3 c3 A4 c4, nodeV o2 B3 d3 B4 d4, .bool true]) ∧
    nodeM w' w.heap.size o1 A3 c3 A4 c4 ∧ nodeM w' w.heap.size o2 B3 d3 B4 d4 ∧ Below w.heap.size w w'
set_option maxRecDepth 100000 in
set_option maxHeartbeats 1600000 in
theorem piped_calls (x o1 o2 : S25) (hx : Tree x) (w : World) (g c : Nat) (A3 : Option Addr) (c3 : Nat) (A4 : Option Addr) (c4 : Nat) (T : TypeId) (fv recv : Value) (F : FuncId)
    (hm : ∀ n wa, (method (n + 1) T fv "Filter").run Try.prog wa = .ok (F, recv) wa) (hf : ∀ (xs : Array Value) (wa : World), (callFunc F xs).run Try.prog wa = .ok (.enter F xs) wa)
    (h2 : w.cell? ⟨g, 0, none⟩ = some (.iface T fv)) (hK : nodeK w x A3 c3 A4 c4) (hd : FilterDoes w F recv x o1 o2) :
    Calls Try.prog 49 #[nodeV x A3 c3 A4 c4, .slice (some ⟨g, 0, none⟩) 1 c] w (PipedPost w o1 o2) := by
  have hu := Try.underlying25
  have hmf : ∀ (fn : Fn) (first cap : Array Value) (w : World), (Instr.makeFunc fn first cap).run Try.prog w = .ok (.func fn first cap) w := fun _ _ _ _ => rfl
  have HX := Aside0.mk hx
  have HK := Aside0.mk (And.intro hK h2)
  have HD := Aside0.mk hd
  have HM := Aside0.mk (And.intro hm hf)
  clear hK hd hm hf hx h2
  go_enter Try.func49, Try.ntmps49
  go_wp2_with fail
  obtain ⟨w0, e0⟩ : ∃ w0, w0 = (((w.alloc (.cells #[.int .i64 x.f0, .string x.f1, .string x.f2, .slice A3 x.f3.length c3, .slice A4 x.f4.length c4] 25)).alloc (.cells #[.slice (some ⟨g, 0, none⟩) 1 c] 114)).alloc (.cells #[.int .i64 0, .string ⟨#[]⟩, .string ⟨#[]⟩, .slice none 0 0, .slice none 0 0] 25)).alloc (.cells #[.int .i64 0, .string ⟨#[]⟩, .string ⟨#[]⟩, .slice none 0 0, .slice none 0 0] 25) := ⟨_, rfl⟩
  rw [← e0]
  have hb0 : Below w.heap.size w w0 := by rw [e0]; exact ((((Below.refl _ _).alloc (Nat.le_refl _) _).alloc (by simp) _).alloc (by simp; omega) _).alloc (by simp; omega) _
  have hs0 : w0.heap.size = w.heap.size + 4 := by rw [e0]; simp
  have q0 : inVar w0 w.heap.size x A3 c3 A4 c4 := by rw [e0]; exact (heap_old _ (by simp; omega)).trans ((heap_old _ (by simp; omega)).trans ((heap_old _ (by simp)).trans (heap_at _ rfl)))
  have q1 : w0.heap[w.heap.size + 1]? = some (.cells #[.slice (some ⟨g, 0, none⟩) 1 c] 114 (0, 0)) := by rw [e0]; exact (heap_old _ (by simp)).trans ((heap_old _ (by simp)).trans (heap_at _ (by simp)))
  have q2 : w0.heap[w.heap.size + 1 + 1]? = some (.cells #[.int .i64 0, .string ⟨#[]⟩, .string ⟨#[]⟩, .slice none 0 0, .slice none 0 0] 25 (0, 0)) := by rw [e0]; exact (heap_old _ (by simp)).trans (heap_at _ (by simp))
  have q3 : w0.heap[w.heap.size + 1 + 1 + 1]? = some (.cells #[.int .i64 0, .string ⟨#[]⟩, .string ⟨#[]⟩, .slice none 0 0, .slice none 0 0] 25 (0, 0)) := by rw [e0]; exact heap_at _ (by simp)
  have H0 := Aside0.mk (And.intro hb0 (And.intro hs0 (And.intro q0 (And.intro q1 (And.intro q2 q3)))))
  clear hb0 hs0 q0 q1 q2 q3 e0
  refine (right_calls x w0 A3 c3 A4 c4 (k25.K_below H0.out.1 HK.out.1) HX.out).mono ?_
  rintro e w1 ⟨rfl, hb1⟩
  have hbw : Below w.heap.size w w1 := H0.out.1.trans (hb1.mono H0.out.1.size)
  have mv : ∀ {k : Nat} {o : Obj}, w0.heap[k]? = some o → w1.heap[k]? = some o := fun {k o} h => (hb1.block _ (lt_of_block h)).trans h
  have hs1 := hb1.size
  have hs01 := H0.out.2.1
  have H1 := Aside0.mk (And.intro hbw (And.intro (show w.heap.size + 4 ≤ w1.heap.size by omega) (And.intro (mv H0.out.2.2.1) (And.intro (mv H0.out.2.2.2.1) (And.intro (mv H0.out.2.2.2.2.1) (mv H0.out.2.2.2.2.2))))))
  clear hb1 hbw mv hs1 hs01
  go_wp2_with fail
  obtain ⟨w2, e2⟩ : ∃ w2, w2 = (w1.alloc (.cells #[.int .i64 0, .string ⟨#[]⟩, .string ⟨#[]⟩, .slice none 0 0, .slice none 0 0] 25)).alloc (.cells #[.int .i64 0, .string ⟨#[]⟩, .string ⟨#[]⟩, .slice none 0 0, .slice none 0 0] 25) := ⟨_, rfl⟩
  rw [← e2]
  have hb2 : Below w1.heap.size w1 w2 := by rw [e2]; exact ((Below.refl _ _).alloc (Nat.le_refl _) _).alloc (by simp) _
  have hs2 : w2.heap.size = w1.heap.size + 2 := by rw [e2]; simp
  have g2 : w2.heap[w1.heap.size]? = some (.cells #[.int .i64 0, .string ⟨#[]⟩, .string ⟨#[]⟩, .slice none 0 0, .slice none 0 0] 25 (0, 0)) := by rw [e2]; exact (heap_old _ (by simp)).trans (heap_at _ rfl)
  have h2 : w2.heap[w1.heap.size + 1]? = some (.cells #[.int .i64 0, .string ⟨#[]⟩, .string ⟨#[]⟩, .slice none 0 0, .slice none 0 0] 25 (0, 0)) := by rw [e2]; exact heap_at _ (by simp)
  have mv : ∀ {k : Nat} {o : Obj}, w1.heap[k]? = some o → w2.heap[k]? = some o := fun {k o} h => (hb2.block _ (lt_of_block h)).trans h
  have H2 := Aside0.mk (And.intro (H1.out.1.trans (hb2.mono H1.out.1.size)) (And.intro hs2 (And.intro (mv H1.out.2.2.1) (And.intro (mv H1.out.2.2.2.1) (And.intro (mv H1.out.2.2.2.2.1) (And.intro (mv H1.out.2.2.2.2.2) (And.intro g2 h2)))))))
  clear hb2 hs2 g2 h2 mv e2
  refine (tried_calls w2 74 #[.pointer (some ⟨w.heap.size, 0, none⟩), .pointer (some ⟨w.heap.size + 1, 0, none⟩), .pointer (some ⟨w1.heap.size, 0, none⟩), .pointer (some ⟨w1.heap.size + 1, 0, none⟩)] (fun k => k = w1.heap.size ∨ k = w1.heap.size + 1)
    (fun b w' => b = true ∧ NodeAt w' (w2.heap.size + 1) w1.heap.size o1 ∧ NodeAt w' (w2.heap.size + 1) (w1.heap.size + 1) o2)
    (fun k e => by have := H2.out.2.1; omega) (fun wa hwa hws => ?_) (fun wa => enters_ Try.func74 rfl rfl _ wa)).mono ?_
  · have hbw : Below w.heap.size w wa := H2.out.1.trans (hwa.mono H2.out.1.size)
    have mv : ∀ {k : Nat} {o : Obj}, w2.heap[k]? = some o → wa.heap[k]? = some o := fun {k o} h => (hwa.block _ (lt_of_block h)).trans h
    refine (piped1_calls x o1 o2 HX.out wa _ _ _ _ g c A3 c3 A4 c4 T fv recv F HM.out.1 HM.out.2 (mv H2.out.2.2.1) (mv H2.out.2.2.2.1) ((hbw.cell (World.block_lt_of_cell? w _ HK.out.2)).trans HK.out.2) (mv H2.out.2.2.2.2.2.2.1) (mv H2.out.2.2.2.2.2.2.2) (by omega)
      (k25.K_below hbw HK.out.1) (HD.out.below hbw)).mono ?_
    rintro e w3 ⟨rfl, ⟨B3, d3, B4, d4, q1, q2⟩, ⟨E3, f3, E4, f4, q3, q4⟩, hc⟩
    exact ⟨true, rfl, ⟨rfl, ⟨B3, d3, B4, d4, q1, k25.M_lower hws q2⟩, ⟨E3, f3, E4, f4, q3, k25.M_lower hws q4⟩⟩, hc⟩
  rintro e w3 ⟨r, w4, rfl, ⟨rfl, ⟨B3, d3, B4, d4, q1, q2⟩, ⟨E3, f3, E4, f4, q3, q4⟩⟩, hc1, hc2⟩
  have hs24 := hc2.size
  have hs2 := H2.out.2.1
  have hsw := H2.out.1.size
  have hsw1 := H1.out.2.1
  have hlw : ∀ k, k < w.heap.size → w3.heap[k]? = w2.heap[k]? := fun k hk => (hc1.block k (by omega) (by omega)).trans (hc2.block k (by omega) (by omega))
  have p1 := (hc1.block _ (lt_of_block q1) (by omega)).trans q1
  have p3 := (hc1.block _ (lt_of_block q3) (by omega)).trans q3
  have p2 := (hc1.block _ (by omega) (by omega)).trans ((hc2.block _ (by omega) (by omega)).trans H2.out.2.2.2.2.1)
  have p4 := (hc1.block _ (by omega) (by omega)).trans ((hc2.block _ (by omega) (by omega)).trans H2.out.2.2.2.2.2.1)
  have m1 := M_upd (w1 := w3) q2 (fun k hb hk => hc1.block k hk (by omega))
  have m2 := M_upd (w1 := w3) q4 (fun k hb hk => hc1.block k hk (by omega))
  have hb3 : Below w.heap.size w w3 := H2.out.1.trans ((hc2.below hsw (fun k e => by omega)).trans (hc1.below (by omega) (fun k e => by omega)))
  have H3 := Aside0.mk (And.intro hb3 (And.intro m1 m2))
  have HP1 := Aside0.mk p1
  have HP3 := Aside0.mk p3
  have HP2 := Aside0.mk p2
  have HP4 := Aside0.mk p4
  clear q1 q2 q3 q4 hc1 hc2 hlw p1 p3 p2 p4 m1 m2 hb3
  go_wp2_with fail
  have HS : Aside0 (∀ w' : World, (∀ k, k ≠ w.heap.size + 1 + 1 → k < w3.heap.size → w'.heap[k]? = w3.heap[k]?) → w'.cell? ⟨w1.heap.size, 0, none⟩ = some (.int .i64 o1.f0) ∧ w'.cell? ⟨w1.heap.size, 1, none⟩ = some (.string o1.f1) ∧ w'.cell? ⟨w1.heap.size, 2, none⟩ = some (.string o1.f2) ∧ w'.cell? ⟨w1.heap.size, 3, none⟩ = some (.slice B3 o1.f3.length d3) ∧ w'.cell? ⟨w1.heap.size, 4, none⟩ = some (.slice B4 o1.f4.length d4) ∧ w'.cell? ⟨w1.heap.size + 1, 0, none⟩ = some (.int .i64 o2.f0) ∧ w'.cell? ⟨w1.heap.size + 1, 1, none⟩ = some (.string o2.f1) ∧ w'.cell? ⟨w1.heap.size + 1, 2, none⟩ = some (.string o2.f2) ∧ w'.cell? ⟨w1.heap.size + 1, 3, none⟩ = some (.slice E3 o2.f3.length f3) ∧ w'.cell? ⟨w1.heap.size + 1, 4, none⟩ = some (.slice E4 o2.f4.length f4)) := ⟨fun w' hw => by
    have HQ1 := Aside0.mk ((hw _ (by omega) (lt_of_block HP1.out)).trans HP1.out)
    have HQ3 := Aside0.mk ((hw _ (by omega) (lt_of_block HP3.out)).trans HP3.out)
    have ca0 := (cell_of_block (i := 0) HQ1.out).trans (show _ = some _ from rfl); have ca1 := (cell_of_block (i := 1) HQ1.out).trans (show _ = some _ from rfl); have ca2 := (cell_of_block (i := 2) HQ1.out).trans (show _ = some _ from rfl); have ca3 := (cell_of_block (i := 3) HQ1.out).trans (show _ = some _ from rfl); have ca4 := (cell_of_block (i := 4) HQ1.out).trans (show _ = some _ from rfl); have za0 := frozen_of_block (i := 0) HQ1.out; have za1 := frozen_of_block (i := 1) HQ1.out; have za2 := frozen_of_block (i := 2) HQ1.out; have za3 := frozen_of_block (i := 3) HQ1.out; have za4 := frozen_of_block (i := 4) HQ1.out
    have cb0 := (cell_of_block (i := 0) HQ3.out).trans (show _ = some _ from rfl); have cb1 := (cell_of_block (i := 1) HQ3.out).trans (show _ = some _ from rfl); have cb2 := (cell_of_block (i := 2) HQ3.out).trans (show _ = some _ from rfl); have cb3 := (cell_of_block (i := 3) HQ3.out).trans (show _ = some _ from rfl); have cb4 := (cell_of_block (i := 4) HQ3.out).trans (show _ = some _ from rfl); have zb0 := frozen_of_block (i := 0) HQ3.out; have zb1 := frozen_of_block (i := 1) HQ3.out; have zb2 := frozen_of_block (i := 2) HQ3.out; have zb3 := frozen_of_block (i := 3) HQ3.out; have zb4 := frozen_of_block (i := 4) HQ3.out
    exact ⟨ca0, ca1, ca2, ca3, ca4, cb0, cb1, cb2, cb3, cb4⟩⟩
  refine start_ (n := 5) (S := fun w' => w'.cell? ⟨w1.heap.size, 0, none⟩ = some (.int .i64 o1.f0) ∧ w'.cell? ⟨w1.heap.size, 1, none⟩ = some (.string o1.f1) ∧ w'.cell? ⟨w1.heap.size, 2, none⟩ = some (.string o1.f2) ∧ w'.cell? ⟨w1.heap.size, 3, none⟩ = some (.slice B3 o1.f3.length d3) ∧ w'.cell? ⟨w1.heap.size, 4, none⟩ = some (.slice B4 o1.f4.length d4) ∧ w'.cell? ⟨w1.heap.size + 1, 0, none⟩ = some (.int .i64 o2.f0) ∧ w'.cell? ⟨w1.heap.size + 1, 1, none⟩ = some (.string o2.f1) ∧ w'.cell? ⟨w1.heap.size + 1, 2, none⟩ = some (.string o2.f2) ∧ w'.cell? ⟨w1.heap.size + 1, 3, none⟩ = some (.slice E3 o2.f3.length f3) ∧ w'.cell? ⟨w1.heap.size + 1, 4, none⟩ = some (.slice E4 o2.f4.length f4)) (ds := [3]) #[false, false, false, false, false] (by kernel_rfl) rfl rfl (HS.out _ (fun _ _ _ => rfl)) (fun hHeld => ?_)
  refine with_tabW (T := piped6.T) (B := piped6.B) piped6.tab piped6.bits (fun HT_ HW_ => ?_)
  have HD3 : Aside0 (Below w3.heap.size w3 w3.drew) := ⟨(Below.refl _ _).drew⟩
  generalize w3.drew = w5 at HD3 hHeld ⊢
  refine take_ (i := 0) (N := (some 19)) (v := ?_) (a' := ?_) #[true, false, false, false, false] rfl rfl (take_ofW HT_.out HW_.out (by kernel_rfl)) (fun _ _ _ h => h) (Or.inl ⟨by rfl, ?_⟩) hHeld ?_ ?_
  rotate_left
  · rintro w' ⟨s0, s1, s2, s3, s4, s5, s6, s7, s8, s9⟩
    go_simp
    with_reducible rfl
  rotate_left
  · simp only [Act.put, List.setIfInBounds_toArray, List.set_cons_zero, List.set_cons_succ, i64_w, i32_w]
    rfl
  refine take_ (i := 1) (N := (some 20)) (v := ?_) (a' := ?_) #[true, true, false, false, false] rfl rfl (take_ofW HT_.out HW_.out (by kernel_rfl)) (fun _ _ _ h => h) (Or.inl ⟨by rfl, ?_⟩) hHeld ?_ ?_
  rotate_left
  · rintro w' ⟨s0, s1, s2, s3, s4, s5, s6, s7, s8, s9⟩
    go_simp
    with_reducible rfl
  rotate_left
  · simp only [Act.put, List.setIfInBounds_toArray, List.set_cons_zero, List.set_cons_succ, i64_w, i32_w]
    rfl
  refine one_ (i := 2) (N := none) #[true, true, true, false, false] rfl rfl (one_of HT_.out (by kernel_rfl)) (by decide) (fun K hK => ?_)
  have HR2 := Aside0.mk ((HD3.out.block _ (lt_of_block HP2.out)).trans HP2.out)
  have cr0 := (cell_of_block (i := 0) HR2.out).trans (show _ = some _ from rfl); have cr1 := (cell_of_block (i := 1) HR2.out).trans (show _ = some _ from rfl); have cr2 := (cell_of_block (i := 2) HR2.out).trans (show _ = some _ from rfl); have cr3 := (cell_of_block (i := 3) HR2.out).trans (show _ = some _ from rfl); have cr4 := (cell_of_block (i := 4) HR2.out).trans (show _ = some _ from rfl); have zr0 := frozen_of_block (i := 0) HR2.out; have zr1 := frozen_of_block (i := 1) HR2.out; have zr2 := frozen_of_block (i := 2) HR2.out; have zr3 := frozen_of_block (i := 3) HR2.out; have zr4 := frozen_of_block (i := 4) HR2.out
  rw [if_pos (by rfl)]
  go_simp
  obtain ⟨w6, e6, hf6, hc6⟩ := set5 (v0 := .int .i64 o1.f0) (v1 := .string o1.f1) (v2 := .string o1.f2) (v3 := .slice B3 o1.f3.length d3) (v4 := .slice B4 o1.f4.length d4) HR2.out
  rw [e6]
  have H6 := Aside0.mk (And.intro hf6 hc6)
  refine hK.out _ _ (HS.out _ (fun k hk hl => (H6.out.2.block k (Nat.lt_of_lt_of_le hl HD3.out.size) hk).trans (HD3.out.block k hl))) (fun hHeld => ?_)
  clear cr0 cr1 cr2 cr3 cr4 zr0 zr1 zr2 zr3 zr4 e6 hf6 hc6 HR2
  clear hK K
  refine norm_ (a' := ?_) ?_ ?_
  rotate_left
  · first | (simp only [Act.put, List.setIfInBounds_toArray, List.set_cons_zero, List.set_cons_succ, i64_w, i32_w]; rfl) | rfl
  refine last_ (i := 3) (N := none) #[true, true, true, true, false] rfl rfl (one_of HT_.out (by kernel_rfl)) (by decide) (fun K hK => ?_)
  have hb3 := (H6.out.2.block _ (Nat.lt_of_lt_of_le (lt_of_block HP4.out) HD3.out.size) (by omega)).trans ((HD3.out.block _ (lt_of_block HP4.out)).trans HP4.out)
  have HR3 := Aside0.mk hb3
  have cr0 := (cell_of_block (i := 0) HR3.out).trans (show _ = some _ from rfl); have cr1 := (cell_of_block (i := 1) HR3.out).trans (show _ = some _ from rfl); have cr2 := (cell_of_block (i := 2) HR3.out).trans (show _ = some _ from rfl); have cr3 := (cell_of_block (i := 3) HR3.out).trans (show _ = some _ from rfl); have cr4 := (cell_of_block (i := 4) HR3.out).trans (show _ = some _ from rfl); have zr0 := frozen_of_block (i := 0) HR3.out; have zr1 := frozen_of_block (i := 1) HR3.out; have zr2 := frozen_of_block (i := 2) HR3.out; have zr3 := frozen_of_block (i := 3) HR3.out; have zr4 := frozen_of_block (i := 4) HR3.out
  rw [if_pos (by rfl)]
  go_simp
  obtain ⟨w7, e7, hf7, hc7⟩ := set5 (v0 := .int .i64 o2.f0) (v1 := .string o2.f1) (v2 := .string o2.f2) (v3 := .slice E3 o2.f3.length f3) (v4 := .slice E4 o2.f4.length f4) HR3.out
  rw [e7]
  have H7 := Aside0.mk (And.intro hf7 hc7)
  refine hK.out _ _ ?_
  clear cr0 cr1 cr2 cr3 cr4 zr0 zr1 zr2 zr3 zr4 e7 hf7 hc7 HR3 hb3
  clear hK K
  refine norm_ (a' := ?_) ?_ ?_
  rotate_left
  · first | (simp only [Act.put, List.setIfInBounds_toArray, List.set_cons_zero, List.set_cons_succ, i64_w, i32_w]; rfl) | rfl
  refine pure_ (i := 4) (N := (some 6)) (v := ?_) (a' := ?_) #[true, true, true, true, true] rfl rfl (any_of HT_.out (by kernel_rfl)) (fun _ _ _ h => h) (Or.inl ⟨by rfl, ?_⟩) ?_ ?_
  rotate_left
  · intro w'
    go_simp
    with_reducible rfl
  rotate_left
  · simp only [Act.put, List.setIfInBounds_toArray, List.set_cons_zero, List.set_cons_succ, i64_w, i32_w]
    rfl
  refine done_ (done_of HT_.out (by kernel_rfl)) ?_
  have HF1 := Aside0.mk ((H7.out.2.block _ (lt_of_block H6.out.1) (by omega)).trans H6.out.1)
  have HF2 := Aside0.mk H7.out.1
  have ca0 := (cell_of_block (i := 0) HF1.out).trans (show _ = some _ from rfl); have ca1 := (cell_of_block (i := 1) HF1.out).trans (show _ = some _ from rfl); have ca2 := (cell_of_block (i := 2) HF1.out).trans (show _ = some _ from rfl); have ca3 := (cell_of_block (i := 3) HF1.out).trans (show _ = some _ from rfl); have ca4 := (cell_of_block (i := 4) HF1.out).trans (show _ = some _ from rfl); have za0 := frozen_of_block (i := 0) HF1.out; have za1 := frozen_of_block (i := 1) HF1.out; have za2 := frozen_of_block (i := 2) HF1.out; have za3 := frozen_of_block (i := 3) HF1.out; have za4 := frozen_of_block (i := 4) HF1.out
  have cb0 := (cell_of_block (i := 0) HF2.out).trans (show _ = some _ from rfl); have cb1 := (cell_of_block (i := 1) HF2.out).trans (show _ = some _ from rfl); have cb2 := (cell_of_block (i := 2) HF2.out).trans (show _ = some _ from rfl); have cb3 := (cell_of_block (i := 3) HF2.out).trans (show _ = some _ from rfl); have cb4 := (cell_of_block (i := 4) HF2.out).trans (show _ = some _ from rfl); have zb0 := frozen_of_block (i := 0) HF2.out; have zb1 := frozen_of_block (i := 1) HF2.out; have zb2 := frozen_of_block (i := 2) HF2.out; have zb3 := frozen_of_block (i := 3) HF2.out; have zb4 := frozen_of_block (i := 4) HF2.out
  have hc7 : ∀ k, k < w3.heap.size → k ≠ w.heap.size + 1 + 1 → k ≠ w.heap.size + 1 + 1 + 1 → w7.heap[k]? = w3.heap[k]? := fun k hk h1 h2 =>
    (H7.out.2.block k (Nat.lt_of_lt_of_le hk (Nat.le_trans HD3.out.size H6.out.2.size)) h2).trans ((H6.out.2.block k (Nat.lt_of_lt_of_le hk HD3.out.size) h1).trans (HD3.out.block k hk))
  have hb7 : Below w.heap.size w w7 := H3.out.1.trans ((HD3.out.mono H3.out.1.size).trans ((H6.out.2.below (Nat.le_trans H3.out.1.size HD3.out.size) (fun k e => by omega)).trans (H7.out.2.below (Nat.le_trans H3.out.1.size (Nat.le_trans HD3.out.size H6.out.2.size)) (fun k e => by omega))))
  have HZ := Aside0.mk (And.intro hc7 hb7)
  clear hc7 hb7
  go_wp2
  refine bodyPost_ret (v := .tuple #[nodeV o1 B3 d3 B4 d4, nodeV o2 E3 f3 E4 f4, .bool true]) (by simp [results, Try.results49, go_sem, ca0, ca1, ca2, ca3, ca4, cb0, cb1, cb2, cb3, cb4]) rfl ⟨B3, d3, B4, d4, E3, f3, E4, f4, rfl, ?_, ?_, HZ.out.2⟩
  · exact k25.M_lower (show w.heap.size ≤ w2.heap.size + 1 by omega) (M_upd H3.out.2.1 (fun k hb hk => HZ.out.1 k hk (by omega) (by omega)))
  · exact k25.M_lower (show w.heap.size ≤ w2.heap.size + 1 by omega) (M_upd H3.out.2.2 (fun k hb hk => HZ.out.1 k hk (by omega) (by omega)))

theorem Wf.two {d : Nat} {x : S25} (h : Wf (d + 1) x) (h2 : x.f0 = 2) : x = ⟨2, ⟨#[]⟩, ⟨#[]⟩, x.f3, x.f4⟩ := by
  rcases h with ⟨h1, _⟩ | ⟨ht, hg, _, _, _⟩
  · omega
  · obtain ⟨a, b, c, e, f⟩ := x
    simp_all
theorem Wf.some {d : Nat} {x : S25} (h : Wf (d + 1) x) (h2 : x.f0 = 2) : 0 < x.f4.length := by
  rcases h with ⟨h1, _⟩ | ⟨_, _, h4, _⟩
  · omega
  · exact List.length_pos_iff.2 h4
theorem spField_none {x : S25} {nm : ByteArray} (h : nm ∉ x.f3) : spField x nm = z25 := by
  unfold spField
  rw [if_neg (fun q => h (plc_iff.1 q.2))]
/-- A map of right items that is laid stands behind its RNode. -/
theorem holds_map {w : World} {r b : Nat} {F : Nat → Prop} {t v : ByteArray} {ks : List ByteArray} {is : List S25} {d : Nat} (h : MapOk d ks is) (hl : Live 4 t) (hr : RN w r b) (hy : YN w F b (.mk 4 t v (kv ks (is.map (toY d))))) :
    Holds w (some r) ⟨2, ⟨#[]⟩, ⟨#[]⟩, ks, is⟩ :=
  .inr ⟨r, d + 1, b, F, _, rfl, hr, hy, h.ysh t v, hl, h.told t v⟩
theorem holds_tree {w : World} {r b : Nat} {F : Nat → Prop} {d : Nat} {x : S25} (h : Wf d x) (hn : nodes d x ≤ 60) (hr : RN w r b) (hy : YN w F b (toY d x)) : Holds w (some r) x :=
  .inr ⟨r, d, b, F, _, rfl, hr, hy, h.ysh hn, h.live, h.ofY⟩
/-- What impl.Set and its like hand back: the whole. -/
def SetIPost (w : World) (o2 : S25) (e : Ending) (w' : World) : Prop := ∃ (A3 : Option Addr) (c3 : Nat) (A4 : Option Addr) (c4 : Nat), e = .returned (.tuple #[nodeV o2 A3 c3 A4 c4, .bool true]) ∧ nodeK w' o2 A3 c3 A4 c4 ∧ Below w.heap.size w w'
theorem M_span {w : World} {base : Nat} {x : S25} {cs : List Value} (h : k25.M w base (fun _ => True) x cs) {hi : Nat} (hh : w.heap.size = hi) : k25.M w 0 (fun k => base ≤ k ∧ k < hi) x cs :=
  k25.M_lower (Nat.zero_le _) (k25.M_mono (fun k hk => ⟨hk.2.1, by have := hk.2.2.1; omega⟩) (k25.M_bound h))
end Go.Proofs.Ytigpgkfgkjabmaa
