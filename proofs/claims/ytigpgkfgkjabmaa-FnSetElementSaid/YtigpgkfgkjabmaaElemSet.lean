/-
  ElementSetter.Filter: of a list of maps that have names.
-/
import Derived.Test.YtigpgkfgkjabmaaMatchB
import Derived.Test.YtigpgkfgkjabmaaNamesA
import Derived.Test.YtigpgkfgkjabmaaElements
namespace Go.Proofs.Ytigpgkfgkjabmaa
open Go.RowKit Go.Proofs.YtigpgkfgkjabmaaW.PrintWords Go.Proofs.YtigpgkfgkjabmaaW.PrintLast Go.Proofs.Ytigpgkfgkjabmaa.PFnFields
set_option linter.unusedVariables false
set_option linter.unusedSimpArgs false

theorem ymapfull_calls (w : World) (b : Nat) (t v : ByteArray) (A : Option Addr) (n c : Nat) (hn : NB w b 4 t v (.slice A n c)) (h0 : 0 < n) (hm : n ≤ 4000) :
    Calls Try.prog 97 #[ptr b] w fun e w' => e = .returned (.bool false) ∧ w = w' := by
  have c1 := hn.kind
  have c6 := hn.content
  have hd : decide ((n : Int) = 0) = false := by simp; omega
  have hd2 : ((n : Int) == 0) = false := by simp; omega
  have hd3 : n ≠ 0 := by omega
  go_enter Try.func97, Try.ntmps97
  go_wp2
  go_ret
  exact ⟨rfl, rfl⟩
theorem rmapfull_calls (w : World) (r b : Nat) (t v : ByteArray) (A : Option Addr) (n c : Nat) (hr : RN w r b) (hn : NB w b 4 t v (.slice A n c)) (hl : Live 4 t) (h0 : 0 < n) (hm : n ≤ 4000) :
    Calls Try.prog 125 #[ptr r] w fun e w' => e = .returned (.bool false) ∧ w = w' := by
  go_enter Try.func125, Try.ntmps125
  go_wp2_with (first | (go_at_call 83; refine (missing_calls _ r b hr 4 t v (.slice A n c) hn hl).mono ?_; rintro e w' ⟨rfl, rfl⟩) | (go_at_call 72; refine (ynode_calls _ r b hr 4 t v (.slice A n c) hn hl).mono ?_; rintro e w' ⟨rfl, rfl⟩) | (go_at_call 97; refine (ymapfull_calls _ b t v A n c hn h0 hm).mono ?_; rintro e w' ⟨rfl, rfl⟩))
  go_ret
  exact ⟨rfl, rfl⟩
/-- An element setter's cells. -/
abbrev es (E : Option Nat) (kx ck vx cv : Nat) : Array Value := #[.string ⟨#[]⟩, .pointer (E.map fun k => ⟨k, 0, none⟩), .slice (some ⟨kx, 0, none⟩) 1 ck, .slice (some ⟨vx, 0, none⟩) 1 cv]
theorem ismapnode_calls (w : World) (E : Option Nat) (kx ck vx cv r b : Nat) (t v : ByteArray) (A : Option Addr) (n c : Nat) (hr : RN w r b) (hn : NB w b 4 t v (.slice A n c)) (hl : Live 4 t) (he : n % 2 = 0) (hm : n ≤ 4000) :
    Calls Try.prog 126 #[.agg (es E kx ck vx cv), ptr r] w fun e w' => e = .returned (.bool true) ∧ Below w.heap.size w w' := by
  have HR := Aside0.mk hr
  have HN := Aside0.mk hn
  have HL := Aside0.mk hl
  have HE := Aside0.mk he
  clear hr hn hl he
  go_enter Try.func126, Try.ntmps126
  have hb0 : ∀ o, Below w.heap.size w (w.alloc o) := fun o => (Below.refl _ _).alloc (Nat.le_refl _) _
  have HB0 := Aside0.mk hb0
  clear hb0
  go_wp2_with fail
  refine (valid_calls _ r b (HR.out.below (HB0.out _)) 4 t v A n c (HN.out.below (HB0.out _)) HL.out (fun _ => HE.out) (by omega)).mono ?_
  rintro e w1 ⟨rfl, rfl⟩
  go_wp2
  go_ret
  exact ⟨rfl, HB0.out _⟩
/-- An element that is a map with a name; m tells whether its name is sv. -/
structure ElemOk (w : World) (p : Nat) (sv : ByteArray) (m : Bool) (t v : ByteArray) (A : Option Addr) (g c : Nat) (ks : List ByteArray) (bs : List Nat) (vt : Nat → ByteArray) : Prop where
  nb : NB w p 4 t v (.slice A bs.length c)
  live : Live 4 t
  at_ : 0 < ks.length → A = some ⟨g, 0, none⟩
  len : bs.length = 2 * ks.length
  few : ks.length ≤ 1000
  full : 0 < ks.length
  cell : ∀ i (h : i < bs.length), w.cell? ⟨g, i, none⟩ = some (ptr bs[i])
  key : ∀ j (h : j < ks.length), ∃ t cv, NB w (bs.getD (2 * j) 0) 8 t ks[j] cv
  val : ∀ j (h : j < ks.length), ∃ k t cv, NB w (bs.getD (2 * j + 1) 0) k t (vt j) cv
  name : nameB ∈ ks
  met : ∀ j, ks[j]? = some nameB → (m = true ↔ vt j = sv)
theorem ElemOk.below {w w' : World} {p : Nat} {sv : ByteArray} {m : Bool} {t v : ByteArray} {A : Option Addr} {g c : Nat} {ks : List ByteArray} {bs : List Nat} {vt : Nat → ByteArray} (h : ElemOk w p sv m t v A g c ks bs vt) (hb : Below w.heap.size w w') : ElemOk w' p sv m t v A g c ks bs vt :=
  ⟨h.nb.below hb, h.live, h.at_, h.len, h.few, h.full, fun i hi => (hb.cell (World.block_lt_of_cell? w _ (h.cell i hi))).trans (h.cell i hi), fun j hj => by obtain ⟨a, b, c⟩ := h.key j hj; exact ⟨a, b, c.below hb⟩, fun j hj => by obtain ⟨k, a, b, c⟩ := h.val j hj; exact ⟨k, a, b, c.below hb⟩, h.name, h.met⟩
/-- What is handed on. -/
def selN (E : Option Nat) (ms : Nat → Bool) (bs : List Nat) : Nat → List Nat
  | 0 => []
  | j + 1 => selN E ms bs j ++ (if ms j then E.toList else [bs.getD j 0])
def anyN (ms : Nat → Bool) : Nat → Bool
  | 0 => false
  | j + 1 => anyN ms j || ms j
theorem selN_len (E : Option Nat) (ms : Nat → Bool) (bs : List Nat) : ∀ j, (selN E ms bs j).length ≤ j
  | 0 => Nat.le_refl _
  | j + 1 => by
    have h := selN_len E ms bs j
    unfold selN
    rw [List.length_append]
    split
    · cases E <;> simp <;> omega
    · simp; omega
theorem fmB_method (nm sv : ByteArray) (n : Nat) (wa : World) : (method (n + 1) 159 (.agg (fm nm (.pointer none) sv (.pointer none))) "Filter").run Try.prog wa = .ok (130, .agg (fm nm (.pointer none) sv (.pointer none))) wa := by kernel_rfl
theorem newrnil_calls (w : World) :
    Calls Try.prog 63 #[.pointer none] w fun e w' => e = .returned (ptr w.heap.size) ∧ w.alloc (.cells (rcells (.slice none 0 0) (.pointer none) false (.slice none 0 0)) 124) = w' := by
  go_enter Try.func63, Try.ntmps63
  go_wp2
  go_ret
  exact ⟨rfl, rfl⟩
theorem ynodenil_calls (w : World) (r : Nat) (h : w.heap[r]? = some (.cells (rcells (.slice none 0 0) (.pointer none) false (.slice none 0 0)) 124 (0, 0))) :
    Calls Try.prog 72 #[ptr r] w fun e w' => e = .returned (.pointer none) ∧ w = w' := by
  have c1 : w.cell? ⟨r, 1, none⟩ = some (.pointer none) := by rw [cell_of_block h]; rfl
  go_enter Try.func72, Try.ntmps72
  go_wp2
  go_ret
  exact ⟨rfl, rfl⟩
theorem isnilnil_calls (w : World) (r : Nat) (h : w.heap[r]? = some (.cells (rcells (.slice none 0 0) (.pointer none) false (.slice none 0 0)) 124 (0, 0))) :
    Calls Try.prog 94 #[ptr r] w fun e w' => e = .returned (.bool true) ∧ w = w' := by
  go_enter Try.func94, Try.ntmps94
  go_wp2_with (go_at_call 72; refine (ynodenil_calls _ r h).mono ?_; rintro e w' ⟨rfl, rfl⟩)
  go_ret
  exact ⟨rfl, rfl⟩
theorem missnil_calls (w : World) (r : Nat) (h : w.heap[r]? = some (.cells (rcells (.slice none 0 0) (.pointer none) false (.slice none 0 0)) 124 (0, 0))) :
    Calls Try.prog 83 #[ptr r] w fun e w' => e = .returned (.bool true) ∧ w = w' := by
  go_enter Try.func83, Try.ntmps83
  go_wp2_with (first | (go_at_call 94; refine (isnilnil_calls _ r h).mono ?_; rintro e w' ⟨rfl, rfl⟩) | (go_at_call 72; refine (ynodenil_calls _ r h).mono ?_; rintro e w' ⟨rfl, rfl⟩))
  go_ret
  exact ⟨rfl, rfl⟩
theorem nameNE : nameB.toList.isEmpty = false := by kernel_rfl
def elemset23.T : Bool × List (List Nat × List Nat) := (true, [([], []), ([], []), ([1], [1]), ([], []), ([2, 3], [2, 3]), ([4], [4]), ([], []), ([6], [6]), ([], []), ([7, 8], [7, 8]), ([9], [9]), ([5, 10], [5, 10]), ([11], [11]), ([12], [12]), ([0, 13], [0, 13]), ([14], [14]), ([15], [15]), ([15], [15]), ([16, 14, 0, 1, 2, 3, 4, 5, 6, 7, 8, 9, 10, 11, 12, 13, 14, 15, 16], [16]), ([17, 18, 0, 1, 2, 3, 4, 5, 6, 7, 8, 9, 10, 11, 12, 13, 14, 15, 16, 17, 18], [17])])
def elemset23.B : List Nat := [0, 0, 2, 0, 14, 30, 0, 64, 0, 448, 960, 2046, 4094, 8190, 16383, 32767, 65535, 65535, 131071, 524287]
theorem elemset23.tab : rtab .any (opsOf Try.f123 23) = elemset23.T := by kernel_rfl
theorem elemset23.bits : waitsOk elemset23.T.2 elemset23.B = true := by kernel_rfl
def elemset40.T : Bool × List (List Nat × List Nat) := (true, [([], []), ([0], [0]), ([], []), ([2, 1], [2]), ([3], [3]), ([4], [4]), ([5], [5]), ([], []), ([7], [7]), ([8], [8]), ([6, 9, 3], [6, 9]), ([1, 0, 1, 2, 3, 4, 5, 6, 7, 8, 9, 10], [1]), ([11, 0, 1, 2, 3, 4, 5, 6, 7, 8, 9, 10], [11]), ([12, 10, 10, 0, 1, 2, 3, 4, 5, 6, 7, 8, 9, 10], [10, 12])])
def elemset40.B : List Nat := [0, 1, 0, 7, 15, 31, 63, 0, 128, 384, 1023, 2047, 4095, 8191]
theorem elemset40.tab : rtab .any (opsOf Try.f123 40) = elemset40.T := by kernel_rfl
theorem elemset40.bits : waitsOk elemset40.T.2 elemset40.B = true := by kernel_rfl
/-- The pointers handed on, in a row of their own; nothing that came in is changed. -/
def ElemLoop (w wr : World) (E : Option Nat) (kx ck vx cv : Nat) (ms : Nat → Bool) (bs : List Nat) (j : Nat) (l q : Value) : Prop :=
  ∃ (B : Option Addr) (d : Nat), l = .slice B (selN E ms bs j).length d ∧ q = .bool (anyN ms j) ∧ Below w.heap.size w wr ∧ wr.heap[w.heap.size]? = some (.cells (es E kx ck vx cv) 99 (0, 0)) ∧
    wr.ownsRow (w.heap.size + 1) 88 1 l (selN E ms bs j).length (ptrs (selN E ms bs j))
/-- A row that has grown by one pointer, and the world ahead of it. -/
def GrownRowB (base : Nat) (wr w' : World) (cv : Value) (bs : List Nat) (nb ga cap : Nat) : Prop :=
  ∃ wc, Below wr.heap.size wr wc ∧ w'.ownsRow base 88 1 (.slice (some ⟨ga, 0, none⟩) (bs.length + 1) cap) (bs.length + 1) (ptrs bs ++ ptrs [nb]) ∧ wc.grownBy w' cv.ownBlock
def finN (E : Option Nat) (ms : Nat → Bool) (bs : List Nat) : List Nat := selN E ms bs bs.length ++ (if anyN ms bs.length then [] else E.toList)
def ElemSetPost (w : World) (b : Nat) (t v : ByteArray) (E : Option Nat) (ms : Nat → Bool) (bs : List Nat) (o : Option Nat) (w' : World) : Prop :=
  Chg (fun k => k = b) w w' ∧ (∃ nv, w'.heap[b]? = some (.cells (ycells 2 t v nv) 109 (0, 0)) ∧ w'.ownsRow (w.heap.size + 1) 88 1 nv (finN E ms bs).length (ptrs (finN E ms bs))) ∧
    ((E = none ∧ o = none) ∨ ∃ ep rr, E = some ep ∧ o = some rr ∧ RN w' rr ep ∧ w.heap.size ≤ rr)
set_option maxRecDepth 100000 in
set_option maxHeartbeats 3200000 in
theorem elemset_calls (w : World) (r nd : Nat) (t v : ByteArray) (A : Option Addr) (g c : Nat) (bs : List Nat) (E : Option Nat) (kx ck vx cv : Nat) (sv : ByteArray) (ms : Nat → Bool) (hs : sv.toList.isEmpty = false) (hr : RN w r nd) (hn : NB w nd 2 t v (.slice A bs.length c)) (hl : Live 2 t) (hA : 0 < bs.length → A = some ⟨g, 0, none⟩) (hm : bs.length ≤ 1000)
    (hcell : ∀ i (h : i < bs.length), w.cell? ⟨g, i, none⟩ = some (ptr bs[i])) (hk : w.cell? ⟨kx, 0, none⟩ = some (.string nameB)) (hv : w.cell? ⟨vx, 0, none⟩ = some (.string sv))
    (hel : ∀ j (h : j < bs.length), ∃ t v A g c ks cs vt, ElemOk w bs[j] sv (ms j) t v A g c ks cs vt)
    (hEl : ∀ ep, E = some ep → ∃ k t v cv, NB w ep k t v cv ∧ Live k t ∧ ep ≠ nd) :
    Calls Try.prog 123 #[.agg (es E kx ck vx cv), ptr r] w (FilterPost (ElemSetPost w nd t v E ms bs)) := by
  have HR := Aside0.mk hr
  have HN := Aside0.mk hn
  have HL := Aside0.mk hl
  have HC := Aside0.mk (And.intro hA hcell)
  have HKV := Aside0.mk (And.intro hk hv)
  have HE := Aside0.mk hel
  have HEL := Aside0.mk hEl
  clear hr hn hl hA hcell hk hv hel hEl
  go_enter Try.func123, Try.ntmps123
  go_wp2_with fail
  obtain ⟨w0, e0⟩ : ∃ w0, w0 = w.alloc (.cells (es E kx ck vx cv) 99) := ⟨_, rfl⟩
  rw [← e0]
  have hb0 : Below w.heap.size w w0 := by rw [e0]; exact (Below.refl _ _).alloc (Nat.le_refl _) _
  have hf0 : w0.heap[w.heap.size]? = some (.cells (es E kx ck vx cv) 99 (0, 0)) := by rw [e0]; exact heap_at _ rfl
  have H0 := Aside0.mk (And.intro hb0 hf0)
  clear hb0 hf0 e0
  refine (valid_calls w0 r nd (HR.out.below H0.out.1) 2 t v A bs.length c (HN.out.below H0.out.1) HL.out (fun h => by cases h) (by omega)).mono ?_
  rintro e w1 ⟨rfl, rfl⟩
  have c6 := (HN.out.below H0.out.1).content
  go_wp2_with ((go_at_call 72; refine (ynode_calls _ r nd (HR.out.below H0.out.1) 2 t v (.slice A bs.length c) (HN.out.below H0.out.1) HL.out).mono ?_; rintro e w' ⟨rfl, rfl⟩))
  clear c6
  go_loopg [36, 7, 8] bs.length (fun k i l q wr => ∃ j : Nat, i = .int .i64 j ∧ Aside0 (j ≤ bs.length ∧ k + j = bs.length) ∧ Aside0 (ElemLoop w wr E kx ck vx cv ms bs j l q))
  case atStart => exact ⟨0, rfl, ⟨by simp⟩, ⟨none, 0, rfl, rfl, H0.out.1, H0.out.2, own_nil _ _ _ _⟩⟩
  case round =>
    obtain ⟨j, rfl, HJ, HLP⟩ := hrel
    have hq0 : (0 : Int) ≤ (j : Int) := Int.natCast_nonneg _
    have hq1 : (j : Int) ≤ 4000 := by have := HJ.out; omega
    obtain ⟨B, d, rfl, rfl, HB, HF, HO⟩ := HLP.out
    have HBF := Aside0.mk (And.intro HB (And.intro HF HO))
    clear HB HF HO HLP
    by_cases hj : j < bs.length
    · have hjd : decide ((j : Int) < (bs.length : Int)) = true := by simp; omega
      obtain rfl := HC.out.1 (by omega)
      obtain ⟨et, ev, eA, eg, ec, ks, cs, vt, hok⟩ := HE.out j hj
      obtain ⟨p, hp⟩ : ∃ p, p = bs[j] := ⟨_, rfl⟩
      have hcj := (HBF.out.1.cell (World.block_lt_of_cell? w _ (HC.out.2 j hj))).trans (HC.out.2 j hj)
      rw [← hp] at hcj hok
      have HP := Aside0.mk hp
      have HOK := Aside0.mk (hok.below HBF.out.1)
      clear hp hok
      go_wp2_with (go_at_call 66; refine (content_calls wr r nd (HR.out.below HBF.out.1) 2 _ _ (.slice (some ⟨g, 0, none⟩) bs.length c) (HN.out.below HBF.out.1) HL.out).mono ?_; rintro e w' ⟨rfl, rfl⟩)
      refine (newrnode_calls wr p).mono ?_
      rintro e w1 ⟨rfl, rfl⟩
      have hb1 : Below wr.heap.size wr (wr.alloc (.cells (rcells (.slice none 0 0) (ptr p) false (.slice none 0 0)) 124)) := (Below.refl _ _).alloc (Nat.le_refl _) _
      have hr1 := RN.new wr p
      generalize wr.alloc (.cells (rcells (.slice none 0 0) (ptr p) false (.slice none 0 0)) 124) = w1 at hb1 hr1 ⊢
      have HB1 := Aside0.mk (And.intro hb1 (And.intro hr1 (HOK.out.below hb1)))
      have HF1 := Aside0.mk ((hb1.block _ (lt_of_block HBF.out.2.1)).trans HBF.out.2.1)
      clear hb1 hr1 HOK hcj
      have cf0 : w1.cell? ⟨w.heap.size, 0, none⟩ = some (.string ⟨#[]⟩) := by rw [cell_of_block HF1.out]; rfl
      have cf1 : w1.cell? ⟨w.heap.size, 1, none⟩ = some (.pointer (E.map fun k => ⟨k, 0, none⟩)) := by rw [cell_of_block HF1.out]; rfl
      have cf2 : w1.cell? ⟨w.heap.size, 2, none⟩ = some (.slice (some ⟨kx, 0, none⟩) 1 ck) := by rw [cell_of_block HF1.out]; rfl
      have cf3 : w1.cell? ⟨w.heap.size, 3, none⟩ = some (.slice (some ⟨vx, 0, none⟩) 1 cv) := by rw [cell_of_block HF1.out]; rfl
      go_wp2_with (first | (go_at_call 83; refine (missing_calls w1 wr.heap.size p HB1.out.2.1 4 et ev _ HB1.out.2.2.nb HB1.out.2.2.live).mono ?_; rintro e w' ⟨rfl, rfl⟩) | (go_at_call 125; refine (rmapfull_calls w1 wr.heap.size p et ev eA cs.length ec HB1.out.2.1 HB1.out.2.2.nb HB1.out.2.2.live (by have := HB1.out.2.2.full; have := HB1.out.2.2.len; omega) (by have := HB1.out.2.2.few; have := HB1.out.2.2.len; omega)).mono ?_; rintro e w' ⟨rfl, rfl⟩))
      refine (ismapnode_calls w1 E kx ck vx cv wr.heap.size p et ev eA cs.length ec HB1.out.2.1 HB1.out.2.2.nb HB1.out.2.2.live (by have := HB1.out.2.2.len; omega) (by have := HB1.out.2.2.few; have := HB1.out.2.2.len; omega)).mono ?_
      rintro e w2 ⟨rfl, hb2⟩
      have HB2 := Aside0.mk (And.intro (HB1.out.1.trans (hb2.mono HB1.out.1.size)) (And.intro (HB1.out.2.1.below hb2) (HB1.out.2.2.below hb2)))
      have HF2 := Aside0.mk ((hb2.block _ (lt_of_block HF1.out)).trans HF1.out)
      clear hb2 HB1 HF1 cf0 cf1 cf2 cf3
      have cf2 : w2.cell? ⟨w.heap.size, 2, none⟩ = some (.slice (some ⟨kx, 0, none⟩) 1 ck) := by rw [cell_of_block HF2.out]; rfl
      go_wp2_with fail
      have hsz2 : w.heap.size + 1 ≤ wr.heap.size := lt_of_block HBF.out.2.1
      obtain ⟨rn, hrn⟩ : ∃ rn, rn = wr.heap.size := ⟨_, rfl⟩
      have hrow2 : w2.ownsRow (w.heap.size + 1) 88 1 (.slice B (selN E ms bs j).length d) (selN E ms bs j).length (ptrs (selN E ms bs j)) := own_move (w1 := w2) HBF.out.2.2 (fun k hk => HB2.out.1.block k (own_lt HBF.out.2.2 k hk))
      have H2 := Aside0.mk (And.intro (HBF.out.1.trans (HB2.out.1.mono HBF.out.1.size)) (And.intro hrow2 (And.intro HB2.out.2.1 HB2.out.2.2)))
      rw [← hrn] at H2 ⊢
      obtain ⟨gq, hgq⟩ : ∃ gq, gq = gk := ⟨_, rfl⟩
      have HGQ := Aside0.mk hgq
      clear hgq hrow2 HB2 HBF cf2 hrn hsz2
      go_loopg [67, 14] 1 (fun k i q wi => ∃ jj : Nat, i = .int .i64 jj ∧ q = .bool true ∧ Aside0 (k + jj = 1 ∧ Below w2.heap.size w2 wi ∧ (jj = 1 → ms j = true)))
      case atStart => exact ⟨0, rfl, rfl, ⟨rfl, Below.refl _ _, fun h => by cases h⟩⟩
      case round =>
        obtain ⟨jj, rfl, rfl, HI⟩ := hrel
        have HFI := Aside0.mk ((HI.out.2.1.block _ (lt_of_block HF2.out)).trans HF2.out)
        have cf1 := (cell_of_block (i := 1) HFI.out).trans (show _ = some (.pointer (E.map fun k => ⟨k, 0, none⟩)) from rfl)
        have cf2 := (cell_of_block (i := 2) HFI.out).trans (show _ = some (.slice (some ⟨kx, 0, none⟩) 1 ck) from rfl)
        have cf3 := (cell_of_block (i := 3) HFI.out).trans (show _ = some (.slice (some ⟨vx, 0, none⟩) 1 cv) from rfl)
        by_cases hjj : jj = 0
        · subst hjj
          go_wp2_with fail
          have HSC : Aside0 (∀ w' : World, Below wr.heap.size wr w' → w'.cell? ⟨w.heap.size, 2, none⟩ = some (.slice (some ⟨kx, 0, none⟩) 1 ck) ∧ w'.cell? ⟨w.heap.size, 3, none⟩ = some (.slice (some ⟨vx, 0, none⟩) 1 cv) ∧ w'.cell? ⟨kx, 0, none⟩ = some (.string nameB) ∧ w'.cell? ⟨vx, 0, none⟩ = some (.string sv)) := ⟨fun w' hb => by
            have hf' := (hb.block _ (lt_of_block HFI.out)).trans HFI.out
            have hbw : Below w.heap.size w w' := H2.out.1.trans ((HI.out.2.1.mono H2.out.1.size).trans (hb.mono (Nat.le_trans H2.out.1.size HI.out.2.1.size)))
            exact ⟨by rw [cell_of_block hf']; rfl, by rw [cell_of_block hf']; rfl, (hbw.cell (World.block_lt_of_cell? w _ HKV.out.1)).trans HKV.out.1, (hbw.cell (World.block_lt_of_cell? w _ HKV.out.2)).trans HKV.out.2⟩⟩
          clear cf1 cf2 cf3
          refine start_ (n := 20) (S := fun w' => w'.cell? ⟨w.heap.size, 2, none⟩ = some (.slice (some ⟨kx, 0, none⟩) 1 ck) ∧ w'.cell? ⟨w.heap.size, 3, none⟩ = some (.slice (some ⟨vx, 0, none⟩) 1 cv) ∧ w'.cell? ⟨kx, 0, none⟩ = some (.string nameB) ∧ w'.cell? ⟨vx, 0, none⟩ = some (.string sv)) (ds := [14]) #[false, false, false, false, false, false, false, false, false, false, false, false, false, false, false, false, false, false, false, false] (by kernel_rfl) rfl rfl (HSC.out _ (Below.refl _ _).drew) (fun hHeld => ?_)
          refine with_tabW (T := elemset23.T) (B := elemset23.B) elemset23.tab elemset23.bits (fun HT_ HW_ => ?_)
          have HB := Aside0.mk ((Below.refl wr.heap.size wr).drew)
          generalize wr.drew = wc at HB hHeld ⊢
          refine pure_ (i := 0) (N := (some 76)) (v := ?_) (a' := ?_) #[true, false, false, false, false, false, false, false, false, false, false, false, false, false, false, false, false, false, false, false] rfl rfl (any_of HT_.out (by kernel_rfl)) (fun _ _ _ h => h) (Or.inl ⟨by rfl, ?_⟩) ?_ ?_
          rotate_left
          · intro w'
            go_simp
            with_reducible rfl
          rotate_left
          · simp only [Act.put, List.setIfInBounds_toArray, List.set_cons_zero, List.set_cons_succ, i64_w, i32_w]
            rfl
          refine pure_ (i := 1) (N := (some 77)) (v := ?_) (a' := ?_) #[true, true, false, false, false, false, false, false, false, false, false, false, false, false, false, false, false, false, false, false] rfl rfl (any_of HT_.out (by kernel_rfl)) (fun _ _ _ h => h) (Or.inl ⟨by rfl, ?_⟩) ?_ ?_
          rotate_left
          · intro w'
            go_simp
            with_reducible rfl
          rotate_left
          · simp only [Act.put, List.setIfInBounds_toArray, List.set_cons_zero, List.set_cons_succ, i64_w, i32_w]
            rfl
          refine pure_ (i := 3) (N := (some 79)) (v := ?_) (a' := ?_) #[true, true, false, true, false, false, false, false, false, false, false, false, false, false, false, false, false, false, false, false] rfl rfl (any_of HT_.out (by kernel_rfl)) (fun _ _ _ h => h) (Or.inl ⟨by rfl, ?_⟩) ?_ ?_
          rotate_left
          · intro w'
            go_simp
            with_reducible rfl
          rotate_left
          · simp only [Act.put, List.setIfInBounds_toArray, List.set_cons_zero, List.set_cons_succ, i64_w, i32_w]
            rfl
          refine pure_ (i := 6) (N := (some 82)) (v := ?_) (a' := ?_) #[true, true, false, true, false, false, true, false, false, false, false, false, false, false, false, false, false, false, false, false] rfl rfl (any_of HT_.out (by kernel_rfl)) (fun _ _ _ h => h) (Or.inl ⟨by rfl, ?_⟩) ?_ ?_
          rotate_left
          · intro w'
            go_simp
            with_reducible rfl
          rotate_left
          · simp only [Act.put, List.setIfInBounds_toArray, List.set_cons_zero, List.set_cons_succ, i64_w, i32_w]
            rfl
          refine pure_ (i := 8) (N := (some 84)) (v := ?_) (a' := ?_) #[true, true, false, true, false, false, true, false, true, false, false, false, false, false, false, false, false, false, false, false] rfl rfl (any_of HT_.out (by kernel_rfl)) (fun _ _ _ h => h) (Or.inl ⟨by rfl, ?_⟩) ?_ ?_
          rotate_left
          · intro w'
            go_simp
            with_reducible rfl
          rotate_left
          · simp only [Act.put, List.setIfInBounds_toArray, List.set_cons_zero, List.set_cons_succ, i64_w, i32_w]
            rfl
          refine take_ (i := 2) (N := (some 78)) (v := ?_) (a' := ?_) #[true, true, true, true, false, false, true, false, true, false, false, false, false, false, false, false, false, false, false, false] rfl rfl (take_ofW HT_.out HW_.out (by kernel_rfl)) (fun _ _ _ h => h) (Or.inl ⟨by rfl, ?_⟩) hHeld ?_ ?_
          rotate_left
          · rintro w' ⟨s0, s1, s2, s3⟩
            go_simp
            with_reducible rfl
          rotate_left
          · simp only [Act.put, List.setIfInBounds_toArray, List.set_cons_zero, List.set_cons_succ, i64_w, i32_w]
            rfl
          refine pure_ (i := 4) (N := (some 80)) (v := ?_) (a' := ?_) #[true, true, true, true, true, false, true, false, true, false, false, false, false, false, false, false, false, false, false, false] rfl rfl (any_of HT_.out (by kernel_rfl)) (fun _ _ _ h => h) (Or.inl ⟨by rfl, ?_⟩) ?_ ?_
          rotate_left
          · intro w'
            go_simp
            with_reducible rfl
          rotate_left
          · simp only [Act.put, List.setIfInBounds_toArray, List.set_cons_zero, List.set_cons_succ, i64_w, i32_w]
            rfl
          refine take_ (i := 5) (N := (some 81)) (v := ?_) (a' := ?_) #[true, true, true, true, true, true, true, false, true, false, false, false, false, false, false, false, false, false, false, false] rfl rfl (take_ofW HT_.out HW_.out (by kernel_rfl)) (fun _ _ _ h => h) (Or.inl ⟨by rfl, ?_⟩) hHeld ?_ ?_
          rotate_left
          · rintro w' ⟨s0, s1, s2, s3⟩
            go_simp
            with_reducible rfl
          rotate_left
          · simp only [Act.put, List.setIfInBounds_toArray, List.set_cons_zero, List.set_cons_succ, i64_w, i32_w]
            rfl
          refine take_ (i := 7) (N := (some 83)) (v := ?_) (a' := ?_) #[true, true, true, true, true, true, true, true, true, false, false, false, false, false, false, false, false, false, false, false] rfl rfl (take_ofW HT_.out HW_.out (by kernel_rfl)) (fun _ _ _ h => h) (Or.inl ⟨by rfl, ?_⟩) hHeld ?_ ?_
          rotate_left
          · rintro w' ⟨s0, s1, s2, s3⟩
            go_simp
            with_reducible rfl
          rotate_left
          · simp only [Act.put, List.setIfInBounds_toArray, List.set_cons_zero, List.set_cons_succ, i64_w, i32_w]
            rfl
          refine pure_ (i := 9) (N := (some 85)) (v := ?_) (a' := ?_) #[true, true, true, true, true, true, true, true, true, true, false, false, false, false, false, false, false, false, false, false] rfl rfl (any_of HT_.out (by kernel_rfl)) (fun _ _ _ h => h) (Or.inl ⟨by rfl, ?_⟩) ?_ ?_
          rotate_left
          · intro w'
            go_simp
            with_reducible rfl
          rotate_left
          · simp only [Act.put, List.setIfInBounds_toArray, List.set_cons_zero, List.set_cons_succ, i64_w, i32_w]
            rfl
          refine take_ (i := 10) (N := (some 86)) (v := ?_) (a' := ?_) #[true, true, true, true, true, true, true, true, true, true, true, false, false, false, false, false, false, false, false, false] rfl rfl (take_ofW HT_.out HW_.out (by kernel_rfl)) (fun _ _ _ h => h) (Or.inl ⟨by rfl, ?_⟩) hHeld ?_ ?_
          rotate_left
          · rintro w' ⟨s0, s1, s2, s3⟩
            go_simp
            with_reducible rfl
          rotate_left
          · simp only [Act.put, List.setIfInBounds_toArray, List.set_cons_zero, List.set_cons_succ, i64_w, i32_w]
            rfl
          refine pure_ (i := 11) (N := (some 87)) (v := ?_) (a' := ?_) #[true, true, true, true, true, true, true, true, true, true, true, true, false, false, false, false, false, false, false, false] rfl rfl (any_of HT_.out (by kernel_rfl)) (fun _ _ _ h => h) (Or.inl ⟨by rfl, ?_⟩) ?_ ?_
          rotate_left
          · intro w'
            go_simp
            with_reducible rfl
          rotate_left
          · simp only [Act.put, List.setIfInBounds_toArray, List.set_cons_zero, List.set_cons_succ, i64_w, i32_w]
            rfl
          refine pure_ (i := 12) (N := (some 88)) (v := ?_) (a' := ?_) #[true, true, true, true, true, true, true, true, true, true, true, true, true, false, false, false, false, false, false, false] rfl rfl (any_of HT_.out (by kernel_rfl)) (fun _ _ _ h => h) (Or.inl ⟨by rfl, ?_⟩) ?_ ?_
          rotate_left
          · intro w'
            go_simp
            with_reducible rfl
          rotate_left
          · simp only [Act.put, List.setIfInBounds_toArray, List.set_cons_zero, List.set_cons_succ, i64_w, i32_w]
            rfl
          refine one_ (i := 13) (N := (some 89)) #[true, true, true, true, true, true, true, true, true, true, true, true, true, true, false, false, false, false, false, false] rfl rfl (one_of HT_.out (by kernel_rfl)) (by decide) (fun K hK => ?_)
          rw [if_pos (by rfl)]
          go_simp
          obtain ⟨wn, g5, e3, eqg, _, hb3, hh3, hs3⟩ := alloc_step (Chg.refl (fun _ => False) wc) (.cells #[.iface 159 (.agg (fm nameB (.pointer none) sv (.pointer none)))] 134)
          rw [e3, eqg]
          have HB3 := Aside0.mk (And.intro (HB.out.trans (hb3.mono HB.out.size)) hh3)
          clear HB
          have HB := Aside0.mk HB3.out.1
          have HG5 := Aside0.mk HB3.out.2
          refine hK.out _ _ (HSC.out _ HB3.out.1) (fun hHeld => ?_)
          clear e3 hb3 hh3 hs3 HB3
          rename World => wc
          clear hK K
          refine norm_ (a' := ?_) ?_ ?_
          rotate_left
          · first | (simp only [Act.put, List.setIfInBounds_toArray, List.set_cons_zero, List.set_cons_succ, i64_w, i32_w]; rfl) | rfl
          refine last_ (i := 14) (N := (some 90)) #[true, true, true, true, true, true, true, true, true, true, true, true, true, true, true, false, false, false, false, false] rfl rfl (one_of HT_.out (by kernel_rfl)) (by decide) (fun K hK => ?_)
          refine goes_ Try.func75 (by kernel_rfl) rfl #[ptr rn, .slice (some ⟨g5, 0, none⟩) 1 1] (by rfl) rfl rfl (by simp only [List.map_toArray, List.map_cons, List.map_nil]; rfl) ?_
          have hb2c : Below w2.heap.size w2 wc := HI.out.2.1.trans (HB.out.mono HI.out.2.1.size)
          have hokc := H2.out.2.2.2.below hb2c
          refine (pipe1_calls wc rn p 4 et ev _ (H2.out.2.2.1.below hb2c) hokc.nb (by rfl) g5 1 159 _ _ 130 (by rw [cell_of_block HG5.out]; rfl) (MatchBPost wc ks nameB sv vt) (fun n wa => fmB_method nameB sv n wa) (fun xs wa => enters_ Try.func130 rfl rfl xs wa)
            (matchB_calls wc rn p et ev eA eg ec nameB sv ks cs vt nameNE hs (H2.out.2.2.1.below hb2c) hokc.nb hokc.live hokc.at_ hokc.len hokc.few hokc.cell hokc.key hokc.val)).mono ?_
          rintro e w5 ⟨o5, rfl, hb5, hcase⟩
          refine ⟨_, rfl, ?_⟩
          have H5 := Aside0.mk (And.intro (hb2c.trans (hb5.mono hb2c.size)) hcase)
          clear hb2c hokc hb5 hcase
          refine hK.out _ _ ?_
          clear hK K
          refine norm_ (a' := ?_) ?_ ?_
          rotate_left
          · first | (simp only [Act.put, List.setIfInBounds_toArray, List.set_cons_zero, List.set_cons_succ, i64_w, i32_w]; rfl) | rfl
          refine pure_ (i := 15) (N := (some 75)) (v := ?_) (a' := ?_) #[true, true, true, true, true, true, true, true, true, true, true, true, true, true, true, true, false, false, false, false] rfl rfl (any_of HT_.out (by kernel_rfl)) (fun _ _ _ h => h) (Or.inl ⟨by rfl, ?_⟩) ?_ ?_
          rotate_left
          · intro w'
            go_simp
            with_reducible rfl
          rotate_left
          · simp only [Act.put, List.setIfInBounds_toArray, List.set_cons_zero, List.set_cons_succ, i64_w, i32_w]
            rfl
          refine pure_ (i := 16) (N := (some 91)) (v := ?_) (a' := ?_) #[true, true, true, true, true, true, true, true, true, true, true, true, true, true, true, true, true, false, false, false] rfl rfl (any_of HT_.out (by kernel_rfl)) (fun _ _ _ h => h) (Or.inl ⟨by rfl, ?_⟩) ?_ ?_
          rotate_left
          · intro w'
            go_simp
            with_reducible rfl
          rotate_left
          · simp only [Act.put, List.setIfInBounds_toArray, List.set_cons_zero, List.set_cons_succ, i64_w, i32_w]
            rfl
          refine pure_ (i := 17) (N := (some 92)) (v := ?_) (a' := ?_) #[true, true, true, true, true, true, true, true, true, true, true, true, true, true, true, true, true, true, false, false] rfl rfl (any_of HT_.out (by kernel_rfl)) (fun _ _ _ h => h) (Or.inl ⟨by rfl, ?_⟩) ?_ ?_
          rotate_left
          · intro w'
            go_simp
            with_reducible rfl
          rotate_left
          · simp only [Act.put, List.setIfInBounds_toArray, List.set_cons_zero, List.set_cons_succ, i64_w, i32_w]
            rfl
          refine pure_ (i := 18) (N := (some 12)) (v := ?_) (a' := ?_) #[true, true, true, true, true, true, true, true, true, true, true, true, true, true, true, true, true, true, true, false] rfl rfl (any_of HT_.out (by kernel_rfl)) (fun _ _ _ h => h) (Or.inl ⟨by rfl, ?_⟩) ?_ ?_
          rotate_left
          · intro w'
            go_simp
            with_reducible rfl
          rotate_left
          · simp only [Act.put, List.setIfInBounds_toArray, List.set_cons_zero, List.set_cons_succ, i64_w, i32_w]
            rfl
          refine pure_ (i := 19) (N := (some 13)) (v := ?_) (a' := ?_) #[true, true, true, true, true, true, true, true, true, true, true, true, true, true, true, true, true, true, true, true] rfl rfl (any_of HT_.out (by kernel_rfl)) (fun _ _ _ h => h) (Or.inl ⟨by rfl, ?_⟩) ?_ ?_
          rotate_left
          · intro w'
            go_simp
            with_reducible rfl
          rotate_left
          · simp only [Act.put, List.setIfInBounds_toArray, List.set_cons_zero, List.set_cons_succ, i64_w, i32_w]
            rfl
          refine done_ (done_of HT_.out (by kernel_rfl)) ?_
          have HF5 := Aside0.mk ((H5.out.1.block _ (lt_of_block HF2.out)).trans HF2.out)
          have cf3 := (cell_of_block (i := 3) HF5.out).trans (show _ = some (.slice (some ⟨vx, 0, none⟩) 1 cv) from rfl)
          rcases o5 with _ | o5
          · have HMS : Aside0 (ms j = false) := ⟨by
              rcases H5.out.2 with ⟨_, h | ⟨j', h1, h2⟩⟩ | ⟨_, _, _, _, h⟩
              · exact absurd H2.out.2.2.2.name h
              · cases hm : ms j
                · rfl
                · exact absurd ((H2.out.2.2.2.met j' h1).1 hm) h2
              · cases h⟩
            go_wp2_with ((have hbo : Aside0 (w5.ownsRow (w.heap.size + 1) 88 1 (.slice B (selN E ms bs j).length d) (selN E ms bs j).length (ptrs (selN E ms bs j))) := ⟨own_move (w1 := w5) H2.out.2.1 (fun k hk => H5.out.1.block k (own_lt H2.out.2.1 k hk))⟩); (have hsz : w.heap.size + 1 ≤ w5.heap.size := Nat.le_trans (lt_of_block HF2.out |> fun h => (by omega : w.heap.size + 1 ≤ w2.heap.size)) H5.out.1.size); (with_reducible refine gate_builtin (b := .append) (xs := #[.tmp 105, .tmp 107]) rfl ?_); at_builtin; (refine print_append_cells (w0 := w5) (w.heap.size + 1) rfl (.tmp 105) (.tmp 107) 87 88 (.pointer none) 1 8 rfl Try.underlying87 Try.infoYP rfl (by decide) (by decide) (.slice B (selN E ms bs j).length d) (selN E ms bs j).length (ptrs (selN E ms bs j)) [ptr p] rfl rfl rfl (by simp [Value.oneCell']) hbo.out (Below.refl _ _) hsz (by have := selN_len E ms bs j; have := HJ.out; omega) ?_); (intro v1 w7 hown hb7 hg7 hat7); (obtain ⟨B1, d1, rfl⟩ := own_slice hown); (have HG := Aside0.mk (And.intro hown (And.intro hb7 hg7))); clear hown hb7 hg7 hat7)
            have hsel : selN E ms bs (j + 1) = selN E ms bs j ++ [p] := by
              show selN E ms bs j ++ (if ms j then E.toList else [bs.getD j 0]) = _
              rw [HMS.out, HP.out, List.getD_eq_getElem?_getD, List.getElem?_eq_getElem hj]
              rfl
            go_roundg (gq - 1)
            case measure => have := HJ.out; have := HGQ.out; omega
            case rel =>
              have hs2 := H2.out.1.size
              have hlt := lt_of_block HF2.out
              have hbw : Below w.heap.size w w7 := H2.out.1.trans ((H5.out.1.mono hs2).trans (HG.out.2.1.mono (by omega)))
              refine ⟨j + 1, by go_num, ⟨by have := HJ.out; have := HGQ.out; omega⟩, ⟨B1, d1, ?_, ?_, hbw, (HG.out.2.1.block _ (by omega)).trans ((H5.out.1.block _ hlt).trans HF2.out), ?_⟩⟩
              · rw [hsel, List.length_append]; rfl
              · simp [anyN, HMS.out]
              · rw [hsel, ptrs_append, List.length_append]; exact HG.out.1
          · have HMS : Aside0 (ms j = true) := ⟨by
              rcases H5.out.2 with ⟨h, _⟩ | ⟨j', _, h1, h2, _⟩
              · cases h
              · exact (H2.out.2.2.2.met j' h1).2 h2⟩
            go_wp2_with fail
            go_roundg (gk - 1)
            case measure => have := HI.out; omega
            case rel => exact ⟨1, by go_num, rfl, ⟨by have := HI.out; omega, H5.out.1, fun _ => HMS.out⟩⟩
        · have hj1 : jj = 1 := by have := HI.out; omega
          subst hj1
          have HMS := Aside0.mk (HI.out.2.2 rfl)
          rcases E with _ | ep
          · go_wp2_with fail
            go_roundg (gq - 1)
            case measure => have := HJ.out; have := HGQ.out; omega
            case rel =>
              have hsel : selN none ms bs (j + 1) = selN none ms bs j := by
                show selN none ms bs j ++ _ = _
                rw [HMS.out]; simp
              have hs2 := H2.out.1.size
              refine ⟨j + 1, by go_num, ⟨by have := HJ.out; have := HGQ.out; omega⟩, ⟨B, d, by rw [hsel], by simp [anyN, HMS.out], H2.out.1.trans (HI.out.2.1.mono hs2), HFI.out, ?_⟩⟩
              rw [hsel]
              exact own_move H2.out.2.1 (fun k hk => HI.out.2.1.block k (own_lt H2.out.2.1 k hk))
          · go_wp2_with ((have hbo : Aside0 (wr.ownsRow (w.heap.size + 1) 88 1 (.slice B (selN (some ep) ms bs j).length d) (selN (some ep) ms bs j).length (ptrs (selN (some ep) ms bs j))) := ⟨own_move (w1 := wr) H2.out.2.1 (fun k hk => HI.out.2.1.block k (own_lt H2.out.2.1 k hk))⟩); (have hsz : w.heap.size + 1 ≤ wr.heap.size := Nat.le_trans (lt_of_block HF2.out |> fun h => (by omega : w.heap.size + 1 ≤ w2.heap.size)) HI.out.2.1.size); (with_reducible refine gate_builtin (b := .append) (xs := #[.tmp 112, .tmp 115]) rfl ?_); at_builtin; (refine print_append_cells (w0 := wr) (w.heap.size + 1) rfl (.tmp 112) (.tmp 115) 87 88 (.pointer none) 1 8 rfl Try.underlying87 Try.infoYP rfl (by decide) (by decide) (.slice B (selN (some ep) ms bs j).length d) (selN (some ep) ms bs j).length (ptrs (selN (some ep) ms bs j)) [ptr ep] rfl rfl rfl (by simp [Value.oneCell']) hbo.out (Below.refl _ _) hsz (by have := selN_len (some ep) ms bs j; have := HJ.out; omega) ?_); (intro v1 w7 hown hb7 hg7 hat7); (obtain ⟨B1, d1, rfl⟩ := own_slice hown); (have HG := Aside0.mk (And.intro hown (And.intro hb7 hg7))); clear hown hb7 hg7 hat7)
            have hsel : selN (some ep) ms bs (j + 1) = selN (some ep) ms bs j ++ [ep] := by
              show selN (some ep) ms bs j ++ _ = _
              rw [HMS.out]; rfl
            go_roundg (gq - 1)
            case measure => have := HJ.out; have := HGQ.out; omega
            case rel =>
              have hs2 := H2.out.1.size
              have hlt := lt_of_block HF2.out
              have hbw : Below w.heap.size w w7 := H2.out.1.trans ((HI.out.2.1.mono hs2).trans (HG.out.2.1.mono (by omega)))
              refine ⟨j + 1, by go_num, ⟨by have := HJ.out; have := HGQ.out; omega⟩, ⟨B1, d1, ?_, ?_, hbw, (HG.out.2.1.block _ (by omega)).trans ((HI.out.2.1.block _ hlt).trans HF2.out), ?_⟩⟩
              · rw [hsel, List.length_append]; rfl
              · simp [anyN, HMS.out]
              · rw [hsel, ptrs_append, List.length_append]; exact HG.out.1
    · have hje : j = bs.length := by have := HJ.out; omega
      have hjd : decide ((j : Int) < (bs.length : Int)) = false := by simp; omega
      subst hje
      have hnb : NB wr nd 2 t v (.slice A bs.length c) := HN.out.below HBF.out.1
      have hrb : RN wr r nd := HR.out.below HBF.out.1
      have HNB := Aside0.mk (And.intro hnb hrb)
      have c6 := hnb.content
      have z6 : wr.frozen? ⟨nd, 6, none⟩ = false := frozen_of_block hnb
      clear hnb hrb
      have hbw : nd < w.heap.size := lt_of_block HN.out
      have hfn : ∀ u : Value, (wr.setCell ⟨nd, 6, none⟩ u).heap[w.heap.size]? = some (.cells (es E kx ck vx cv) 99 (0, 0)) := fun u => (heap_set_ne (by show w.heap.size ≠ nd; omega)).trans HBF.out.2.1
      have cfn : ∀ u : Value, (wr.setCell ⟨nd, 6, none⟩ u).cell? ⟨w.heap.size, 1, none⟩ = some (.pointer (E.map fun k => ⟨k, 0, none⟩)) := fun u => by rw [cell_of_block (hfn u)]; rfl
      have HFN := Aside0.mk hfn
      clear hfn
      rcases E with _ | ep
      · go_wp2_with ((go_at_call 72; refine (ynode_calls _ r nd HNB.out.2 2 t v (.slice A bs.length c) HNB.out.1 HL.out).mono ?_; rintro e w' ⟨rfl, rfl⟩))
        obtain ⟨w3, e3⟩ : ∃ w3, w3 = wr.setCell ⟨nd, 6, none⟩ (.slice B (selN none ms bs bs.length).length d) := ⟨_, rfl⟩
        rw [← e3]
        have hc3 : Chg (fun k => k = nd) wr w3 := by rw [e3]; exact (Chg.refl (fun k => k = nd) wr).setCell (p := ⟨nd, 6, none⟩) (.inl rfl) _
        have hnb3 : w3.heap[nd]? = some (.cells (ycells 2 t v (.slice B (selN none ms bs bs.length).length d)) 109 (0, 0)) := by rw [e3]; exact heap_set (a := ⟨nd, 6, none⟩) HNB.out.1 rfl
        have hro3 : w3.ownsRow (w.heap.size + 1) 88 1 (.slice B (selN none ms bs bs.length).length d) (selN none ms bs bs.length).length (ptrs (selN none ms bs bs.length)) := own_move (w1 := w3) HBF.out.2.2 (fun k hk => hc3.block k (own_lt HBF.out.2.2 k hk) (fun e => by have := own_base HBF.out.2.2 k hk; omega))
        have hf3 : w3.heap[w.heap.size]? = some (.cells (es none kx ck vx cv) 99 (0, 0)) := by rw [e3]; exact HFN.out _
        have H3 := Aside0.mk (And.intro ((Chg.of_below HBF.out.1 : Chg (fun k => k = nd) w wr).trans hc3 (fun k q => .inl q)) (And.intro hnb3 (And.intro hro3 (And.intro hf3 hc3))))
        clear hc3 hnb3 hro3 hf3 e3 cfn c6 z6
        refine (newrnil_calls w3).mono ?_
        rintro e w4 ⟨rfl, hw4⟩
        have h4 : w4.heap[w3.heap.size]? = some (.cells (rcells (.slice none 0 0) (.pointer none) false (.slice none 0 0)) 124 (0, 0)) := by rw [← hw4]; exact heap_at _ rfl
        have hb4 : Below w3.heap.size w3 w4 := by rw [← hw4]; exact (Below.refl _ _).alloc (Nat.le_refl _) _
        have H4 := Aside0.mk (And.intro h4 hb4)
        clear h4 hb4 hw4
        go_wp2_with (go_at_call 83; refine (missnil_calls w4 _ H4.out.1).mono ?_; rintro e w' ⟨rfl, rfl⟩)
        have hfin : finN none ms bs = selN none ms bs bs.length := by
          unfold finN
          split <;> simp
        refine bodyPost_ret (v := .tuple #[.pointer none, .nilIface]) (by simp [results, Try.results123, go_sem]) rfl ⟨none, rfl, H3.out.1.trans (Chg.of_below H4.out.2 : Chg (fun _ => False) w3 w4) (fun k q => q.elim), ⟨_, (H4.out.2.block _ (lt_of_block H3.out.2.1)).trans H3.out.2.1, ?_⟩, .inl ⟨rfl, rfl⟩⟩
        rw [hfin]
        exact own_move H3.out.2.2.1 (fun k hk => H4.out.2.block k (own_lt H3.out.2.2.1 k hk))
      · go_wp2_with ((go_at_call 72; refine (ynode_calls _ r nd HNB.out.2 2 t v (.slice A bs.length c) HNB.out.1 HL.out).mono ?_; rintro e w' ⟨rfl, rfl⟩))
        obtain ⟨w3, e3⟩ : ∃ w3, w3 = wr.setCell ⟨nd, 6, none⟩ (.slice B (selN (some ep) ms bs bs.length).length d) := ⟨_, rfl⟩
        rw [← e3]
        have hc3 : Chg (fun k => k = nd) wr w3 := by rw [e3]; exact (Chg.refl (fun k => k = nd) wr).setCell (p := ⟨nd, 6, none⟩) (.inl rfl) _
        have hnb3 : w3.heap[nd]? = some (.cells (ycells 2 t v (.slice B (selN (some ep) ms bs bs.length).length d)) 109 (0, 0)) := by rw [e3]; exact heap_set (a := ⟨nd, 6, none⟩) HNB.out.1 rfl
        have hro3 : w3.ownsRow (w.heap.size + 1) 88 1 (.slice B (selN (some ep) ms bs bs.length).length d) (selN (some ep) ms bs bs.length).length (ptrs (selN (some ep) ms bs bs.length)) := own_move (w1 := w3) HBF.out.2.2 (fun k hk => hc3.block k (own_lt HBF.out.2.2 k hk) (fun e => by have := own_base HBF.out.2.2 k hk; omega))
        have hf3 : w3.heap[w.heap.size]? = some (.cells (es (some ep) kx ck vx cv) 99 (0, 0)) := by rw [e3]; exact HFN.out _
        have H3 := Aside0.mk (And.intro ((Chg.of_below HBF.out.1 : Chg (fun k => k = nd) w wr).trans hc3 (fun k q => .inl q)) (And.intro hnb3 (And.intro hro3 (And.intro hf3 hc3))))
        clear hc3 hnb3 hro3 hf3 e3 cfn c6 z6
        obtain ⟨k5, t5, v5, cv5, hn5, hl5, hne5⟩ := HEL.out ep rfl
        have hn53 : NB w3 ep k5 t5 v5 cv5 := (H3.out.1.block _ (lt_of_block hn5) hne5).trans hn5
        refine (newrnode_calls w3 ep).mono ?_
        rintro e w4 ⟨rfl, hw4⟩
        have h4 : RN w4 w3.heap.size ep := by rw [← hw4]; exact RN.new w3 ep
        have hb4 : Below w3.heap.size w3 w4 := by rw [← hw4]; exact (Below.refl _ _).alloc (Nat.le_refl _) _
        have H4 := Aside0.mk (And.intro h4 (And.intro hb4 (And.intro (show NB w4 ep k5 t5 v5 cv5 from (hb4.block _ (lt_of_block hn53)).trans hn53) hl5)))
        have hf4 := (hb4.block _ (lt_of_block H3.out.2.2.2.1)).trans H3.out.2.2.2.1
        have cf1 := (cell_of_block (i := 1) hf4).trans (show _ = some (.pointer (some ⟨ep, 0, none⟩)) from rfl)
        have HF4 := Aside0.mk hf4
        clear h4 hb4 hw4 hn53 hn5 hl5 hne5 hf4
        cases hany : anyN ms bs.length
        · have HANY := Aside0.mk hany
          clear hany
          go_wp2_with (go_at_call 83; refine (missing_calls w4 _ ep H4.out.1 k5 t5 v5 cv5 H4.out.2.2.1 H4.out.2.2.2).mono ?_; rintro e w' ⟨rfl, rfl⟩)
          obtain ⟨sl, hsl⟩ : ∃ sl, sl = selN (some ep) ms bs bs.length := ⟨_, rfl⟩
          rw [← hsl] at H3 ⊢
          have hrb3 : RN w3 r nd := HNB.out.2.move (fun hlt => H3.out.2.2.2.2.block _ hlt (fun e => by
            obtain ⟨_, _, _, hh⟩ := HNB.out.2
            rw [e, HNB.out.1] at hh
            simp at hh))
          have hsl4 : sl.length ≤ 1000 := by rw [hsl]; exact Nat.le_trans (selN_len _ _ _ _) hm
          have H6 := Aside0.mk (And.intro (hrb3.below H4.out.2.1) (And.intro ((H4.out.2.1.block _ (lt_of_block H3.out.2.1)).trans H3.out.2.1) (own_move (w1 := w4) H3.out.2.2.1 (fun k hk => H4.out.2.1.block k (own_lt H3.out.2.2.1 k hk)))))
          have hbs4 : w.heap.size + 1 ≤ w4.heap.size := lt_of_block HF4.out
          have HSL := Aside0.mk (And.intro hsl hsl4)
          clear hrb3 hsl cf1
          obtain ⟨i0, hi0, hz0, hz1, hz2⟩ : ∃ i0 : TypeInfo, Aside0 (Try.prog.info? 88 = some i0) ∧ Aside0 (i0.zero = some (.pointer none)) ∧ Aside0 (i0.size = 1) ∧ Aside0 (i0.bytes = 8) := by
            obtain ⟨i0, h1, h2⟩ := Option.map_eq_some_iff.1 Try.infoYP
            simp only [Prod.mk.injEq] at h2
            exact ⟨i0, ⟨h1⟩, ⟨h2.1⟩, ⟨h2.2.1⟩, ⟨h2.2.2⟩⟩
          have BW : Aside0 (Below w4.heap.size w4 w4.drew) := ⟨(Below.refl _ _).drew⟩
          refine start_ (n := 14) (S := fun w' => True) (ds := []) #[false, false, false, false, false, false, false, false, false, false, false, false, false, false] (by kernel_rfl) rfl rfl trivial (fun hHeld => ?_)
          refine with_tabW (T := elemset40.T) (B := elemset40.B) elemset40.tab elemset40.bits (fun HT_ HW_ => ?_)
          refine pure_ (i := 0) (N := some 129) (v := ?_) (a' := ?_) #[true, false, false, false, false, false, false, false, false, false, false, false, false, false] rfl rfl (any_of HT_.out (by kernel_rfl)) (fun _ _ _ h => h) (Or.inl ⟨by rfl, ?_⟩) ?_ ?_
          rotate_left
          · intro w'
            go_simp
            with_reducible rfl
          rotate_left
          · simp only [Act.put, List.setIfInBounds_toArray, List.set_cons_zero, List.set_cons_succ, i64_w, i32_w]
            rfl
          refine pure_ (i := 2) (N := some 131) (v := ?_) (a' := ?_) #[true, false, true, false, false, false, false, false, false, false, false, false, false, false] rfl rfl (any_of HT_.out (by kernel_rfl)) (fun _ _ _ h => h) (Or.inl ⟨by rfl, ?_⟩) ?_ ?_
          rotate_left
          · intro w'
            go_simp
            with_reducible rfl
          rotate_left
          · simp only [Act.put, List.setIfInBounds_toArray, List.set_cons_zero, List.set_cons_succ, i64_w, i32_w]
            rfl
          refine pure_ (i := 7) (N := some 136) (v := ?_) (a' := ?_) #[true, false, true, false, false, false, false, true, false, false, false, false, false, false] rfl rfl (any_of HT_.out (by kernel_rfl)) (fun _ _ _ h => h) (Or.inl ⟨by rfl, ?_⟩) ?_ ?_
          rotate_left
          · intro w'
            go_simp
            with_reducible rfl
          rotate_left
          · simp only [Act.put, List.setIfInBounds_toArray, List.set_cons_zero, List.set_cons_succ, i64_w, i32_w]
            rfl
          refine inv_at [1, 3, 4, 5, 6, 8, 9, 10, 11, 12, 13] (fun a0_ b a w' => ∃ (g9 : Nat) (ga : Nat) (cap : Nat) (m9_ : Value) (m10_ : Value), a = putSel a0_ b [(1, 130, ptr nd), (3, 132, ptr nd), (4, 133, .pointer (some ⟨nd, 0, none⟩)), (5, 134, .pointer (some ⟨nd, 6, none⟩)), (6, 135, .slice B sl.length d), (8, 137, ptr ep), (9, 138, m9_), (10, 139, m10_), (11, 140, .pointer (some ⟨nd, 0, none⟩)), (12, 141, .pointer (some ⟨nd, 6, none⟩))] ∧ (b 10 = false → Below w4.heap.size w4 w') ∧ (b 9 = true → b 10 = false → w'.heap[g9]? = some (.cells #[ptr ep] 88 (0, 0))) ∧ (b 10 = true → b 13 = false → GrownRowB (w.heap.size + 1) w4 w' (.slice B sl.length d) sl ep ga cap) ∧ (b 13 = true → ∃ w5, GrownRowB (w.heap.size + 1) w4 w5 (.slice B sl.length d) sl ep ga cap ∧ w' = w5.setCell ⟨nd, 6, none⟩ (.slice (some ⟨ga, 0, none⟩) (sl.length + 1) cap)) ∧ (b 9 = true → (m9_ : Value) = .slice (some ⟨g9, 0, none⟩) 1 1) ∧ (b 10 = true → (m10_ : Value) = .slice (some ⟨ga, 0, none⟩) (sl.length + 1) cap)) HT_.out HW_.out (by kernel_rfl) (by kernel_rfl) ?_ ?_ ?_
          · exact ⟨0, 0, 0, .bool false, .bool false, by simp only [putSel, Bool.false_eq_true, if_false], fun _ => BW.out, fun h_ => absurd h_ (by decide), fun h_ => absurd h_ (by decide), fun h_ => absurd h_ (by decide), fun h_ => absurd h_ (by decide), fun h_ => absurd h_ (by decide)⟩
          · skip
            clear BW
            refine steps_cons ?_ ?_
            · rintro b a w' ⟨g9, ga, cap, m9_, m10_, ha, Q_BW, Q_B9, Q_GR, Q_GS, Q_X9_, Q_X10_⟩ hb_ hon hoff
              refine ⟨_, rfl, fun K hK => ?_⟩
              have e129 : a.tmps[129]? = some (ptr r) := by rw [ha]; exact (putSel_off rfl).trans rfl
              replace ha := Aside0.mk ha
              have BW := Aside0.mk (Q_BW (hoff 10 (by kernel_rfl)))
              refine goes_ Try.func72 (by kernel_rfl) rfl #[ptr r] (by rfl) rfl rfl (by first | (simp only [List.map_toArray, List.map_cons, List.map_nil, Act.eval, Array.getD_eq_getD_getElem?, Option.getD_some, e129]; done) | (simp only [List.map_toArray, List.map_cons, List.map_nil, Act.eval, Array.getD_eq_getD_getElem?, Option.getD_some, e129]; rfl)) ?_
              refine (ynode_calls w' r nd (H6.out.1.below BW.out) 2 t v _ (show NB w' nd 2 t v _ from (BW.out.block _ (lt_of_block H6.out.2.1)).trans H6.out.2.1) HL.out).mono ?_
              rintro e w9 ⟨rfl, rfl⟩
              refine ⟨_, rfl, ?_⟩
              refine hK.out _ _ ⟨g9, ga, cap, m9_, m10_, (by rw [ha.out]; exact putSel_upk 0 hb_ rfl rfl rfl), fun _ => BW.out, fun h0_ h1_ => (Q_B9 h0_ h1_), fun h0_ _ => absurd ((hoff 10 (by kernel_rfl)).symm.trans h0_) (by decide), fun h0_ => absurd ((hoff 13 (by kernel_rfl)).symm.trans h0_) (by decide), Q_X9_, fun h0_ => absurd ((hoff 10 (by kernel_rfl)).symm.trans h0_) (by decide)⟩
            refine steps_cons ?_ ?_
            · rintro b a w' ⟨g9, ga, cap, m9_, m10_, ha, Q_BW, Q_B9, Q_GR, Q_GS, Q_X9_, Q_X10_⟩ hb_ hon hoff
              refine ⟨_, rfl, fun K hK => ?_⟩
              have e131 : a.tmps[131]? = some (ptr r) := by rw [ha]; exact (putSel_off rfl).trans rfl
              replace ha := Aside0.mk ha
              have BW := Aside0.mk (Q_BW (hoff 10 (by kernel_rfl)))
              refine goes_ Try.func72 (by kernel_rfl) rfl #[ptr r] (by rfl) rfl rfl (by first | (simp only [List.map_toArray, List.map_cons, List.map_nil, Act.eval, Array.getD_eq_getD_getElem?, Option.getD_some, e131]; done) | (simp only [List.map_toArray, List.map_cons, List.map_nil, Act.eval, Array.getD_eq_getD_getElem?, Option.getD_some, e131]; rfl)) ?_
              refine (ynode_calls w' r nd (H6.out.1.below BW.out) 2 t v _ (show NB w' nd 2 t v _ from (BW.out.block _ (lt_of_block H6.out.2.1)).trans H6.out.2.1) HL.out).mono ?_
              rintro e w9 ⟨rfl, rfl⟩
              refine ⟨_, rfl, ?_⟩
              refine hK.out _ _ ⟨g9, ga, cap, m9_, m10_, (by rw [ha.out]; exact putSel_upk 1 hb_ rfl rfl rfl), fun _ => BW.out, fun h0_ h1_ => (Q_B9 h0_ h1_), fun h0_ _ => absurd ((hoff 10 (by kernel_rfl)).symm.trans h0_) (by decide), fun h0_ => absurd ((hoff 13 (by kernel_rfl)).symm.trans h0_) (by decide), Q_X9_, fun h0_ => absurd ((hoff 10 (by kernel_rfl)).symm.trans h0_) (by decide)⟩
            refine steps_cons ?_ ?_
            · rintro b a w' ⟨g9, ga, cap, m9_, m10_, ha, Q_BW, Q_B9, Q_GR, Q_GS, Q_X9_, Q_X10_⟩ hb_ hon hoff
              refine ⟨_, rfl, fun K hK => ?_⟩
              have e132 : a.tmps[132]? = some (ptr nd) := by rw [ha]; exact putSel_on (e := (3, 132, ptr nd)) 1 rfl rfl (hon 3 (by kernel_rfl)) rfl
              replace ha := Aside0.mk ha
              have BW := Aside0.mk (Q_BW (hoff 10 (by kernel_rfl)))
              refine value_ (w1 := w') (v := .pointer (some ⟨nd, 0, none⟩)) (by rfl) rfl ?_ ?_
              · go_simp
                (try simp only [i64_w])
                try rfl
              refine hK.out _ _ ⟨g9, ga, cap, m9_, m10_, (by rw [ha.out]; exact putSel_upk 2 hb_ rfl rfl rfl), Q_BW, Q_B9, fun h0_ _ => absurd ((hoff 10 (by kernel_rfl)).symm.trans h0_) (by decide), fun h0_ => absurd ((hoff 13 (by kernel_rfl)).symm.trans h0_) (by decide), Q_X9_, fun h0_ => absurd ((hoff 10 (by kernel_rfl)).symm.trans h0_) (by decide)⟩
            refine steps_cons ?_ ?_
            · rintro b a w' ⟨g9, ga, cap, m9_, m10_, ha, Q_BW, Q_B9, Q_GR, Q_GS, Q_X9_, Q_X10_⟩ hb_ hon hoff
              refine ⟨_, rfl, fun K hK => ?_⟩
              have e133 : a.tmps[133]? = some (.pointer (some ⟨nd, 0, none⟩)) := by rw [ha]; exact putSel_on (e := (4, 133, .pointer (some ⟨nd, 0, none⟩))) 2 rfl rfl (hon 4 (by kernel_rfl)) rfl
              replace ha := Aside0.mk ha
              have BW := Aside0.mk (Q_BW (hoff 10 (by kernel_rfl)))
              refine value_ (w1 := w') (v := .pointer (some ⟨nd, 6, none⟩)) (by rfl) rfl ?_ ?_
              · go_simp
                (try simp only [i64_w])
                try rfl
              refine hK.out _ _ ⟨g9, ga, cap, m9_, m10_, (by rw [ha.out]; exact putSel_upk 3 hb_ rfl rfl rfl), Q_BW, Q_B9, fun h0_ _ => absurd ((hoff 10 (by kernel_rfl)).symm.trans h0_) (by decide), fun h0_ => absurd ((hoff 13 (by kernel_rfl)).symm.trans h0_) (by decide), Q_X9_, fun h0_ => absurd ((hoff 10 (by kernel_rfl)).symm.trans h0_) (by decide)⟩
            refine steps_cons ?_ ?_
            · rintro b a w' ⟨g9, ga, cap, m9_, m10_, ha, Q_BW, Q_B9, Q_GR, Q_GS, Q_X9_, Q_X10_⟩ hb_ hon hoff
              refine ⟨_, rfl, fun K hK => ?_⟩
              have e134 : a.tmps[134]? = some (.pointer (some ⟨nd, 6, none⟩)) := by rw [ha]; exact putSel_on (e := (5, 134, .pointer (some ⟨nd, 6, none⟩))) 3 rfl rfl (hon 5 (by kernel_rfl)) rfl
              replace ha := Aside0.mk ha
              have BW := Aside0.mk (Q_BW (hoff 10 (by kernel_rfl)))
              have cc6 : w'.cell? ⟨nd, 6, none⟩ = some (.slice B sl.length d) := (show NB w' nd 2 t v _ from (BW.out.block _ (lt_of_block H6.out.2.1)).trans H6.out.2.1).content
              refine value_ (w1 := w') (v := .slice B sl.length d) (by rfl) rfl ?_ ?_
              · go_simp
                (try simp only [i64_w])
                try rfl
              refine hK.out _ _ ⟨g9, ga, cap, m9_, m10_, (by rw [ha.out]; exact putSel_upk 4 hb_ rfl rfl rfl), Q_BW, Q_B9, fun h0_ _ => absurd ((hoff 10 (by kernel_rfl)).symm.trans h0_) (by decide), fun h0_ => absurd ((hoff 13 (by kernel_rfl)).symm.trans h0_) (by decide), Q_X9_, fun h0_ => absurd ((hoff 10 (by kernel_rfl)).symm.trans h0_) (by decide)⟩
            refine steps_cons ?_ ?_
            · rintro b a w' ⟨g9, ga, cap, m9_, m10_, ha, Q_BW, Q_B9, Q_GR, Q_GS, Q_X9_, Q_X10_⟩ hb_ hon hoff
              refine ⟨_, rfl, fun K hK => ?_⟩
              have e136 : a.tmps[136]? = some (.pointer (some ⟨w.heap.size, 1, none⟩)) := by rw [ha]; exact (putSel_off rfl).trans rfl
              replace ha := Aside0.mk ha
              have BW := Aside0.mk (Q_BW (hoff 10 (by kernel_rfl)))
              have cc8 : w'.cell? ⟨w.heap.size, 1, none⟩ = some (ptr ep) := by rw [cell_of_block ((BW.out.block _ (lt_of_block HF4.out)).trans HF4.out)]; rfl
              refine value_ (w1 := w') (v := ptr ep) (by rfl) rfl ?_ ?_
              · go_simp
                (try simp only [i64_w])
                try rfl
              refine hK.out _ _ ⟨g9, ga, cap, m9_, m10_, (by rw [ha.out]; exact putSel_upk 5 hb_ rfl rfl rfl), Q_BW, fun h0_ _ => absurd ((hoff 9 (by kernel_rfl)).symm.trans h0_) (by decide), fun h0_ _ => absurd ((hoff 10 (by kernel_rfl)).symm.trans h0_) (by decide), fun h0_ => absurd ((hoff 13 (by kernel_rfl)).symm.trans h0_) (by decide), fun h0_ => absurd ((hoff 9 (by kernel_rfl)).symm.trans h0_) (by decide), fun h0_ => absurd ((hoff 10 (by kernel_rfl)).symm.trans h0_) (by decide)⟩
            refine steps_cons ?_ ?_
            · rintro b a w' ⟨g9, ga, cap, m9_, m10_, ha, Q_BW, Q_B9, Q_GR, Q_GS, Q_X9_, Q_X10_⟩ hb_ hon hoff
              refine ⟨_, rfl, fun K hK => ?_⟩
              have e137 : a.tmps[137]? = some (ptr ep) := by rw [ha]; exact putSel_on (e := (8, 137, ptr ep)) 5 rfl rfl (hon 8 (by kernel_rfl)) rfl
              replace ha := Aside0.mk ha
              have BW := Aside0.mk (Q_BW (hoff 10 (by kernel_rfl)))
              have hb3 : Below w'.heap.size w' (w'.alloc (.cells #[ptr ep] 88)) := (Below.refl _ _).alloc (Nat.le_refl _) _
              have hn3 : (w'.alloc (.cells #[ptr ep] 88)).heap[w'.heap.size]? = some (.cells #[ptr ep] 88 (0, 0)) := heap_at _ rfl
              refine value_ (w1 := w'.alloc (.cells #[ptr ep] 88)) (v := .slice (some ⟨w'.heap.size, 0, none⟩) 1 1) (by rfl) rfl ?_ ?_
              · go_simp
              refine hK.out _ _ ⟨w'.heap.size, ga, cap, (.slice (some ⟨w'.heap.size, 0, none⟩) 1 1), m10_, (by rw [ha.out]; exact putSel_upk 6 hb_ rfl rfl rfl), fun _ => BW.out.trans (hb3.mono BW.out.size), fun _ _ => hn3, fun h0_ _ => absurd ((hoff 10 (by kernel_rfl)).symm.trans h0_) (by decide), fun h0_ => absurd ((hoff 13 (by kernel_rfl)).symm.trans h0_) (by decide), fun _ => rfl, fun h0_ => absurd ((hoff 10 (by kernel_rfl)).symm.trans h0_) (by decide)⟩
            refine steps_cons ?_ ?_
            · rintro b a w' ⟨g9, ga, cap, m9_, m10_, ha, Q_BW, Q_B9, Q_GR, Q_GS, Q_X9_, Q_X10_⟩ hb_ hon hoff
              refine ⟨_, rfl, fun K hK => ?_⟩
              have e135 : a.tmps[135]? = some (.slice B sl.length d) := by rw [ha]; exact putSel_on (e := (6, 135, .slice B sl.length d)) 4 rfl rfl (hon 6 (by kernel_rfl)) rfl
              have e138 : a.tmps[138]? = some (m9_) := by rw [ha]; exact putSel_on (e := (9, 138, m9_)) 6 rfl rfl (hon 9 (by kernel_rfl)) rfl
              rw [Q_X9_ (hon 9 (by kernel_rfl))] at e138
              replace ha := Aside0.mk ha
              have BW := Aside0.mk (Q_BW hb_)
              have B9 := Aside0.mk (Q_B9 (hon 9 (by kernel_rfl)) hb_)
              rw [if_pos (by rfl)]
              have ho := own_move (w1 := w') H6.out.2.2 (fun k hk => BW.out.block k (own_lt H6.out.2.2 k hk))
              have hbw' := BW.out.size
              refine wp_append_lies w' (.tmp 135) (.tmp 138) 87 rfl (w.heap.size + 1) 88 i0 (.pointer none) 1 8 Try.underlying87 hi0.out hz0.out hz1.out hz2.out rfl (by decide) (.slice B sl.length d) sl.length (ptrs sl) (eval_of e135) ho ⟨g9, 0, none⟩ 1 1 [ptr ep] (eval_of e138) rfl (World.news_of_block (cs := #[ptr ep]) (fr := (0, 0)) B9.out) (by simp [Value.oneCell']) (by omega) (by unfold maxLen; omega) (by omega) (by omega) _ rfl ?_
              intro gan capn w5 hown hgrow hat hlt
              refine hK.out _ _ ⟨g9, gan, capn, m9_, (.slice (some ⟨gan, 0, none⟩) (sl.length + 1) capn), (by rw [ha.out]; exact putSel_upk 7 hb_ rfl rfl rfl), fun h0_ => absurd ((up_self b 10).symm.trans h0_) (by decide), fun _ h1_ => absurd ((up_self b 10).symm.trans h1_) (by decide), fun _ _ => ⟨w', BW.out, hown, hgrow⟩, fun h0_ => absurd ((hoff 13 (by kernel_rfl)).symm.trans h0_) (by decide), Q_X9_, fun _ => rfl⟩
            refine steps_cons ?_ ?_
            · rintro b a w' ⟨g9, ga, cap, m9_, m10_, ha, Q_BW, Q_B9, Q_GR, Q_GS, Q_X9_, Q_X10_⟩ hb_ hon hoff
              refine ⟨_, rfl, fun K hK => ?_⟩
              have e130 : a.tmps[130]? = some (ptr nd) := by rw [ha]; exact putSel_on (e := (1, 130, ptr nd)) 0 rfl rfl (hon 1 (by kernel_rfl)) rfl
              replace ha := Aside0.mk ha
              have GR := Aside0.mk (Q_GR (hon 10 (by kernel_rfl)) (hoff 13 (by kernel_rfl)))
              refine value_ (w1 := w') (v := .pointer (some ⟨nd, 0, none⟩)) (by rfl) rfl ?_ ?_
              · go_simp
                (try simp only [i64_w])
                try rfl
              refine hK.out _ _ ⟨g9, ga, cap, m9_, m10_, (by rw [ha.out]; exact putSel_upk 8 hb_ rfl rfl rfl), fun h0_ => absurd ((hon 10 (by kernel_rfl)).symm.trans h0_) (by decide), fun _ h1_ => absurd ((hon 10 (by kernel_rfl)).symm.trans h1_) (by decide), Q_GR, fun h0_ => absurd ((hoff 13 (by kernel_rfl)).symm.trans h0_) (by decide), Q_X9_, Q_X10_⟩
            refine steps_cons ?_ ?_
            · rintro b a w' ⟨g9, ga, cap, m9_, m10_, ha, Q_BW, Q_B9, Q_GR, Q_GS, Q_X9_, Q_X10_⟩ hb_ hon hoff
              refine ⟨_, rfl, fun K hK => ?_⟩
              have e140 : a.tmps[140]? = some (.pointer (some ⟨nd, 0, none⟩)) := by rw [ha]; exact putSel_on (e := (11, 140, .pointer (some ⟨nd, 0, none⟩))) 8 rfl rfl (hon 11 (by kernel_rfl)) rfl
              replace ha := Aside0.mk ha
              have GR := Aside0.mk (Q_GR (hon 10 (by kernel_rfl)) (hoff 13 (by kernel_rfl)))
              refine value_ (w1 := w') (v := .pointer (some ⟨nd, 6, none⟩)) (by rfl) rfl ?_ ?_
              · go_simp
                (try simp only [i64_w])
                try rfl
              refine hK.out _ _ ⟨g9, ga, cap, m9_, m10_, (by rw [ha.out]; exact putSel_upk 9 hb_ rfl rfl rfl), fun h0_ => absurd ((hon 10 (by kernel_rfl)).symm.trans h0_) (by decide), fun _ h1_ => absurd ((hon 10 (by kernel_rfl)).symm.trans h1_) (by decide), Q_GR, fun h0_ => absurd ((hoff 13 (by kernel_rfl)).symm.trans h0_) (by decide), Q_X9_, Q_X10_⟩
            refine steps_cons ?_ ?_
            · rintro b a w' ⟨g9, ga, cap, m9_, m10_, ha, Q_BW, Q_B9, Q_GR, Q_GS, Q_X9_, Q_X10_⟩ hb_ hon hoff
              refine ⟨_, rfl, fun K hK => ?_⟩
              have e141 : a.tmps[141]? = some (.pointer (some ⟨nd, 6, none⟩)) := by rw [ha]; exact putSel_on (e := (12, 141, .pointer (some ⟨nd, 6, none⟩))) 9 rfl rfl (hon 12 (by kernel_rfl)) rfl
              have e139 : a.tmps[139]? = some (m10_) := by rw [ha]; exact putSel_on (e := (10, 139, m10_)) 7 rfl rfl (hon 10 (by kernel_rfl)) rfl
              rw [Q_X10_ (hon 10 (by kernel_rfl))] at e139
              replace ha := Aside0.mk ha
              have GR := Aside0.mk (Q_GR (hon 10 (by kernel_rfl)) hb_)
              have hn5 : NB w' nd 2 t v (.slice B sl.length d) := by
                obtain ⟨wc, h1, h2, h3⟩ := GR.out
                have hl := lt_of_block H6.out.2.1
                exact (h3.block _ (Nat.lt_of_lt_of_le hl h1.size) (fun e => by have := own_base H6.out.2.2 nd e.symm; omega)).trans ((h1.block _ hl).trans H6.out.2.1)
              have hcell : w'.cell? ⟨nd, 6, none⟩ = some (.slice B sl.length d) := hn5.content
              have hfr : w'.frozen? ⟨nd, 6, none⟩ = false := frozen_of_block hn5
              clear hn5
              rw [if_pos (by rfl)]
              go_simp
              clear hcell hfr
              refine hK.out _ _ ⟨g9, ga, cap, m9_, m10_, (by rw [ha.out]; exact putSel_none (v := undef) rfl), fun h0_ => absurd ((hon 10 (by kernel_rfl)).symm.trans h0_) (by decide), fun _ h1_ => absurd ((hon 10 (by kernel_rfl)).symm.trans h1_) (by decide), fun _ h1_ => absurd ((up_self b 13).symm.trans h1_) (by decide), fun _ => ⟨w', GR.out, rfl⟩, Q_X9_, Q_X10_⟩
            exact steps_nil
          rintro b a w' hall ⟨g9, ga, cap, m9_, m10_, ha, Q_BW, Q_B9, Q_GR, Q_GS, Q_X9_, Q_X10_⟩
          clear BW
          have hb1_ := hall 1 (by kernel_rfl)
          have hb3_ := hall 3 (by kernel_rfl)
          have hb4_ := hall 4 (by kernel_rfl)
          have hb5_ := hall 5 (by kernel_rfl)
          have hb6_ := hall 6 (by kernel_rfl)
          have hb8_ := hall 8 (by kernel_rfl)
          have hb9_ := hall 9 (by kernel_rfl)
          have hb10_ := hall 10 (by kernel_rfl)
          have hb11_ := hall 11 (by kernel_rfl)
          have hb12_ := hall 12 (by kernel_rfl)
          have hb13_ := hall 13 (by kernel_rfl)
          subst ha
          obtain rfl := Q_X9_ hb9_
          obtain rfl := Q_X10_ hb10_
          simp only [putSel, hb1_, hb3_, hb4_, hb5_, hb6_, hb8_, hb9_, hb10_, hb11_, hb12_, hb13_, if_true, Act.put, List.setIfInBounds_toArray, List.set_cons_zero, List.set_cons_succ]
          clear Q_BW
          clear Q_B9
          clear Q_GR
          have GS := Aside0.mk (Q_GS hb13_)
          clear Q_GS
          clear hall hb1_ hb3_ hb4_ hb5_ hb6_ hb8_ hb9_ hb10_ hb11_ hb12_ hb13_
          obtain ⟨w5, hgr, rfl⟩ := GS.out
          obtain ⟨wc, h1, h2, h3⟩ := hgr
          have hc45 : Chg (fun k => k = nd ∨ w.heap.size + 1 ≤ k) w4 w5 := (Chg.of_below h1).grown h3 (fun k e => .inl (.inr (own_base H6.out.2.2 k e)))
          have hnd5 : w5.heap[nd]? = some (.cells (ycells 2 t v (.slice B sl.length d)) 109 (0, 0)) :=
            (h3.block _ (Nat.lt_of_lt_of_le (lt_of_block H6.out.2.1) h1.size) (fun e => by have := own_base H6.out.2.2 nd e.symm; omega)).trans ((h1.block _ (lt_of_block H6.out.2.1)).trans H6.out.2.1)
          obtain ⟨w6, hw6⟩ : ∃ w6, w6 = w5.setCell ⟨nd, 6, none⟩ (.slice (some ⟨ga, 0, none⟩) (sl.length + 1) cap) := ⟨_, rfl⟩
          rw [← hw6]
          have hc56 : Chg (fun k => k = nd) w5 w6 := by rw [hw6]; exact (Chg.refl (fun k => k = nd) w5).setCell (p := ⟨nd, 6, none⟩) (.inl rfl) _
          have hnd6 : w6.heap[nd]? = some (.cells (ycells 2 t v (.slice (some ⟨ga, 0, none⟩) (sl.length + 1) cap)) 109 (0, 0)) := by rw [hw6]; exact heap_set (a := ⟨nd, 6, none⟩) hnd5 rfl
          have hc46 : Chg (fun k => k = nd ∨ w.heap.size + 1 ≤ k) w4 w6 := hc45.trans hc56 (fun k q => .inl (.inl q))
          have hf6 := (hc46.block _ (lt_of_block HF4.out) (fun e => by rcases e with e | e <;> omega)).trans HF4.out
          have hrow6 := own_move (w1 := w6) h2 (fun k hk => hc56.block k (own_lt h2 k hk) (fun e => by have := own_base h2 k hk; omega))
          have hcw6 : Chg (fun k => k = nd) w w6 := (H3.out.1.trans (Chg.of_below H4.out.2.1 : Chg (fun _ => False) w3 w4) (fun k q => q.elim)).trans hc46 (fun k q => q.elim .inl (fun h => .inr (by omega)))
          have cf1 := (cell_of_block (i := 1) hf6).trans (show _ = some (.pointer (some ⟨ep, 0, none⟩)) from rfl)
          have H7 := Aside0.mk (And.intro hnd6 (And.intro hrow6 hcw6))
          clear hc45 hnd5 hw6 hc56 hnd6 hc46 hf6 hrow6 hcw6 h1 h2 h3 GS
          go_wp2_with fail
          refine (newrnode_calls w6 ep).mono ?_
          rintro e w7 ⟨rfl, hw7⟩
          have h7 : RN w7 w6.heap.size ep := by rw [← hw7]; exact RN.new w6 ep
          have hb7 : Below w6.heap.size w6 w7 := by rw [← hw7]; exact (Below.refl _ _).alloc (Nat.le_refl _) _
          have H8 := Aside0.mk (And.intro h7 hb7)
          clear h7 hb7 hw7
          go_wp2
          have hfin : finN (some ep) ms bs = sl ++ [ep] := by
            unfold finN
            rw [HANY.out, HSL.out.1]; rfl
          refine bodyPost_ret (v := .tuple #[ptr w6.heap.size, .nilIface]) (by simp [results, Try.results123, go_sem]) rfl ⟨some w6.heap.size, rfl, H7.out.2.2.trans (Chg.of_below H8.out.2 : Chg (fun _ => False) w6 w7) (fun k q => q.elim), ⟨_, (H8.out.2.block _ (lt_of_block H7.out.1)).trans H7.out.1, ?_⟩, .inr ⟨ep, _, rfl, rfl, H8.out.1, H7.out.2.2.size⟩⟩
          rw [hfin, ptrs_append, List.length_append]
          exact own_move H7.out.2.1 (fun k hk => H8.out.2.block k (own_lt H7.out.2.1 k hk))
        · have HANY := Aside0.mk hany
          clear hany
          go_wp2_with (go_at_call 83; refine (missing_calls w4 _ ep H4.out.1 k5 t5 v5 cv5 H4.out.2.2.1 H4.out.2.2.2).mono ?_; rintro e w' ⟨rfl, rfl⟩)
          refine (newrnode_calls w4 ep).mono ?_
          rintro e w5 ⟨rfl, hw5⟩
          have h5 : RN w5 w4.heap.size ep := by rw [← hw5]; exact RN.new w4 ep
          have hb5 : Below w4.heap.size w4 w5 := by rw [← hw5]; exact (Below.refl _ _).alloc (Nat.le_refl _) _
          have hb35 : Below w3.heap.size w3 w5 := H4.out.2.1.trans (hb5.mono H4.out.2.1.size)
          have H5 := Aside0.mk (And.intro h5 hb35)
          clear h5 hb5 hb35 hw5
          go_wp2
          have hfin : finN (some ep) ms bs = selN (some ep) ms bs bs.length := by
            unfold finN
            rw [HANY.out]; simp
          refine bodyPost_ret (v := .tuple #[ptr w4.heap.size, .nilIface]) (by simp [results, Try.results123, go_sem]) rfl ⟨some w4.heap.size, rfl, H3.out.1.trans (Chg.of_below H5.out.2 : Chg (fun _ => False) w3 w5) (fun k q => q.elim), ⟨_, (H5.out.2.block _ (lt_of_block H3.out.2.1)).trans H3.out.2.1, ?_⟩, .inr ⟨ep, _, rfl, rfl, H5.out.1, by have := H3.out.1.size; have := H4.out.2.1.size; omega⟩⟩
          rw [hfin]
          exact own_move H3.out.2.2.1 (fun k hk => H5.out.2.block k (own_lt H3.out.2.2.1 k hk))
end Go.Proofs.Ytigpgkfgkjabmaa
