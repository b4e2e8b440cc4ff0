/-
  Trees of the package in memory: what a node's block holds, which blocks a tree has for its own; what changes where.
-/
import Derived.Test.YtigpgkfgkjabmaaPFnFieldsx0
import Derived.Test.YtigpgkfgkjabmaaWLast
import Derived.Test.YtigpgkfgkjabmaaWTab
import Derived.WalkKit
import Derived.WalkLawsBesides
import Derived.WalkSpells
import Derived.Laws.EntriesVeiled
import Derived.Deep.LoopGhost
import Derived.Deep.QuietTactic
import Derived.BigQuiet
import Derived.Deep.RegionHeld3
import Derived.Deep.AppendLies
import Derived.KernelRfl
namespace Go.Proofs.Ytigpgkfgkjabmaa
open Go.RowKit Go.Proofs.YtigpgkfgkjabmaaW.PrintWords

/-- What changed between two worlds: of what was there, blocks of S alone. -/
structure Chg (S : Nat → Prop) (w w' : World) : Prop where
  os : w'.os = w.os
  tape : w'.tape = w.tape
  output : w'.output = w.output
  size : w.heap.size ≤ w'.heap.size
  block : ∀ k, k < w.heap.size → ¬ S k → w'.heap[k]? = w.heap[k]?

namespace Chg
variable {S S' : Nat → Prop} {a b c w w' : World}
theorem refl (S : Nat → Prop) (w : World) : Chg S w w := ⟨rfl, rfl, rfl, Nat.le_refl _, fun _ _ _ => rfl⟩
theorem mono (h : Chg S w w') (hs : ∀ k, S k → S' k) : Chg S' w w' := ⟨h.os, h.tape, h.output, h.size, fun k hk hn => h.block k hk (fun q => hn (hs k q))⟩
/-- The second step may turn what is new besides. -/
theorem trans (h : Chg S a b) (k : Chg S' b c) (hs : ∀ k, S' k → S k ∨ a.heap.size ≤ k) : Chg S a c :=
  ⟨k.os.trans h.os, k.tape.trans h.tape, k.output.trans h.output, Nat.le_trans h.size k.size, fun i hi hn =>
    (k.block i (Nat.lt_of_lt_of_le hi h.size) (fun q => by rcases hs i q with q | q; exact hn q; omega)).trans (h.block i hi hn)⟩
theorem of_below (h : Below w.heap.size w w') : Chg S w w' := ⟨h.os, h.tape, h.output, h.size, fun k hk _ => h.block k hk⟩
theorem below {B : Nat} (h : Chg S w w') (hB : B ≤ w.heap.size) (hs : ∀ k, S k → B ≤ k) : Below B w w' :=
  ⟨h.os, h.tape, h.output, h.size, fun k hk => h.block k (by omega) (fun q => by have := hs k q; omega)⟩
theorem nothing (h : Chg (fun _ => False) w w') : Below w.heap.size w w' := h.below (Nat.le_refl _) (fun _ q => q.elim)
theorem alloc (h : Chg S a w) (o : Obj) : Chg S a (w.alloc o) :=
  ⟨h.os, h.tape, h.output, by simp; exact Nat.le_succ_of_le h.size, fun k hk hn => (Below.heap_alloc _ _ _ (Nat.lt_of_lt_of_le hk h.size)).trans (h.block k hk hn)⟩
theorem drew (h : Chg S a w) : Chg S a w.drew := ⟨h.os, h.tape, h.output, h.size, h.block⟩
theorem drewN (h : Chg S a w) (n : Nat) : Chg S a (w.drewN n) := ⟨h.os, h.tape, h.output, h.size, h.block⟩
theorem setCell (h : Chg S a w) {p : Addr} (hp : S p.block ∨ a.heap.size ≤ p.block) (u : Value) : Chg S a (w.setCell p u) :=
  ⟨h.os, h.tape, h.output, by simp [World.setCell]; exact h.size, fun k hk hn => (Below.heap_setCell _ _ _ _ (fun e => by subst e; rcases hp with q | q; exact hn q; omega)).trans (h.block k hk hn)⟩
theorem grown (h : Chg S a w) {row : Option Nat} (hg : w.grownBy w' row) (hr : ∀ k, row = some k → S k ∨ a.heap.size ≤ k) : Chg S a w' :=
  ⟨hg.os.trans h.os, hg.tape.trans h.tape, hg.output.trans h.output, Nat.le_trans h.size hg.size, fun k hk hn =>
    (hg.block k (Nat.lt_of_lt_of_le hk h.size) (fun e => by rcases hr k e.symm with q | q; exact hn q; omega)).trans (h.block k hk hn)⟩
theorem cell (h : Chg S w w') {p : Addr} (hp : p.block < w.heap.size) (hn : ¬ S p.block) : w'.cell? p = w.cell? p := World.cell?_of_block (w := w) (h.block p.block hp hn)
theorem cell_of (h : Chg S w w') {p : Addr} {v : Value} (hc : w.cell? p = some v) (hn : ¬ S p.block) : w'.cell? p = some v := (h.cell (World.block_lt_of_cell? w p hc) hn).trans hc
theorem frozen (h : Chg S w w') {p : Addr} (hp : p.block < w.heap.size) (hn : ¬ S p.block) : w'.frozen? p = w.frozen? p := World.frozen?_of_block (w := w) (h.block p.block hp hn)
end Chg

/-- A tree of the package as data: kind, tag, value, content. -/
inductive Y where
  | mk (kind : Int) (tag value : ByteArray) (content : List Y)

def Y.kind : Y → Int | .mk k _ _ _ => k
def Y.tag : Y → ByteArray | .mk _ t _ _ => t
def Y.value : Y → ByteArray | .mk _ _ v _ => v
def Y.content : Y → List Y | .mk _ _ _ c => c

/-- The cells of a node's block. -/
def ycells (k : Int) (t v : ByteArray) (cv : Value) : Array Value :=
  #[.int .u32 k, .int .u32 0, .string t, .string v, .string ⟨#[]⟩, .pointer none, cv, .string ⟨#[]⟩, .string ⟨#[]⟩, .string ⟨#[]⟩, .int .i64 0, .int .i64 0]
abbrev ptr (b : Nat) : Value := .pointer (some ⟨b, 0, none⟩)
def ptrs (bs : List Nat) : List Value := bs.map ptr
theorem ptrs_length (bs : List Nat) : (ptrs bs).length = bs.length := by simp [ptrs]
theorem ptrs_append (as_ bs : List Nat) : ptrs (as_ ++ bs) = ptrs as_ ++ ptrs bs := by simp [ptrs]

open Go.Proofs.Ytigpgkfgkjabmaa.PFnFields in
/-- An element of a list of texts. -/
theorem strAt {w : World} {A : Option Addr} {n : Nat} {xs : List ByteArray} (h : Kd.string.C w A n xs) (j : Nat) (hj : j < n) : ∃ ad, A = some ad ∧ w.cell? (ad.add j) = some (.string (xs.getD j ByteArray.empty)) := by
  obtain ⟨ad, e, hc⟩ := Kd.at_string h (j : Int) (Int.natCast_nonneg _) (by omega)
  exact ⟨ad, e, by simpa [rdOf] using hc⟩
open Go.Proofs.Ytigpgkfgkjabmaa.PFnFields in
/-- An element of a list of trees as plain data: its five cells. -/
theorem nodeAt {w : World} {A : Option Addr} {n : Nat} {xs : List S25} (h : Kd.C k25 w A n xs) (j : Nat) (hj : j < n) (y : S25) (hy : xs.getD j z25 = y) :
    ∃ ad A3 c3 A4 c4, A = some ad ∧ k25.K w y [.int .i64 y.f0, .string y.f1, .string y.f2, .slice A3 y.f3.length c3, .slice A4 y.f4.length c4] ∧
      w.cell? (ad.add (j * 5)) = some (.int .i64 y.f0) ∧ w.cell? ⟨(ad.add (j * 5)).block, (ad.add (j * 5)).off + 1, none⟩ = some (.string y.f1) ∧ w.cell? ⟨(ad.add (j * 5)).block, (ad.add (j * 5)).off + 2, none⟩ = some (.string y.f2) ∧
      w.cell? ⟨(ad.add (j * 5)).block, (ad.add (j * 5)).off + 3, none⟩ = some (.slice A3 y.f3.length c3) ∧ w.cell? ⟨(ad.add (j * 5)).block, (ad.add (j * 5)).off + 4, none⟩ = some (.slice A4 y.f4.length c4) := by
  obtain ⟨ad, A3, c3, A4, c4, e, f0, f1, f2, f3, f4, l3, g3, l4, g4⟩ := at_T25 h (j : Int) (Int.natCast_nonneg _) (by omega)
  simp only [rd_T25, Int.toNat_natCast, hy] at f0 f1 f2 f3 f4 l3 g3 l4 g4
  exact ⟨ad, A3, c3, A4, c4, e, k25_mk w y l3 g3 l4 g4, f0, f1, f2, f3, f4⟩

mutual
/-- At block b lies a tree that has the blocks of F for its own, no two of its parts the same. -/
def YN (w : World) : (Nat → Prop) → Nat → Y → Prop
  | F, b, .mk k t v ys => F b ∧ ∃ cv bs, w.heap[b]? = some (.cells (ycells k t v cv) 109 (0, 0)) ∧ w.ownsRow 0 88 1 cv bs.length (ptrs bs) ∧
      (∀ g, cv.ownBlock = some g → F g) ∧ YL w (fun k => F k ∧ k ≠ b ∧ some k ≠ cv.ownBlock) bs ys
def YL (w : World) : (Nat → Prop) → List Nat → List Y → Prop
  | _, [], [] => True
  | F, b :: bs, y :: ys => ∃ F1 : Nat → Prop, (∀ k, F1 k → F k) ∧ YN w F1 b y ∧ YL w (fun k => F k ∧ ¬ F1 k) bs ys
  | _, _, _ => False
end

mutual
theorem YN.move {w w' : World} : ∀ {F F' : Nat → Prop} {b : Nat} {y : Y}, (∀ k, F k → F' k) → (∀ k, F k → k < w.heap.size → w'.heap[k]? = w.heap[k]?) → YN w F b y → YN w' F' b y
  | F, F', b, .mk k t v ys, hF, hm, h => by
    simp only [YN] at h ⊢
    obtain ⟨hb, cv, bs, h1, h2, h3, h4⟩ := h
    have hlt : ∀ {k o}, w.heap[k]? = some o → k < w.heap.size := fun e => (Array.getElem?_eq_some_iff.1 e).1
    refine ⟨hF b hb, cv, bs, (hm b hb (hlt h1)).trans h1, own_move h2 (fun k hk => hm k (h3 k hk) (own_lt h2 k hk)), fun g hg => hF g (h3 g hg), ?_⟩
    exact YL.move (fun k q => ⟨hF k q.1, q.2⟩) (fun k q => hm k q.1) h4
theorem YL.move {w w' : World} : ∀ {F F' : Nat → Prop} {bs : List Nat} {ys : List Y}, (∀ k, F k → F' k) → (∀ k, F k → k < w.heap.size → w'.heap[k]? = w.heap[k]?) → YL w F bs ys → YL w' F' bs ys
  | _, _, [], [], _, _, _ => by simp only [YL]
  | F, F', b :: bs, y :: ys, hF, hm, h => by
    simp only [YL] at h ⊢
    obtain ⟨F1, h1, h2, h3⟩ := h
    exact ⟨F1, fun k q => hF k (h1 k q), YN.move (fun _ q => q) (fun k q => hm k (h1 k q)) h2, YL.move (fun k q => ⟨hF k q.1, q.2⟩) (fun k q => hm k q.1) h3⟩
  | _, _, [], _ :: _, _, _, h => by simp only [YL] at h
  | _, _, _ :: _, [], _, _, h => by simp only [YL] at h
end

mutual
/-- A tree has blocks that are there. -/
theorem YN.lt {w : World} : ∀ {F : Nat → Prop} {b : Nat} {y : Y}, YN w F b y → YN w (fun k => F k ∧ k < w.heap.size) b y
  | F, b, .mk k t v ys, h => by
    simp only [YN] at h ⊢
    obtain ⟨hb, cv, bs, h1, h2, h3, h4⟩ := h
    refine ⟨⟨hb, (Array.getElem?_eq_some_iff.1 h1).1⟩, cv, bs, h1, h2, fun g hg => ⟨h3 g hg, own_lt h2 g hg⟩, ?_⟩
    exact YL.move (fun k q => ⟨⟨q.1.1, q.2⟩, q.1.2⟩) (fun _ _ _ => rfl) (YL.lt h4)
theorem YL.lt {w : World} : ∀ {F : Nat → Prop} {bs : List Nat} {ys : List Y}, YL w F bs ys → YL w (fun k => F k ∧ k < w.heap.size) bs ys
  | _, [], [], _ => by simp only [YL]
  | F, b :: bs, y :: ys, h => by
    simp only [YL] at h ⊢
    obtain ⟨F1, h1, h2, h3⟩ := h
    exact ⟨fun k => F1 k ∧ k < w.heap.size, fun k q => ⟨h1 k q.1, q.2⟩, YN.lt h2, YL.move (fun k q => ⟨⟨q.1.1, q.2⟩, fun r => q.1.2 r.1⟩) (fun _ _ _ => rfl) (YL.lt h3)⟩
  | _, [], _ :: _, h => by simp only [YL] at h
  | _, _ :: _, [], h => by simp only [YL] at h
end

theorem YN.chg {w w' : World} {S F : Nat → Prop} {b : Nat} {y : Y} (h : YN w F b y) (hc : Chg S w w') (hs : ∀ k, F k → ¬ S k) : YN w' F b y :=
  YN.move (fun _ q => q) (fun k hk hl => hc.block k hl (hs k hk)) h
theorem YL.chg {w w' : World} {S F : Nat → Prop} {bs : List Nat} {ys : List Y} (h : YL w F bs ys) (hc : Chg S w w') (hs : ∀ k, F k → ¬ S k) : YL w' F bs ys :=
  YL.move (fun _ q => q) (fun k hk hl => hc.block k hl (hs k hk)) h
theorem YN.below {w w' : World} {F : Nat → Prop} {b : Nat} {y : Y} (h : YN w F b y) (hb : Below w.heap.size w w') : YN w' F b y :=
  YN.move (fun _ q => q) (fun k _ hl => hb.block k hl) h
theorem YL.below {w w' : World} {F : Nat → Prop} {bs : List Nat} {ys : List Y} (h : YL w F bs ys) (hb : Below w.heap.size w w') : YL w' F bs ys :=
  YL.move (fun _ q => q) (fun k _ hl => hb.block k hl) h
theorem YN.mono {w : World} {F F' : Nat → Prop} {b : Nat} {y : Y} (h : YN w F b y) (hF : ∀ k, F k → F' k) : YN w F' b y := YN.move hF (fun _ _ _ => rfl) h
theorem YL.mono {w : World} {F F' : Nat → Prop} {bs : List Nat} {ys : List Y} (h : YL w F bs ys) (hF : ∀ k, F k → F' k) : YL w F' bs ys := YL.move hF (fun _ _ _ => rfl) h

theorem YL.length {w : World} : ∀ {F : Nat → Prop} {bs : List Nat} {ys : List Y}, YL w F bs ys → bs.length = ys.length
  | _, [], [], _ => rfl
  | _, b :: bs, y :: ys, h => by
    simp only [YL] at h
    obtain ⟨_, _, _, h3⟩ := h
    simp [YL.length h3]
  | _, [], _ :: _, h => by simp only [YL] at h
  | _, _ :: _, [], h => by simp only [YL] at h

/-- A part of a list of trees, with blocks that it shares with no other part. -/
theorem YL.get {w : World} : ∀ {F : Nat → Prop} {bs : List Nat} {ys : List Y} (i : Nat), YL w F bs ys → (hi : i < ys.length) → ∃ b F1, bs[i]? = some b ∧ (∀ k, F1 k → F k) ∧ YN w F1 b (ys[i]'hi)
  | _, [], [], i, _, hi => absurd hi (Nat.not_lt_zero _)
  | F, b :: bs, y :: ys, 0, h, _ => by
    simp only [YL] at h
    obtain ⟨F1, h1, h2, _⟩ := h
    exact ⟨b, F1, rfl, h1, h2⟩
  | F, b :: bs, y :: ys, i + 1, h, hi => by
    simp only [YL] at h
    obtain ⟨F1, _, _, h3⟩ := h
    obtain ⟨c, F2, e, hF, hy⟩ := YL.get i h3 (by simpa using hi)
    exact ⟨c, F2, by simpa using e, fun k q => (hF k q).1, by simpa using hy⟩
  | _, [], _ :: _, _, h, _ => by simp only [YL] at h
  | _, _ :: _, [], _, h, _ => by simp only [YL] at h

theorem YL.append {w : World} : ∀ {F F1 F2 : Nat → Prop} {as_ bs : List Nat} {xs ys : List Y}, YL w F1 as_ xs → YL w F2 bs ys → (∀ k, F1 k → F k) → (∀ k, F2 k → F k) → (∀ k, F1 k → ¬ F2 k) → YL w F (as_ ++ bs) (xs ++ ys)
  | F, F1, F2, [], bs, [], ys, _, h2, _, hF, _ => by simpa using h2.mono hF
  | F, F1, F2, a :: as_, bs, x :: xs, ys, h1, h2, hF1, hF2, hd => by
    simp only [YL] at h1
    obtain ⟨G, g1, g2, g3⟩ := h1
    simp only [List.cons_append, YL]
    refine ⟨G, fun k q => hF1 k (g1 k q), g2, ?_⟩
    exact YL.append (F1 := fun k => F1 k ∧ ¬ G k) g3 h2 (fun k q => ⟨hF1 k q.1, q.2⟩) (fun k q => ⟨hF2 k q, fun r => hd k (g1 k r) q⟩) (fun k q => hd k q.1)
  | _, _, _, [], _, _ :: _, _, h, _, _, _, _ => by simp only [YL] at h
  | _, _, _, _ :: _, _, [], _, h, _, _, _, _ => by simp only [YL] at h

theorem YL.one {w : World} {F : Nat → Prop} {b : Nat} {y : Y} (h : YN w F b y) : YL w F [b] [y] := by
  simp only [YL]
  exact ⟨F, fun _ q => q, h, trivial⟩

/-- The node's own block, and what lies under it. -/
theorem YN.open_ {w : World} {F : Nat → Prop} {b : Nat} {y : Y} (h : YN w F b y) : F b ∧ ∃ cv bs, w.heap[b]? = some (.cells (ycells y.kind y.tag y.value cv) 109 (0, 0)) ∧ w.ownsRow 0 88 1 cv bs.length (ptrs bs) ∧
      (∀ g, cv.ownBlock = some g → F g) ∧ YL w (fun k => F k ∧ k ≠ b ∧ some k ≠ cv.ownBlock) bs y.content := by
  cases y
  simpa only [YN, Y.kind, Y.tag, Y.value, Y.content] using h
theorem YN.close {w : World} {F : Nat → Prop} {b : Nat} {k : Int} {t v : ByteArray} {ys : List Y} {cv : Value} {bs : List Nat} (hb : F b) (h1 : w.heap[b]? = some (.cells (ycells k t v cv) 109 (0, 0)))
    (h2 : w.ownsRow 0 88 1 cv bs.length (ptrs bs)) (h3 : ∀ g, cv.ownBlock = some g → F g) (h4 : YL w (fun k => F k ∧ k ≠ b ∧ some k ≠ cv.ownBlock) bs ys) : YN w F b (.mk k t v ys) := by
  simp only [YN]
  exact ⟨hb, cv, bs, h1, h2, h3, h4⟩

/-- A cell of a block that is known whole. -/
theorem cell_of_block {w : World} {b i : Nat} {cs : Array Value} {t : TypeId} {fr : Nat × Nat} (h : w.heap[b]? = some (.cells cs t fr)) : w.cell? ⟨b, i, none⟩ = cs[i]? := by
  simp [World.cell?, h]
theorem frozen_of_block {w : World} {b i : Nat} {cs : Array Value} {t : TypeId} (h : w.heap[b]? = some (.cells cs t (0, 0))) : w.frozen? ⟨b, i, none⟩ = false := by
  simp [World.frozen?, h]
theorem lt_of_block {w : World} {b : Nat} {o : Obj} (h : w.heap[b]? = some o) : b < w.heap.size := (Array.getElem?_eq_some_iff.1 h).1

/-- A new block by its number. -/
theorem heap_at {w : World} {n : Nat} (o : Obj) (h : n = w.heap.size) : (w.alloc o).heap[n]? = some o := by subst h; exact heap_alloc_new w o
theorem heap_old {w : World} {n : Nat} (o : Obj) (h : n < w.heap.size) : (w.alloc o).heap[n]? = w.heap[n]? := Below.heap_alloc w o n h
theorem heap_set {w : World} {a : Addr} {v : Value} {cs : Array Value} {t : TypeId} {fr : Nat × Nat} (h : w.heap[a.block]? = some (.cells cs t fr)) (hs : a.spot = none) : (w.setCell a v).heap[a.block]? = some (.cells (cs.setIfInBounds a.off v) t fr) := by
  simp [World.setCell, Array.getElem?_modify, h, hs]
theorem heap_set_ne {w : World} {a : Addr} {v : Value} {k : Nat} (h : k ≠ a.block) : (w.setCell a v).heap[k]? = w.heap[k]? := Below.heap_setCell w a v k h

/-- A struct of five cells stored. -/
theorem set5 {w : World} {r : Nat} {a0 a1 a2 a3 a4 v0 v1 v2 v3 v4 : Value} {t : TypeId} (h : w.heap[r]? = some (.cells #[a0, a1, a2, a3, a4] t (0, 0))) :
    ∃ w', ((((w.setCell ⟨r, 0, none⟩ v0).setCell ⟨r, 1, none⟩ v1).setCell ⟨r, 2, none⟩ v2).setCell ⟨r, 3, none⟩ v3).setCell ⟨r, 4, none⟩ v4 = w' ∧ w'.heap[r]? = some (.cells #[v0, v1, v2, v3, v4] t (0, 0)) ∧ Chg (fun k => k = r) w w' := by
  refine ⟨_, rfl, ?_, ?_⟩
  · have h1 := heap_set (a := ⟨r, 0, none⟩) (v := v0) h rfl
    have h2 := heap_set (a := ⟨r, 1, none⟩) (v := v1) h1 rfl
    have h3 := heap_set (a := ⟨r, 2, none⟩) (v := v2) h2 rfl
    have h4 := heap_set (a := ⟨r, 3, none⟩) (v := v3) h3 rfl
    exact heap_set (a := ⟨r, 4, none⟩) (v := v4) h4 rfl
  · have h0 := Chg.refl (fun k => k = r) w
    have h1 := h0.setCell (p := ⟨r, 0, none⟩) (.inl rfl) v0
    have h2 := h1.setCell (p := ⟨r, 1, none⟩) (.inl rfl) v1
    have h3 := h2.setCell (p := ⟨r, 2, none⟩) (.inl rfl) v2
    have h4 := h3.setCell (p := ⟨r, 3, none⟩) (.inl rfl) v3
    exact h4.setCell (p := ⟨r, 4, none⟩) (.inl rfl) v4

/-- The cells of an RNode's block. -/
def rcells (fp : Value) (n : Value) (keep : Bool) (m : Value) : Array Value := #[fp, n, .bool keep, m]
/-- An RNode that leads to a node. -/
def RN (w : World) (r b : Nat) : Prop := ∃ fp keep m, w.heap[r]? = some (.cells (rcells fp (ptr b) keep m) 124 (0, 0))
theorem RN.move {w w' : World} {r b : Nat} (h : RN w r b) (hm : r < w.heap.size → w'.heap[r]? = w.heap[r]?) : RN w' r b := by
  obtain ⟨fp, keep, m, h⟩ := h
  exact ⟨fp, keep, m, (hm (lt_of_block h)).trans h⟩
theorem RN.lt {w : World} {r b : Nat} (h : RN w r b) : r < w.heap.size := by
  obtain ⟨_, _, _, h⟩ := h
  exact lt_of_block h
theorem RN.below {w w' : World} {r b : Nat} (h : RN w r b) (hb : Below w.heap.size w w') : RN w' r b := h.move (fun l => hb.block r l)
/-- An RNode that leads to a node; its path is empty. -/
def RN0 (w : World) (r b : Nat) : Prop := ∃ keep m, w.heap[r]? = some (.cells (rcells (.slice none 0 0) (ptr b) keep m) 124 (0, 0))
theorem RN0.rn {w : World} {r b : Nat} (h : RN0 w r b) : RN w r b := by
  obtain ⟨k, m, h⟩ := h
  exact ⟨_, k, m, h⟩
theorem RN0.move {w w' : World} {r b : Nat} (h : RN0 w r b) (hm : r < w.heap.size → w'.heap[r]? = w.heap[r]?) : RN0 w' r b := by
  obtain ⟨keep, m, h⟩ := h
  exact ⟨keep, m, (hm (lt_of_block h)).trans h⟩
theorem RN0.below {w w' : World} {r b : Nat} (h : RN0 w r b) (hb : Below w.heap.size w w') : RN0 w' r b := h.move (fun l => hb.block r l)
theorem RN.value {w : World} {r b : Nat} (h : RN w r b) : w.cell? ⟨r, 1, none⟩ = some (ptr b) := by
  obtain ⟨_, _, _, h⟩ := h
  rw [cell_of_block h]
  rfl

/-- A node's block. -/
def NB (w : World) (b : Nat) (k : Int) (t v : ByteArray) (cv : Value) : Prop := w.heap[b]? = some (.cells (ycells k t v cv) 109 (0, 0))
namespace NB
variable {w w' : World} {b : Nat} {k : Int} {t v : ByteArray} {cv : Value}
theorem kind (h : NB w b k t v cv) : w.cell? ⟨b, 0, none⟩ = some (.int .u32 k) := by rw [cell_of_block h]; rfl
theorem style (h : NB w b k t v cv) : w.cell? ⟨b, 1, none⟩ = some (.int .u32 0) := by rw [cell_of_block h]; rfl
theorem tag (h : NB w b k t v cv) : w.cell? ⟨b, 2, none⟩ = some (.string t) := by rw [cell_of_block h]; rfl
theorem value (h : NB w b k t v cv) : w.cell? ⟨b, 3, none⟩ = some (.string v) := by rw [cell_of_block h]; rfl
theorem content (h : NB w b k t v cv) : w.cell? ⟨b, 6, none⟩ = some cv := by rw [cell_of_block h]; rfl
theorem lt (h : NB w b k t v cv) : b < w.heap.size := lt_of_block h
theorem move (h : NB w b k t v cv) (hm : b < w.heap.size → w'.heap[b]? = w.heap[b]?) : NB w' b k t v cv := (hm h.lt).trans h
theorem below (h : NB w b k t v cv) (hb : Below w.heap.size w w') : NB w' b k t v cv := h.move (fun l => hb.block b l)
end NB

/-- A new block: its number, what it leaves. -/
theorem alloc_step {S : Nat → Prop} {wr wc : World} (HC : Chg S wr wc) (o : Obj) : ∃ w1 n, wc.alloc o = w1 ∧ wc.heap.size = n ∧ Chg S wr w1 ∧ Below wc.heap.size wc w1 ∧ w1.heap[n]? = some o ∧ w1.heap.size = n + 1 :=
  ⟨_, _, rfl, rfl, HC.alloc o, (Below.refl _ _).alloc (Nat.le_refl _) _, heap_at o rfl, by simp⟩
/-- A call that made a tree. -/
theorem call_step {S : Nat → Prop} {wr wc w1 : World} {b : Nat} {y : Y} (HC : Chg S wr wc) (hy : YN w1 (fun k => wc.heap.size ≤ k) b y) (hb : Below wc.heap.size wc w1) :
    ∃ lo hi, wc.heap.size = lo ∧ w1.heap.size = hi ∧ lo ≤ hi ∧ Chg S wr w1 ∧ YN w1 (fun k => lo ≤ k ∧ k < hi) b y :=
  ⟨_, _, rfl, rfl, hb.size, HC.trans (Chg.of_below hb) (fun _ (q : False) => q.elim), hy.lt⟩

/-- A node's content has grown: the new slice is laid into the node's cell. -/
theorem grow_step {nb base : Nat} {wr w1 w2 : World} {cv : Value} {n m g cap : Nat} {bs nbs : List Nat} {ys nys : List Y} {k : Int} {t v : ByteArray} {F2 : Nat → Prop}
    (HN : NB wr nb k t v cv) (hnb : nb < base) (HO : wr.ownsRow base 88 1 cv n (ptrs bs)) (HY : YL wr (fun k => base ≤ k ∧ some k ≠ cv.ownBlock) bs ys)
    (hc : Chg (fun _ => False) wr w1) (HY2 : YL w1 F2 nbs nys) (hF2 : ∀ k, F2 k → wr.heap.size ≤ k) (hbase : base ≤ wr.heap.size)
    (hown : w2.ownsRow base 88 1 (.slice (some ⟨g, 0, none⟩) (n + m) cap) (n + m) (ptrs bs ++ ptrs nbs)) (hg : w1.grownBy w2 cv.ownBlock) (hat : cv.ownBlock = some g ∨ g = w1.heap.size) :
    NB (w2.setCell ⟨nb, 6, none⟩ (.slice (some ⟨g, 0, none⟩) (n + m) cap)) nb k t v (.slice (some ⟨g, 0, none⟩) (n + m) cap) ∧
    (w2.setCell ⟨nb, 6, none⟩ (.slice (some ⟨g, 0, none⟩) (n + m) cap)).ownsRow base 88 1 (.slice (some ⟨g, 0, none⟩) (n + m) cap) (n + m) (ptrs (bs ++ nbs)) ∧
    YL (w2.setCell ⟨nb, 6, none⟩ (.slice (some ⟨g, 0, none⟩) (n + m) cap)) (fun k => base ≤ k ∧ some k ≠ (Value.slice (some ⟨g, 0, none⟩) (n + m) cap).ownBlock) (bs ++ nbs) (ys ++ nys) ∧
    Chg (fun k => k = nb ∨ some k = cv.ownBlock) wr (w2.setCell ⟨nb, 6, none⟩ (.slice (some ⟨g, 0, none⟩) (n + m) cap)) := by
  have hnl := HN.lt
  have hob : ∀ k, cv.ownBlock = some k → base ≤ k := own_base HO
  have hol : ∀ k, cv.ownBlock = some k → k < wr.heap.size := own_lt HO
  have hgb : base ≤ g := own_base hown g rfl
  have b12 : ∀ k, k < w1.heap.size → some k ≠ cv.ownBlock → w2.heap[k]? = w1.heap[k]? := fun k hk hn => hg.block k hk hn
  have br1 : ∀ k, k < wr.heap.size → w1.heap[k]? = wr.heap[k]? := fun k hk => hc.block k hk (fun q => q)
  have hs1 := hc.size
  have hN2 : NB w2 nb k t v cv := (b12 nb (by omega) (fun e => by have := hob _ e.symm; omega)).trans ((br1 nb hnl).trans HN)
  refine ⟨?_, ?_, ?_, ?_⟩
  · have := heap_set (a := ⟨nb, 6, none⟩) (v := .slice (some ⟨g, 0, none⟩) (n + m) cap) hN2 rfl
    exact this
  · rw [ptrs_append]
    exact own_move hown (fun k hk => heap_set_ne (by have : g = k := by simpa [Value.ownBlock] using hk
                                                     show k ≠ nb
                                                     omega))
  · refine YL.append (F1 := fun k => (base ≤ k ∧ some k ≠ cv.ownBlock) ∧ k < wr.heap.size) (F2 := fun k => F2 k ∧ k < w1.heap.size) ?_ ?_ ?_ ?_ ?_
    · refine YL.move (fun _ q => q) (fun k hk _ => ?_) HY.lt
      rw [heap_set_ne (by show k ≠ nb; omega), b12 k (by omega) hk.1.2, br1 k hk.2]
    · refine YL.move (fun _ q => q) (fun k hk _ => ?_) HY2.lt
      have := hF2 k hk.1
      rw [heap_set_ne (by show k ≠ nb; omega), b12 k hk.2 (fun e => by have := hol _ e.symm; omega)]
    · rintro k ⟨⟨h1, h2⟩, h3⟩
      refine ⟨h1, fun e => ?_⟩
      have e' : k = g := by simpa [Value.ownBlock] using e
      rcases hat with h | h
      · exact h2 (by rw [e', h])
      · omega
    · rintro k ⟨h1, h2⟩
      have := hF2 k h1
      refine ⟨by omega, fun e => ?_⟩
      have e' : k = g := by simpa [Value.ownBlock] using e
      rcases hat with h | h
      · have := hol _ h; omega
      · omega
    · rintro k ⟨_, h1⟩ ⟨h2, _⟩
      have := hF2 k h2
      omega
  · refine Chg.setCell ?_ (.inl (.inl rfl)) _
    exact (hc.mono (fun _ q => q.elim)).grown hg (fun k e => .inl (.inr e.symm))

/-- A row of one's own over a change elsewhere. -/
theorem R_upd {α : Type} {d : Kd α} {e : Nat} {w w1 : World} {base : Nat} {ok : Nat → Prop} {v : Value} {xs : List α} (h : d.R e w base ok v xs) (hm : ∀ k, ok k → base ≤ k → k < w.heap.size → w1.heap[k]? = w.heap[k]?) : d.R e w1 base ok v xs :=
  Kd.R_mono (Kd.R_move (Kd.R_bound h) (fun k hk => hm k hk.1 hk.2.1 hk.2.2.1)) (fun _ hk => hk.1)
theorem R_own {α : Type} {d : Kd α} {e : Nat} {w : World} {base : Nat} {ok : Nat → Prop} {v : Value} {xs : List α} (h : d.R e w base ok v xs) (k : Nat) (hk : v.ownBlock = some k) : base ≤ k ∧ k < w.heap.size ∧ ok k := by
  obtain ⟨inner, ho⟩ := Kd.R_own h
  exact ⟨own_base ho k hk, own_lt ho k hk, h.1 k hk⟩
/-- Of two rows of different types none is the other. -/
theorem R_types_ne {α β : Type} {d : Kd α} {d' : Kd β} {e e' : Nat} {w : World} {base base' : Nat} {ok ok' : Nat → Prop} {v v' : Value} {xs : List α} {ys : List β} (h : d.R e w base ok v xs) (h' : d'.R e' w base' ok' v' ys) (hne : e ≠ e') (k : Nat) (hk : v.ownBlock = some k) : some k ≠ v'.ownBlock := by
  obtain ⟨inner, ho⟩ := Kd.R_own h
  obtain ⟨inner', ho'⟩ := Kd.R_own h'
  rcases own_type_ne ho ho' hne with h1 | h1
  · rw [h1] at hk; cases hk
  · rw [← hk]; exact h1

/-- The same world by another name, inside a region. -/
theorem world_ {P : Program} {md : Region.Mode} {ops : Array Oper} {Q : Exit → Act → World → Prop} {S : World → Prop} {ds : List Nat} {fuel : Nat} {l : Array Bool} {a : Act} {w w' : World} (h : w = w')
    (k : Go.Proofs.YtigpgkfgkjabmaaW.PrintLast.wpAnyLast P md ops Q S ds fuel l a w') : Go.Proofs.YtigpgkfgkjabmaaW.PrintLast.wpAnyLast P md ops Q S ds fuel l a w := by
  subst h
  exact k
end Go.Proofs.Ytigpgkfgkjabmaa
