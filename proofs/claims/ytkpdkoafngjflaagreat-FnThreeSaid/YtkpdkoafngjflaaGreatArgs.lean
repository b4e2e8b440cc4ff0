import Derived.Test.YtkpdkoafngjflaaGreatCut
import Derived.Deep.Slices
import Derived.ChangeAt
namespace Go.Proofs.YtkpdkoafngjflaaGreat
open Go.RowKit Go.Proofs.YtkpdkoafngjflaaGreatW.PrintWords Go.Proofs.YtkpdkoafngjflaaGreatW.PrintLast Go.Proofs.YtkpdkoafngjflaaGreat.PFnFields
open Go.ChangeShapes Go.WideShapes
set_option linter.unusedVariables false
set_option linter.unusedSimpArgs false
theorem Tryz.cellsStr : Tryz.prog.cellsOf 9 = 1 := by kernel_rfl
theorem Tryz.cellsNode : Tryz.prog.cellsOf 25 = 5 := by kernel_rfl
theorem Tryz.cellsStrs : Tryz.prog.cellsOf 22 = 1 := by kernel_rfl
theorem Tryz.cellsNodes : Tryz.prog.cellsOf 23 = 1 := by kernel_rfl
theorem Tryz.cellsInt : Tryz.prog.cellsOf 3 = 1 := by kernel_rfl
theorem le_max {n : Nat} (h : n ≤ maxLen) : n ≤ 9223372036854775807 := by unfold maxLen at h; omega
theorem getD_map_range {α : Type} (n : Nat) (f : Nat → α) (i : Nat) (p : α) (h : ((List.range n).map f)[i]? = some p) : i < n ∧ p = f i := by
 rw [List.getElem?_map] at h
 by_cases hi : i < n
 ·rw [List.getElem?_range hi] at h
  exact ⟨hi, by simpa using h.symm⟩
 ·rw [List.getElem?_eq_none (by simpa using hi)] at h
  simp at h
theorem list5 {α : Type} {l : List α} (h : l.length = 5) : ∃ a b c d e, l = [a, b, c, d, e] := by
 match l, h with
 | [a, b, c, d, e], _ => exact ⟨a, b, c, d, e, rfl⟩
section
variable {H : Type} {enc : TypeId × Value → H} {W : World} {base : Nat} {spare : Nat → Bool} {held : Bool}
theorem arg_strs {fuel : Nat} {cs : List Value} {x : DataW H × List MemPlace} (h : DataW.trod enc Tryz.prog W base spare held fuel 22 cs = some x) :
  ∃ A c xs, cs = [.slice A xs.length c] ∧ xs.length ≤ c ∧ Kd.string.C W A xs.length xs ∧ ∀ s ∈ xs, s.size ≤ 9223372036854775807 := by
 rcases Go.Deep.open_slice1 Tryz.underlying22 Tryz.cellsStr h with ⟨rfl, _⟩ | ⟨a, len, cap, m, n, V, D, Pl, rfl, hb, hl, hm, hmm, _, hx⟩
 ·exact ⟨none, 0, [], rfl, by simp, Kd.C_nil _ _, by simp⟩
 have hlm : len ≤ m := by rw [hmm]; split <;> omega
 obtain ⟨S, hS⟩ := Go.Deep.choose_lt (α := ByteArray) (n := len) (p := fun i s => V i = .string s ∧ s.size ≤ maxLen) (fun i hi => by
  obtain ⟨_, h2⟩ := hx i (by omega)
  obtain ⟨s, e, _, hs⟩ := DataW.trod_string Tryz.underlying9 h2
  exact ⟨s, by simpa using e, hs⟩)
 refine ⟨some a, cap, (List.range len).map S, by simp, by simpa using hl, ⟨by simp, by have := le_max hm; simp; omega, fun h0 => ⟨a, rfl, fun j p hp => ?_⟩⟩, ?_⟩
 ·obtain ⟨hj, rfl⟩ := getD_map_range len S j p hp
  refine ⟨[.string (S j)], rfl, rfl, fun i u hu => ?_⟩
  match i, hu with
  |0, hu =>
   simp at hu
   subst hu
   rw [show j * Kd.string.sz + 0 = j from by show j * 1 + 0 = j; omega, (hx j (by omega)).1, (hS j hj).1]
  | i + 1, hu => simp at hu
 ·intro s hs
  obtain ⟨i, hi, rfl⟩ := List.mem_map.1 hs
  exact le_max (hS i (List.mem_range.1 hi)).2
theorem arg_nodes_of {fuel : Nat} (ih : ∀ (fuel' : Nat), fuel' < fuel → ∀ (cs : List Value) (x : DataW H × List MemPlace), DataW.trod enc Tryz.prog W base spare held fuel' 25 cs = some x → ∃ y : S25, k25.K W y cs ∧ Sz y)
  {cs : List Value} {x : DataW H × List MemPlace} (h : DataW.trod enc Tryz.prog W base spare held fuel 23 cs = some x) :
  ∃ A c ys, cs = [.slice A ys.length c] ∧ ys.length ≤ c ∧ k25.C W A ys.length ys ∧ ∀ y ∈ ys, Sz y := by
 rcases DataW.trod_slice Tryz.underlying23 h with ⟨rfl, _⟩ | ⟨a, len, cap, elems, rest, n, hn, rfl, rfl, hb, hl, hm, hlen, hel, hsp, hns⟩
 ·exact ⟨none, 0, [], rfl, by simp, Kd.C_nil _ _, by simp⟩
 have each : ∀ i, i < len → ∃ cs', W.cells? base (a.add (i * 5)) 5 = some cs' ∧ ∃ q, DataW.trod enc Tryz.prog W base spare held n 25 cs' = some q := by
  intro i hi
  have h1 := hel i hi
  rw [List.getElem?_eq_getElem (by omega), Tryz.cellsNode] at h1
  obtain ⟨cs', h2, h3⟩ := Option.bind_eq_some_iff.1 h1
  exact ⟨cs', h2, _, h3⟩
 haveI : Inhabited S25 := ⟨z25⟩
 obtain ⟨S, hS⟩ := Go.Deep.choose_lt (α := S25 × List Value) (n := len) (p := fun i s => W.cells? base (a.add (i * 5)) 5 = some s.2 ∧ k25.K W s.1 s.2 ∧ Sz s.1) (fun i hi => by
  obtain ⟨cs', h1, q, h2⟩ := each i hi
  obtain ⟨y, hy, hz⟩ := ih n (by omega) cs' q h2
  exact ⟨(y, cs'), h1, hy, hz⟩)
 refine ⟨some a, cap, (List.range len).map (fun i => (S i).1), by simp, by simpa using hl, ⟨by simp, by have := le_max hm; simp; omega, fun h0 => ⟨a, rfl, fun j p hp => ?_⟩⟩, ?_⟩
 ·obtain ⟨hj, rfl⟩ := getD_map_range len (fun i => (S i).1) j p hp
  obtain ⟨g1, g2, _⟩ := hS j hj
  obtain ⟨_, hl5, hcell⟩ := World.cells?_some g1
  refine ⟨(S j).2, hl5, g2, fun i u hu => ?_⟩
  have hi5 : i < 5 := by
   have := (List.getElem?_eq_some_iff.1 hu).1
   omega
  have := hcell i hi5
  rw [Go.Deep.add_add] at this
  rw [show j * k25.sz + i = j * 5 + i from rfl, this]
  exact hu
 ·intro s hs
  obtain ⟨i, hi, rfl⟩ := List.mem_map.1 hs
  exact (hS i (List.mem_range.1 hi)).2.2
theorem arg_node : ∀ (fuel : Nat) (cs : List Value) (x : DataW H × List MemPlace), DataW.trod enc Tryz.prog W base spare held fuel 25 cs = some x → ∃ y : S25, k25.K W y cs ∧ Sz y := by
 intro fuel
 induction fuel using Nat.strongRecOn with
 |ind fuel ih =>
  intro cs x h
  obtain ⟨xs, n, rfl, _, hcl, hxl, hf⟩ := DataW.trod_struct Tryz.underlying25 h
  rw [Tryz.cellsNode] at hcl
  obtain ⟨y0, y1, y2, y3, y4, rfl⟩ := list5 (show xs.length = 5 from hxl)
  obtain ⟨v0, v1, v2, v3, v4, rfl⟩ := list5 hcl
  have g0 : DataW.trod enc Tryz.prog W base spare held n 3 (List.take (Tryz.prog.cellsOf 3) (List.drop 0 [v0, v1, v2, v3, v4])) = some y0 := hf 0 _ rfl
  have g1 : DataW.trod enc Tryz.prog W base spare held n 9 (List.take (Tryz.prog.cellsOf 9) (List.drop 1 [v0, v1, v2, v3, v4])) = some y1 := hf 1 _ rfl
  have g2 : DataW.trod enc Tryz.prog W base spare held n 9 (List.take (Tryz.prog.cellsOf 9) (List.drop 2 [v0, v1, v2, v3, v4])) = some y2 := hf 2 _ rfl
  have g3 : DataW.trod enc Tryz.prog W base spare held n 22 (List.take (Tryz.prog.cellsOf 22) (List.drop 3 [v0, v1, v2, v3, v4])) = some y3 := hf 3 _ rfl
  have g4 : DataW.trod enc Tryz.prog W base spare held n 23 (List.take (Tryz.prog.cellsOf 23) (List.drop 4 [v0, v1, v2, v3, v4])) = some y4 := hf 4 _ rfl
  simp only [Tryz.cellsInt, Tryz.cellsStr, Tryz.cellsStrs, Tryz.cellsNodes, List.drop_zero, List.drop_succ_cons, List.take_succ_cons, List.take_zero, List.getElem?_cons_zero, List.getElem?_cons_succ] at g0 g1 g2 g3 g4
  obtain ⟨i0, e0, _, hw0⟩ := DataW.trod_int Tryz.underlying3 g0
  obtain ⟨s1, e1, _, z1⟩ := DataW.trod_string Tryz.underlying9 g1
  obtain ⟨s2, e2, _, z2⟩ := DataW.trod_string Tryz.underlying9 g2
  obtain ⟨A3, c3, ks, e3, l3, r3, z3⟩ := arg_strs g3
  obtain ⟨A4, c4, ys, e4, l4, r4, z4⟩ := arg_nodes_of (fun fuel' hlt => ih fuel' (by omega)) g4
  obtain rfl := (List.cons.inj e0).1
  obtain rfl := (List.cons.inj e1).1
  obtain rfl := (List.cons.inj e2).1
  obtain rfl := (List.cons.inj e3).1
  obtain rfl := (List.cons.inj e4).1
  exact ⟨⟨i0, s1, s2, ks, ys⟩, k25_mk W ⟨i0, s1, s2, ks, ys⟩ l3 r3 l4 r4, .mk _ (le_max z1) (le_max z2) z3 z4⟩
theorem arg_node_trod {v : Value} {d : DataW H} {ps : List MemPlace} (hv : ∃ cs, v = .agg cs) (h : DataW.Trod enc Tryz.prog W base spare held 25 v d ps) :
  ∃ (y : S25) (A3 : Option Addr) (c3 : Nat) (A4 : Option Addr) (c4 : Nat), v = .agg #[.int .i64 y.f0, .string y.f1, .string y.f2, .slice A3 y.f3.length c3, .slice A4 y.f4.length c4] ∧
   k25.K W y [.int .i64 y.f0, .string y.f1, .string y.f2, .slice A3 y.f3.length c3, .slice A4 y.f4.length c4] ∧ Sz y := by
 obtain ⟨fuel, h⟩ := h
 obtain ⟨cs, rfl⟩ := hv
 obtain ⟨y, hk, hz⟩ := arg_node fuel _ _ h
 obtain ⟨A3, c3, A4, c4, e, _, _, _, _⟩ := k25_open hk
 rw [e] at hk
 refine ⟨y, A3, c3, A4, c4, ?_, hk, hz⟩
 congr 1
 exact Array.toList_inj.1 e
end
end Go.Proofs.YtkpdkoafngjflaaGreat
