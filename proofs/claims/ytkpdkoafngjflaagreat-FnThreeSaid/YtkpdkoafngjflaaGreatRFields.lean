import Derived.Test.YtkpdkoafngjflaaGreatRead
import Derived.LaidEqlPtr
import Derived.Maps.OwnOps
import Derived.Test.YtkpdkoafngjflaaGreatProg
import Derived.Shelf.Sort.Plain
import Derived.Maps.OwnSet
import Derived.Maps.RangeWalk
import Derived.Sort.KeysCollected
import Derived.Sort.OwnSorted
import Derived.Test.YtkpdkoafngjflaaGreatCut
import Derived.Test.YtkpdkoafngjflaaGreatOpen
import Derived.Lib.SliceRun
import Derived.Test.YtkpdkoafngjflaaGreatSh
namespace Go.Proofs.YtkpdkoafngjflaaGreat
open Go.RowKit Go.Proofs.YtkpdkoafngjflaaGreatW.PrintWords Go.ChangeMaps Go.MapKept
set_option linter.unusedVariables false
set_option linter.unusedSimpArgs false
theorem Tryz.infoRN : (Tryz.prog.info? 78).map (fun i => i.size) = some 4 := by kernel_rfl
theorem Tryz.underPRN : Tryz.prog.underlying 42 = some (.pointer 78) := by kernel_rfl
theorem eq_same (w : World) (r : Nat) : (Op.equal 42 (ptr r) (ptr r)).run Tryz.prog w = .ok true w := by
 obtain ⟨j, hte, _⟩ := Option.map_eq_some_iff.1 Tryz.infoRN
 have h : ∀ d : Nat, (Op.equalIn (d + 1) 42 (ptr r) (ptr r)).run Tryz.prog w = .ok true w := fun d => by
  simp [Op.equalIn, run_underlying Tryz.underPRN, sizeOf, typeInfo, hte, run_sameAddr_same]
 simp [Op.equal, Op.maxDepth, h 9999]
theorem eq_other (w : World) {r q b b' : Nat} (hne : r ≠ q) (h1 : RN w r b) (h2 : RN w q b') : (Op.equal 42 (ptr r) (ptr q)).run Tryz.prog w = .ok false w := by
 obtain ⟨j, hte, hsz⟩ := Option.map_eq_some_iff.1 Tryz.infoRN
 obtain ⟨_, _, _, h1⟩ := h1
 obtain ⟨_, _, _, h2⟩ := h2
 have hsz' : j.size ≠ 0 := by omega
 have hne' : (⟨r, 0, none⟩ : Addr) ≠ ⟨q, 0, none⟩ := fun e => hne (by cases e; rfl)
 have h : ∀ d : Nat, (Op.equalIn (d + 1) 42 (ptr r) (ptr q)).run Tryz.prog w = .ok false w := fun d => by
  simp [Op.equalIn, run_underlying Tryz.underPRN, sizeOf, typeInfo, hte, hsz', run_sameAddr_other w hne' h1 h2]
 simp [Op.equal, Op.maxDepth, h 9999]
theorem eq_nil (w : World) (q : Nat) : (Op.equal 42 (.pointer none) (ptr q)).run Tryz.prog w = .ok false w := by
 have h : ∀ d : Nat, (Op.equalIn (d + 1) 42 (.pointer none) (ptr q)).run Tryz.prog w = .ok false w := fun d => by
  simp [Op.equalIn, run_underlying Tryz.underPRN]
 simp [Op.equal, Op.maxDepth, h 9999]
def AZ (w : World) (base b n : Nat) : Prop := ∃ es clock, w.heap[b]? = some (.map es clock) ∧ es.size ≤ n ∧ base ≤ b ∧ ∀ e ∈ es.toList, e.val = .int .u32 0 ∧ ∃ r bb, e.key = ptr r ∧ RN w r bb ∧ base ≤ r
theorem find_ptr (w : World) (r bb : Nat) (hr : RN w r bb) : ∀ (es : List MapEntry) (i : Nat), (∀ e ∈ es, ∃ q b', e.key = ptr q ∧ RN w q b') →
  (Instr.findAsking 42 (ptr r) es i).run Tryz.prog w = .ok none w ∨ ∃ j e, (Instr.findAsking 42 (ptr r) es i).run Tryz.prog w = .ok (some (i + j, e.val)) w ∧ es[j]? = some e ∧ e.key = ptr r
 | [], i, _ => .inl rfl
 |e :: es, i, h => by
  obtain ⟨q, b', hq, hrq⟩ := h e (List.mem_cons_self ..)
  by_cases hne : r = q
  ·subst hne
   refine .inr ⟨0, e, ?_, rfl, hq⟩
   simp [Instr.findAsking, hq, eq_same, Result.andThen]
  ·rcases find_ptr w r bb hr es (i + 1) (fun e he => h e (List.mem_cons_of_mem _ he)) with h1 | ⟨j, e', h1, h2, h3⟩
   ·refine .inl ?_
    simp [Instr.findAsking, hq, eq_other w hne hr hrq, Result.andThen, h1]
   ·refine .inr ⟨j + 1, e', ?_, by simpa using h2, h3⟩
    simp [Instr.findAsking, hq, eq_other w hne hr hrq, Result.andThen, h1]
    omega
theorem find_nil (w : World) : ∀ (es : List MapEntry) (i : Nat), (∀ e ∈ es, ∃ q b', e.key = ptr q ∧ RN w q b') → (Instr.findAsking 42 (.pointer none) es i).run Tryz.prog w = .ok none w
 | [], i, _ => rfl
 |e :: es, i, h => by
  obtain ⟨q, b', hq, hrq⟩ := h e (List.mem_cons_self ..)
  simp [Instr.findAsking, hq, eq_nil, Result.andThen, find_nil w es (i + 1) (fun e he => h e (List.mem_cons_of_mem _ he))]
theorem findNow_ptr (tk : TypeId) (p : Option Addr) : ∀ (es : List MapEntry) (i : Nat), es ≠ [] → Instr.findNow (.pointer tk) (.pointer p) es i = none
 | [], _, h => absurd rfl h
 | e :: es, i, _ => by simp [Instr.findNow, Instr.sameNow]
theorem findKey_ptr (w : World) (p : Option Addr) (es : List MapEntry) : (Instr.findKey 42 (.pointer p) es).run Tryz.prog w = (Instr.findAsking 42 (.pointer p) es 0).run Tryz.prog w := by
 cases es with
 | nil => simp [Instr.findKey, run_underlying Tryz.underPRN, Instr.findNow, Instr.findAsking, Result.andThen]
 | cons e es => simp [Instr.findKey, run_underlying Tryz.underPRN, findNow_ptr _ _ (e :: es) 0 (by simp), Result.andThen]
theorem checkKey_ptr (w : World) (em : Bool) (p : Option Addr) : (Instr.checkKey em 10000 42 (.pointer p)).run Tryz.prog w = .ok () w := by
 have h : ∀ d : Nat, (Instr.checkKey em (d + 1) 42 (.pointer p)).run Tryz.prog w = .ok () w := fun d => by
  simp [Instr.checkKey, run_underlying Tryz.underPRN, Result.andThen]
 exact h 9999
theorem zeroStyle (w : World) : (zeroValue 79).run Tryz.prog w = .ok (.int .u32 0) w := by kernel_rfl
theorem AZ.keys {w : World} {base b n : Nat} {es : Array MapEntry} (h : ∀ e ∈ es.toList, e.val = .int .u32 0 ∧ ∃ r bb, e.key = ptr r ∧ RN w r bb ∧ base ≤ r) : ∀ e ∈ es.toList, ∃ q b', e.key = ptr q ∧ RN w q b' := fun e he => by
 obtain ⟨_, r, bb, h1, h2, _⟩ := h e he
 exact ⟨r, bb, h1, h2⟩
theorem AZ.look {w : World} {base b n : Nat} (h : AZ w base b n) (p : Option Nat) (hp : ∀ r, p = some r → ∃ bb, RN w r bb) :
  (Instr.lookup 95 (.map (some b)) (.pointer (p.map fun r => ⟨r, 0, none⟩)) false).run Tryz.prog w = .ok (.int .u32 0) w := by
 obtain ⟨es, clock, hb, hs, hbase, he⟩ := h
 have hu := run_underlying (w := w) Tryz.underlying95
 cases p with
 |none =>
  simp [Instr.lookup, hu, MapKept.run_getObj_map hb, checkKey_ptr w _ none, findKey_ptr, find_nil w es.toList 0 (AZ.keys (base := base) (b := b) (n := n) he), zeroStyle, Result.andThen]
 |some r =>
  obtain ⟨bb, hr⟩ := hp r rfl
  rcases find_ptr w r bb hr es.toList 0 (AZ.keys (base := base) (b := b) (n := n) he) with h1 | ⟨j, e, h1, h2, h3⟩
  ·simp [Instr.lookup, hu, MapKept.run_getObj_map hb, checkKey_ptr w _ (some ⟨r, 0, none⟩), findKey_ptr, h1, zeroStyle, Result.andThen]
  ·have hv := (he e (List.mem_of_getElem? h2)).1
   simp [Instr.lookup, hu, MapKept.run_getObj_map hb, checkKey_ptr w _ (some ⟨r, 0, none⟩), findKey_ptr, h1, hv, Result.andThen]
theorem AZ.move {w w' : World} {base b n : Nat} (h : AZ w base b n) (hm : ∀ k, base ≤ k → k < w.heap.size → (∀ cs t, w.heap[k]? = some (.cells cs t (0, 0)) → t = 78) → w'.heap[k]? = w.heap[k]?) : AZ w' base b n := by
 obtain ⟨es, clock, hb, hs, hbase, he⟩ := h
 refine ⟨es, clock, (hm b hbase (lt_of_block hb) (fun cs t q => by rw [hb] at q; cases q)).trans hb, hs, hbase, fun e hme => ?_⟩
 obtain ⟨h1, r, bb, h2, h3, h4⟩ := he e hme
 exact ⟨h1, r, bb, h2, h3.move (fun l => hm r h4 l (fun cs t q => by obtain ⟨_, _, _, h3⟩ := h3; rw [h3] at q; cases q; rfl)), h4⟩
theorem AZ.below {w w' : World} {base b n : Nat} (h : AZ w base b n) (hb : Below w.heap.size w w') : AZ w' base b n := h.move fun k _ hl _ => hb.block k hl
theorem AZ.made (w : World) (base : Nat) (hb : base ≤ w.heap.size) : AZ (w.alloc (.map #[] 0)) base w.heap.size 0 := ⟨#[], 0, heap_at _ rfl, Nat.le_refl _, hb, fun e he => by cases he⟩
theorem AZ.store {w : World} {base b n r bb : Nat} (h : AZ w base b n) (hr : RN w r bb) (hbr : base ≤ r) (hrb : r ≠ b) :
  ∃ w', (Instr.mapUpdate 95 (.map (some b)) (ptr r) (.int .u32 0)).run Tryz.prog w = .ok () w' ∧ AZ w' base b (n + 1) ∧ w.grownBy w' (some b) := by
 have h0 := h
 obtain ⟨es, clock, hb, hs, hbase, he⟩ := h
 have hu := run_underlying (w := w) Tryz.underlying95
 have hset : ∀ o : Obj, w.grownBy (setBlock w b o) (some b) ∧ (setBlock w b o).heap[b]? = some o := fun o => by
  refine ⟨⟨rfl, rfl, rfl, by simp [setBlock], fun k hk hn => ?_⟩, ?_⟩
  ·simp [setBlock, Array.getElem?_setIfInBounds]
   intro e; exact absurd (by rw [e]) hn
  ·have := lt_of_block hb
   simp [setBlock, Array.getElem?_setIfInBounds, this]
 have hkeep : ∀ o : Obj, ∀ q b', RN w q b' → RN (setBlock w b o) q b' := fun o q b' hq => hq.move (fun l => (hset o).1.block q l (fun e => by
  obtain ⟨_, _, _, hq⟩ := hq
  obtain rfl := Option.some.inj e
  rw [hb] at hq; cases hq))
 rcases find_ptr w r bb hr es.toList 0 (AZ.keys (base := base) (b := b) (n := n) he) with h1 | ⟨j, e, h1, h2, h3⟩
 ·refine ⟨setBlock w b (.map (es.push ⟨ptr r, .int .u32 0, clock⟩) (clock + 1)), ?_, ⟨_, _, (hset _).2, by simp; omega, hbase, fun e hme => ?_⟩, (hset _).1⟩
  ·simp [Instr.mapUpdate, hu, MapKept.run_getObj_map hb, checkKey_ptr w _ (some ⟨r, 0, none⟩), findKey_ptr, h1, MapKept.run_setObj_map _ hb, Result.andThen, setBlock]
  ·simp only [Array.toList_push, List.mem_append, List.mem_singleton] at hme
   rcases hme with hme | rfl
   ·obtain ⟨q1, q, b', q2, q3, q4⟩ := he e hme
    exact ⟨q1, q, b', q2, hkeep _ _ _ q3, q4⟩
   ·exact ⟨rfl, r, bb, rfl, hkeep _ _ _ hr, hbr⟩
 ·have hj : es[j]? = some e := by simpa using h2
  have hsb : (Instr.keyThatStays (ptr r) (ptr r)).run Tryz.prog w = .ok (ptr r) w := by simp [Instr.keyThatStays, Instr.sameBits, Result.andThen]
  refine ⟨setBlock w b (.map (es.modify j fun e => { e with key := ptr r, val := .int .u32 0 }) clock), ?_, ⟨_, _, (hset _).2, by simp; omega, hbase, fun e' hme => ?_⟩, (hset _).1⟩
  ·simp [Instr.mapUpdate, hu, MapKept.run_getObj_map hb, checkKey_ptr w _ (some ⟨r, 0, none⟩), findKey_ptr, h1, hj, h3, hsb, MapKept.run_setObj_map _ hb, Result.andThen, setBlock]
  ·obtain ⟨i, hi, rfl⟩ := List.getElem_of_mem hme
   have hi' : i < es.size := by simpa using hi
   have hold := he es[i] (by simp)
   simp only [Array.toList_modify, Array.getElem_toList, List.getElem_modify]
   split
   ·exact ⟨rfl, r, bb, rfl, hkeep _ _ _ hr, hbr⟩
   ·obtain ⟨q1, q, b', q2, q3, q4⟩ := hold
    exact ⟨by simpa using q1, q, b', by simpa using q2, hkeep _ _ _ q3, q4⟩
end Go.Proofs.YtkpdkoafngjflaaGreat
namespace Go.Proofs.YtkpdkoafngjflaaGreat
open Go.Shelf
def lays192_ren : Go.Shelf.Ren := ⟨fun | 192 => 72 | 190 => 94 | 125 => 111 | 258 => 110 | 128 => 123 | 129 => 124 | 302 => 114 | 303 => 115 | 304 => 116 | 305 => 117 | 306 => 118 | 307 => 119 | 308 => 120 | 309 => 121 | 310 => 122 | 333 => 126 | 329 => 127 | 330 => 128 | 334 => 129 | 335 => 130 | 336 => 131 | 344 => 135 | n => n, fun | 31 => 22 | 0 => 0 | 9 => 9 | 3 => 3 | 46 => 174 | 51 => 72 | 53 => 188 | 4 => 4 | 183 => 180 | 182 => 179 | 131 => 184 | 5 => 5 | 218 => 189 | 222 => 40 | 228 => 194 | 229 => 195 | n => n, fun | n => n⟩
theorem lays192 : Go.Proofs.Lays.n192 Tryz.prog lays192_ren := {
 mixed := by kernel_rfl
 f125 := Tryz.func111.trans (congrArg some (by kernel_rfl))
 f128 := Tryz.func123.trans (congrArg some (by kernel_rfl))
 f129 := Tryz.func124.trans (congrArg some (by kernel_rfl))
 f190 := Tryz.func94.trans (congrArg some (by kernel_rfl))
 f192 := Tryz.func72.trans (congrArg some (by kernel_rfl))
 f258 := Tryz.func110.trans (congrArg some (by kernel_rfl))
 f302 := Tryz.func114.trans (congrArg some (by kernel_rfl))
 f303 := Tryz.func115.trans (congrArg some (by kernel_rfl))
 f304 := Tryz.func116.trans (congrArg some (by kernel_rfl))
 f305 := Tryz.func117.trans (congrArg some (by kernel_rfl))
 f306 := Tryz.func118.trans (congrArg some (by kernel_rfl))
 f307 := Tryz.func119.trans (congrArg some (by kernel_rfl))
 f308 := Tryz.func120.trans (congrArg some (by kernel_rfl))
 f309 := Tryz.func121.trans (congrArg some (by kernel_rfl))
 f310 := Tryz.func122.trans (congrArg some (by kernel_rfl))
 f329 := Tryz.func127.trans (congrArg some (by kernel_rfl))
 f330 := Tryz.func128.trans (congrArg some (by kernel_rfl))
 f333 := Tryz.func126.trans (congrArg some (by kernel_rfl))
 f334 := Tryz.func129.trans (congrArg some (by kernel_rfl))
 f335 := Tryz.func130.trans (congrArg some (by kernel_rfl))
 f336 := Tryz.func131.trans (congrArg some (by kernel_rfl))
 f344 := Tryz.func135.trans (congrArg some (by kernel_rfl))
 t0 := Tryz.underlying0
 a0 := Tryz.isAgg0
 z0 := Tryz.sizeOf0
 v0 := Tryz.zeroValue0
 t3 := Tryz.underlying3
 a3 := Tryz.isAgg3
 z3 := Tryz.sizeOf3
 v3 := Tryz.zeroValue3
 t4 := Tryz.underlying4
 a4 := Tryz.isAgg4
 z4 := Tryz.sizeOf4
 v4 := Tryz.zeroValue4
 t5 := Tryz.underlying5
 a5 := Tryz.isAgg5
 z5 := Tryz.sizeOf5
 v5 := Tryz.zeroValue5
 t9 := Tryz.underlying9
 a9 := Tryz.isAgg9
 z9 := Tryz.sizeOf9
 v9 := Tryz.zeroValue9
 t31 := Tryz.underlying22
 a31 := Tryz.isAgg22
 z31 := Tryz.sizeOf22
 v31 := Tryz.zeroValue22
 t46 := Tryz.underlying174
 a46 := Tryz.isAgg174
 z46 := Tryz.sizeOf174
 v46 := Tryz.zeroValue174
 t51 := Tryz.underlying72
 a51 := Tryz.isAgg72
 z51 := Tryz.sizeOf72
 v51 := Tryz.zeroValue72
 t53 := Tryz.underlying188
 a53 := Tryz.isAgg188
 z53 := Tryz.sizeOf188
 v53 := Tryz.zeroValue188
 t131 := Tryz.underlying184
 a131 := Tryz.isAgg184
 z131 := Tryz.sizeOf184
 v131 := Tryz.zeroValue184
 t182 := Tryz.underlying179
 a182 := Tryz.isAgg179
 z182 := Tryz.sizeOf179
 v182 := Tryz.zeroValue179
 t183 := Tryz.underlying180
 a183 := Tryz.isAgg180
 z183 := Tryz.sizeOf180
 v183 := Tryz.zeroValue180
 t218 := Tryz.underlying189
 a218 := Tryz.isAgg189
 z218 := Tryz.sizeOf189
 v218 := Tryz.zeroValue189
 t222 := Tryz.underlying40
 a222 := Tryz.isAgg40
 z222 := Tryz.sizeOf40
 v222 := Tryz.zeroValue40
 t228 := Tryz.underlying194
 a228 := Tryz.isAgg194
 z228 := Tryz.sizeOf194
 v228 := Tryz.zeroValue194
 t229 := Tryz.underlying195
 a229 := Tryz.isAgg195
 z229 := Tryz.sizeOf195
 v229 := Tryz.zeroValue195 }
end Go.Proofs.YtkpdkoafngjflaaGreat
namespace Go.Proofs.YtkpdkoafngjflaaGreat
open Go.RowKit Go.Proofs.YtkpdkoafngjflaaGreatW.PrintWords Go.Maps
set_option linter.unusedVariables false
set_option linter.unusedSimpArgs false
def nilE (v : Value) : Option (DataW Unit × List MemPlace) := match v with
 | .nilIface => some (.nil, [])
 | _ => none
theorem nilE_inv {v : Value} {y : DataW Unit × List MemPlace} (h : nilE v = some y) : v = .nilIface := by
 cases v <;> simp [nilE] at h ⊢
theorem Tryz.infoStrS : (Tryz.prog.info? 9).map (fun i => (i.zero, i.size, i.bytes)) = some (some (.string ⟨#[]⟩), 1, 16) := by kernel_rfl
theorem lawStr : Keyed Tryz.prog 9 := string_keyed Tryz.underlying9
abbrev kl (x : ByteArray) : Lit := .string x.data.toList
theorem kl_inj {x y : ByteArray} (h : kl x = kl y) : x = y := by
 have : x.data.toList = y.data.toList := by simpa [kl] using h
 cases x; cases y; simp only [ByteArray.mk.injEq]; exact Array.ext' this
set_option maxRecDepth 100000 in
theorem insert_calls (w : World) (b n c : Nat) (D : DataW Unit) (A : Option Addr) (xs : List ByteArray) (hown : w.ownsMap Tryz.prog 9 nilE b n D) (hA : Kd.string.C w A xs.length xs) (hl : xs.length ≤ 1000) (hn : n + xs.length ≤ 100000) (hs : ∀ x ∈ xs, x.size ≤ maxLen) :
  Calls Tryz.prog 70 #[.map (some b), .slice A xs.length c] w fun e w' => e = .returned (.tuple #[]) ∧ ∃ D', w'.ownsMap Tryz.prog 9 nilE b (n + xs.length) D' ∧ (∀ x, Maps.has D' (kl x) = true ↔ (Maps.has D (kl x) = true ∨ x ∈ xs)) ∧ w.grownBy w' (some b) := by
 have HA := Aside0.mk (And.intro hA (And.intro hl (And.intro hn hs)))
 have HO := Aside0.mk hown
 have hlen : xs.length ≤ 9223372036854775807 := by omega
 have hnb : ∀ (ad : Addr) (v : Value), w.cell? ad = some v → ad.block ≠ b := fun ad v hc e => by
  obtain ⟨es, clock, hb, _⟩ := hown
  simp [World.cell?, e, hb] at hc
 have HNB := Aside0.mk hnb
 have hkey : ∀ {x : ByteArray}, x.size ≤ maxLen → keyOf Tryz.prog 9 (.string x) = some (kl x) := fun h => Go.WideMaps.keyOf_string_mk Tryz.underlying9 h
 have HKEY := Aside0.mk @hkey
 clear hown hA hl hn hs hnb hkey
 go_enter Tryz.func70, Tryz.ntmps70
 go_wp2_with fail
 go_loopg [8] xs.length (fun k i wr => ∃ j : Nat, i = .int .i64 j ∧ Aside0 (j ≤ xs.length ∧ k + j = xs.length) ∧ Aside0 (∃ D', wr.ownsMap Tryz.prog 9 nilE b (n + j) D' ∧ (∀ x, Maps.has D' (kl x) = true ↔ (Maps.has D (kl x) = true ∨ x ∈ xs.take j)) ∧ w.grownBy wr (some b)))
 case atStart => exact ⟨0, rfl, ⟨by omega⟩, ⟨D, HO.out, fun x => by simp, ⟨rfl, rfl, rfl, Nat.le_refl _, fun _ _ _ => rfl⟩⟩⟩
 case round =>
  obtain ⟨j, rfl, HJ, HD⟩ := hrel
  obtain ⟨D', hown, hmem, hgr⟩ := HD.out
  have HM := Aside0.mk (And.intro hmem hgr)
  clear hmem hgr HD
  by_cases hj : j < xs.length
  ·obtain ⟨ad, e, hc⟩ := strAt HA.out.1 j hj
   subst e
   have hc2 := (World.cell?_of_block (w := w) (HM.out.2.block _ (World.block_lt_of_cell? w _ hc) (fun q => HNB.out _ _ hc (Option.some.inj q)))).trans hc
   generalize hx : xs.getD j ByteArray.empty = x at hc2
   have HX := Aside0.mk hx
   have hxm : x.size ≤ maxLen := HA.out.2.2.2 x (by rw [← hx, List.getD_eq_getElem?_getD, List.getElem?_eq_getElem hj]; exact List.getElem_mem _)
   have HKX := Aside0.mk (HKEY.out hxm)
   clear hc hx hxm
   go_wp2_with (first
    | (at_mapUpdate; refine wpList_mapUpdate_own _ rfl _ _ _ 120 rfl 9 20 lawStr Tryz.underlying120 nilE b (n + j) D' rfl hown (by have := HA.out.2.2.1; unfold maxLen; omega) (.string x) .nilIface _ rfl rfl HKX.out _ [] rfl ?_; intro w1 hown1 hgrow1; go_frame)
    | go_in)
   go_roundg (gk - 1)
   case measure => have := HJ.out; omega
   case rel =>
    refine ⟨j + 1, by go_num, ⟨by have := HJ.out; omega⟩, ⟨_, hown1, fun y => ?_, HM.out.2.andThen hgrow1 (fun _ h => .inr h)⟩⟩
    rw [List.take_succ_eq_append_getElem hj, List.mem_append, List.mem_singleton, ← or_assoc, ← HM.out.1 y]
    have hxe : xs[j] = x := by rw [← HX.out, List.getD_eq_getElem?_getD, List.getElem?_eq_getElem hj]; rfl
    rw [hxe]
    by_cases e : y = x
    ·subst e
     exact ⟨fun _ => .inr rfl, fun _ => Maps.has_put_same hown.isMap (show WideAt.IsKeyLit (kl y) from trivial) _⟩
    ·rw [Maps.has_put_other (fun q => e (kl_inj q))]
     exact ⟨.inl, fun q => q.resolve_right e⟩
  ·have hje : j = xs.length := by have := HJ.out; omega
   subst hje
   go_wp2_with fail
   refine ⟨rfl, .tuple #[], ?_, ?_⟩
   ·simp [results, Tryz.results70, go_sem]
   ·exact ⟨rfl, D', hown, fun x => by have := HM.out.1 x; rwa [List.take_length] at this, HM.out.2⟩
set_option maxRecDepth 100000 in
set_option maxHeartbeats 1000000 in
theorem list_calls (w : World) (b n : Nat) (D : DataW Unit) (hown : w.ownsMap Tryz.prog 9 nilE b n D) (hn : n ≤ 100000) :
  Calls Tryz.prog 71 #[.map (some b)] w fun e w' => ∃ (g cap : Nat) (ss : List (List UInt8)), e = .returned (.slice (some ⟨g, 0, none⟩) ss.length cap) ∧ ss.Nodup ∧ (∀ x, x ∈ ss ↔ Maps.has D (.string x) = true) ∧ ss.length ≤ n ∧
   w'.ownsRow w.heap.size 9 1 (.slice (some ⟨g, 0, none⟩) ss.length cap) ss.length (ss.map Go.Proofs.encStr) ∧ Below w.heap.size w w' := by
 obtain ⟨i0, hi, hz0, hz1, hz2⟩ := info_parts Tryz.infoStrS
 have hbl := hown.lt
 have hmax : Maps.size D ≤ 100000 := Nat.le_trans hown.size_le hn
 have HSZ := Aside0.mk (And.intro hown.size_le hn)
 go_enter Tryz.func71, Tryz.ntmps71
 go_wp2_with (first
  | (at_len; refine wpList_len_own _ rfl _ 120 rfl 9 20 Tryz.underlying120 _ b n _ rfl hown ?_)
  | (at_make; refine wpList_make_own _ rfl _ _ 22 rfl w.heap.size 9 i0 (.string ⟨#[]⟩) 1 Tryz.underlying22 hi hz0 hz1 _ _ _ (Maps.size D) rfl rfl rfl (by rw [hz2]; omega) (by unfold maxLen; omega) (Nat.le_refl _) ?_; intro w1 hrow1 hg1)
  | (at_range; refine wpList_range_own _ rfl _ 120 rfl 9 20 lawStr Tryz.underlying120 _ b n _ rfl (hown.kept hg1 (by simp)) ?_; intro w0 hrg0 hg0 hs0)
  | go_in)
 go_frame
 go_loopw [3] (fun v wr => ∃ (left : Lit → Bool) (cnt : Nat) (ss : List (List UInt8)), wr.ranges Tryz.prog 9 nilE b w1.heap.size n D left cnt ∧ ss.length + cnt ≤ Maps.size D ∧
   wr.ownsRow w.heap.size 9 1 v ss.length (ss.map Go.Proofs.encStr) ∧ v ≠ .slice none 0 0 ∧ Collected D left ss ∧ Below w.heap.size w wr)
  (fun _ wr => wr.rangeLeft b w1.heap.size)
 case atStart =>
  exact ⟨_, _, [], hrg0, by simp, hrow1.kept hg0 (Or.inr (by simp [Value.ownBlock])), by simp, Collected.start D,
   ((Below.refl _ _).grown hg1 (Nat.le_refl _) (fun j hj => by cases hj)).grown hg0 hg1.size (fun j hj => by cases hj)⟩
 case round =>
  obtain ⟨left, cnt, ss, hrg, hcs, hrow, hnn, hC, hnx⟩ := hrel
  go_wp2_with (first
   | (at_next; refine wpList_next_ranges _ rfl _ rfl 9 lawStr nilE Go.Proofs.encStr (fun _ : Unit => Value.nilIface) (fun key kl hk => by obtain ⟨x, hx, _⟩ := Maps.keyOf_str Tryz.underlying9 hk; exact ⟨x, hx⟩) (fun v y hv => ⟨(), nilE_inv hv⟩) b w1.heap.size n _ _ _ rfl hrg ?_ ?_)
   | go_in)
  ·intro hc0 hl0
   rcases hrow.2 with ⟨hnil, _⟩ | ⟨g, cap, cur, rfl, hbase, hb, h1, h2, h3, h4⟩
   ·exact absurd hnil hnn
   have HF := Aside0.mk (And.intro hrow (And.intro hC (And.intro hl0 (And.intro hcs hnx))))
   clear hrow hC hl0 hcs hnx hbase hb h1 h2 h3 h4 hrg hnn
   go_wp2_with fail
   exact bodyPost_ret (v := .slice (some ⟨g, 0, none⟩) ss.length cap) (by simp [results, Tryz.results71, go_sem]) rfl ⟨g, cap, ss, rfl, HF.out.2.1.1, fun x => by rw [HF.out.2.1.2 x, HF.out.2.2.1]; simp, by have := HSZ.out; have := HF.out.2.2.2.1; omega, HF.out.1, HF.out.2.2.2.2⟩
  ·intro x kl yd yp w2 cnt2 hkey hlk hv hat hrg2 hlt hg2 hs2 hen
   obtain ⟨x', ex, rfl, _⟩ := Maps.keyOf_str Tryz.underlying9 hkey
   obtain rfl : x = x' := encStr_inj ex
   have hrow2 := hrow.kept hg2 (Or.inr (row_ne_iter hrow hrg).symm)
   clear hs2
   go_wp2_with (first
    | (at_builtin; refine wpList_append_own _ rfl _ _ 22 rfl w.heap.size 9 i0 (.string ⟨#[]⟩) 1 16 Tryz.underlying22 hi hz0 hz1 hz2 rfl (by decide) _ _ _ rfl (hrow2.alloc _) ⟨w2.heap.size, 0, none⟩ 1 1 [Go.Proofs.encStr x] rfl rfl (cell_one_new _ _ _) (by simp [Value.oneCell', Go.Proofs.encStr]) (by unfold maxLen at *; omega) (by omega) (by have := hnx.size; have := hg2.size; simp; omega) ?_; intro v' w3 hown' hg3 hnil3; go_frame)
    | go_in)
   have hrg3 := (hrg2.alloc _).kept hg3 (row_ne_low hrow2 hbl) (row_ne_iter hrow2 hrg2)
   go_roundw
   case rel =>
    refine ⟨_, cnt2, ss ++ [x], hrg3, by simp; omega, by simpa using hown', fun hv' => by have := (hnil3.1 hv').2; omega, hC.step hlk hat, ?_⟩
    exact ((hnx.grown hg2 hnx.size (fun j hj => by cases hj; exact hg1.size)).alloc (by have := hnx.size; have := hg2.size; omega) _).grown hg3 (by have := hnx.size; have := hg2.size; simp; omega) (fun j hj => (hrow2.lt j hj).1)
   case measure => rw [hrg3.left_eq, hrg.left_eq]; exact hlt
end Go.Proofs.YtkpdkoafngjflaaGreat
namespace Go.Proofs.YtkpdkoafngjflaaGreat
open Go.RowKit Go.Proofs.YtkpdkoafngjflaaGreatW.PrintWords Go.Proofs.YtkpdkoafngjflaaGreatW.PrintLast Go.Proofs.YtkpdkoafngjflaaGreat.PFnFields
set_option linter.unusedVariables false
set_option linter.unusedSimpArgs false
structure FM (w : World) (b : Nat) (ks : List ByteArray) (bs : List Nat) (A : Option Addr) (g c : Nat) : Prop where
 nb : NB w b 4 ⟨#[]⟩ ⟨#[]⟩ (.slice A bs.length c)
 at_ : 0 < ks.length → A = some ⟨g, 0, none⟩
 len : bs.length = 2 * ks.length
 most : ks.length ≤ 1000
 cells : ∀ i (h : i < bs.length), w.cell? ⟨g, i, none⟩ = some (ptr bs[i])
 keys : ∀ j (h : j < ks.length), ∃ cv, NB w (bs.getD (2 * j) 0) 8 ⟨#[]⟩ ks[j] cv
theorem FM.move {w w' : World} {b : Nat} {ks : List ByteArray} {bs : List Nat} {A : Option Addr} {g c : Nat} (h : FM w b ks bs A g c) (hb : b < w.heap.size → w'.heap[b]? = w.heap[b]?) (hg : 0 < ks.length → g < w.heap.size → w'.heap[g]? = w.heap[g]?)
  (hk : ∀ j, j < ks.length → bs.getD (2 * j) 0 < w.heap.size → w'.heap[bs.getD (2 * j) 0]? = w.heap[bs.getD (2 * j) 0]?) : FM w' b ks bs A g c := by
 refine ⟨h.nb.move hb, h.at_, h.len, h.most, fun i hi => ?_, fun j hj => ?_⟩
 ·have hc := h.cells i hi
  have hlt := World.block_lt_of_cell? w _ hc
  exact (World.cell?_of_block (w := w) (hg (by have := h.len; omega) hlt)).trans hc
 ·obtain ⟨cv, hn⟩ := h.keys j hj
  exact ⟨cv, hn.move (hk j hj)⟩
theorem FM.below {w w' : World} {b : Nat} {ks : List ByteArray} {bs : List Nat} {A : Option Addr} {g c : Nat} (h : FM w b ks bs A g c) (hb : Below w.heap.size w w') : FM w' b ks bs A g c :=
 h.move (fun l => hb.block _ l) (fun _ l => hb.block _ l) (fun _ _ l => hb.block _ l)
theorem fmfield_calls (w : World) (r b : Nat) (nm : ByteArray) (ks : List ByteArray) (bs : List Nat) (A : Option Addr) (g c : Nat) (hr : RN w r b) (h : FM w b ks bs A g c) :
  Calls Tryz.prog 54 #[ptr r, .string nm] w (FieldPost w ks nm bs) :=
 field_calls w r b _ _ A g c nm ks bs hr h.nb live_map h.at_ h.len h.most h.cells (fun j hj => by obtain ⟨cv, hn⟩ := h.keys j hj; exact ⟨_, cv, hn⟩)
theorem YL.split {w : World} : ∀ {F : Nat → Prop} {bs : List Nat} {ys : List Y}, YL w F bs ys → ∃ Fs : Nat → Nat → Prop, (∀ i k, Fs i k → F k) ∧ (∀ i j k, i ≠ j → Fs i k → ¬ Fs j k) ∧ ∀ i (h : i < ys.length), YN w (Fs i) (bs.getD i 0) ys[i]
 | _, [], [], _ => ⟨fun _ _ => False, fun _ _ q => q.elim, fun _ _ _ _ q => q.elim, fun i h => absurd h (Nat.not_lt_zero _)⟩
 |F, b :: bs, y :: ys, h => by
  simp only [YL] at h
  obtain ⟨F1, h1, h2, h3⟩ := h
  obtain ⟨Fs, f1, f2, f3⟩ := YL.split h3
  refine ⟨fun i k => match i with | 0 => F1 k | i + 1 => Fs i k, fun i k q => ?_, fun i j k hij q => ?_, fun i hi => ?_⟩
  ·cases i with
   | zero => exact h1 k q
   | succ i => exact (f1 i k q).1
  ·cases i with
   |zero =>
    cases j with
    | zero => exact absurd rfl hij
    | succ j => exact fun r => (f1 j k r).2 q
   |succ i =>
    cases j with
    | zero => exact (f1 i k q).2
    | succ j => exact f2 i j k (fun e => hij (by rw [e])) q
  ·cases i with
   | zero => exact h2
   |succ i =>
    rw [List.getD_cons_succ]
    exact f3 i (by simpa using hi)
 | _, [], _ :: _, h => by simp only [YL] at h
 | _, _ :: _, [], h => by simp only [YL] at h
structure MS (w : World) (F : Nat → Prop) (b : Nat) (ks : List ByteArray) (vs : List Y) (bs : List Nat) (A : Option Addr) (g c : Nat) (Fs : Nat → Nat → Prop) : Prop where
 fm : FM w b ks bs A g c
 vals : ∀ j (h : j < vs.length), YN w (Fs j) (bs.getD (2 * j + 1) 0) vs[j]
 inF : ∀ j k, Fs j k → F k
 apart : ∀ i j k, i ≠ j → Fs i k → ¬ Fs j k
 fb : F b ∧ ∀ j, ¬ Fs j b
 fg : 0 < ks.length → F g ∧ ∀ j, ¬ Fs j g
 fk : ∀ i, i < ks.length → F (bs.getD (2 * i) 0) ∧ ∀ j, ¬ Fs j (bs.getD (2 * i) 0)
theorem MS.of {w : World} {F : Nat → Prop} {b : Nat} {ks : List ByteArray} {vs : List Y} (hkl : ks.length = vs.length) (hm : ks.length ≤ 1000) (h : YN w F b (.mk 4 ⟨#[]⟩ ⟨#[]⟩ (kv ks vs))) : ∃ bs A g c Fs, MS w F b ks vs bs A g c Fs := by
 obtain ⟨hF, cv, bs, hn, ho, hfo, hl⟩ := h.open_
 simp only [Y.kind, Y.tag, Y.value, Y.content] at hn hl
 obtain ⟨A, g, c, rfl, hA, hcell⟩ := row_open ho
 have hlb := hl.length
 rw [kv_length ks vs hkl] at hlb
 have hll : (kv ks vs).length = 2 * ks.length := kv_length ks vs hkl
 obtain ⟨Fs, f1, f2, f3⟩ := hl.split
 have hkey : ∀ j (hj : j < ks.length), YN w (Fs (2 * j)) (bs.getD (2 * j) 0) (.mk 8 ⟨#[]⟩ ks[j] []) := fun j hj => by
  have := f3 (2 * j) (by omega)
  have e := kv_key ks vs j hkl hj
  rw [List.getElem?_eq_getElem (by omega)] at e
  rw [Option.some.inj e] at this
  exact this
 refine ⟨bs, A, g, c, fun j => Fs (2 * j + 1), ⟨hn, fun h0 => hA (by omega), hlb, hm, hcell, fun j hj => ?_⟩, fun j hj => ?_, fun j k q => (f1 _ k q).1, fun i j k hij q => f2 _ _ k (by omega) q, ⟨hF, fun j q => (f1 _ _ q).2.1 rfl⟩, fun h0 => ?_, fun i hi => ?_⟩
 ·obtain ⟨_, cv, _, hk, _⟩ := (hkey j hj).open_
  exact ⟨cv, hk⟩
 ·have := f3 (2 * j + 1) (by omega)
  have e := kv_val ks vs j hkl hj
  rw [List.getElem?_eq_getElem (by omega)] at e
  rw [Option.some.inj e] at this
  exact this
 ·obtain rfl := hA (by omega)
  exact ⟨hfo g rfl, fun j q => (f1 _ _ q).2.2 rfl⟩
 ·have hb := (hkey i hi).open_.1
  exact ⟨(f1 _ _ hb).1, fun j => f2 _ _ _ (by omega) hb⟩
theorem MS.below {w w' : World} {F : Nat → Prop} {b : Nat} {ks : List ByteArray} {vs : List Y} {bs : List Nat} {A : Option Addr} {g c : Nat} {Fs : Nat → Nat → Prop} (h : MS w F b ks vs bs A g c Fs) (hb : Below w.heap.size w w') : MS w' F b ks vs bs A g c Fs :=
 ⟨h.fm.below hb, fun j hj => (h.vals j hj).below hb, h.inF, h.apart, h.fb, h.fg, h.fk⟩
theorem MS.frame {w w' : World} {F S : Nat → Prop} {b : Nat} {ks : List ByteArray} {vs : List Y} {bs : List Nat} {A : Option Addr} {g c : Nat} {Fs : Nat → Nat → Prop} (h : MS w F b ks vs bs A g c Fs) (hc : Chg S w w') (hs : ∀ k, S k → F k → ∃ j, Fs j k) : FM w' b ks bs A g c := by
 have hno : ∀ k, F k → (∀ j, ¬ Fs j k) → ¬ S k := fun k h1 h2 q => by obtain ⟨j, r⟩ := hs k q h1; exact h2 j r
 exact h.fm.move (fun l => hc.block _ l (hno _ h.fb.1 h.fb.2)) (fun h0 l => hc.block _ l (hno _ (h.fg h0).1 (h.fg h0).2)) (fun j hj l => hc.block _ l (hno _ (h.fk j hj).1 (h.fk j hj).2))
def fields1.T : Bool × List (List Nat × List Nat) := (true, [([], []), ([], []), ([1], [1]), ([2], [2]), ([3], [3]), ([4], [4]), ([0, 5], [0, 5]), ([6, 6, 0, 1, 2, 3, 4, 5, 6], [6])])
def fields1.B : List Nat := [0, 0, 2, 6, 14, 30, 63, 127]
theorem fields1.tab : rtab .any (opsOf Tryz.f93 0) = fields1.T := by kernel_rfl
theorem fields1.bits : waitsOk fields1.T.2 fields1.B = true := by kernel_rfl
def AddPost (w : World) (a base : Nat) (ok : Nat → Prop) (kvv : Value) (ks : List ByteArray) (v : ByteArray) (e : Ending) (w' : World) : Prop :=
 e = .returned (.tuple #[]) ∧ ∃ kv1, w'.heap[a]? = some (.cells #[kv1] 22 (0, 0)) ∧ Kd.string.R 9 w' base ok kv1 (ks ++ [v]) ∧ Chg (fun k => k = a ∨ some k = kvv.ownBlock) w w'
set_option maxRecDepth 100000 in
theorem addkey_calls (w : World) (kb vb a base : Nat) (t v : ByteArray) (cv : Value) (hn : NB w kb 8 t v cv) (kvv : Value) (ks : List ByteArray) (ok : Nat → Prop) (ha : w.heap[a]? = some (.cells #[kvv] 22 (0, 0)))
  (hR : Kd.string.R 9 w base ok kvv ks) (hlen : ks.length ≤ 1000) (hbase : base ≤ w.heap.size) (hab : a < base) (hfresh : ∀ k, w.heap.size ≤ k → ok k) :
  Calls Tryz.prog 93 #[ptr kb, ptr vb, .pointer (some ⟨a, 0, none⟩)] w (AddPost w a base ok kvv ks v) := by
 have HN := Aside0.mk hn
 have HA := Aside0.mk ha
 have HR := Aside0.mk hR
 have HM := Aside0.mk (And.intro hlen (And.intro hbase (And.intro hab hfresh)))
 have HK : Aside0 (∀ w', Chg (fun _ => False) w w' → w'.cell? ⟨a, 0, none⟩ = some kvv ∧ w'.cell? ⟨kb, 3, none⟩ = some (.string v)) :=
  ⟨fun w' hc => ⟨hc.cell_of (by rw [cell_of_block ha]; rfl) (fun q => q), hc.cell_of hn.value (fun q => q)⟩⟩
 have hao : some a ≠ kvv.ownBlock := fun e => by have := R_own hR _ e.symm; omega
 have HAO := Aside0.mk hao
 clear hn ha hR hlen hbase hab hfresh hao
 go_enter Tryz.func93, Tryz.ntmps93
 refine start_ (n := 8) (S := fun w' => w'.cell? ⟨a, 0, none⟩ = some kvv ∧ w'.cell? ⟨kb, 3, none⟩ = some (.string v)) (ds := [6, 7]) #[false, false, false, false, false, false, false, false] (by kernel_rfl) rfl rfl (HK.out _ ((Chg.refl _ _).drew)) (fun hHeld => ?_)
 refine with_tabW (T := fields1.T) (B := fields1.B) fields1.tab fields1.bits (fun HT_ HW_ => ?_)
 have HC := Aside0.mk ((Chg.refl (fun _ => False) w).drew)
 generalize w.drew = wc at HC hHeld ⊢
 refine ps_ 1 6 HT_ ?_
 refine ps_ 2 7 HT_ ?_
 refine ps_ 3 8 HT_ ?_
 refine ts_ 0 5 HT_ HW_ hHeld ?_
 refine ts_ 4 9 HT_ HW_ hHeld ?_
 refine one_ (i := 5) (N := (some 10)) #[true, true, true, true, true, true, false, false] rfl rfl (one_of HT_.out (by kernel_rfl)) (by decide) (fun K hK => ?_)
 rw [if_pos (by rfl)]
 go_simp
 refine hK.out _ _ (HK.out _ (HC.out.alloc _)) (fun hHeld => ?_)
 clear hK K
 refine ns_ ?_
 refine last_ (i := 6) (N := (some 11)) #[true, true, true, true, true, true, true, false] rfl rfl (one_of HT_.out (by kernel_rfl)) (by decide) (fun K hK => ?_)
 refine Kd.R_append_step Kd.string (w0 := wc) base (by rfl) (.tmp 5) (.tmp 10) 22 9 (.string ⟨#[]⟩) 16 rfl Tryz.underlying22 Tryz.infoStr rfl (by decide) (by decide) kvv ks v [.string v] ok (fun _ => False) (by rfl) (by rfl) rfl (fun _ h => h.elim) (fun k hk => HM.out.2.2.2 k (Nat.le_trans HC.out.size hk)) (R_upd HR.out (fun k _ _ hk => HC.out.block k hk (fun q => q))) (Below.refl _ _) (by have := HC.out.size; have := HM.out; omega) (by have := HM.out; omega) ?_
 intro kv1 w13 hr1 _ hg1 hat1
 obtain ⟨A1, n1, c1, rfl⟩ : ∃ A1 n1 c1, kv1 = .slice A1 n1 c1 := by obtain ⟨A1, c1, e⟩ := Kd.R_slice hr1; exact ⟨_, _, _, e⟩
 have HG := Aside0.mk (And.intro hr1 (And.intro hg1 hat1))
 refine hK.out _ _ ?_
 clear hr1 hg1 hat1
 clear hK K
 refine ns_ ?_
 refine last_ (i := 7) (N := none) #[true, true, true, true, true, true, true, true] rfl rfl (one_of HT_.out (by kernel_rfl)) (by decide) (fun K hK => ?_)
 have hx13 : w13.heap[a]? = some (.cells #[kvv] 22 (0, 0)) := by
  have h1 := lt_of_block HA.out
  exact (HG.out.2.1.block _ (Nat.lt_of_lt_of_le h1 HC.out.size) (fun e => HAO.out e)).trans ((HC.out.block _ h1 (fun q => q)).trans HA.out)
 have HX13 := Aside0.mk hx13
 have hcell : w13.cell? ⟨a, 0, none⟩ = some kvv := by rw [cell_of_block hx13]; rfl
 have hfr : w13.frozen? ⟨a, 0, none⟩ = false := frozen_of_block hx13
 clear hx13
 rw [if_pos (by rfl)]
 go_simp
 refine hK.out _ _ ?_
 clear hK K
 refine ns_ ?_
 refine done_ (done_of HT_.out (by kernel_rfl)) ?_
 clear hcell hfr
 obtain ⟨w2, e2⟩ : ∃ w2, w13.setCell ⟨a, 0, none⟩ (.slice A1 n1 c1) = w2 := ⟨_, rfl⟩
 have hcc : Chg (fun k => k = a ∨ some k = kvv.ownBlock) w w2 := by
  rw [← e2]
  exact Chg.setCell ((HC.out.mono (fun _ q => q.elim)).grown HG.out.2.1 (fun k e => .inl (.inr e.symm))) (.inl (.inl rfl)) _
 have hx2 : w2.heap[a]? = some (.cells #[.slice A1 n1 c1] 22 (0, 0)) := by rw [← e2]; exact heap_set (a := ⟨a, 0, none⟩) HX13.out rfl
 have hr2 : Kd.string.R 9 w2 base ok (.slice A1 n1 c1) (ks ++ [v]) := R_upd HG.out.1 (fun k _ hb hk => by rw [← e2]; exact heap_set_ne (by have := HM.out; simp; omega))
 rw [e2]
 refine ⟨rfl, .tuple #[], ?_, ?_⟩
 ·simp [results, Tryz.results93, go_sem]
 ·exact ⟨rfl, _, hx2, hr2, hcc⟩
theorem eachcall_calls (w : World) (kb vb : Nat) (q : Int) (a4 : Nat) (f : FuncId) (cap : Array Value) (hf : ∀ (xs : Array Value) (wa : World), (callFunc f xs).run Tryz.prog wa = .ok (.enter f xs) wa)
  (h4 : w.heap[a4]? = some (.cells #[.func (.func f) #[] cap] 127 (0, 0))) (Q : World → Prop)
  (hQ : Calls Tryz.prog f (#[ptr kb, ptr vb] ++ cap) w fun e w' => e = .returned (.tuple #[]) ∧ Q w') :
  Calls Tryz.prog 96 #[ptr kb, ptr vb, .int .i64 q, .pointer (some ⟨a4, 0, none⟩)] w fun e w' => e = .returned (.bool true) ∧ Q w' := by
 have c4 : w.cell? ⟨a4, 0, none⟩ = some (.func (.func f) #[] cap) := by rw [cell_of_block h4]; rfl
 have HQ := Aside0.mk hQ
 clear hQ h4
 go_enter Tryz.func96, Tryz.ntmps96
 go_wp2_with fail
 refine HQ.out.mono ?_
 rintro e w1 ⟨rfl, hq⟩
 have HQ1 := Aside0.mk hq
 clear hq
 go_wp2
 go_ret
 exact ⟨rfl, HQ1.out⟩
def EachPost (Q : World → Prop) (e : Ending) (w' : World) : Prop := e = .returned (.tuple #[]) ∧ Q w'
set_option maxRecDepth 100000 in
theorem each_calls (w : World) (A : Option Addr) (g c m : Nat) (bs : List Nat) (f : FuncId) (cap : Array Value) (I : Nat → World → Prop)
  (hf : ∀ (xs : Array Value) (wa : World), (callFunc f xs).run Tryz.prog wa = .ok (.enter f xs) wa)
  (hA : 0 < m → A = some ⟨g, 0, none⟩) (hm : bs.length = 2 * m) (hb : m ≤ 1000)
  (hcell : ∀ j w', I j w' → ∀ i (h : i < bs.length), w'.cell? ⟨g, i, none⟩ = some (ptr bs[i]))
  (hI : ∀ j w', j < m → I j w' → Calls Tryz.prog f (#[ptr (bs.getD (2 * j) 0), ptr (bs.getD (2 * j + 1) 0)] ++ cap) w' fun e w'' => e = .returned (.tuple #[]) ∧ I (j + 1) w'' ∧ Chg (fun k => k ≠ w.heap.size) w' w'')
  (hd : ∀ j w', I j w' → I j w'.drew) (h00 : ∀ o1 o2, I 0 ((w.alloc o1).alloc o2)) :
  Calls Tryz.prog 73 #[.slice A bs.length c, .func (.func f) #[] cap, .slice none 0 0] w (EachPost (I m)) := by
 have hmf : ∀ (fn : Fn) (first cap : Array Value) (w : World), (Instr.makeFunc fn first cap).run Tryz.prog w = .ok (.func fn first cap) w := fun _ _ _ _ => rfl
 have HC := Aside0.mk hcell
 have HI := Aside0.mk hI
 have HD := Aside0.mk hd
 have H0 := Aside0.mk h00
 have HM := Aside0.mk (And.intro hA (And.intro hm hb))
 clear hcell hI hd h00 hA hm hb
 go_enter Tryz.func73, Tryz.ntmps73
 go_wp2_with fail
 obtain ⟨w0, e0⟩ : ∃ w0, w0 = (w.alloc (.cells #[.func (.func f) #[] cap] 127)).alloc (.cells #[.slice none 0 0] 22) := ⟨_, rfl⟩
 rw [← e0]
 have hw4 : w0.heap[w.heap.size]? = some (.cells #[.func (.func f) #[] cap] 127 (0, 0)) := by rw [e0]; exact (heap_old _ (by simp)).trans (heap_at _ rfl)
 have hi0 : I 0 w0 := by rw [e0]; exact H0.out _ _
 have HB0 := Aside0.mk (And.intro hi0 hw4)
 clear hi0 hw4 e0
 refine (while_calls w0 A g c m bs.length bs 96 _ (fun j wr => I j wr ∧ wr.heap[w.heap.size]? = some (.cells #[.func (.func f) #[] cap] 127 (0, 0))) (fun wr => I m wr)
  (fun xs wa => enters_ Tryz.func96 rfl rfl xs wa) HM.out.1 HM.out.2.1 HM.out.2.1 HM.out.2.2 ?cell ?round ?drew ?done HB0.out).mono ?_
 case cell => intro j w' ⟨hi, _⟩ i hi'; exact HC.out j w' hi i hi'
 case drew => intro j w' ⟨hi, h⟩; exact ⟨HD.out _ _ hi, h⟩
 case done => intro w' ⟨hi, _⟩; exact hi
 case round =>
  intro j w' hj ⟨hi, h⟩
  refine (eachcall_calls w' _ _ _ w.heap.size f cap hf h _ (HI.out j w' hj hi)).mono ?_
  rintro e w1 ⟨rfl, h1, h2⟩
  exact ⟨true, rfl, fun _ => ⟨h1, (h2.block _ (lt_of_block h) (fun q => q rfl)).trans h⟩, fun h => by cases h⟩
 rintro e w1 ⟨rfl, hq⟩
 have HQ1 := Aside0.mk hq
 clear hq
 go_wp2
 refine ⟨rfl, .tuple #[], ?_, ?_⟩
 ·simp [results, Tryz.results73, go_sem]
 ·exact ⟨rfl, HQ1.out⟩
def KeysPost (w : World) (ks : List ByteArray) (e : Ending) (w' : World) : Prop :=
 Below w.heap.size w w' ∧ ∃ kvv, e = .returned (.tuple #[kvv, .nilIface]) ∧ Kd.string.R 9 w' w.heap.size (fun _ => True) kvv ks
set_option maxRecDepth 100000 in
theorem rfields_calls (w : World) (r b : Nat) (t v : ByteArray) (A : Option Addr) (g c : Nat) (ks : List ByteArray) (bs : List Nat) (hr : RN w r b) (hn : NB w b 4 t v (.slice A bs.length c)) (hl : Live 4 t)
  (hA : 0 < ks.length → A = some ⟨g, 0, none⟩) (hm : bs.length = 2 * ks.length) (hb : ks.length ≤ 1000)
  (hcell : ∀ i (h : i < bs.length), w.cell? ⟨g, i, none⟩ = some (ptr bs[i]))
  (hkey : ∀ j (h : j < ks.length), ∃ t cv, NB w (bs.getD (2 * j) 0) 8 t ks[j] cv) :
  Calls Tryz.prog 69 #[ptr r] w (KeysPost w ks) := by
 have hmf : ∀ (fn : Fn) (first cap : Array Value) (w : World), (Instr.makeFunc fn first cap).run Tryz.prog w = .ok (.func fn first cap) w := fun _ _ _ _ => rfl
 have HR := Aside0.mk hr
 have HN := Aside0.mk hn
 have HL := Aside0.mk hl
 have HC := Aside0.mk hcell
 have HK := Aside0.mk hkey
 have HM := Aside0.mk (And.intro hA (And.intro hm hb))
 clear hr hn hl hcell hkey hA hm hb
 go_enter Tryz.func69, Tryz.ntmps69
 go_wp2_with fail
 refine (valid_calls w r b HR.out 4 t v A bs.length c HN.out HL.out (fun _ => by have := HM.out; omega) (by have := HM.out; omega)).mono ?_
 rintro e w1 ⟨rfl, rfl⟩
 go_wp2_with (first | (go_at_call 74; refine (content_calls _ r b (HR.out.below ((Below.refl _ _).alloc (Nat.le_refl _) _)) 4 t v (.slice A bs.length c) (HN.out.below ((Below.refl _ _).alloc (Nat.le_refl _) _)) HL.out).mono ?_; rintro e w' ⟨rfl, rfl⟩) | (go_at_call 73; fail))
 obtain ⟨w0, e0⟩ : ∃ w0, w0 = w.alloc (.cells #[.slice none 0 0] 22) := ⟨_, rfl⟩
 rw [← e0]
 have hs0 : w0.heap.size = w.heap.size + 1 := by rw [e0]; simp
 have hb0 : Below w.heap.size w w0 := by rw [e0]; exact (Below.refl _ _).alloc (Nat.le_refl _) _
 have hw0 : w0.heap[w.heap.size]? = some (.cells #[.slice none 0 0] 22 (0, 0)) := by rw [e0]; exact heap_at _ rfl
 have H0 := Aside0.mk (And.intro hs0 (And.intro hb0 hw0))
 clear hs0 hb0 hw0 e0
 refine (each_calls w0 A g c ks.length bs 93 #[.pointer (some ⟨w.heap.size, 0, none⟩)] (fun j wr => Below w.heap.size w wr ∧ w.heap.size + 1 < wr.heap.size ∧ ∃ kvv, wr.heap[w.heap.size]? = some (.cells #[kvv] 22 (0, 0)) ∧ Kd.string.R 9 wr (w.heap.size + 1) (fun k => k ≠ w.heap.size + 1) kvv (ks.take j))
  (fun xs wa => enters_ Tryz.func93 rfl rfl xs wa) HM.out.1 HM.out.2.1 HM.out.2.2 ?cell ?round ?drew ?start).mono ?_
 case cell =>
  intro j w' ⟨hb, _⟩ i hi
  exact (hb.cell (World.block_lt_of_cell? w _ (HC.out i hi))).trans (HC.out i hi)
 case drew => intro j w' ⟨hb, hs, kvv, h1, h2⟩; exact ⟨hb.drew, hs, kvv, h1, R_upd h2 (fun _ _ _ _ => rfl)⟩
 case start =>
  intro o1 o2
  have hs := H0.out.1
  refine ⟨(H0.out.2.1.alloc H0.out.2.1.size _).alloc (by simp; omega) _, by simp; omega, _, (heap_old _ (by simp; omega)).trans ((heap_old _ (by omega)).trans H0.out.2.2), Kd.R_nil _ _ _ _ _⟩
 case round =>
  intro j w' hj ⟨hb, hs, kvv, h1, h2⟩
  obtain ⟨t', cv', hn⟩ := HK.out j hj
  refine (addkey_calls w' _ _ w.heap.size (w.heap.size + 1) t' ks[j] cv' (hn.below hb) kvv (ks.take j) (fun k => k ≠ w.heap.size + 1) h1 h2 (by have := HM.out; simp; omega) (by omega) (by omega) (fun k hk => by omega)).mono ?_
  rintro e w1 ⟨rfl, kv1, q1, q2, q3⟩
  refine ⟨rfl, ⟨hb.trans (q3.below hb.size (fun k q => ?_)), Nat.lt_of_lt_of_le hs q3.size, kv1, q1, ?_⟩, q3.mono (fun k q => ?_)⟩
  ·rcases q with rfl | q
   ·omega
   ·have := R_own h2 k q.symm; omega
  ·rw [List.take_succ_eq_append_getElem hj]; exact q2
  ·have hs0 := H0.out.1
   rcases q with rfl | q
   ·omega
   ·have := (R_own h2 k q.symm).2.2; omega
 rintro e w1 ⟨rfl, hb, hs, kvv, h1, h2⟩
 have h3 : Kd.string.R 9 w1 w.heap.size (fun _ => True) kvv ks := by
  rw [List.take_length] at h2
  exact Kd.R_mono (Kd.R_lower h2 (by omega)) (fun _ _ => trivial)
 have H1 := Aside0.mk (And.intro hb h3)
 have c1 : w1.cell? ⟨w.heap.size, 0, none⟩ = some kvv := by rw [cell_of_block h1]; rfl
 obtain ⟨A1, n1, c1', rfl⟩ : ∃ A1 n1 c1, kvv = .slice A1 n1 c1 := by obtain ⟨A1, c1, e⟩ := Kd.R_slice h3; exact ⟨_, _, _, e⟩
 clear hb hs h1 h2 h3
 go_wp2
 refine bodyPost_ret (v := .tuple #[.slice A1 n1 c1', .nilIface]) (by simp [results, Tryz.results69, go_sem]) rfl ⟨H1.out.1, _, rfl, H1.out.2⟩
theorem fmfields_calls (w : World) (r b : Nat) (ks : List ByteArray) (bs : List Nat) (A : Option Addr) (g c : Nat) (hr : RN w r b) (h : FM w b ks bs A g c) : Calls Tryz.prog 69 #[ptr r] w (KeysPost w ks) :=
 rfields_calls w r b _ _ A g c ks bs hr h.nb live_map h.at_ h.len h.most h.cells (fun j hj => by obtain ⟨cv, hn⟩ := h.keys j hj; exact ⟨_, cv, hn⟩)
end Go.Proofs.YtkpdkoafngjflaaGreat
