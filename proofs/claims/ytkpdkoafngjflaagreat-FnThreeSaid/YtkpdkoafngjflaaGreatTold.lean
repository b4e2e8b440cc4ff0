import Derived.Test.YtkpdkoafngjflaaGreatSh
import Derived.Test.YtkpdkoafngjflaaGreatTree
namespace Go.Proofs.YtkpdkoafngjflaaGreat
open Go.RowKit Go.Proofs.YtkpdkoafngjflaaGreatW.PrintWords Go.Proofs.YtkpdkoafngjflaaGreatW.PrintLast Go.Proofs.YtkpdkoafngjflaaGreat.PFnFields
set_option linter.unusedVariables false
set_option linter.unusedSimpArgs false
def keysOf : List Y → List ByteArray
 | a :: _ :: r => a.value :: keysOf r
 | _ => []
def valsOf : List Y → List Y
 | _ :: b :: r => b :: valsOf r
 | _ => []
theorem keysOf_kv : ∀ (ks : List ByteArray) (ys : List Y), ks.length = ys.length → keysOf (kv ks ys) = ks
 | [], [], _ => rfl
 | k :: ks, y :: ys, h => by simp [kv, keysOf, keysOf_kv ks ys (by simpa using h), Y.value]
 | [], _ :: _, h => by simp at h
 | _ :: _, [], h => by simp at h
theorem valsOf_kv : ∀ (ks : List ByteArray) (ys : List Y), ks.length = ys.length → valsOf (kv ks ys) = ys
 | [], [], _ => rfl
 | k :: ks, y :: ys, h => by simp [kv, valsOf, valsOf_kv ks ys (by simpa using h)]
 | [], _ :: _, h => by simp at h
 | _ :: _, [], h => by simp at h
theorem kv_length : ∀ (ks : List ByteArray) (ys : List Y), ks.length = ys.length → (kv ks ys).length = 2 * ks.length
 | [], [], _ => rfl
 | k :: ks, y :: ys, h => by simp [kv, kv_length ks ys (by simpa using h)]; omega
 | [], _ :: _, h => by simp at h
 | _ :: _, [], h => by simp at h
theorem kv_key : ∀ (ks : List ByteArray) (ys : List Y) (j : Nat) (h : ks.length = ys.length) (hj : j < ks.length), (kv ks ys)[2 * j]? = some (.mk 8 ⟨#[]⟩ ks[j] [])
 | k :: ks, y :: ys, 0, _, _ => rfl
 |k :: ks, y :: ys, j + 1, h, hj => by
  have := kv_key ks ys j (by simpa using h) (by simpa using hj)
  rw [show 2 * (j + 1) = 2 * j + 1 + 1 by omega]
  simpa [kv] using this
 | [], _, _, _, hj => by simp at hj
 | _ :: _, [], _, h, _ => by simp at h
theorem kv_val : ∀ (ks : List ByteArray) (ys : List Y) (j : Nat) (h : ks.length = ys.length) (hj : j < ys.length), (kv ks ys)[2 * j + 1]? = some ys[j]
 | k :: ks, y :: ys, 0, _, _ => rfl
 |k :: ks, y :: ys, j + 1, h, hj => by
  have := kv_val ks ys j (by simpa using h) (by simpa using hj)
  rw [show 2 * (j + 1) + 1 = 2 * j + 1 + 1 + 1 by omega]
  simpa [kv] using this
 | _, [], _, _, hj => by simp at hj
 | [], _ :: _, _, h, _ => by simp at h
def YSh : Nat → Y → Prop
 | 0, _ => False
 | d + 1, y => y.content.length ≤ 4000 ∧ (y.kind = 8 ∨ (y.kind = 4 ∧ ∃ ks vs, ks.length = vs.length ∧ y.content = kv ks vs ∧ ∀ z ∈ vs, YSh d z) ∨ (y.kind = 2 ∧ ∀ z ∈ y.content, YSh d z))
def ofY : Nat → Y → S25
 | 0, _ => z25
 | d + 1, y => if y.kind = 8 then ⟨1, y.value, y.tag, [], []⟩ else if y.kind = 4 then ⟨2, ⟨#[]⟩, ⟨#[]⟩, keysOf y.content, (valsOf y.content).map (ofY d)⟩ else ⟨3, ⟨#[]⟩, ⟨#[]⟩, [], y.content.map (ofY d)⟩
theorem own_cell {w : World} {base e n g cap : Nat} {xs : List Value} (h : w.ownsRow base e 1 (.slice (some ⟨g, 0, none⟩) n cap) n xs) (j : Nat) (u : Value) (hu : xs[j]? = some u) : w.cell? ⟨g, j, none⟩ = some u := by
 have := h.cells (g := g) rfl j u hu
 rwa [add_plain] at this
theorem Tryz.infoStr : (Tryz.prog.info? 9).map (fun i => (i.zero, i.size, i.bytes)) = some (some (.string ⟨#[]⟩), 1, 16) := by kernel_rfl
theorem Tryz.infoNode : (Tryz.prog.info? 25).map (fun i => (i.zero, i.size, i.bytes)) = some (some (.agg #[.int .i64 0, .string ⟨#[]⟩, .string ⟨#[]⟩, .slice none 0 0, .slice none 0 0]), 5, 88) := by kernel_rfl
def nodeOf5.T : Bool × List (List Nat × List Nat) := (true, [([], []), ([0], [0]), ([1], [1]), ([2], [2]), ([], []), ([4], [4]), ([5], [5]), ([6], [6]), ([3, 7], [3, 7]), ([8, 0, 1, 2, 3, 4, 5, 6, 7, 8], [8])])
def nodeOf5.B : List Nat := [0, 1, 3, 7, 0, 16, 48, 112, 255, 511]
theorem nodeOf5.tab : rtab .any (opsOf Tryz.f36 5) = nodeOf5.T := by kernel_rfl
theorem nodeOf5.bits : waitsOk nodeOf5.T.2 nodeOf5.B = true := by kernel_rfl
def nodeOf11.T : Bool × List (List Nat × List Nat) := (true, [([], []), ([0], [0]), ([], []), ([2], [2]), ([3], [3]), ([4], [4]), ([], []), ([5, 6], [5, 6]), ([7], [7]), ([8], [8]), ([9], [9]), ([10], [10]), ([11], [11]), ([1, 12], [1, 12]), ([0, 1, 2, 3, 4, 5, 6, 7, 8, 9, 10, 11, 12, 13], []), ([14, 13, 13, 0, 1, 2, 3, 4, 5, 6, 7, 8, 9, 10, 11, 12, 13], [13, 14])])
def nodeOf11.B : List Nat := [0, 1, 0, 4, 12, 28, 0, 124, 252, 508, 1020, 2044, 4092, 8191, 16383, 32767]
theorem nodeOf11.tab : rtab .any (opsOf Tryz.f36 11) = nodeOf11.T := by kernel_rfl
theorem nodeOf11.bits : waitsOk nodeOf11.T.2 nodeOf11.B = true := by kernel_rfl
def nodeOf12.T : Bool × List (List Nat × List Nat) := (true, [([], []), ([0], [0]), ([], []), ([2], [2]), ([3], [3]), ([4], [4]), ([], []), ([6], [6]), ([5, 7], [5, 7]), ([8], [8]), ([9], [9]), ([10], [10]), ([1, 11, 10], [1, 11]), ([0, 1, 2, 3, 4, 5, 6, 7, 8, 9, 10, 11, 12], []), ([13, 12, 12, 0, 1, 2, 3, 4, 5, 6, 7, 8, 9, 10, 11, 12], [12, 13])])
def nodeOf12.B : List Nat := [0, 1, 0, 4, 12, 28, 0, 64, 252, 508, 1020, 2044, 4095, 8191, 16383]
theorem nodeOf12.tab : rtab .any (opsOf Tryz.f36 12) = nodeOf12.T := by kernel_rfl
theorem nodeOf12.bits : waitsOk nodeOf12.T.2 nodeOf12.B = true := by kernel_rfl
def nodeOf19.T : Bool × List (List Nat × List Nat) := (true, [([], []), ([0], [0]), ([], []), ([2], [2]), ([3], [3]), ([1, 4, 3], [1, 4]), ([0, 1, 2, 3, 4, 5], []), ([6, 5, 5, 0, 1, 2, 3, 4, 5], [5, 6])])
def nodeOf19.B : List Nat := [0, 1, 0, 4, 12, 31, 63, 127]
theorem nodeOf19.tab : rtab .any (opsOf Tryz.f36 19) = nodeOf19.T := by kernel_rfl
theorem nodeOf19.bits : waitsOk nodeOf19.T.2 nodeOf19.B = true := by kernel_rfl
set_option maxRecDepth 100000 in
set_option maxHeartbeats 1600000 in
theorem nodeOf_scalar (w : World) (b : Nat) (t v : ByteArray) (cv : Value) (hn : NB w b 8 t v cv) :
  Calls Tryz.prog 36 #[ptr b] w fun e w' => e = .returned (.agg #[.int .i64 1, .string v, .string t, .slice none 0 0, .slice none 0 0]) ∧ Below w.heap.size w w' := by
 have hu := Tryz.underlying25
 have HN := Aside0.mk hn
 have c0 := hn.kind
 have hlt := hn.lt
 have hne : ¬ b = w.heap.size := by omega
 clear hn
 have c0' : ∀ o, (w.alloc o).cell? ⟨b, 0, none⟩ = some (.int .u32 8) := fun o => by rw [World.cell?_alloc_lt _ _ _ hlt]; exact c0
 go_enter Tryz.func36, Tryz.ntmps36
 go_wp2
 refine start_ (n := 10) (S := fun w' => w'.cell? ⟨b, 3, none⟩ = some (.string v) ∧ w'.cell? ⟨b, 2, none⟩ = some (.string t)) (ds := [9]) #[false, false, false, false, false, false, false, false, false, false] (by kernel_rfl) rfl rfl ⟨((Chg.refl (fun _ => False) _).alloc _).drew.cell_of HN.out.value (fun q => q), ((Chg.refl (fun _ => False) _).alloc _).drew.cell_of HN.out.tag (fun q => q)⟩ (fun hHeld => ?_)
 refine with_tabW (T := nodeOf5.T) (B := nodeOf5.B) nodeOf5.tab nodeOf5.bits (fun HT_ HW_ => ?_)
 refine ps_ 0 17 HT_ ?_
 refine ps_ 1 18 HT_ ?_
 refine ps_ 2 19 HT_ ?_
 refine ps_ 4 21 HT_ ?_
 refine ps_ 5 22 HT_ ?_
 refine ps_ 6 23 HT_ ?_
 refine ts_ 3 20 HT_ HW_ hHeld ?_
 refine ts_ 7 24 HT_ HW_ hHeld ?_
 refine ps_ 8 25 HT_ ?_
 refine last_ (i := 9) (N := none) #[true, true, true, true, true, true, true, true, true, true] rfl rfl (one_of HT_.out (by kernel_rfl)) (by decide) (fun K hK => ?_)
 rw [if_pos (by rfl)]
 go_simp
 refine hK.out _ _ ?_
 clear hK K
 refine ns_ ?_
 refine done_ (done_of HT_.out (by kernel_rfl)) ?_
 go_wp2
 refine bodyPost_ret (v := .agg #[.int .i64 1, .string v, .string t, .slice none 0 0, .slice none 0 0]) (by simp [results, Tryz.results36, go_sem]) rfl ⟨rfl, ?_⟩
 exact pw_below_drewN ((Below.refl _ _).alloc (Nat.le_refl _) _) 1
set_option maxRecDepth 100000 in
set_option maxHeartbeats 3200000 in
theorem nodeOf_calls (d : Nat) : ∀ (y : Y) (b : Nat) (F : Nat → Prop) (w : World), YN w F b y → YSh d y →
  Calls Tryz.prog 36 #[ptr b] w fun e w' => ∃ cs, e = .returned (.agg cs.toArray) ∧ k25.M w' w.heap.size (fun _ => True) (ofY d y) cs ∧ Below w.heap.size w w' := by
 induction d with
 | zero => intro y b F w _ h; exact h.elim
 | succ d ih =>
 intro y b F w hY hS
 obtain ⟨hF, cv, bs, hn, ho, hfo, hl⟩ := hY.open_
 have hu := Tryz.underlying25
 obtain ⟨hlen, hS⟩ := hS
 have hlb := hl.length
 rcases hS with h0 | ⟨h0, ks, vs, hkl, hcon, hS⟩ | ⟨h0, hS⟩
 ·rw [h0] at hn
  refine (nodeOf_scalar w b y.tag y.value cv hn).mono ?_
  rintro e w' ⟨rfl, hb⟩
  refine ⟨[.int .i64 1, .string y.value, .string y.tag, .slice none 0 0, .slice none 0 0], rfl, ?_, hb⟩
  simp only [ofY, h0, if_true]
  exact k25_mkM _ _ _ _ (Kd.R_nil _ _ _ _ _) (Kd.R_nil _ _ _ _ _)
 ·simp only [ofY, h0]
  rw [h0] at hn
  obtain ⟨A, c, rfl⟩ := own_slice ho
  have HN : Aside0 (NB w b 4 y.tag y.value (.slice A bs.length c)) := ⟨hn⟩
  have HO := Aside0.mk ho
  have hcl := kv_length ks vs hkl
  have HM : Aside0 (bs.length = 2 * ks.length ∧ ks.length = vs.length ∧ ks.length ≤ 2000) := ⟨by rw [hlb, hcon, hcl]; rw [hcon, hcl] at hlen; omega⟩
  rw [hcon] at hl
  have HL := Aside0.mk hl
  have HS := Aside0.mk hS
  have IH := Aside0.mk ih
  have HCON := Aside0.mk hcon
  have hlt := HN.out.lt
  have hne : ¬ b = w.heap.size := by omega
  have hne1 : ¬ b = w.heap.size + 1 := by omega
  have c0 := HN.out.kind
  have c0' : ∀ o, (w.alloc o).cell? ⟨b, 0, none⟩ = some (.int .u32 4) := fun o => by rw [World.cell?_alloc_lt _ _ _ hlt]; exact c0
  clear hY hfo hn ho hl hS ih hcl hcon h0 hF hlb hlen hkl c0
  go_enter Tryz.func36, Tryz.ntmps36
  go_wp2
  go_loopg [4] ks.length (fun k i wr => ∃ (j q : Nat) (kvv ivv : Value), i = .int .i64 q ∧ Aside0 (q = 2 * j ∧ j ≤ ks.length ∧ k + j = ks.length) ∧ Aside0 (wr.heap[w.heap.size]? = some (.cells #[.int .i64 0, .string ⟨#[]⟩, .string ⟨#[]⟩, .slice none 0 0, .slice none 0 0] 25 (0, 0))) ∧
   Aside0 (wr.heap[w.heap.size + 1]? = some (.cells #[.int .i64 2, .string ⟨#[]⟩, .string ⟨#[]⟩, kvv, ivv] 25 (0, 0))) ∧ Aside0 (Kd.string.R 9 wr (w.heap.size + 2) (fun _ => True) kvv (ks.take j)) ∧
   Aside0 (k25.R 25 wr (w.heap.size + 2) (fun k => some k ≠ kvv.ownBlock) ivv ((vs.take j).map (ofY d))) ∧ Aside0 (Below w.heap.size w wr))
  case atStart =>
   refine ⟨0, 0, .slice none 0 0, .slice none 0 0, rfl, ⟨by omega⟩, ⟨?_⟩, ⟨?_⟩, ⟨Kd.R_nil _ _ _ _ _⟩, ⟨Kd.R_nil _ _ _ _ _⟩, ⟨((Below.refl _ _).alloc (Nat.le_refl _) _).alloc (by simp) _⟩⟩
   ·rw [heap_old _ (by simp)]; exact heap_at _ rfl
   ·exact heap_at _ (by simp)
  case round =>
   obtain ⟨j, q, kvv, ivv, rfl, HJ, HR, HX, HKS, HIS, HB⟩ := hrel
   have c6 := (HB.out.cell hlt).trans HN.out.content
   have hq0 : (0 : Int) ≤ (q : Int) := Int.natCast_nonneg _
   have hq1 : (q : Int) ≤ 4000 := by have := HJ.out; have := HM.out; omega
   by_cases hj : j < ks.length
   ·have hq : (q : Int) + 1 < (bs.length : Int) := by have := HJ.out; have := HM.out; omega
    have hqq : (q : Int) < (bs.length : Int) := by omega
    obtain ⟨g, cap, hcv, _, hgl⟩ := HO.out.form (by omega)
    obtain ⟨rfl, rfl⟩ : A = some ⟨g, 0, none⟩ ∧ c = cap := by simpa using hcv
    have hjv : j < vs.length := by have := HM.out; omega
    obtain ⟨kb, F1, ek, hF1, hyk⟩ := HL.out.get (2 * j) (by have := HM.out; have := HL.out.length; omega)
    obtain ⟨vb, F2, ev, hF2, hyv⟩ := HL.out.get (2 * j + 1) (by have := HM.out; have := HL.out.length; omega)
    obtain ⟨kk, hkk⟩ : ∃ kk, kk = ks[j] := ⟨_, rfl⟩
    obtain ⟨zz, hzz⟩ : ∃ zz, zz = vs[j] := ⟨_, rfl⟩
    have hk1 : (kv ks vs)[2 * j]'(by have := HM.out; have := HL.out.length; omega) = .mk 8 ⟨#[]⟩ kk [] := by
     have := kv_key ks vs j HM.out.2.1 hj
     rw [List.getElem?_eq_getElem (by have := HM.out; have := HL.out.length; omega)] at this
     rw [hkk]; exact Option.some.inj this
    have hv1 : (kv ks vs)[2 * j + 1]'(by have := HM.out; have := HL.out.length; omega) = zz := by
     have := kv_val ks vs j HM.out.2.1 hjv
     rw [List.getElem?_eq_getElem (by have := HM.out; have := HL.out.length; omega)] at this
     rw [hzz]; exact Option.some.inj this
    rw [hk1] at hyk
    rw [hv1] at hyv
    obtain ⟨_, kcv, _, hkn0, _⟩ := hyk.open_
    have HKN : Aside0 (NB w kb 8 ⟨#[]⟩ kk kcv) := ⟨hkn0⟩
    have HYV := Aside0.mk hyv
    have HSZ : Aside0 (YSh d zz) := ⟨HS.out zz (by rw [hzz]; exact List.getElem_mem _)⟩
    have HCK : Aside0 (w.cell? ⟨g, q, none⟩ = some (ptr kb)) := ⟨own_cell HO.out q _ (by rw [HJ.out.1]; simp only [ptrs, List.getElem?_map, ek, Option.map_some])⟩
    have HCV : Aside0 (w.cell? ⟨g, q + 1, none⟩ = some (ptr vb)) := ⟨own_cell HO.out (q + 1) _ (by rw [HJ.out.1]; simp only [ptrs, List.getElem?_map, ev, Option.map_some])⟩
    have HKZ : Aside0 (kk = ks[j] ∧ zz = vs[j]) := ⟨hkk, hzz⟩
    clear hkk hzz hk1 hv1 hyk hyv hkn0 ek ev hF1 hF2 hcv c6
    have c6 := (HB.out.cell hlt).trans HN.out.content
    go_wp2
    have HK : Aside0 (∀ w', Chg (fun _ => False) wr w' → w'.cell? ⟨w.heap.size + 1, 3, none⟩ = some kvv ∧ w'.cell? ⟨b, 6, none⟩ = some (.slice (some ⟨g, 0, none⟩) bs.length c) ∧ w'.cell? ⟨g, q, none⟩ = some (ptr kb) ∧ w'.cell? ⟨kb, 3, none⟩ = some (.string kk)) := by
     refine ⟨fun w' hc => ?_⟩
     have old : ∀ {a : Addr} {v : Value}, w.cell? a = some v → w'.cell? a = some v := fun {a v} h => hc.cell_of ((HB.out.cell (World.block_lt_of_cell? w a h)).trans h) (fun q => q)
     exact ⟨hc.cell_of (by rw [cell_of_block HX.out]; rfl) (fun q => q), old HN.out.content, old HCK.out, old HKN.out.value⟩
    clear c6
    refine start_ (n := 16) (S := fun w' => w'.cell? ⟨w.heap.size + 1, 3, none⟩ = some kvv ∧ w'.cell? ⟨b, 6, none⟩ = some (.slice (some ⟨g, 0, none⟩) bs.length c) ∧ w'.cell? ⟨g, q, none⟩ = some (ptr kb) ∧ w'.cell? ⟨kb, 3, none⟩ = some (.string kk)) (ds := [13, 15]) #[false, false, false, false, false, false, false, false, false, false, false, false, false, false, false, false] (by kernel_rfl) rfl rfl (HK.out _ ((Chg.refl _ _).drew)) (fun hHeld => ?_)
    refine with_tabW (T := nodeOf11.T) (B := nodeOf11.B) nodeOf11.tab nodeOf11.bits (fun HT_ HW_ => ?_)
    have HC := Aside0.mk ((Chg.refl (fun _ => False) wr).drew)
    generalize wr.drew = wc at HC hHeld ⊢
    refine ps_ 0 39 HT_ ?_
    refine ps_ 2 41 HT_ ?_
    refine ps_ 3 42 HT_ ?_
    refine ps_ 4 43 HT_ ?_
    refine ps_ 6 45 HT_ ?_
    refine ts_ 1 40 HT_ HW_ hHeld ?_
    refine ts_ 5 44 HT_ HW_ hHeld ?_
    refine ps_ 7 46 HT_ ?_
    refine ts_ 8 47 HT_ HW_ hHeld ?_
    refine ps_ 9 48 HT_ ?_
    refine ps_ 10 49 HT_ ?_
    refine ts_ 11 50 HT_ HW_ hHeld ?_
    refine one_ (i := 12) (N := (some 51)) #[true, true, true, true, true, true, true, true, true, true, true, true, true, false, false, false] rfl rfl (one_of HT_.out (by kernel_rfl)) (by decide) (fun K hK => ?_)
    rw [if_pos (by rfl)]
    go_simp
    refine hK.out _ _ (HK.out _ (HC.out.alloc _)) (fun hHeld => ?_)
    clear hK K
    refine ns_ ?_
    refine last_ (i := 13) (N := (some 52)) #[true, true, true, true, true, true, true, true, true, true, true, true, true, true, false, false] rfl rfl (one_of HT_.out (by kernel_rfl)) (by decide) (fun K hK => ?_)
    refine Kd.R_append_step Kd.string (w0 := wc) (w.heap.size + 2) (by rfl) (.tmp 40) (.tmp 51) 22 9 (.string ⟨#[]⟩) 16 rfl Tryz.underlying22 Tryz.infoStr rfl (by decide) (by decide) kvv (ks.take j) kk [.string kk] (fun _ => True) (fun _ => False) (by rfl) (by rfl) rfl (fun _ h => h.elim) (fun _ _ => trivial) (R_upd HKS.out (fun k _ _ hk => HC.out.block k hk (fun q => q))) (Below.refl _ _) (by have := HC.out.size; have := lt_of_block HX.out; omega) (by have := HM.out; simp; omega) ?_
    intro kv1 w13 hr1 _ hg1 hat1
    obtain ⟨A1, n1, c1, rfl⟩ : ∃ A1 n1 c1, kv1 = .slice A1 n1 c1 := by obtain ⟨A1, c1, e⟩ := Kd.R_slice hr1; exact ⟨_, _, _, e⟩
    have HG := Aside0.mk (And.intro hr1 (And.intro hg1 hat1))
    refine hK.out _ _ ?_
    clear hr1 hg1 hat1
    clear hK K
    refine ns_ ?_
    refine ps_ 14 53 HT_ ?_
    refine last_ (i := 15) (N := none) #[true, true, true, true, true, true, true, true, true, true, true, true, true, true, true, true] rfl rfl (one_of HT_.out (by kernel_rfl)) (by decide) (fun K hK => ?_)
    have hx13 : w13.heap[w.heap.size + 1]? = some (.cells #[.int .i64 2, .string ⟨#[]⟩, .string ⟨#[]⟩, kvv, ivv] 25 (0, 0)) := by
     have h1 := lt_of_block HX.out
     exact (HG.out.2.1.block _ (Nat.lt_of_lt_of_le h1 HC.out.size) (fun e => by have := R_own HKS.out _ e.symm; omega)).trans ((HC.out.block _ h1 (fun q => q)).trans HX.out)
    have HX13 := Aside0.mk hx13
    have hcell : w13.cell? ⟨w.heap.size + 1, 3, none⟩ = some kvv := by rw [cell_of_block hx13]; rfl
    have hfr : w13.frozen? ⟨w.heap.size + 1, 3, none⟩ = false := frozen_of_block hx13
    clear hx13
    rw [if_pos (by rfl)]
    go_simp
    refine hK.out _ _ ?_
    clear hK K
    refine ns_ ?_
    refine done_ (done_of HT_.out (by kernel_rfl)) ?_
    clear hcell hfr
    obtain ⟨w2, e2⟩ : ∃ w2, w13.setCell ⟨w.heap.size + 1, 3, none⟩ (.slice A1 n1 c1) = w2 := ⟨_, rfl⟩
    have hcc : Chg (fun k => k = w.heap.size + 1 ∨ some k = kvv.ownBlock) wr w2 := by
     rw [← e2]
     exact Chg.setCell ((HC.out.mono (fun _ q => q.elim)).grown HG.out.2.1 (fun k e => .inl (.inr e.symm))) (.inl (.inl rfl)) _
    have ownk : ∀ k, some k = kvv.ownBlock → w.heap.size + 2 ≤ k := fun k e => (R_own HKS.out k e.symm).1
    have HB2 : Aside0 (Below w.heap.size w w2) := ⟨HB.out.trans (hcc.below HB.out.size (fun k q => by rcases q with q | q; omega; have := ownk k q; omega))⟩
    have HR2 : Aside0 (w2.heap[w.heap.size]? = some (.cells #[.int .i64 0, .string ⟨#[]⟩, .string ⟨#[]⟩, .slice none 0 0, .slice none 0 0] 25 (0, 0))) :=
     ⟨(hcc.block _ (lt_of_block HR.out) (fun q => by rcases q with q | q; omega; have := ownk _ q; omega)).trans HR.out⟩
    have HX2 : Aside0 (w2.heap[w.heap.size + 1]? = some (.cells #[.int .i64 2, .string ⟨#[]⟩, .string ⟨#[]⟩, .slice A1 n1 c1, ivv] 25 (0, 0))) := ⟨by rw [← e2]; exact heap_set (a := ⟨w.heap.size + 1, 3, none⟩) HX13.out rfl⟩
    have HKS2 : Aside0 (Kd.string.R 9 w2 (w.heap.size + 2) (fun _ => True) (.slice A1 n1 c1) (ks.take (j + 1))) := by
     refine ⟨?_⟩
     rw [List.take_succ_eq_append_getElem hj, ← HKZ.out.1, ← e2]
     exact R_upd HG.out.1 (fun k _ hk _ => heap_set_ne (by show k ≠ w.heap.size + 1; omega))
    have HIS2 : Aside0 (k25.R 25 w2 (w.heap.size + 2) (fun k => some k ≠ (Value.slice A1 n1 c1).ownBlock) ivv ((vs.take j).map (ofY d))) := by
     have h1 := R_upd (w1 := w2) (Kd.R_bound HIS.out) (fun k hok hk hlt => hcc.block k hlt (fun q => by rcases q with q | q; omega; exact hok.1 q))
     refine ⟨Kd.R_mono h1 (fun k hk e => ?_)⟩
     obtain ⟨h2, _, h3, _⟩ := hk
     rcases HG.out.2.2 with h | ⟨g', hb', h⟩
     ·exact h2 (e.trans h)
     ·rw [hb'] at e
      have : k = g' := by simpa using e
      have := HC.out.size
      omega
    rw [e2]
    clear HC HG HX13 hcc ownk HK HKS HIS HX HR HB e2
    have HK : Aside0 (∀ w', Chg (fun _ => False) w2 w' → w'.cell? ⟨w.heap.size + 1, 4, none⟩ = some ivv ∧ w'.cell? ⟨b, 6, none⟩ = some (.slice (some ⟨g, 0, none⟩) bs.length c) ∧ w'.cell? ⟨g, q + 1, none⟩ = some (ptr vb)) := by
     refine ⟨fun w' hc => ?_⟩
     have old : ∀ {a : Addr} {v : Value}, w.cell? a = some v → w'.cell? a = some v := fun {a v} h => hc.cell_of ((HB2.out.cell (World.block_lt_of_cell? w a h)).trans h) (fun q => q)
     exact ⟨hc.cell_of (by rw [cell_of_block HX2.out]; rfl) (fun q => q), old HN.out.content, old HCV.out⟩
    go_wp2
    have hw1 : wrap64 ((q : Int) + 1) = (q : Int) + 1 := by unfold wrap64; omega
    have hw2 : (0 : Int) ≤ (q : Int) + 1 := by omega
    have hw3 : ((q : Int) + 1).toNat = q + 1 := by omega
    refine start_ (n := 15) (S := fun w' => w'.cell? ⟨w.heap.size + 1, 4, none⟩ = some ivv ∧ w'.cell? ⟨b, 6, none⟩ = some (.slice (some ⟨g, 0, none⟩) bs.length c) ∧ w'.cell? ⟨g, q + 1, none⟩ = some (ptr vb)) (ds := [12, 14]) #[false, false, false, false, false, false, false, false, false, false, false, false, false, false, false] (by kernel_rfl) rfl rfl (HK.out _ ((Chg.refl _ _).drew)) (fun hHeld => ?_)
    refine with_tabW (T := nodeOf12.T) (B := nodeOf12.B) nodeOf12.tab nodeOf12.bits (fun HT_ HW_ => ?_)
    have HC := Aside0.mk ((Chg.refl (fun _ => False) w2).drew)
    generalize w2.drew = wc at HC hHeld ⊢
    refine ps_ 0 54 HT_ ?_
    refine ps_ 2 56 HT_ ?_
    refine ps_ 3 57 HT_ ?_
    refine ps_ 4 58 HT_ ?_
    refine ps_ 6 60 HT_ ?_
    refine ps_ 7 61 HT_ ?_
    refine ts_ 1 55 HT_ HW_ hHeld ?_
    refine ts_ 5 59 HT_ HW_ hHeld ?_
    refine ps_ 8 62 HT_ ?_
    refine ts_ 9 63 HT_ HW_ hHeld ?_
    refine one_ (i := 10) (N := (some 64)) #[true, true, true, true, true, true, true, true, true, true, true, false, false, false, false] rfl rfl (one_of HT_.out (by kernel_rfl)) (by decide) (fun K hK => ?_)
    refine goes_ Tryz.func36 (by kernel_rfl) rfl #[ptr vb] (by rfl) rfl rfl (by simp only [List.map_toArray, List.map_cons, List.map_nil]; rfl) ?_
    refine (IH.out zz vb F2 _ (HYV.out.below (HB2.out.trans (HC.out.below HB2.out.size (fun _ q => q.elim)))) HSZ.out).mono ?_
    rintro e w13 ⟨ics, rfl, him, hb13⟩
    refine ⟨_, rfl, ?_⟩
    have hc13 := HC.out.trans (Chg.of_below hb13) (fun _ (q : False) => q.elim)
    refine hK.out _ _ (HK.out _ hc13) (fun hHeld => ?_)
    have HIM := Aside0.mk (And.intro (k25.M_bound him) HC.out.size)
    clear HC him hb13
    have HC := Aside0.mk hc13
    clear hc13
    clear hK K
    refine ns_ ?_
    refine one_ (i := 11) (N := (some 65)) #[true, true, true, true, true, true, true, true, true, true, true, true, false, false, false] rfl rfl (one_of HT_.out (by kernel_rfl)) (by decide) (fun K hK => ?_)
    obtain ⟨i3, i4, hics, hm3, hm4⟩ := k25_openM HIM.out.1
    obtain ⟨A3, n3, c3, rfl⟩ : ∃ A3 n3 c3, i3 = .slice A3 n3 c3 := by obtain ⟨A3, c3, e⟩ := Kd.R_slice hm3; exact ⟨_, _, _, e⟩
    obtain ⟨A4, n4, c4, rfl⟩ : ∃ A4 n4 c4, i4 = .slice A4 n4 c4 := by obtain ⟨A4, c4, e⟩ := Kd.R_slice hm4; exact ⟨_, _, _, e⟩
    subst hics
    clear hm3 hm4
    generalize hzo : ofY d zz = oz at HIM
    have HZO := Aside0.mk hzo
    clear hzo
    rw [if_pos (by rfl)]
    go_simp
    refine hK.out _ _ (HK.out _ (HC.out.alloc _)) (fun hHeld => ?_)
    clear hK K
    refine ns_ ?_
    refine last_ (i := 12) (N := (some 66)) #[true, true, true, true, true, true, true, true, true, true, true, true, true, false, false] rfl rfl (one_of HT_.out (by kernel_rfl)) (by decide) (fun K hK => ?_)
    refine Kd.R_append_step k25 (w0 := w13) (w.heap.size + 2) (by rfl) (.tmp 55) (.tmp 65) 23 25 (.agg #[.int .i64 0, .string ⟨#[]⟩, .string ⟨#[]⟩, .slice none 0 0, .slice none 0 0]) 88 rfl Tryz.underlying23 Tryz.infoNode rfl (by decide) (by decide) ivv ((vs.take j).map (ofY d)) oz [.int .i64 oz.f0, .string oz.f1, .string oz.f2, .slice A3 n3 c3, .slice A4 n4 c4] (fun k => some k ≠ (Value.slice A1 n1 c1).ownBlock) (fun k => wc.heap.size ≤ k) (by rfl) (by rfl) (k25.M_lower (by have := HIM.out.2; have := lt_of_block HX2.out; omega) (k25.M_mono (fun k hk => hk.2.1) HIM.out.1)) ?ok1 ?ok2 (R_upd HIS2.out (fun k _ _ hk => HC.out.block k hk (fun q => q))) (Below.refl _ _) (by have := HC.out.size; have := lt_of_block HX2.out; omega) (by have := HM.out; have := HJ.out; simp; omega) ?_
    case ok1 =>
     intro k hk
     have h1 := HIM.out.2
     refine ⟨fun e => ?_, fun e => ?_⟩
     ·have := R_own HKS2.out k e.symm; omega
     ·have := R_own HIS2.out k e.symm; omega
    case ok2 =>
     intro k hk e
     have h1 := HC.out.size
     have := R_own HKS2.out k e.symm
     omega
    intro iv1 w15 hr1 _ hg1 hat1
    obtain ⟨A5, n5, c5, rfl⟩ : ∃ A5 n5 c5, iv1 = .slice A5 n5 c5 := by obtain ⟨A5, c5, e⟩ := Kd.R_slice hr1; exact ⟨_, _, _, e⟩
    have HG := Aside0.mk (And.intro hr1 (And.intro hg1 hat1))
    refine hK.out _ _ ?_
    clear hr1 hg1 hat1
    clear hK K
    refine ns_ ?_
    refine ps_ 13 67 HT_ ?_
    refine last_ (i := 14) (N := none) #[true, true, true, true, true, true, true, true, true, true, true, true, true, true, true] rfl rfl (one_of HT_.out (by kernel_rfl)) (by decide) (fun K hK => ?_)
    have hx15 : w15.heap[w.heap.size + 1]? = some (.cells #[.int .i64 2, .string ⟨#[]⟩, .string ⟨#[]⟩, .slice A1 n1 c1, ivv] 25 (0, 0)) := by
     have h1 := lt_of_block HX2.out
     exact (HG.out.2.1.block _ (Nat.lt_of_lt_of_le h1 HC.out.size) (fun e => by have := R_own HIS2.out _ e.symm; omega)).trans ((HC.out.block _ h1 (fun q => q)).trans HX2.out)
    have HX15 := Aside0.mk hx15
    have hcell : w15.cell? ⟨w.heap.size + 1, 4, none⟩ = some ivv := by rw [cell_of_block hx15]; rfl
    have hfr : w15.frozen? ⟨w.heap.size + 1, 4, none⟩ = false := frozen_of_block hx15
    clear hx15
    rw [if_pos (by rfl)]
    go_simp
    refine hK.out _ _ ?_
    clear hK K
    refine ns_ ?_
    refine done_ (done_of HT_.out (by kernel_rfl)) ?_
    clear hcell hfr hw1 hw2 hw3
    obtain ⟨w3, e3⟩ : ∃ w3, w15.setCell ⟨w.heap.size + 1, 4, none⟩ (.slice A5 n5 c5) = w3 := ⟨_, rfl⟩
    have hcc : Chg (fun k => k = w.heap.size + 1 ∨ some k = ivv.ownBlock) w2 w3 := by
     rw [← e3]
     exact Chg.setCell ((HC.out.mono (fun _ q => q.elim)).grown HG.out.2.1 (fun k e => .inl (.inr e.symm))) (.inl (.inl rfl)) _
    have owni : ∀ k, some k = ivv.ownBlock → w.heap.size + 2 ≤ k := fun k e => (R_own HIS2.out k e.symm).1
    have HB3 : Aside0 (Below w.heap.size w w3) := ⟨HB2.out.trans (hcc.below HB2.out.size (fun k q => by rcases q with q | q; omega; have := owni k q; omega))⟩
    have HR3 : Aside0 (w3.heap[w.heap.size]? = some (.cells #[.int .i64 0, .string ⟨#[]⟩, .string ⟨#[]⟩, .slice none 0 0, .slice none 0 0] 25 (0, 0))) :=
     ⟨(hcc.block _ (lt_of_block HR2.out) (fun q => by rcases q with q | q; omega; have := owni _ q; omega)).trans HR2.out⟩
    have HX3 : Aside0 (w3.heap[w.heap.size + 1]? = some (.cells #[.int .i64 2, .string ⟨#[]⟩, .string ⟨#[]⟩, .slice A1 n1 c1, .slice A5 n5 c5] 25 (0, 0))) := ⟨by rw [← e3]; exact heap_set (a := ⟨w.heap.size + 1, 4, none⟩) HX15.out rfl⟩
    have HKS3 : Aside0 (Kd.string.R 9 w3 (w.heap.size + 2) (fun _ => True) (.slice A1 n1 c1) (ks.take (j + 1))) := by
     have h1 : Kd.string.R 9 w2 (w.heap.size + 2) (fun k => some k = (Value.slice A1 n1 c1).ownBlock) (.slice A1 n1 c1) (ks.take (j + 1)) := ⟨fun k hk => hk.symm, HKS2.out.2⟩
     refine ⟨Kd.R_mono (R_upd (w1 := w3) h1 (fun k hok hk hlt => hcc.block k hlt (fun q => ?_))) (fun _ _ => trivial)⟩
     rcases q with q | q
     ·omega
     ·exact R_types_ne HKS2.out HIS2.out (by decide) k hok.symm q
    have HIS3 : Aside0 (k25.R 25 w3 (w.heap.size + 2) (fun k => some k ≠ (Value.slice A1 n1 c1).ownBlock) (.slice A5 n5 c5) ((vs.take (j + 1)).map (ofY d))) := by
     refine ⟨?_⟩
     rw [List.take_succ_eq_append_getElem (by have := HM.out; omega), List.map_append, ← HKZ.out.2, ← e3]
     simp only [List.map_cons, List.map_nil, HZO.out]
     exact R_upd HG.out.1 (fun k _ hk _ => heap_set_ne (by show k ≠ w.heap.size + 1; omega))
    rw [e3]
    go_wp2
    go_roundg (gk - 1)
    case measure => have := HJ.out; omega
    case rel => exact ⟨j + 1, q + 2, _, _, by go_num, ⟨by have := HJ.out; omega⟩, HR3, HX3, HKS3, HIS3, HB3⟩
   ·have hq : ¬ (q : Int) + 1 < (bs.length : Int) := by have := HJ.out; have := HM.out; omega
    have hje : j = ks.length := by have := HJ.out; omega
    obtain ⟨A1, n1, c1, rfl⟩ : ∃ A1 n1 c1, kvv = .slice A1 n1 c1 := by obtain ⟨A1, c1, e⟩ := Kd.R_slice HKS.out; exact ⟨_, _, _, e⟩
    obtain ⟨A5, n5, c5, rfl⟩ : ∃ A5 n5 c5, ivv = .slice A5 n5 c5 := by obtain ⟨A5, c5, e⟩ := Kd.R_slice HIS.out; exact ⟨_, _, _, e⟩
    obtain ⟨cx0, cx1, cx2, cx3, cx4, zx0, zx1, zx2, zx3, zx4⟩ := fc_ HX.out
    obtain ⟨cr0, cr1, cr2, cr3, cr4, zr0, zr1, zr2, zr3, zr4⟩ := fc_ HR.out
    have HJE := Aside0.mk hje
    clear hje
    go_wp2
    obtain ⟨wf, ef, hf, hcf⟩ := set5 (v0 := .int .i64 2) (v1 := .string ⟨#[]⟩) (v2 := .string ⟨#[]⟩) (v3 := .slice A1 n1 c1) (v4 := .slice A5 n5 c5) HR.out
    rw [ef]
    have HF := Aside0.mk hf
    obtain ⟨cf0, cf1, cf2, cf3, cf4, zf0, zf1, zf2, zf3, zf4⟩ := fc_ HF.out
    clear cx0 cx1 cx2 cx3 cx4 cr0 cr1 cr2 cr3 cr4 zx0 zx1 zx2 zx3 zx4 zr0 zr1 zr2 zr3 zr4 hf ef
    refine bodyPost_ret (v := .agg #[.int .i64 2, .string ⟨#[]⟩, .string ⟨#[]⟩, .slice A1 n1 c1, .slice A5 n5 c5]) (by simp [results, Tryz.results36, go_sem, cf0, cf1, cf2, cf3, cf4]) rfl ⟨[.int .i64 2, .string ⟨#[]⟩, .string ⟨#[]⟩, .slice A1 n1 c1, .slice A5 n5 c5], rfl, ?_, ?_⟩
    ·have hm1 : ∀ k, w.heap.size + 2 ≤ k → k < wr.heap.size → wf.heap[k]? = wr.heap[k]? := fun k hk hlt => hcf.block k hlt (fun q => by omega)
     have h1 := R_upd (w1 := wf) HKS.out (fun k _ hk hlt => hm1 k hk hlt)
     have h2 := R_upd (w1 := wf) HIS.out (fun k _ hk hlt => hm1 k hk hlt)
     rw [HJE.out, List.take_length] at h1
     rw [HJE.out, HM.out.2.1, List.take_length] at h2
     have e1 : keysOf y.content = ks := by rw [HCON.out]; exact keysOf_kv ks vs HM.out.2.1
     have e2 : valsOf y.content = vs := by rw [HCON.out]; exact valsOf_kv ks vs HM.out.2.1
     rw [e1, e2]
     exact k25.M_lower (show w.heap.size ≤ w.heap.size + 2 by omega) (k25_mkM wf _ (fun _ => True) ⟨2, ⟨#[]⟩, ⟨#[]⟩, ks, vs.map (ofY d)⟩ h1 (Kd.R_mono h2 (fun _ _ => trivial)))
    ·exact HB.out.trans (hcf.below HB.out.size (fun k q => by omega))
 ·simp only [ofY, h0]
  rw [h0] at hn
  obtain ⟨A, c, rfl⟩ := own_slice ho
  have HN : Aside0 (NB w b 2 y.tag y.value (.slice A bs.length c)) := ⟨hn⟩
  have HO := Aside0.mk ho
  have HM : Aside0 (bs.length = y.content.length ∧ y.content.length ≤ 4000) := ⟨hlb, hlen⟩
  have HL := Aside0.mk hl
  have HS := Aside0.mk hS
  have IH := Aside0.mk ih
  have hlt := HN.out.lt
  have hne : ¬ b = w.heap.size := by omega
  have hne1 : ¬ b = w.heap.size + 1 := by omega
  have c0 := HN.out.kind
  have c6 := HN.out.content
  have c0' : ∀ o, (w.alloc o).cell? ⟨b, 0, none⟩ = some (.int .u32 2) := fun o => by rw [World.cell?_alloc_lt _ _ _ hlt]; exact c0
  have c6' : ∀ o o', ((w.alloc o).alloc o').cell? ⟨b, 6, none⟩ = some (.slice A bs.length c) := fun o o' => by rw [World.cell?_alloc_lt _ _ _ (by simp; omega), World.cell?_alloc_lt _ _ _ hlt]; exact c6
  clear hY hfo hn ho hl hS ih h0 hF hlb hlen c0 c6
  go_enter Tryz.func36, Tryz.ntmps36
  go_wp2
  go_loopg [77] bs.length (fun k i wr => ∃ (q : Nat) (ivv : Value), i = .int .i64 q ∧ Aside0 (q ≤ bs.length ∧ k + q = bs.length) ∧ Aside0 (wr.heap[w.heap.size]? = some (.cells #[.int .i64 0, .string ⟨#[]⟩, .string ⟨#[]⟩, .slice none 0 0, .slice none 0 0] 25 (0, 0))) ∧
   Aside0 (wr.heap[w.heap.size + 1]? = some (.cells #[.int .i64 3, .string ⟨#[]⟩, .string ⟨#[]⟩, .slice none 0 0, ivv] 25 (0, 0))) ∧
   Aside0 (k25.R 25 wr (w.heap.size + 2) (fun _ => True) ivv ((y.content.take q).map (ofY d))) ∧ Aside0 (Below w.heap.size w wr))
  case atStart =>
   refine ⟨0, .slice none 0 0, rfl, ⟨by omega⟩, ⟨?_⟩, ⟨?_⟩, ⟨Kd.R_nil _ _ _ _ _⟩, ⟨((Below.refl _ _).alloc (Nat.le_refl _) _).alloc (by simp) _⟩⟩
   ·rw [heap_old _ (by simp)]; exact heap_at _ rfl
   ·exact heap_at _ (by simp)
  case round =>
   obtain ⟨q, ivv, rfl, HJ, HR, HX, HIS, HB⟩ := hrel
   have hq0 : (0 : Int) ≤ (q : Int) := Int.natCast_nonneg _
   have hq1 : (q : Int) ≤ 4000 := by have := HJ.out; have := HM.out; omega
   by_cases hj : q < bs.length
   ·obtain ⟨g, cap, hcv, _, hgl⟩ := HO.out.form (by omega)
    obtain ⟨rfl, rfl⟩ : A = some ⟨g, 0, none⟩ ∧ c = cap := by simpa using hcv
    have hjv : q < y.content.length := by have := HM.out; omega
    obtain ⟨vb, F2, ev, hF2, hyv⟩ := HL.out.get q hjv
    obtain ⟨zz, hzz⟩ : ∃ zz, zz = y.content[q] := ⟨_, rfl⟩
    rw [← hzz] at hyv
    have HYV := Aside0.mk hyv
    have HSZ : Aside0 (YSh d zz) := ⟨HS.out zz (by rw [hzz]; exact List.getElem_mem _)⟩
    have hcv1 : w.cell? ⟨g, q, none⟩ = some (ptr vb) := own_cell HO.out q _ (by simp only [ptrs, List.getElem?_map, ev, Option.map_some])
    have hcv2 := (HB.out.cell hgl).trans hcv1
    have HKZ : Aside0 (zz = y.content[q]) := ⟨hzz⟩
    clear hzz hyv ev hF2 hcv hcv1
    go_wp2
    have HK : Aside0 (∀ w', Chg (fun _ => False) wr w' → w'.cell? ⟨w.heap.size + 1, 4, none⟩ = some ivv) := ⟨fun w' hc => hc.cell_of (by rw [cell_of_block HX.out]; rfl) (fun q => q)⟩
    refine start_ (n := 8) (S := fun w' => w'.cell? ⟨w.heap.size + 1, 4, none⟩ = some ivv) (ds := [5, 7]) #[false, false, false, false, false, false, false, false] (by kernel_rfl) rfl rfl (HK.out _ ((Chg.refl _ _).drew)) (fun hHeld => ?_)
    refine with_tabW (T := nodeOf19.T) (B := nodeOf19.B) nodeOf19.tab nodeOf19.bits (fun HT_ HW_ => ?_)
    have HC := Aside0.mk ((Chg.refl (fun _ => False) wr).drew)
    generalize wr.drew = wc at HC hHeld ⊢
    refine ps_ 0 81 HT_ ?_
    refine ps_ 2 83 HT_ ?_
    refine ts_ 1 82 HT_ HW_ hHeld ?_
    refine one_ (i := 3) (N := (some 84)) #[true, true, true, true, false, false, false, false] rfl rfl (one_of HT_.out (by kernel_rfl)) (by decide) (fun K hK => ?_)
    refine goes_ Tryz.func36 (by kernel_rfl) rfl #[ptr vb] (by rfl) rfl rfl (by simp only [List.map_toArray, List.map_cons, List.map_nil]; rfl) ?_
    refine (IH.out zz vb F2 _ (HYV.out.below (HB.out.trans (HC.out.below HB.out.size (fun _ q => q.elim)))) HSZ.out).mono ?_
    rintro e w13 ⟨ics, rfl, him, hb13⟩
    refine ⟨_, rfl, ?_⟩
    have hc13 := HC.out.trans (Chg.of_below hb13) (fun _ (q : False) => q.elim)
    refine hK.out _ _ (HK.out _ hc13) (fun hHeld => ?_)
    have HIM := Aside0.mk (And.intro (k25.M_bound him) HC.out.size)
    clear HC him hb13
    have HC := Aside0.mk hc13
    clear hc13
    clear hK K
    refine ns_ ?_
    refine one_ (i := 4) (N := (some 85)) #[true, true, true, true, true, false, false, false] rfl rfl (one_of HT_.out (by kernel_rfl)) (by decide) (fun K hK => ?_)
    obtain ⟨i3, i4, hics, hm3, hm4⟩ := k25_openM HIM.out.1
    obtain ⟨A3, n3, c3, rfl⟩ : ∃ A3 n3 c3, i3 = .slice A3 n3 c3 := by obtain ⟨A3, c3, e⟩ := Kd.R_slice hm3; exact ⟨_, _, _, e⟩
    obtain ⟨A4, n4, c4, rfl⟩ : ∃ A4 n4 c4, i4 = .slice A4 n4 c4 := by obtain ⟨A4, c4, e⟩ := Kd.R_slice hm4; exact ⟨_, _, _, e⟩
    subst hics
    clear hm3 hm4
    generalize hzo : ofY d zz = oz at HIM
    have HZO := Aside0.mk hzo
    clear hzo
    rw [if_pos (by rfl)]
    go_simp
    refine hK.out _ _ (HK.out _ (HC.out.alloc _)) (fun hHeld => ?_)
    clear hK K
    refine ns_ ?_
    refine last_ (i := 5) (N := (some 86)) #[true, true, true, true, true, true, false, false] rfl rfl (one_of HT_.out (by kernel_rfl)) (by decide) (fun K hK => ?_)
    refine Kd.R_append_step k25 (w0 := w13) (w.heap.size + 2) (by rfl) (.tmp 82) (.tmp 85) 23 25 (.agg #[.int .i64 0, .string ⟨#[]⟩, .string ⟨#[]⟩, .slice none 0 0, .slice none 0 0]) 88 rfl Tryz.underlying23 Tryz.infoNode rfl (by decide) (by decide) ivv ((y.content.take q).map (ofY d)) oz [.int .i64 oz.f0, .string oz.f1, .string oz.f2, .slice A3 n3 c3, .slice A4 n4 c4] (fun _ => True) (fun k => wc.heap.size ≤ k) (by rfl) (by rfl) (k25.M_lower (by have := HIM.out.2; have := lt_of_block HX.out; omega) (k25.M_mono (fun k hk => hk.2.1) HIM.out.1)) ?ok1 (fun _ _ => trivial) (R_upd HIS.out (fun k _ _ hk => HC.out.block k hk (fun q => q))) (Below.refl _ _) (by have := HC.out.size; have := lt_of_block HX.out; omega) (by have := HM.out; have := HJ.out; simp; omega) ?_
    case ok1 =>
     intro k hk
     have h1 := HIM.out.2
     refine ⟨trivial, fun e => ?_⟩
     have := R_own HIS.out k e.symm
     omega
    intro iv1 w15 hr1 _ hg1 hat1
    obtain ⟨A5, n5, c5, rfl⟩ : ∃ A5 n5 c5, iv1 = .slice A5 n5 c5 := by obtain ⟨A5, c5, e⟩ := Kd.R_slice hr1; exact ⟨_, _, _, e⟩
    have HG := Aside0.mk (And.intro hr1 (And.intro hg1 hat1))
    refine hK.out _ _ ?_
    clear hr1 hg1 hat1
    clear hK K
    refine ns_ ?_
    refine ps_ 6 87 HT_ ?_
    refine last_ (i := 7) (N := none) #[true, true, true, true, true, true, true, true] rfl rfl (one_of HT_.out (by kernel_rfl)) (by decide) (fun K hK => ?_)
    have hx15 : w15.heap[w.heap.size + 1]? = some (.cells #[.int .i64 3, .string ⟨#[]⟩, .string ⟨#[]⟩, .slice none 0 0, ivv] 25 (0, 0)) := by
     have h1 := lt_of_block HX.out
     exact (HG.out.2.1.block _ (Nat.lt_of_lt_of_le h1 HC.out.size) (fun e => by have := R_own HIS.out _ e.symm; omega)).trans ((HC.out.block _ h1 (fun q => q)).trans HX.out)
    have HX15 := Aside0.mk hx15
    have hcell : w15.cell? ⟨w.heap.size + 1, 4, none⟩ = some ivv := by rw [cell_of_block hx15]; rfl
    have hfr : w15.frozen? ⟨w.heap.size + 1, 4, none⟩ = false := frozen_of_block hx15
    clear hx15
    rw [if_pos (by rfl)]
    go_simp
    refine hK.out _ _ ?_
    clear hK K
    refine ns_ ?_
    refine done_ (done_of HT_.out (by kernel_rfl)) ?_
    clear hcell hfr
    obtain ⟨w3, e3⟩ : ∃ w3, w15.setCell ⟨w.heap.size + 1, 4, none⟩ (.slice A5 n5 c5) = w3 := ⟨_, rfl⟩
    have hcc : Chg (fun k => k = w.heap.size + 1 ∨ some k = ivv.ownBlock) wr w3 := by
     rw [← e3]
     exact Chg.setCell ((HC.out.mono (fun _ q => q.elim)).grown HG.out.2.1 (fun k e => .inl (.inr e.symm))) (.inl (.inl rfl)) _
    have owni : ∀ k, some k = ivv.ownBlock → w.heap.size + 2 ≤ k := fun k e => (R_own HIS.out k e.symm).1
    have HB3 : Aside0 (Below w.heap.size w w3) := ⟨HB.out.trans (hcc.below HB.out.size (fun k q => by rcases q with q | q; omega; have := owni k q; omega))⟩
    have HR3 : Aside0 (w3.heap[w.heap.size]? = some (.cells #[.int .i64 0, .string ⟨#[]⟩, .string ⟨#[]⟩, .slice none 0 0, .slice none 0 0] 25 (0, 0))) :=
     ⟨(hcc.block _ (lt_of_block HR.out) (fun q => by rcases q with q | q; omega; have := owni _ q; omega)).trans HR.out⟩
    have HX3 : Aside0 (w3.heap[w.heap.size + 1]? = some (.cells #[.int .i64 3, .string ⟨#[]⟩, .string ⟨#[]⟩, .slice none 0 0, .slice A5 n5 c5] 25 (0, 0))) := ⟨by rw [← e3]; exact heap_set (a := ⟨w.heap.size + 1, 4, none⟩) HX15.out rfl⟩
    have HIS3 : Aside0 (k25.R 25 w3 (w.heap.size + 2) (fun _ => True) (.slice A5 n5 c5) ((y.content.take (q + 1)).map (ofY d))) := by
     refine ⟨?_⟩
     rw [List.take_succ_eq_append_getElem hjv, List.map_append, ← HKZ.out, ← e3]
     simp only [List.map_cons, List.map_nil, HZO.out]
     exact R_upd HG.out.1 (fun k _ hk _ => heap_set_ne (by show k ≠ w.heap.size + 1; omega))
    rw [e3]
    go_wp2
    go_roundg (gk - 1)
    case measure => have := HJ.out; omega
    case rel => exact ⟨q + 1, _, by go_num, ⟨by have := HJ.out; omega⟩, HR3, HX3, HIS3, HB3⟩
   ·have hje : q = bs.length := by have := HJ.out; omega
    obtain ⟨A5, n5, c5, rfl⟩ : ∃ A5 n5 c5, ivv = .slice A5 n5 c5 := by obtain ⟨A5, c5, e⟩ := Kd.R_slice HIS.out; exact ⟨_, _, _, e⟩
    obtain ⟨cx0, cx1, cx2, cx3, cx4, zx0, zx1, zx2, zx3, zx4⟩ := fc_ HX.out
    obtain ⟨cr0, cr1, cr2, cr3, cr4, zr0, zr1, zr2, zr3, zr4⟩ := fc_ HR.out
    have HJE := Aside0.mk hje
    clear hje
    go_wp2
    obtain ⟨wf, ef, hf, hcf⟩ := set5 (v0 := .int .i64 3) (v1 := .string ⟨#[]⟩) (v2 := .string ⟨#[]⟩) (v3 := .slice none 0 0) (v4 := .slice A5 n5 c5) HR.out
    rw [ef]
    have HF := Aside0.mk hf
    obtain ⟨cf0, cf1, cf2, cf3, cf4, zf0, zf1, zf2, zf3, zf4⟩ := fc_ HF.out
    clear cx0 cx1 cx2 cx3 cx4 cr0 cr1 cr2 cr3 cr4 zx0 zx1 zx2 zx3 zx4 zr0 zr1 zr2 zr3 zr4 hf ef
    refine bodyPost_ret (v := .agg #[.int .i64 3, .string ⟨#[]⟩, .string ⟨#[]⟩, .slice none 0 0, .slice A5 n5 c5]) (by simp [results, Tryz.results36, go_sem, cf0, cf1, cf2, cf3, cf4]) rfl ⟨[.int .i64 3, .string ⟨#[]⟩, .string ⟨#[]⟩, .slice none 0 0, .slice A5 n5 c5], rfl, ?_, ?_⟩
    ·have hm1 : ∀ k, w.heap.size + 2 ≤ k → k < wr.heap.size → wf.heap[k]? = wr.heap[k]? := fun k hk hlt => hcf.block k hlt (fun q => by omega)
     have h2 := R_upd (w1 := wf) HIS.out (fun k _ hk hlt => hm1 k hk hlt)
     rw [HJE.out, HM.out.1, List.take_length] at h2
     exact k25.M_lower (show w.heap.size ≤ w.heap.size + 2 by omega) (k25_mkM wf _ (fun _ => True) ⟨3, ⟨#[]⟩, ⟨#[]⟩, [], y.content.map (ofY d)⟩ (Kd.R_nil _ _ _ _ _) h2)
    ·exact HB.out.trans (hcf.below HB.out.size (fun k q => by omega))
theorem nodeOf_lit (d : Nat) (y : Y) (b : Nat) (F : Nat → Prop) (w : World) (hY : YN w F b y) (hS : YSh d y) (o : S25) (ho : ofY d y = o) :
  Calls Tryz.prog 36 #[ptr b] w fun e w' => ∃ A3 n3 c3 A4 n4 c4, e = .returned (.agg #[.int .i64 o.f0, .string o.f1, .string o.f2, .slice A3 n3 c3, .slice A4 n4 c4]) ∧
   k25.M w' w.heap.size (fun _ => True) o [.int .i64 o.f0, .string o.f1, .string o.f2, .slice A3 n3 c3, .slice A4 n4 c4] ∧ Below w.heap.size w w' := by
 refine (nodeOf_calls d y b F w hY hS).mono ?_
 rintro e w' ⟨cs, rfl, him, hb⟩
 rw [ho] at him
 obtain ⟨i3, i4, hics, hm3, hm4⟩ := k25_openM him
 obtain ⟨A3, n3, c3, rfl⟩ : ∃ A3 n3 c3, i3 = .slice A3 n3 c3 := by obtain ⟨A3, c3, e⟩ := Kd.R_slice hm3; exact ⟨_, _, _, e⟩
 obtain ⟨A4, n4, c4, rfl⟩ : ∃ A4 n4 c4, i4 = .slice A4 n4 c4 := by obtain ⟨A4, c4, e⟩ := Kd.R_slice hm4; exact ⟨_, _, _, e⟩
 subst hics
 exact ⟨A3, n3, c3, A4, n4, c4, rfl, him, hb⟩
end Go.Proofs.YtkpdkoafngjflaaGreat
