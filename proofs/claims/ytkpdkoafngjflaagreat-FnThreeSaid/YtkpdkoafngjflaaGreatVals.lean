import Derived.Test.YtkpdkoafngjflaaGreatSh
import Derived.Test.YtkpdkoafngjflaaGreatCovers
namespace Go.Proofs.YtkpdkoafngjflaaGreat
open Go.RowKit Go.Proofs.YtkpdkoafngjflaaGreatW.PrintWords Go.Proofs.YtkpdkoafngjflaaGreatW.PrintLast Go.Proofs.YtkpdkoafngjflaaGreat.PFnFields
set_option linter.unusedVariables false
set_option linter.unusedSimpArgs false
def txM : List ByteArray → List ByteArray → ByteArray → ByteArray
 | k :: ks, v :: vs, o => txM ks vs (o ++ (((k ++ ⟨#[58, 32]⟩) ++ v) ++ ⟨#[44, 32]⟩))
 | _, _, o => o
def txL : List ByteArray → ByteArray → ByteArray
 | v :: vs, o => txL vs (o ++ (v ++ ⟨#[44, 32]⟩))
 | [], o => o
def tx : Nat → S25 → ByteArray
 | 0, _ => ⟨#[]⟩
 | d + 1, x => if x.f0 = 1 then x.f1 else if x.f0 = 2 then (⟨#[123]⟩ ++ txM x.f3 (x.f4.map (tx d)) ⟨#[]⟩) ++ ⟨#[125]⟩ else (⟨#[91]⟩ ++ txL (x.f4.map (tx d)) ⟨#[]⟩) ++ ⟨#[93]⟩
theorem txL_size : ∀ (vs : List ByteArray) (o : ByteArray), (txL vs o).size = o.size + (vs.map fun v => v.size + 2).sum
 | [], o => by simp [txL]
 |v :: vs, o => by
  simp only [txL]
  rw [txL_size vs, ByteArray.size_append, ByteArray.size_append]
  simp only [List.map_cons, List.sum_cons]
  have : (⟨#[44, 32]⟩ : ByteArray).size = 2 := rfl
  omega
theorem txM_size : ∀ (ks vs : List ByteArray) (o : ByteArray), (∀ k ∈ ks, k.size ≤ 20) → (txM ks vs o).size ≤ o.size + (vs.map fun v => v.size + 24).sum
 | [], vs, o, _ => by simp [txM]
 | _ :: _, [], o, _ => by simp [txM]
 |k :: ks, v :: vs, o, h => by
  simp only [txM]
  refine Nat.le_trans (txM_size ks vs _ (fun k hk => h k (List.mem_cons_of_mem _ hk))) ?_
  rw [ByteArray.size_append, ByteArray.size_append, ByteArray.size_append, ByteArray.size_append]
  simp only [List.map_cons, List.sum_cons]
  have h1 : (⟨#[44, 32]⟩ : ByteArray).size = 2 := rfl
  have h2 : (⟨#[58, 32]⟩ : ByteArray).size = 2 := rfl
  have := h k (List.mem_cons_self ..)
  omega
theorem sum_tx {d : Nat} {c : Nat} : ∀ (l : List S25), (∀ y ∈ l, (tx d y).size + 40 ≤ 60 * nodes d y) → c ≤ 40 → (((l.map (tx d)).map fun v => v.size + c).sum ≤ 60 * (l.map (nodes d)).sum)
 | [], _, _ => by simp
 |y :: l, h, hc => by
  have h1 := h y (List.mem_cons_self ..)
  have h2 := sum_tx l (fun z hz => h z (List.mem_cons_of_mem _ hz)) hc
  simp only [List.map_cons, List.sum_cons]
  omega
theorem tx_size : ∀ {d : Nat} {x : S25}, Wf d x → (tx d x).size + 40 ≤ 60 * nodes d x
 | 0, _, h => h.elim
 |d + 1, x, h => by
  have h0 : (⟨#[]⟩ : ByteArray).size = 0 := rfl
  simp only [tx, nodes]
  rcases h with ⟨h1, _, _, hs⟩ | ⟨_, _, _, hi, ⟨h2, _, hk, _⟩ | ⟨h3, _⟩⟩
  ·rw [if_pos h1]
   have : x.f1.size ≤ 20 := by
    rcases hs with ⟨_, q⟩ | ⟨_, q⟩
    ·exact q.le
    ·have := q.le; omega
   omega
  ·rw [if_neg (by omega), if_pos h2, ByteArray.size_append, ByteArray.size_append]
   have e1 : (⟨#[123]⟩ : ByteArray).size = 1 := rfl
   have e2 : (⟨#[125]⟩ : ByteArray).size = 1 := rfl
   have h4 := txM_size x.f3 (x.f4.map (tx d)) ⟨#[]⟩ (fun k hk' => (hk k hk').le)
   have h5 := sum_tx (d := d) (c := 24) x.f4 (fun y hy => tx_size (hi y hy)) (by decide)
   omega
  ·rw [if_neg (by omega), if_neg (by omega), ByteArray.size_append, ByteArray.size_append]
   have e1 : (⟨#[91]⟩ : ByteArray).size = 1 := rfl
   have e2 : (⟨#[93]⟩ : ByteArray).size = 1 := rfl
   have h4 := txL_size (x.f4.map (tx d)) ⟨#[]⟩
   have h5 := sum_tx (d := d) (c := 2) x.f4 (fun y hy => tx_size (hi y hy)) (by decide)
   omega
theorem Fit.tx {d : Nat} {x : S25} (h : Fit d x) : (Go.Proofs.YtkpdkoafngjflaaGreat.tx d x).size ≤ 4000 := by
 have := tx_size h.1
 have := h.2
 omega
theorem ztext_leaf (w : World) (b : Nat) (t v : ByteArray) (cv : Value) (hn : NB w b 8 t v cv) :
  Calls Tryz.prog 163 #[ptr b] w fun e w' => e = .returned (.string v) ∧ w = w' := by
 have c0 := hn.kind
 have c3 := hn.value
 clear hn
 go_enter Tryz.func163, Tryz.ntmps163
 go_wp2
 go_ret
 exact ⟨rfl, rfl⟩
def ztm11.T : Bool × List (List Nat × List Nat) := (true, [([], []), ([], []), ([1], [1]), ([2], [2]), ([3], [3]), ([], []), ([4, 5], [4, 5]), ([6], [6]), ([7], [7]), ([8], [8]), ([], []), ([10], [10]), ([11], [11]), ([12], [12]), ([], []), ([14], [14]), ([13, 15], [13, 15]), ([16], [16]), ([17, 8], [17]), ([9, 18], [9, 18]), ([19], [19]), ([0, 20], [0, 20]), ([21, 18, 0, 1, 2, 3, 4, 5, 6, 7, 8, 9, 10, 11, 12, 13, 14, 15, 16, 17, 18, 19, 20, 21], [0, 21])])
def ztm11.B : List Nat := [0, 0, 2, 6, 14, 0, 62, 126, 254, 510, 0, 1024, 3072, 7168, 0, 16384, 64512, 130048, 261630, 524286, 1048574, 2097151, 4194303]
theorem ztm11.tab : rtab .any (opsOf Tryz.f163 11) = ztm11.T := by kernel_rfl
theorem ztm11.bits : waitsOk ztm11.T.2 ztm11.B = true := by kernel_rfl
set_option maxRecDepth 100000 in
set_option maxHeartbeats 1600000 in
theorem ztext_list (d : Nat) (ih : ∀ (x : S25) (hx : Fit d x) (w : World) (F : Nat → Prop) (b : Nat) (hy : YN w F b (toY d x)), Calls Tryz.prog 163 #[ptr b] w fun e w' => e = .returned (.string (tx d x)) ∧ Below w.heap.size w w')
  (x : S25) (hx : Fit (d + 1) x) (h3 : x.f0 = 3) (w : World) (F : Nat → Prop) (b : Nat) (hy : YN w F b (toY (d + 1) x)) :
  Calls Tryz.prog 163 #[ptr b] w fun e w' => e = .returned (.string (tx (d + 1) x)) ∧ Below w.heap.size w w' := by
 obtain ⟨A, g, c, bs, F1, hn, hA, hlb, hcell, hyl⟩ := list_open h3 hy
 have c0 := hn.kind
 have c6 := hn.content
 have HA := Aside0.mk (And.intro hA (And.intro hlb (And.intro hcell hyl)))
 have IH := Aside0.mk ih
 have HX := Aside0.mk hx
 have H3 := Aside0.mk h3
 have hbl : bs.length ≤ 60 := by have := hx.len; omega
 clear hn hA hlb hcell hyl ih hx hy h3
 go_enter Tryz.func163, Tryz.ntmps163
 go_wp2_with fail
 go_loopg [61, 3] bs.length (fun k i s wr => ∃ (j : Nat) (o : ByteArray), i = .int .i64 j ∧ s = .string o ∧ Aside0 (j ≤ bs.length ∧ k + j = bs.length) ∧ Aside0 (Below w.heap.size w wr) ∧ Aside0 (txL ((x.f4.map (tx d)).drop j) o = txL (x.f4.map (tx d)) ⟨#[]⟩ ∧ o.size ≤ 5000 * j))
 case atStart => exact ⟨0, _, rfl, rfl, ⟨by omega⟩, ⟨Below.refl _ _⟩, ⟨rfl, by show 0 ≤ _; omega⟩⟩
 case round =>
  obtain ⟨j, o, rfl, rfl, HJ, HB, HO⟩ := hrel
  by_cases hj : j < bs.length
  ·have hj4 : j < x.f4.length := by have := HA.out.2.1; omega
   obtain ⟨kb, F2, ek, hF2, hyk⟩ := HA.out.2.2.2.get j (by simpa using hj4)
   have hke : bs[j] = kb := by simpa [List.getElem?_eq_getElem hj] using ek
   have hcj := HA.out.2.2.1 j hj
   rw [hke] at hcj
   have hcj' := (HB.out.cell (World.block_lt_of_cell? w _ hcj)).trans hcj
   have hdr : (x.f4.map (tx d)).drop j = tx d x.f4[j] :: (x.f4.map (tx d)).drop (j + 1) := by
    rw [List.drop_eq_getElem_cons (by simpa using hj4), List.getElem_map]
   obtain rfl := HA.out.1 (by omega)
   obtain ⟨xx, hxx⟩ : ∃ xx, xx = x.f4[j] := ⟨_, rfl⟩
   have hyk' : YN w F2 kb (toY d xx) := by rw [hxx]; simpa using hyk
   rw [← hxx] at hdr
   have HY := Aside0.mk (And.intro hyk' (And.intro hdr (show Fit d xx from by rw [hxx]; exact HX.out.item (List.getElem_mem _))))
   clear ek hF2 hyk hke hcj hyk' hdr hxx
   go_wp2_with fail
   refine (IH.out xx HY.out.2.2 wr F2 kb (HY.out.1.below HB.out)).mono ?_
   rintro e w3 ⟨rfl, hb3⟩
   have HB3 := Aside0.mk (HB.out.trans (hb3.mono HB.out.size))
   obtain ⟨tt, htt⟩ : ∃ tt, tt = tx d xx := ⟨_, rfl⟩
   rw [← htt]
   have hts : tt.size ≤ 4000 := by rw [htt]; exact HY.out.2.2.tx
   have hos : o.size ≤ 5000 * 60 := by have := HO.out.2; have := HJ.out; omega
   have hz2 : (⟨#[44, 32]⟩ : ByteArray).size = 2 := rfl
   have hza : (tt ++ ⟨#[44, 32]⟩).size = tt.size + 2 := by rw [ByteArray.size_append, hz2]
   have hg1 : ¬ (tt.size + (⟨#[44, 32]⟩ : ByteArray).size > 9223372036854775807) := by rw [hz2]; omega
   have hg2 : ¬ (o.size + (tt ++ ⟨#[44, 32]⟩).size > 9223372036854775807) := by rw [hza]; omega
   have HT := Aside0.mk (And.intro htt (And.intro hts hza))
   clear hb3 htt hcj' hts hos hz2 hza
   go_wp2_with fail
   go_roundg (gk - 1)
   case measure => have := HJ.out; omega
   case rel => exact ⟨j + 1, _, by go_num, rfl, ⟨by have := HJ.out; omega⟩, HB3, ⟨by
    rw [← HO.out.1, HY.out.2.1, ← HT.out.1]; rfl, by
    rw [ByteArray.size_append, HT.out.2.2]; have := HT.out.2.1; have := HO.out.2; omega⟩⟩
  ·have hje : j = bs.length := by have := HJ.out; omega
   have HFI : Aside0 (tx (d + 1) x = (⟨#[91]⟩ ++ o) ++ ⟨#[93]⟩) := ⟨by
    have h := HO.out.1
    rw [hje, HA.out.2.1, List.drop_eq_nil_of_le (by simp)] at h
    simp only [tx]
    rw [if_neg (by rw [H3.out]; decide), if_neg (by rw [H3.out]; decide), ← h]
    rfl⟩
   have hos : o.size ≤ 5000 * 60 := by have := HO.out.2; have := HJ.out; omega
   have hz1 : (⟨#[91]⟩ : ByteArray).size = 1 := rfl
   have hz3 : (⟨#[93]⟩ : ByteArray).size = 1 := rfl
   have hg1 : ¬ ((⟨#[91]⟩ : ByteArray).size + o.size > 9223372036854775807) := by rw [hz1]; omega
   have hg2 : ¬ ((⟨#[91]⟩ ++ o : ByteArray).size + (⟨#[93]⟩ : ByteArray).size > 9223372036854775807) := by rw [ByteArray.size_append, hz1, hz3]; omega
   clear hos hz1 hz3
   go_wp2_with fail
   go_ret
   exact ⟨by rw [HFI.out]; rfl, HB.out⟩
set_option maxRecDepth 100000 in
set_option maxHeartbeats 1600000 in
theorem ztext_map (d : Nat) (ih : ∀ (x : S25) (hx : Fit d x) (w : World) (F : Nat → Prop) (b : Nat) (hy : YN w F b (toY d x)), Calls Tryz.prog 163 #[ptr b] w fun e w' => e = .returned (.string (tx d x)) ∧ Below w.heap.size w w')
  (x : S25) (hx : Fit (d + 1) x) (h2 : x.f0 = 2) (w : World) (F : Nat → Prop) (b : Nat) (hy : YN w F b (toY (d + 1) x)) :
  Calls Tryz.prog 163 #[ptr b] w fun e w' => e = .returned (.string (tx (d + 1) x)) ∧ Below w.heap.size w w' := by
 have hmp := hx.1.mp h2
 rw [toY_two h2] at hy
 obtain ⟨A, g, c, bs, hn, hA, hlb, hcell, hks, hvs⟩ := map_open (by simpa using hmp.len) hy
 have hwk : ∀ k ∈ x.f3, k.size ≤ 20 := by
  rcases hx.1 with ⟨h1, _⟩ | ⟨_, _, _, _, ⟨_, _, hk, _⟩ | ⟨h3, _⟩⟩
  ·omega
  ·exact fun k hk' => (hk k hk').le
  ·omega
 have c0 := hn.kind
 have c6 := hn.content
 have hlen := hx.len
 have hbl : bs.length ≤ 120 := by omega
 have HA := Aside0.mk (And.intro hA (And.intro hlb (And.intro hcell (And.intro hks (And.intro hvs hwk)))))
 have IH := Aside0.mk ih
 have HX := Aside0.mk (And.intro hx (And.intro hmp h2))
 have HC6 := Aside0.mk c6
 clear hn hA hlb hcell hks hvs hwk ih hx hmp hy h2 hlen
 go_enter Tryz.func163, Tryz.ntmps163
 go_wp2_with fail
 go_loopg [4, 3] x.f3.length (fun k i s wr => ∃ (j : Nat) (o : ByteArray), i = .int .i64 ((2 * j : Nat) : Int) ∧ s = .string o ∧ Aside0 (j ≤ x.f3.length ∧ k + j = x.f3.length) ∧ Aside0 (Below w.heap.size w wr) ∧ Aside0 (txM (x.f3.drop j) ((x.f4.map (tx d)).drop j) o = txM x.f3 (x.f4.map (tx d)) ⟨#[]⟩ ∧ o.size ≤ 5000 * j))
 case atStart => exact ⟨0, _, rfl, rfl, ⟨by omega⟩, ⟨Below.refl _ _⟩, ⟨rfl, by show 0 ≤ _; omega⟩⟩
 case round =>
  obtain ⟨j, o, rfl, rfl, HJ, HB, HO⟩ := hrel
  obtain ⟨m, hm⟩ : ∃ m, m = 2 * j := ⟨_, rfl⟩
  rw [← hm]
  have c6' := (HB.out.cell (World.block_lt_of_cell? w _ c6)).trans c6
  by_cases hj : j < x.f3.length
  ·have hj4 : j < x.f4.length := by have := HX.out.2.1.len; omega
   have hmb : m + 1 < bs.length := by have := HA.out.2.1; omega
   obtain ⟨F1, _, hyk⟩ := HA.out.2.2.2.1 j hj
   obtain ⟨F2, _, hyv⟩ := HA.out.2.2.2.2.1 j (by simpa using hj4)
   have hck := HA.out.2.2.1 m (by omega)
   have hcv := HA.out.2.2.1 (m + 1) hmb
   obtain ⟨kb, hkb⟩ : ∃ kb, kb = bs[m] := ⟨_, rfl⟩
   obtain ⟨vb, hvb⟩ : ∃ vb, vb = bs[m + 1] := ⟨_, rfl⟩
   rw [← hkb] at hck
   rw [← hvb] at hcv
   have e1 : bs.getD (2 * j) 0 = kb := by rw [← hm, hkb, List.getD_eq_getElem?_getD, List.getElem?_eq_getElem (by omega)]; rfl
   have e2 : bs.getD (2 * j + 1) 0 = vb := by rw [← hm, hvb, List.getD_eq_getElem?_getD, List.getElem?_eq_getElem hmb]; rfl
   rw [e1] at hyk
   rw [e2] at hyv
   obtain ⟨kk, hkk⟩ : ∃ kk, kk = x.f3[j] := ⟨_, rfl⟩
   obtain ⟨xx, hxx⟩ : ∃ xx, xx = x.f4[j] := ⟨_, rfl⟩
   have hyv' : YN w F2 vb (toY d xx) := by rw [hxx]; simpa using hyv
   rw [← hkk] at hyk
   have hdr : txM (x.f3.drop j) ((x.f4.map (tx d)).drop j) o = txM (x.f3.drop (j + 1)) ((x.f4.map (tx d)).drop (j + 1)) (o ++ (((kk ++ ⟨#[58, 32]⟩) ++ tx d xx) ++ ⟨#[44, 32]⟩)) := by
    rw [List.drop_eq_getElem_cons hj, List.drop_eq_getElem_cons (l := x.f4.map (tx d)) (by simpa using hj4), List.getElem_map, ← hkk, ← hxx]
    rfl
   have hfx : Fit d xx := by rw [hxx]; exact HX.out.1.item (List.getElem_mem _)
   have hks : kk.size ≤ 20 := by rw [hkk]; exact HA.out.2.2.2.2.2 _ (List.getElem_mem _)
   obtain rfl := HA.out.1 (by omega)
   obtain ⟨tt, htt⟩ : ∃ tt, tt = tx d xx := ⟨_, rfl⟩
   rw [← htt] at hdr
   have hts : tt.size ≤ 4000 := by rw [htt]; exact hfx.tx
   have hos : o.size ≤ 5000 * 60 := by have := HO.out.2; have := HJ.out; have := HX.out.1.len; omega
   have hz1 : (⟨#[58, 32]⟩ : ByteArray).size = 2 := rfl
   have hz2 : (⟨#[44, 32]⟩ : ByteArray).size = 2 := rfl
   have hs1 : (kk ++ ⟨#[58, 32]⟩).size = kk.size + 2 := by rw [ByteArray.size_append, hz1]
   have hs2 : (kk ++ ⟨#[58, 32]⟩ ++ tt).size = kk.size + 2 + tt.size := by rw [ByteArray.size_append, hs1]
   have hs3 : (kk ++ ⟨#[58, 32]⟩ ++ tt ++ ⟨#[44, 32]⟩).size = kk.size + 2 + tt.size + 2 := by rw [ByteArray.size_append, hs2, hz2]
   have hg1 : ¬ (9223372036854775807 < kk.size + 2) := by omega
   have hg2 : ¬ (9223372036854775807 < kk.size + 2 + tt.size) := by omega
   have hg3 : ¬ (9223372036854775807 < kk.size + 2 + tt.size + 2) := by omega
   have hg4 : ¬ (9223372036854775807 < o.size + (kk.size + 2 + tt.size + 2)) := by omega
   have HT := Aside0.mk (And.intro htt (And.intro (show (o ++ (kk ++ ⟨#[58, 32]⟩ ++ tt ++ ⟨#[44, 32]⟩)).size ≤ 5000 * (j + 1) from by rw [ByteArray.size_append, hs3]; have := HO.out.2; omega) (And.intro hdr hfx)))
   have HY := Aside0.mk (And.intro hyk hyv')
   have HCK := Aside0.mk (And.intro hck hcv)
   have hmm : (m : Int) + 1 < (bs.length : Int) := by omega
   have hmm2 : bs.length ≤ 120 := hbl
   have HMJ := Aside0.mk hm
   have hw1 : wrap64 ((m : Int) + 1) = (m : Int) + 1 := by unfold wrap64; omega
   have hml : m < bs.length := by omega
   have hm0 : (0 : Int) ≤ (m : Int) + 1 := by omega
   clear hm hck hcv hkb hvb e1 e2 hyk hyv hyv' hkk hxx hfx hks htt hts hos hz1 hz2 hs1 hs2 hs3 hdr
   go_wp2_with fail
   have HS11 : Aside0 (∀ w', Below w.heap.size w w' → w'.cell? ⟨b, 6, none⟩ = some (.slice (some ⟨g, 0, none⟩) bs.length c) ∧ w'.cell? ⟨g, m, none⟩ = some (ptr kb) ∧ w'.cell? ⟨g, m + 1, none⟩ = some (ptr vb)) := ⟨fun w' hc => by
    have old : ∀ {a : Addr} {v : Value}, w.cell? a = some v → w'.cell? a = some v := fun {a v} h => (hc.cell (World.block_lt_of_cell? w a h)).trans h
    exact ⟨old HC6.out, old HCK.out.1, old HCK.out.2⟩⟩
   refine start_ (n := 23) (S := fun w' => w'.cell? ⟨b, 6, none⟩ = some (.slice (some ⟨g, 0, none⟩) bs.length c) ∧ w'.cell? ⟨g, m, none⟩ = some (ptr kb) ∧ w'.cell? ⟨g, m + 1, none⟩ = some (ptr vb)) (ds := [18]) #[false, false, false, false, false, false, false, false, false, false, false, false, false, false, false, false, false, false, false, false, false, false, false] (by kernel_rfl) rfl rfl (HS11.out _ HB.out.drew) (fun hHeld => ?_)
   refine with_tabW (T := ztm11.T) (B := ztm11.B) ztm11.tab ztm11.bits (fun HT_ HW_ => ?_)
   have HBW := Aside0.mk HB.out.drew
   generalize wr.drew = wc at HBW hHeld ⊢
   refine ps_ 0 31 HT_ ?_
   refine ps_ 1 32 HT_ ?_
   refine ps_ 2 33 HT_ ?_
   refine ps_ 3 34 HT_ ?_
   refine ps_ 5 36 HT_ ?_
   refine ps_ 10 41 HT_ ?_
   refine ps_ 11 42 HT_ ?_
   refine ps_ 12 43 HT_ ?_
   refine ps_ 14 45 HT_ ?_
   refine ps_ 15 46 HT_ ?_
   refine ts_ 4 35 HT_ HW_ hHeld ?_
   refine ps_ 6 37 HT_ ?_
   refine ts_ 7 38 HT_ HW_ hHeld ?_
   refine ts_ 13 44 HT_ HW_ hHeld ?_
   refine ps_ 16 47 HT_ ?_
   refine ts_ 17 48 HT_ HW_ hHeld ?_
   refine one_ (i := 8) (N := (some 39)) #[true, true, true, true, true, true, true, true, true, false, true, true, true, true, true, true, true, true, false, false, false, false, false] rfl rfl (one_of HT_.out (by kernel_rfl)) (by decide) (fun K hK => ?_)
   refine goes_ Tryz.func163 (by kernel_rfl) rfl #[ptr kb] (by rfl) rfl rfl (by simp only [List.map_toArray, List.map_cons, List.map_nil]; rfl) ?_
   obtain ⟨_, cvk, _, hnk, _⟩ := (HY.out.1.below HBW.out).open_
   refine (ztext_leaf wc kb _ kk cvk hnk).mono ?_
   rintro e w8 ⟨rfl, rfl⟩
   refine ⟨_, rfl, ?_⟩
   refine hK.out _ _ hHeld (fun hHeld => ?_)
   clear hK K
   refine ns_ ?_
   refine ps_ 9 40 HT_ ?_
   refine last_ (i := 18) (N := (some 49)) #[true, true, true, true, true, true, true, true, true, true, true, true, true, true, true, true, true, true, true, false, false, false, false] rfl rfl (one_of HT_.out (by kernel_rfl)) (by decide) (fun K hK => ?_)
   refine goes_ Tryz.func163 (by kernel_rfl) rfl #[ptr vb] (by rfl) rfl rfl (by simp only [List.map_toArray, List.map_cons, List.map_nil]; rfl) ?_
   refine (IH.out xx HT.out.2.2.2 wc F2 vb (HY.out.2.below HBW.out)).mono ?_
   rintro e w8 ⟨rfl, hb8⟩
   rw [← HT.out.1]
   refine ⟨_, rfl, ?_⟩
   refine hK.out _ _ ?_
   have HB8 := Aside0.mk (HBW.out.trans (hb8.mono HBW.out.size))
   clear hb8 HBW hHeld
   clear hK K
   refine ns_ ?_
   refine ps_ 19 50 HT_ ?_
   refine ps_ 20 51 HT_ ?_
   refine ps_ 21 52 HT_ ?_
   refine ps_ 22 3 HT_ ?_
   refine done_ (done_of HT_.out (by kernel_rfl)) ?_
   go_wp2_with fail
   go_roundg (gk - 1)
   case measure => have := HJ.out; omega
   case rel => exact ⟨j + 1, _, by rw [HMJ.out]; go_num, rfl, ⟨by have := HJ.out; omega⟩, HB8, ⟨by rw [← HO.out.1, HT.out.2.2.1], HT.out.2.1⟩⟩
  ·have hje : j = x.f3.length := by have := HJ.out; omega
   have HFI : Aside0 (tx (d + 1) x = (⟨#[123]⟩ ++ o) ++ ⟨#[125]⟩) := ⟨by
    have h := HO.out.1
    rw [hje, List.drop_eq_nil_of_le (Nat.le_refl _)] at h
    simp only [tx]
    rw [if_neg (by rw [HX.out.2.2]; decide), if_pos HX.out.2.2, ← h]
    rfl⟩
   have hos : o.size ≤ 5000 * 60 := by have := HO.out.2; have := HJ.out; have := HX.out.1.len; omega
   have hz1 : (⟨#[123]⟩ : ByteArray).size = 1 := rfl
   have hz3 : (⟨#[125]⟩ : ByteArray).size = 1 := rfl
   have hg1 : ¬ ((⟨#[123]⟩ : ByteArray).size + o.size > 9223372036854775807) := by rw [hz1]; omega
   have hg2 : ¬ ((⟨#[123]⟩ ++ o : ByteArray).size + (⟨#[125]⟩ : ByteArray).size > 9223372036854775807) := by rw [ByteArray.size_append, hz1, hz3]; omega
   have hmm : ¬ ((m : Int) + 1 < (bs.length : Int)) := by have := HA.out.2.1; omega
   have hw1 : wrap64 ((m : Int) + 1) = (m : Int) + 1 := by have := HA.out.2.1; unfold wrap64; omega
   clear hos hz1 hz3 hm hje
   go_wp2_with fail
   go_ret
   exact ⟨by rw [HFI.out]; rfl, HB.out⟩
theorem ztext_calls (d : Nat) : ∀ (x : S25) (hx : Fit d x) (w : World) (F : Nat → Prop) (b : Nat) (hy : YN w F b (toY d x)), Calls Tryz.prog 163 #[ptr b] w fun e w' => e = .returned (.string (tx d x)) ∧ Below w.heap.size w w' := by
 induction d with
 | zero => intro x hx; exact hx.1.elim
 |succ d ih =>
  intro x hx w F b hy
  by_cases h1 : x.f0 = 1
  ·rw [toY_one h1] at hy
   obtain ⟨_, cv, _, hn, _⟩ := hy.open_
   refine (ztext_leaf w b _ _ cv hn).mono ?_
   rintro e w' ⟨rfl, rfl⟩
   exact ⟨by simp only [tx]; rw [if_pos h1]; rfl, Below.refl _ _⟩
  ·by_cases h2 : x.f0 = 2
   ·exact ztext_map d ih x hx h2 w F b hy
   ·have h3 : x.f0 = 3 := by
     rcases hx.1 with ⟨q, _⟩ | ⟨_, _, _, _, ⟨q, _⟩ | ⟨q, _⟩⟩
     ·exact absurd q h1
     ·exact absurd q h2
     ·exact q
    exact ztext_list d ih x hx h3 w F b hy
end Go.Proofs.YtkpdkoafngjflaaGreat
namespace Go.Proofs.YtkpdkoafngjflaaGreat
open Go.RowKit Go.Proofs.YtkpdkoafngjflaaGreatW.PrintWords
set_option linter.unusedVariables false
structure TN (w : World) (r b : Nat) (t : ByteArray) : Prop where
 rn : RN w r b
 nb : ∃ k g x cv, NB w b k g x cv ∧ Live k g
 text : ∀ w', Below w.heap.size w w' → Calls Tryz.prog 163 #[ptr b] w' fun e w2 => e = .returned (.string t) ∧ Below w'.heap.size w' w2
theorem TN.below {w w' : World} {r b : Nat} {t : ByteArray} (h : TN w r b t) (hb : Below w.heap.size w w') : TN w' r b t :=
 ⟨h.rn.below hb, by obtain ⟨k, g, x, cv, hn, hl⟩ := h.nb; exact ⟨k, g, x, cv, hn.below hb, hl⟩, fun w2 h2 => h.text w2 (hb.trans (h2.mono hb.size))⟩
theorem TN.ynode {w : World} {r b : Nat} {t : ByteArray} (h : TN w r b t) : Calls Tryz.prog 37 #[ptr r] w fun e w' => e = .returned (ptr b) ∧ w = w' := by
 obtain ⟨k, g, x, cv, hn, hl⟩ := h.nb
 exact ynode_calls w r b h.rn k g x cv hn hl
theorem Src.below {w w' : World} {s : Nat} {v0 v1 v2 : Value} (h : Src w s v0 v1 v2) (hb : Below w.heap.size w w') : Src w' s v0 v1 v2 :=
 ⟨(hb.cell (World.block_lt_of_cell? w _ h.c0)).trans h.c0, (hb.cell (World.block_lt_of_cell? w _ h.c1)).trans h.c1, (hb.cell (World.block_lt_of_cell? w _ h.c2)).trans h.c2⟩
set_option maxHeartbeats 800000 in
theorem strvals_calls (w : World) (s c : Nat) (rd ro ru bd bo bu : Nat) (td to_ tu : ByteArray) (h : Src w s (ptr rd) (ptr ro) (ptr ru)) (hd : TN w rd bd td) (ho : TN w ro bo to_) (hu_ : TN w ru bu tu) :
  Calls Tryz.prog 155 #[.agg #[], srcV s c] w fun e w' => e = .returned (.tuple #[.agg #[.string to_, .string tu, .string td], .nilIface]) ∧ Below w.heap.size w w' := by
 have HB : Aside0 (∀ o o2 : Obj, Below w.heap.size w ((w.alloc o).alloc o2)) := ⟨fun o o2 => ((Below.refl _ _).alloc (Nat.le_refl _) o).alloc (by simp) o2⟩
 have HH := Aside0.mk (And.intro h (And.intro hd (And.intro ho hu_)))
 clear h hd ho hu_
 go_enter Tryz.func155, Tryz.ntmps155
 go_wp2_with fail
 obtain ⟨w0, e0⟩ : ∃ w0, w0 = (w.alloc (.cells #[] 53)).alloc (.cells #[.string ⟨#[]⟩, .string ⟨#[]⟩, .string ⟨#[]⟩] 214) := ⟨_, rfl⟩
 rw [← e0]
 have hb0 : Below w.heap.size w w0 := by rw [e0]; exact HB.out _ _
 have hc0 : w0.heap[w.heap.size + 1]? = some (.cells #[.string ⟨#[]⟩, .string ⟨#[]⟩, .string ⟨#[]⟩] 214 (0, 0)) := by rw [e0]; exact heap_at _ (by simp)
 have HS0 := Aside0.mk (HH.out.1.below hb0)
 have HT0 := Aside0.mk (And.intro (HH.out.2.1.below hb0) (And.intro (HH.out.2.2.1.below hb0) (HH.out.2.2.2.below hb0)))
 have HB0 := Aside0.mk hb0
 have HC0 := Aside0.mk hc0
 clear hb0 hc0 e0 HB HH
 go_wp2_with (first | (go_at_call 158; refine (updated_calls _ s c _ _ _ HS0.out).mono ?_; rintro e w' ⟨rfl, rfl⟩) | (go_at_call 37; refine (HT0.out.2.2.ynode).mono ?_; rintro e w' ⟨rfl, rfl⟩))
 refine (HT0.out.2.2.text _ (Below.refl _ _)).mono ?_
 rintro e w1 ⟨rfl, hb⟩
 have HS1 := Aside0.mk (HS0.out.below hb)
 have HT1 := Aside0.mk (And.intro (HT0.out.1.below hb) (And.intro (HT0.out.2.1.below hb) (HT0.out.2.2.below hb)))
 have HB1 := Aside0.mk (HB0.out.trans (hb.mono HB0.out.size))
 have HC1 := Aside0.mk ((hb.block _ (lt_of_block HC0.out)).trans HC0.out)
 clear hb
 go_wp2_with (first | (go_at_call 162; refine (origin_calls _ s c _ _ _ HS1.out).mono ?_; rintro e w' ⟨rfl, rfl⟩) | (go_at_call 37; refine (HT1.out.2.1.ynode).mono ?_; rintro e w' ⟨rfl, rfl⟩))
 refine (HT1.out.2.1.text _ (Below.refl _ _)).mono ?_
 rintro e w2 ⟨rfl, hb⟩
 have HS2 := Aside0.mk (HS1.out.below hb)
 have HT2 := Aside0.mk (And.intro (HT1.out.1.below hb) (And.intro (HT1.out.2.1.below hb) (HT1.out.2.2.below hb)))
 have HB2 := Aside0.mk (HB1.out.trans (hb.mono HB1.out.size))
 have HC2 := Aside0.mk ((hb.block _ (lt_of_block HC1.out)).trans HC1.out)
 clear hb
 go_wp2_with (first | (go_at_call 160; refine (dest_calls _ s c _ _ _ HS2.out).mono ?_; rintro e w' ⟨rfl, rfl⟩) | (go_at_call 37; refine (HT2.out.1.ynode).mono ?_; rintro e w' ⟨rfl, rfl⟩))
 refine (HT2.out.1.text _ (Below.refl _ _)).mono ?_
 rintro e w3 ⟨rfl, hb⟩
 have HS3 := Aside0.mk (HS2.out.below hb)
 have HT3 := Aside0.mk (And.intro (HT2.out.1.below hb) (And.intro (HT2.out.2.1.below hb) (HT2.out.2.2.below hb)))
 have HB3 := Aside0.mk (HB2.out.trans (hb.mono HB2.out.size))
 have HC3 := Aside0.mk ((hb.block _ (lt_of_block HC2.out)).trans HC2.out)
 clear hb
 have d0 := (cell_of_block (i := 0) HC3.out).trans (show _ = some _ from rfl)
 have d1 := (cell_of_block (i := 1) HC3.out).trans (show _ = some _ from rfl)
 have d2 := (cell_of_block (i := 2) HC3.out).trans (show _ = some _ from rfl)
 have z0 : w3.frozen? ⟨w.heap.size + 1, 0, none⟩ = false := frozen_of_block HC3.out
 have z1 : w3.frozen? ⟨w.heap.size + 1, 1, none⟩ = false := frozen_of_block HC3.out
 have z2 : w3.frozen? ⟨w.heap.size + 1, 2, none⟩ = false := frozen_of_block HC3.out
 go_wp2_with fail
 obtain ⟨w4, e4⟩ : ∃ w4, w4 = ((w3.setCell ⟨w.heap.size + 1, 0, none⟩ (.string to_)).setCell ⟨w.heap.size + 1, 1, none⟩ (.string tu)).setCell ⟨w.heap.size + 1, 2, none⟩ (.string td) := ⟨_, rfl⟩
 rw [← e4]
 have h4 : w4.heap[w.heap.size + 1]? = some (.cells #[.string to_, .string tu, .string td] 214 (0, 0)) := by
  rw [e4]
  exact heap_set (a := ⟨w.heap.size + 1, 2, none⟩) (heap_set (a := ⟨w.heap.size + 1, 1, none⟩) (heap_set (a := ⟨w.heap.size + 1, 0, none⟩) HC3.out rfl) rfl) rfl
 have hb4 : Below w.heap.size w w4 := by
  rw [e4]
  exact ((((Chg.of_below (S := fun k => k = w.heap.size + 1) HB3.out).setCell (p := ⟨w.heap.size + 1, 0, none⟩) (.inl rfl) _).setCell (p := ⟨w.heap.size + 1, 1, none⟩) (.inl rfl) _).setCell (p := ⟨w.heap.size + 1, 2, none⟩) (.inl rfl) _).below (Nat.le_refl _) (fun k e => by omega)
 have f0 : w4.cell? ⟨w.heap.size + 1, 0, none⟩ = some (.string to_) := by rw [cell_of_block h4]; rfl
 have f1 : w4.cell? ⟨w.heap.size + 1, 1, none⟩ = some (.string tu) := by rw [cell_of_block h4]; rfl
 have f2 : w4.cell? ⟨w.heap.size + 1, 2, none⟩ = some (.string td) := by rw [cell_of_block h4]; rfl
 refine bodyPost_ret (v := .tuple #[.agg #[.string to_, .string tu, .string td], .nilIface]) (by simp [results, Tryz.results155, go_sem, f0, f1, f2]) rfl ⟨rfl, hb4⟩
end Go.Proofs.YtkpdkoafngjflaaGreat
