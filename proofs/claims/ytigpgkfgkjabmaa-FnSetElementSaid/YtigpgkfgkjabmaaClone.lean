/-
  slices.Clone of texts; a struct's text; texts without doubles.
-/
import Derived.Test.YtigpgkfgkjabmaaOpen
import Derived.Test.YtigpgkfgkjabmaaCut
import Derived.Lib.SliceRun
namespace Go.Proofs.Ytigpgkfgkjabmaa
open Go.RowKit Go.Proofs.YtigpgkfgkjabmaaW.PrintWords Go.Proofs.YtigpgkfgkjabmaaW.PrintLast Go.Proofs.Ytigpgkfgkjabmaa.PFnFields
set_option linter.unusedVariables false
set_option linter.unusedSimpArgs false

theorem field_text (v0 v2 v3 v4 : Value) (s : ByteArray) (w : World) : (Instr.field 25 (.agg #[v0, .string s, v2, v3, v4]) 1).run Try.prog w = .ok (.string s) w := by
  unfold Instr.field
  have hu := Try.underlying25
  simp [go_sem, run_underlying hu, asAgg]
theorem nodup_get {l : List ByteArray} (h : l.Nodup) {i j : Nat} (hi : i < l.length) (hj : j < l.length) (e : l[i] = l[j]) : i = j := by
  rcases Nat.lt_trichotomy i j with h1 | h1 | h1
  · exact absurd e (List.pairwise_iff_getElem.1 h i j hi hj h1)
  · exact h1
  · exact absurd e.symm (List.pairwise_iff_getElem.1 h j i hj hi h1)
/-- slices.Clone of texts. -/
def ClonePost (w : World) (xs : List ByteArray) (e : Ending) (w' : World) : Prop :=
  Below w.heap.size w w' ∧ ∃ kvv, e = .returned kvv ∧ Kd.string.R 9 w' w.heap.size (fun _ => True) kvv xs
set_option maxRecDepth 100000 in
theorem clone_calls (w : World) (A : Option Addr) (c : Nat) (xs : List ByteArray) (hC : Kd.string.C w A xs.length xs) (hl : xs.length ≤ 1000) :
    Calls Try.prog 41 #[.slice A xs.length c] w (ClonePost w xs) := by
  have HC := Aside0.mk hC
  have hsn : ∀ (w : World) (a : Option Addr) (n c : Nat), (binOp .eql 22 (.slice a n c) (.slice none 0 0)).run Try.prog w = .ok (.bool a.isNone) w := fun w a n c => Lib.run_eql_slice_nil w _ _ a n c 0 0 Try.underlying22
  clear hC
  rcases A with _ | ad
  · have h0 : xs = [] := by
      rcases Nat.eq_zero_or_pos xs.length with h | h
      · exact List.eq_nil_of_length_eq_zero h
      · obtain ⟨ad, h, _⟩ := HC.out.2.2 h
        cases h
    subst h0
    go_enter Try.func41, Try.ntmps41
    go_wp2
    go_ret
    exact ⟨Below.refl _ _, _, rfl, Kd.R_nil _ _ _ _ _⟩
  · go_enter Try.func41, Try.ntmps41
    go_wp2_with ((with_reducible refine gate_builtin (b := .append) (xs := #[.tmp 5, .tmp 6]) rfl ?_); at_builtin; refine Kd.R_append_rows Kd.string (Rr := Kd.string.K w) (w0 := w) w.heap.size rfl (.tmp 5) (.tmp 6) 22 9 (.string ⟨#[]⟩) 16 rfl Try.underlying22 Try.infoStr rfl (by decide) (by decide) _ [] xs (some ad) xs.length c (fun _ => True) (fun _ => False) rfl rfl ?aO ?aR (fun _ _ h => h) (fun _ h => h.elim) (fun _ _ => trivial) ?aB (by simp) (by simp; omega) ?_; (case aO => exact R_empty Kd.string (heap_at _ rfl) (Nat.le_refl _) trivial); (case aR => exact Kd.C_below HC.out ((Below.refl _ _).alloc (Nat.le_refl _) _)); (case aB => exact (Below.refl _ _).alloc (Nat.le_refl _) _); intro v1 w1 hr1 hb1 _ _; have HR1 := Aside0.mk hr1; have HB1 := Aside0.mk hb1; clear hr1 hb1)
    go_ret
    exact ⟨HB1.out, _, rfl, HR1.out⟩
end Go.Proofs.Ytigpgkfgkjabmaa
