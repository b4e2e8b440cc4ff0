/-
 The row of FnThree: what comes of a map when another one's changes are brought to it; whatever the arguments.
-/
import Derived.Test.YtkpdkoafngjflaaGreatRows
import Derived.Test.YtkpdkoafngjflaaGreatThreeLaw
import Derived.Test.YtkpdkoafngjflaaGreatArgs
import Derived.WalkKit
import Derived.ProofKit
import Derived.OpenShut
import Derived.ShutString
import Derived.ChangeOld
import Derived.Below
import Derived.SizedLaws
namespace Go.Proofs.YtkpdkoafngjflaaGreat.fnThree
open Go.ChangeShapes Go.WideShapes Go.ChangeAt Go.RowKit
open Go.ChangeMaps (open_string shut_string)
open Go.Proofs.YtkpdkoafngjflaaGreatW.PrintWords Go.Proofs.YtkpdkoafngjflaaGreatW.PrintLast Go.Proofs.YtkpdkoafngjflaaGreat.PFnFields
set_option linter.unusedVariables false
theorem own : ownKnob Tryz.prog.godebug = none := by kernel_rfl
theorem laidOut : laidOutB Tryz.prog = true := by kernel_rfl
set_option maxRecDepth 100000 in
theorem lifted (os : Os) (started : os.Started) (H : Type) (enc : TypeId × Value → H) :
  ReturnsInHanded {} Tryz.checked os 3 .any (Rows.fnThreeSpec.pre6 enc Tryz.prog Tryz.f3 Rows.fnThreeRow.domain false) (Rows.fnThreeSpec.post enc Tryz.prog Tryz.f3 false true false false) := by
 refine returnsInHanded_of_change_sized (C := Tryz.checked) own started (by kernel_rfl) Tryz.func3
  (ChangeSpec.witness6 (enc := enc) (C := Tryz.checked) false ⟨#[], #[.agg #[.int .i64 0, .string ByteArray.empty, .string ByteArray.empty, .slice none 0 0, .slice none 0 0], .agg #[.int .i64 0, .string ByteArray.empty, .string ByteArray.empty, .slice none 0 0, .slice none 0 0], .agg #[.int .i64 0, .string ByteArray.empty, .string ByteArray.empty, .slice none 0 0, .slice none 0 0]], []⟩ 8 (by kernel_rfl) (by kernel_rfl) (by kernel_rfl) (by kernel_rfl)) ?_
 intro W base args ds gs before hval0 hW hcnd hsz0 _
 have hval : ∀ (j : Nat) t v, Tryz.f3.params[j]? = some t → args[j]? = some v → Value.okWide Tryz.prog W .any base t v := hval0
 have hW' := hW
 obtain ⟨p, q, hA0, hV, rfl, hfz, hnd⟩ := hW
 have hA : DataW.TrodAll enc Tryz.prog W 0 (fun _ => true) true Tryz.f3.params.toList args.toList ds p := hA0
 rw [Tryz.params3] at hA hval
 obtain ⟨v0, vs0, d0, ds0, p0, q0, hargs, rfl, rfl, h0, r0⟩ := trodAll_cons hA
 obtain ⟨v1, vs1, d1, ds1, p1, q1, rfl, rfl, rfl, h1, r1⟩ := trodAll_cons r0
 obtain ⟨v2, vs2, d2, ds2, p2, q2, rfl, rfl, rfl, h2, r2⟩ := trodAll_cons r1
 obtain ⟨rfl, rfl, rfl⟩ := trodAll_nil r2
 obtain rfl : args = #[v0, v1, v2] := by cases args; simp_all
 obtain ⟨rfl, rfl⟩ := trodVars_none hV
 have k0 := h0
 have lt0 : ∀ x ∈ p0, x.block < W.heap.size := by obtain ⟨m, hm⟩ := k0; exact DataW.trod_lt m _ _ _ hm
 obtain ⟨x0, A0, c0, B0, e0, rfl, K0, Z0⟩ := arg_node_trod (by obtain ⟨cs, h, _⟩ := okWide_struct Tryz.underlying25 (hval 0 25 v0 rfl rfl); exact ⟨cs, h⟩) h0
 have k1 := h1
 have lt1 : ∀ x ∈ p1, x.block < W.heap.size := by obtain ⟨m, hm⟩ := k1; exact DataW.trod_lt m _ _ _ hm
 obtain ⟨x1, A1, c1, B1, e1, rfl, K1, Z1⟩ := arg_node_trod (by obtain ⟨cs, h, _⟩ := okWide_struct Tryz.underlying25 (hval 1 25 v1 rfl rfl); exact ⟨cs, h⟩) h1
 have k2 := h2
 have lt2 : ∀ x ∈ p2, x.block < W.heap.size := by obtain ⟨m, hm⟩ := k2; exact DataW.trod_lt m _ _ _ hm
 obtain ⟨x2, A2, c2, B2, e2, rfl, K2, Z2⟩ := arg_node_trod (by obtain ⟨cs, h, _⟩ := okWide_struct Tryz.underlying25 (hval 2 25 v2 rfl rfl); exact ⟨cs, h⟩) h2
 clear hA0 hval0 hsz0
 refine (three_law W x0 Z0 A0 c0 B0 e0 K0 x1 Z1 A1 c1 B1 e1 K1 x2 Z2 A2 c2 B2 e2 K2).mono fun e W' ⟨he, bel⟩ => ?_
 subst he
 exact ⟨_, rfl, _, _, _, [], _, [], hW', trodAll_mk1 (shut_bool Tryz.underlying4 _), (trodAll_cons_mk (Below.trod laidOut (by kernel_rfl) (of_decide_eq_true (by kernel_rfl)) k0 bel lt0) (trodAll_cons_mk (Below.trod laidOut (by kernel_rfl) (of_decide_eq_true (by kernel_rfl)) k1 bel lt1) (trodAll_cons_mk (Below.trod laidOut (by kernel_rfl) (of_decide_eq_true (by kernel_rfl)) k2 bel lt2) trodAll_mk0))), rfl, bel.frame _, fun h => by cases h⟩
theorem over : Rows.fnThreeRow.holds Tryz.pinned (OpenSpec.ofChange Rows.fnThreeSpec) :=
 OpenClaim.holds_of_wide 3 Tryz.f3 rfl rfl rfl rfl rfl rfl rfl ⟨rfl, rfl, rfl, rfl, rfl⟩ rfl rfl rfl rfl rfl (by kernel_rfl) Tryz.func3 (by kernel_rfl)
  (of_decide_eq_true (by kernel_rfl)) (by unfold Func.isWrapper; first | (rw [if_pos (by decide +kernel)]; kernel_rfl) | (rw [if_neg (by decide +kernel)]; exact ⟨rfl, rfl⟩))
  (fun os started H enc _ => lifted os started H enc)
theorem proved : Rows.FnThreeSaid := over
end Go.Proofs.YtkpdkoafngjflaaGreat.fnThree
namespace Go.Proofs.YtkpdkoafngjflaaGreat
theorem fnThree_holds : Rows.FnThreeSaid := fnThree.proved
#print axioms fnThree_holds
end Go.Proofs.YtkpdkoafngjflaaGreat
