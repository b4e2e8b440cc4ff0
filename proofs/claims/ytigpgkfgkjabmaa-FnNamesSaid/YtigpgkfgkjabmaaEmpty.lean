/-
  IsNilOrEmpty of a scalar.
-/
import Derived.Test.YtigpgkfgkjabmaaRead
namespace Go.Proofs.Ytigpgkfgkjabmaa
open Go.RowKit Go.Proofs.YtigpgkfgkjabmaaW.PrintWords
set_option linter.unusedVariables false
set_option linter.unusedSimpArgs false

/-- A scalar node is not empty. -/
theorem ynull_calls (w : World) (b : Nat) (t v : ByteArray) (cv : Value) (hn : NB w b 8 t v cv) (hl : Live 8 t) :
    Calls Try.prog 96 #[ptr b] w fun e w' => e = .returned (.bool false) ∧ w = w' := by
  have c1 := hn.tag
  have h2 := hl.2
  go_enter Try.func96, Try.ntmps96
  go_wp2
  go_ret
  exact ⟨rfl, rfl⟩
theorem yemptymap_calls (w : World) (b : Nat) (t v : ByteArray) (cv : Value) (hn : NB w b 8 t v cv) :
    Calls Try.prog 97 #[ptr b] w fun e w' => e = .returned (.bool false) ∧ w = w' := by
  have c1 := hn.kind
  go_enter Try.func97, Try.ntmps97
  go_wp2
  go_ret
  exact ⟨rfl, rfl⟩
theorem yemptyseq_calls (w : World) (b : Nat) (t v : ByteArray) (cv : Value) (hn : NB w b 8 t v cv) :
    Calls Try.prog 98 #[ptr b] w fun e w' => e = .returned (.bool false) ∧ w = w' := by
  have c1 := hn.kind
  go_enter Try.func98, Try.ntmps98
  go_wp2
  go_ret
  exact ⟨rfl, rfl⟩
set_option maxHeartbeats 1600000 in
theorem yzero_calls (w : World) (b : Nat) (t v : ByteArray) (cv : Value) (hn : NB w b 8 t v cv) :
    Calls Try.prog 99 #[ptr b] w fun e w' => e = .returned (.bool false) ∧ w = w' := by
  have c1 := hn.kind
  go_enter Try.func99, Try.ntmps99
  go_wp2
  go_ret
  exact ⟨rfl, rfl⟩
theorem yempty_calls (w : World) (b : Nat) (t v : ByteArray) (cv : Value) (hn : NB w b 8 t v cv) (hl : Live 8 t) :
    Calls Try.prog 95 #[ptr b] w fun e w' => e = .returned (.bool false) ∧ w = w' := by
  go_enter Try.func95, Try.ntmps95
  go_wp2_with (first | (go_at_call 96; refine (ynull_calls _ b t v cv hn hl).mono ?_; rintro e w' ⟨rfl, rfl⟩) | (go_at_call 97; refine (yemptymap_calls _ b t v cv hn).mono ?_; rintro e w' ⟨rfl, rfl⟩) | (go_at_call 98; refine (yemptyseq_calls _ b t v cv hn).mono ?_; rintro e w' ⟨rfl, rfl⟩) | (go_at_call 99; refine (yzero_calls _ b t v cv hn).mono ?_; rintro e w' ⟨rfl, rfl⟩))
  go_ret
  exact ⟨rfl, rfl⟩
theorem rempty_calls (w : World) (r b : Nat) (t v : ByteArray) (cv : Value) (hr : RN w r b) (hn : NB w b 8 t v cv) (hl : Live 8 t) :
    Calls Try.prog 90 #[ptr r] w fun e w' => e = .returned (.bool false) ∧ w = w' := by
  go_enter Try.func90, Try.ntmps90
  go_wp2_with (first | (go_at_call 94; refine (isnil_calls _ r b hr 8 t v cv hn hl).mono ?_; rintro e w' ⟨rfl, rfl⟩) | (go_at_call 72; refine (ynode_calls _ r b hr 8 t v cv hn hl).mono ?_; rintro e w' ⟨rfl, rfl⟩) | (go_at_call 95; refine (yempty_calls _ b t v cv hn hl).mono ?_; rintro e w' ⟨rfl, rfl⟩))
  go_ret
  exact ⟨rfl, rfl⟩
theorem mempty_calls (w : World) (m kr r b : Nat) (t v : ByteArray) (cv : Value) (hm : w.heap[m]? = some (.cells #[ptr kr, ptr r] 70 (0, 0))) (hr : RN w r b) (hn : NB w b 8 t v cv) (hl : Live 8 t) :
    Calls Try.prog 73 #[ptr m] w fun e w' => e = .returned (.bool false) ∧ w = w' := by
  have c1 : w.cell? ⟨m, 1, none⟩ = some (ptr r) := by rw [cell_of_block hm]; rfl
  go_enter Try.func73, Try.ntmps73
  go_wp2_with (go_at_call 90; refine (rempty_calls _ r b t v cv hr hn hl).mono ?_; rintro e w' ⟨rfl, rfl⟩)
  go_ret
  exact ⟨rfl, rfl⟩

end Go.Proofs.Ytigpgkfgkjabmaa
