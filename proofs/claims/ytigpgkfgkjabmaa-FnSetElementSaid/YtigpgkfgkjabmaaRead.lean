/-
  What the package's small readers hand back.
-/
import Derived.Test.YtigpgkfgkjabmaaYam
namespace Go.Proofs.Ytigpgkfgkjabmaa
open Go.RowKit Go.Proofs.YtigpgkfgkjabmaaW.PrintWords

/-- No document, not null. -/
def Live (k : Int) (t : ByteArray) : Prop := (k == 1) = false ∧ (t.toList == [33, 33, 110, 117, 108, 108]) = false

theorem ynode_calls (w : World) (r b : Nat) (hr : RN w r b) (k : Int) (t v : ByteArray) (cv : Value) (hn : NB w b k t v cv) (hl : Live k t) :
    Calls Try.prog 72 #[ptr r] w fun e w' => e = .returned (ptr b) ∧ w = w' := by
  have c1 := hr.value
  have c2 := hn.kind
  have h1 := hl.1
  clear hr hn hl
  go_enter Try.func72, Try.ntmps72
  go_wp2
  go_ret
  exact ⟨rfl, rfl⟩

theorem isnil_calls (w : World) (r b : Nat) (hr : RN w r b) (k : Int) (t v : ByteArray) (cv : Value) (hn : NB w b k t v cv) (hl : Live k t) :
    Calls Try.prog 94 #[ptr r] w fun e w' => e = .returned (.bool false) ∧ w = w' := by
  go_enter Try.func94, Try.ntmps94
  go_wp2_with (go_at_call 72; refine (ynode_calls _ r b hr k t v cv hn hl).mono ?_; rintro e w' ⟨rfl, rfl⟩)
  go_ret
  exact ⟨rfl, rfl⟩

theorem isnil_nil (w : World) :
    Calls Try.prog 94 #[.pointer none] w fun e w' => e = .returned (.bool true) ∧ w = w' := by
  go_enter Try.func94, Try.ntmps94
  go_wp2
  go_ret
  exact ⟨rfl, rfl⟩

theorem missing_calls (w : World) (r b : Nat) (hr : RN w r b) (k : Int) (t v : ByteArray) (cv : Value) (hn : NB w b k t v cv) (hl : Live k t) :
    Calls Try.prog 83 #[ptr r] w fun e w' => e = .returned (.bool false) ∧ w = w' := by
  have c1 := hn.tag
  have h2 := hl.2
  go_enter Try.func83, Try.ntmps83
  go_wp2_with (first | (go_at_call 72; refine (ynode_calls _ r b hr k t v cv hn hl).mono ?_; rintro e w' ⟨rfl, rfl⟩) | (go_at_call 94; refine (isnil_calls _ r b hr k t v cv hn hl).mono ?_; rintro e w' ⟨rfl, rfl⟩))
  go_ret
  exact ⟨rfl, rfl⟩

theorem missing_nil (w : World) :
    Calls Try.prog 83 #[.pointer none] w fun e w' => e = .returned (.bool true) ∧ w = w' := by
  go_enter Try.func83, Try.ntmps83
  go_wp2_with (go_at_call 94; refine (isnil_nil _).mono ?_; rintro e w' ⟨rfl, rfl⟩)
  go_ret
  exact ⟨rfl, rfl⟩

theorem content_calls (w : World) (r b : Nat) (hr : RN w r b) (k : Int) (t v : ByteArray) (cv : Value) (hn : NB w b k t v cv) (hl : Live k t) :
    Calls Try.prog 66 #[ptr r] w fun e w' => e = .returned cv ∧ w = w' := by
  have c1 := hn.content
  go_enter Try.func66, Try.ntmps66
  go_wp2_with (go_at_call 72; refine (ynode_calls _ r b hr k t v cv hn hl).mono ?_; rintro e w' ⟨rfl, rfl⟩)
  go_ret
  exact ⟨rfl, rfl⟩

/-- The kind is asked for that it has; a map's content is even. -/
theorem valid_calls (w : World) (r b : Nat) (hr : RN w r b) (k : Int) (t v : ByteArray) (A : Option Addr) (n c : Nat) (hn : NB w b k t v (.slice A n c)) (hl : Live k t) (he : (k == 4) = true → n % 2 = 0) (hm : n ≤ 9223372036854775807) :
    Calls Try.prog 67 #[ptr r, .int .u32 k] w fun e w' => e = .returned .nilIface ∧ w = w' := by
  have c1 := hn.kind
  have c2 := hn.content
  have hk0 : (k != k) = false := by simp
  by_cases h4 : (k == 4) = true
  · have hev := he h4
    have hm1 : ((n : Int).tmod 2) = 0 := by
      rw [Int.tmod_eq_emod_of_nonneg (by omega)]
      omega
    have hm2 : wrap64 ((n : Int).tmod 2) = 0 := by rw [hm1]; unfold wrap64; omega
    clear he
    go_enter Try.func67, Try.ntmps67
    go_wp2_with (first | (go_at_call 72; refine (ynode_calls _ r b hr k t v _ hn hl).mono ?_; rintro e w' ⟨rfl, rfl⟩) | (go_at_call 83; refine (missing_calls _ r b hr k t v _ hn hl).mono ?_; rintro e w' ⟨rfl, rfl⟩))
    go_ret
    exact ⟨rfl, rfl⟩
  · have h4' : (k == 4) = false := by simpa using h4
    clear he h4
    go_enter Try.func67, Try.ntmps67
    go_wp2_with (first | (go_at_call 72; refine (ynode_calls _ r b hr k t v _ hn hl).mono ?_; rintro e w' ⟨rfl, rfl⟩) | (go_at_call 83; refine (missing_calls _ r b hr k t v _ hn hl).mono ?_; rintro e w' ⟨rfl, rfl⟩))
    go_ret
    exact ⟨rfl, rfl⟩

/-- Another kind: an error that is not nil. -/
theorem invalid_calls (w : World) (r b : Nat) (hr : RN w r b) (k q : Int) (t v : ByteArray) (cv : Value) (hn : NB w b k t v cv) (hl : Live k t) (hk : (k != q) = true) :
    Calls Try.prog 67 #[ptr r, .int .u32 q] w fun e w' => ∃ p, e = .returned (.iface 126 (.pointer (some p))) ∧ Below w.heap.size w w' := by
  have c1 := hn.kind
  go_enter Try.func67, Try.ntmps67
  go_wp2_with (first | (go_at_call 72; refine (ynode_calls _ r b hr k t v _ hn hl).mono ?_; rintro e w' ⟨rfl, rfl⟩) | (go_at_call 83; refine (missing_calls _ r b hr k t v _ hn hl).mono ?_; rintro e w' ⟨rfl, rfl⟩))
  go_ret
  exact ⟨_, rfl, (Below.refl _ _).alloc (Nat.le_refl _) _⟩

theorem newrnode_calls (w : World) (b : Nat) :
    Calls Try.prog 63 #[ptr b] w fun e w' => e = .returned (ptr w.heap.size) ∧ w.alloc (.cells (rcells (.slice none 0 0) (ptr b) false (.slice none 0 0)) 124) = w' := by
  go_enter Try.func63, Try.ntmps63
  go_wp2
  go_ret
  exact ⟨rfl, rfl⟩
theorem RN0.new (w : World) (b : Nat) : RN0 (w.alloc (.cells (rcells (.slice none 0 0) (ptr b) false (.slice none 0 0)) 124)) w.heap.size b :=
  ⟨_, _, heap_alloc_new w _⟩
theorem RN.new (w : World) (b : Nat) : RN (w.alloc (.cells (rcells (.slice none 0 0) (ptr b) false (.slice none 0 0)) 124)) w.heap.size b :=
  ⟨_, _, _, heap_alloc_new w _⟩
end Go.Proofs.Ytigpgkfgkjabmaa
