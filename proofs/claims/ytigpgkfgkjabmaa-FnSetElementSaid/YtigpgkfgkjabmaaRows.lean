/-
  NARROWER THAN 'FOR EVERY INPUT', by the rows' own cells (each row's printed sentence says how): FnUnknown: loops · FnFields: loops · FnNames: loops · FnClear: loops · FnSet: loops · FnAppend: loops · FnSetElement: loops.
  DERIVED. THE GIVEN ROWS OF THIS SEAT. 7 by the template 'for every input the law returns true; each argument reads behind the call as it read before'; 0 by the template 'total and deterministic' (their statements: YtigpgkfgkjabmaaTotals.lean).
  GIVEN WITH THE SEED: the statements are not yours to turn. If you find one false, say at which input.
  Laid BY PROGRAM, IN A SANDBOX (cutbox-rows.mjs): the forced cells as the released guide's own fill.sh prints them over the translation 78f0ba761cd25b91… (all of the seat's roots in one cut). By AI agents, Wed Nov 11 2026. No macro, syntax, notation, axiom, sorry.
-/
import Derived.Test.YtigpgkfgkjabmaaChecked
import GoSem.Claim
import GoSem.ClaimJoined
import GoSem.ClaimMapViews
import Derived.JoinedTies
import Derived.KernelRfl
namespace Go.Proofs.Ytigpgkfgkjabmaa
/- THE CELL 'sum', in the pinned program and in every row, IS THE sha256 OF THE DUMP (.gsa) THAT YtigpgkfgkjabmaaProg.lean LOADS. Nothing in Lean hashes anything: it is a label: what it is worth is what the hold of that sum in a sandbox is worth. -/
noncomputable def Try.pinned : Pinned := { name := "ytigpgkfgkjabmaa", sum := "78f0ba761cd25b91fd0dc2fd0e07135ea10a99b632588c00a402527fb2785746", checked := Try.checked }
namespace Rows
def none {H : Type} : Left H := { results := [], args := [] }

/-- 'laws.FnUnknown': WHATEVER THE INPUT: true; the input reads as it did. -/
def fnUnknownSpec : ChangeSpec := { name := "fnUnknown", fn := fun _ => fun
  | [d] => { results := [.lit (.bool true)], args := [d] }
  | _ => none }
def fnUnknownRow : OpenClaim := { program := "ytigpgkfgkjabmaa", sum := "78f0ba761cd25b91fd0dc2fd0e07135ea10a99b632588c00a402527fb2785746", func := "loop.example/pub-g03068/laws.FnUnknown", spec := "fnUnknown", unfollowed := true, recurses := true, loops := true, apart := false }
def FnUnknownSaid : Prop := fnUnknownRow.holds Try.pinned (OpenSpec.ofChange fnUnknownSpec)

/-- ITS FALSE NEIGHBOUR: 'it returns false'. Refute it at one input. -/
def fnUnknownWrong : ChangeSpec := { name := "fnUnknown", fn := fun _ => fun
  | [d] => { results := [.lit (.bool false)], args := [d] }
  | _ => none }
def FnUnknownWrongFalsely : Prop := fnUnknownRow.holds Try.pinned (OpenSpec.ofChange fnUnknownWrong)

/-- 'laws.FnFields': WHATEVER THE INPUT: true; the input reads as it did. -/
def fnFieldsSpec : ChangeSpec := { name := "fnFields", fn := fun _ => fun
  | [d1, d2] => { results := [.lit (.bool true)], args := [d1, d2] }
  | _ => none }
def fnFieldsRow : OpenClaim := { program := "ytigpgkfgkjabmaa", sum := "78f0ba761cd25b91fd0dc2fd0e07135ea10a99b632588c00a402527fb2785746", func := "loop.example/pub-g03068/laws.FnFields", spec := "fnFields", unfollowed := true, recurses := true, loops := true, apart := false }
def FnFieldsSaid : Prop := fnFieldsRow.holds Try.pinned (OpenSpec.ofChange fnFieldsSpec)

/-- ITS FALSE NEIGHBOUR: 'it returns false'. Refute it at one input. -/
def fnFieldsWrong : ChangeSpec := { name := "fnFields", fn := fun _ => fun
  | [d1, d2] => { results := [.lit (.bool false)], args := [d1, d2] }
  | _ => none }
def FnFieldsWrongFalsely : Prop := fnFieldsRow.holds Try.pinned (OpenSpec.ofChange fnFieldsWrong)

/-- 'laws.FnNames': WHATEVER THE INPUT: true; the input reads as it did. -/
def fnNamesSpec : ChangeSpec := { name := "fnNames", fn := fun _ => fun
  | [d] => { results := [.lit (.bool true)], args := [d] }
  | _ => none }
def fnNamesRow : OpenClaim := { program := "ytigpgkfgkjabmaa", sum := "78f0ba761cd25b91fd0dc2fd0e07135ea10a99b632588c00a402527fb2785746", func := "loop.example/pub-g03068/laws.FnNames", spec := "fnNames", unfollowed := true, recurses := true, loops := true, apart := false }
def FnNamesSaid : Prop := fnNamesRow.holds Try.pinned (OpenSpec.ofChange fnNamesSpec)

/-- ITS FALSE NEIGHBOUR: 'it returns false'. Refute it at one input. -/
def fnNamesWrong : ChangeSpec := { name := "fnNames", fn := fun _ => fun
  | [d] => { results := [.lit (.bool false)], args := [d] }
  | _ => none }
def FnNamesWrongFalsely : Prop := fnNamesRow.holds Try.pinned (OpenSpec.ofChange fnNamesWrong)

/-- 'laws.FnClear': WHATEVER THE INPUT: true; the input reads as it did. -/
def fnClearSpec : ChangeSpec := { name := "fnClear", fn := fun _ => fun
  | [d1, d2] => { results := [.lit (.bool true)], args := [d1, d2] }
  | _ => none }
def fnClearRow : OpenClaim := { program := "ytigpgkfgkjabmaa", sum := "78f0ba761cd25b91fd0dc2fd0e07135ea10a99b632588c00a402527fb2785746", func := "loop.example/pub-g03068/laws.FnClear", spec := "fnClear", unfollowed := true, recurses := true, loops := true, apart := false }
def FnClearSaid : Prop := fnClearRow.holds Try.pinned (OpenSpec.ofChange fnClearSpec)

/-- ITS FALSE NEIGHBOUR: 'it returns false'. Refute it at one input. -/
def fnClearWrong : ChangeSpec := { name := "fnClear", fn := fun _ => fun
  | [d1, d2] => { results := [.lit (.bool false)], args := [d1, d2] }
  | _ => none }
def FnClearWrongFalsely : Prop := fnClearRow.holds Try.pinned (OpenSpec.ofChange fnClearWrong)

/-- 'laws.FnSet': WHATEVER THE INPUT: true; the input reads as it did. -/
def fnSetSpec : ChangeSpec := { name := "fnSet", fn := fun _ => fun
  | [d1, d2, d3] => { results := [.lit (.bool true)], args := [d1, d2, d3] }
  | _ => none }
def fnSetRow : OpenClaim := { program := "ytigpgkfgkjabmaa", sum := "78f0ba761cd25b91fd0dc2fd0e07135ea10a99b632588c00a402527fb2785746", func := "loop.example/pub-g03068/laws.FnSet", spec := "fnSet", unfollowed := true, recurses := true, loops := true, apart := false }
def FnSetSaid : Prop := fnSetRow.holds Try.pinned (OpenSpec.ofChange fnSetSpec)

/-- ITS FALSE NEIGHBOUR: 'it returns false'. Refute it at one input. -/
def fnSetWrong : ChangeSpec := { name := "fnSet", fn := fun _ => fun
  | [d1, d2, d3] => { results := [.lit (.bool false)], args := [d1, d2, d3] }
  | _ => none }
def FnSetWrongFalsely : Prop := fnSetRow.holds Try.pinned (OpenSpec.ofChange fnSetWrong)

/-- 'laws.FnAppend': WHATEVER THE INPUT: true; the input reads as it did. -/
def fnAppendSpec : ChangeSpec := { name := "fnAppend", fn := fun _ => fun
  | [d1, d2] => { results := [.lit (.bool true)], args := [d1, d2] }
  | _ => none }
def fnAppendRow : OpenClaim := { program := "ytigpgkfgkjabmaa", sum := "78f0ba761cd25b91fd0dc2fd0e07135ea10a99b632588c00a402527fb2785746", func := "loop.example/pub-g03068/laws.FnAppend", spec := "fnAppend", unfollowed := true, recurses := true, loops := true, apart := false }
def FnAppendSaid : Prop := fnAppendRow.holds Try.pinned (OpenSpec.ofChange fnAppendSpec)

/-- ITS FALSE NEIGHBOUR: 'it returns false'. Refute it at one input. -/
def fnAppendWrong : ChangeSpec := { name := "fnAppend", fn := fun _ => fun
  | [d1, d2] => { results := [.lit (.bool false)], args := [d1, d2] }
  | _ => none }
def FnAppendWrongFalsely : Prop := fnAppendRow.holds Try.pinned (OpenSpec.ofChange fnAppendWrong)

/-- 'laws.FnSetElement': WHATEVER THE INPUT: true; the input reads as it did. -/
def fnSetElementSpec : ChangeSpec := { name := "fnSetElement", fn := fun _ => fun
  | [d1, d2] => { results := [.lit (.bool true)], args := [d1, d2] }
  | _ => none }
def fnSetElementRow : OpenClaim := { program := "ytigpgkfgkjabmaa", sum := "78f0ba761cd25b91fd0dc2fd0e07135ea10a99b632588c00a402527fb2785746", func := "loop.example/pub-g03068/laws.FnSetElement", spec := "fnSetElement", unfollowed := true, recurses := true, loops := true, apart := false }
def FnSetElementSaid : Prop := fnSetElementRow.holds Try.pinned (OpenSpec.ofChange fnSetElementSpec)

/-- ITS FALSE NEIGHBOUR: 'it returns false'. Refute it at one input. -/
def fnSetElementWrong : ChangeSpec := { name := "fnSetElement", fn := fun _ => fun
  | [d1, d2] => { results := [.lit (.bool false)], args := [d1, d2] }
  | _ => none }
def FnSetElementWrongFalsely : Prop := fnSetElementRow.holds Try.pinned (OpenSpec.ofChange fnSetElementWrong)

/- THE SECOND FORM. 'bulk': how many values and letters a reading holds, each counted each time it is reached (what is shared counts as often as it is met; a slice's spare places count too). A statement '..UptoSaid' is the law's where the arguments, and the package variables that the reading takes, are together of bulk at most 1048576: NARROWER than '..Said'. Prove '..Said' where nothing that the law and all that it calls make is longer than what came in: it says more and counts as full. Else prove '..UptoSaid'. A law counts once. -/
mutual
def uptoBulk {H : Type} : DataW H → Nat
  | .lit (.string bytes) => bytes.length + 1
  | .lit _ => 1
  | .nil => 1
  | .ptr d => uptoBulk d + 1
  | .slice elems spare => uptoBulkAll elems + uptoBulkAll spare + 1
  | .agg parts => uptoBulkAll parts + 1
  | .iface _ d => uptoBulk d + 1
  | .map entries => uptoBulkEntries entries + 1
  | .held _ => 1
def uptoBulkAll {H : Type} : List (DataW H) → Nat
  | [] => 0
  | d :: r => uptoBulk d + uptoBulkAll r
def uptoBulkEntries {H : Type} : List (Lit × DataW H) → Nat
  | [] => 0
  | x :: r => uptoBulkEntry x + uptoBulkEntries r
def uptoBulkEntry {H : Type} : Lit × DataW H → Nat
  | (.string bytes, d) => bytes.length + uptoBulk d + 1
  | (_, d) => uptoBulk d + 1
 end
def uptoSmall : (H : Type) → List (DataW H) → Bool := fun _ ds => decide (uptoBulkAll ds ≤ 1048576)
def OpenSpec.upto (s : _root_.Go.ChangeSpec) : _root_.Go.OpenSpec := { _root_.Go.OpenSpec.ofChange s with cond := some uptoSmall }

/-- 'laws.FnUnknown', WHERE WHAT IT READS IS OF BULK AT MOST 1048576: true; the input reads as it did. -/
def fnUnknownUptoRow : OpenClaim := { program := "ytigpgkfgkjabmaa", sum := "78f0ba761cd25b91fd0dc2fd0e07135ea10a99b632588c00a402527fb2785746", func := "loop.example/pub-g03068/laws.FnUnknown", spec := "fnUnknown", unfollowed := true, recurses := true, loops := true, apart := false, narrowed := true }
def FnUnknownUptoSaid : Prop := fnUnknownUptoRow.holds Try.pinned (OpenSpec.upto fnUnknownSpec)

/-- 'laws.FnFields', WHERE WHAT IT READS IS OF BULK AT MOST 1048576: true; the input reads as it did. -/
def fnFieldsUptoRow : OpenClaim := { program := "ytigpgkfgkjabmaa", sum := "78f0ba761cd25b91fd0dc2fd0e07135ea10a99b632588c00a402527fb2785746", func := "loop.example/pub-g03068/laws.FnFields", spec := "fnFields", unfollowed := true, recurses := true, loops := true, apart := false, narrowed := true }
def FnFieldsUptoSaid : Prop := fnFieldsUptoRow.holds Try.pinned (OpenSpec.upto fnFieldsSpec)

/-- 'laws.FnNames', WHERE WHAT IT READS IS OF BULK AT MOST 1048576: true; the input reads as it did. -/
def fnNamesUptoRow : OpenClaim := { program := "ytigpgkfgkjabmaa", sum := "78f0ba761cd25b91fd0dc2fd0e07135ea10a99b632588c00a402527fb2785746", func := "loop.example/pub-g03068/laws.FnNames", spec := "fnNames", unfollowed := true, recurses := true, loops := true, apart := false, narrowed := true }
def FnNamesUptoSaid : Prop := fnNamesUptoRow.holds Try.pinned (OpenSpec.upto fnNamesSpec)

/-- 'laws.FnClear', WHERE WHAT IT READS IS OF BULK AT MOST 1048576: true; the input reads as it did. -/
def fnClearUptoRow : OpenClaim := { program := "ytigpgkfgkjabmaa", sum := "78f0ba761cd25b91fd0dc2fd0e07135ea10a99b632588c00a402527fb2785746", func := "loop.example/pub-g03068/laws.FnClear", spec := "fnClear", unfollowed := true, recurses := true, loops := true, apart := false, narrowed := true }
def FnClearUptoSaid : Prop := fnClearUptoRow.holds Try.pinned (OpenSpec.upto fnClearSpec)

/-- 'laws.FnSet', WHERE WHAT IT READS IS OF BULK AT MOST 1048576: true; the input reads as it did. -/
def fnSetUptoRow : OpenClaim := { program := "ytigpgkfgkjabmaa", sum := "78f0ba761cd25b91fd0dc2fd0e07135ea10a99b632588c00a402527fb2785746", func := "loop.example/pub-g03068/laws.FnSet", spec := "fnSet", unfollowed := true, recurses := true, loops := true, apart := false, narrowed := true }
def FnSetUptoSaid : Prop := fnSetUptoRow.holds Try.pinned (OpenSpec.upto fnSetSpec)

/-- 'laws.FnAppend', WHERE WHAT IT READS IS OF BULK AT MOST 1048576: true; the input reads as it did. -/
def fnAppendUptoRow : OpenClaim := { program := "ytigpgkfgkjabmaa", sum := "78f0ba761cd25b91fd0dc2fd0e07135ea10a99b632588c00a402527fb2785746", func := "loop.example/pub-g03068/laws.FnAppend", spec := "fnAppend", unfollowed := true, recurses := true, loops := true, apart := false, narrowed := true }
def FnAppendUptoSaid : Prop := fnAppendUptoRow.holds Try.pinned (OpenSpec.upto fnAppendSpec)

/-- 'laws.FnSetElement', WHERE WHAT IT READS IS OF BULK AT MOST 1048576: true; the input reads as it did. -/
def fnSetElementUptoRow : OpenClaim := { program := "ytigpgkfgkjabmaa", sum := "78f0ba761cd25b91fd0dc2fd0e07135ea10a99b632588c00a402527fb2785746", func := "loop.example/pub-g03068/laws.FnSetElement", spec := "fnSetElement", unfollowed := true, recurses := true, loops := true, apart := false, narrowed := true }
def FnSetElementUptoSaid : Prop := fnSetElementUptoRow.holds Try.pinned (OpenSpec.upto fnSetElementSpec)

end Rows
end Go.Proofs.Ytigpgkfgkjabmaa
