/-
  No cell of these rows narrows 'for every input' (looked for: loops, veiled, ifaces, maps, wideKeys, modest, calm, conditions, laid).
  DERIVED. THE GIVEN ROWS OF THIS SEAT. 5 by the template 'for every input the law returns true; each argument reads behind the call as it read before'; 0 by the template 'total and deterministic' (their statements: YtniognaflkiefaaTotals.lean).
  GIVEN WITH THE SEED: the statements are not yours to turn. If you find one false, say at which input.
  Laid BY PROGRAM, IN A SANDBOX (cutbox-rows.mjs): the forced cells as the released guide's own fill.sh prints them over the translation ebf5e358736f7e01… (all of the seat's roots in one cut). By AI agents, Wed Nov 11 2026. No macro, syntax, notation, axiom, sorry.
-/
import Derived.Test.YtniognaflkiefaaChecked
import GoSem.Claim
import GoSem.ClaimJoined
import GoSem.ClaimMapViews
import Derived.JoinedTies
import Derived.KernelRfl
namespace Go.Proofs.Ytniognaflkiefaa
/- THE CELL 'sum', in the pinned program and in every row, IS THE sha256 OF THE DUMP (.gsa) THAT YtniognaflkiefaaProg.lean LOADS. Nothing in Lean hashes anything: it is a label: what it is worth is what the hold of that sum in a sandbox is worth. -/
noncomputable def Try.pinned : Pinned := { name := "ytniognaflkiefaa", sum := "ebf5e358736f7e01561ee5972eaef55103c294e1dc60b94cf5f348f77c7aedd4", checked := Try.checked }
namespace Rows
def none {H : Type} : Left H := { results := [], args := [] }

/-- 'heraldlaw02.PintPuts': WHATEVER THE INPUT: true; the input reads as it did. -/
def pintPutsSpec : ChangeSpec := { name := "pintPuts", fn := fun _ => fun
  | [d1, d2, d3] => { results := [.lit (.bool true)], args := [d1, d2, d3] }
  | _ => none }
def pintPutsRow : OpenClaim := { program := "ytniognaflkiefaa", sum := "ebf5e358736f7e01561ee5972eaef55103c294e1dc60b94cf5f348f77c7aedd4", func := "herald/heraldlaw02.PintPuts", spec := "pintPuts", apart := false }
def PintPutsSaid : Prop := pintPutsRow.holds Try.pinned (OpenSpec.ofChange pintPutsSpec)

/-- ITS FALSE NEIGHBOUR: 'it returns false'. Refute it at one input. -/
def pintPutsWrong : ChangeSpec := { name := "pintPuts", fn := fun _ => fun
  | [d1, d2, d3] => { results := [.lit (.bool false)], args := [d1, d2, d3] }
  | _ => none }
def PintPutsWrongFalsely : Prop := pintPutsRow.holds Try.pinned (OpenSpec.ofChange pintPutsWrong)

/-- 'heraldlaw02.PintTakes': WHATEVER THE INPUT: true; the input reads as it did. -/
def pintTakesSpec : ChangeSpec := { name := "pintTakes", fn := fun _ => fun
  | [d1, d2] => { results := [.lit (.bool true)], args := [d1, d2] }
  | _ => none }
def pintTakesRow : OpenClaim := { program := "ytniognaflkiefaa", sum := "ebf5e358736f7e01561ee5972eaef55103c294e1dc60b94cf5f348f77c7aedd4", func := "herald/heraldlaw02.PintTakes", spec := "pintTakes", apart := false }
def PintTakesSaid : Prop := pintTakesRow.holds Try.pinned (OpenSpec.ofChange pintTakesSpec)

/-- ITS FALSE NEIGHBOUR: 'it returns false'. Refute it at one input. -/
def pintTakesWrong : ChangeSpec := { name := "pintTakes", fn := fun _ => fun
  | [d1, d2] => { results := [.lit (.bool false)], args := [d1, d2] }
  | _ => none }
def PintTakesWrongFalsely : Prop := pintTakesRow.holds Try.pinned (OpenSpec.ofChange pintTakesWrong)

/-- 'heraldlaw02.PintBack': WHATEVER THE INPUT: true; the input reads as it did. -/
def pintBackSpec : ChangeSpec := { name := "pintBack", fn := fun _ => fun
  | [d1, d2, d3, d4] => { results := [.lit (.bool true)], args := [d1, d2, d3, d4] }
  | _ => none }
def pintBackRow : OpenClaim := { program := "ytniognaflkiefaa", sum := "ebf5e358736f7e01561ee5972eaef55103c294e1dc60b94cf5f348f77c7aedd4", func := "herald/heraldlaw02.PintBack", spec := "pintBack", apart := false }
def PintBackSaid : Prop := pintBackRow.holds Try.pinned (OpenSpec.ofChange pintBackSpec)

/-- ITS FALSE NEIGHBOUR: 'it returns false'. Refute it at one input. -/
def pintBackWrong : ChangeSpec := { name := "pintBack", fn := fun _ => fun
  | [d1, d2, d3, d4] => { results := [.lit (.bool false)], args := [d1, d2, d3, d4] }
  | _ => none }
def PintBackWrongFalsely : Prop := pintBackRow.holds Try.pinned (OpenSpec.ofChange pintBackWrong)

/-- 'heraldlaw02.PintSays': WHATEVER THE INPUT: true; the input reads as it did. -/
def pintSaysSpec : ChangeSpec := { name := "pintSays", fn := fun _ => fun
  | [d1, d2] => { results := [.lit (.bool true)], args := [d1, d2] }
  | _ => none }
def pintSaysRow : OpenClaim := { program := "ytniognaflkiefaa", sum := "ebf5e358736f7e01561ee5972eaef55103c294e1dc60b94cf5f348f77c7aedd4", func := "herald/heraldlaw02.PintSays", spec := "pintSays", apart := false }
def PintSaysSaid : Prop := pintSaysRow.holds Try.pinned (OpenSpec.ofChange pintSaysSpec)

/-- ITS FALSE NEIGHBOUR: 'it returns false'. Refute it at one input. -/
def pintSaysWrong : ChangeSpec := { name := "pintSays", fn := fun _ => fun
  | [d1, d2] => { results := [.lit (.bool false)], args := [d1, d2] }
  | _ => none }
def PintSaysWrongFalsely : Prop := pintSaysRow.holds Try.pinned (OpenSpec.ofChange pintSaysWrong)

/-- 'heraldlaw02.PintLeast': WHATEVER THE INPUT: true; the input reads as it did. -/
def pintLeastSpec : ChangeSpec := { name := "pintLeast", fn := fun _ => fun
  | [d1, d2] => { results := [.lit (.bool true)], args := [d1, d2] }
  | _ => none }
def pintLeastRow : OpenClaim := { program := "ytniognaflkiefaa", sum := "ebf5e358736f7e01561ee5972eaef55103c294e1dc60b94cf5f348f77c7aedd4", func := "herald/heraldlaw02.PintLeast", spec := "pintLeast", apart := false }
def PintLeastSaid : Prop := pintLeastRow.holds Try.pinned (OpenSpec.ofChange pintLeastSpec)

/-- ITS FALSE NEIGHBOUR: 'it returns false'. Refute it at one input. -/
def pintLeastWrong : ChangeSpec := { name := "pintLeast", fn := fun _ => fun
  | [d1, d2] => { results := [.lit (.bool false)], args := [d1, d2] }
  | _ => none }
def PintLeastWrongFalsely : Prop := pintLeastRow.holds Try.pinned (OpenSpec.ofChange pintLeastWrong)

/- THE SECOND FORM. 'bulk': how many values and letters a reading holds, each counted each time it is reached (what is shared counts as often as it is met; a slice's spare places count too). A statement '..UptoSaid' is the law's where the arguments, and the package variables that the reading takes, are together of bulk at most 1048576: NARROWER than '..Said'. Prove '..Said' where nothing that the law and all that it calls make is longer than what came in: it says more and counts as full. Else prove '..UptoSaid'. A law counts once. -/
mutual
def uptoBulk {H : Type} : DataW H → Nat
  | .lit (.string bytes) => bytes.length + 1
  | .lit _ => 1
  | .nil => 1
  | .ptr d => uptoBulk d + 1
  | .slice elems spare => uptoBulkAll elems + uptoBulkAll spare + 1
  | .agg parts => uptoBulkAll parts + 1
  | .iface _ d => uptoBulk d + 1
  | .map entries => uptoBulkEntries entries + 1
  | .held _ => 1
def uptoBulkAll {H : Type} : List (DataW H) → Nat
  | [] => 0
  | d :: r => uptoBulk d + uptoBulkAll r
def uptoBulkEntries {H : Type} : List (Lit × DataW H) → Nat
  | [] => 0
  | x :: r => uptoBulkEntry x + uptoBulkEntries r
def uptoBulkEntry {H : Type} : Lit × DataW H → Nat
  | (.string bytes, d) => bytes.length + uptoBulk d + 1
  | (_, d) => uptoBulk d + 1
 end
def uptoSmall : (H : Type) → List (DataW H) → Bool := fun _ ds => decide (uptoBulkAll ds ≤ 1048576)
def OpenSpec.upto (s : _root_.Go.ChangeSpec) : _root_.Go.OpenSpec := { _root_.Go.OpenSpec.ofChange s with cond := some uptoSmall }

/-- 'heraldlaw02.PintPuts', WHERE WHAT IT READS IS OF BULK AT MOST 1048576: true; the input reads as it did. -/
def pintPutsUptoRow : OpenClaim := { program := "ytniognaflkiefaa", sum := "ebf5e358736f7e01561ee5972eaef55103c294e1dc60b94cf5f348f77c7aedd4", func := "herald/heraldlaw02.PintPuts", spec := "pintPuts", apart := false, narrowed := true }
def PintPutsUptoSaid : Prop := pintPutsUptoRow.holds Try.pinned (OpenSpec.upto pintPutsSpec)

/-- 'heraldlaw02.PintTakes', WHERE WHAT IT READS IS OF BULK AT MOST 1048576: true; the input reads as it did. -/
def pintTakesUptoRow : OpenClaim := { program := "ytniognaflkiefaa", sum := "ebf5e358736f7e01561ee5972eaef55103c294e1dc60b94cf5f348f77c7aedd4", func := "herald/heraldlaw02.PintTakes", spec := "pintTakes", apart := false, narrowed := true }
def PintTakesUptoSaid : Prop := pintTakesUptoRow.holds Try.pinned (OpenSpec.upto pintTakesSpec)

/-- 'heraldlaw02.PintBack', WHERE WHAT IT READS IS OF BULK AT MOST 1048576: true; the input reads as it did. -/
def pintBackUptoRow : OpenClaim := { program := "ytniognaflkiefaa", sum := "ebf5e358736f7e01561ee5972eaef55103c294e1dc60b94cf5f348f77c7aedd4", func := "herald/heraldlaw02.PintBack", spec := "pintBack", apart := false, narrowed := true }
def PintBackUptoSaid : Prop := pintBackUptoRow.holds Try.pinned (OpenSpec.upto pintBackSpec)

/-- 'heraldlaw02.PintSays', WHERE WHAT IT READS IS OF BULK AT MOST 1048576: true; the input reads as it did. -/
def pintSaysUptoRow : OpenClaim := { program := "ytniognaflkiefaa", sum := "ebf5e358736f7e01561ee5972eaef55103c294e1dc60b94cf5f348f77c7aedd4", func := "herald/heraldlaw02.PintSays", spec := "pintSays", apart := false, narrowed := true }
def PintSaysUptoSaid : Prop := pintSaysUptoRow.holds Try.pinned (OpenSpec.upto pintSaysSpec)

/-- 'heraldlaw02.PintLeast', WHERE WHAT IT READS IS OF BULK AT MOST 1048576: true; the input reads as it did. -/
def pintLeastUptoRow : OpenClaim := { program := "ytniognaflkiefaa", sum := "ebf5e358736f7e01561ee5972eaef55103c294e1dc60b94cf5f348f77c7aedd4", func := "herald/heraldlaw02.PintLeast", spec := "pintLeast", apart := false, narrowed := true }
def PintLeastUptoSaid : Prop := pintLeastUptoRow.holds Try.pinned (OpenSpec.upto pintLeastSpec)

end Rows
end Go.Proofs.Ytniognaflkiefaa
