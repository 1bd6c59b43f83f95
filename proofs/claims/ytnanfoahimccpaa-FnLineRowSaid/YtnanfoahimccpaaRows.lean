/-
  No cell of these rows narrows 'for every input' (looked for: loops, veiled, ifaces, maps, wideKeys, modest, calm, conditions, laid).
  DERIVED. THE GIVEN ROWS OF THIS SEAT. 4 by the template 'for every input the law returns true; each argument reads behind the call as it read before'; 0 by the template 'total and deterministic' (their statements: YtnanfoahimccpaaTotals.lean).
  GIVEN WITH THE SEED: the statements are not yours to turn. If you find one false, say at which input.
  Laid BY PROGRAM, IN A SANDBOX (cutbox-rows.mjs): the forced cells as the released guide's own fill.sh prints them over the translation 94019e11cf70deec… (all of the seat's roots in one cut). By AI agents, Wed Nov 11 2026. No macro, syntax, notation, axiom, sorry.
-/
import Derived.Test.YtnanfoahimccpaaChecked
import GoSem.Claim
import GoSem.ClaimJoined
import GoSem.ClaimMapViews
import Derived.JoinedTies
import Derived.KernelRfl
namespace Go.Proofs.Ytnanfoahimccpaa
/- THE CELL 'sum', in the pinned program and in every row, IS THE sha256 OF THE DUMP (.gsa) THAT YtnanfoahimccpaaProg.lean LOADS. Nothing in Lean hashes anything: it is a label: what it is worth is what the hold of that sum in a sandbox is worth. -/
noncomputable def Try.pinned : Pinned := { name := "ytnanfoahimccpaa", sum := "94019e11cf70deecb367c89d018940c2008c2a007147bf1d87023f6864addb50", checked := Try.checked }
namespace Rows
def none {H : Type} : Left H := { results := [], args := [] }

/-- 'laws.FnGraphemeRow': WHATEVER THE INPUT: true; the input reads as it did. -/
def fnGraphemeRowSpec : ChangeSpec := { name := "fnGraphemeRow", fn := fun _ => fun
  | [d] => { results := [.lit (.bool true)], args := [d] }
  | _ => none }
def fnGraphemeRowRow : OpenClaim := { program := "ytnanfoahimccpaa", sum := "94019e11cf70deecb367c89d018940c2008c2a007147bf1d87023f6864addb50", func := "given.example/pub-hemistich/laws.FnGraphemeRow", spec := "fnGraphemeRow", unfollowed := true, recurses := true, apart := false }
def FnGraphemeRowSaid : Prop := fnGraphemeRowRow.holds Try.pinned (OpenSpec.ofChange fnGraphemeRowSpec)

/-- ITS FALSE NEIGHBOUR: 'it returns false'. Refute it at one input. -/
def fnGraphemeRowWrong : ChangeSpec := { name := "fnGraphemeRow", fn := fun _ => fun
  | [d] => { results := [.lit (.bool false)], args := [d] }
  | _ => none }
def FnGraphemeRowWrongFalsely : Prop := fnGraphemeRowRow.holds Try.pinned (OpenSpec.ofChange fnGraphemeRowWrong)

/-- 'laws.FnWordRow': WHATEVER THE INPUT: true; the input reads as it did. -/
def fnWordRowSpec : ChangeSpec := { name := "fnWordRow", fn := fun _ => fun
  | [d] => { results := [.lit (.bool true)], args := [d] }
  | _ => none }
def fnWordRowRow : OpenClaim := { program := "ytnanfoahimccpaa", sum := "94019e11cf70deecb367c89d018940c2008c2a007147bf1d87023f6864addb50", func := "given.example/pub-hemistich/laws.FnWordRow", spec := "fnWordRow", unfollowed := true, recurses := true, apart := false }
def FnWordRowSaid : Prop := fnWordRowRow.holds Try.pinned (OpenSpec.ofChange fnWordRowSpec)

/-- ITS FALSE NEIGHBOUR: 'it returns false'. Refute it at one input. -/
def fnWordRowWrong : ChangeSpec := { name := "fnWordRow", fn := fun _ => fun
  | [d] => { results := [.lit (.bool false)], args := [d] }
  | _ => none }
def FnWordRowWrongFalsely : Prop := fnWordRowRow.holds Try.pinned (OpenSpec.ofChange fnWordRowWrong)

/-- 'laws.FnSentenceRow': WHATEVER THE INPUT: true; the input reads as it did. -/
def fnSentenceRowSpec : ChangeSpec := { name := "fnSentenceRow", fn := fun _ => fun
  | [d] => { results := [.lit (.bool true)], args := [d] }
  | _ => none }
def fnSentenceRowRow : OpenClaim := { program := "ytnanfoahimccpaa", sum := "94019e11cf70deecb367c89d018940c2008c2a007147bf1d87023f6864addb50", func := "given.example/pub-hemistich/laws.FnSentenceRow", spec := "fnSentenceRow", unfollowed := true, recurses := true, apart := false }
def FnSentenceRowSaid : Prop := fnSentenceRowRow.holds Try.pinned (OpenSpec.ofChange fnSentenceRowSpec)

/-- ITS FALSE NEIGHBOUR: 'it returns false'. Refute it at one input. -/
def fnSentenceRowWrong : ChangeSpec := { name := "fnSentenceRow", fn := fun _ => fun
  | [d] => { results := [.lit (.bool false)], args := [d] }
  | _ => none }
def FnSentenceRowWrongFalsely : Prop := fnSentenceRowRow.holds Try.pinned (OpenSpec.ofChange fnSentenceRowWrong)

/-- 'laws.FnLineRow': WHATEVER THE INPUT: true; the input reads as it did. -/
def fnLineRowSpec : ChangeSpec := { name := "fnLineRow", fn := fun _ => fun
  | [d] => { results := [.lit (.bool true)], args := [d] }
  | _ => none }
def fnLineRowRow : OpenClaim := { program := "ytnanfoahimccpaa", sum := "94019e11cf70deecb367c89d018940c2008c2a007147bf1d87023f6864addb50", func := "given.example/pub-hemistich/laws.FnLineRow", spec := "fnLineRow", unfollowed := true, recurses := true, apart := false }
def FnLineRowSaid : Prop := fnLineRowRow.holds Try.pinned (OpenSpec.ofChange fnLineRowSpec)

/-- ITS FALSE NEIGHBOUR: 'it returns false'. Refute it at one input. -/
def fnLineRowWrong : ChangeSpec := { name := "fnLineRow", fn := fun _ => fun
  | [d] => { results := [.lit (.bool false)], args := [d] }
  | _ => none }
def FnLineRowWrongFalsely : Prop := fnLineRowRow.holds Try.pinned (OpenSpec.ofChange fnLineRowWrong)

/- THE SECOND FORM. 'bulk': how many values and letters a reading holds, each counted each time it is reached (what is shared counts as often as it is met; a slice's spare places count too). A statement '..UptoSaid' is the law's where the arguments, and the package variables that the reading takes, are together of bulk at most 1048576: NARROWER than '..Said'. Prove '..Said' where nothing that the law and all that it calls make is longer than what came in: it says more and counts as full. Else prove '..UptoSaid'. A law counts once. -/
mutual
def uptoBulk {H : Type} : DataW H → Nat
  | .lit (.string bytes) => bytes.length + 1
  | .lit _ => 1
  | .nil => 1
  | .ptr d => uptoBulk d + 1
  | .slice elems spare => uptoBulkAll elems + uptoBulkAll spare + 1
  | .agg parts => uptoBulkAll parts + 1
  | .iface _ d => uptoBulk d + 1
  | .map entries => uptoBulkEntries entries + 1
  | .held _ => 1
def uptoBulkAll {H : Type} : List (DataW H) → Nat
  | [] => 0
  | d :: r => uptoBulk d + uptoBulkAll r
def uptoBulkEntries {H : Type} : List (Lit × DataW H) → Nat
  | [] => 0
  | x :: r => uptoBulkEntry x + uptoBulkEntries r
def uptoBulkEntry {H : Type} : Lit × DataW H → Nat
  | (.string bytes, d) => bytes.length + uptoBulk d + 1
  | (_, d) => uptoBulk d + 1
 end
def uptoSmall : (H : Type) → List (DataW H) → Bool := fun _ ds => decide (uptoBulkAll ds ≤ 1048576)
def OpenSpec.upto (s : _root_.Go.ChangeSpec) : _root_.Go.OpenSpec := { _root_.Go.OpenSpec.ofChange s with cond := some uptoSmall }

/-- 'laws.FnGraphemeRow', WHERE WHAT IT READS IS OF BULK AT MOST 1048576: true; the input reads as it did. -/
def fnGraphemeRowUptoRow : OpenClaim := { program := "ytnanfoahimccpaa", sum := "94019e11cf70deecb367c89d018940c2008c2a007147bf1d87023f6864addb50", func := "given.example/pub-hemistich/laws.FnGraphemeRow", spec := "fnGraphemeRow", unfollowed := true, recurses := true, apart := false, narrowed := true }
def FnGraphemeRowUptoSaid : Prop := fnGraphemeRowUptoRow.holds Try.pinned (OpenSpec.upto fnGraphemeRowSpec)

/-- 'laws.FnWordRow', WHERE WHAT IT READS IS OF BULK AT MOST 1048576: true; the input reads as it did. -/
def fnWordRowUptoRow : OpenClaim := { program := "ytnanfoahimccpaa", sum := "94019e11cf70deecb367c89d018940c2008c2a007147bf1d87023f6864addb50", func := "given.example/pub-hemistich/laws.FnWordRow", spec := "fnWordRow", unfollowed := true, recurses := true, apart := false, narrowed := true }
def FnWordRowUptoSaid : Prop := fnWordRowUptoRow.holds Try.pinned (OpenSpec.upto fnWordRowSpec)

/-- 'laws.FnSentenceRow', WHERE WHAT IT READS IS OF BULK AT MOST 1048576: true; the input reads as it did. -/
def fnSentenceRowUptoRow : OpenClaim := { program := "ytnanfoahimccpaa", sum := "94019e11cf70deecb367c89d018940c2008c2a007147bf1d87023f6864addb50", func := "given.example/pub-hemistich/laws.FnSentenceRow", spec := "fnSentenceRow", unfollowed := true, recurses := true, apart := false, narrowed := true }
def FnSentenceRowUptoSaid : Prop := fnSentenceRowUptoRow.holds Try.pinned (OpenSpec.upto fnSentenceRowSpec)

/-- 'laws.FnLineRow', WHERE WHAT IT READS IS OF BULK AT MOST 1048576: true; the input reads as it did. -/
def fnLineRowUptoRow : OpenClaim := { program := "ytnanfoahimccpaa", sum := "94019e11cf70deecb367c89d018940c2008c2a007147bf1d87023f6864addb50", func := "given.example/pub-hemistich/laws.FnLineRow", spec := "fnLineRow", unfollowed := true, recurses := true, apart := false, narrowed := true }
def FnLineRowUptoSaid : Prop := fnLineRowUptoRow.holds Try.pinned (OpenSpec.upto fnLineRowSpec)

end Rows
end Go.Proofs.Ytnanfoahimccpaa
