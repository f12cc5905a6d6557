/-
  No cell of these rows narrows 'for every input' (looked for: loops, veiled, ifaces, maps, wideKeys, modest, calm, conditions, laid).
  DERIVED. THE GIVEN ROWS OF THIS SEAT. 3 by the template 'for every input the law returns true; each argument reads behind the call as it read before'; 0 by the template 'total and deterministic' (their statements: YtjmggahedcbjkaaTotals.lean).
  GIVEN WITH THE SEED: the statements are not yours to turn. If you find one false, say at which input.
  Laid BY PROGRAM, IN A SANDBOX (cutbox-rows.mjs): the forced cells as the released guide's own fill.sh prints them over the translation 37aaf4cf6575ccda… (all of the seat's roots in one cut). By AI agents, Wed Nov 11 2026. No macro, syntax, notation, axiom, sorry.
-/
import Derived.Test.YtjmggahedcbjkaaChecked
import GoSem.Claim
import GoSem.ClaimJoined
import GoSem.ClaimMapViews
import Derived.JoinedTies
import Derived.KernelRfl
namespace Go.Proofs.Ytjmggahedcbjkaa
/- THE CELL 'sum', in the pinned program and in every row, IS THE sha256 OF THE DUMP (.gsa) THAT YtjmggahedcbjkaaProg.lean LOADS. Nothing in Lean hashes anything: it is a label: what it is worth is what the hold of that sum in a sandbox is worth. -/
noncomputable def Try.pinned : Pinned := { name := "ytjmggahedcbjkaa", sum := "37aaf4cf6575ccdae929fc8bf970723155b50f6d4680109933d0acd34f8ab9da", checked := Try.checked }
namespace Rows
def none {H : Type} : Left H := { results := [], args := [] }

/-- 'laws.FnExactSizes': WHATEVER THE INPUT: true; the input reads as it did. -/
def fnExactSizesSpec : ChangeSpec := { name := "fnExactSizes", fn := fun _ => fun
  | [d] => { results := [.lit (.bool true)], args := [d] }
  | _ => none }
def fnExactSizesRow : OpenClaim := { program := "ytjmggahedcbjkaa", sum := "37aaf4cf6575ccdae929fc8bf970723155b50f6d4680109933d0acd34f8ab9da", func := "loop.example/pub-keysofnoise/laws.FnExactSizes", spec := "fnExactSizes", apart := false }
def FnExactSizesSaid : Prop := fnExactSizesRow.holds Try.pinned (OpenSpec.ofChange fnExactSizesSpec)

/-- ITS FALSE NEIGHBOUR: 'it returns false'. Refute it at one input. -/
def fnExactSizesWrong : ChangeSpec := { name := "fnExactSizes", fn := fun _ => fun
  | [d] => { results := [.lit (.bool false)], args := [d] }
  | _ => none }
def FnExactSizesWrongFalsely : Prop := fnExactSizesRow.holds Try.pinned (OpenSpec.ofChange fnExactSizesWrong)

/-- 'laws.FnExactPublic': WHATEVER THE INPUT: true; the input reads as it did. -/
def fnExactPublicSpec : ChangeSpec := { name := "fnExactPublic", fn := fun _ => fun
  | [d] => { results := [.lit (.bool true)], args := [d] }
  | _ => none }
def fnExactPublicRow : OpenClaim := { program := "ytjmggahedcbjkaa", sum := "37aaf4cf6575ccdae929fc8bf970723155b50f6d4680109933d0acd34f8ab9da", func := "loop.example/pub-keysofnoise/laws.FnExactPublic", spec := "fnExactPublic", apart := false }
def FnExactPublicSaid : Prop := fnExactPublicRow.holds Try.pinned (OpenSpec.ofChange fnExactPublicSpec)

/-- ITS FALSE NEIGHBOUR: 'it returns false'. Refute it at one input. -/
def fnExactPublicWrong : ChangeSpec := { name := "fnExactPublic", fn := fun _ => fun
  | [d] => { results := [.lit (.bool false)], args := [d] }
  | _ => none }
def FnExactPublicWrongFalsely : Prop := fnExactPublicRow.holds Try.pinned (OpenSpec.ofChange fnExactPublicWrong)

/-- 'laws.FnExactSame': WHATEVER THE INPUT: true; the input reads as it did. -/
def fnExactSameSpec : ChangeSpec := { name := "fnExactSame", fn := fun _ => fun
  | [d1, d2, d3] => { results := [.lit (.bool true)], args := [d1, d2, d3] }
  | _ => none }
def fnExactSameRow : OpenClaim := { program := "ytjmggahedcbjkaa", sum := "37aaf4cf6575ccdae929fc8bf970723155b50f6d4680109933d0acd34f8ab9da", func := "loop.example/pub-keysofnoise/laws.FnExactSame", spec := "fnExactSame", apart := false }
def FnExactSameSaid : Prop := fnExactSameRow.holds Try.pinned (OpenSpec.ofChange fnExactSameSpec)

/-- ITS FALSE NEIGHBOUR: 'it returns false'. Refute it at one input. -/
def fnExactSameWrong : ChangeSpec := { name := "fnExactSame", fn := fun _ => fun
  | [d1, d2, d3] => { results := [.lit (.bool false)], args := [d1, d2, d3] }
  | _ => none }
def FnExactSameWrongFalsely : Prop := fnExactSameRow.holds Try.pinned (OpenSpec.ofChange fnExactSameWrong)

/- THE SECOND FORM. 'bulk': how many values and letters a reading holds, each counted each time it is reached (what is shared counts as often as it is met; a slice's spare places count too). A statement '..UptoSaid' is the law's where the arguments, and the package variables that the reading takes, are together of bulk at most 1048576: NARROWER than '..Said'. Prove '..Said' where nothing that the law and all that it calls make is longer than what came in: it says more and counts as full. Else prove '..UptoSaid'. A law counts once. -/
mutual
def uptoBulk {H : Type} : DataW H → Nat
  | .lit (.string bytes) => bytes.length + 1
  | .lit _ => 1
  | .nil => 1
  | .ptr d => uptoBulk d + 1
  | .slice elems spare => uptoBulkAll elems + uptoBulkAll spare + 1
  | .agg parts => uptoBulkAll parts + 1
  | .iface _ d => uptoBulk d + 1
  | .map entries => uptoBulkEntries entries + 1
  | .held _ => 1
def uptoBulkAll {H : Type} : List (DataW H) → Nat
  | [] => 0
  | d :: r => uptoBulk d + uptoBulkAll r
def uptoBulkEntries {H : Type} : List (Lit × DataW H) → Nat
  | [] => 0
  | x :: r => uptoBulkEntry x + uptoBulkEntries r
def uptoBulkEntry {H : Type} : Lit × DataW H → Nat
  | (.string bytes, d) => bytes.length + uptoBulk d + 1
  | (_, d) => uptoBulk d + 1
 end
def uptoSmall : (H : Type) → List (DataW H) → Bool := fun _ ds => decide (uptoBulkAll ds ≤ 1048576)
def OpenSpec.upto (s : _root_.Go.ChangeSpec) : _root_.Go.OpenSpec := { _root_.Go.OpenSpec.ofChange s with cond := some uptoSmall }

/-- 'laws.FnExactSizes', WHERE WHAT IT READS IS OF BULK AT MOST 1048576: true; the input reads as it did. -/
def fnExactSizesUptoRow : OpenClaim := { program := "ytjmggahedcbjkaa", sum := "37aaf4cf6575ccdae929fc8bf970723155b50f6d4680109933d0acd34f8ab9da", func := "loop.example/pub-keysofnoise/laws.FnExactSizes", spec := "fnExactSizes", apart := false, narrowed := true }
def FnExactSizesUptoSaid : Prop := fnExactSizesUptoRow.holds Try.pinned (OpenSpec.upto fnExactSizesSpec)

/-- 'laws.FnExactPublic', WHERE WHAT IT READS IS OF BULK AT MOST 1048576: true; the input reads as it did. -/
def fnExactPublicUptoRow : OpenClaim := { program := "ytjmggahedcbjkaa", sum := "37aaf4cf6575ccdae929fc8bf970723155b50f6d4680109933d0acd34f8ab9da", func := "loop.example/pub-keysofnoise/laws.FnExactPublic", spec := "fnExactPublic", apart := false, narrowed := true }
def FnExactPublicUptoSaid : Prop := fnExactPublicUptoRow.holds Try.pinned (OpenSpec.upto fnExactPublicSpec)

/-- 'laws.FnExactSame', WHERE WHAT IT READS IS OF BULK AT MOST 1048576: true; the input reads as it did. -/
def fnExactSameUptoRow : OpenClaim := { program := "ytjmggahedcbjkaa", sum := "37aaf4cf6575ccdae929fc8bf970723155b50f6d4680109933d0acd34f8ab9da", func := "loop.example/pub-keysofnoise/laws.FnExactSame", spec := "fnExactSame", apart := false, narrowed := true }
def FnExactSameUptoSaid : Prop := fnExactSameUptoRow.holds Try.pinned (OpenSpec.upto fnExactSameSpec)

end Rows
end Go.Proofs.Ytjmggahedcbjkaa
