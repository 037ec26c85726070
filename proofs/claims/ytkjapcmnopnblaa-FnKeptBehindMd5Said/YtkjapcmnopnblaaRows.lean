/-
  No cell of these rows narrows 'for every input' (looked for: loops, veiled, ifaces, maps, wideKeys, modest, calm, conditions, laid).
  DERIVED. THE GIVEN ROWS OF THIS SEAT. 12 by the template 'for every input the law returns true; each argument reads behind the call as it read before'; 0 by the template 'total and deterministic' (their statements: YtkjapcmnopnblaaTotals.lean).
  GIVEN WITH THE SEED: the statements are not yours to turn. If you find one false, say at which input.
  Laid BY PROGRAM, IN A SANDBOX (cutbox-rows.mjs): the forced cells as the released guide's own fill.sh prints them over the translation ba2bac667383351a… (all of the seat's roots in one cut). By AI agents, Wed Nov 11 2026. No macro, syntax, notation, axiom, sorry.
-/
import Derived.Test.YtkjapcmnopnblaaChecked
import GoSem.Claim
import GoSem.ClaimJoined
import GoSem.ClaimMapViews
import Derived.JoinedTies
import Derived.KernelRfl
namespace Go.Proofs.Ytkjapcmnopnblaa
/- THE CELL 'sum', in the pinned program and in every row, IS THE sha256 OF THE DUMP (.gsa) THAT YtkjapcmnopnblaaProg.lean LOADS. Nothing in Lean hashes anything: it is a label: what it is worth is what the hold of that sum in a sandbox is worth. -/
noncomputable def Try.pinned : Pinned := { name := "ytkjapcmnopnblaa", sum := "ba2bac667383351a5914dfdee07277a3b8fe76153bcdf33f612d99e7974026e2", checked := Try.checked }
namespace Rows
def none {H : Type} : Left H := { results := [], args := [] }

/-- 'laws.FnKeptMd5': WHATEVER THE INPUT: true; the input reads as it did. -/
def fnKeptMd5Spec : ChangeSpec := { name := "fnKeptMd5", fn := fun _ => fun
  | [d1, d2] => { results := [.lit (.bool true)], args := [d1, d2] }
  | _ => none }
def fnKeptMd5Row : OpenClaim := { program := "ytkjapcmnopnblaa", sum := "ba2bac667383351a5914dfdee07277a3b8fe76153bcdf33f612d99e7974026e2", func := "loop.example/pub-g03426/laws.FnKeptMd5", spec := "fnKeptMd5", apart := false }
def FnKeptMd5Said : Prop := fnKeptMd5Row.holds Try.pinned (OpenSpec.ofChange fnKeptMd5Spec)

/-- ITS FALSE NEIGHBOUR: 'it returns false'. Refute it at one input. -/
def fnKeptMd5Wrong : ChangeSpec := { name := "fnKeptMd5", fn := fun _ => fun
  | [d1, d2] => { results := [.lit (.bool false)], args := [d1, d2] }
  | _ => none }
def FnKeptMd5WrongFalsely : Prop := fnKeptMd5Row.holds Try.pinned (OpenSpec.ofChange fnKeptMd5Wrong)

/-- 'laws.FnBlockMd5': WHATEVER THE INPUT: true; the input reads as it did. -/
def fnBlockMd5Spec : ChangeSpec := { name := "fnBlockMd5", fn := fun _ => fun
  | [d1, d2] => { results := [.lit (.bool true)], args := [d1, d2] }
  | _ => none }
def fnBlockMd5Row : OpenClaim := { program := "ytkjapcmnopnblaa", sum := "ba2bac667383351a5914dfdee07277a3b8fe76153bcdf33f612d99e7974026e2", func := "loop.example/pub-g03426/laws.FnBlockMd5", spec := "fnBlockMd5", apart := false }
def FnBlockMd5Said : Prop := fnBlockMd5Row.holds Try.pinned (OpenSpec.ofChange fnBlockMd5Spec)

/-- ITS FALSE NEIGHBOUR: 'it returns false'. Refute it at one input. -/
def fnBlockMd5Wrong : ChangeSpec := { name := "fnBlockMd5", fn := fun _ => fun
  | [d1, d2] => { results := [.lit (.bool false)], args := [d1, d2] }
  | _ => none }
def FnBlockMd5WrongFalsely : Prop := fnBlockMd5Row.holds Try.pinned (OpenSpec.ofChange fnBlockMd5Wrong)

/-- 'laws.FnBlockMd5Apart': WHATEVER THE INPUT: true; the input reads as it did. -/
def fnBlockMd5ApartSpec : ChangeSpec := { name := "fnBlockMd5Apart", fn := fun _ => fun
  | [d1, d2, d3] => { results := [.lit (.bool true)], args := [d1, d2, d3] }
  | _ => none }
def fnBlockMd5ApartRow : OpenClaim := { program := "ytkjapcmnopnblaa", sum := "ba2bac667383351a5914dfdee07277a3b8fe76153bcdf33f612d99e7974026e2", func := "loop.example/pub-g03426/laws.FnBlockMd5Apart", spec := "fnBlockMd5Apart", apart := false }
def FnBlockMd5ApartSaid : Prop := fnBlockMd5ApartRow.holds Try.pinned (OpenSpec.ofChange fnBlockMd5ApartSpec)

/-- ITS FALSE NEIGHBOUR: 'it returns false'. Refute it at one input. -/
def fnBlockMd5ApartWrong : ChangeSpec := { name := "fnBlockMd5Apart", fn := fun _ => fun
  | [d1, d2, d3] => { results := [.lit (.bool false)], args := [d1, d2, d3] }
  | _ => none }
def FnBlockMd5ApartWrongFalsely : Prop := fnBlockMd5ApartRow.holds Try.pinned (OpenSpec.ofChange fnBlockMd5ApartWrong)

/-- 'laws.FnKeptRoadsMd5': WHATEVER THE INPUT: true; the input reads as it did. -/
def fnKeptRoadsMd5Spec : ChangeSpec := { name := "fnKeptRoadsMd5", fn := fun _ => fun
  | [d1, d2] => { results := [.lit (.bool true)], args := [d1, d2] }
  | _ => none }
def fnKeptRoadsMd5Row : OpenClaim := { program := "ytkjapcmnopnblaa", sum := "ba2bac667383351a5914dfdee07277a3b8fe76153bcdf33f612d99e7974026e2", func := "loop.example/pub-g03426/laws.FnKeptRoadsMd5", spec := "fnKeptRoadsMd5", apart := false }
def FnKeptRoadsMd5Said : Prop := fnKeptRoadsMd5Row.holds Try.pinned (OpenSpec.ofChange fnKeptRoadsMd5Spec)

/-- ITS FALSE NEIGHBOUR: 'it returns false'. Refute it at one input. -/
def fnKeptRoadsMd5Wrong : ChangeSpec := { name := "fnKeptRoadsMd5", fn := fun _ => fun
  | [d1, d2] => { results := [.lit (.bool false)], args := [d1, d2] }
  | _ => none }
def FnKeptRoadsMd5WrongFalsely : Prop := fnKeptRoadsMd5Row.holds Try.pinned (OpenSpec.ofChange fnKeptRoadsMd5Wrong)

/-- 'laws.FnOneMd5': WHATEVER THE INPUT: true; the input reads as it did. -/
def fnOneMd5Spec : ChangeSpec := { name := "fnOneMd5", fn := fun _ => fun
  | [d] => { results := [.lit (.bool true)], args := [d] }
  | _ => none }
def fnOneMd5Row : OpenClaim := { program := "ytkjapcmnopnblaa", sum := "ba2bac667383351a5914dfdee07277a3b8fe76153bcdf33f612d99e7974026e2", func := "loop.example/pub-g03426/laws.FnOneMd5", spec := "fnOneMd5", apart := false }
def FnOneMd5Said : Prop := fnOneMd5Row.holds Try.pinned (OpenSpec.ofChange fnOneMd5Spec)

/-- ITS FALSE NEIGHBOUR: 'it returns false'. Refute it at one input. -/
def fnOneMd5Wrong : ChangeSpec := { name := "fnOneMd5", fn := fun _ => fun
  | [d] => { results := [.lit (.bool false)], args := [d] }
  | _ => none }
def FnOneMd5WrongFalsely : Prop := fnOneMd5Row.holds Try.pinned (OpenSpec.ofChange fnOneMd5Wrong)

/-- 'laws.FnKeptBehindMd5': WHATEVER THE INPUT: true; the input reads as it did. -/
def fnKeptBehindMd5Spec : ChangeSpec := { name := "fnKeptBehindMd5", fn := fun _ => fun
  | [d1, d2] => { results := [.lit (.bool true)], args := [d1, d2] }
  | _ => none }
def fnKeptBehindMd5Row : OpenClaim := { program := "ytkjapcmnopnblaa", sum := "ba2bac667383351a5914dfdee07277a3b8fe76153bcdf33f612d99e7974026e2", func := "loop.example/pub-g03426/laws.FnKeptBehindMd5", spec := "fnKeptBehindMd5", apart := false }
def FnKeptBehindMd5Said : Prop := fnKeptBehindMd5Row.holds Try.pinned (OpenSpec.ofChange fnKeptBehindMd5Spec)

/-- ITS FALSE NEIGHBOUR: 'it returns false'. Refute it at one input. -/
def fnKeptBehindMd5Wrong : ChangeSpec := { name := "fnKeptBehindMd5", fn := fun _ => fun
  | [d1, d2] => { results := [.lit (.bool false)], args := [d1, d2] }
  | _ => none }
def FnKeptBehindMd5WrongFalsely : Prop := fnKeptBehindMd5Row.holds Try.pinned (OpenSpec.ofChange fnKeptBehindMd5Wrong)

/-- 'laws.FnMd5': WHATEVER THE INPUT: true; the input reads as it did. -/
def fnMd5Spec : ChangeSpec := { name := "fnMd5", fn := fun _ => fun
  | [d] => { results := [.lit (.bool true)], args := [d] }
  | _ => none }
def fnMd5Row : OpenClaim := { program := "ytkjapcmnopnblaa", sum := "ba2bac667383351a5914dfdee07277a3b8fe76153bcdf33f612d99e7974026e2", func := "loop.example/pub-g03426/laws.FnMd5", spec := "fnMd5", apart := false }
def FnMd5Said : Prop := fnMd5Row.holds Try.pinned (OpenSpec.ofChange fnMd5Spec)

/-- ITS FALSE NEIGHBOUR: 'it returns false'. Refute it at one input. -/
def fnMd5Wrong : ChangeSpec := { name := "fnMd5", fn := fun _ => fun
  | [d] => { results := [.lit (.bool false)], args := [d] }
  | _ => none }
def FnMd5WrongFalsely : Prop := fnMd5Row.holds Try.pinned (OpenSpec.ofChange fnMd5Wrong)

/-- 'laws.FnPiecesMd5': WHATEVER THE INPUT: true; the input reads as it did. -/
def fnPiecesMd5Spec : ChangeSpec := { name := "fnPiecesMd5", fn := fun _ => fun
  | [d] => { results := [.lit (.bool true)], args := [d] }
  | _ => none }
def fnPiecesMd5Row : OpenClaim := { program := "ytkjapcmnopnblaa", sum := "ba2bac667383351a5914dfdee07277a3b8fe76153bcdf33f612d99e7974026e2", func := "loop.example/pub-g03426/laws.FnPiecesMd5", spec := "fnPiecesMd5", apart := false }
def FnPiecesMd5Said : Prop := fnPiecesMd5Row.holds Try.pinned (OpenSpec.ofChange fnPiecesMd5Spec)

/-- ITS FALSE NEIGHBOUR: 'it returns false'. Refute it at one input. -/
def fnPiecesMd5Wrong : ChangeSpec := { name := "fnPiecesMd5", fn := fun _ => fun
  | [d] => { results := [.lit (.bool false)], args := [d] }
  | _ => none }
def FnPiecesMd5WrongFalsely : Prop := fnPiecesMd5Row.holds Try.pinned (OpenSpec.ofChange fnPiecesMd5Wrong)

/-- 'laws.FnOneRoadsMd5': WHATEVER THE INPUT: true; the input reads as it did. -/
def fnOneRoadsMd5Spec : ChangeSpec := { name := "fnOneRoadsMd5", fn := fun _ => fun
  | [d] => { results := [.lit (.bool true)], args := [d] }
  | _ => none }
def fnOneRoadsMd5Row : OpenClaim := { program := "ytkjapcmnopnblaa", sum := "ba2bac667383351a5914dfdee07277a3b8fe76153bcdf33f612d99e7974026e2", func := "loop.example/pub-g03426/laws.FnOneRoadsMd5", spec := "fnOneRoadsMd5", apart := false }
def FnOneRoadsMd5Said : Prop := fnOneRoadsMd5Row.holds Try.pinned (OpenSpec.ofChange fnOneRoadsMd5Spec)

/-- ITS FALSE NEIGHBOUR: 'it returns false'. Refute it at one input. -/
def fnOneRoadsMd5Wrong : ChangeSpec := { name := "fnOneRoadsMd5", fn := fun _ => fun
  | [d] => { results := [.lit (.bool false)], args := [d] }
  | _ => none }
def FnOneRoadsMd5WrongFalsely : Prop := fnOneRoadsMd5Row.holds Try.pinned (OpenSpec.ofChange fnOneRoadsMd5Wrong)

/-- 'laws.FnRoadMd5': WHATEVER THE INPUT: true; the input reads as it did. -/
def fnRoadMd5Spec : ChangeSpec := { name := "fnRoadMd5", fn := fun _ => fun
  | [d] => { results := [.lit (.bool true)], args := [d] }
  | _ => none }
def fnRoadMd5Row : OpenClaim := { program := "ytkjapcmnopnblaa", sum := "ba2bac667383351a5914dfdee07277a3b8fe76153bcdf33f612d99e7974026e2", func := "loop.example/pub-g03426/laws.FnRoadMd5", spec := "fnRoadMd5", apart := false }
def FnRoadMd5Said : Prop := fnRoadMd5Row.holds Try.pinned (OpenSpec.ofChange fnRoadMd5Spec)

/-- ITS FALSE NEIGHBOUR: 'it returns false'. Refute it at one input. -/
def fnRoadMd5Wrong : ChangeSpec := { name := "fnRoadMd5", fn := fun _ => fun
  | [d] => { results := [.lit (.bool false)], args := [d] }
  | _ => none }
def FnRoadMd5WrongFalsely : Prop := fnRoadMd5Row.holds Try.pinned (OpenSpec.ofChange fnRoadMd5Wrong)

/-- 'laws.FnStepsMd5': WHATEVER THE INPUT: true; the input reads as it did. -/
def fnStepsMd5Spec : ChangeSpec := { name := "fnStepsMd5", fn := fun _ => fun
  | [d1, d2] => { results := [.lit (.bool true)], args := [d1, d2] }
  | _ => none }
def fnStepsMd5Row : OpenClaim := { program := "ytkjapcmnopnblaa", sum := "ba2bac667383351a5914dfdee07277a3b8fe76153bcdf33f612d99e7974026e2", func := "loop.example/pub-g03426/laws.FnStepsMd5", spec := "fnStepsMd5", apart := false }
def FnStepsMd5Said : Prop := fnStepsMd5Row.holds Try.pinned (OpenSpec.ofChange fnStepsMd5Spec)

/-- ITS FALSE NEIGHBOUR: 'it returns false'. Refute it at one input. -/
def fnStepsMd5Wrong : ChangeSpec := { name := "fnStepsMd5", fn := fun _ => fun
  | [d1, d2] => { results := [.lit (.bool false)], args := [d1, d2] }
  | _ => none }
def FnStepsMd5WrongFalsely : Prop := fnStepsMd5Row.holds Try.pinned (OpenSpec.ofChange fnStepsMd5Wrong)

/-- 'laws.FnKeptFailsMd5': WHATEVER THE INPUT: true; the input reads as it did. -/
def fnKeptFailsMd5Spec : ChangeSpec := { name := "fnKeptFailsMd5", fn := fun _ => fun
  | [d1, d2, d3] => { results := [.lit (.bool true)], args := [d1, d2, d3] }
  | _ => none }
def fnKeptFailsMd5Row : OpenClaim := { program := "ytkjapcmnopnblaa", sum := "ba2bac667383351a5914dfdee07277a3b8fe76153bcdf33f612d99e7974026e2", func := "loop.example/pub-g03426/laws.FnKeptFailsMd5", spec := "fnKeptFailsMd5", apart := false }
def FnKeptFailsMd5Said : Prop := fnKeptFailsMd5Row.holds Try.pinned (OpenSpec.ofChange fnKeptFailsMd5Spec)

/-- ITS FALSE NEIGHBOUR: 'it returns false'. Refute it at one input. -/
def fnKeptFailsMd5Wrong : ChangeSpec := { name := "fnKeptFailsMd5", fn := fun _ => fun
  | [d1, d2, d3] => { results := [.lit (.bool false)], args := [d1, d2, d3] }
  | _ => none }
def FnKeptFailsMd5WrongFalsely : Prop := fnKeptFailsMd5Row.holds Try.pinned (OpenSpec.ofChange fnKeptFailsMd5Wrong)

/- THE SECOND FORM. 'bulk': how many values and letters a reading holds, each counted each time it is reached (what is shared counts as often as it is met; a slice's spare places count too). A statement '..UptoSaid' is the law's where the arguments, and the package variables that the reading takes, are together of bulk at most 1048576: NARROWER than '..Said'. Prove '..Said' where nothing that the law and all that it calls make is longer than what came in: it says more and counts as full. Else prove '..UptoSaid'. A law counts once. -/
mutual
def uptoBulk {H : Type} : DataW H → Nat
  | .lit (.string bytes) => bytes.length + 1
  | .lit _ => 1
  | .nil => 1
  | .ptr d => uptoBulk d + 1
  | .slice elems spare => uptoBulkAll elems + uptoBulkAll spare + 1
  | .agg parts => uptoBulkAll parts + 1
  | .iface _ d => uptoBulk d + 1
  | .map entries => uptoBulkEntries entries + 1
  | .held _ => 1
def uptoBulkAll {H : Type} : List (DataW H) → Nat
  | [] => 0
  | d :: r => uptoBulk d + uptoBulkAll r
def uptoBulkEntries {H : Type} : List (Lit × DataW H) → Nat
  | [] => 0
  | x :: r => uptoBulkEntry x + uptoBulkEntries r
def uptoBulkEntry {H : Type} : Lit × DataW H → Nat
  | (.string bytes, d) => bytes.length + uptoBulk d + 1
  | (_, d) => uptoBulk d + 1
 end
def uptoSmall : (H : Type) → List (DataW H) → Bool := fun _ ds => decide (uptoBulkAll ds ≤ 1048576)
def OpenSpec.upto (s : _root_.Go.ChangeSpec) : _root_.Go.OpenSpec := { _root_.Go.OpenSpec.ofChange s with cond := some uptoSmall }

/-- 'laws.FnKeptMd5', WHERE WHAT IT READS IS OF BULK AT MOST 1048576: true; the input reads as it did. -/
def fnKeptMd5UptoRow : OpenClaim := { program := "ytkjapcmnopnblaa", sum := "ba2bac667383351a5914dfdee07277a3b8fe76153bcdf33f612d99e7974026e2", func := "loop.example/pub-g03426/laws.FnKeptMd5", spec := "fnKeptMd5", apart := false, narrowed := true }
def FnKeptMd5UptoSaid : Prop := fnKeptMd5UptoRow.holds Try.pinned (OpenSpec.upto fnKeptMd5Spec)

/-- 'laws.FnBlockMd5', WHERE WHAT IT READS IS OF BULK AT MOST 1048576: true; the input reads as it did. -/
def fnBlockMd5UptoRow : OpenClaim := { program := "ytkjapcmnopnblaa", sum := "ba2bac667383351a5914dfdee07277a3b8fe76153bcdf33f612d99e7974026e2", func := "loop.example/pub-g03426/laws.FnBlockMd5", spec := "fnBlockMd5", apart := false, narrowed := true }
def FnBlockMd5UptoSaid : Prop := fnBlockMd5UptoRow.holds Try.pinned (OpenSpec.upto fnBlockMd5Spec)

/-- 'laws.FnBlockMd5Apart', WHERE WHAT IT READS IS OF BULK AT MOST 1048576: true; the input reads as it did. -/
def fnBlockMd5ApartUptoRow : OpenClaim := { program := "ytkjapcmnopnblaa", sum := "ba2bac667383351a5914dfdee07277a3b8fe76153bcdf33f612d99e7974026e2", func := "loop.example/pub-g03426/laws.FnBlockMd5Apart", spec := "fnBlockMd5Apart", apart := false, narrowed := true }
def FnBlockMd5ApartUptoSaid : Prop := fnBlockMd5ApartUptoRow.holds Try.pinned (OpenSpec.upto fnBlockMd5ApartSpec)

/-- 'laws.FnKeptRoadsMd5', WHERE WHAT IT READS IS OF BULK AT MOST 1048576: true; the input reads as it did. -/
def fnKeptRoadsMd5UptoRow : OpenClaim := { program := "ytkjapcmnopnblaa", sum := "ba2bac667383351a5914dfdee07277a3b8fe76153bcdf33f612d99e7974026e2", func := "loop.example/pub-g03426/laws.FnKeptRoadsMd5", spec := "fnKeptRoadsMd5", apart := false, narrowed := true }
def FnKeptRoadsMd5UptoSaid : Prop := fnKeptRoadsMd5UptoRow.holds Try.pinned (OpenSpec.upto fnKeptRoadsMd5Spec)

/-- 'laws.FnOneMd5', WHERE WHAT IT READS IS OF BULK AT MOST 1048576: true; the input reads as it did. -/
def fnOneMd5UptoRow : OpenClaim := { program := "ytkjapcmnopnblaa", sum := "ba2bac667383351a5914dfdee07277a3b8fe76153bcdf33f612d99e7974026e2", func := "loop.example/pub-g03426/laws.FnOneMd5", spec := "fnOneMd5", apart := false, narrowed := true }
def FnOneMd5UptoSaid : Prop := fnOneMd5UptoRow.holds Try.pinned (OpenSpec.upto fnOneMd5Spec)

/-- 'laws.FnKeptBehindMd5', WHERE WHAT IT READS IS OF BULK AT MOST 1048576: true; the input reads as it did. -/
def fnKeptBehindMd5UptoRow : OpenClaim := { program := "ytkjapcmnopnblaa", sum := "ba2bac667383351a5914dfdee07277a3b8fe76153bcdf33f612d99e7974026e2", func := "loop.example/pub-g03426/laws.FnKeptBehindMd5", spec := "fnKeptBehindMd5", apart := false, narrowed := true }
def FnKeptBehindMd5UptoSaid : Prop := fnKeptBehindMd5UptoRow.holds Try.pinned (OpenSpec.upto fnKeptBehindMd5Spec)

/-- 'laws.FnMd5', WHERE WHAT IT READS IS OF BULK AT MOST 1048576: true; the input reads as it did. -/
def fnMd5UptoRow : OpenClaim := { program := "ytkjapcmnopnblaa", sum := "ba2bac667383351a5914dfdee07277a3b8fe76153bcdf33f612d99e7974026e2", func := "loop.example/pub-g03426/laws.FnMd5", spec := "fnMd5", apart := false, narrowed := true }
def FnMd5UptoSaid : Prop := fnMd5UptoRow.holds Try.pinned (OpenSpec.upto fnMd5Spec)

/-- 'laws.FnPiecesMd5', WHERE WHAT IT READS IS OF BULK AT MOST 1048576: true; the input reads as it did. -/
def fnPiecesMd5UptoRow : OpenClaim := { program := "ytkjapcmnopnblaa", sum := "ba2bac667383351a5914dfdee07277a3b8fe76153bcdf33f612d99e7974026e2", func := "loop.example/pub-g03426/laws.FnPiecesMd5", spec := "fnPiecesMd5", apart := false, narrowed := true }
def FnPiecesMd5UptoSaid : Prop := fnPiecesMd5UptoRow.holds Try.pinned (OpenSpec.upto fnPiecesMd5Spec)

/-- 'laws.FnOneRoadsMd5', WHERE WHAT IT READS IS OF BULK AT MOST 1048576: true; the input reads as it did. -/
def fnOneRoadsMd5UptoRow : OpenClaim := { program := "ytkjapcmnopnblaa", sum := "ba2bac667383351a5914dfdee07277a3b8fe76153bcdf33f612d99e7974026e2", func := "loop.example/pub-g03426/laws.FnOneRoadsMd5", spec := "fnOneRoadsMd5", apart := false, narrowed := true }
def FnOneRoadsMd5UptoSaid : Prop := fnOneRoadsMd5UptoRow.holds Try.pinned (OpenSpec.upto fnOneRoadsMd5Spec)

/-- 'laws.FnRoadMd5', WHERE WHAT IT READS IS OF BULK AT MOST 1048576: true; the input reads as it did. -/
def fnRoadMd5UptoRow : OpenClaim := { program := "ytkjapcmnopnblaa", sum := "ba2bac667383351a5914dfdee07277a3b8fe76153bcdf33f612d99e7974026e2", func := "loop.example/pub-g03426/laws.FnRoadMd5", spec := "fnRoadMd5", apart := false, narrowed := true }
def FnRoadMd5UptoSaid : Prop := fnRoadMd5UptoRow.holds Try.pinned (OpenSpec.upto fnRoadMd5Spec)

/-- 'laws.FnStepsMd5', WHERE WHAT IT READS IS OF BULK AT MOST 1048576: true; the input reads as it did. -/
def fnStepsMd5UptoRow : OpenClaim := { program := "ytkjapcmnopnblaa", sum := "ba2bac667383351a5914dfdee07277a3b8fe76153bcdf33f612d99e7974026e2", func := "loop.example/pub-g03426/laws.FnStepsMd5", spec := "fnStepsMd5", apart := false, narrowed := true }
def FnStepsMd5UptoSaid : Prop := fnStepsMd5UptoRow.holds Try.pinned (OpenSpec.upto fnStepsMd5Spec)

/-- 'laws.FnKeptFailsMd5', WHERE WHAT IT READS IS OF BULK AT MOST 1048576: true; the input reads as it did. -/
def fnKeptFailsMd5UptoRow : OpenClaim := { program := "ytkjapcmnopnblaa", sum := "ba2bac667383351a5914dfdee07277a3b8fe76153bcdf33f612d99e7974026e2", func := "loop.example/pub-g03426/laws.FnKeptFailsMd5", spec := "fnKeptFailsMd5", apart := false, narrowed := true }
def FnKeptFailsMd5UptoSaid : Prop := fnKeptFailsMd5UptoRow.holds Try.pinned (OpenSpec.upto fnKeptFailsMd5Spec)

end Rows
end Go.Proofs.Ytkjapcmnopnblaa
