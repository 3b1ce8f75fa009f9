/-
  No cell of these rows narrows 'for every input' (looked for: loops, veiled, ifaces, maps, wideKeys, modest, calm, conditions, laid).
  DERIVED. THE GIVEN ROWS OF THIS SEAT. 6 by the template 'for every input the law returns true; each argument reads behind the call as it read before'; 0 by the template 'total and deterministic' (their statements: YtcpnimnilojooaaTotals.lean).
  GIVEN WITH THE SEED: the statements are not yours to turn. If you find one false, say at which input.
  Laid BY PROGRAM, IN A SANDBOX (cutbox-rows.mjs): the forced cells as the released guide's own fill.sh prints them over the translation 33d8dd0a3fbce5c7… (all of the seat's roots in one cut). By AI agents, Wed Nov 11 2026. No macro, syntax, notation, axiom, sorry.
-/
import Derived.Test.YtcpnimnilojooaaChecked
import GoSem.Claim
import GoSem.ClaimJoined
import GoSem.ClaimMapViews
import Derived.JoinedTies
import Derived.KernelRfl
namespace Go.Proofs.Ytcpnimnilojooaa
/- THE CELL 'sum', in the pinned program and in every row, IS THE sha256 OF THE DUMP (.gsa) THAT YtcpnimnilojooaaProg.lean LOADS. Nothing in Lean hashes anything: it is a label: what it is worth is what the hold of that sum in a sandbox is worth. -/
noncomputable def Try.pinned : Pinned := { name := "ytcpnimnilojooaa", sum := "33d8dd0a3fbce5c7185039883bcc899eebc9cab36ba1df582a62fdffea31dd91", checked := Try.checked }
namespace Rows
def none {H : Type} : Left H := { results := [], args := [] }

/-- 'laws.FnExactSquareP256': WHATEVER THE INPUT: true; the input reads as it did. -/
def fnExactSquareP256Spec : ChangeSpec := { name := "fnExactSquareP256", fn := fun _ => fun
  | [d] => { results := [.lit (.bool true)], args := [d] }
  | _ => none }
def fnExactSquareP256Row : OpenClaim := { program := "ytcpnimnilojooaa", sum := "33d8dd0a3fbce5c7185039883bcc899eebc9cab36ba1df582a62fdffea31dd91", func := "loop.example/pub-g03334/laws.FnExactSquareP256", spec := "fnExactSquareP256", inPlace := ["math/bits.Add64", "math/bits.Sub64"], apart := false }
def FnExactSquareP256Said : Prop := fnExactSquareP256Row.holds Try.pinned (OpenSpec.ofChange fnExactSquareP256Spec)

/-- ITS FALSE NEIGHBOUR: 'it returns false'. Refute it at one input. -/
def fnExactSquareP256Wrong : ChangeSpec := { name := "fnExactSquareP256", fn := fun _ => fun
  | [d] => { results := [.lit (.bool false)], args := [d] }
  | _ => none }
def FnExactSquareP256WrongFalsely : Prop := fnExactSquareP256Row.holds Try.pinned (OpenSpec.ofChange fnExactSquareP256Wrong)

/-- 'laws.FnMulTurnedP256': WHATEVER THE INPUT: true; the input reads as it did. -/
def fnMulTurnedP256Spec : ChangeSpec := { name := "fnMulTurnedP256", fn := fun _ => fun
  | [d1, d2] => { results := [.lit (.bool true)], args := [d1, d2] }
  | _ => none }
def fnMulTurnedP256Row : OpenClaim := { program := "ytcpnimnilojooaa", sum := "33d8dd0a3fbce5c7185039883bcc899eebc9cab36ba1df582a62fdffea31dd91", func := "loop.example/pub-g03334/laws.FnMulTurnedP256", spec := "fnMulTurnedP256", inPlace := ["math/bits.Add64", "math/bits.Sub64"], apart := false }
def FnMulTurnedP256Said : Prop := fnMulTurnedP256Row.holds Try.pinned (OpenSpec.ofChange fnMulTurnedP256Spec)

/-- ITS FALSE NEIGHBOUR: 'it returns false'. Refute it at one input. -/
def fnMulTurnedP256Wrong : ChangeSpec := { name := "fnMulTurnedP256", fn := fun _ => fun
  | [d1, d2] => { results := [.lit (.bool false)], args := [d1, d2] }
  | _ => none }
def FnMulTurnedP256WrongFalsely : Prop := fnMulTurnedP256Row.holds Try.pinned (OpenSpec.ofChange fnMulTurnedP256Wrong)

/-- 'laws.FnOneP256': WHATEVER THE INPUT: true; the input reads as it did. -/
def fnOneP256Spec : ChangeSpec := { name := "fnOneP256", fn := fun _ => fun
  | [d] => { results := [.lit (.bool true)], args := [d] }
  | _ => none }
def fnOneP256Row : OpenClaim := { program := "ytcpnimnilojooaa", sum := "33d8dd0a3fbce5c7185039883bcc899eebc9cab36ba1df582a62fdffea31dd91", func := "loop.example/pub-g03334/laws.FnOneP256", spec := "fnOneP256", inPlace := ["math/bits.Add64", "math/bits.Sub64"], apart := false }
def FnOneP256Said : Prop := fnOneP256Row.holds Try.pinned (OpenSpec.ofChange fnOneP256Spec)

/-- ITS FALSE NEIGHBOUR: 'it returns false'. Refute it at one input. -/
def fnOneP256Wrong : ChangeSpec := { name := "fnOneP256", fn := fun _ => fun
  | [d] => { results := [.lit (.bool false)], args := [d] }
  | _ => none }
def FnOneP256WrongFalsely : Prop := fnOneP256Row.holds Try.pinned (OpenSpec.ofChange fnOneP256Wrong)

/-- 'laws.FnMulOverP256': WHATEVER THE INPUT: true; the input reads as it did. -/
def fnMulOverP256Spec : ChangeSpec := { name := "fnMulOverP256", fn := fun _ => fun
  | [d1, d2, d3] => { results := [.lit (.bool true)], args := [d1, d2, d3] }
  | _ => none }
def fnMulOverP256Row : OpenClaim := { program := "ytcpnimnilojooaa", sum := "33d8dd0a3fbce5c7185039883bcc899eebc9cab36ba1df582a62fdffea31dd91", func := "loop.example/pub-g03334/laws.FnMulOverP256", spec := "fnMulOverP256", inPlace := ["math/bits.Add64", "math/bits.Sub64"], apart := false }
def FnMulOverP256Said : Prop := fnMulOverP256Row.holds Try.pinned (OpenSpec.ofChange fnMulOverP256Spec)

/-- ITS FALSE NEIGHBOUR: 'it returns false'. Refute it at one input. -/
def fnMulOverP256Wrong : ChangeSpec := { name := "fnMulOverP256", fn := fun _ => fun
  | [d1, d2, d3] => { results := [.lit (.bool false)], args := [d1, d2, d3] }
  | _ => none }
def FnMulOverP256WrongFalsely : Prop := fnMulOverP256Row.holds Try.pinned (OpenSpec.ofChange fnMulOverP256Wrong)

/-- 'laws.FnFromBackP256': WHATEVER THE INPUT: true; the input reads as it did. -/
def fnFromBackP256Spec : ChangeSpec := { name := "fnFromBackP256", fn := fun _ => fun
  | [d] => { results := [.lit (.bool true)], args := [d] }
  | _ => none }
def fnFromBackP256Row : OpenClaim := { program := "ytcpnimnilojooaa", sum := "33d8dd0a3fbce5c7185039883bcc899eebc9cab36ba1df582a62fdffea31dd91", func := "loop.example/pub-g03334/laws.FnFromBackP256", spec := "fnFromBackP256", inPlace := ["math/bits.Add64", "math/bits.Sub64"], apart := false }
def FnFromBackP256Said : Prop := fnFromBackP256Row.holds Try.pinned (OpenSpec.ofChange fnFromBackP256Spec)

/-- ITS FALSE NEIGHBOUR: 'it returns false'. Refute it at one input. -/
def fnFromBackP256Wrong : ChangeSpec := { name := "fnFromBackP256", fn := fun _ => fun
  | [d] => { results := [.lit (.bool false)], args := [d] }
  | _ => none }
def FnFromBackP256WrongFalsely : Prop := fnFromBackP256Row.holds Try.pinned (OpenSpec.ofChange fnFromBackP256Wrong)

/-- 'laws.FnMulPlainP256': WHATEVER THE INPUT: true; the input reads as it did. -/
def fnMulPlainP256Spec : ChangeSpec := { name := "fnMulPlainP256", fn := fun _ => fun
  | [d1, d2] => { results := [.lit (.bool true)], args := [d1, d2] }
  | _ => none }
def fnMulPlainP256Row : OpenClaim := { program := "ytcpnimnilojooaa", sum := "33d8dd0a3fbce5c7185039883bcc899eebc9cab36ba1df582a62fdffea31dd91", func := "loop.example/pub-g03334/laws.FnMulPlainP256", spec := "fnMulPlainP256", inPlace := ["math/bits.Add64", "math/bits.Sub64"], apart := false }
def FnMulPlainP256Said : Prop := fnMulPlainP256Row.holds Try.pinned (OpenSpec.ofChange fnMulPlainP256Spec)

/-- ITS FALSE NEIGHBOUR: 'it returns false'. Refute it at one input. -/
def fnMulPlainP256Wrong : ChangeSpec := { name := "fnMulPlainP256", fn := fun _ => fun
  | [d1, d2] => { results := [.lit (.bool false)], args := [d1, d2] }
  | _ => none }
def FnMulPlainP256WrongFalsely : Prop := fnMulPlainP256Row.holds Try.pinned (OpenSpec.ofChange fnMulPlainP256Wrong)

/- THE SECOND FORM. 'bulk': how many values and letters a reading holds, each counted each time it is reached (what is shared counts as often as it is met; a slice's spare places count too). A statement '..UptoSaid' is the law's where the arguments, and the package variables that the reading takes, are together of bulk at most 1048576: NARROWER than '..Said'. Prove '..Said' where nothing that the law and all that it calls make is longer than what came in: it says more and counts as full. Else prove '..UptoSaid'. A law counts once. -/
mutual
def uptoBulk {H : Type} : DataW H → Nat
  | .lit (.string bytes) => bytes.length + 1
  | .lit _ => 1
  | .nil => 1
  | .ptr d => uptoBulk d + 1
  | .slice elems spare => uptoBulkAll elems + uptoBulkAll spare + 1
  | .agg parts => uptoBulkAll parts + 1
  | .iface _ d => uptoBulk d + 1
  | .map entries => uptoBulkEntries entries + 1
  | .held _ => 1
def uptoBulkAll {H : Type} : List (DataW H) → Nat
  | [] => 0
  | d :: r => uptoBulk d + uptoBulkAll r
def uptoBulkEntries {H : Type} : List (Lit × DataW H) → Nat
  | [] => 0
  | x :: r => uptoBulkEntry x + uptoBulkEntries r
def uptoBulkEntry {H : Type} : Lit × DataW H → Nat
  | (.string bytes, d) => bytes.length + uptoBulk d + 1
  | (_, d) => uptoBulk d + 1
 end
def uptoSmall : (H : Type) → List (DataW H) → Bool := fun _ ds => decide (uptoBulkAll ds ≤ 1048576)
def OpenSpec.upto (s : _root_.Go.ChangeSpec) : _root_.Go.OpenSpec := { _root_.Go.OpenSpec.ofChange s with cond := some uptoSmall }

/-- 'laws.FnExactSquareP256', WHERE WHAT IT READS IS OF BULK AT MOST 1048576: true; the input reads as it did. -/
def fnExactSquareP256UptoRow : OpenClaim := { program := "ytcpnimnilojooaa", sum := "33d8dd0a3fbce5c7185039883bcc899eebc9cab36ba1df582a62fdffea31dd91", func := "loop.example/pub-g03334/laws.FnExactSquareP256", spec := "fnExactSquareP256", inPlace := ["math/bits.Add64", "math/bits.Sub64"], apart := false, narrowed := true }
def FnExactSquareP256UptoSaid : Prop := fnExactSquareP256UptoRow.holds Try.pinned (OpenSpec.upto fnExactSquareP256Spec)

/-- 'laws.FnMulTurnedP256', WHERE WHAT IT READS IS OF BULK AT MOST 1048576: true; the input reads as it did. -/
def fnMulTurnedP256UptoRow : OpenClaim := { program := "ytcpnimnilojooaa", sum := "33d8dd0a3fbce5c7185039883bcc899eebc9cab36ba1df582a62fdffea31dd91", func := "loop.example/pub-g03334/laws.FnMulTurnedP256", spec := "fnMulTurnedP256", inPlace := ["math/bits.Add64", "math/bits.Sub64"], apart := false, narrowed := true }
def FnMulTurnedP256UptoSaid : Prop := fnMulTurnedP256UptoRow.holds Try.pinned (OpenSpec.upto fnMulTurnedP256Spec)

/-- 'laws.FnOneP256', WHERE WHAT IT READS IS OF BULK AT MOST 1048576: true; the input reads as it did. -/
def fnOneP256UptoRow : OpenClaim := { program := "ytcpnimnilojooaa", sum := "33d8dd0a3fbce5c7185039883bcc899eebc9cab36ba1df582a62fdffea31dd91", func := "loop.example/pub-g03334/laws.FnOneP256", spec := "fnOneP256", inPlace := ["math/bits.Add64", "math/bits.Sub64"], apart := false, narrowed := true }
def FnOneP256UptoSaid : Prop := fnOneP256UptoRow.holds Try.pinned (OpenSpec.upto fnOneP256Spec)

/-- 'laws.FnMulOverP256', WHERE WHAT IT READS IS OF BULK AT MOST 1048576: true; the input reads as it did. -/
def fnMulOverP256UptoRow : OpenClaim := { program := "ytcpnimnilojooaa", sum := "33d8dd0a3fbce5c7185039883bcc899eebc9cab36ba1df582a62fdffea31dd91", func := "loop.example/pub-g03334/laws.FnMulOverP256", spec := "fnMulOverP256", inPlace := ["math/bits.Add64", "math/bits.Sub64"], apart := false, narrowed := true }
def FnMulOverP256UptoSaid : Prop := fnMulOverP256UptoRow.holds Try.pinned (OpenSpec.upto fnMulOverP256Spec)

/-- 'laws.FnFromBackP256', WHERE WHAT IT READS IS OF BULK AT MOST 1048576: true; the input reads as it did. -/
def fnFromBackP256UptoRow : OpenClaim := { program := "ytcpnimnilojooaa", sum := "33d8dd0a3fbce5c7185039883bcc899eebc9cab36ba1df582a62fdffea31dd91", func := "loop.example/pub-g03334/laws.FnFromBackP256", spec := "fnFromBackP256", inPlace := ["math/bits.Add64", "math/bits.Sub64"], apart := false, narrowed := true }
def FnFromBackP256UptoSaid : Prop := fnFromBackP256UptoRow.holds Try.pinned (OpenSpec.upto fnFromBackP256Spec)

/-- 'laws.FnMulPlainP256', WHERE WHAT IT READS IS OF BULK AT MOST 1048576: true; the input reads as it did. -/
def fnMulPlainP256UptoRow : OpenClaim := { program := "ytcpnimnilojooaa", sum := "33d8dd0a3fbce5c7185039883bcc899eebc9cab36ba1df582a62fdffea31dd91", func := "loop.example/pub-g03334/laws.FnMulPlainP256", spec := "fnMulPlainP256", inPlace := ["math/bits.Add64", "math/bits.Sub64"], apart := false, narrowed := true }
def FnMulPlainP256UptoSaid : Prop := fnMulPlainP256UptoRow.holds Try.pinned (OpenSpec.upto fnMulPlainP256Spec)

end Rows
end Go.Proofs.Ytcpnimnilojooaa
