/-
  No cell of these rows narrows 'for every input' (looked for: loops, veiled, ifaces, maps, wideKeys, modest, calm, conditions, laid).
  DERIVED. THE GIVEN ROWS OF THIS SEAT. 5 by the template 'for every input the law returns true; each argument reads behind the call as it read before'; 0 by the template 'total and deterministic' (their statements: YtpnkgjnljbknnaaTotals.lean).
  GIVEN WITH THE SEED: the statements are not yours to turn. If you find one false, say at which input.
  Laid BY PROGRAM, IN A SANDBOX (cutbox-rows.mjs): the forced cells as the released guide's own fill.sh prints them over the translation c4da2a7942dc8d1d… (all of the seat's roots in one cut). By AI agents, Wed Nov 11 2026. No macro, syntax, notation, axiom, sorry.
-/
import Derived.Test.YtpnkgjnljbknnaaChecked
import GoSem.Claim
import GoSem.ClaimJoined
import GoSem.ClaimMapViews
import Derived.JoinedTies
import Derived.KernelRfl
namespace Go.Proofs.Ytpnkgjnljbknnaa
/- THE CELL 'sum', in the pinned program and in every row, IS THE sha256 OF THE DUMP (.gsa) THAT YtpnkgjnljbknnaaProg.lean LOADS. Nothing in Lean hashes anything: it is a label: what it is worth is what the hold of that sum in a sandbox is worth. -/
noncomputable def Try.pinned : Pinned := { name := "ytpnkgjnljbknnaa", sum := "c4da2a7942dc8d1d138c7e26c340f9247dff3f941f65400993a2d9239489bbee", checked := Try.checked }
namespace Rows
def none {H : Type} : Left H := { results := [], args := [] }

/-- 'laws.FnPermuteByIs': WHATEVER THE INPUT: true; the input reads as it did. -/
def fnPermuteByIsSpec : ChangeSpec := { name := "fnPermuteByIs", fn := fun _ => fun
  | [d1, d2] => { results := [.lit (.bool true)], args := [d1, d2] }
  | _ => none }
def fnPermuteByIsRow : OpenClaim := { program := "ytpnkgjnljbknnaa", sum := "c4da2a7942dc8d1d138c7e26c340f9247dff3f941f65400993a2d9239489bbee", func := "loop.example/pub-g03027/laws.FnPermuteByIs", spec := "fnPermuteByIs", apart := false }
def FnPermuteByIsSaid : Prop := fnPermuteByIsRow.holds Try.pinned (OpenSpec.ofChange fnPermuteByIsSpec)

/-- ITS FALSE NEIGHBOUR: 'it returns false'. Refute it at one input. -/
def fnPermuteByIsWrong : ChangeSpec := { name := "fnPermuteByIs", fn := fun _ => fun
  | [d1, d2] => { results := [.lit (.bool false)], args := [d1, d2] }
  | _ => none }
def FnPermuteByIsWrongFalsely : Prop := fnPermuteByIsRow.holds Try.pinned (OpenSpec.ofChange fnPermuteByIsWrong)

/-- 'laws.FnUnpackApart': WHATEVER THE INPUT: true; the input reads as it did. -/
def fnUnpackApartSpec : ChangeSpec := { name := "fnUnpackApart", fn := fun _ => fun
  | [d1, d2] => { results := [.lit (.bool true)], args := [d1, d2] }
  | _ => none }
def fnUnpackApartRow : OpenClaim := { program := "ytpnkgjnljbknnaa", sum := "c4da2a7942dc8d1d138c7e26c340f9247dff3f941f65400993a2d9239489bbee", func := "loop.example/pub-g03027/laws.FnUnpackApart", spec := "fnUnpackApart", apart := false }
def FnUnpackApartSaid : Prop := fnUnpackApartRow.holds Try.pinned (OpenSpec.ofChange fnUnpackApartSpec)

/-- ITS FALSE NEIGHBOUR: 'it returns false'. Refute it at one input. -/
def fnUnpackApartWrong : ChangeSpec := { name := "fnUnpackApart", fn := fun _ => fun
  | [d1, d2] => { results := [.lit (.bool false)], args := [d1, d2] }
  | _ => none }
def FnUnpackApartWrongFalsely : Prop := fnUnpackApartRow.holds Try.pinned (OpenSpec.ofChange fnUnpackApartWrong)

/-- 'laws.FnFinalIs': WHATEVER THE INPUT: true; the input reads as it did. -/
def fnFinalIsSpec : ChangeSpec := { name := "fnFinalIs", fn := fun _ => fun
  | [d] => { results := [.lit (.bool true)], args := [d] }
  | _ => none }
def fnFinalIsRow : OpenClaim := { program := "ytpnkgjnljbknnaa", sum := "c4da2a7942dc8d1d138c7e26c340f9247dff3f941f65400993a2d9239489bbee", func := "loop.example/pub-g03027/laws.FnFinalIs", spec := "fnFinalIs", apart := false }
def FnFinalIsSaid : Prop := fnFinalIsRow.holds Try.pinned (OpenSpec.ofChange fnFinalIsSpec)

/-- ITS FALSE NEIGHBOUR: 'it returns false'. Refute it at one input. -/
def fnFinalIsWrong : ChangeSpec := { name := "fnFinalIs", fn := fun _ => fun
  | [d] => { results := [.lit (.bool false)], args := [d] }
  | _ => none }
def FnFinalIsWrongFalsely : Prop := fnFinalIsRow.holds Try.pinned (OpenSpec.ofChange fnFinalIsWrong)

/-- 'laws.FnInitialIs': WHATEVER THE INPUT: true; the input reads as it did. -/
def fnInitialIsSpec : ChangeSpec := { name := "fnInitialIs", fn := fun _ => fun
  | [d] => { results := [.lit (.bool true)], args := [d] }
  | _ => none }
def fnInitialIsRow : OpenClaim := { program := "ytpnkgjnljbknnaa", sum := "c4da2a7942dc8d1d138c7e26c340f9247dff3f941f65400993a2d9239489bbee", func := "loop.example/pub-g03027/laws.FnInitialIs", spec := "fnInitialIs", apart := false }
def FnInitialIsSaid : Prop := fnInitialIsRow.holds Try.pinned (OpenSpec.ofChange fnInitialIsSpec)

/-- ITS FALSE NEIGHBOUR: 'it returns false'. Refute it at one input. -/
def fnInitialIsWrong : ChangeSpec := { name := "fnInitialIs", fn := fun _ => fun
  | [d] => { results := [.lit (.bool false)], args := [d] }
  | _ => none }
def FnInitialIsWrongFalsely : Prop := fnInitialIsRow.holds Try.pinned (OpenSpec.ofChange fnInitialIsWrong)

/-- 'laws.FnInitialFinal': WHATEVER THE INPUT: true; the input reads as it did. -/
def fnInitialFinalSpec : ChangeSpec := { name := "fnInitialFinal", fn := fun _ => fun
  | [d] => { results := [.lit (.bool true)], args := [d] }
  | _ => none }
def fnInitialFinalRow : OpenClaim := { program := "ytpnkgjnljbknnaa", sum := "c4da2a7942dc8d1d138c7e26c340f9247dff3f941f65400993a2d9239489bbee", func := "loop.example/pub-g03027/laws.FnInitialFinal", spec := "fnInitialFinal", apart := false }
def FnInitialFinalSaid : Prop := fnInitialFinalRow.holds Try.pinned (OpenSpec.ofChange fnInitialFinalSpec)

/-- ITS FALSE NEIGHBOUR: 'it returns false'. Refute it at one input. -/
def fnInitialFinalWrong : ChangeSpec := { name := "fnInitialFinal", fn := fun _ => fun
  | [d] => { results := [.lit (.bool false)], args := [d] }
  | _ => none }
def FnInitialFinalWrongFalsely : Prop := fnInitialFinalRow.holds Try.pinned (OpenSpec.ofChange fnInitialFinalWrong)

/- THE SECOND FORM. 'bulk': how many values and letters a reading holds, each counted each time it is reached (what is shared counts as often as it is met; a slice's spare places count too). A statement '..UptoSaid' is the law's where the arguments, and the package variables that the reading takes, are together of bulk at most 1048576: NARROWER than '..Said'. Prove '..Said' where nothing that the law and all that it calls make is longer than what came in: it says more and counts as full. Else prove '..UptoSaid'. A law counts once. -/
mutual
def uptoBulk {H : Type} : DataW H → Nat
  | .lit (.string bytes) => bytes.length + 1
  | .lit _ => 1
  | .nil => 1
  | .ptr d => uptoBulk d + 1
  | .slice elems spare => uptoBulkAll elems + uptoBulkAll spare + 1
  | .agg parts => uptoBulkAll parts + 1
  | .iface _ d => uptoBulk d + 1
  | .map entries => uptoBulkEntries entries + 1
  | .held _ => 1
def uptoBulkAll {H : Type} : List (DataW H) → Nat
  | [] => 0
  | d :: r => uptoBulk d + uptoBulkAll r
def uptoBulkEntries {H : Type} : List (Lit × DataW H) → Nat
  | [] => 0
  | x :: r => uptoBulkEntry x + uptoBulkEntries r
def uptoBulkEntry {H : Type} : Lit × DataW H → Nat
  | (.string bytes, d) => bytes.length + uptoBulk d + 1
  | (_, d) => uptoBulk d + 1
 end
def uptoSmall : (H : Type) → List (DataW H) → Bool := fun _ ds => decide (uptoBulkAll ds ≤ 1048576)
def OpenSpec.upto (s : _root_.Go.ChangeSpec) : _root_.Go.OpenSpec := { _root_.Go.OpenSpec.ofChange s with cond := some uptoSmall }

/-- 'laws.FnPermuteByIs', WHERE WHAT IT READS IS OF BULK AT MOST 1048576: true; the input reads as it did. -/
def fnPermuteByIsUptoRow : OpenClaim := { program := "ytpnkgjnljbknnaa", sum := "c4da2a7942dc8d1d138c7e26c340f9247dff3f941f65400993a2d9239489bbee", func := "loop.example/pub-g03027/laws.FnPermuteByIs", spec := "fnPermuteByIs", apart := false, narrowed := true }
def FnPermuteByIsUptoSaid : Prop := fnPermuteByIsUptoRow.holds Try.pinned (OpenSpec.upto fnPermuteByIsSpec)

/-- 'laws.FnUnpackApart', WHERE WHAT IT READS IS OF BULK AT MOST 1048576: true; the input reads as it did. -/
def fnUnpackApartUptoRow : OpenClaim := { program := "ytpnkgjnljbknnaa", sum := "c4da2a7942dc8d1d138c7e26c340f9247dff3f941f65400993a2d9239489bbee", func := "loop.example/pub-g03027/laws.FnUnpackApart", spec := "fnUnpackApart", apart := false, narrowed := true }
def FnUnpackApartUptoSaid : Prop := fnUnpackApartUptoRow.holds Try.pinned (OpenSpec.upto fnUnpackApartSpec)

/-- 'laws.FnFinalIs', WHERE WHAT IT READS IS OF BULK AT MOST 1048576: true; the input reads as it did. -/
def fnFinalIsUptoRow : OpenClaim := { program := "ytpnkgjnljbknnaa", sum := "c4da2a7942dc8d1d138c7e26c340f9247dff3f941f65400993a2d9239489bbee", func := "loop.example/pub-g03027/laws.FnFinalIs", spec := "fnFinalIs", apart := false, narrowed := true }
def FnFinalIsUptoSaid : Prop := fnFinalIsUptoRow.holds Try.pinned (OpenSpec.upto fnFinalIsSpec)

/-- 'laws.FnInitialIs', WHERE WHAT IT READS IS OF BULK AT MOST 1048576: true; the input reads as it did. -/
def fnInitialIsUptoRow : OpenClaim := { program := "ytpnkgjnljbknnaa", sum := "c4da2a7942dc8d1d138c7e26c340f9247dff3f941f65400993a2d9239489bbee", func := "loop.example/pub-g03027/laws.FnInitialIs", spec := "fnInitialIs", apart := false, narrowed := true }
def FnInitialIsUptoSaid : Prop := fnInitialIsUptoRow.holds Try.pinned (OpenSpec.upto fnInitialIsSpec)

/-- 'laws.FnInitialFinal', WHERE WHAT IT READS IS OF BULK AT MOST 1048576: true; the input reads as it did. -/
def fnInitialFinalUptoRow : OpenClaim := { program := "ytpnkgjnljbknnaa", sum := "c4da2a7942dc8d1d138c7e26c340f9247dff3f941f65400993a2d9239489bbee", func := "loop.example/pub-g03027/laws.FnInitialFinal", spec := "fnInitialFinal", apart := false, narrowed := true }
def FnInitialFinalUptoSaid : Prop := fnInitialFinalUptoRow.holds Try.pinned (OpenSpec.upto fnInitialFinalSpec)

end Rows
end Go.Proofs.Ytpnkgjnljbknnaa
