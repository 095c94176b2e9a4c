/-
  No cell of these rows narrows 'for every input' (looked for: loops, veiled, ifaces, maps, wideKeys, modest, calm, conditions, laid).
  DERIVED. THE GIVEN ROWS OF THIS SEAT. 2 by the template 'for every input the law returns true; each argument reads behind the call as it read before'; 0 by the template 'total and deterministic' (their statements: YtaehbephmjolcaaTotals.lean).
  GIVEN WITH THE SEED: the statements are not yours to turn. If you find one false, say at which input.
  Laid BY PROGRAM, IN A SANDBOX (cutbox-rows.mjs): the forced cells as the released guide's own fill.sh prints them over the translation a1996636a16b20f7… (all of the seat's roots in one cut). By AI agents, Wed Nov 11 2026. No macro, syntax, notation, axiom, sorry.
-/
import Derived.Test.YtaehbephmjolcaaChecked
import GoSem.Claim
import GoSem.ClaimJoined
import GoSem.ClaimMapViews
import Derived.JoinedTies
import Derived.KernelRfl
namespace Go.Proofs.Ytaehbephmjolcaa
/- THE CELL 'sum', in the pinned program and in every row, IS THE sha256 OF THE DUMP (.gsa) THAT YtaehbephmjolcaaProg.lean LOADS. Nothing in Lean hashes anything: it is a label: what it is worth is what the hold of that sum in a sandbox is worth. -/
noncomputable def Try.pinned : Pinned := { name := "ytaehbephmjolcaa", sum := "a1996636a16b20f759d7571208ebadac6a1135fb67adcaba3857c7a7f7503cca", checked := Try.checked }
namespace Rows
def none {H : Type} : Left H := { results := [], args := [] }

/-- 'laws.FnClamp': WHATEVER THE INPUT: true; the input reads as it did. -/
def fnClampSpec : ChangeSpec := { name := "fnClamp", fn := fun _ => fun
  | [d1, d2, d3] => { results := [.lit (.bool true)], args := [d1, d2, d3] }
  | _ => none }
def fnClampRow : OpenClaim := { program := "ytaehbephmjolcaa", sum := "a1996636a16b20f759d7571208ebadac6a1135fb67adcaba3857c7a7f7503cca", func := "pub-strainer/laws.FnClamp", spec := "fnClamp", apart := false }
def FnClampSaid : Prop := fnClampRow.holds Try.pinned (OpenSpec.ofChange fnClampSpec)

/-- ITS FALSE NEIGHBOUR: 'it returns false'. Refute it at one input. -/
def fnClampWrong : ChangeSpec := { name := "fnClamp", fn := fun _ => fun
  | [d1, d2, d3] => { results := [.lit (.bool false)], args := [d1, d2, d3] }
  | _ => none }
def FnClampWrongFalsely : Prop := fnClampRow.holds Try.pinned (OpenSpec.ofChange fnClampWrong)

/-- 'laws.FnStack': WHATEVER THE INPUT: true; the input reads as it did. -/
def fnStackSpec : ChangeSpec := { name := "fnStack", fn := fun _ => fun
  | [d] => { results := [.lit (.bool true)], args := [d] }
  | _ => none }
def fnStackRow : OpenClaim := { program := "ytaehbephmjolcaa", sum := "a1996636a16b20f759d7571208ebadac6a1135fb67adcaba3857c7a7f7503cca", func := "pub-strainer/laws.FnStack", spec := "fnStack", apart := false }
def FnStackSaid : Prop := fnStackRow.holds Try.pinned (OpenSpec.ofChange fnStackSpec)

/-- ITS FALSE NEIGHBOUR: 'it returns false'. Refute it at one input. -/
def fnStackWrong : ChangeSpec := { name := "fnStack", fn := fun _ => fun
  | [d] => { results := [.lit (.bool false)], args := [d] }
  | _ => none }
def FnStackWrongFalsely : Prop := fnStackRow.holds Try.pinned (OpenSpec.ofChange fnStackWrong)

/- THE SECOND FORM. 'bulk': how many values and letters a reading holds, each counted each time it is reached (what is shared counts as often as it is met; a slice's spare places count too). A statement '..UptoSaid' is the law's where the arguments, and the package variables that the reading takes, are together of bulk at most 1048576: NARROWER than '..Said'. Prove '..Said' where nothing that the law and all that it calls make is longer than what came in: it says more and counts as full. Else prove '..UptoSaid'. A law counts once. -/
mutual
def uptoBulk {H : Type} : DataW H → Nat
  | .lit (.string bytes) => bytes.length + 1
  | .lit _ => 1
  | .nil => 1
  | .ptr d => uptoBulk d + 1
  | .slice elems spare => uptoBulkAll elems + uptoBulkAll spare + 1
  | .agg parts => uptoBulkAll parts + 1
  | .iface _ d => uptoBulk d + 1
  | .map entries => uptoBulkEntries entries + 1
  | .held _ => 1
def uptoBulkAll {H : Type} : List (DataW H) → Nat
  | [] => 0
  | d :: r => uptoBulk d + uptoBulkAll r
def uptoBulkEntries {H : Type} : List (Lit × DataW H) → Nat
  | [] => 0
  | x :: r => uptoBulkEntry x + uptoBulkEntries r
def uptoBulkEntry {H : Type} : Lit × DataW H → Nat
  | (.string bytes, d) => bytes.length + uptoBulk d + 1
  | (_, d) => uptoBulk d + 1
 end
def uptoSmall : (H : Type) → List (DataW H) → Bool := fun _ ds => decide (uptoBulkAll ds ≤ 1048576)
def OpenSpec.upto (s : _root_.Go.ChangeSpec) : _root_.Go.OpenSpec := { _root_.Go.OpenSpec.ofChange s with cond := some uptoSmall }

/-- 'laws.FnClamp', WHERE WHAT IT READS IS OF BULK AT MOST 1048576: true; the input reads as it did. -/
def fnClampUptoRow : OpenClaim := { program := "ytaehbephmjolcaa", sum := "a1996636a16b20f759d7571208ebadac6a1135fb67adcaba3857c7a7f7503cca", func := "pub-strainer/laws.FnClamp", spec := "fnClamp", apart := false, narrowed := true }
def FnClampUptoSaid : Prop := fnClampUptoRow.holds Try.pinned (OpenSpec.upto fnClampSpec)

/-- 'laws.FnStack', WHERE WHAT IT READS IS OF BULK AT MOST 1048576: true; the input reads as it did. -/
def fnStackUptoRow : OpenClaim := { program := "ytaehbephmjolcaa", sum := "a1996636a16b20f759d7571208ebadac6a1135fb67adcaba3857c7a7f7503cca", func := "pub-strainer/laws.FnStack", spec := "fnStack", apart := false, narrowed := true }
def FnStackUptoSaid : Prop := fnStackUptoRow.holds Try.pinned (OpenSpec.upto fnStackSpec)

end Rows
end Go.Proofs.Ytaehbephmjolcaa
