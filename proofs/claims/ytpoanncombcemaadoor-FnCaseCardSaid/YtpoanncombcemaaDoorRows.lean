/-
  NARROWER THAN 'FOR EVERY INPUT', by the rows' own cells (each row's printed sentence says how): FnAlternative: loops, laid · FnReverseParts: loops, laid · FnMergeSame: loops, laid · FnExplode: loops, laid · FnCase: loops, laid.
  DERIVED. THE GIVEN ROWS OF THIS SEAT. 5 by the template 'for every input the law returns true; each argument reads behind the call as it read before'; 0 by the template 'total and deterministic' (their statements: YtpoanncombcemaaDoorTotals.lean).
  GIVEN WITH THE SEED: the statements are not yours to turn. If you find one false, say at which input.
  Laid BY PROGRAM, IN A SANDBOX (cutbox-rows.mjs): the forced cells as the released guide's own fill.sh prints them over the translation 92695f29cee06ebc… (all of the seat's roots in one cut). By AI agents, Wed Nov 11 2026. No macro, syntax, notation, axiom, sorry.
-/
import Derived.Test.YtpoanncombcemaaDoorChecked
import GoSem.PinnedTables
import GoSem.Claim
import GoSem.ClaimJoined
import GoSem.ClaimMapViews
import Derived.JoinedTies
import Derived.KernelRfl
namespace Go.Proofs.YtpoanncombcemaaDoor
/- THE CELL 'sum', in the pinned program and in every row, IS THE sha256 OF THE DUMP (.gsa) THAT YtpoanncombcemaaDoorProg.lean LOADS. Nothing in Lean hashes anything: it is a label: what it is worth is what the hold of that sum in a sandbox is worth. -/
noncomputable def Tryd.pinned : Pinned := { name := "ytpoanncombcemaadoor", sum := "92695f29cee06ebc13880da04108314fc90632b9850101d80914ef777811d5f9", checked := Tryd.checked }
namespace Rows
def none {H : Type} : Left H := { results := [], args := [] }

/- WHAT THE LISTED PACKAGE-LEVEL VARIABLES READ AS WHEN THE CALL BEGINS. Each datum BY PROGRAM (the guide's laid-datum.mjs) off the statement by which the dump's own 'gosem.cut.vars' lays the variable. In a bare row this is a premise. The card (YtpoanncombcemaaDoorCards.lean) ties it to the program's text. -/
def laid_unicode_utf8_acceptRanges {H : Type} : DataW H := .agg [.agg [.lit (.int .u8 128), .lit (.int .u8 191)], .agg [.lit (.int .u8 160), .lit (.int .u8 191)], .agg [.lit (.int .u8 128), .lit (.int .u8 159)], .agg [.lit (.int .u8 144), .lit (.int .u8 191)], .agg [.lit (.int .u8 128), .lit (.int .u8 143)], .agg [.lit (.int .u8 0), .lit (.int .u8 0)], .agg [.lit (.int .u8 0), .lit (.int .u8 0)], .agg [.lit (.int .u8 0), .lit (.int .u8 0)], .agg [.lit (.int .u8 0), .lit (.int .u8 0)], .agg [.lit (.int .u8 0), .lit (.int .u8 0)], .agg [.lit (.int .u8 0), .lit (.int .u8 0)], .agg [.lit (.int .u8 0), .lit (.int .u8 0)], .agg [.lit (.int .u8 0), .lit (.int .u8 0)], .agg [.lit (.int .u8 0), .lit (.int .u8 0)], .agg [.lit (.int .u8 0), .lit (.int .u8 0)], .agg [.lit (.int .u8 0), .lit (.int .u8 0)]]
/-- One of Go's own tables, pinned by name: the form's constant. -/
def laid_unicode_utf8_first : DataW Unit := Go.Pinned.utf8First

/-- 'laws.FnAlternative': WHATEVER THE INPUT: true; the input reads as it did. -/
def fnAlternativeSpec : ChangeSpec := { name := "fnAlternative", fn := fun _ => fun
  | [d1, d2] => { results := [.lit (.bool true)], args := [d1, d2] }
  | _ => none }
def fnAlternativeRow : OpenClaim := { program := "ytpoanncombcemaadoor", sum := "92695f29cee06ebc13880da04108314fc90632b9850101d80914ef777811d5f9", func := "pub-strainer/laws.FnAlternative", spec := "fnAlternative", inPlace := ["math.archTrunc", "math.Float64bits", "math.Float64frombits"], unfollowed := true, recurses := true, named := ["unicode/utf8.first", "unicode/utf8.acceptRanges"], loops := true, apart := false, laid := [("unicode/utf8.acceptRanges", laid_unicode_utf8_acceptRanges), ("unicode/utf8.first", laid_unicode_utf8_first)] }
def FnAlternativeSaid : Prop := fnAlternativeRow.holds Tryd.pinned (OpenSpec.ofChange fnAlternativeSpec)

/-- ITS FALSE NEIGHBOUR: 'it returns false'. Refute it at one input. -/
def fnAlternativeWrong : ChangeSpec := { name := "fnAlternative", fn := fun _ => fun
  | [d1, d2] => { results := [.lit (.bool false)], args := [d1, d2] }
  | _ => none }
def FnAlternativeWrongFalsely : Prop := fnAlternativeRow.holds Tryd.pinned (OpenSpec.ofChange fnAlternativeWrong)

/-- 'laws.FnReverseParts': WHATEVER THE INPUT: true; the input reads as it did. -/
def fnReversePartsSpec : ChangeSpec := { name := "fnReverseParts", fn := fun _ => fun
  | [d1, d2] => { results := [.lit (.bool true)], args := [d1, d2] }
  | _ => none }
def fnReversePartsRow : OpenClaim := { program := "ytpoanncombcemaadoor", sum := "92695f29cee06ebc13880da04108314fc90632b9850101d80914ef777811d5f9", func := "pub-strainer/laws.FnReverseParts", spec := "fnReverseParts", inPlace := ["math.archTrunc", "math.Float64bits", "math.Float64frombits"], unfollowed := true, recurses := true, named := ["unicode/utf8.first", "unicode/utf8.acceptRanges"], loops := true, apart := false, laid := [("unicode/utf8.acceptRanges", laid_unicode_utf8_acceptRanges), ("unicode/utf8.first", laid_unicode_utf8_first)] }
def FnReversePartsSaid : Prop := fnReversePartsRow.holds Tryd.pinned (OpenSpec.ofChange fnReversePartsSpec)

/-- ITS FALSE NEIGHBOUR: 'it returns false'. Refute it at one input. -/
def fnReversePartsWrong : ChangeSpec := { name := "fnReverseParts", fn := fun _ => fun
  | [d1, d2] => { results := [.lit (.bool false)], args := [d1, d2] }
  | _ => none }
def FnReversePartsWrongFalsely : Prop := fnReversePartsRow.holds Tryd.pinned (OpenSpec.ofChange fnReversePartsWrong)

/-- 'laws.FnMergeSame': WHATEVER THE INPUT: true; the input reads as it did. -/
def fnMergeSameSpec : ChangeSpec := { name := "fnMergeSame", fn := fun _ => fun
  | [d] => { results := [.lit (.bool true)], args := [d] }
  | _ => none }
def fnMergeSameRow : OpenClaim := { program := "ytpoanncombcemaadoor", sum := "92695f29cee06ebc13880da04108314fc90632b9850101d80914ef777811d5f9", func := "pub-strainer/laws.FnMergeSame", spec := "fnMergeSame", inPlace := ["math.archTrunc", "math.Float64bits", "math.Float64frombits"], unfollowed := true, recurses := true, named := ["unicode/utf8.first", "unicode/utf8.acceptRanges"], loops := true, apart := false, laid := [("unicode/utf8.acceptRanges", laid_unicode_utf8_acceptRanges), ("unicode/utf8.first", laid_unicode_utf8_first)] }
def FnMergeSameSaid : Prop := fnMergeSameRow.holds Tryd.pinned (OpenSpec.ofChange fnMergeSameSpec)

/-- ITS FALSE NEIGHBOUR: 'it returns false'. Refute it at one input. -/
def fnMergeSameWrong : ChangeSpec := { name := "fnMergeSame", fn := fun _ => fun
  | [d] => { results := [.lit (.bool false)], args := [d] }
  | _ => none }
def FnMergeSameWrongFalsely : Prop := fnMergeSameRow.holds Tryd.pinned (OpenSpec.ofChange fnMergeSameWrong)

/-- 'laws.FnExplode': WHATEVER THE INPUT: true; the input reads as it did. -/
def fnExplodeSpec : ChangeSpec := { name := "fnExplode", fn := fun _ => fun
  | [d] => { results := [.lit (.bool true)], args := [d] }
  | _ => none }
def fnExplodeRow : OpenClaim := { program := "ytpoanncombcemaadoor", sum := "92695f29cee06ebc13880da04108314fc90632b9850101d80914ef777811d5f9", func := "pub-strainer/laws.FnExplode", spec := "fnExplode", inPlace := ["math.archTrunc", "math.Float64bits", "math.Float64frombits"], unfollowed := true, recurses := true, named := ["unicode/utf8.first", "unicode/utf8.acceptRanges"], loops := true, apart := false, laid := [("unicode/utf8.acceptRanges", laid_unicode_utf8_acceptRanges), ("unicode/utf8.first", laid_unicode_utf8_first)] }
def FnExplodeSaid : Prop := fnExplodeRow.holds Tryd.pinned (OpenSpec.ofChange fnExplodeSpec)

/-- ITS FALSE NEIGHBOUR: 'it returns false'. Refute it at one input. -/
def fnExplodeWrong : ChangeSpec := { name := "fnExplode", fn := fun _ => fun
  | [d] => { results := [.lit (.bool false)], args := [d] }
  | _ => none }
def FnExplodeWrongFalsely : Prop := fnExplodeRow.holds Tryd.pinned (OpenSpec.ofChange fnExplodeWrong)

/-- 'laws.FnCase': WHATEVER THE INPUT: true; the input reads as it did. -/
def fnCaseSpec : ChangeSpec := { name := "fnCase", fn := fun _ => fun
  | [d] => { results := [.lit (.bool true)], args := [d] }
  | _ => none }
def fnCaseRow : OpenClaim := { program := "ytpoanncombcemaadoor", sum := "92695f29cee06ebc13880da04108314fc90632b9850101d80914ef777811d5f9", func := "pub-strainer/laws.FnCase", spec := "fnCase", inPlace := ["internal/abi.NoEscape", "internal/bytealg.MakeNoZero", "math.archTrunc", "math.Float64bits", "math.Float64frombits"], unfollowed := true, recurses := true, named := ["unicode/utf8.first", "unicode/utf8.acceptRanges"], loops := true, apart := false, laid := [("unicode/utf8.acceptRanges", laid_unicode_utf8_acceptRanges), ("unicode/utf8.first", laid_unicode_utf8_first)] }
def FnCaseSaid : Prop := fnCaseRow.holds Tryd.pinned (OpenSpec.ofChange fnCaseSpec)

/-- ITS FALSE NEIGHBOUR: 'it returns false'. Refute it at one input. -/
def fnCaseWrong : ChangeSpec := { name := "fnCase", fn := fun _ => fun
  | [d] => { results := [.lit (.bool false)], args := [d] }
  | _ => none }
def FnCaseWrongFalsely : Prop := fnCaseRow.holds Tryd.pinned (OpenSpec.ofChange fnCaseWrong)

/- THE SECOND FORM. 'bulk': how many values and letters a reading holds, each counted each time it is reached (what is shared counts as often as it is met; a slice's spare places count too). A statement '..UptoSaid' is the law's where the arguments, and the package variables that the reading takes, are together of bulk at most 1048576: NARROWER than '..Said'. Prove '..Said' where nothing that the law and all that it calls make is longer than what came in: it says more and counts as full. Else prove '..UptoSaid'. A law counts once. -/
mutual
def uptoBulk {H : Type} : DataW H → Nat
  | .lit (.string bytes) => bytes.length + 1
  | .lit _ => 1
  | .nil => 1
  | .ptr d => uptoBulk d + 1
  | .slice elems spare => uptoBulkAll elems + uptoBulkAll spare + 1
  | .agg parts => uptoBulkAll parts + 1
  | .iface _ d => uptoBulk d + 1
  | .map entries => uptoBulkEntries entries + 1
  | .held _ => 1
def uptoBulkAll {H : Type} : List (DataW H) → Nat
  | [] => 0
  | d :: r => uptoBulk d + uptoBulkAll r
def uptoBulkEntries {H : Type} : List (Lit × DataW H) → Nat
  | [] => 0
  | x :: r => uptoBulkEntry x + uptoBulkEntries r
def uptoBulkEntry {H : Type} : Lit × DataW H → Nat
  | (.string bytes, d) => bytes.length + uptoBulk d + 1
  | (_, d) => uptoBulk d + 1
 end
def uptoSmall : (H : Type) → List (DataW H) → Bool := fun _ ds => decide (uptoBulkAll ds ≤ 1048576)
def OpenSpec.upto (s : _root_.Go.ChangeSpec) : _root_.Go.OpenSpec := { _root_.Go.OpenSpec.ofChange s with cond := some uptoSmall }

/-- 'laws.FnAlternative', WHERE WHAT IT READS IS OF BULK AT MOST 1048576: true; the input reads as it did. -/
def fnAlternativeUptoRow : OpenClaim := { program := "ytpoanncombcemaadoor", sum := "92695f29cee06ebc13880da04108314fc90632b9850101d80914ef777811d5f9", func := "pub-strainer/laws.FnAlternative", spec := "fnAlternative", inPlace := ["math.archTrunc", "math.Float64bits", "math.Float64frombits"], unfollowed := true, recurses := true, named := ["unicode/utf8.first", "unicode/utf8.acceptRanges"], loops := true, apart := false, laid := [("unicode/utf8.acceptRanges", laid_unicode_utf8_acceptRanges), ("unicode/utf8.first", laid_unicode_utf8_first)], narrowed := true }
def FnAlternativeUptoSaid : Prop := fnAlternativeUptoRow.holds Tryd.pinned (OpenSpec.upto fnAlternativeSpec)

/-- 'laws.FnReverseParts', WHERE WHAT IT READS IS OF BULK AT MOST 1048576: true; the input reads as it did. -/
def fnReversePartsUptoRow : OpenClaim := { program := "ytpoanncombcemaadoor", sum := "92695f29cee06ebc13880da04108314fc90632b9850101d80914ef777811d5f9", func := "pub-strainer/laws.FnReverseParts", spec := "fnReverseParts", inPlace := ["math.archTrunc", "math.Float64bits", "math.Float64frombits"], unfollowed := true, recurses := true, named := ["unicode/utf8.first", "unicode/utf8.acceptRanges"], loops := true, apart := false, laid := [("unicode/utf8.acceptRanges", laid_unicode_utf8_acceptRanges), ("unicode/utf8.first", laid_unicode_utf8_first)], narrowed := true }
def FnReversePartsUptoSaid : Prop := fnReversePartsUptoRow.holds Tryd.pinned (OpenSpec.upto fnReversePartsSpec)

/-- 'laws.FnMergeSame', WHERE WHAT IT READS IS OF BULK AT MOST 1048576: true; the input reads as it did. -/
def fnMergeSameUptoRow : OpenClaim := { program := "ytpoanncombcemaadoor", sum := "92695f29cee06ebc13880da04108314fc90632b9850101d80914ef777811d5f9", func := "pub-strainer/laws.FnMergeSame", spec := "fnMergeSame", inPlace := ["math.archTrunc", "math.Float64bits", "math.Float64frombits"], unfollowed := true, recurses := true, named := ["unicode/utf8.first", "unicode/utf8.acceptRanges"], loops := true, apart := false, laid := [("unicode/utf8.acceptRanges", laid_unicode_utf8_acceptRanges), ("unicode/utf8.first", laid_unicode_utf8_first)], narrowed := true }
def FnMergeSameUptoSaid : Prop := fnMergeSameUptoRow.holds Tryd.pinned (OpenSpec.upto fnMergeSameSpec)

/-- 'laws.FnExplode', WHERE WHAT IT READS IS OF BULK AT MOST 1048576: true; the input reads as it did. -/
def fnExplodeUptoRow : OpenClaim := { program := "ytpoanncombcemaadoor", sum := "92695f29cee06ebc13880da04108314fc90632b9850101d80914ef777811d5f9", func := "pub-strainer/laws.FnExplode", spec := "fnExplode", inPlace := ["math.archTrunc", "math.Float64bits", "math.Float64frombits"], unfollowed := true, recurses := true, named := ["unicode/utf8.first", "unicode/utf8.acceptRanges"], loops := true, apart := false, laid := [("unicode/utf8.acceptRanges", laid_unicode_utf8_acceptRanges), ("unicode/utf8.first", laid_unicode_utf8_first)], narrowed := true }
def FnExplodeUptoSaid : Prop := fnExplodeUptoRow.holds Tryd.pinned (OpenSpec.upto fnExplodeSpec)

/-- 'laws.FnCase', WHERE WHAT IT READS IS OF BULK AT MOST 1048576: true; the input reads as it did. -/
def fnCaseUptoRow : OpenClaim := { program := "ytpoanncombcemaadoor", sum := "92695f29cee06ebc13880da04108314fc90632b9850101d80914ef777811d5f9", func := "pub-strainer/laws.FnCase", spec := "fnCase", inPlace := ["internal/abi.NoEscape", "internal/bytealg.MakeNoZero", "math.archTrunc", "math.Float64bits", "math.Float64frombits"], unfollowed := true, recurses := true, named := ["unicode/utf8.first", "unicode/utf8.acceptRanges"], loops := true, apart := false, laid := [("unicode/utf8.acceptRanges", laid_unicode_utf8_acceptRanges), ("unicode/utf8.first", laid_unicode_utf8_first)], narrowed := true }
def FnCaseUptoSaid : Prop := fnCaseUptoRow.holds Tryd.pinned (OpenSpec.upto fnCaseSpec)

end Rows
end Go.Proofs.YtpoanncombcemaaDoor
