/-
  NARROWER THAN 'FOR EVERY INPUT', by the rows' own cells (each row's printed sentence says how): FnPlainQuote: laid · FnProgName: laid.
  DERIVED. THE GIVEN ROWS OF THIS SEAT. 2 by the template 'for every input the law returns true; each argument reads behind the call as it read before'; 0 by the template 'total and deterministic' (their statements: YtlbfcahmmjmgjaaDoorTotals.lean).
  GIVEN WITH THE SEED: the statements are not yours to turn. If you find one false, say at which input.
  Laid BY PROGRAM, IN A SANDBOX (cutbox-rows.mjs): the forced cells as the released guide's own fill.sh prints them over the translation 3eb97a7008a50186… (all of the seat's roots in one cut). By AI agents, Wed Nov 11 2026. No macro, syntax, notation, axiom, sorry.
-/
import Derived.Test.YtlbfcahmmjmgjaaDoorChecked
import GoSem.Claim
import GoSem.ClaimJoined
import GoSem.ClaimMapViews
import Derived.JoinedTies
import Derived.KernelRfl
namespace Go.Proofs.YtlbfcahmmjmgjaaDoor
/- THE CELL 'sum', in the pinned program and in every row, IS THE sha256 OF THE DUMP (.gsa) THAT YtlbfcahmmjmgjaaDoorProg.lean LOADS. Nothing in Lean hashes anything: it is a label: what it is worth is what the hold of that sum in a sandbox is worth. -/
noncomputable def Tryd.pinned : Pinned := { name := "ytlbfcahmmjmgjaadoor", sum := "3eb97a7008a50186144f0cb4aa7123e082c7ce17579430b0e27b1cafc1560c51", checked := Tryd.checked }
namespace Rows
def none {H : Type} : Left H := { results := [], args := [] }

/- WHAT THE LISTED PACKAGE-LEVEL VARIABLES READ AS WHEN THE CALL BEGINS. Each datum BY PROGRAM (the guide's laid-datum.mjs) off the statement by which the dump's own 'gosem.cut.vars' lays the variable. In a bare row this is a premise. The card (YtlbfcahmmjmgjaaDoorCards.lean) ties it to the program's text. -/
def laid_loop_example_pub_g03127_pub_regexp_specialBytes {H : Type} : DataW H := .agg [.lit (.int .u8 0), .lit (.int .u8 0), .lit (.int .u8 0), .lit (.int .u8 0), .lit (.int .u8 4), .lit (.int .u8 0), .lit (.int .u8 0), .lit (.int .u8 0), .lit (.int .u8 4), .lit (.int .u8 4), .lit (.int .u8 4), .lit (.int .u8 164), .lit (.int .u8 160), .lit (.int .u8 160), .lit (.int .u8 36), .lit (.int .u8 8)]
def laid_loop_example_pub_g03127_pub_regexp_matchSize {H : Type} : DataW H := .agg [.lit (.int .i64 128), .lit (.int .i64 512), .lit (.int .i64 2048), .lit (.int .i64 16384), .lit (.int .i64 0)]

/-- 'laws.FnPlainQuote': WHATEVER THE INPUT: true; the input reads as it did. -/
def fnPlainQuoteSpec : ChangeSpec := { name := "fnPlainQuote", vars := ["loop.example/pub-g03127/pub/regexp.specialBytes"], fn := fun _ => fun
  | [d, g1] => { results := [.lit (.bool true)], args := [d], vars := [g1] }
  | _ => none }
def fnPlainQuoteRow : OpenClaim := { program := "ytlbfcahmmjmgjaadoor", sum := "3eb97a7008a50186144f0cb4aa7123e082c7ce17579430b0e27b1cafc1560c51", func := "loop.example/pub-g03127/laws.FnPlainQuote", spec := "fnPlainQuote", inPlace := ["internal/bytealg.IndexByteString"], named := ["loop.example/pub-g03127/pub/regexp.specialBytes"], apart := false, laid := [("loop.example/pub-g03127/pub/regexp.specialBytes", laid_loop_example_pub_g03127_pub_regexp_specialBytes)] }
def FnPlainQuoteSaid : Prop := fnPlainQuoteRow.holds Tryd.pinned (OpenSpec.ofChange fnPlainQuoteSpec)

/-- ITS FALSE NEIGHBOUR: 'it returns false'. Refute it at one input. -/
def fnPlainQuoteWrong : ChangeSpec := { name := "fnPlainQuote", vars := ["loop.example/pub-g03127/pub/regexp.specialBytes"], fn := fun _ => fun
  | [d, g1] => { results := [.lit (.bool false)], args := [d], vars := [g1] }
  | _ => none }
def FnPlainQuoteWrongFalsely : Prop := fnPlainQuoteRow.holds Tryd.pinned (OpenSpec.ofChange fnPlainQuoteWrong)

/-- 'laws.FnProgName': WHATEVER THE INPUT: true; the input reads as it did. -/
def fnProgNameSpec : ChangeSpec := { name := "fnProgName", vars := ["loop.example/pub-g03127/pub/regexp.matchSize"], fn := fun _ => fun
  | [d1, d2, g1] => { results := [.lit (.bool true)], args := [d1, d2], vars := [g1] }
  | _ => none }
def fnProgNameRow : OpenClaim := { program := "ytlbfcahmmjmgjaadoor", sum := "3eb97a7008a50186144f0cb4aa7123e082c7ce17579430b0e27b1cafc1560c51", func := "loop.example/pub-g03127/laws.FnProgName", spec := "fnProgName", named := ["loop.example/pub-g03127/pub/regexp.matchSize"], apart := false, laid := [("loop.example/pub-g03127/pub/regexp.matchSize", laid_loop_example_pub_g03127_pub_regexp_matchSize)] }
def FnProgNameSaid : Prop := fnProgNameRow.holds Tryd.pinned (OpenSpec.ofChange fnProgNameSpec)

/-- ITS FALSE NEIGHBOUR: 'it returns false'. Refute it at one input. -/
def fnProgNameWrong : ChangeSpec := { name := "fnProgName", vars := ["loop.example/pub-g03127/pub/regexp.matchSize"], fn := fun _ => fun
  | [d1, d2, g1] => { results := [.lit (.bool false)], args := [d1, d2], vars := [g1] }
  | _ => none }
def FnProgNameWrongFalsely : Prop := fnProgNameRow.holds Tryd.pinned (OpenSpec.ofChange fnProgNameWrong)

/- THE SECOND FORM. 'bulk': how many values and letters a reading holds, each counted each time it is reached (what is shared counts as often as it is met; a slice's spare places count too). A statement '..UptoSaid' is the law's where the arguments, and the package variables that the reading takes, are together of bulk at most 1048576: NARROWER than '..Said'. Prove '..Said' where nothing that the law and all that it calls make is longer than what came in: it says more and counts as full. Else prove '..UptoSaid'. A law counts once. -/
mutual
def uptoBulk {H : Type} : DataW H → Nat
  | .lit (.string bytes) => bytes.length + 1
  | .lit _ => 1
  | .nil => 1
  | .ptr d => uptoBulk d + 1
  | .slice elems spare => uptoBulkAll elems + uptoBulkAll spare + 1
  | .agg parts => uptoBulkAll parts + 1
  | .iface _ d => uptoBulk d + 1
  | .map entries => uptoBulkEntries entries + 1
  | .held _ => 1
def uptoBulkAll {H : Type} : List (DataW H) → Nat
  | [] => 0
  | d :: r => uptoBulk d + uptoBulkAll r
def uptoBulkEntries {H : Type} : List (Lit × DataW H) → Nat
  | [] => 0
  | x :: r => uptoBulkEntry x + uptoBulkEntries r
def uptoBulkEntry {H : Type} : Lit × DataW H → Nat
  | (.string bytes, d) => bytes.length + uptoBulk d + 1
  | (_, d) => uptoBulk d + 1
 end
def uptoSmall : (H : Type) → List (DataW H) → Bool := fun _ ds => decide (uptoBulkAll ds ≤ 1048576)
def OpenSpec.upto (s : _root_.Go.ChangeSpec) : _root_.Go.OpenSpec := { _root_.Go.OpenSpec.ofChange s with cond := some uptoSmall }

/-- 'laws.FnPlainQuote', WHERE WHAT IT READS IS OF BULK AT MOST 1048576: true; the input reads as it did. -/
def fnPlainQuoteUptoRow : OpenClaim := { program := "ytlbfcahmmjmgjaadoor", sum := "3eb97a7008a50186144f0cb4aa7123e082c7ce17579430b0e27b1cafc1560c51", func := "loop.example/pub-g03127/laws.FnPlainQuote", spec := "fnPlainQuote", inPlace := ["internal/bytealg.IndexByteString"], named := ["loop.example/pub-g03127/pub/regexp.specialBytes"], apart := false, laid := [("loop.example/pub-g03127/pub/regexp.specialBytes", laid_loop_example_pub_g03127_pub_regexp_specialBytes)], narrowed := true }
def FnPlainQuoteUptoSaid : Prop := fnPlainQuoteUptoRow.holds Tryd.pinned (OpenSpec.upto fnPlainQuoteSpec)

/-- 'laws.FnProgName', WHERE WHAT IT READS IS OF BULK AT MOST 1048576: true; the input reads as it did. -/
def fnProgNameUptoRow : OpenClaim := { program := "ytlbfcahmmjmgjaadoor", sum := "3eb97a7008a50186144f0cb4aa7123e082c7ce17579430b0e27b1cafc1560c51", func := "loop.example/pub-g03127/laws.FnProgName", spec := "fnProgName", named := ["loop.example/pub-g03127/pub/regexp.matchSize"], apart := false, laid := [("loop.example/pub-g03127/pub/regexp.matchSize", laid_loop_example_pub_g03127_pub_regexp_matchSize)], narrowed := true }
def FnProgNameUptoSaid : Prop := fnProgNameUptoRow.holds Tryd.pinned (OpenSpec.upto fnProgNameSpec)

end Rows
end Go.Proofs.YtlbfcahmmjmgjaaDoor
