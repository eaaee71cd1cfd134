/-
  No cell of these rows narrows 'for every input' (looked for: loops, veiled, ifaces, maps, wideKeys, modest, calm, conditions, laid).
  DERIVED. THE GIVEN ROWS OF THIS SEAT. 3 by the template 'for every input the law returns true; each argument reads behind the call as it read before'; 0 by the template 'total and deterministic' (their statements: YtmbkmaiklpoijaaTotals.lean).
  GIVEN WITH THE SEED: the statements are not yours to turn. If you find one false, say at which input.
  Laid BY PROGRAM, IN A SANDBOX (cutbox-rows.mjs): the forced cells as the released guide's own fill.sh prints them over the translation 53845f8537b8e0d4… (all of the seat's roots in one cut). By AI agents, Wed Nov 11 2026. No macro, syntax, notation, axiom, sorry.
-/
import Derived.Test.YtmbkmaiklpoijaaChecked
import GoSem.Claim
import GoSem.ClaimJoined
import GoSem.ClaimMapViews
import Derived.JoinedTies
import Derived.KernelRfl
namespace Go.Proofs.Ytmbkmaiklpoijaa
/- THE CELL 'sum', in the pinned program and in every row, IS THE sha256 OF THE DUMP (.gsa) THAT YtmbkmaiklpoijaaProg.lean LOADS. Nothing in Lean hashes anything: it is a label: what it is worth is what the hold of that sum in a sandbox is worth. -/
noncomputable def Try.pinned : Pinned := { name := "ytmbkmaiklpoijaa", sum := "53845f8537b8e0d4585ef6eb398b8736da7492e3da0494d85f50fe57c908c7aa", checked := Try.checked }
namespace Rows
def none {H : Type} : Left H := { results := [], args := [] }

/-- 'n003_74.FnNewUnresetLexerYieldsNothing': WHATEVER THE INPUT: true; the input reads as it did. -/
def fnNewUnresetLexerYieldsNothingSpec : ChangeSpec := { name := "fnNewUnresetLexerYieldsNothing", fn := fun _ => fun
  | [] => { results := [.lit (.bool true)], args := [] }
  | _ => none }
def fnNewUnresetLexerYieldsNothingRow : OpenClaim := { program := "ytmbkmaiklpoijaa", sum := "53845f8537b8e0d4585ef6eb398b8736da7492e3da0494d85f50fe57c908c7aa", func := "github.com/expr-lang/expr/n003_74.FnNewUnresetLexerYieldsNothing", spec := "fnNewUnresetLexerYieldsNothing", inPlace := ["internal/bytealg.IndexByteString", "internal/abi.NoEscape", "internal/bytealg.MakeNoZero"], unfollowed := true, recurses := true, apart := false }
def FnNewUnresetLexerYieldsNothingSaid : Prop := fnNewUnresetLexerYieldsNothingRow.holds Try.pinned (OpenSpec.ofChange fnNewUnresetLexerYieldsNothingSpec)

/-- ITS FALSE NEIGHBOUR: 'it returns false'. Refute it at one input. -/
def fnNewUnresetLexerYieldsNothingWrong : ChangeSpec := { name := "fnNewUnresetLexerYieldsNothing", fn := fun _ => fun
  | [] => { results := [.lit (.bool false)], args := [] }
  | _ => none }
def FnNewUnresetLexerYieldsNothingWrongFalsely : Prop := fnNewUnresetLexerYieldsNothingRow.holds Try.pinned (OpenSpec.ofChange fnNewUnresetLexerYieldsNothingWrong)

/-- 'n003_76.FnIsPrivateHangsOnFirstByteOnly': WHATEVER THE INPUT: true; the input reads as it did. -/
def fnIsPrivateHangsOnFirstByteOnlySpec : ChangeSpec := { name := "fnIsPrivateHangsOnFirstByteOnly", fn := fun _ => fun
  | [d1, d2] => { results := [.lit (.bool true)], args := [d1, d2] }
  | _ => none }
def fnIsPrivateHangsOnFirstByteOnlyRow : OpenClaim := { program := "ytmbkmaiklpoijaa", sum := "53845f8537b8e0d4585ef6eb398b8736da7492e3da0494d85f50fe57c908c7aa", func := "github.com/expr-lang/expr/n003_76.FnIsPrivateHangsOnFirstByteOnly", spec := "fnIsPrivateHangsOnFirstByteOnly", apart := false }
def FnIsPrivateHangsOnFirstByteOnlySaid : Prop := fnIsPrivateHangsOnFirstByteOnlyRow.holds Try.pinned (OpenSpec.ofChange fnIsPrivateHangsOnFirstByteOnlySpec)

/-- ITS FALSE NEIGHBOUR: 'it returns false'. Refute it at one input. -/
def fnIsPrivateHangsOnFirstByteOnlyWrong : ChangeSpec := { name := "fnIsPrivateHangsOnFirstByteOnly", fn := fun _ => fun
  | [d1, d2] => { results := [.lit (.bool false)], args := [d1, d2] }
  | _ => none }
def FnIsPrivateHangsOnFirstByteOnlyWrongFalsely : Prop := fnIsPrivateHangsOnFirstByteOnlyRow.holds Try.pinned (OpenSpec.ofChange fnIsPrivateHangsOnFirstByteOnlyWrong)

/-- 'n003_76.FnIsPrivateIsNoCapitalFirst': WHATEVER THE INPUT: true; the input reads as it did. -/
def fnIsPrivateIsNoCapitalFirstSpec : ChangeSpec := { name := "fnIsPrivateIsNoCapitalFirst", fn := fun _ => fun
  | [d] => { results := [.lit (.bool true)], args := [d] }
  | _ => none }
def fnIsPrivateIsNoCapitalFirstRow : OpenClaim := { program := "ytmbkmaiklpoijaa", sum := "53845f8537b8e0d4585ef6eb398b8736da7492e3da0494d85f50fe57c908c7aa", func := "github.com/expr-lang/expr/n003_76.FnIsPrivateIsNoCapitalFirst", spec := "fnIsPrivateIsNoCapitalFirst", apart := false }
def FnIsPrivateIsNoCapitalFirstSaid : Prop := fnIsPrivateIsNoCapitalFirstRow.holds Try.pinned (OpenSpec.ofChange fnIsPrivateIsNoCapitalFirstSpec)

/-- ITS FALSE NEIGHBOUR: 'it returns false'. Refute it at one input. -/
def fnIsPrivateIsNoCapitalFirstWrong : ChangeSpec := { name := "fnIsPrivateIsNoCapitalFirst", fn := fun _ => fun
  | [d] => { results := [.lit (.bool false)], args := [d] }
  | _ => none }
def FnIsPrivateIsNoCapitalFirstWrongFalsely : Prop := fnIsPrivateIsNoCapitalFirstRow.holds Try.pinned (OpenSpec.ofChange fnIsPrivateIsNoCapitalFirstWrong)

/- THE SECOND FORM. 'bulk': how many values and letters a reading holds, each counted each time it is reached (what is shared counts as often as it is met; a slice's spare places count too). A statement '..UptoSaid' is the law's where the arguments, and the package variables that the reading takes, are together of bulk at most 1048576: NARROWER than '..Said'. Prove '..Said' where nothing that the law and all that it calls make is longer than what came in: it says more and counts as full. Else prove '..UptoSaid'. A law counts once. -/
mutual
def uptoBulk {H : Type} : DataW H → Nat
  | .lit (.string bytes) => bytes.length + 1
  | .lit _ => 1
  | .nil => 1
  | .ptr d => uptoBulk d + 1
  | .slice elems spare => uptoBulkAll elems + uptoBulkAll spare + 1
  | .agg parts => uptoBulkAll parts + 1
  | .iface _ d => uptoBulk d + 1
  | .map entries => uptoBulkEntries entries + 1
  | .held _ => 1
def uptoBulkAll {H : Type} : List (DataW H) → Nat
  | [] => 0
  | d :: r => uptoBulk d + uptoBulkAll r
def uptoBulkEntries {H : Type} : List (Lit × DataW H) → Nat
  | [] => 0
  | x :: r => uptoBulkEntry x + uptoBulkEntries r
def uptoBulkEntry {H : Type} : Lit × DataW H → Nat
  | (.string bytes, d) => bytes.length + uptoBulk d + 1
  | (_, d) => uptoBulk d + 1
 end
def uptoSmall : (H : Type) → List (DataW H) → Bool := fun _ ds => decide (uptoBulkAll ds ≤ 1048576)
def OpenSpec.upto (s : _root_.Go.ChangeSpec) : _root_.Go.OpenSpec := { _root_.Go.OpenSpec.ofChange s with cond := some uptoSmall }

/-- 'n003_74.FnNewUnresetLexerYieldsNothing', WHERE WHAT IT READS IS OF BULK AT MOST 1048576: true; the input reads as it did. -/
def fnNewUnresetLexerYieldsNothingUptoRow : OpenClaim := { program := "ytmbkmaiklpoijaa", sum := "53845f8537b8e0d4585ef6eb398b8736da7492e3da0494d85f50fe57c908c7aa", func := "github.com/expr-lang/expr/n003_74.FnNewUnresetLexerYieldsNothing", spec := "fnNewUnresetLexerYieldsNothing", inPlace := ["internal/bytealg.IndexByteString", "internal/abi.NoEscape", "internal/bytealg.MakeNoZero"], unfollowed := true, recurses := true, apart := false, narrowed := true }
def FnNewUnresetLexerYieldsNothingUptoSaid : Prop := fnNewUnresetLexerYieldsNothingUptoRow.holds Try.pinned (OpenSpec.upto fnNewUnresetLexerYieldsNothingSpec)

/-- 'n003_76.FnIsPrivateHangsOnFirstByteOnly', WHERE WHAT IT READS IS OF BULK AT MOST 1048576: true; the input reads as it did. -/
def fnIsPrivateHangsOnFirstByteOnlyUptoRow : OpenClaim := { program := "ytmbkmaiklpoijaa", sum := "53845f8537b8e0d4585ef6eb398b8736da7492e3da0494d85f50fe57c908c7aa", func := "github.com/expr-lang/expr/n003_76.FnIsPrivateHangsOnFirstByteOnly", spec := "fnIsPrivateHangsOnFirstByteOnly", apart := false, narrowed := true }
def FnIsPrivateHangsOnFirstByteOnlyUptoSaid : Prop := fnIsPrivateHangsOnFirstByteOnlyUptoRow.holds Try.pinned (OpenSpec.upto fnIsPrivateHangsOnFirstByteOnlySpec)

/-- 'n003_76.FnIsPrivateIsNoCapitalFirst', WHERE WHAT IT READS IS OF BULK AT MOST 1048576: true; the input reads as it did. -/
def fnIsPrivateIsNoCapitalFirstUptoRow : OpenClaim := { program := "ytmbkmaiklpoijaa", sum := "53845f8537b8e0d4585ef6eb398b8736da7492e3da0494d85f50fe57c908c7aa", func := "github.com/expr-lang/expr/n003_76.FnIsPrivateIsNoCapitalFirst", spec := "fnIsPrivateIsNoCapitalFirst", apart := false, narrowed := true }
def FnIsPrivateIsNoCapitalFirstUptoSaid : Prop := fnIsPrivateIsNoCapitalFirstUptoRow.holds Try.pinned (OpenSpec.upto fnIsPrivateIsNoCapitalFirstSpec)

end Rows
end Go.Proofs.Ytmbkmaiklpoijaa
