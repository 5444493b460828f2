/-
  NARROWER THAN 'FOR EVERY INPUT', by the rows' own cells (each row's printed sentence says how): FnSizes: ifaces, laid.
  DERIVED. THE GIVEN ROWS OF THIS SEAT. 1 by the template 'for every input the law returns true; each argument reads behind the call as it read before'; 0 by the template 'total and deterministic' (their statements: YtdhnmhefdmlbiaaDoorTotals.lean).
  GIVEN WITH THE SEED: the statements are not yours to turn. If you find one false, say at which input.
  Laid BY PROGRAM, IN A SANDBOX (cutbox-rows.mjs): the forced cells as the released guide's own fill.sh prints them over the translation 7ef8ca6f1af1bb68… (all of the seat's roots in one cut). By AI agents, Wed Nov 11 2026. No macro, syntax, notation, axiom, sorry.
-/
import Derived.Test.YtdhnmhefdmlbiaaDoorChecked
import GoSem.Claim
import GoSem.ClaimJoined
import GoSem.ClaimMapViews
import Derived.JoinedTies
import Derived.KernelRfl
namespace Go.Proofs.YtdhnmhefdmlbiaaDoor
/- THE CELL 'sum', in the pinned program and in every row, IS THE sha256 OF THE DUMP (.gsa) THAT YtdhnmhefdmlbiaaDoorProg.lean LOADS. Nothing in Lean hashes anything: it is a label: what it is worth is what the hold of that sum in a sandbox is worth. -/
noncomputable def Tryd.pinned : Pinned := { name := "ytdhnmhefdmlbiaadoor", sum := "7ef8ca6f1af1bb6868f8817e95825093ff34d989428cbffd25639c0b40a03540", checked := Tryd.checked }
namespace Rows
def none {H : Type} : Left H := { results := [], args := [] }

/- WHAT THE LISTED PACKAGE-LEVEL VARIABLES READ AS WHEN THE CALL BEGINS. Each datum BY PROGRAM (the guide's laid-datum.mjs) off the statement by which the dump's own 'gosem.cut.vars' lays the variable. In a bare row this is a premise. The card (YtdhnmhefdmlbiaaDoorCards.lean) ties it to the program's text. -/
def laid_loop_example_pub_g03123_pub_crypto_blake2b_errKeySize {H : Type} : DataW H := .iface "*errors.errorString" (.ptr (.agg [.lit (.string [98, 108, 97, 107, 101, 50, 98, 58, 32, 105, 110, 118, 97, 108, 105, 100, 32, 107, 101, 121, 32, 115, 105, 122, 101])]))
def laid_loop_example_pub_g03123_pub_crypto_blake2b_errHashSize {H : Type} : DataW H := .iface "*errors.errorString" (.ptr (.agg [.lit (.string [98, 108, 97, 107, 101, 50, 98, 58, 32, 105, 110, 118, 97, 108, 105, 100, 32, 104, 97, 115, 104, 32, 115, 105, 122, 101])]))
def laid_loop_example_pub_g03123_pub_crypto_blake2b_iv {H : Type} : DataW H := .agg [.lit (.int .u64 7640891576956012808), .lit (.int .u64 13503953896175478587), .lit (.int .u64 4354685564936845355), .lit (.int .u64 11912009170470909681), .lit (.int .u64 5840696475078001361), .lit (.int .u64 11170449401992604703), .lit (.int .u64 2270897969802886507), .lit (.int .u64 6620516959819538809)]
def laid_loop_example_pub_g03123_pub_crypto_blake2s_errKeySize {H : Type} : DataW H := .iface "*errors.errorString" (.ptr (.agg [.lit (.string [98, 108, 97, 107, 101, 50, 115, 58, 32, 105, 110, 118, 97, 108, 105, 100, 32, 107, 101, 121, 32, 115, 105, 122, 101])]))
def laid_loop_example_pub_g03123_pub_crypto_blake2s_iv {H : Type} : DataW H := .agg [.lit (.int .u32 1779033703), .lit (.int .u32 3144134277), .lit (.int .u32 1013904242), .lit (.int .u32 2773480762), .lit (.int .u32 1359893119), .lit (.int .u32 2600822924), .lit (.int .u32 528734635), .lit (.int .u32 1541459225)]

/-- 'laws.FnSizes': WHATEVER THE INPUT: true; the input reads as it did. -/
def fnSizesSpec : ChangeSpec := { name := "fnSizes", vars := ["loop.example/pub-g03123/pub/crypto/blake2s.errKeySize", "loop.example/pub-g03123/pub/crypto/blake2s.iv", "loop.example/pub-g03123/pub/crypto/blake2b.errHashSize", "loop.example/pub-g03123/pub/crypto/blake2b.errKeySize", "loop.example/pub-g03123/pub/crypto/blake2b.iv"], fn := fun _ => fun
  | [d, g1, g2, g3, g4, g5] => { results := [.lit (.bool true)], args := [d], vars := [g1, g2, g3, g4, g5] }
  | _ => none }
def fnSizesRow : OpenClaim := { program := "ytdhnmhefdmlbiaadoor", sum := "7ef8ca6f1af1bb6868f8817e95825093ff34d989428cbffd25639c0b40a03540", func := "loop.example/pub-g03123/laws.FnSizes", spec := "fnSizes", unfollowed := true, recurses := true, named := ["loop.example/pub-g03123/pub/crypto/blake2s.errKeySize", "loop.example/pub-g03123/pub/crypto/blake2s.iv", "loop.example/pub-g03123/pub/crypto/blake2b.errHashSize", "loop.example/pub-g03123/pub/crypto/blake2b.errKeySize", "loop.example/pub-g03123/pub/crypto/blake2b.iv"], ifaces := true, apart := false, laid := [("loop.example/pub-g03123/pub/crypto/blake2b.errKeySize", laid_loop_example_pub_g03123_pub_crypto_blake2b_errKeySize), ("loop.example/pub-g03123/pub/crypto/blake2b.errHashSize", laid_loop_example_pub_g03123_pub_crypto_blake2b_errHashSize), ("loop.example/pub-g03123/pub/crypto/blake2b.iv", laid_loop_example_pub_g03123_pub_crypto_blake2b_iv), ("loop.example/pub-g03123/pub/crypto/blake2s.errKeySize", laid_loop_example_pub_g03123_pub_crypto_blake2s_errKeySize), ("loop.example/pub-g03123/pub/crypto/blake2s.iv", laid_loop_example_pub_g03123_pub_crypto_blake2s_iv)] }
def FnSizesSaid : Prop := fnSizesRow.holds Tryd.pinned (OpenSpec.ofChange fnSizesSpec)

/-- ITS FALSE NEIGHBOUR: 'it returns false'. Refute it at one input. -/
def fnSizesWrong : ChangeSpec := { name := "fnSizes", vars := ["loop.example/pub-g03123/pub/crypto/blake2s.errKeySize", "loop.example/pub-g03123/pub/crypto/blake2s.iv", "loop.example/pub-g03123/pub/crypto/blake2b.errHashSize", "loop.example/pub-g03123/pub/crypto/blake2b.errKeySize", "loop.example/pub-g03123/pub/crypto/blake2b.iv"], fn := fun _ => fun
  | [d, g1, g2, g3, g4, g5] => { results := [.lit (.bool false)], args := [d], vars := [g1, g2, g3, g4, g5] }
  | _ => none }
def FnSizesWrongFalsely : Prop := fnSizesRow.holds Tryd.pinned (OpenSpec.ofChange fnSizesWrong)

/- THE SECOND FORM. 'bulk': how many values and letters a reading holds, each counted each time it is reached (what is shared counts as often as it is met; a slice's spare places count too). A statement '..UptoSaid' is the law's where the arguments, and the package variables that the reading takes, are together of bulk at most 1048576: NARROWER than '..Said'. Prove '..Said' where nothing that the law and all that it calls make is longer than what came in: it says more and counts as full. Else prove '..UptoSaid'. A law counts once. -/
mutual
def uptoBulk {H : Type} : DataW H → Nat
  | .lit (.string bytes) => bytes.length + 1
  | .lit _ => 1
  | .nil => 1
  | .ptr d => uptoBulk d + 1
  | .slice elems spare => uptoBulkAll elems + uptoBulkAll spare + 1
  | .agg parts => uptoBulkAll parts + 1
  | .iface _ d => uptoBulk d + 1
  | .map entries => uptoBulkEntries entries + 1
  | .held _ => 1
def uptoBulkAll {H : Type} : List (DataW H) → Nat
  | [] => 0
  | d :: r => uptoBulk d + uptoBulkAll r
def uptoBulkEntries {H : Type} : List (Lit × DataW H) → Nat
  | [] => 0
  | x :: r => uptoBulkEntry x + uptoBulkEntries r
def uptoBulkEntry {H : Type} : Lit × DataW H → Nat
  | (.string bytes, d) => bytes.length + uptoBulk d + 1
  | (_, d) => uptoBulk d + 1
 end
def uptoSmall : (H : Type) → List (DataW H) → Bool := fun _ ds => decide (uptoBulkAll ds ≤ 1048576)
def OpenSpec.upto (s : _root_.Go.ChangeSpec) : _root_.Go.OpenSpec := { _root_.Go.OpenSpec.ofChange s with cond := some uptoSmall }

/-- 'laws.FnSizes', WHERE WHAT IT READS IS OF BULK AT MOST 1048576: true; the input reads as it did. -/
def fnSizesUptoRow : OpenClaim := { program := "ytdhnmhefdmlbiaadoor", sum := "7ef8ca6f1af1bb6868f8817e95825093ff34d989428cbffd25639c0b40a03540", func := "loop.example/pub-g03123/laws.FnSizes", spec := "fnSizes", unfollowed := true, recurses := true, named := ["loop.example/pub-g03123/pub/crypto/blake2s.errKeySize", "loop.example/pub-g03123/pub/crypto/blake2s.iv", "loop.example/pub-g03123/pub/crypto/blake2b.errHashSize", "loop.example/pub-g03123/pub/crypto/blake2b.errKeySize", "loop.example/pub-g03123/pub/crypto/blake2b.iv"], ifaces := true, apart := false, laid := [("loop.example/pub-g03123/pub/crypto/blake2b.errKeySize", laid_loop_example_pub_g03123_pub_crypto_blake2b_errKeySize), ("loop.example/pub-g03123/pub/crypto/blake2b.errHashSize", laid_loop_example_pub_g03123_pub_crypto_blake2b_errHashSize), ("loop.example/pub-g03123/pub/crypto/blake2b.iv", laid_loop_example_pub_g03123_pub_crypto_blake2b_iv), ("loop.example/pub-g03123/pub/crypto/blake2s.errKeySize", laid_loop_example_pub_g03123_pub_crypto_blake2s_errKeySize), ("loop.example/pub-g03123/pub/crypto/blake2s.iv", laid_loop_example_pub_g03123_pub_crypto_blake2s_iv)], narrowed := true }
def FnSizesUptoSaid : Prop := fnSizesUptoRow.holds Tryd.pinned (OpenSpec.upto fnSizesSpec)

end Rows
end Go.Proofs.YtdhnmhefdmlbiaaDoor
