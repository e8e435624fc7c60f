/-
  NARROWER THAN 'FOR EVERY INPUT', by the rows' own cells (each row's printed sentence says how): FnMapG2: ifaces, laid · FnHashLong: ifaces, laid.
  DERIVED. THE GIVEN ROWS OF THIS SEAT. 2 by the template 'for every input the law returns true; each argument reads behind the call as it read before'; 0 by the template 'total and deterministic' (their statements: YtajbcjgonpoojaaGreatDoorTotals.lean).
  GIVEN WITH THE SEED: the statements are not yours to turn. If you find one false, say at which input.
  Laid BY PROGRAM, IN A SANDBOX (cutbox-rows.mjs): the forced cells as the released guide's own fill.sh prints them over the translation c8f7600f211166dd… (all of the seat's roots in one cut). By AI agents, Wed Nov 11 2026. No macro, syntax, notation, axiom, sorry.
-/
import Derived.Test.YtajbcjgonpoojaaGreatDoorChecked
import GoSem.Claim
import GoSem.ClaimJoined
import GoSem.ClaimMapViews
import Derived.JoinedTies
import Derived.KernelRfl
namespace Go.Proofs.YtajbcjgonpoojaaGreatDoor
/- THE CELL 'sum', in the pinned program and in every row, IS THE sha256 OF THE DUMP (.gsa) THAT YtajbcjgonpoojaaGreatDoorProg.lean LOADS. Nothing in Lean hashes anything: it is a label: what it is worth is what the hold of that sum in a sandbox is worth. -/
noncomputable def Tryz.pinned : Pinned := { name := "ytajbcjgonpoojaagreatdoor", sum := "c8f7600f211166dd27481d9791d15c79f5122bc69caa19ad2c77269ea77a8d7f", checked := Tryz.checked }
namespace Rows
def none {H : Type} : Left H := { results := [], args := [] }

/- WHAT THE LISTED PACKAGE-LEVEL VARIABLES READ AS WHEN THE CALL BEGINS. Each datum BY PROGRAM (the guide's laid-datum.mjs) off the statement by which the dump's own 'gosem.cut.vars' lays the variable. In a bare row this is a premise. The card (YtajbcjgonpoojaaGreatDoorCards.lean) ties it to the program's text. -/
def laid_loop_example_pub_g03347_pub_gnarkcrypto_ecc_bn254_fp_errInvalidEncoding {H : Type} : DataW H := .iface "*errors.errorString" (.ptr (.agg [.lit (.string [105, 110, 118, 97, 108, 105, 100, 32, 102, 112, 46, 69, 108, 101, 109, 101, 110, 116, 32, 101, 110, 99, 111, 100, 105, 110, 103])]))
def laid_loop_example_pub_g03347_pub_sha256_K {H : Type} : DataW H := .agg [.lit (.int .u32 1116352408), .lit (.int .u32 1899447441), .lit (.int .u32 3049323471), .lit (.int .u32 3921009573), .lit (.int .u32 961987163), .lit (.int .u32 1508970993), .lit (.int .u32 2453635748), .lit (.int .u32 2870763221), .lit (.int .u32 3624381080), .lit (.int .u32 310598401), .lit (.int .u32 607225278), .lit (.int .u32 1426881987), .lit (.int .u32 1925078388), .lit (.int .u32 2162078206), .lit (.int .u32 2614888103), .lit (.int .u32 3248222580), .lit (.int .u32 3835390401), .lit (.int .u32 4022224774), .lit (.int .u32 264347078), .lit (.int .u32 604807628), .lit (.int .u32 770255983), .lit (.int .u32 1249150122), .lit (.int .u32 1555081692), .lit (.int .u32 1996064986), .lit (.int .u32 2554220882), .lit (.int .u32 2821834349), .lit (.int .u32 2952996808), .lit (.int .u32 3210313671), .lit (.int .u32 3336571891), .lit (.int .u32 3584528711), .lit (.int .u32 113926993), .lit (.int .u32 338241895), .lit (.int .u32 666307205), .lit (.int .u32 773529912), .lit (.int .u32 1294757372), .lit (.int .u32 1396182291), .lit (.int .u32 1695183700), .lit (.int .u32 1986661051), .lit (.int .u32 2177026350), .lit (.int .u32 2456956037), .lit (.int .u32 2730485921), .lit (.int .u32 2820302411), .lit (.int .u32 3259730800), .lit (.int .u32 3345764771), .lit (.int .u32 3516065817), .lit (.int .u32 3600352804), .lit (.int .u32 4094571909), .lit (.int .u32 275423344), .lit (.int .u32 430227734), .lit (.int .u32 506948616), .lit (.int .u32 659060556), .lit (.int .u32 883997877), .lit (.int .u32 958139571), .lit (.int .u32 1322822218), .lit (.int .u32 1537002063), .lit (.int .u32 1747873779), .lit (.int .u32 1955562222), .lit (.int .u32 2024104815), .lit (.int .u32 2227730452), .lit (.int .u32 2361852424), .lit (.int .u32 2428436474), .lit (.int .u32 2756734187), .lit (.int .u32 3204031479), .lit (.int .u32 3329325298)]

/-- 'laws.FnMapG2': WHATEVER THE INPUT: true; the input reads as it did. -/
def fnMapG2Spec : ChangeSpec := { name := "fnMapG2", vars := ["loop.example/pub-g03347/pub/gnarkcrypto/ecc/bn254/fp.errInvalidEncoding"], fn := fun _ => fun
  | [d, g1] => { results := [.lit (.bool true)], args := [d], vars := [g1] }
  | _ => none }
def fnMapG2Row : OpenClaim := { program := "ytajbcjgonpoojaagreatdoor", sum := "c8f7600f211166dd27481d9791d15c79f5122bc69caa19ad2c77269ea77a8d7f", func := "loop.example/pub-g03347/laws.FnMapG2", spec := "fnMapG2", inPlace := ["math/bits.Add64", "math/bits.Sub64"], named := ["loop.example/pub-g03347/pub/gnarkcrypto/ecc/bn254/fp.errInvalidEncoding"], ifaces := true, apart := false, laid := [("loop.example/pub-g03347/pub/gnarkcrypto/ecc/bn254/fp.errInvalidEncoding", laid_loop_example_pub_g03347_pub_gnarkcrypto_ecc_bn254_fp_errInvalidEncoding)] }
def FnMapG2Said : Prop := fnMapG2Row.holds Tryz.pinned (OpenSpec.ofChange fnMapG2Spec)

/-- ITS FALSE NEIGHBOUR: 'it returns false'. Refute it at one input. -/
def fnMapG2Wrong : ChangeSpec := { name := "fnMapG2", vars := ["loop.example/pub-g03347/pub/gnarkcrypto/ecc/bn254/fp.errInvalidEncoding"], fn := fun _ => fun
  | [d, g1] => { results := [.lit (.bool false)], args := [d], vars := [g1] }
  | _ => none }
def FnMapG2WrongFalsely : Prop := fnMapG2Row.holds Tryz.pinned (OpenSpec.ofChange fnMapG2Wrong)

/-- 'laws.FnHashLong': WHATEVER THE INPUT: true; the input reads as it did. -/
def fnHashLongSpec : ChangeSpec := { name := "fnHashLong", vars := ["loop.example/pub-g03347/pub/sha256._K", "loop.example/pub-g03347/pub/gnarkcrypto/ecc/bn254/fp.errInvalidEncoding"], fn := fun _ => fun
  | [d1, d2, g1, g2] => { results := [.lit (.bool true)], args := [d1, d2], vars := [g1, g2] }
  | _ => none }
def fnHashLongRow : OpenClaim := { program := "ytajbcjgonpoojaagreatdoor", sum := "c8f7600f211166dd27481d9791d15c79f5122bc69caa19ad2c77269ea77a8d7f", func := "loop.example/pub-g03347/laws.FnHashLong", spec := "fnHashLong", inPlace := ["math/bits.Add64", "math/bits.Sub64"], unfollowed := true, recurses := true, named := ["loop.example/pub-g03347/pub/sha256._K", "loop.example/pub-g03347/pub/gnarkcrypto/ecc/bn254/fp.errInvalidEncoding"], ifaces := true, apart := false, laid := [("loop.example/pub-g03347/pub/sha256._K", laid_loop_example_pub_g03347_pub_sha256_K), ("loop.example/pub-g03347/pub/gnarkcrypto/ecc/bn254/fp.errInvalidEncoding", laid_loop_example_pub_g03347_pub_gnarkcrypto_ecc_bn254_fp_errInvalidEncoding)] }
def FnHashLongSaid : Prop := fnHashLongRow.holds Tryz.pinned (OpenSpec.ofChange fnHashLongSpec)

/-- ITS FALSE NEIGHBOUR: 'it returns false'. Refute it at one input. -/
def fnHashLongWrong : ChangeSpec := { name := "fnHashLong", vars := ["loop.example/pub-g03347/pub/sha256._K", "loop.example/pub-g03347/pub/gnarkcrypto/ecc/bn254/fp.errInvalidEncoding"], fn := fun _ => fun
  | [d1, d2, g1, g2] => { results := [.lit (.bool false)], args := [d1, d2], vars := [g1, g2] }
  | _ => none }
def FnHashLongWrongFalsely : Prop := fnHashLongRow.holds Tryz.pinned (OpenSpec.ofChange fnHashLongWrong)

/- THE SECOND FORM. 'bulk': how many values and letters a reading holds, each counted each time it is reached (what is shared counts as often as it is met; a slice's spare places count too). A statement '..UptoSaid' is the law's where the arguments, and the package variables that the reading takes, are together of bulk at most 1048576: NARROWER than '..Said'. Prove '..Said' where nothing that the law and all that it calls make is longer than what came in: it says more and counts as full. Else prove '..UptoSaid'. A law counts once. -/
mutual
def uptoBulk {H : Type} : DataW H → Nat
  | .lit (.string bytes) => bytes.length + 1
  | .lit _ => 1
  | .nil => 1
  | .ptr d => uptoBulk d + 1
  | .slice elems spare => uptoBulkAll elems + uptoBulkAll spare + 1
  | .agg parts => uptoBulkAll parts + 1
  | .iface _ d => uptoBulk d + 1
  | .map entries => uptoBulkEntries entries + 1
  | .held _ => 1
def uptoBulkAll {H : Type} : List (DataW H) → Nat
  | [] => 0
  | d :: r => uptoBulk d + uptoBulkAll r
def uptoBulkEntries {H : Type} : List (Lit × DataW H) → Nat
  | [] => 0
  | x :: r => uptoBulkEntry x + uptoBulkEntries r
def uptoBulkEntry {H : Type} : Lit × DataW H → Nat
  | (.string bytes, d) => bytes.length + uptoBulk d + 1
  | (_, d) => uptoBulk d + 1
 end
def uptoSmall : (H : Type) → List (DataW H) → Bool := fun _ ds => decide (uptoBulkAll ds ≤ 1048576)
def OpenSpec.upto (s : _root_.Go.ChangeSpec) : _root_.Go.OpenSpec := { _root_.Go.OpenSpec.ofChange s with cond := some uptoSmall }

/-- 'laws.FnMapG2', WHERE WHAT IT READS IS OF BULK AT MOST 1048576: true; the input reads as it did. -/
def fnMapG2UptoRow : OpenClaim := { program := "ytajbcjgonpoojaagreatdoor", sum := "c8f7600f211166dd27481d9791d15c79f5122bc69caa19ad2c77269ea77a8d7f", func := "loop.example/pub-g03347/laws.FnMapG2", spec := "fnMapG2", inPlace := ["math/bits.Add64", "math/bits.Sub64"], named := ["loop.example/pub-g03347/pub/gnarkcrypto/ecc/bn254/fp.errInvalidEncoding"], ifaces := true, apart := false, laid := [("loop.example/pub-g03347/pub/gnarkcrypto/ecc/bn254/fp.errInvalidEncoding", laid_loop_example_pub_g03347_pub_gnarkcrypto_ecc_bn254_fp_errInvalidEncoding)], narrowed := true }
def FnMapG2UptoSaid : Prop := fnMapG2UptoRow.holds Tryz.pinned (OpenSpec.upto fnMapG2Spec)

/-- 'laws.FnHashLong', WHERE WHAT IT READS IS OF BULK AT MOST 1048576: true; the input reads as it did. -/
def fnHashLongUptoRow : OpenClaim := { program := "ytajbcjgonpoojaagreatdoor", sum := "c8f7600f211166dd27481d9791d15c79f5122bc69caa19ad2c77269ea77a8d7f", func := "loop.example/pub-g03347/laws.FnHashLong", spec := "fnHashLong", inPlace := ["math/bits.Add64", "math/bits.Sub64"], unfollowed := true, recurses := true, named := ["loop.example/pub-g03347/pub/sha256._K", "loop.example/pub-g03347/pub/gnarkcrypto/ecc/bn254/fp.errInvalidEncoding"], ifaces := true, apart := false, laid := [("loop.example/pub-g03347/pub/sha256._K", laid_loop_example_pub_g03347_pub_sha256_K), ("loop.example/pub-g03347/pub/gnarkcrypto/ecc/bn254/fp.errInvalidEncoding", laid_loop_example_pub_g03347_pub_gnarkcrypto_ecc_bn254_fp_errInvalidEncoding)], narrowed := true }
def FnHashLongUptoSaid : Prop := fnHashLongUptoRow.holds Tryz.pinned (OpenSpec.upto fnHashLongSpec)

end Rows
end Go.Proofs.YtajbcjgonpoojaaGreatDoor
