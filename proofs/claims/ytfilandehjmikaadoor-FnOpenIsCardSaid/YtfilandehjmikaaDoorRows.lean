/-
  NARROWER THAN 'FOR EVERY INPUT', by the rows' own cells (each row's printed sentence says how): FnSizes: ifaces, laid · FnSealIs: ifaces, laid · FnSealPrefix: ifaces, laid · FnOpenIs: ifaces, laid · FnOpenShort: ifaces, laid · FnOpenSeal: ifaces, laid · FnOpenTurned: ifaces, laid · FnSealBehind: ifaces, laid.
  DERIVED. THE GIVEN ROWS OF THIS SEAT. 8 by the template 'for every input the law returns true; each argument reads behind the call as it read before'; 0 by the template 'total and deterministic' (their statements: YtfilandehjmikaaDoorTotals.lean).
  GIVEN WITH THE SEED: the statements are not yours to turn. If you find one false, say at which input.
  Laid BY PROGRAM, IN A SANDBOX (cutbox-rows.mjs): the forced cells as the released guide's own fill.sh prints them over the translation 0d4376dc007c047d… (all of the seat's roots in one cut). By AI agents, Wed Nov 11 2026. No macro, syntax, notation, axiom, sorry.
-/
import Derived.Test.YtfilandehjmikaaDoorChecked
import GoSem.Claim
import GoSem.ClaimJoined
import GoSem.ClaimMapViews
import Derived.JoinedTies
import Derived.KernelRfl
namespace Go.Proofs.YtfilandehjmikaaDoor
/- THE CELL 'sum', in the pinned program and in every row, IS THE sha256 OF THE DUMP (.gsa) THAT YtfilandehjmikaaDoorProg.lean LOADS. Nothing in Lean hashes anything: it is a label: what it is worth is what the hold of that sum in a sandbox is worth. -/
noncomputable def Tryd.pinned : Pinned := { name := "ytfilandehjmikaadoor", sum := "0d4376dc007c047d7a0b9f34ef56d0a875d02f14f3c1a0519833b40b8c71dfb8", checked := Tryd.checked }
namespace Rows
def none {H : Type} : Left H := { results := [], args := [] }

/- WHAT THE LISTED PACKAGE-LEVEL VARIABLES READ AS WHEN THE CALL BEGINS. Each datum BY PROGRAM (the guide's laid-datum.mjs) off the statement by which the dump's own 'gosem.cut.vars' lays the variable. In a bare row this is a premise. The card (YtfilandehjmikaaDoorCards.lean) ties it to the program's text. -/
def laid_loop_example_pub_g03031_pub_circl_cipher_ascon_ErrKeySize {H : Type} : DataW H := .iface "*errors.errorString" (.ptr (.agg [.lit (.string [97, 115, 99, 111, 110, 58, 32, 98, 97, 100, 32, 107, 101, 121, 32, 115, 105, 122, 101])]))
def laid_loop_example_pub_g03031_pub_circl_cipher_ascon_ErrMode {H : Type} : DataW H := .iface "*errors.errorString" (.ptr (.agg [.lit (.string [97, 115, 99, 111, 110, 58, 32, 105, 110, 118, 97, 108, 105, 100, 32, 99, 105, 112, 104, 101, 114, 32, 109, 111, 100, 101])]))
def laid_loop_example_pub_g03031_pub_circl_cipher_ascon_ErrNonceSize {H : Type} : DataW H := .iface "*errors.errorString" (.ptr (.agg [.lit (.string [97, 115, 99, 111, 110, 58, 32, 98, 97, 100, 32, 110, 111, 110, 99, 101, 32, 115, 105, 122, 101])]))
def laid_loop_example_pub_g03031_pub_circl_cipher_ascon_ErrDecryption {H : Type} : DataW H := .iface "*errors.errorString" (.ptr (.agg [.lit (.string [97, 115, 99, 111, 110, 58, 32, 105, 110, 118, 97, 108, 105, 100, 32, 99, 105, 112, 104, 101, 114, 116, 101, 120, 116])]))

/-- 'laws.FnSizes': WHATEVER THE INPUT: true; the input reads as it did. -/
def fnSizesSpec : ChangeSpec := { name := "fnSizes", vars := ["loop.example/pub-g03031/pub/circl/cipher/ascon.ErrKeySize", "loop.example/pub-g03031/pub/circl/cipher/ascon.ErrMode"], fn := fun _ => fun
  | [d1, d2, g1, g2] => { results := [.lit (.bool true)], args := [d1, d2], vars := [g1, g2] }
  | _ => none }
def fnSizesRow : OpenClaim := { program := "ytfilandehjmikaadoor", sum := "0d4376dc007c047d7a0b9f34ef56d0a875d02f14f3c1a0519833b40b8c71dfb8", func := "loop.example/pub-g03031/laws.FnSizes", spec := "fnSizes", named := ["loop.example/pub-g03031/pub/circl/cipher/ascon.ErrKeySize", "loop.example/pub-g03031/pub/circl/cipher/ascon.ErrMode", "encoding/binary.BigEndian"], ifaces := true, apart := false, laid := [("loop.example/pub-g03031/pub/circl/cipher/ascon.ErrKeySize", laid_loop_example_pub_g03031_pub_circl_cipher_ascon_ErrKeySize), ("loop.example/pub-g03031/pub/circl/cipher/ascon.ErrMode", laid_loop_example_pub_g03031_pub_circl_cipher_ascon_ErrMode)] }
def FnSizesSaid : Prop := fnSizesRow.holds Tryd.pinned (OpenSpec.ofChange fnSizesSpec)

/-- ITS FALSE NEIGHBOUR: 'it returns false'. Refute it at one input. -/
def fnSizesWrong : ChangeSpec := { name := "fnSizes", vars := ["loop.example/pub-g03031/pub/circl/cipher/ascon.ErrKeySize", "loop.example/pub-g03031/pub/circl/cipher/ascon.ErrMode"], fn := fun _ => fun
  | [d1, d2, g1, g2] => { results := [.lit (.bool false)], args := [d1, d2], vars := [g1, g2] }
  | _ => none }
def FnSizesWrongFalsely : Prop := fnSizesRow.holds Tryd.pinned (OpenSpec.ofChange fnSizesWrong)

/-- 'laws.FnSealIs': WHATEVER THE INPUT: true; the input reads as it did. -/
def fnSealIsSpec : ChangeSpec := { name := "fnSealIs", vars := ["loop.example/pub-g03031/pub/circl/cipher/ascon.ErrKeySize", "loop.example/pub-g03031/pub/circl/cipher/ascon.ErrMode", "loop.example/pub-g03031/pub/circl/cipher/ascon.ErrNonceSize"], fn := fun _ => fun
  | [d1, d2, d3, d4, d5, g1, g2, g3] => { results := [.lit (.bool true)], args := [d1, d2, d3, d4, d5], vars := [g1, g2, g3] }
  | _ => none }
def fnSealIsRow : OpenClaim := { program := "ytfilandehjmikaadoor", sum := "0d4376dc007c047d7a0b9f34ef56d0a875d02f14f3c1a0519833b40b8c71dfb8", func := "loop.example/pub-g03031/laws.FnSealIs", spec := "fnSealIs", named := ["loop.example/pub-g03031/pub/circl/cipher/ascon.ErrKeySize", "loop.example/pub-g03031/pub/circl/cipher/ascon.ErrMode", "encoding/binary.BigEndian", "loop.example/pub-g03031/pub/circl/cipher/ascon.ErrNonceSize"], ifaces := true, apart := false, laid := [("loop.example/pub-g03031/pub/circl/cipher/ascon.ErrKeySize", laid_loop_example_pub_g03031_pub_circl_cipher_ascon_ErrKeySize), ("loop.example/pub-g03031/pub/circl/cipher/ascon.ErrNonceSize", laid_loop_example_pub_g03031_pub_circl_cipher_ascon_ErrNonceSize), ("loop.example/pub-g03031/pub/circl/cipher/ascon.ErrMode", laid_loop_example_pub_g03031_pub_circl_cipher_ascon_ErrMode)] }
def FnSealIsSaid : Prop := fnSealIsRow.holds Tryd.pinned (OpenSpec.ofChange fnSealIsSpec)

/-- ITS FALSE NEIGHBOUR: 'it returns false'. Refute it at one input. -/
def fnSealIsWrong : ChangeSpec := { name := "fnSealIs", vars := ["loop.example/pub-g03031/pub/circl/cipher/ascon.ErrKeySize", "loop.example/pub-g03031/pub/circl/cipher/ascon.ErrMode", "loop.example/pub-g03031/pub/circl/cipher/ascon.ErrNonceSize"], fn := fun _ => fun
  | [d1, d2, d3, d4, d5, g1, g2, g3] => { results := [.lit (.bool false)], args := [d1, d2, d3, d4, d5], vars := [g1, g2, g3] }
  | _ => none }
def FnSealIsWrongFalsely : Prop := fnSealIsRow.holds Tryd.pinned (OpenSpec.ofChange fnSealIsWrong)

/-- 'laws.FnSealPrefix': WHATEVER THE INPUT: true; the input reads as it did. -/
def fnSealPrefixSpec : ChangeSpec := { name := "fnSealPrefix", vars := ["loop.example/pub-g03031/pub/circl/cipher/ascon.ErrKeySize", "loop.example/pub-g03031/pub/circl/cipher/ascon.ErrMode", "loop.example/pub-g03031/pub/circl/cipher/ascon.ErrNonceSize"], fn := fun _ => fun
  | [d1, d2, d3, d4, d5, d6, g1, g2, g3] => { results := [.lit (.bool true)], args := [d1, d2, d3, d4, d5, d6], vars := [g1, g2, g3] }
  | _ => none }
def fnSealPrefixRow : OpenClaim := { program := "ytfilandehjmikaadoor", sum := "0d4376dc007c047d7a0b9f34ef56d0a875d02f14f3c1a0519833b40b8c71dfb8", func := "loop.example/pub-g03031/laws.FnSealPrefix", spec := "fnSealPrefix", named := ["loop.example/pub-g03031/pub/circl/cipher/ascon.ErrKeySize", "loop.example/pub-g03031/pub/circl/cipher/ascon.ErrMode", "encoding/binary.BigEndian", "loop.example/pub-g03031/pub/circl/cipher/ascon.ErrNonceSize"], ifaces := true, apart := false, laid := [("loop.example/pub-g03031/pub/circl/cipher/ascon.ErrKeySize", laid_loop_example_pub_g03031_pub_circl_cipher_ascon_ErrKeySize), ("loop.example/pub-g03031/pub/circl/cipher/ascon.ErrNonceSize", laid_loop_example_pub_g03031_pub_circl_cipher_ascon_ErrNonceSize), ("loop.example/pub-g03031/pub/circl/cipher/ascon.ErrMode", laid_loop_example_pub_g03031_pub_circl_cipher_ascon_ErrMode)] }
def FnSealPrefixSaid : Prop := fnSealPrefixRow.holds Tryd.pinned (OpenSpec.ofChange fnSealPrefixSpec)

/-- ITS FALSE NEIGHBOUR: 'it returns false'. Refute it at one input. -/
def fnSealPrefixWrong : ChangeSpec := { name := "fnSealPrefix", vars := ["loop.example/pub-g03031/pub/circl/cipher/ascon.ErrKeySize", "loop.example/pub-g03031/pub/circl/cipher/ascon.ErrMode", "loop.example/pub-g03031/pub/circl/cipher/ascon.ErrNonceSize"], fn := fun _ => fun
  | [d1, d2, d3, d4, d5, d6, g1, g2, g3] => { results := [.lit (.bool false)], args := [d1, d2, d3, d4, d5, d6], vars := [g1, g2, g3] }
  | _ => none }
def FnSealPrefixWrongFalsely : Prop := fnSealPrefixRow.holds Tryd.pinned (OpenSpec.ofChange fnSealPrefixWrong)

/-- 'laws.FnOpenIs': WHATEVER THE INPUT: true; the input reads as it did. -/
def fnOpenIsSpec : ChangeSpec := { name := "fnOpenIs", vars := ["loop.example/pub-g03031/pub/circl/cipher/ascon.ErrKeySize", "loop.example/pub-g03031/pub/circl/cipher/ascon.ErrMode", "loop.example/pub-g03031/pub/circl/cipher/ascon.ErrNonceSize", "loop.example/pub-g03031/pub/circl/cipher/ascon.ErrDecryption"], fn := fun _ => fun
  | [d1, d2, d3, d4, d5, g1, g2, g3, g4] => { results := [.lit (.bool true)], args := [d1, d2, d3, d4, d5], vars := [g1, g2, g3, g4] }
  | _ => none }
def fnOpenIsRow : OpenClaim := { program := "ytfilandehjmikaadoor", sum := "0d4376dc007c047d7a0b9f34ef56d0a875d02f14f3c1a0519833b40b8c71dfb8", func := "loop.example/pub-g03031/laws.FnOpenIs", spec := "fnOpenIs", inPlace := ["crypto/internal/constanttime.boolToUint8"], named := ["loop.example/pub-g03031/pub/circl/cipher/ascon.ErrKeySize", "loop.example/pub-g03031/pub/circl/cipher/ascon.ErrMode", "encoding/binary.BigEndian", "loop.example/pub-g03031/pub/circl/cipher/ascon.ErrNonceSize", "loop.example/pub-g03031/pub/circl/cipher/ascon.ErrDecryption"], ifaces := true, apart := false, laid := [("loop.example/pub-g03031/pub/circl/cipher/ascon.ErrKeySize", laid_loop_example_pub_g03031_pub_circl_cipher_ascon_ErrKeySize), ("loop.example/pub-g03031/pub/circl/cipher/ascon.ErrNonceSize", laid_loop_example_pub_g03031_pub_circl_cipher_ascon_ErrNonceSize), ("loop.example/pub-g03031/pub/circl/cipher/ascon.ErrDecryption", laid_loop_example_pub_g03031_pub_circl_cipher_ascon_ErrDecryption), ("loop.example/pub-g03031/pub/circl/cipher/ascon.ErrMode", laid_loop_example_pub_g03031_pub_circl_cipher_ascon_ErrMode)] }
def FnOpenIsSaid : Prop := fnOpenIsRow.holds Tryd.pinned (OpenSpec.ofChange fnOpenIsSpec)

/-- ITS FALSE NEIGHBOUR: 'it returns false'. Refute it at one input. -/
def fnOpenIsWrong : ChangeSpec := { name := "fnOpenIs", vars := ["loop.example/pub-g03031/pub/circl/cipher/ascon.ErrKeySize", "loop.example/pub-g03031/pub/circl/cipher/ascon.ErrMode", "loop.example/pub-g03031/pub/circl/cipher/ascon.ErrNonceSize", "loop.example/pub-g03031/pub/circl/cipher/ascon.ErrDecryption"], fn := fun _ => fun
  | [d1, d2, d3, d4, d5, g1, g2, g3, g4] => { results := [.lit (.bool false)], args := [d1, d2, d3, d4, d5], vars := [g1, g2, g3, g4] }
  | _ => none }
def FnOpenIsWrongFalsely : Prop := fnOpenIsRow.holds Tryd.pinned (OpenSpec.ofChange fnOpenIsWrong)

/-- 'laws.FnOpenShort': WHATEVER THE INPUT: true; the input reads as it did. -/
def fnOpenShortSpec : ChangeSpec := { name := "fnOpenShort", vars := ["loop.example/pub-g03031/pub/circl/cipher/ascon.ErrKeySize", "loop.example/pub-g03031/pub/circl/cipher/ascon.ErrMode", "loop.example/pub-g03031/pub/circl/cipher/ascon.ErrNonceSize", "loop.example/pub-g03031/pub/circl/cipher/ascon.ErrDecryption"], fn := fun _ => fun
  | [d1, d2, d3, d4, d5, g1, g2, g3, g4] => { results := [.lit (.bool true)], args := [d1, d2, d3, d4, d5], vars := [g1, g2, g3, g4] }
  | _ => none }
def fnOpenShortRow : OpenClaim := { program := "ytfilandehjmikaadoor", sum := "0d4376dc007c047d7a0b9f34ef56d0a875d02f14f3c1a0519833b40b8c71dfb8", func := "loop.example/pub-g03031/laws.FnOpenShort", spec := "fnOpenShort", inPlace := ["crypto/internal/constanttime.boolToUint8"], named := ["loop.example/pub-g03031/pub/circl/cipher/ascon.ErrKeySize", "loop.example/pub-g03031/pub/circl/cipher/ascon.ErrMode", "encoding/binary.BigEndian", "loop.example/pub-g03031/pub/circl/cipher/ascon.ErrNonceSize", "loop.example/pub-g03031/pub/circl/cipher/ascon.ErrDecryption"], ifaces := true, apart := false, laid := [("loop.example/pub-g03031/pub/circl/cipher/ascon.ErrKeySize", laid_loop_example_pub_g03031_pub_circl_cipher_ascon_ErrKeySize), ("loop.example/pub-g03031/pub/circl/cipher/ascon.ErrNonceSize", laid_loop_example_pub_g03031_pub_circl_cipher_ascon_ErrNonceSize), ("loop.example/pub-g03031/pub/circl/cipher/ascon.ErrDecryption", laid_loop_example_pub_g03031_pub_circl_cipher_ascon_ErrDecryption), ("loop.example/pub-g03031/pub/circl/cipher/ascon.ErrMode", laid_loop_example_pub_g03031_pub_circl_cipher_ascon_ErrMode)] }
def FnOpenShortSaid : Prop := fnOpenShortRow.holds Tryd.pinned (OpenSpec.ofChange fnOpenShortSpec)

/-- ITS FALSE NEIGHBOUR: 'it returns false'. Refute it at one input. -/
def fnOpenShortWrong : ChangeSpec := { name := "fnOpenShort", vars := ["loop.example/pub-g03031/pub/circl/cipher/ascon.ErrKeySize", "loop.example/pub-g03031/pub/circl/cipher/ascon.ErrMode", "loop.example/pub-g03031/pub/circl/cipher/ascon.ErrNonceSize", "loop.example/pub-g03031/pub/circl/cipher/ascon.ErrDecryption"], fn := fun _ => fun
  | [d1, d2, d3, d4, d5, g1, g2, g3, g4] => { results := [.lit (.bool false)], args := [d1, d2, d3, d4, d5], vars := [g1, g2, g3, g4] }
  | _ => none }
def FnOpenShortWrongFalsely : Prop := fnOpenShortRow.holds Tryd.pinned (OpenSpec.ofChange fnOpenShortWrong)

/-- 'laws.FnOpenSeal': WHATEVER THE INPUT: true; the input reads as it did. -/
def fnOpenSealSpec : ChangeSpec := { name := "fnOpenSeal", vars := ["loop.example/pub-g03031/pub/circl/cipher/ascon.ErrKeySize", "loop.example/pub-g03031/pub/circl/cipher/ascon.ErrMode", "loop.example/pub-g03031/pub/circl/cipher/ascon.ErrNonceSize", "loop.example/pub-g03031/pub/circl/cipher/ascon.ErrDecryption"], fn := fun _ => fun
  | [d1, d2, d3, d4, d5, g1, g2, g3, g4] => { results := [.lit (.bool true)], args := [d1, d2, d3, d4, d5], vars := [g1, g2, g3, g4] }
  | _ => none }
def fnOpenSealRow : OpenClaim := { program := "ytfilandehjmikaadoor", sum := "0d4376dc007c047d7a0b9f34ef56d0a875d02f14f3c1a0519833b40b8c71dfb8", func := "loop.example/pub-g03031/laws.FnOpenSeal", spec := "fnOpenSeal", inPlace := ["crypto/internal/constanttime.boolToUint8"], named := ["loop.example/pub-g03031/pub/circl/cipher/ascon.ErrKeySize", "loop.example/pub-g03031/pub/circl/cipher/ascon.ErrMode", "encoding/binary.BigEndian", "loop.example/pub-g03031/pub/circl/cipher/ascon.ErrNonceSize", "loop.example/pub-g03031/pub/circl/cipher/ascon.ErrDecryption"], ifaces := true, apart := false, laid := [("loop.example/pub-g03031/pub/circl/cipher/ascon.ErrKeySize", laid_loop_example_pub_g03031_pub_circl_cipher_ascon_ErrKeySize), ("loop.example/pub-g03031/pub/circl/cipher/ascon.ErrNonceSize", laid_loop_example_pub_g03031_pub_circl_cipher_ascon_ErrNonceSize), ("loop.example/pub-g03031/pub/circl/cipher/ascon.ErrDecryption", laid_loop_example_pub_g03031_pub_circl_cipher_ascon_ErrDecryption), ("loop.example/pub-g03031/pub/circl/cipher/ascon.ErrMode", laid_loop_example_pub_g03031_pub_circl_cipher_ascon_ErrMode)] }
def FnOpenSealSaid : Prop := fnOpenSealRow.holds Tryd.pinned (OpenSpec.ofChange fnOpenSealSpec)

/-- ITS FALSE NEIGHBOUR: 'it returns false'. Refute it at one input. -/
def fnOpenSealWrong : ChangeSpec := { name := "fnOpenSeal", vars := ["loop.example/pub-g03031/pub/circl/cipher/ascon.ErrKeySize", "loop.example/pub-g03031/pub/circl/cipher/ascon.ErrMode", "loop.example/pub-g03031/pub/circl/cipher/ascon.ErrNonceSize", "loop.example/pub-g03031/pub/circl/cipher/ascon.ErrDecryption"], fn := fun _ => fun
  | [d1, d2, d3, d4, d5, g1, g2, g3, g4] => { results := [.lit (.bool false)], args := [d1, d2, d3, d4, d5], vars := [g1, g2, g3, g4] }
  | _ => none }
def FnOpenSealWrongFalsely : Prop := fnOpenSealRow.holds Tryd.pinned (OpenSpec.ofChange fnOpenSealWrong)

/-- 'laws.FnOpenTurned': WHATEVER THE INPUT: true; the input reads as it did. -/
def fnOpenTurnedSpec : ChangeSpec := { name := "fnOpenTurned", vars := ["loop.example/pub-g03031/pub/circl/cipher/ascon.ErrKeySize", "loop.example/pub-g03031/pub/circl/cipher/ascon.ErrMode", "loop.example/pub-g03031/pub/circl/cipher/ascon.ErrNonceSize", "loop.example/pub-g03031/pub/circl/cipher/ascon.ErrDecryption"], fn := fun _ => fun
  | [d1, d2, d3, d4, d5, d6, g1, g2, g3, g4] => { results := [.lit (.bool true)], args := [d1, d2, d3, d4, d5, d6], vars := [g1, g2, g3, g4] }
  | _ => none }
def fnOpenTurnedRow : OpenClaim := { program := "ytfilandehjmikaadoor", sum := "0d4376dc007c047d7a0b9f34ef56d0a875d02f14f3c1a0519833b40b8c71dfb8", func := "loop.example/pub-g03031/laws.FnOpenTurned", spec := "fnOpenTurned", inPlace := ["crypto/internal/constanttime.boolToUint8"], named := ["loop.example/pub-g03031/pub/circl/cipher/ascon.ErrKeySize", "loop.example/pub-g03031/pub/circl/cipher/ascon.ErrMode", "encoding/binary.BigEndian", "loop.example/pub-g03031/pub/circl/cipher/ascon.ErrNonceSize", "loop.example/pub-g03031/pub/circl/cipher/ascon.ErrDecryption"], ifaces := true, apart := false, laid := [("loop.example/pub-g03031/pub/circl/cipher/ascon.ErrKeySize", laid_loop_example_pub_g03031_pub_circl_cipher_ascon_ErrKeySize), ("loop.example/pub-g03031/pub/circl/cipher/ascon.ErrNonceSize", laid_loop_example_pub_g03031_pub_circl_cipher_ascon_ErrNonceSize), ("loop.example/pub-g03031/pub/circl/cipher/ascon.ErrDecryption", laid_loop_example_pub_g03031_pub_circl_cipher_ascon_ErrDecryption), ("loop.example/pub-g03031/pub/circl/cipher/ascon.ErrMode", laid_loop_example_pub_g03031_pub_circl_cipher_ascon_ErrMode)] }
def FnOpenTurnedSaid : Prop := fnOpenTurnedRow.holds Tryd.pinned (OpenSpec.ofChange fnOpenTurnedSpec)

/-- ITS FALSE NEIGHBOUR: 'it returns false'. Refute it at one input. -/
def fnOpenTurnedWrong : ChangeSpec := { name := "fnOpenTurned", vars := ["loop.example/pub-g03031/pub/circl/cipher/ascon.ErrKeySize", "loop.example/pub-g03031/pub/circl/cipher/ascon.ErrMode", "loop.example/pub-g03031/pub/circl/cipher/ascon.ErrNonceSize", "loop.example/pub-g03031/pub/circl/cipher/ascon.ErrDecryption"], fn := fun _ => fun
  | [d1, d2, d3, d4, d5, d6, g1, g2, g3, g4] => { results := [.lit (.bool false)], args := [d1, d2, d3, d4, d5, d6], vars := [g1, g2, g3, g4] }
  | _ => none }
def FnOpenTurnedWrongFalsely : Prop := fnOpenTurnedRow.holds Tryd.pinned (OpenSpec.ofChange fnOpenTurnedWrong)

/-- 'laws.FnSealBehind': WHATEVER THE INPUT: true; the input reads as it did. -/
def fnSealBehindSpec : ChangeSpec := { name := "fnSealBehind", vars := ["loop.example/pub-g03031/pub/circl/cipher/ascon.ErrKeySize", "loop.example/pub-g03031/pub/circl/cipher/ascon.ErrMode", "loop.example/pub-g03031/pub/circl/cipher/ascon.ErrNonceSize", "loop.example/pub-g03031/pub/circl/cipher/ascon.ErrDecryption"], fn := fun _ => fun
  | [d1, d2, d3, d4, d5, d6, g1, g2, g3, g4] => { results := [.lit (.bool true)], args := [d1, d2, d3, d4, d5, d6], vars := [g1, g2, g3, g4] }
  | _ => none }
def fnSealBehindRow : OpenClaim := { program := "ytfilandehjmikaadoor", sum := "0d4376dc007c047d7a0b9f34ef56d0a875d02f14f3c1a0519833b40b8c71dfb8", func := "loop.example/pub-g03031/laws.FnSealBehind", spec := "fnSealBehind", inPlace := ["crypto/internal/constanttime.boolToUint8"], named := ["loop.example/pub-g03031/pub/circl/cipher/ascon.ErrKeySize", "loop.example/pub-g03031/pub/circl/cipher/ascon.ErrMode", "encoding/binary.BigEndian", "loop.example/pub-g03031/pub/circl/cipher/ascon.ErrNonceSize", "loop.example/pub-g03031/pub/circl/cipher/ascon.ErrDecryption"], ifaces := true, apart := false, laid := [("loop.example/pub-g03031/pub/circl/cipher/ascon.ErrKeySize", laid_loop_example_pub_g03031_pub_circl_cipher_ascon_ErrKeySize), ("loop.example/pub-g03031/pub/circl/cipher/ascon.ErrNonceSize", laid_loop_example_pub_g03031_pub_circl_cipher_ascon_ErrNonceSize), ("loop.example/pub-g03031/pub/circl/cipher/ascon.ErrDecryption", laid_loop_example_pub_g03031_pub_circl_cipher_ascon_ErrDecryption), ("loop.example/pub-g03031/pub/circl/cipher/ascon.ErrMode", laid_loop_example_pub_g03031_pub_circl_cipher_ascon_ErrMode)] }
def FnSealBehindSaid : Prop := fnSealBehindRow.holds Tryd.pinned (OpenSpec.ofChange fnSealBehindSpec)

/-- ITS FALSE NEIGHBOUR: 'it returns false'. Refute it at one input. -/
def fnSealBehindWrong : ChangeSpec := { name := "fnSealBehind", vars := ["loop.example/pub-g03031/pub/circl/cipher/ascon.ErrKeySize", "loop.example/pub-g03031/pub/circl/cipher/ascon.ErrMode", "loop.example/pub-g03031/pub/circl/cipher/ascon.ErrNonceSize", "loop.example/pub-g03031/pub/circl/cipher/ascon.ErrDecryption"], fn := fun _ => fun
  | [d1, d2, d3, d4, d5, d6, g1, g2, g3, g4] => { results := [.lit (.bool false)], args := [d1, d2, d3, d4, d5, d6], vars := [g1, g2, g3, g4] }
  | _ => none }
def FnSealBehindWrongFalsely : Prop := fnSealBehindRow.holds Tryd.pinned (OpenSpec.ofChange fnSealBehindWrong)

/- THE SECOND FORM. 'bulk': how many values and letters a reading holds, each counted each time it is reached (what is shared counts as often as it is met; a slice's spare places count too). A statement '..UptoSaid' is the law's where the arguments, and the package variables that the reading takes, are together of bulk at most 1048576: NARROWER than '..Said'. Prove '..Said' where nothing that the law and all that it calls make is longer than what came in: it says more and counts as full. Else prove '..UptoSaid'. A law counts once. -/
mutual
def uptoBulk {H : Type} : DataW H → Nat
  | .lit (.string bytes) => bytes.length + 1
  | .lit _ => 1
  | .nil => 1
  | .ptr d => uptoBulk d + 1
  | .slice elems spare => uptoBulkAll elems + uptoBulkAll spare + 1
  | .agg parts => uptoBulkAll parts + 1
  | .iface _ d => uptoBulk d + 1
  | .map entries => uptoBulkEntries entries + 1
  | .held _ => 1
def uptoBulkAll {H : Type} : List (DataW H) → Nat
  | [] => 0
  | d :: r => uptoBulk d + uptoBulkAll r
def uptoBulkEntries {H : Type} : List (Lit × DataW H) → Nat
  | [] => 0
  | x :: r => uptoBulkEntry x + uptoBulkEntries r
def uptoBulkEntry {H : Type} : Lit × DataW H → Nat
  | (.string bytes, d) => bytes.length + uptoBulk d + 1
  | (_, d) => uptoBulk d + 1
 end
def uptoSmall : (H : Type) → List (DataW H) → Bool := fun _ ds => decide (uptoBulkAll ds ≤ 1048576)
def OpenSpec.upto (s : _root_.Go.ChangeSpec) : _root_.Go.OpenSpec := { _root_.Go.OpenSpec.ofChange s with cond := some uptoSmall }

/-- 'laws.FnSizes', WHERE WHAT IT READS IS OF BULK AT MOST 1048576: true; the input reads as it did. -/
def fnSizesUptoRow : OpenClaim := { program := "ytfilandehjmikaadoor", sum := "0d4376dc007c047d7a0b9f34ef56d0a875d02f14f3c1a0519833b40b8c71dfb8", func := "loop.example/pub-g03031/laws.FnSizes", spec := "fnSizes", named := ["loop.example/pub-g03031/pub/circl/cipher/ascon.ErrKeySize", "loop.example/pub-g03031/pub/circl/cipher/ascon.ErrMode", "encoding/binary.BigEndian"], ifaces := true, apart := false, laid := [("loop.example/pub-g03031/pub/circl/cipher/ascon.ErrKeySize", laid_loop_example_pub_g03031_pub_circl_cipher_ascon_ErrKeySize), ("loop.example/pub-g03031/pub/circl/cipher/ascon.ErrMode", laid_loop_example_pub_g03031_pub_circl_cipher_ascon_ErrMode)], narrowed := true }
def FnSizesUptoSaid : Prop := fnSizesUptoRow.holds Tryd.pinned (OpenSpec.upto fnSizesSpec)

/-- 'laws.FnSealIs', WHERE WHAT IT READS IS OF BULK AT MOST 1048576: true; the input reads as it did. -/
def fnSealIsUptoRow : OpenClaim := { program := "ytfilandehjmikaadoor", sum := "0d4376dc007c047d7a0b9f34ef56d0a875d02f14f3c1a0519833b40b8c71dfb8", func := "loop.example/pub-g03031/laws.FnSealIs", spec := "fnSealIs", named := ["loop.example/pub-g03031/pub/circl/cipher/ascon.ErrKeySize", "loop.example/pub-g03031/pub/circl/cipher/ascon.ErrMode", "encoding/binary.BigEndian", "loop.example/pub-g03031/pub/circl/cipher/ascon.ErrNonceSize"], ifaces := true, apart := false, laid := [("loop.example/pub-g03031/pub/circl/cipher/ascon.ErrKeySize", laid_loop_example_pub_g03031_pub_circl_cipher_ascon_ErrKeySize), ("loop.example/pub-g03031/pub/circl/cipher/ascon.ErrNonceSize", laid_loop_example_pub_g03031_pub_circl_cipher_ascon_ErrNonceSize), ("loop.example/pub-g03031/pub/circl/cipher/ascon.ErrMode", laid_loop_example_pub_g03031_pub_circl_cipher_ascon_ErrMode)], narrowed := true }
def FnSealIsUptoSaid : Prop := fnSealIsUptoRow.holds Tryd.pinned (OpenSpec.upto fnSealIsSpec)

/-- 'laws.FnSealPrefix', WHERE WHAT IT READS IS OF BULK AT MOST 1048576: true; the input reads as it did. -/
def fnSealPrefixUptoRow : OpenClaim := { program := "ytfilandehjmikaadoor", sum := "0d4376dc007c047d7a0b9f34ef56d0a875d02f14f3c1a0519833b40b8c71dfb8", func := "loop.example/pub-g03031/laws.FnSealPrefix", spec := "fnSealPrefix", named := ["loop.example/pub-g03031/pub/circl/cipher/ascon.ErrKeySize", "loop.example/pub-g03031/pub/circl/cipher/ascon.ErrMode", "encoding/binary.BigEndian", "loop.example/pub-g03031/pub/circl/cipher/ascon.ErrNonceSize"], ifaces := true, apart := false, laid := [("loop.example/pub-g03031/pub/circl/cipher/ascon.ErrKeySize", laid_loop_example_pub_g03031_pub_circl_cipher_ascon_ErrKeySize), ("loop.example/pub-g03031/pub/circl/cipher/ascon.ErrNonceSize", laid_loop_example_pub_g03031_pub_circl_cipher_ascon_ErrNonceSize), ("loop.example/pub-g03031/pub/circl/cipher/ascon.ErrMode", laid_loop_example_pub_g03031_pub_circl_cipher_ascon_ErrMode)], narrowed := true }
def FnSealPrefixUptoSaid : Prop := fnSealPrefixUptoRow.holds Tryd.pinned (OpenSpec.upto fnSealPrefixSpec)

/-- 'laws.FnOpenIs', WHERE WHAT IT READS IS OF BULK AT MOST 1048576: true; the input reads as it did. -/
def fnOpenIsUptoRow : OpenClaim := { program := "ytfilandehjmikaadoor", sum := "0d4376dc007c047d7a0b9f34ef56d0a875d02f14f3c1a0519833b40b8c71dfb8", func := "loop.example/pub-g03031/laws.FnOpenIs", spec := "fnOpenIs", inPlace := ["crypto/internal/constanttime.boolToUint8"], named := ["loop.example/pub-g03031/pub/circl/cipher/ascon.ErrKeySize", "loop.example/pub-g03031/pub/circl/cipher/ascon.ErrMode", "encoding/binary.BigEndian", "loop.example/pub-g03031/pub/circl/cipher/ascon.ErrNonceSize", "loop.example/pub-g03031/pub/circl/cipher/ascon.ErrDecryption"], ifaces := true, apart := false, laid := [("loop.example/pub-g03031/pub/circl/cipher/ascon.ErrKeySize", laid_loop_example_pub_g03031_pub_circl_cipher_ascon_ErrKeySize), ("loop.example/pub-g03031/pub/circl/cipher/ascon.ErrNonceSize", laid_loop_example_pub_g03031_pub_circl_cipher_ascon_ErrNonceSize), ("loop.example/pub-g03031/pub/circl/cipher/ascon.ErrDecryption", laid_loop_example_pub_g03031_pub_circl_cipher_ascon_ErrDecryption), ("loop.example/pub-g03031/pub/circl/cipher/ascon.ErrMode", laid_loop_example_pub_g03031_pub_circl_cipher_ascon_ErrMode)], narrowed := true }
def FnOpenIsUptoSaid : Prop := fnOpenIsUptoRow.holds Tryd.pinned (OpenSpec.upto fnOpenIsSpec)

/-- 'laws.FnOpenShort', WHERE WHAT IT READS IS OF BULK AT MOST 1048576: true; the input reads as it did. -/
def fnOpenShortUptoRow : OpenClaim := { program := "ytfilandehjmikaadoor", sum := "0d4376dc007c047d7a0b9f34ef56d0a875d02f14f3c1a0519833b40b8c71dfb8", func := "loop.example/pub-g03031/laws.FnOpenShort", spec := "fnOpenShort", inPlace := ["crypto/internal/constanttime.boolToUint8"], named := ["loop.example/pub-g03031/pub/circl/cipher/ascon.ErrKeySize", "loop.example/pub-g03031/pub/circl/cipher/ascon.ErrMode", "encoding/binary.BigEndian", "loop.example/pub-g03031/pub/circl/cipher/ascon.ErrNonceSize", "loop.example/pub-g03031/pub/circl/cipher/ascon.ErrDecryption"], ifaces := true, apart := false, laid := [("loop.example/pub-g03031/pub/circl/cipher/ascon.ErrKeySize", laid_loop_example_pub_g03031_pub_circl_cipher_ascon_ErrKeySize), ("loop.example/pub-g03031/pub/circl/cipher/ascon.ErrNonceSize", laid_loop_example_pub_g03031_pub_circl_cipher_ascon_ErrNonceSize), ("loop.example/pub-g03031/pub/circl/cipher/ascon.ErrDecryption", laid_loop_example_pub_g03031_pub_circl_cipher_ascon_ErrDecryption), ("loop.example/pub-g03031/pub/circl/cipher/ascon.ErrMode", laid_loop_example_pub_g03031_pub_circl_cipher_ascon_ErrMode)], narrowed := true }
def FnOpenShortUptoSaid : Prop := fnOpenShortUptoRow.holds Tryd.pinned (OpenSpec.upto fnOpenShortSpec)

/-- 'laws.FnOpenSeal', WHERE WHAT IT READS IS OF BULK AT MOST 1048576: true; the input reads as it did. -/
def fnOpenSealUptoRow : OpenClaim := { program := "ytfilandehjmikaadoor", sum := "0d4376dc007c047d7a0b9f34ef56d0a875d02f14f3c1a0519833b40b8c71dfb8", func := "loop.example/pub-g03031/laws.FnOpenSeal", spec := "fnOpenSeal", inPlace := ["crypto/internal/constanttime.boolToUint8"], named := ["loop.example/pub-g03031/pub/circl/cipher/ascon.ErrKeySize", "loop.example/pub-g03031/pub/circl/cipher/ascon.ErrMode", "encoding/binary.BigEndian", "loop.example/pub-g03031/pub/circl/cipher/ascon.ErrNonceSize", "loop.example/pub-g03031/pub/circl/cipher/ascon.ErrDecryption"], ifaces := true, apart := false, laid := [("loop.example/pub-g03031/pub/circl/cipher/ascon.ErrKeySize", laid_loop_example_pub_g03031_pub_circl_cipher_ascon_ErrKeySize), ("loop.example/pub-g03031/pub/circl/cipher/ascon.ErrNonceSize", laid_loop_example_pub_g03031_pub_circl_cipher_ascon_ErrNonceSize), ("loop.example/pub-g03031/pub/circl/cipher/ascon.ErrDecryption", laid_loop_example_pub_g03031_pub_circl_cipher_ascon_ErrDecryption), ("loop.example/pub-g03031/pub/circl/cipher/ascon.ErrMode", laid_loop_example_pub_g03031_pub_circl_cipher_ascon_ErrMode)], narrowed := true }
def FnOpenSealUptoSaid : Prop := fnOpenSealUptoRow.holds Tryd.pinned (OpenSpec.upto fnOpenSealSpec)

/-- 'laws.FnOpenTurned', WHERE WHAT IT READS IS OF BULK AT MOST 1048576: true; the input reads as it did. -/
def fnOpenTurnedUptoRow : OpenClaim := { program := "ytfilandehjmikaadoor", sum := "0d4376dc007c047d7a0b9f34ef56d0a875d02f14f3c1a0519833b40b8c71dfb8", func := "loop.example/pub-g03031/laws.FnOpenTurned", spec := "fnOpenTurned", inPlace := ["crypto/internal/constanttime.boolToUint8"], named := ["loop.example/pub-g03031/pub/circl/cipher/ascon.ErrKeySize", "loop.example/pub-g03031/pub/circl/cipher/ascon.ErrMode", "encoding/binary.BigEndian", "loop.example/pub-g03031/pub/circl/cipher/ascon.ErrNonceSize", "loop.example/pub-g03031/pub/circl/cipher/ascon.ErrDecryption"], ifaces := true, apart := false, laid := [("loop.example/pub-g03031/pub/circl/cipher/ascon.ErrKeySize", laid_loop_example_pub_g03031_pub_circl_cipher_ascon_ErrKeySize), ("loop.example/pub-g03031/pub/circl/cipher/ascon.ErrNonceSize", laid_loop_example_pub_g03031_pub_circl_cipher_ascon_ErrNonceSize), ("loop.example/pub-g03031/pub/circl/cipher/ascon.ErrDecryption", laid_loop_example_pub_g03031_pub_circl_cipher_ascon_ErrDecryption), ("loop.example/pub-g03031/pub/circl/cipher/ascon.ErrMode", laid_loop_example_pub_g03031_pub_circl_cipher_ascon_ErrMode)], narrowed := true }
def FnOpenTurnedUptoSaid : Prop := fnOpenTurnedUptoRow.holds Tryd.pinned (OpenSpec.upto fnOpenTurnedSpec)

/-- 'laws.FnSealBehind', WHERE WHAT IT READS IS OF BULK AT MOST 1048576: true; the input reads as it did. -/
def fnSealBehindUptoRow : OpenClaim := { program := "ytfilandehjmikaadoor", sum := "0d4376dc007c047d7a0b9f34ef56d0a875d02f14f3c1a0519833b40b8c71dfb8", func := "loop.example/pub-g03031/laws.FnSealBehind", spec := "fnSealBehind", inPlace := ["crypto/internal/constanttime.boolToUint8"], named := ["loop.example/pub-g03031/pub/circl/cipher/ascon.ErrKeySize", "loop.example/pub-g03031/pub/circl/cipher/ascon.ErrMode", "encoding/binary.BigEndian", "loop.example/pub-g03031/pub/circl/cipher/ascon.ErrNonceSize", "loop.example/pub-g03031/pub/circl/cipher/ascon.ErrDecryption"], ifaces := true, apart := false, laid := [("loop.example/pub-g03031/pub/circl/cipher/ascon.ErrKeySize", laid_loop_example_pub_g03031_pub_circl_cipher_ascon_ErrKeySize), ("loop.example/pub-g03031/pub/circl/cipher/ascon.ErrNonceSize", laid_loop_example_pub_g03031_pub_circl_cipher_ascon_ErrNonceSize), ("loop.example/pub-g03031/pub/circl/cipher/ascon.ErrDecryption", laid_loop_example_pub_g03031_pub_circl_cipher_ascon_ErrDecryption), ("loop.example/pub-g03031/pub/circl/cipher/ascon.ErrMode", laid_loop_example_pub_g03031_pub_circl_cipher_ascon_ErrMode)], narrowed := true }
def FnSealBehindUptoSaid : Prop := fnSealBehindUptoRow.holds Tryd.pinned (OpenSpec.upto fnSealBehindSpec)

end Rows
end Go.Proofs.YtfilandehjmikaaDoor
