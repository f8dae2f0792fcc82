/-
  NARROWER THAN 'FOR EVERY INPUT', by the rows' own cells (each row's printed sentence says how): FnValid: laid · FnSum: laid · FnMessage: laid · FnKeys: laid · FnRoot: laid · FnPath: laid · FnForged: laid · FnProofs: laid · FnTold: laid.
  DERIVED. THE GIVEN ROWS OF THIS SEAT. 9 by the template 'for every input the law returns true; each argument reads behind the call as it read before'; 0 by the template 'total and deterministic' (their statements: YtfodkjpjejoemaaDoorTotals.lean).
  GIVEN WITH THE SEED: the statements are not yours to turn. If you find one false, say at which input.
  Laid BY PROGRAM, IN A SANDBOX (cutbox-rows.mjs): the forced cells as the released guide's own fill.sh prints them over the translation 2aa16647805703fe… (all of the seat's roots in one cut). By AI agents, Wed Nov 11 2026. No macro, syntax, notation, axiom, sorry.
-/
import Derived.Test.YtfodkjpjejoemaaDoorChecked
import GoSem.Claim
import GoSem.ClaimJoined
import GoSem.ClaimMapViews
import Derived.JoinedTies
import Derived.KernelRfl
namespace Go.Proofs.YtfodkjpjejoemaaDoor
/- THE CELL 'sum', in the pinned program and in every row, IS THE sha256 OF THE DUMP (.gsa) THAT YtfodkjpjejoemaaDoorProg.lean LOADS. Nothing in Lean hashes anything: it is a label: what it is worth is what the hold of that sum in a sandbox is worth. -/
noncomputable def Tryd.pinned : Pinned := { name := "ytfodkjpjejoemaadoor", sum := "2aa16647805703fef85cb3d6d277c9407dfde475753bb5e0dcae1053d0f3adb8", checked := Tryd.checked }
namespace Rows
def none {H : Type} : Left H := { results := [], args := [] }

/- WHAT THE LISTED PACKAGE-LEVEL VARIABLES READ AS WHEN THE CALL BEGINS. Each datum BY PROGRAM (the guide's laid-datum.mjs) off the statement by which the dump's own 'gosem.cut.vars' lays the variable. In a bare row this is a premise. The card (YtfodkjpjejoemaaDoorCards.lean) ties it to the program's text. -/
def laid_treesandproofs_pub_cometmerkle_ErrMaxAuntsLenExceeded {H : Type} : DataW H := .iface "*errors.errorString" (.ptr (.agg [.lit (.string [109, 101, 114, 107, 108, 101, 58, 32, 109, 97, 120, 105, 109, 117, 109, 32, 97, 117, 110, 116, 115, 32, 108, 101, 110, 103, 116, 104, 44, 32])]))
def laid_treesandproofs_pub_sha256_K {H : Type} : DataW H := .agg [.lit (.int .u32 1116352408), .lit (.int .u32 1899447441), .lit (.int .u32 3049323471), .lit (.int .u32 3921009573), .lit (.int .u32 961987163), .lit (.int .u32 1508970993), .lit (.int .u32 2453635748), .lit (.int .u32 2870763221), .lit (.int .u32 3624381080), .lit (.int .u32 310598401), .lit (.int .u32 607225278), .lit (.int .u32 1426881987), .lit (.int .u32 1925078388), .lit (.int .u32 2162078206), .lit (.int .u32 2614888103), .lit (.int .u32 3248222580), .lit (.int .u32 3835390401), .lit (.int .u32 4022224774), .lit (.int .u32 264347078), .lit (.int .u32 604807628), .lit (.int .u32 770255983), .lit (.int .u32 1249150122), .lit (.int .u32 1555081692), .lit (.int .u32 1996064986), .lit (.int .u32 2554220882), .lit (.int .u32 2821834349), .lit (.int .u32 2952996808), .lit (.int .u32 3210313671), .lit (.int .u32 3336571891), .lit (.int .u32 3584528711), .lit (.int .u32 113926993), .lit (.int .u32 338241895), .lit (.int .u32 666307205), .lit (.int .u32 773529912), .lit (.int .u32 1294757372), .lit (.int .u32 1396182291), .lit (.int .u32 1695183700), .lit (.int .u32 1986661051), .lit (.int .u32 2177026350), .lit (.int .u32 2456956037), .lit (.int .u32 2730485921), .lit (.int .u32 2820302411), .lit (.int .u32 3259730800), .lit (.int .u32 3345764771), .lit (.int .u32 3516065817), .lit (.int .u32 3600352804), .lit (.int .u32 4094571909), .lit (.int .u32 275423344), .lit (.int .u32 430227734), .lit (.int .u32 506948616), .lit (.int .u32 659060556), .lit (.int .u32 883997877), .lit (.int .u32 958139571), .lit (.int .u32 1322822218), .lit (.int .u32 1537002063), .lit (.int .u32 1747873779), .lit (.int .u32 1955562222), .lit (.int .u32 2024104815), .lit (.int .u32 2227730452), .lit (.int .u32 2361852424), .lit (.int .u32 2428436474), .lit (.int .u32 2756734187), .lit (.int .u32 3204031479), .lit (.int .u32 3329325298)]
def laid_treesandproofs_pub_cometmerkle_errWire {H : Type} : DataW H := .iface "*errors.errorString" (.ptr (.agg [.lit (.string [109, 101, 114, 107, 108, 101, 58, 32, 119, 114, 111, 110, 103, 32, 119, 105, 114, 101, 32, 102, 111, 114, 109, 97, 116])]))
def laid_encoding_hex_ErrLength {H : Type} : DataW H := .iface "*errors.errorString" (.ptr (.agg [.lit (.string [101, 110, 99, 111, 100, 105, 110, 103, 47, 104, 101, 120, 58, 32, 111, 100, 100, 32, 108, 101, 110, 103, 116, 104, 32, 104, 101, 120, 32, 115, 116, 114, 105, 110, 103])]))
def laid_treesandproofs_pub_neturl_table {H : Type} : DataW H := .agg [.lit (.int .u8 0), .lit (.int .u8 0), .lit (.int .u8 0), .lit (.int .u8 0), .lit (.int .u8 0), .lit (.int .u8 0), .lit (.int .u8 0), .lit (.int .u8 0), .lit (.int .u8 0), .lit (.int .u8 0), .lit (.int .u8 0), .lit (.int .u8 0), .lit (.int .u8 0), .lit (.int .u8 0), .lit (.int .u8 0), .lit (.int .u8 0), .lit (.int .u8 0), .lit (.int .u8 0), .lit (.int .u8 0), .lit (.int .u8 0), .lit (.int .u8 0), .lit (.int .u8 0), .lit (.int .u8 0), .lit (.int .u8 0), .lit (.int .u8 0), .lit (.int .u8 0), .lit (.int .u8 0), .lit (.int .u8 0), .lit (.int .u8 0), .lit (.int .u8 0), .lit (.int .u8 0), .lit (.int .u8 0), .lit (.int .u8 0), .lit (.int .u8 76), .lit (.int .u8 12), .lit (.int .u8 0), .lit (.int .u8 95), .lit (.int .u8 0), .lit (.int .u8 95), .lit (.int .u8 12), .lit (.int .u8 76), .lit (.int .u8 76), .lit (.int .u8 76), .lit (.int .u8 95), .lit (.int .u8 93), .lit (.int .u8 127), .lit (.int .u8 127), .lit (.int .u8 65), .lit (.int .u8 255), .lit (.int .u8 255), .lit (.int .u8 255), .lit (.int .u8 255), .lit (.int .u8 255), .lit (.int .u8 255), .lit (.int .u8 255), .lit (.int .u8 255), .lit (.int .u8 255), .lit (.int .u8 255), .lit (.int .u8 79), .lit (.int .u8 93), .lit (.int .u8 12), .lit (.int .u8 95), .lit (.int .u8 12), .lit (.int .u8 64), .lit (.int .u8 67), .lit (.int .u8 255), .lit (.int .u8 255), .lit (.int .u8 255), .lit (.int .u8 255), .lit (.int .u8 255), .lit (.int .u8 255), .lit (.int .u8 127), .lit (.int .u8 127), .lit (.int .u8 127), .lit (.int .u8 127), .lit (.int .u8 127), .lit (.int .u8 127), .lit (.int .u8 127), .lit (.int .u8 127), .lit (.int .u8 127), .lit (.int .u8 127), .lit (.int .u8 127), .lit (.int .u8 127), .lit (.int .u8 127), .lit (.int .u8 127), .lit (.int .u8 127), .lit (.int .u8 127), .lit (.int .u8 127), .lit (.int .u8 127), .lit (.int .u8 127), .lit (.int .u8 127), .lit (.int .u8 12), .lit (.int .u8 0), .lit (.int .u8 12), .lit (.int .u8 0), .lit (.int .u8 127), .lit (.int .u8 0), .lit (.int .u8 255), .lit (.int .u8 255), .lit (.int .u8 255), .lit (.int .u8 255), .lit (.int .u8 255), .lit (.int .u8 255), .lit (.int .u8 127), .lit (.int .u8 127), .lit (.int .u8 127), .lit (.int .u8 127), .lit (.int .u8 127), .lit (.int .u8 127), .lit (.int .u8 127), .lit (.int .u8 127), .lit (.int .u8 127), .lit (.int .u8 127), .lit (.int .u8 127), .lit (.int .u8 127), .lit (.int .u8 127), .lit (.int .u8 127), .lit (.int .u8 127), .lit (.int .u8 127), .lit (.int .u8 127), .lit (.int .u8 127), .lit (.int .u8 127), .lit (.int .u8 127), .lit (.int .u8 0), .lit (.int .u8 0), .lit (.int .u8 0), .lit (.int .u8 127), .lit (.int .u8 0), .lit (.int .u8 0), .lit (.int .u8 0), .lit (.int .u8 0), .lit (.int .u8 0), .lit (.int .u8 0), .lit (.int .u8 0), .lit (.int .u8 0), .lit (.int .u8 0), .lit (.int .u8 0), .lit (.int .u8 0), .lit (.int .u8 0), .lit (.int .u8 0), .lit (.int .u8 0), .lit (.int .u8 0), .lit (.int .u8 0), .lit (.int .u8 0), .lit (.int .u8 0), .lit (.int .u8 0), .lit (.int .u8 0), .lit (.int .u8 0), .lit (.int .u8 0), .lit (.int .u8 0), .lit (.int .u8 0), .lit (.int .u8 0), .lit (.int .u8 0), .lit (.int .u8 0), .lit (.int .u8 0), .lit (.int .u8 0), .lit (.int .u8 0), .lit (.int .u8 0), .lit (.int .u8 0), .lit (.int .u8 0), .lit (.int .u8 0), .lit (.int .u8 0), .lit (.int .u8 0), .lit (.int .u8 0), .lit (.int .u8 0), .lit (.int .u8 0), .lit (.int .u8 0), .lit (.int .u8 0), .lit (.int .u8 0), .lit (.int .u8 0), .lit (.int .u8 0), .lit (.int .u8 0), .lit (.int .u8 0), .lit (.int .u8 0), .lit (.int .u8 0), .lit (.int .u8 0), .lit (.int .u8 0), .lit (.int .u8 0), .lit (.int .u8 0), .lit (.int .u8 0), .lit (.int .u8 0), .lit (.int .u8 0), .lit (.int .u8 0), .lit (.int .u8 0), .lit (.int .u8 0), .lit (.int .u8 0), .lit (.int .u8 0), .lit (.int .u8 0), .lit (.int .u8 0), .lit (.int .u8 0), .lit (.int .u8 0), .lit (.int .u8 0), .lit (.int .u8 0), .lit (.int .u8 0), .lit (.int .u8 0), .lit (.int .u8 0), .lit (.int .u8 0), .lit (.int .u8 0), .lit (.int .u8 0), .lit (.int .u8 0), .lit (.int .u8 0), .lit (.int .u8 0), .lit (.int .u8 0), .lit (.int .u8 0), .lit (.int .u8 0), .lit (.int .u8 0), .lit (.int .u8 0), .lit (.int .u8 0), .lit (.int .u8 0), .lit (.int .u8 0), .lit (.int .u8 0), .lit (.int .u8 0), .lit (.int .u8 0), .lit (.int .u8 0), .lit (.int .u8 0), .lit (.int .u8 0), .lit (.int .u8 0), .lit (.int .u8 0), .lit (.int .u8 0), .lit (.int .u8 0), .lit (.int .u8 0), .lit (.int .u8 0), .lit (.int .u8 0), .lit (.int .u8 0), .lit (.int .u8 0), .lit (.int .u8 0), .lit (.int .u8 0), .lit (.int .u8 0), .lit (.int .u8 0), .lit (.int .u8 0), .lit (.int .u8 0), .lit (.int .u8 0), .lit (.int .u8 0), .lit (.int .u8 0), .lit (.int .u8 0), .lit (.int .u8 0), .lit (.int .u8 0), .lit (.int .u8 0), .lit (.int .u8 0), .lit (.int .u8 0), .lit (.int .u8 0), .lit (.int .u8 0), .lit (.int .u8 0), .lit (.int .u8 0), .lit (.int .u8 0), .lit (.int .u8 0), .lit (.int .u8 0), .lit (.int .u8 0), .lit (.int .u8 0), .lit (.int .u8 0), .lit (.int .u8 0), .lit (.int .u8 0), .lit (.int .u8 0), .lit (.int .u8 0), .lit (.int .u8 0), .lit (.int .u8 0)]
def laid_math_bits_deBruijn32tab {H : Type} : DataW H := .agg [.lit (.int .u8 0), .lit (.int .u8 1), .lit (.int .u8 28), .lit (.int .u8 2), .lit (.int .u8 29), .lit (.int .u8 14), .lit (.int .u8 24), .lit (.int .u8 3), .lit (.int .u8 30), .lit (.int .u8 22), .lit (.int .u8 20), .lit (.int .u8 15), .lit (.int .u8 25), .lit (.int .u8 17), .lit (.int .u8 4), .lit (.int .u8 8), .lit (.int .u8 31), .lit (.int .u8 27), .lit (.int .u8 13), .lit (.int .u8 23), .lit (.int .u8 21), .lit (.int .u8 19), .lit (.int .u8 16), .lit (.int .u8 7), .lit (.int .u8 26), .lit (.int .u8 12), .lit (.int .u8 18), .lit (.int .u8 6), .lit (.int .u8 11), .lit (.int .u8 5), .lit (.int .u8 10), .lit (.int .u8 9)]
def laid_math_bits_deBruijn64tab {H : Type} : DataW H := .agg [.lit (.int .u8 0), .lit (.int .u8 1), .lit (.int .u8 56), .lit (.int .u8 2), .lit (.int .u8 57), .lit (.int .u8 49), .lit (.int .u8 28), .lit (.int .u8 3), .lit (.int .u8 61), .lit (.int .u8 58), .lit (.int .u8 42), .lit (.int .u8 50), .lit (.int .u8 38), .lit (.int .u8 29), .lit (.int .u8 17), .lit (.int .u8 4), .lit (.int .u8 62), .lit (.int .u8 47), .lit (.int .u8 59), .lit (.int .u8 36), .lit (.int .u8 45), .lit (.int .u8 43), .lit (.int .u8 51), .lit (.int .u8 22), .lit (.int .u8 53), .lit (.int .u8 39), .lit (.int .u8 33), .lit (.int .u8 30), .lit (.int .u8 24), .lit (.int .u8 18), .lit (.int .u8 12), .lit (.int .u8 5), .lit (.int .u8 63), .lit (.int .u8 55), .lit (.int .u8 48), .lit (.int .u8 27), .lit (.int .u8 60), .lit (.int .u8 41), .lit (.int .u8 37), .lit (.int .u8 16), .lit (.int .u8 46), .lit (.int .u8 35), .lit (.int .u8 44), .lit (.int .u8 21), .lit (.int .u8 52), .lit (.int .u8 32), .lit (.int .u8 23), .lit (.int .u8 11), .lit (.int .u8 54), .lit (.int .u8 26), .lit (.int .u8 40), .lit (.int .u8 15), .lit (.int .u8 34), .lit (.int .u8 20), .lit (.int .u8 31), .lit (.int .u8 10), .lit (.int .u8 25), .lit (.int .u8 14), .lit (.int .u8 19), .lit (.int .u8 9), .lit (.int .u8 13), .lit (.int .u8 8), .lit (.int .u8 7), .lit (.int .u8 6)]
def laid_internal_strconv_uint64pow10 {H : Type} : DataW H := .agg [.lit (.int .u64 1), .lit (.int .u64 10), .lit (.int .u64 100), .lit (.int .u64 1000), .lit (.int .u64 10000), .lit (.int .u64 100000), .lit (.int .u64 1000000), .lit (.int .u64 10000000), .lit (.int .u64 100000000), .lit (.int .u64 1000000000), .lit (.int .u64 10000000000), .lit (.int .u64 100000000000), .lit (.int .u64 1000000000000), .lit (.int .u64 10000000000000), .lit (.int .u64 100000000000000), .lit (.int .u64 1000000000000000), .lit (.int .u64 10000000000000000), .lit (.int .u64 100000000000000000), .lit (.int .u64 1000000000000000000), .lit (.int .u64 10000000000000000000)]

/-- 'laws.FnValid': WHATEVER THE INPUT: true; the input reads as it did. -/
def fnValidSpec : ChangeSpec := { name := "fnValid", fn := fun _ => fun
  | [d] => { results := [.lit (.bool true)], args := [d] }
  | _ => none }
def fnValidRow : OpenClaim := { program := "ytfodkjpjejoemaadoor", sum := "2aa16647805703fef85cb3d6d277c9407dfde475753bb5e0dcae1053d0f3adb8", func := "treesandproofs/laws.FnValid", spec := "fnValid", named := ["treesandproofs/pub/cometmerkle.ErrMaxAuntsLenExceeded"], apart := false, laid := [("treesandproofs/pub/cometmerkle.ErrMaxAuntsLenExceeded", laid_treesandproofs_pub_cometmerkle_ErrMaxAuntsLenExceeded)] }
def FnValidSaid : Prop := fnValidRow.holds Tryd.pinned (OpenSpec.ofChange fnValidSpec)

/-- ITS FALSE NEIGHBOUR: 'it returns false'. Refute it at one input. -/
def fnValidWrong : ChangeSpec := { name := "fnValid", fn := fun _ => fun
  | [d] => { results := [.lit (.bool false)], args := [d] }
  | _ => none }
def FnValidWrongFalsely : Prop := fnValidRow.holds Tryd.pinned (OpenSpec.ofChange fnValidWrong)

/-- 'laws.FnSum': WHATEVER THE INPUT: true; the input reads as it did. -/
def fnSumSpec : ChangeSpec := { name := "fnSum", fn := fun _ => fun
  | [d] => { results := [.lit (.bool true)], args := [d] }
  | _ => none }
def fnSumRow : OpenClaim := { program := "ytfodkjpjejoemaadoor", sum := "2aa16647805703fef85cb3d6d277c9407dfde475753bb5e0dcae1053d0f3adb8", func := "treesandproofs/laws.FnSum", spec := "fnSum", unfollowed := true, recurses := true, named := ["treesandproofs/pub/sha256._K"], apart := false, laid := [("treesandproofs/pub/sha256._K", laid_treesandproofs_pub_sha256_K)] }
def FnSumSaid : Prop := fnSumRow.holds Tryd.pinned (OpenSpec.ofChange fnSumSpec)

/-- ITS FALSE NEIGHBOUR: 'it returns false'. Refute it at one input. -/
def fnSumWrong : ChangeSpec := { name := "fnSum", fn := fun _ => fun
  | [d] => { results := [.lit (.bool false)], args := [d] }
  | _ => none }
def FnSumWrongFalsely : Prop := fnSumRow.holds Tryd.pinned (OpenSpec.ofChange fnSumWrong)

/-- 'laws.FnMessage': WHATEVER THE INPUT: true; the input reads as it did. -/
def fnMessageSpec : ChangeSpec := { name := "fnMessage", fn := fun _ => fun
  | [d] => { results := [.lit (.bool true)], args := [d] }
  | _ => none }
def fnMessageRow : OpenClaim := { program := "ytfodkjpjejoemaadoor", sum := "2aa16647805703fef85cb3d6d277c9407dfde475753bb5e0dcae1053d0f3adb8", func := "treesandproofs/laws.FnMessage", spec := "fnMessage", unfollowed := true, recurses := true, named := ["treesandproofs/pub/cometmerkle.errWire", "treesandproofs/pub/cometmerkle.ErrMaxAuntsLenExceeded"], apart := false, laid := [("treesandproofs/pub/cometmerkle.ErrMaxAuntsLenExceeded", laid_treesandproofs_pub_cometmerkle_ErrMaxAuntsLenExceeded), ("treesandproofs/pub/cometmerkle.errWire", laid_treesandproofs_pub_cometmerkle_errWire)] }
def FnMessageSaid : Prop := fnMessageRow.holds Tryd.pinned (OpenSpec.ofChange fnMessageSpec)

/-- ITS FALSE NEIGHBOUR: 'it returns false'. Refute it at one input. -/
def fnMessageWrong : ChangeSpec := { name := "fnMessage", fn := fun _ => fun
  | [d] => { results := [.lit (.bool false)], args := [d] }
  | _ => none }
def FnMessageWrongFalsely : Prop := fnMessageRow.holds Tryd.pinned (OpenSpec.ofChange fnMessageWrong)

/-- 'laws.FnKeys': WHATEVER THE INPUT: true; the input reads as it did. -/
def fnKeysSpec : ChangeSpec := { name := "fnKeys", fn := fun _ => fun
  | [d] => { results := [.lit (.bool true)], args := [d] }
  | _ => none }
def fnKeysRow : OpenClaim := { program := "ytfodkjpjejoemaadoor", sum := "2aa16647805703fef85cb3d6d277c9407dfde475753bb5e0dcae1053d0f3adb8", func := "treesandproofs/laws.FnKeys", spec := "fnKeys", inPlace := ["internal/abi.NoEscape", "internal/bytealg.MakeNoZero"], unfollowed := true, recurses := true, named := ["encoding/hex.ErrLength", "treesandproofs/pub/neturl.table"], apart := false, laid := [("encoding/hex.ErrLength", laid_encoding_hex_ErrLength), ("treesandproofs/pub/neturl.table", laid_treesandproofs_pub_neturl_table)] }
def FnKeysSaid : Prop := fnKeysRow.holds Tryd.pinned (OpenSpec.ofChange fnKeysSpec)

/-- ITS FALSE NEIGHBOUR: 'it returns false'. Refute it at one input. -/
def fnKeysWrong : ChangeSpec := { name := "fnKeys", fn := fun _ => fun
  | [d] => { results := [.lit (.bool false)], args := [d] }
  | _ => none }
def FnKeysWrongFalsely : Prop := fnKeysRow.holds Tryd.pinned (OpenSpec.ofChange fnKeysWrong)

/-- 'laws.FnRoot': WHATEVER THE INPUT: true; the input reads as it did. -/
def fnRootSpec : ChangeSpec := { name := "fnRoot", fn := fun _ => fun
  | [d1, d2] => { results := [.lit (.bool true)], args := [d1, d2] }
  | _ => none }
def fnRootRow : OpenClaim := { program := "ytfodkjpjejoemaadoor", sum := "2aa16647805703fef85cb3d6d277c9407dfde475753bb5e0dcae1053d0f3adb8", func := "treesandproofs/laws.FnRoot", spec := "fnRoot", unfollowed := true, recurses := true, named := ["treesandproofs/pub/sha256._K"], apart := false, laid := [("treesandproofs/pub/sha256._K", laid_treesandproofs_pub_sha256_K)] }
def FnRootSaid : Prop := fnRootRow.holds Tryd.pinned (OpenSpec.ofChange fnRootSpec)

/-- ITS FALSE NEIGHBOUR: 'it returns false'. Refute it at one input. -/
def fnRootWrong : ChangeSpec := { name := "fnRoot", fn := fun _ => fun
  | [d1, d2] => { results := [.lit (.bool false)], args := [d1, d2] }
  | _ => none }
def FnRootWrongFalsely : Prop := fnRootRow.holds Tryd.pinned (OpenSpec.ofChange fnRootWrong)

/-- 'laws.FnPath': WHATEVER THE INPUT: true; the input reads as it did. -/
def fnPathSpec : ChangeSpec := { name := "fnPath", fn := fun _ => fun
  | [d1, d2] => { results := [.lit (.bool true)], args := [d1, d2] }
  | _ => none }
def fnPathRow : OpenClaim := { program := "ytfodkjpjejoemaadoor", sum := "2aa16647805703fef85cb3d6d277c9407dfde475753bb5e0dcae1053d0f3adb8", func := "treesandproofs/laws.FnPath", spec := "fnPath", inPlace := ["internal/abi.NoEscape", "internal/bytealg.MakeNoZero"], unfollowed := true, recurses := true, named := ["treesandproofs/pub/neturl.table", "encoding/hex.ErrLength"], apart := false, laid := [("encoding/hex.ErrLength", laid_encoding_hex_ErrLength), ("treesandproofs/pub/neturl.table", laid_treesandproofs_pub_neturl_table)] }
def FnPathSaid : Prop := fnPathRow.holds Tryd.pinned (OpenSpec.ofChange fnPathSpec)

/-- ITS FALSE NEIGHBOUR: 'it returns false'. Refute it at one input. -/
def fnPathWrong : ChangeSpec := { name := "fnPath", fn := fun _ => fun
  | [d1, d2] => { results := [.lit (.bool false)], args := [d1, d2] }
  | _ => none }
def FnPathWrongFalsely : Prop := fnPathRow.holds Tryd.pinned (OpenSpec.ofChange fnPathWrong)

/-- 'laws.FnForged': WHATEVER THE INPUT: true; the input reads as it did. -/
def fnForgedSpec : ChangeSpec := { name := "fnForged", fn := fun _ => fun
  | [d1, d2, d3, d4, d5] => { results := [.lit (.bool true)], args := [d1, d2, d3, d4, d5] }
  | _ => none }
def fnForgedRow : OpenClaim := { program := "ytfodkjpjejoemaadoor", sum := "2aa16647805703fef85cb3d6d277c9407dfde475753bb5e0dcae1053d0f3adb8", func := "treesandproofs/laws.FnForged", spec := "fnForged", unfollowed := true, recurses := true, named := ["treesandproofs/pub/sha256._K"], apart := false, laid := [("treesandproofs/pub/sha256._K", laid_treesandproofs_pub_sha256_K)] }
def FnForgedSaid : Prop := fnForgedRow.holds Tryd.pinned (OpenSpec.ofChange fnForgedSpec)

/-- ITS FALSE NEIGHBOUR: 'it returns false'. Refute it at one input. -/
def fnForgedWrong : ChangeSpec := { name := "fnForged", fn := fun _ => fun
  | [d1, d2, d3, d4, d5] => { results := [.lit (.bool false)], args := [d1, d2, d3, d4, d5] }
  | _ => none }
def FnForgedWrongFalsely : Prop := fnForgedRow.holds Tryd.pinned (OpenSpec.ofChange fnForgedWrong)

/-- 'laws.FnProofs': WHATEVER THE INPUT: true; the input reads as it did. -/
def fnProofsSpec : ChangeSpec := { name := "fnProofs", fn := fun _ => fun
  | [d] => { results := [.lit (.bool true)], args := [d] }
  | _ => none }
def fnProofsRow : OpenClaim := { program := "ytfodkjpjejoemaadoor", sum := "2aa16647805703fef85cb3d6d277c9407dfde475753bb5e0dcae1053d0f3adb8", func := "treesandproofs/laws.FnProofs", spec := "fnProofs", unfollowed := true, recurses := true, named := ["treesandproofs/pub/sha256._K", "treesandproofs/pub/cometmerkle.ErrMaxAuntsLenExceeded"], apart := false, laid := [("treesandproofs/pub/sha256._K", laid_treesandproofs_pub_sha256_K), ("treesandproofs/pub/cometmerkle.ErrMaxAuntsLenExceeded", laid_treesandproofs_pub_cometmerkle_ErrMaxAuntsLenExceeded)] }
def FnProofsSaid : Prop := fnProofsRow.holds Tryd.pinned (OpenSpec.ofChange fnProofsSpec)

/-- ITS FALSE NEIGHBOUR: 'it returns false'. Refute it at one input. -/
def fnProofsWrong : ChangeSpec := { name := "fnProofs", fn := fun _ => fun
  | [d] => { results := [.lit (.bool false)], args := [d] }
  | _ => none }
def FnProofsWrongFalsely : Prop := fnProofsRow.holds Tryd.pinned (OpenSpec.ofChange fnProofsWrong)

/-- 'laws.FnTold': WHATEVER THE INPUT: true; the input reads as it did. -/
def fnToldSpec : ChangeSpec := { name := "fnTold", fn := fun _ => fun
  | [d1, d2] => { results := [.lit (.bool true)], args := [d1, d2] }
  | _ => none }
def fnToldRow : OpenClaim := { program := "ytfodkjpjejoemaadoor", sum := "2aa16647805703fef85cb3d6d277c9407dfde475753bb5e0dcae1053d0f3adb8", func := "treesandproofs/laws.FnTold", spec := "fnTold", inPlace := ["internal/abi.NoEscape", "internal/bytealg.MakeNoZero"], unfollowed := true, recurses := true, named := ["internal/strconv.uint64pow10", "math/bits.deBruijn32tab", "math/bits.deBruijn64tab"], apart := false, laid := [("math/bits.deBruijn32tab", laid_math_bits_deBruijn32tab), ("math/bits.deBruijn64tab", laid_math_bits_deBruijn64tab), ("internal/strconv.uint64pow10", laid_internal_strconv_uint64pow10)] }
def FnToldSaid : Prop := fnToldRow.holds Tryd.pinned (OpenSpec.ofChange fnToldSpec)

/-- ITS FALSE NEIGHBOUR: 'it returns false'. Refute it at one input. -/
def fnToldWrong : ChangeSpec := { name := "fnTold", fn := fun _ => fun
  | [d1, d2] => { results := [.lit (.bool false)], args := [d1, d2] }
  | _ => none }
def FnToldWrongFalsely : Prop := fnToldRow.holds Tryd.pinned (OpenSpec.ofChange fnToldWrong)

/- THE SECOND FORM. 'bulk': how many values and letters a reading holds, each counted each time it is reached (what is shared counts as often as it is met; a slice's spare places count too). A statement '..UptoSaid' is the law's where the arguments, and the package variables that the reading takes, are together of bulk at most 1048576: NARROWER than '..Said'. Prove '..Said' where nothing that the law and all that it calls make is longer than what came in: it says more and counts as full. Else prove '..UptoSaid'. A law counts once. -/
mutual
def uptoBulk {H : Type} : DataW H → Nat
  | .lit (.string bytes) => bytes.length + 1
  | .lit _ => 1
  | .nil => 1
  | .ptr d => uptoBulk d + 1
  | .slice elems spare => uptoBulkAll elems + uptoBulkAll spare + 1
  | .agg parts => uptoBulkAll parts + 1
  | .iface _ d => uptoBulk d + 1
  | .map entries => uptoBulkEntries entries + 1
  | .held _ => 1
def uptoBulkAll {H : Type} : List (DataW H) → Nat
  | [] => 0
  | d :: r => uptoBulk d + uptoBulkAll r
def uptoBulkEntries {H : Type} : List (Lit × DataW H) → Nat
  | [] => 0
  | x :: r => uptoBulkEntry x + uptoBulkEntries r
def uptoBulkEntry {H : Type} : Lit × DataW H → Nat
  | (.string bytes, d) => bytes.length + uptoBulk d + 1
  | (_, d) => uptoBulk d + 1
 end
def uptoSmall : (H : Type) → List (DataW H) → Bool := fun _ ds => decide (uptoBulkAll ds ≤ 1048576)
def OpenSpec.upto (s : _root_.Go.ChangeSpec) : _root_.Go.OpenSpec := { _root_.Go.OpenSpec.ofChange s with cond := some uptoSmall }

/-- 'laws.FnValid', WHERE WHAT IT READS IS OF BULK AT MOST 1048576: true; the input reads as it did. -/
def fnValidUptoRow : OpenClaim := { program := "ytfodkjpjejoemaadoor", sum := "2aa16647805703fef85cb3d6d277c9407dfde475753bb5e0dcae1053d0f3adb8", func := "treesandproofs/laws.FnValid", spec := "fnValid", named := ["treesandproofs/pub/cometmerkle.ErrMaxAuntsLenExceeded"], apart := false, laid := [("treesandproofs/pub/cometmerkle.ErrMaxAuntsLenExceeded", laid_treesandproofs_pub_cometmerkle_ErrMaxAuntsLenExceeded)], narrowed := true }
def FnValidUptoSaid : Prop := fnValidUptoRow.holds Tryd.pinned (OpenSpec.upto fnValidSpec)

/-- 'laws.FnSum', WHERE WHAT IT READS IS OF BULK AT MOST 1048576: true; the input reads as it did. -/
def fnSumUptoRow : OpenClaim := { program := "ytfodkjpjejoemaadoor", sum := "2aa16647805703fef85cb3d6d277c9407dfde475753bb5e0dcae1053d0f3adb8", func := "treesandproofs/laws.FnSum", spec := "fnSum", unfollowed := true, recurses := true, named := ["treesandproofs/pub/sha256._K"], apart := false, laid := [("treesandproofs/pub/sha256._K", laid_treesandproofs_pub_sha256_K)], narrowed := true }
def FnSumUptoSaid : Prop := fnSumUptoRow.holds Tryd.pinned (OpenSpec.upto fnSumSpec)

/-- 'laws.FnMessage', WHERE WHAT IT READS IS OF BULK AT MOST 1048576: true; the input reads as it did. -/
def fnMessageUptoRow : OpenClaim := { program := "ytfodkjpjejoemaadoor", sum := "2aa16647805703fef85cb3d6d277c9407dfde475753bb5e0dcae1053d0f3adb8", func := "treesandproofs/laws.FnMessage", spec := "fnMessage", unfollowed := true, recurses := true, named := ["treesandproofs/pub/cometmerkle.errWire", "treesandproofs/pub/cometmerkle.ErrMaxAuntsLenExceeded"], apart := false, laid := [("treesandproofs/pub/cometmerkle.ErrMaxAuntsLenExceeded", laid_treesandproofs_pub_cometmerkle_ErrMaxAuntsLenExceeded), ("treesandproofs/pub/cometmerkle.errWire", laid_treesandproofs_pub_cometmerkle_errWire)], narrowed := true }
def FnMessageUptoSaid : Prop := fnMessageUptoRow.holds Tryd.pinned (OpenSpec.upto fnMessageSpec)

/-- 'laws.FnKeys', WHERE WHAT IT READS IS OF BULK AT MOST 1048576: true; the input reads as it did. -/
def fnKeysUptoRow : OpenClaim := { program := "ytfodkjpjejoemaadoor", sum := "2aa16647805703fef85cb3d6d277c9407dfde475753bb5e0dcae1053d0f3adb8", func := "treesandproofs/laws.FnKeys", spec := "fnKeys", inPlace := ["internal/abi.NoEscape", "internal/bytealg.MakeNoZero"], unfollowed := true, recurses := true, named := ["encoding/hex.ErrLength", "treesandproofs/pub/neturl.table"], apart := false, laid := [("encoding/hex.ErrLength", laid_encoding_hex_ErrLength), ("treesandproofs/pub/neturl.table", laid_treesandproofs_pub_neturl_table)], narrowed := true }
def FnKeysUptoSaid : Prop := fnKeysUptoRow.holds Tryd.pinned (OpenSpec.upto fnKeysSpec)

/-- 'laws.FnRoot', WHERE WHAT IT READS IS OF BULK AT MOST 1048576: true; the input reads as it did. -/
def fnRootUptoRow : OpenClaim := { program := "ytfodkjpjejoemaadoor", sum := "2aa16647805703fef85cb3d6d277c9407dfde475753bb5e0dcae1053d0f3adb8", func := "treesandproofs/laws.FnRoot", spec := "fnRoot", unfollowed := true, recurses := true, named := ["treesandproofs/pub/sha256._K"], apart := false, laid := [("treesandproofs/pub/sha256._K", laid_treesandproofs_pub_sha256_K)], narrowed := true }
def FnRootUptoSaid : Prop := fnRootUptoRow.holds Tryd.pinned (OpenSpec.upto fnRootSpec)

/-- 'laws.FnPath', WHERE WHAT IT READS IS OF BULK AT MOST 1048576: true; the input reads as it did. -/
def fnPathUptoRow : OpenClaim := { program := "ytfodkjpjejoemaadoor", sum := "2aa16647805703fef85cb3d6d277c9407dfde475753bb5e0dcae1053d0f3adb8", func := "treesandproofs/laws.FnPath", spec := "fnPath", inPlace := ["internal/abi.NoEscape", "internal/bytealg.MakeNoZero"], unfollowed := true, recurses := true, named := ["treesandproofs/pub/neturl.table", "encoding/hex.ErrLength"], apart := false, laid := [("encoding/hex.ErrLength", laid_encoding_hex_ErrLength), ("treesandproofs/pub/neturl.table", laid_treesandproofs_pub_neturl_table)], narrowed := true }
def FnPathUptoSaid : Prop := fnPathUptoRow.holds Tryd.pinned (OpenSpec.upto fnPathSpec)

/-- 'laws.FnForged', WHERE WHAT IT READS IS OF BULK AT MOST 1048576: true; the input reads as it did. -/
def fnForgedUptoRow : OpenClaim := { program := "ytfodkjpjejoemaadoor", sum := "2aa16647805703fef85cb3d6d277c9407dfde475753bb5e0dcae1053d0f3adb8", func := "treesandproofs/laws.FnForged", spec := "fnForged", unfollowed := true, recurses := true, named := ["treesandproofs/pub/sha256._K"], apart := false, laid := [("treesandproofs/pub/sha256._K", laid_treesandproofs_pub_sha256_K)], narrowed := true }
def FnForgedUptoSaid : Prop := fnForgedUptoRow.holds Tryd.pinned (OpenSpec.upto fnForgedSpec)

/-- 'laws.FnProofs', WHERE WHAT IT READS IS OF BULK AT MOST 1048576: true; the input reads as it did. -/
def fnProofsUptoRow : OpenClaim := { program := "ytfodkjpjejoemaadoor", sum := "2aa16647805703fef85cb3d6d277c9407dfde475753bb5e0dcae1053d0f3adb8", func := "treesandproofs/laws.FnProofs", spec := "fnProofs", unfollowed := true, recurses := true, named := ["treesandproofs/pub/sha256._K", "treesandproofs/pub/cometmerkle.ErrMaxAuntsLenExceeded"], apart := false, laid := [("treesandproofs/pub/sha256._K", laid_treesandproofs_pub_sha256_K), ("treesandproofs/pub/cometmerkle.ErrMaxAuntsLenExceeded", laid_treesandproofs_pub_cometmerkle_ErrMaxAuntsLenExceeded)], narrowed := true }
def FnProofsUptoSaid : Prop := fnProofsUptoRow.holds Tryd.pinned (OpenSpec.upto fnProofsSpec)

/-- 'laws.FnTold', WHERE WHAT IT READS IS OF BULK AT MOST 1048576: true; the input reads as it did. -/
def fnToldUptoRow : OpenClaim := { program := "ytfodkjpjejoemaadoor", sum := "2aa16647805703fef85cb3d6d277c9407dfde475753bb5e0dcae1053d0f3adb8", func := "treesandproofs/laws.FnTold", spec := "fnTold", inPlace := ["internal/abi.NoEscape", "internal/bytealg.MakeNoZero"], unfollowed := true, recurses := true, named := ["internal/strconv.uint64pow10", "math/bits.deBruijn32tab", "math/bits.deBruijn64tab"], apart := false, laid := [("math/bits.deBruijn32tab", laid_math_bits_deBruijn32tab), ("math/bits.deBruijn64tab", laid_math_bits_deBruijn64tab), ("internal/strconv.uint64pow10", laid_internal_strconv_uint64pow10)], narrowed := true }
def FnToldUptoSaid : Prop := fnToldUptoRow.holds Tryd.pinned (OpenSpec.upto fnToldSpec)

end Rows
end Go.Proofs.YtfodkjpjejoemaaDoor
