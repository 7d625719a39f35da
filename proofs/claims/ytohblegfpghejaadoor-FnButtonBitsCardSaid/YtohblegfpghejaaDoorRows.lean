/-
  NARROWER THAN 'FOR EVERY INPUT', by the rows' own cells (each row's printed sentence says how): FnButtonName: laid · FnButton: laid · FnButtonBits: laid · FnKittyList: laid · FnKittyBack: laid · FnKittyParse: laid · FnDiacritic: laid.
  DERIVED. THE GIVEN ROWS OF THIS SEAT. 7 by the template 'for every input the law returns true; each argument reads behind the call as it read before'; 0 by the template 'total and deterministic' (their statements: YtohblegfpghejaaDoorTotals.lean).
  GIVEN WITH THE SEED: the statements are not yours to turn. If you find one false, say at which input.
  Laid BY PROGRAM, IN A SANDBOX (cutbox-rows.mjs): the forced cells as the released guide's own fill.sh prints them over the translation 610a5a7e69408fe2… (all of the seat's roots in one cut). By AI agents, Wed Nov 11 2026. No macro, syntax, notation, axiom, sorry.
-/
import Derived.Test.YtohblegfpghejaaDoorChecked
import GoSem.Claim
import GoSem.ClaimJoined
import GoSem.ClaimMapViews
import Derived.JoinedTies
import Derived.KernelRfl
namespace Go.Proofs.YtohblegfpghejaaDoor
/- THE CELL 'sum', in the pinned program and in every row, IS THE sha256 OF THE DUMP (.gsa) THAT YtohblegfpghejaaDoorProg.lean LOADS. Nothing in Lean hashes anything: it is a label: what it is worth is what the hold of that sum in a sandbox is worth. -/
noncomputable def Tryd.pinned : Pinned := { name := "ytohblegfpghejaadoor", sum := "610a5a7e69408fe2953998fde41ab62226a7a66797d8f95056c3ff914b2bd8be", checked := Tryd.checked }
namespace Rows
def none {H : Type} : Left H := { results := [], args := [] }

/- WHAT THE LISTED PACKAGE-LEVEL VARIABLES READ AS WHEN THE CALL BEGINS. Each datum BY PROGRAM (the guide's laid-datum.mjs) off the statement by which the dump's own 'gosem.cut.vars' lays the variable. In a bare row this is a premise. The card (YtohblegfpghejaaDoorCards.lean) ties it to the program's text. -/
def laid_math_bits_deBruijn32tab {H : Type} : DataW H := .agg [.lit (.int .u8 0), .lit (.int .u8 1), .lit (.int .u8 28), .lit (.int .u8 2), .lit (.int .u8 29), .lit (.int .u8 14), .lit (.int .u8 24), .lit (.int .u8 3), .lit (.int .u8 30), .lit (.int .u8 22), .lit (.int .u8 20), .lit (.int .u8 15), .lit (.int .u8 25), .lit (.int .u8 17), .lit (.int .u8 4), .lit (.int .u8 8), .lit (.int .u8 31), .lit (.int .u8 27), .lit (.int .u8 13), .lit (.int .u8 23), .lit (.int .u8 21), .lit (.int .u8 19), .lit (.int .u8 16), .lit (.int .u8 7), .lit (.int .u8 26), .lit (.int .u8 12), .lit (.int .u8 18), .lit (.int .u8 6), .lit (.int .u8 11), .lit (.int .u8 5), .lit (.int .u8 10), .lit (.int .u8 9)]
def laid_math_bits_deBruijn64tab {H : Type} : DataW H := .agg [.lit (.int .u8 0), .lit (.int .u8 1), .lit (.int .u8 56), .lit (.int .u8 2), .lit (.int .u8 57), .lit (.int .u8 49), .lit (.int .u8 28), .lit (.int .u8 3), .lit (.int .u8 61), .lit (.int .u8 58), .lit (.int .u8 42), .lit (.int .u8 50), .lit (.int .u8 38), .lit (.int .u8 29), .lit (.int .u8 17), .lit (.int .u8 4), .lit (.int .u8 62), .lit (.int .u8 47), .lit (.int .u8 59), .lit (.int .u8 36), .lit (.int .u8 45), .lit (.int .u8 43), .lit (.int .u8 51), .lit (.int .u8 22), .lit (.int .u8 53), .lit (.int .u8 39), .lit (.int .u8 33), .lit (.int .u8 30), .lit (.int .u8 24), .lit (.int .u8 18), .lit (.int .u8 12), .lit (.int .u8 5), .lit (.int .u8 63), .lit (.int .u8 55), .lit (.int .u8 48), .lit (.int .u8 27), .lit (.int .u8 60), .lit (.int .u8 41), .lit (.int .u8 37), .lit (.int .u8 16), .lit (.int .u8 46), .lit (.int .u8 35), .lit (.int .u8 44), .lit (.int .u8 21), .lit (.int .u8 52), .lit (.int .u8 32), .lit (.int .u8 23), .lit (.int .u8 11), .lit (.int .u8 54), .lit (.int .u8 26), .lit (.int .u8 40), .lit (.int .u8 15), .lit (.int .u8 34), .lit (.int .u8 20), .lit (.int .u8 31), .lit (.int .u8 10), .lit (.int .u8 25), .lit (.int .u8 14), .lit (.int .u8 19), .lit (.int .u8 9), .lit (.int .u8 13), .lit (.int .u8 8), .lit (.int .u8 7), .lit (.int .u8 6)]
def laid_internal_strconv_uint64pow10 {H : Type} : DataW H := .agg [.lit (.int .u64 1), .lit (.int .u64 10), .lit (.int .u64 100), .lit (.int .u64 1000), .lit (.int .u64 10000), .lit (.int .u64 100000), .lit (.int .u64 1000000), .lit (.int .u64 10000000), .lit (.int .u64 100000000), .lit (.int .u64 1000000000), .lit (.int .u64 10000000000), .lit (.int .u64 100000000000), .lit (.int .u64 1000000000000), .lit (.int .u64 10000000000000), .lit (.int .u64 100000000000000), .lit (.int .u64 1000000000000000), .lit (.int .u64 10000000000000000), .lit (.int .u64 100000000000000000), .lit (.int .u64 1000000000000000000), .lit (.int .u64 10000000000000000000)]
def laid_strconv_ErrRange {H : Type} : DataW H := .iface "*errors.errorString" (.ptr (.agg [.lit (.string [118, 97, 108, 117, 101, 32, 111, 117, 116, 32, 111, 102, 32, 114, 97, 110, 103, 101])]))
def laid_strconv_ErrSyntax {H : Type} : DataW H := .iface "*errors.errorString" (.ptr (.agg [.lit (.string [105, 110, 118, 97, 108, 105, 100, 32, 115, 121, 110, 116, 97, 120])]))
def laid_pub_escapade_pub_xansi_kitty_diacritics {H : Type} : DataW H := .slice [.lit (.int .i32 773), .lit (.int .i32 781), .lit (.int .i32 782), .lit (.int .i32 784), .lit (.int .i32 786), .lit (.int .i32 829), .lit (.int .i32 830), .lit (.int .i32 831), .lit (.int .i32 838), .lit (.int .i32 842), .lit (.int .i32 843), .lit (.int .i32 844), .lit (.int .i32 848), .lit (.int .i32 849), .lit (.int .i32 850), .lit (.int .i32 855), .lit (.int .i32 859), .lit (.int .i32 867), .lit (.int .i32 868), .lit (.int .i32 869), .lit (.int .i32 870), .lit (.int .i32 871), .lit (.int .i32 872), .lit (.int .i32 873), .lit (.int .i32 874), .lit (.int .i32 875), .lit (.int .i32 876), .lit (.int .i32 877), .lit (.int .i32 878), .lit (.int .i32 879), .lit (.int .i32 1155), .lit (.int .i32 1156), .lit (.int .i32 1157), .lit (.int .i32 1158), .lit (.int .i32 1159), .lit (.int .i32 1426), .lit (.int .i32 1427), .lit (.int .i32 1428), .lit (.int .i32 1429), .lit (.int .i32 1431), .lit (.int .i32 1432), .lit (.int .i32 1433), .lit (.int .i32 1436), .lit (.int .i32 1437), .lit (.int .i32 1438), .lit (.int .i32 1439), .lit (.int .i32 1440), .lit (.int .i32 1441), .lit (.int .i32 1448), .lit (.int .i32 1449), .lit (.int .i32 1451), .lit (.int .i32 1452), .lit (.int .i32 1455), .lit (.int .i32 1476), .lit (.int .i32 1552), .lit (.int .i32 1553), .lit (.int .i32 1554), .lit (.int .i32 1555), .lit (.int .i32 1556), .lit (.int .i32 1557), .lit (.int .i32 1558), .lit (.int .i32 1559), .lit (.int .i32 1623), .lit (.int .i32 1624), .lit (.int .i32 1625), .lit (.int .i32 1626), .lit (.int .i32 1627), .lit (.int .i32 1629), .lit (.int .i32 1630), .lit (.int .i32 1750), .lit (.int .i32 1751), .lit (.int .i32 1752), .lit (.int .i32 1753), .lit (.int .i32 1754), .lit (.int .i32 1755), .lit (.int .i32 1756), .lit (.int .i32 1759), .lit (.int .i32 1760), .lit (.int .i32 1761), .lit (.int .i32 1762), .lit (.int .i32 1764), .lit (.int .i32 1767), .lit (.int .i32 1768), .lit (.int .i32 1771), .lit (.int .i32 1772), .lit (.int .i32 1840), .lit (.int .i32 1842), .lit (.int .i32 1843), .lit (.int .i32 1845), .lit (.int .i32 1846), .lit (.int .i32 1850), .lit (.int .i32 1853), .lit (.int .i32 1855), .lit (.int .i32 1856), .lit (.int .i32 1857), .lit (.int .i32 1859), .lit (.int .i32 1861), .lit (.int .i32 1863), .lit (.int .i32 1865), .lit (.int .i32 1866), .lit (.int .i32 2027), .lit (.int .i32 2028), .lit (.int .i32 2029), .lit (.int .i32 2030), .lit (.int .i32 2031), .lit (.int .i32 2032), .lit (.int .i32 2033), .lit (.int .i32 2035), .lit (.int .i32 2070), .lit (.int .i32 2071), .lit (.int .i32 2072), .lit (.int .i32 2073), .lit (.int .i32 2075), .lit (.int .i32 2076), .lit (.int .i32 2077), .lit (.int .i32 2078), .lit (.int .i32 2079), .lit (.int .i32 2080), .lit (.int .i32 2081), .lit (.int .i32 2082), .lit (.int .i32 2083), .lit (.int .i32 2085), .lit (.int .i32 2086), .lit (.int .i32 2087), .lit (.int .i32 2089), .lit (.int .i32 2090), .lit (.int .i32 2091), .lit (.int .i32 2092), .lit (.int .i32 2093), .lit (.int .i32 2385), .lit (.int .i32 2387), .lit (.int .i32 2388), .lit (.int .i32 3970), .lit (.int .i32 3971), .lit (.int .i32 3974), .lit (.int .i32 3975), .lit (.int .i32 4957), .lit (.int .i32 4958), .lit (.int .i32 4959), .lit (.int .i32 6109), .lit (.int .i32 6458), .lit (.int .i32 6679), .lit (.int .i32 6773), .lit (.int .i32 6774), .lit (.int .i32 6775), .lit (.int .i32 6776), .lit (.int .i32 6777), .lit (.int .i32 6778), .lit (.int .i32 6779), .lit (.int .i32 6780), .lit (.int .i32 7019), .lit (.int .i32 7021), .lit (.int .i32 7022), .lit (.int .i32 7023), .lit (.int .i32 7024), .lit (.int .i32 7025), .lit (.int .i32 7026), .lit (.int .i32 7027), .lit (.int .i32 7376), .lit (.int .i32 7377), .lit (.int .i32 7378), .lit (.int .i32 7386), .lit (.int .i32 7387), .lit (.int .i32 7392), .lit (.int .i32 7616), .lit (.int .i32 7617), .lit (.int .i32 7619), .lit (.int .i32 7620), .lit (.int .i32 7621), .lit (.int .i32 7622), .lit (.int .i32 7623), .lit (.int .i32 7624), .lit (.int .i32 7625), .lit (.int .i32 7627), .lit (.int .i32 7628), .lit (.int .i32 7633), .lit (.int .i32 7634), .lit (.int .i32 7635), .lit (.int .i32 7636), .lit (.int .i32 7637), .lit (.int .i32 7638), .lit (.int .i32 7639), .lit (.int .i32 7640), .lit (.int .i32 7641), .lit (.int .i32 7642), .lit (.int .i32 7643), .lit (.int .i32 7644), .lit (.int .i32 7645), .lit (.int .i32 7646), .lit (.int .i32 7647), .lit (.int .i32 7648), .lit (.int .i32 7649), .lit (.int .i32 7650), .lit (.int .i32 7651), .lit (.int .i32 7652), .lit (.int .i32 7653), .lit (.int .i32 7654), .lit (.int .i32 7678), .lit (.int .i32 8400), .lit (.int .i32 8401), .lit (.int .i32 8404), .lit (.int .i32 8405), .lit (.int .i32 8406), .lit (.int .i32 8407), .lit (.int .i32 8411), .lit (.int .i32 8412), .lit (.int .i32 8417), .lit (.int .i32 8423), .lit (.int .i32 8425), .lit (.int .i32 8432), .lit (.int .i32 11503), .lit (.int .i32 11504), .lit (.int .i32 11505), .lit (.int .i32 11744), .lit (.int .i32 11745), .lit (.int .i32 11746), .lit (.int .i32 11747), .lit (.int .i32 11748), .lit (.int .i32 11749), .lit (.int .i32 11750), .lit (.int .i32 11751), .lit (.int .i32 11752), .lit (.int .i32 11753), .lit (.int .i32 11754), .lit (.int .i32 11755), .lit (.int .i32 11756), .lit (.int .i32 11757), .lit (.int .i32 11758), .lit (.int .i32 11759), .lit (.int .i32 11760), .lit (.int .i32 11761), .lit (.int .i32 11762), .lit (.int .i32 11763), .lit (.int .i32 11764), .lit (.int .i32 11765), .lit (.int .i32 11766), .lit (.int .i32 11767), .lit (.int .i32 11768), .lit (.int .i32 11769), .lit (.int .i32 11770), .lit (.int .i32 11771), .lit (.int .i32 11772), .lit (.int .i32 11773), .lit (.int .i32 11774), .lit (.int .i32 11775), .lit (.int .i32 42607), .lit (.int .i32 42620), .lit (.int .i32 42621), .lit (.int .i32 42736), .lit (.int .i32 42737), .lit (.int .i32 43232), .lit (.int .i32 43233), .lit (.int .i32 43234), .lit (.int .i32 43235), .lit (.int .i32 43236), .lit (.int .i32 43237), .lit (.int .i32 43238), .lit (.int .i32 43239), .lit (.int .i32 43240), .lit (.int .i32 43241), .lit (.int .i32 43242), .lit (.int .i32 43243), .lit (.int .i32 43244), .lit (.int .i32 43245), .lit (.int .i32 43246), .lit (.int .i32 43247), .lit (.int .i32 43248), .lit (.int .i32 43249), .lit (.int .i32 43696), .lit (.int .i32 43698), .lit (.int .i32 43699), .lit (.int .i32 43703), .lit (.int .i32 43704), .lit (.int .i32 43710), .lit (.int .i32 43711), .lit (.int .i32 43713), .lit (.int .i32 65056), .lit (.int .i32 65057), .lit (.int .i32 65058), .lit (.int .i32 65059), .lit (.int .i32 65060), .lit (.int .i32 65061), .lit (.int .i32 65062), .lit (.int .i32 68111), .lit (.int .i32 68152), .lit (.int .i32 119173), .lit (.int .i32 119174), .lit (.int .i32 119175), .lit (.int .i32 119176), .lit (.int .i32 119177), .lit (.int .i32 119210), .lit (.int .i32 119211), .lit (.int .i32 119212), .lit (.int .i32 119213), .lit (.int .i32 119362), .lit (.int .i32 119363), .lit (.int .i32 119364)] []

/-- 'laws.FnButtonName': WHATEVER THE INPUT: true; the input reads as it did. -/
def fnButtonNameSpec : ChangeSpec := { name := "fnButtonName", fn := fun _ => fun
  | [d] => { results := [.lit (.bool true)], args := [d] }
  | _ => none }
def fnButtonNameRow : OpenClaim := { program := "ytohblegfpghejaadoor", sum := "610a5a7e69408fe2953998fde41ab62226a7a66797d8f95056c3ff914b2bd8be", func := "pub-escapade/laws.FnButtonName", spec := "fnButtonName", named := ["internal/strconv.uint64pow10", "math/bits.deBruijn32tab", "math/bits.deBruijn64tab"], apart := false, laid := [("math/bits.deBruijn32tab", laid_math_bits_deBruijn32tab), ("math/bits.deBruijn64tab", laid_math_bits_deBruijn64tab), ("internal/strconv.uint64pow10", laid_internal_strconv_uint64pow10)] }
def FnButtonNameSaid : Prop := fnButtonNameRow.holds Tryd.pinned (OpenSpec.ofChange fnButtonNameSpec)

/-- ITS FALSE NEIGHBOUR: 'it returns false'. Refute it at one input. -/
def fnButtonNameWrong : ChangeSpec := { name := "fnButtonName", fn := fun _ => fun
  | [d] => { results := [.lit (.bool false)], args := [d] }
  | _ => none }
def FnButtonNameWrongFalsely : Prop := fnButtonNameRow.holds Tryd.pinned (OpenSpec.ofChange fnButtonNameWrong)

/-- 'laws.FnButton': WHATEVER THE INPUT: true; the input reads as it did. -/
def fnButtonSpec : ChangeSpec := { name := "fnButton", fn := fun _ => fun
  | [d1, d2, d3, d4, d5] => { results := [.lit (.bool true)], args := [d1, d2, d3, d4, d5] }
  | _ => none }
def fnButtonRow : OpenClaim := { program := "ytohblegfpghejaadoor", sum := "610a5a7e69408fe2953998fde41ab62226a7a66797d8f95056c3ff914b2bd8be", func := "pub-escapade/laws.FnButton", spec := "fnButton", named := ["internal/strconv.uint64pow10", "math/bits.deBruijn32tab", "math/bits.deBruijn64tab"], apart := false, laid := [("math/bits.deBruijn32tab", laid_math_bits_deBruijn32tab), ("math/bits.deBruijn64tab", laid_math_bits_deBruijn64tab), ("internal/strconv.uint64pow10", laid_internal_strconv_uint64pow10)] }
def FnButtonSaid : Prop := fnButtonRow.holds Tryd.pinned (OpenSpec.ofChange fnButtonSpec)

/-- ITS FALSE NEIGHBOUR: 'it returns false'. Refute it at one input. -/
def fnButtonWrong : ChangeSpec := { name := "fnButton", fn := fun _ => fun
  | [d1, d2, d3, d4, d5] => { results := [.lit (.bool false)], args := [d1, d2, d3, d4, d5] }
  | _ => none }
def FnButtonWrongFalsely : Prop := fnButtonRow.holds Tryd.pinned (OpenSpec.ofChange fnButtonWrong)

/-- 'laws.FnButtonBits': WHATEVER THE INPUT: true; the input reads as it did. -/
def fnButtonBitsSpec : ChangeSpec := { name := "fnButtonBits", fn := fun _ => fun
  | [d1, d2, d3, d4, d5] => { results := [.lit (.bool true)], args := [d1, d2, d3, d4, d5] }
  | _ => none }
def fnButtonBitsRow : OpenClaim := { program := "ytohblegfpghejaadoor", sum := "610a5a7e69408fe2953998fde41ab62226a7a66797d8f95056c3ff914b2bd8be", func := "pub-escapade/laws.FnButtonBits", spec := "fnButtonBits", named := ["internal/strconv.uint64pow10", "math/bits.deBruijn32tab", "math/bits.deBruijn64tab"], apart := false, laid := [("math/bits.deBruijn32tab", laid_math_bits_deBruijn32tab), ("math/bits.deBruijn64tab", laid_math_bits_deBruijn64tab), ("internal/strconv.uint64pow10", laid_internal_strconv_uint64pow10)] }
def FnButtonBitsSaid : Prop := fnButtonBitsRow.holds Tryd.pinned (OpenSpec.ofChange fnButtonBitsSpec)

/-- ITS FALSE NEIGHBOUR: 'it returns false'. Refute it at one input. -/
def fnButtonBitsWrong : ChangeSpec := { name := "fnButtonBits", fn := fun _ => fun
  | [d1, d2, d3, d4, d5] => { results := [.lit (.bool false)], args := [d1, d2, d3, d4, d5] }
  | _ => none }
def FnButtonBitsWrongFalsely : Prop := fnButtonBitsRow.holds Tryd.pinned (OpenSpec.ofChange fnButtonBitsWrong)

/-- 'laws.FnKittyList': WHATEVER THE INPUT: true; the input reads as it did. -/
def fnKittyListSpec : ChangeSpec := { name := "fnKittyList", fn := fun _ => fun
  | [d] => { results := [.lit (.bool true)], args := [d] }
  | _ => none }
def fnKittyListRow : OpenClaim := { program := "ytohblegfpghejaadoor", sum := "610a5a7e69408fe2953998fde41ab62226a7a66797d8f95056c3ff914b2bd8be", func := "pub-escapade/laws.FnKittyList", spec := "fnKittyList", unfollowed := true, recurses := true, named := ["internal/strconv.uint64pow10", "math/bits.deBruijn32tab", "math/bits.deBruijn64tab"], apart := false, laid := [("math/bits.deBruijn32tab", laid_math_bits_deBruijn32tab), ("math/bits.deBruijn64tab", laid_math_bits_deBruijn64tab), ("internal/strconv.uint64pow10", laid_internal_strconv_uint64pow10)] }
def FnKittyListSaid : Prop := fnKittyListRow.holds Tryd.pinned (OpenSpec.ofChange fnKittyListSpec)

/-- ITS FALSE NEIGHBOUR: 'it returns false'. Refute it at one input. -/
def fnKittyListWrong : ChangeSpec := { name := "fnKittyList", fn := fun _ => fun
  | [d] => { results := [.lit (.bool false)], args := [d] }
  | _ => none }
def FnKittyListWrongFalsely : Prop := fnKittyListRow.holds Tryd.pinned (OpenSpec.ofChange fnKittyListWrong)

/-- 'laws.FnKittyBack': WHATEVER THE INPUT: true; the input reads as it did. -/
def fnKittyBackSpec : ChangeSpec := { name := "fnKittyBack", fn := fun _ => fun
  | [d] => { results := [.lit (.bool true)], args := [d] }
  | _ => none }
def fnKittyBackRow : OpenClaim := { program := "ytohblegfpghejaadoor", sum := "610a5a7e69408fe2953998fde41ab62226a7a66797d8f95056c3ff914b2bd8be", func := "pub-escapade/laws.FnKittyBack", spec := "fnKittyBack", named := ["internal/strconv.uint64pow10", "math/bits.deBruijn32tab", "math/bits.deBruijn64tab", "strconv.ErrSyntax", "strconv.ErrRange"], apart := false, laid := [("math/bits.deBruijn32tab", laid_math_bits_deBruijn32tab), ("math/bits.deBruijn64tab", laid_math_bits_deBruijn64tab), ("internal/strconv.uint64pow10", laid_internal_strconv_uint64pow10), ("strconv.ErrRange", laid_strconv_ErrRange), ("strconv.ErrSyntax", laid_strconv_ErrSyntax)] }
def FnKittyBackSaid : Prop := fnKittyBackRow.holds Tryd.pinned (OpenSpec.ofChange fnKittyBackSpec)

/-- ITS FALSE NEIGHBOUR: 'it returns false'. Refute it at one input. -/
def fnKittyBackWrong : ChangeSpec := { name := "fnKittyBack", fn := fun _ => fun
  | [d] => { results := [.lit (.bool false)], args := [d] }
  | _ => none }
def FnKittyBackWrongFalsely : Prop := fnKittyBackRow.holds Tryd.pinned (OpenSpec.ofChange fnKittyBackWrong)

/-- 'laws.FnKittyParse': WHATEVER THE INPUT: true; the input reads as it did. -/
def fnKittyParseSpec : ChangeSpec := { name := "fnKittyParse", fn := fun _ => fun
  | [d1, d2] => { results := [.lit (.bool true)], args := [d1, d2] }
  | _ => none }
def fnKittyParseRow : OpenClaim := { program := "ytohblegfpghejaadoor", sum := "610a5a7e69408fe2953998fde41ab62226a7a66797d8f95056c3ff914b2bd8be", func := "pub-escapade/laws.FnKittyParse", spec := "fnKittyParse", named := ["internal/strconv.uint64pow10", "math/bits.deBruijn32tab", "math/bits.deBruijn64tab", "strconv.ErrSyntax", "strconv.ErrRange"], apart := false, laid := [("math/bits.deBruijn32tab", laid_math_bits_deBruijn32tab), ("math/bits.deBruijn64tab", laid_math_bits_deBruijn64tab), ("internal/strconv.uint64pow10", laid_internal_strconv_uint64pow10), ("strconv.ErrRange", laid_strconv_ErrRange), ("strconv.ErrSyntax", laid_strconv_ErrSyntax)] }
def FnKittyParseSaid : Prop := fnKittyParseRow.holds Tryd.pinned (OpenSpec.ofChange fnKittyParseSpec)

/-- ITS FALSE NEIGHBOUR: 'it returns false'. Refute it at one input. -/
def fnKittyParseWrong : ChangeSpec := { name := "fnKittyParse", fn := fun _ => fun
  | [d1, d2] => { results := [.lit (.bool false)], args := [d1, d2] }
  | _ => none }
def FnKittyParseWrongFalsely : Prop := fnKittyParseRow.holds Tryd.pinned (OpenSpec.ofChange fnKittyParseWrong)

/-- 'laws.FnDiacritic': WHATEVER THE INPUT: true; the input reads as it did. -/
def fnDiacriticSpec : ChangeSpec := { name := "fnDiacritic", fn := fun _ => fun
  | [d] => { results := [.lit (.bool true)], args := [d] }
  | _ => none }
def fnDiacriticRow : OpenClaim := { program := "ytohblegfpghejaadoor", sum := "610a5a7e69408fe2953998fde41ab62226a7a66797d8f95056c3ff914b2bd8be", func := "pub-escapade/laws.FnDiacritic", spec := "fnDiacritic", named := ["internal/strconv.uint64pow10", "math/bits.deBruijn32tab", "math/bits.deBruijn64tab", "pub-escapade/pub/xansi/kitty.diacritics"], apart := false, laid := [("math/bits.deBruijn32tab", laid_math_bits_deBruijn32tab), ("math/bits.deBruijn64tab", laid_math_bits_deBruijn64tab), ("internal/strconv.uint64pow10", laid_internal_strconv_uint64pow10), ("pub-escapade/pub/xansi/kitty.diacritics", laid_pub_escapade_pub_xansi_kitty_diacritics)] }
def FnDiacriticSaid : Prop := fnDiacriticRow.holds Tryd.pinned (OpenSpec.ofChange fnDiacriticSpec)

/-- ITS FALSE NEIGHBOUR: 'it returns false'. Refute it at one input. -/
def fnDiacriticWrong : ChangeSpec := { name := "fnDiacritic", fn := fun _ => fun
  | [d] => { results := [.lit (.bool false)], args := [d] }
  | _ => none }
def FnDiacriticWrongFalsely : Prop := fnDiacriticRow.holds Tryd.pinned (OpenSpec.ofChange fnDiacriticWrong)

/- THE SECOND FORM. 'bulk': how many values and letters a reading holds, each counted each time it is reached (what is shared counts as often as it is met; a slice's spare places count too). A statement '..UptoSaid' is the law's where the arguments, and the package variables that the reading takes, are together of bulk at most 1048576: NARROWER than '..Said'. Prove '..Said' where nothing that the law and all that it calls make is longer than what came in: it says more and counts as full. Else prove '..UptoSaid'. A law counts once. -/
mutual
def uptoBulk {H : Type} : DataW H → Nat
  | .lit (.string bytes) => bytes.length + 1
  | .lit _ => 1
  | .nil => 1
  | .ptr d => uptoBulk d + 1
  | .slice elems spare => uptoBulkAll elems + uptoBulkAll spare + 1
  | .agg parts => uptoBulkAll parts + 1
  | .iface _ d => uptoBulk d + 1
  | .map entries => uptoBulkEntries entries + 1
  | .held _ => 1
def uptoBulkAll {H : Type} : List (DataW H) → Nat
  | [] => 0
  | d :: r => uptoBulk d + uptoBulkAll r
def uptoBulkEntries {H : Type} : List (Lit × DataW H) → Nat
  | [] => 0
  | x :: r => uptoBulkEntry x + uptoBulkEntries r
def uptoBulkEntry {H : Type} : Lit × DataW H → Nat
  | (.string bytes, d) => bytes.length + uptoBulk d + 1
  | (_, d) => uptoBulk d + 1
 end
def uptoSmall : (H : Type) → List (DataW H) → Bool := fun _ ds => decide (uptoBulkAll ds ≤ 1048576)
def OpenSpec.upto (s : _root_.Go.ChangeSpec) : _root_.Go.OpenSpec := { _root_.Go.OpenSpec.ofChange s with cond := some uptoSmall }

/-- 'laws.FnButtonName', WHERE WHAT IT READS IS OF BULK AT MOST 1048576: true; the input reads as it did. -/
def fnButtonNameUptoRow : OpenClaim := { program := "ytohblegfpghejaadoor", sum := "610a5a7e69408fe2953998fde41ab62226a7a66797d8f95056c3ff914b2bd8be", func := "pub-escapade/laws.FnButtonName", spec := "fnButtonName", named := ["internal/strconv.uint64pow10", "math/bits.deBruijn32tab", "math/bits.deBruijn64tab"], apart := false, laid := [("math/bits.deBruijn32tab", laid_math_bits_deBruijn32tab), ("math/bits.deBruijn64tab", laid_math_bits_deBruijn64tab), ("internal/strconv.uint64pow10", laid_internal_strconv_uint64pow10)], narrowed := true }
def FnButtonNameUptoSaid : Prop := fnButtonNameUptoRow.holds Tryd.pinned (OpenSpec.upto fnButtonNameSpec)

/-- 'laws.FnButton', WHERE WHAT IT READS IS OF BULK AT MOST 1048576: true; the input reads as it did. -/
def fnButtonUptoRow : OpenClaim := { program := "ytohblegfpghejaadoor", sum := "610a5a7e69408fe2953998fde41ab62226a7a66797d8f95056c3ff914b2bd8be", func := "pub-escapade/laws.FnButton", spec := "fnButton", named := ["internal/strconv.uint64pow10", "math/bits.deBruijn32tab", "math/bits.deBruijn64tab"], apart := false, laid := [("math/bits.deBruijn32tab", laid_math_bits_deBruijn32tab), ("math/bits.deBruijn64tab", laid_math_bits_deBruijn64tab), ("internal/strconv.uint64pow10", laid_internal_strconv_uint64pow10)], narrowed := true }
def FnButtonUptoSaid : Prop := fnButtonUptoRow.holds Tryd.pinned (OpenSpec.upto fnButtonSpec)

/-- 'laws.FnButtonBits', WHERE WHAT IT READS IS OF BULK AT MOST 1048576: true; the input reads as it did. -/
def fnButtonBitsUptoRow : OpenClaim := { program := "ytohblegfpghejaadoor", sum := "610a5a7e69408fe2953998fde41ab62226a7a66797d8f95056c3ff914b2bd8be", func := "pub-escapade/laws.FnButtonBits", spec := "fnButtonBits", named := ["internal/strconv.uint64pow10", "math/bits.deBruijn32tab", "math/bits.deBruijn64tab"], apart := false, laid := [("math/bits.deBruijn32tab", laid_math_bits_deBruijn32tab), ("math/bits.deBruijn64tab", laid_math_bits_deBruijn64tab), ("internal/strconv.uint64pow10", laid_internal_strconv_uint64pow10)], narrowed := true }
def FnButtonBitsUptoSaid : Prop := fnButtonBitsUptoRow.holds Tryd.pinned (OpenSpec.upto fnButtonBitsSpec)

/-- 'laws.FnKittyList', WHERE WHAT IT READS IS OF BULK AT MOST 1048576: true; the input reads as it did. -/
def fnKittyListUptoRow : OpenClaim := { program := "ytohblegfpghejaadoor", sum := "610a5a7e69408fe2953998fde41ab62226a7a66797d8f95056c3ff914b2bd8be", func := "pub-escapade/laws.FnKittyList", spec := "fnKittyList", unfollowed := true, recurses := true, named := ["internal/strconv.uint64pow10", "math/bits.deBruijn32tab", "math/bits.deBruijn64tab"], apart := false, laid := [("math/bits.deBruijn32tab", laid_math_bits_deBruijn32tab), ("math/bits.deBruijn64tab", laid_math_bits_deBruijn64tab), ("internal/strconv.uint64pow10", laid_internal_strconv_uint64pow10)], narrowed := true }
def FnKittyListUptoSaid : Prop := fnKittyListUptoRow.holds Tryd.pinned (OpenSpec.upto fnKittyListSpec)

/-- 'laws.FnKittyBack', WHERE WHAT IT READS IS OF BULK AT MOST 1048576: true; the input reads as it did. -/
def fnKittyBackUptoRow : OpenClaim := { program := "ytohblegfpghejaadoor", sum := "610a5a7e69408fe2953998fde41ab62226a7a66797d8f95056c3ff914b2bd8be", func := "pub-escapade/laws.FnKittyBack", spec := "fnKittyBack", named := ["internal/strconv.uint64pow10", "math/bits.deBruijn32tab", "math/bits.deBruijn64tab", "strconv.ErrSyntax", "strconv.ErrRange"], apart := false, laid := [("math/bits.deBruijn32tab", laid_math_bits_deBruijn32tab), ("math/bits.deBruijn64tab", laid_math_bits_deBruijn64tab), ("internal/strconv.uint64pow10", laid_internal_strconv_uint64pow10), ("strconv.ErrRange", laid_strconv_ErrRange), ("strconv.ErrSyntax", laid_strconv_ErrSyntax)], narrowed := true }
def FnKittyBackUptoSaid : Prop := fnKittyBackUptoRow.holds Tryd.pinned (OpenSpec.upto fnKittyBackSpec)

/-- 'laws.FnKittyParse', WHERE WHAT IT READS IS OF BULK AT MOST 1048576: true; the input reads as it did. -/
def fnKittyParseUptoRow : OpenClaim := { program := "ytohblegfpghejaadoor", sum := "610a5a7e69408fe2953998fde41ab62226a7a66797d8f95056c3ff914b2bd8be", func := "pub-escapade/laws.FnKittyParse", spec := "fnKittyParse", named := ["internal/strconv.uint64pow10", "math/bits.deBruijn32tab", "math/bits.deBruijn64tab", "strconv.ErrSyntax", "strconv.ErrRange"], apart := false, laid := [("math/bits.deBruijn32tab", laid_math_bits_deBruijn32tab), ("math/bits.deBruijn64tab", laid_math_bits_deBruijn64tab), ("internal/strconv.uint64pow10", laid_internal_strconv_uint64pow10), ("strconv.ErrRange", laid_strconv_ErrRange), ("strconv.ErrSyntax", laid_strconv_ErrSyntax)], narrowed := true }
def FnKittyParseUptoSaid : Prop := fnKittyParseUptoRow.holds Tryd.pinned (OpenSpec.upto fnKittyParseSpec)

/-- 'laws.FnDiacritic', WHERE WHAT IT READS IS OF BULK AT MOST 1048576: true; the input reads as it did. -/
def fnDiacriticUptoRow : OpenClaim := { program := "ytohblegfpghejaadoor", sum := "610a5a7e69408fe2953998fde41ab62226a7a66797d8f95056c3ff914b2bd8be", func := "pub-escapade/laws.FnDiacritic", spec := "fnDiacritic", named := ["internal/strconv.uint64pow10", "math/bits.deBruijn32tab", "math/bits.deBruijn64tab", "pub-escapade/pub/xansi/kitty.diacritics"], apart := false, laid := [("math/bits.deBruijn32tab", laid_math_bits_deBruijn32tab), ("math/bits.deBruijn64tab", laid_math_bits_deBruijn64tab), ("internal/strconv.uint64pow10", laid_internal_strconv_uint64pow10), ("pub-escapade/pub/xansi/kitty.diacritics", laid_pub_escapade_pub_xansi_kitty_diacritics)], narrowed := true }
def FnDiacriticUptoSaid : Prop := fnDiacriticUptoRow.holds Tryd.pinned (OpenSpec.upto fnDiacriticSpec)

end Rows
end Go.Proofs.YtohblegfpghejaaDoor
