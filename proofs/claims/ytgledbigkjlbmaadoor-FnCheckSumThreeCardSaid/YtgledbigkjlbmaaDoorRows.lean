/-
  NARROWER THAN 'FOR EVERY INPUT', by the rows' own cells (each row's printed sentence says how): FnCheckSum: laid · FnCheckSumForged: laid · FnCheckSumOn: laid · FnCheckSumParts: laid · FnCheckSumThree: laid · FnCheckSumWord: laid.
  DERIVED. THE GIVEN ROWS OF THIS SEAT. 6 by the template 'for every input the law returns true; each argument reads behind the call as it read before'; 0 by the template 'total and deterministic' (their statements: YtgledbigkjlbmaaDoorTotals.lean).
  GIVEN WITH THE SEED: the statements are not yours to turn. If you find one false, say at which input.
  Laid BY PROGRAM, IN A SANDBOX (cutbox-rows.mjs): the forced cells as the released guide's own fill.sh prints them over the translation ade261085b270112… (all of the seat's roots in one cut). By AI agents, Wed Nov 11 2026. No macro, syntax, notation, axiom, sorry.
-/
import Derived.Test.YtgledbigkjlbmaaDoorChecked
import GoSem.Claim
import GoSem.ClaimJoined
import GoSem.ClaimMapViews
import Derived.JoinedTies
import Derived.KernelRfl
namespace Go.Proofs.YtgledbigkjlbmaaDoor
/- THE CELL 'sum', in the pinned program and in every row, IS THE sha256 OF THE DUMP (.gsa) THAT YtgledbigkjlbmaaDoorProg.lean LOADS. Nothing in Lean hashes anything: it is a label: what it is worth is what the hold of that sum in a sandbox is worth. -/
noncomputable def Tryd.pinned : Pinned := { name := "ytgledbigkjlbmaadoor", sum := "ade261085b270112c99e143de54f2c59af93328902b343851b61deb3df695e11", checked := Tryd.checked }
namespace Rows
def none {H : Type} : Left H := { results := [], args := [] }

/- WHAT THE LISTED PACKAGE-LEVEL VARIABLES READ AS WHEN THE CALL BEGINS. Each datum BY PROGRAM (the guide's laid-datum.mjs) off the statement by which the dump's own 'gosem.cut.vars' lays the variable. In a bare row this is a premise. The card (YtgledbigkjlbmaaDoorCards.lean) ties it to the program's text. -/
def laid_barrowwheel_pub_bzip2_crctab {H : Type} : DataW H := .agg [.lit (.int .u32 0), .lit (.int .u32 79764919), .lit (.int .u32 159529838), .lit (.int .u32 222504665), .lit (.int .u32 319059676), .lit (.int .u32 398814059), .lit (.int .u32 445009330), .lit (.int .u32 507990021), .lit (.int .u32 638119352), .lit (.int .u32 583659535), .lit (.int .u32 797628118), .lit (.int .u32 726387553), .lit (.int .u32 890018660), .lit (.int .u32 835552979), .lit (.int .u32 1015980042), .lit (.int .u32 944750013), .lit (.int .u32 1276238704), .lit (.int .u32 1221641927), .lit (.int .u32 1167319070), .lit (.int .u32 1095957929), .lit (.int .u32 1595256236), .lit (.int .u32 1540665371), .lit (.int .u32 1452775106), .lit (.int .u32 1381403509), .lit (.int .u32 1780037320), .lit (.int .u32 1859660671), .lit (.int .u32 1671105958), .lit (.int .u32 1733955601), .lit (.int .u32 2031960084), .lit (.int .u32 2111593891), .lit (.int .u32 1889500026), .lit (.int .u32 1952343757), .lit (.int .u32 2552477408), .lit (.int .u32 2632100695), .lit (.int .u32 2443283854), .lit (.int .u32 2506133561), .lit (.int .u32 2334638140), .lit (.int .u32 2414271883), .lit (.int .u32 2191915858), .lit (.int .u32 2254759653), .lit (.int .u32 3190512472), .lit (.int .u32 3135915759), .lit (.int .u32 3081330742), .lit (.int .u32 3009969537), .lit (.int .u32 2905550212), .lit (.int .u32 2850959411), .lit (.int .u32 2762807018), .lit (.int .u32 2691435357), .lit (.int .u32 3560074640), .lit (.int .u32 3505614887), .lit (.int .u32 3719321342), .lit (.int .u32 3648080713), .lit (.int .u32 3342211916), .lit (.int .u32 3287746299), .lit (.int .u32 3467911202), .lit (.int .u32 3396681109), .lit (.int .u32 4063920168), .lit (.int .u32 4143685023), .lit (.int .u32 4223187782), .lit (.int .u32 4286162673), .lit (.int .u32 3779000052), .lit (.int .u32 3858754371), .lit (.int .u32 3904687514), .lit (.int .u32 3967668269), .lit (.int .u32 881225847), .lit (.int .u32 809987520), .lit (.int .u32 1023691545), .lit (.int .u32 969234094), .lit (.int .u32 662832811), .lit (.int .u32 591600412), .lit (.int .u32 771767749), .lit (.int .u32 717299826), .lit (.int .u32 311336399), .lit (.int .u32 374308984), .lit (.int .u32 453813921), .lit (.int .u32 533576470), .lit (.int .u32 25881363), .lit (.int .u32 88864420), .lit (.int .u32 134795389), .lit (.int .u32 214552010), .lit (.int .u32 2023205639), .lit (.int .u32 2086057648), .lit (.int .u32 1897238633), .lit (.int .u32 1976864222), .lit (.int .u32 1804852699), .lit (.int .u32 1867694188), .lit (.int .u32 1645340341), .lit (.int .u32 1724971778), .lit (.int .u32 1587496639), .lit (.int .u32 1516133128), .lit (.int .u32 1461550545), .lit (.int .u32 1406951526), .lit (.int .u32 1302016099), .lit (.int .u32 1230646740), .lit (.int .u32 1142491917), .lit (.int .u32 1087903418), .lit (.int .u32 2896545431), .lit (.int .u32 2825181984), .lit (.int .u32 2770861561), .lit (.int .u32 2716262478), .lit (.int .u32 3215044683), .lit (.int .u32 3143675388), .lit (.int .u32 3055782693), .lit (.int .u32 3001194130), .lit (.int .u32 2326604591), .lit (.int .u32 2389456536), .lit (.int .u32 2200899649), .lit (.int .u32 2280525302), .lit (.int .u32 2578013683), .lit (.int .u32 2640855108), .lit (.int .u32 2418763421), .lit (.int .u32 2498394922), .lit (.int .u32 3769900519), .lit (.int .u32 3832873040), .lit (.int .u32 3912640137), .lit (.int .u32 3992402750), .lit (.int .u32 4088425275), .lit (.int .u32 4151408268), .lit (.int .u32 4197601365), .lit (.int .u32 4277358050), .lit (.int .u32 3334271071), .lit (.int .u32 3263032808), .lit (.int .u32 3476998961), .lit (.int .u32 3422541446), .lit (.int .u32 3585640067), .lit (.int .u32 3514407732), .lit (.int .u32 3694837229), .lit (.int .u32 3640369242), .lit (.int .u32 1762451694), .lit (.int .u32 1842216281), .lit (.int .u32 1619975040), .lit (.int .u32 1682949687), .lit (.int .u32 2047383090), .lit (.int .u32 2127137669), .lit (.int .u32 1938468188), .lit (.int .u32 2001449195), .lit (.int .u32 1325665622), .lit (.int .u32 1271206113), .lit (.int .u32 1183200824), .lit (.int .u32 1111960463), .lit (.int .u32 1543535498), .lit (.int .u32 1489069629), .lit (.int .u32 1434599652), .lit (.int .u32 1363369299), .lit (.int .u32 622672798), .lit (.int .u32 568075817), .lit (.int .u32 748617968), .lit (.int .u32 677256519), .lit (.int .u32 907627842), .lit (.int .u32 853037301), .lit (.int .u32 1067152940), .lit (.int .u32 995781531), .lit (.int .u32 51762726), .lit (.int .u32 131386257), .lit (.int .u32 177728840), .lit (.int .u32 240578815), .lit (.int .u32 269590778), .lit (.int .u32 349224269), .lit (.int .u32 429104020), .lit (.int .u32 491947555), .lit (.int .u32 4046411278), .lit (.int .u32 4126034873), .lit (.int .u32 4172115296), .lit (.int .u32 4234965207), .lit (.int .u32 3794477266), .lit (.int .u32 3874110821), .lit (.int .u32 3953728444), .lit (.int .u32 4016571915), .lit (.int .u32 3609705398), .lit (.int .u32 3555108353), .lit (.int .u32 3735388376), .lit (.int .u32 3664026991), .lit (.int .u32 3290680682), .lit (.int .u32 3236090077), .lit (.int .u32 3449943556), .lit (.int .u32 3378572211), .lit (.int .u32 3174993278), .lit (.int .u32 3120533705), .lit (.int .u32 3032266256), .lit (.int .u32 2961025959), .lit (.int .u32 2923101090), .lit (.int .u32 2868635157), .lit (.int .u32 2813903052), .lit (.int .u32 2742672763), .lit (.int .u32 2604032198), .lit (.int .u32 2683796849), .lit (.int .u32 2461293480), .lit (.int .u32 2524268063), .lit (.int .u32 2284983834), .lit (.int .u32 2364738477), .lit (.int .u32 2175806836), .lit (.int .u32 2238787779), .lit (.int .u32 1569362073), .lit (.int .u32 1498123566), .lit (.int .u32 1409854455), .lit (.int .u32 1355396672), .lit (.int .u32 1317987909), .lit (.int .u32 1246755826), .lit (.int .u32 1192025387), .lit (.int .u32 1137557660), .lit (.int .u32 2072149281), .lit (.int .u32 2135122070), .lit (.int .u32 1912620623), .lit (.int .u32 1992383480), .lit (.int .u32 1753615357), .lit (.int .u32 1816598090), .lit (.int .u32 1627664531), .lit (.int .u32 1707420964), .lit (.int .u32 295390185), .lit (.int .u32 358241886), .lit (.int .u32 404320391), .lit (.int .u32 483945776), .lit (.int .u32 43990325), .lit (.int .u32 106832002), .lit (.int .u32 186451547), .lit (.int .u32 266083308), .lit (.int .u32 932423249), .lit (.int .u32 861060070), .lit (.int .u32 1041341759), .lit (.int .u32 986742920), .lit (.int .u32 613929101), .lit (.int .u32 542559546), .lit (.int .u32 756411363), .lit (.int .u32 701822548), .lit (.int .u32 3316196985), .lit (.int .u32 3244833742), .lit (.int .u32 3425377559), .lit (.int .u32 3370778784), .lit (.int .u32 3601682597), .lit (.int .u32 3530312978), .lit (.int .u32 3744426955), .lit (.int .u32 3689838204), .lit (.int .u32 3819031489), .lit (.int .u32 3881883254), .lit (.int .u32 3928223919), .lit (.int .u32 4007849240), .lit (.int .u32 4037393693), .lit (.int .u32 4100235434), .lit (.int .u32 4180117107), .lit (.int .u32 4259748804), .lit (.int .u32 2310601993), .lit (.int .u32 2373574846), .lit (.int .u32 2151335527), .lit (.int .u32 2231098320), .lit (.int .u32 2596047829), .lit (.int .u32 2659030626), .lit (.int .u32 2470359227), .lit (.int .u32 2550115596), .lit (.int .u32 2947551409), .lit (.int .u32 2876312838), .lit (.int .u32 2788305887), .lit (.int .u32 2733848168), .lit (.int .u32 3165939309), .lit (.int .u32 3094707162), .lit (.int .u32 3040238851), .lit (.int .u32 2985771188)]

/-- 'laws.FnCheckSum': WHATEVER THE INPUT: true; the input reads as it did. -/
def fnCheckSumSpec : ChangeSpec := { name := "fnCheckSum", fn := fun _ => fun
  | [d] => { results := [.lit (.bool true)], args := [d] }
  | _ => none }
def fnCheckSumRow : OpenClaim := { program := "ytgledbigkjlbmaadoor", sum := "ade261085b270112c99e143de54f2c59af93328902b343851b61deb3df695e11", func := "barrowwheel/laws.FnCheckSum", spec := "fnCheckSum", named := ["barrowwheel/pub/bzip2.crctab"], apart := false, laid := [("barrowwheel/pub/bzip2.crctab", laid_barrowwheel_pub_bzip2_crctab)] }
def FnCheckSumSaid : Prop := fnCheckSumRow.holds Tryd.pinned (OpenSpec.ofChange fnCheckSumSpec)

/-- ITS FALSE NEIGHBOUR: 'it returns false'. Refute it at one input. -/
def fnCheckSumWrong : ChangeSpec := { name := "fnCheckSum", fn := fun _ => fun
  | [d] => { results := [.lit (.bool false)], args := [d] }
  | _ => none }
def FnCheckSumWrongFalsely : Prop := fnCheckSumRow.holds Tryd.pinned (OpenSpec.ofChange fnCheckSumWrong)

/-- 'laws.FnCheckSumForged': WHATEVER THE INPUT: true; the input reads as it did. -/
def fnCheckSumForgedSpec : ChangeSpec := { name := "fnCheckSumForged", fn := fun _ => fun
  | [d1, d2] => { results := [.lit (.bool true)], args := [d1, d2] }
  | _ => none }
def fnCheckSumForgedRow : OpenClaim := { program := "ytgledbigkjlbmaadoor", sum := "ade261085b270112c99e143de54f2c59af93328902b343851b61deb3df695e11", func := "barrowwheel/laws.FnCheckSumForged", spec := "fnCheckSumForged", named := ["barrowwheel/pub/bzip2.crctab"], apart := false, laid := [("barrowwheel/pub/bzip2.crctab", laid_barrowwheel_pub_bzip2_crctab)] }
def FnCheckSumForgedSaid : Prop := fnCheckSumForgedRow.holds Tryd.pinned (OpenSpec.ofChange fnCheckSumForgedSpec)

/-- ITS FALSE NEIGHBOUR: 'it returns false'. Refute it at one input. -/
def fnCheckSumForgedWrong : ChangeSpec := { name := "fnCheckSumForged", fn := fun _ => fun
  | [d1, d2] => { results := [.lit (.bool false)], args := [d1, d2] }
  | _ => none }
def FnCheckSumForgedWrongFalsely : Prop := fnCheckSumForgedRow.holds Tryd.pinned (OpenSpec.ofChange fnCheckSumForgedWrong)

/-- 'laws.FnCheckSumOn': WHATEVER THE INPUT: true; the input reads as it did. -/
def fnCheckSumOnSpec : ChangeSpec := { name := "fnCheckSumOn", fn := fun _ => fun
  | [d1, d2] => { results := [.lit (.bool true)], args := [d1, d2] }
  | _ => none }
def fnCheckSumOnRow : OpenClaim := { program := "ytgledbigkjlbmaadoor", sum := "ade261085b270112c99e143de54f2c59af93328902b343851b61deb3df695e11", func := "barrowwheel/laws.FnCheckSumOn", spec := "fnCheckSumOn", named := ["barrowwheel/pub/bzip2.crctab"], apart := false, laid := [("barrowwheel/pub/bzip2.crctab", laid_barrowwheel_pub_bzip2_crctab)] }
def FnCheckSumOnSaid : Prop := fnCheckSumOnRow.holds Tryd.pinned (OpenSpec.ofChange fnCheckSumOnSpec)

/-- ITS FALSE NEIGHBOUR: 'it returns false'. Refute it at one input. -/
def fnCheckSumOnWrong : ChangeSpec := { name := "fnCheckSumOn", fn := fun _ => fun
  | [d1, d2] => { results := [.lit (.bool false)], args := [d1, d2] }
  | _ => none }
def FnCheckSumOnWrongFalsely : Prop := fnCheckSumOnRow.holds Tryd.pinned (OpenSpec.ofChange fnCheckSumOnWrong)

/-- 'laws.FnCheckSumParts': WHATEVER THE INPUT: true; the input reads as it did. -/
def fnCheckSumPartsSpec : ChangeSpec := { name := "fnCheckSumParts", fn := fun _ => fun
  | [d1, d2] => { results := [.lit (.bool true)], args := [d1, d2] }
  | _ => none }
def fnCheckSumPartsRow : OpenClaim := { program := "ytgledbigkjlbmaadoor", sum := "ade261085b270112c99e143de54f2c59af93328902b343851b61deb3df695e11", func := "barrowwheel/laws.FnCheckSumParts", spec := "fnCheckSumParts", named := ["barrowwheel/pub/bzip2.crctab"], apart := false, laid := [("barrowwheel/pub/bzip2.crctab", laid_barrowwheel_pub_bzip2_crctab)] }
def FnCheckSumPartsSaid : Prop := fnCheckSumPartsRow.holds Tryd.pinned (OpenSpec.ofChange fnCheckSumPartsSpec)

/-- ITS FALSE NEIGHBOUR: 'it returns false'. Refute it at one input. -/
def fnCheckSumPartsWrong : ChangeSpec := { name := "fnCheckSumParts", fn := fun _ => fun
  | [d1, d2] => { results := [.lit (.bool false)], args := [d1, d2] }
  | _ => none }
def FnCheckSumPartsWrongFalsely : Prop := fnCheckSumPartsRow.holds Tryd.pinned (OpenSpec.ofChange fnCheckSumPartsWrong)

/-- 'laws.FnCheckSumThree': WHATEVER THE INPUT: true; the input reads as it did. -/
def fnCheckSumThreeSpec : ChangeSpec := { name := "fnCheckSumThree", fn := fun _ => fun
  | [d1, d2, d3] => { results := [.lit (.bool true)], args := [d1, d2, d3] }
  | _ => none }
def fnCheckSumThreeRow : OpenClaim := { program := "ytgledbigkjlbmaadoor", sum := "ade261085b270112c99e143de54f2c59af93328902b343851b61deb3df695e11", func := "barrowwheel/laws.FnCheckSumThree", spec := "fnCheckSumThree", named := ["barrowwheel/pub/bzip2.crctab"], apart := false, laid := [("barrowwheel/pub/bzip2.crctab", laid_barrowwheel_pub_bzip2_crctab)] }
def FnCheckSumThreeSaid : Prop := fnCheckSumThreeRow.holds Tryd.pinned (OpenSpec.ofChange fnCheckSumThreeSpec)

/-- ITS FALSE NEIGHBOUR: 'it returns false'. Refute it at one input. -/
def fnCheckSumThreeWrong : ChangeSpec := { name := "fnCheckSumThree", fn := fun _ => fun
  | [d1, d2, d3] => { results := [.lit (.bool false)], args := [d1, d2, d3] }
  | _ => none }
def FnCheckSumThreeWrongFalsely : Prop := fnCheckSumThreeRow.holds Tryd.pinned (OpenSpec.ofChange fnCheckSumThreeWrong)

/-- 'laws.FnCheckSumWord': WHATEVER THE INPUT: true; the input reads as it did. -/
def fnCheckSumWordSpec : ChangeSpec := { name := "fnCheckSumWord", fn := fun _ => fun
  | [d1, d2, d3] => { results := [.lit (.bool true)], args := [d1, d2, d3] }
  | _ => none }
def fnCheckSumWordRow : OpenClaim := { program := "ytgledbigkjlbmaadoor", sum := "ade261085b270112c99e143de54f2c59af93328902b343851b61deb3df695e11", func := "barrowwheel/laws.FnCheckSumWord", spec := "fnCheckSumWord", named := ["barrowwheel/pub/bzip2.crctab"], apart := false, laid := [("barrowwheel/pub/bzip2.crctab", laid_barrowwheel_pub_bzip2_crctab)] }
def FnCheckSumWordSaid : Prop := fnCheckSumWordRow.holds Tryd.pinned (OpenSpec.ofChange fnCheckSumWordSpec)

/-- ITS FALSE NEIGHBOUR: 'it returns false'. Refute it at one input. -/
def fnCheckSumWordWrong : ChangeSpec := { name := "fnCheckSumWord", fn := fun _ => fun
  | [d1, d2, d3] => { results := [.lit (.bool false)], args := [d1, d2, d3] }
  | _ => none }
def FnCheckSumWordWrongFalsely : Prop := fnCheckSumWordRow.holds Tryd.pinned (OpenSpec.ofChange fnCheckSumWordWrong)

/- THE SECOND FORM. 'bulk': how many values and letters a reading holds, each counted each time it is reached (what is shared counts as often as it is met; a slice's spare places count too). A statement '..UptoSaid' is the law's where the arguments, and the package variables that the reading takes, are together of bulk at most 1048576: NARROWER than '..Said'. Prove '..Said' where nothing that the law and all that it calls make is longer than what came in: it says more and counts as full. Else prove '..UptoSaid'. A law counts once. -/
mutual
def uptoBulk {H : Type} : DataW H → Nat
  | .lit (.string bytes) => bytes.length + 1
  | .lit _ => 1
  | .nil => 1
  | .ptr d => uptoBulk d + 1
  | .slice elems spare => uptoBulkAll elems + uptoBulkAll spare + 1
  | .agg parts => uptoBulkAll parts + 1
  | .iface _ d => uptoBulk d + 1
  | .map entries => uptoBulkEntries entries + 1
  | .held _ => 1
def uptoBulkAll {H : Type} : List (DataW H) → Nat
  | [] => 0
  | d :: r => uptoBulk d + uptoBulkAll r
def uptoBulkEntries {H : Type} : List (Lit × DataW H) → Nat
  | [] => 0
  | x :: r => uptoBulkEntry x + uptoBulkEntries r
def uptoBulkEntry {H : Type} : Lit × DataW H → Nat
  | (.string bytes, d) => bytes.length + uptoBulk d + 1
  | (_, d) => uptoBulk d + 1
 end
def uptoSmall : (H : Type) → List (DataW H) → Bool := fun _ ds => decide (uptoBulkAll ds ≤ 1048576)
def OpenSpec.upto (s : _root_.Go.ChangeSpec) : _root_.Go.OpenSpec := { _root_.Go.OpenSpec.ofChange s with cond := some uptoSmall }

/-- 'laws.FnCheckSum', WHERE WHAT IT READS IS OF BULK AT MOST 1048576: true; the input reads as it did. -/
def fnCheckSumUptoRow : OpenClaim := { program := "ytgledbigkjlbmaadoor", sum := "ade261085b270112c99e143de54f2c59af93328902b343851b61deb3df695e11", func := "barrowwheel/laws.FnCheckSum", spec := "fnCheckSum", named := ["barrowwheel/pub/bzip2.crctab"], apart := false, laid := [("barrowwheel/pub/bzip2.crctab", laid_barrowwheel_pub_bzip2_crctab)], narrowed := true }
def FnCheckSumUptoSaid : Prop := fnCheckSumUptoRow.holds Tryd.pinned (OpenSpec.upto fnCheckSumSpec)

/-- 'laws.FnCheckSumForged', WHERE WHAT IT READS IS OF BULK AT MOST 1048576: true; the input reads as it did. -/
def fnCheckSumForgedUptoRow : OpenClaim := { program := "ytgledbigkjlbmaadoor", sum := "ade261085b270112c99e143de54f2c59af93328902b343851b61deb3df695e11", func := "barrowwheel/laws.FnCheckSumForged", spec := "fnCheckSumForged", named := ["barrowwheel/pub/bzip2.crctab"], apart := false, laid := [("barrowwheel/pub/bzip2.crctab", laid_barrowwheel_pub_bzip2_crctab)], narrowed := true }
def FnCheckSumForgedUptoSaid : Prop := fnCheckSumForgedUptoRow.holds Tryd.pinned (OpenSpec.upto fnCheckSumForgedSpec)

/-- 'laws.FnCheckSumOn', WHERE WHAT IT READS IS OF BULK AT MOST 1048576: true; the input reads as it did. -/
def fnCheckSumOnUptoRow : OpenClaim := { program := "ytgledbigkjlbmaadoor", sum := "ade261085b270112c99e143de54f2c59af93328902b343851b61deb3df695e11", func := "barrowwheel/laws.FnCheckSumOn", spec := "fnCheckSumOn", named := ["barrowwheel/pub/bzip2.crctab"], apart := false, laid := [("barrowwheel/pub/bzip2.crctab", laid_barrowwheel_pub_bzip2_crctab)], narrowed := true }
def FnCheckSumOnUptoSaid : Prop := fnCheckSumOnUptoRow.holds Tryd.pinned (OpenSpec.upto fnCheckSumOnSpec)

/-- 'laws.FnCheckSumParts', WHERE WHAT IT READS IS OF BULK AT MOST 1048576: true; the input reads as it did. -/
def fnCheckSumPartsUptoRow : OpenClaim := { program := "ytgledbigkjlbmaadoor", sum := "ade261085b270112c99e143de54f2c59af93328902b343851b61deb3df695e11", func := "barrowwheel/laws.FnCheckSumParts", spec := "fnCheckSumParts", named := ["barrowwheel/pub/bzip2.crctab"], apart := false, laid := [("barrowwheel/pub/bzip2.crctab", laid_barrowwheel_pub_bzip2_crctab)], narrowed := true }
def FnCheckSumPartsUptoSaid : Prop := fnCheckSumPartsUptoRow.holds Tryd.pinned (OpenSpec.upto fnCheckSumPartsSpec)

/-- 'laws.FnCheckSumThree', WHERE WHAT IT READS IS OF BULK AT MOST 1048576: true; the input reads as it did. -/
def fnCheckSumThreeUptoRow : OpenClaim := { program := "ytgledbigkjlbmaadoor", sum := "ade261085b270112c99e143de54f2c59af93328902b343851b61deb3df695e11", func := "barrowwheel/laws.FnCheckSumThree", spec := "fnCheckSumThree", named := ["barrowwheel/pub/bzip2.crctab"], apart := false, laid := [("barrowwheel/pub/bzip2.crctab", laid_barrowwheel_pub_bzip2_crctab)], narrowed := true }
def FnCheckSumThreeUptoSaid : Prop := fnCheckSumThreeUptoRow.holds Tryd.pinned (OpenSpec.upto fnCheckSumThreeSpec)

/-- 'laws.FnCheckSumWord', WHERE WHAT IT READS IS OF BULK AT MOST 1048576: true; the input reads as it did. -/
def fnCheckSumWordUptoRow : OpenClaim := { program := "ytgledbigkjlbmaadoor", sum := "ade261085b270112c99e143de54f2c59af93328902b343851b61deb3df695e11", func := "barrowwheel/laws.FnCheckSumWord", spec := "fnCheckSumWord", named := ["barrowwheel/pub/bzip2.crctab"], apart := false, laid := [("barrowwheel/pub/bzip2.crctab", laid_barrowwheel_pub_bzip2_crctab)], narrowed := true }
def FnCheckSumWordUptoSaid : Prop := fnCheckSumWordUptoRow.holds Tryd.pinned (OpenSpec.upto fnCheckSumWordSpec)

end Rows
end Go.Proofs.YtgledbigkjlbmaaDoor
