/-
  NARROWER THAN 'FOR EVERY INPUT', by the rows' own cells (each row's printed sentence says how): FnReadPalette: laid · FnReadPaletteKind: laid · FnReadClear: laid · FnReadClearSample: laid · FnReadHeader: laid · FnReadHeaderBent: laid · FnChunk: laid · FnPaletteChunks: laid · FnHeader: laid · FnHeaderBack: laid.
  DERIVED. THE GIVEN ROWS OF THIS SEAT. 10 by the template 'for every input the law returns true; each argument reads behind the call as it read before'; 0 by the template 'total and deterministic' (their statements: YtiiipmcjbibgoaaDoorTotals.lean).
  GIVEN WITH THE SEED: the statements are not yours to turn. If you find one false, say at which input.
  Laid BY PROGRAM, IN A SANDBOX (cutbox-rows.mjs): the forced cells as the released guide's own fill.sh prints them over the translation 68fb2462a781124d… (all of the seat's roots in one cut). By AI agents, Wed Nov 11 2026. No macro, syntax, notation, axiom, sorry.
-/
import Derived.Test.YtiiipmcjbibgoaaDoorChecked
import GoSem.Claim
import GoSem.ClaimJoined
import GoSem.ClaimMapViews
import Derived.JoinedTies
import Derived.KernelRfl
namespace Go.Proofs.YtiiipmcjbibgoaaDoor
/- THE CELL 'sum', in the pinned program and in every row, IS THE sha256 OF THE DUMP (.gsa) THAT YtiiipmcjbibgoaaDoorProg.lean LOADS. Nothing in Lean hashes anything: it is a label: what it is worth is what the hold of that sum in a sandbox is worth. -/
noncomputable def Tryd.pinned : Pinned := { name := "ytiiipmcjbibgoaadoor", sum := "68fb2462a781124d5b8abc678b24b8446e5256242f5642fb269b6e0dbde6c858", checked := Tryd.checked }
namespace Rows
def none {H : Type} : Left H := { results := [], args := [] }

/- WHAT THE LISTED PACKAGE-LEVEL VARIABLES READ AS WHEN THE CALL BEGINS. Each datum BY PROGRAM (the guide's laid-datum.mjs) off the statement by which the dump's own 'gosem.cut.vars' lays the variable. In a bare row this is a premise. The card (YtiiipmcjbibgoaaDoorCards.lean) ties it to the program's text. -/
def laid_io_ErrShortBuffer {H : Type} : DataW H := .iface "*errors.errorString" (.ptr (.agg [.lit (.string [115, 104, 111, 114, 116, 32, 98, 117, 102, 102, 101, 114])]))
def laid_io_EOF {H : Type} : DataW H := .iface "*errors.errorString" (.ptr (.agg [.lit (.string [69, 79, 70])]))
def laid_io_ErrUnexpectedEOF {H : Type} : DataW H := .iface "*errors.errorString" (.ptr (.agg [.lit (.string [117, 110, 101, 120, 112, 101, 99, 116, 101, 100, 32, 69, 79, 70])]))
def laid_loop_example_pub_g03424_pub_pngparts_ieeeTable {H : Type} : DataW H := .agg [.lit (.int .u32 0), .lit (.int .u32 1996959894), .lit (.int .u32 3993919788), .lit (.int .u32 2567524794), .lit (.int .u32 124634137), .lit (.int .u32 1886057615), .lit (.int .u32 3915621685), .lit (.int .u32 2657392035), .lit (.int .u32 249268274), .lit (.int .u32 2044508324), .lit (.int .u32 3772115230), .lit (.int .u32 2547177864), .lit (.int .u32 162941995), .lit (.int .u32 2125561021), .lit (.int .u32 3887607047), .lit (.int .u32 2428444049), .lit (.int .u32 498536548), .lit (.int .u32 1789927666), .lit (.int .u32 4089016648), .lit (.int .u32 2227061214), .lit (.int .u32 450548861), .lit (.int .u32 1843258603), .lit (.int .u32 4107580753), .lit (.int .u32 2211677639), .lit (.int .u32 325883990), .lit (.int .u32 1684777152), .lit (.int .u32 4251122042), .lit (.int .u32 2321926636), .lit (.int .u32 335633487), .lit (.int .u32 1661365465), .lit (.int .u32 4195302755), .lit (.int .u32 2366115317), .lit (.int .u32 997073096), .lit (.int .u32 1281953886), .lit (.int .u32 3579855332), .lit (.int .u32 2724688242), .lit (.int .u32 1006888145), .lit (.int .u32 1258607687), .lit (.int .u32 3524101629), .lit (.int .u32 2768942443), .lit (.int .u32 901097722), .lit (.int .u32 1119000684), .lit (.int .u32 3686517206), .lit (.int .u32 2898065728), .lit (.int .u32 853044451), .lit (.int .u32 1172266101), .lit (.int .u32 3705015759), .lit (.int .u32 2882616665), .lit (.int .u32 651767980), .lit (.int .u32 1373503546), .lit (.int .u32 3369554304), .lit (.int .u32 3218104598), .lit (.int .u32 565507253), .lit (.int .u32 1454621731), .lit (.int .u32 3485111705), .lit (.int .u32 3099436303), .lit (.int .u32 671266974), .lit (.int .u32 1594198024), .lit (.int .u32 3322730930), .lit (.int .u32 2970347812), .lit (.int .u32 795835527), .lit (.int .u32 1483230225), .lit (.int .u32 3244367275), .lit (.int .u32 3060149565), .lit (.int .u32 1994146192), .lit (.int .u32 31158534), .lit (.int .u32 2563907772), .lit (.int .u32 4023717930), .lit (.int .u32 1907459465), .lit (.int .u32 112637215), .lit (.int .u32 2680153253), .lit (.int .u32 3904427059), .lit (.int .u32 2013776290), .lit (.int .u32 251722036), .lit (.int .u32 2517215374), .lit (.int .u32 3775830040), .lit (.int .u32 2137656763), .lit (.int .u32 141376813), .lit (.int .u32 2439277719), .lit (.int .u32 3865271297), .lit (.int .u32 1802195444), .lit (.int .u32 476864866), .lit (.int .u32 2238001368), .lit (.int .u32 4066508878), .lit (.int .u32 1812370925), .lit (.int .u32 453092731), .lit (.int .u32 2181625025), .lit (.int .u32 4111451223), .lit (.int .u32 1706088902), .lit (.int .u32 314042704), .lit (.int .u32 2344532202), .lit (.int .u32 4240017532), .lit (.int .u32 1658658271), .lit (.int .u32 366619977), .lit (.int .u32 2362670323), .lit (.int .u32 4224994405), .lit (.int .u32 1303535960), .lit (.int .u32 984961486), .lit (.int .u32 2747007092), .lit (.int .u32 3569037538), .lit (.int .u32 1256170817), .lit (.int .u32 1037604311), .lit (.int .u32 2765210733), .lit (.int .u32 3554079995), .lit (.int .u32 1131014506), .lit (.int .u32 879679996), .lit (.int .u32 2909243462), .lit (.int .u32 3663771856), .lit (.int .u32 1141124467), .lit (.int .u32 855842277), .lit (.int .u32 2852801631), .lit (.int .u32 3708648649), .lit (.int .u32 1342533948), .lit (.int .u32 654459306), .lit (.int .u32 3188396048), .lit (.int .u32 3373015174), .lit (.int .u32 1466479909), .lit (.int .u32 544179635), .lit (.int .u32 3110523913), .lit (.int .u32 3462522015), .lit (.int .u32 1591671054), .lit (.int .u32 702138776), .lit (.int .u32 2966460450), .lit (.int .u32 3352799412), .lit (.int .u32 1504918807), .lit (.int .u32 783551873), .lit (.int .u32 3082640443), .lit (.int .u32 3233442989), .lit (.int .u32 3988292384), .lit (.int .u32 2596254646), .lit (.int .u32 62317068), .lit (.int .u32 1957810842), .lit (.int .u32 3939845945), .lit (.int .u32 2647816111), .lit (.int .u32 81470997), .lit (.int .u32 1943803523), .lit (.int .u32 3814918930), .lit (.int .u32 2489596804), .lit (.int .u32 225274430), .lit (.int .u32 2053790376), .lit (.int .u32 3826175755), .lit (.int .u32 2466906013), .lit (.int .u32 167816743), .lit (.int .u32 2097651377), .lit (.int .u32 4027552580), .lit (.int .u32 2265490386), .lit (.int .u32 503444072), .lit (.int .u32 1762050814), .lit (.int .u32 4150417245), .lit (.int .u32 2154129355), .lit (.int .u32 426522225), .lit (.int .u32 1852507879), .lit (.int .u32 4275313526), .lit (.int .u32 2312317920), .lit (.int .u32 282753626), .lit (.int .u32 1742555852), .lit (.int .u32 4189708143), .lit (.int .u32 2394877945), .lit (.int .u32 397917763), .lit (.int .u32 1622183637), .lit (.int .u32 3604390888), .lit (.int .u32 2714866558), .lit (.int .u32 953729732), .lit (.int .u32 1340076626), .lit (.int .u32 3518719985), .lit (.int .u32 2797360999), .lit (.int .u32 1068828381), .lit (.int .u32 1219638859), .lit (.int .u32 3624741850), .lit (.int .u32 2936675148), .lit (.int .u32 906185462), .lit (.int .u32 1090812512), .lit (.int .u32 3747672003), .lit (.int .u32 2825379669), .lit (.int .u32 829329135), .lit (.int .u32 1181335161), .lit (.int .u32 3412177804), .lit (.int .u32 3160834842), .lit (.int .u32 628085408), .lit (.int .u32 1382605366), .lit (.int .u32 3423369109), .lit (.int .u32 3138078467), .lit (.int .u32 570562233), .lit (.int .u32 1426400815), .lit (.int .u32 3317316542), .lit (.int .u32 2998733608), .lit (.int .u32 733239954), .lit (.int .u32 1555261956), .lit (.int .u32 3268935591), .lit (.int .u32 3050360625), .lit (.int .u32 752459403), .lit (.int .u32 1541320221), .lit (.int .u32 2607071920), .lit (.int .u32 3965973030), .lit (.int .u32 1969922972), .lit (.int .u32 40735498), .lit (.int .u32 2617837225), .lit (.int .u32 3943577151), .lit (.int .u32 1913087877), .lit (.int .u32 83908371), .lit (.int .u32 2512341634), .lit (.int .u32 3803740692), .lit (.int .u32 2075208622), .lit (.int .u32 213261112), .lit (.int .u32 2463272603), .lit (.int .u32 3855990285), .lit (.int .u32 2094854071), .lit (.int .u32 198958881), .lit (.int .u32 2262029012), .lit (.int .u32 4057260610), .lit (.int .u32 1759359992), .lit (.int .u32 534414190), .lit (.int .u32 2176718541), .lit (.int .u32 4139329115), .lit (.int .u32 1873836001), .lit (.int .u32 414664567), .lit (.int .u32 2282248934), .lit (.int .u32 4279200368), .lit (.int .u32 1711684554), .lit (.int .u32 285281116), .lit (.int .u32 2405801727), .lit (.int .u32 4167216745), .lit (.int .u32 1634467795), .lit (.int .u32 376229701), .lit (.int .u32 2685067896), .lit (.int .u32 3608007406), .lit (.int .u32 1308918612), .lit (.int .u32 956543938), .lit (.int .u32 2808555105), .lit (.int .u32 3495958263), .lit (.int .u32 1231636301), .lit (.int .u32 1047427035), .lit (.int .u32 2932959818), .lit (.int .u32 3654703836), .lit (.int .u32 1088359270), .lit (.int .u32 936918000), .lit (.int .u32 2847714899), .lit (.int .u32 3736837829), .lit (.int .u32 1202900863), .lit (.int .u32 817233897), .lit (.int .u32 3183342108), .lit (.int .u32 3401237130), .lit (.int .u32 1404277552), .lit (.int .u32 615818150), .lit (.int .u32 3134207493), .lit (.int .u32 3453421203), .lit (.int .u32 1423857449), .lit (.int .u32 601450431), .lit (.int .u32 3009837614), .lit (.int .u32 3294710456), .lit (.int .u32 1567103746), .lit (.int .u32 711928724), .lit (.int .u32 3020668471), .lit (.int .u32 3272380065), .lit (.int .u32 1510334235), .lit (.int .u32 755167117)]
def laid_math_bits_deBruijn32tab {H : Type} : DataW H := .agg [.lit (.int .u8 0), .lit (.int .u8 1), .lit (.int .u8 28), .lit (.int .u8 2), .lit (.int .u8 29), .lit (.int .u8 14), .lit (.int .u8 24), .lit (.int .u8 3), .lit (.int .u8 30), .lit (.int .u8 22), .lit (.int .u8 20), .lit (.int .u8 15), .lit (.int .u8 25), .lit (.int .u8 17), .lit (.int .u8 4), .lit (.int .u8 8), .lit (.int .u8 31), .lit (.int .u8 27), .lit (.int .u8 13), .lit (.int .u8 23), .lit (.int .u8 21), .lit (.int .u8 19), .lit (.int .u8 16), .lit (.int .u8 7), .lit (.int .u8 26), .lit (.int .u8 12), .lit (.int .u8 18), .lit (.int .u8 6), .lit (.int .u8 11), .lit (.int .u8 5), .lit (.int .u8 10), .lit (.int .u8 9)]
def laid_math_bits_deBruijn64tab {H : Type} : DataW H := .agg [.lit (.int .u8 0), .lit (.int .u8 1), .lit (.int .u8 56), .lit (.int .u8 2), .lit (.int .u8 57), .lit (.int .u8 49), .lit (.int .u8 28), .lit (.int .u8 3), .lit (.int .u8 61), .lit (.int .u8 58), .lit (.int .u8 42), .lit (.int .u8 50), .lit (.int .u8 38), .lit (.int .u8 29), .lit (.int .u8 17), .lit (.int .u8 4), .lit (.int .u8 62), .lit (.int .u8 47), .lit (.int .u8 59), .lit (.int .u8 36), .lit (.int .u8 45), .lit (.int .u8 43), .lit (.int .u8 51), .lit (.int .u8 22), .lit (.int .u8 53), .lit (.int .u8 39), .lit (.int .u8 33), .lit (.int .u8 30), .lit (.int .u8 24), .lit (.int .u8 18), .lit (.int .u8 12), .lit (.int .u8 5), .lit (.int .u8 63), .lit (.int .u8 55), .lit (.int .u8 48), .lit (.int .u8 27), .lit (.int .u8 60), .lit (.int .u8 41), .lit (.int .u8 37), .lit (.int .u8 16), .lit (.int .u8 46), .lit (.int .u8 35), .lit (.int .u8 44), .lit (.int .u8 21), .lit (.int .u8 52), .lit (.int .u8 32), .lit (.int .u8 23), .lit (.int .u8 11), .lit (.int .u8 54), .lit (.int .u8 26), .lit (.int .u8 40), .lit (.int .u8 15), .lit (.int .u8 34), .lit (.int .u8 20), .lit (.int .u8 31), .lit (.int .u8 10), .lit (.int .u8 25), .lit (.int .u8 14), .lit (.int .u8 19), .lit (.int .u8 9), .lit (.int .u8 13), .lit (.int .u8 8), .lit (.int .u8 7), .lit (.int .u8 6)]
def laid_internal_strconv_uint64pow10 {H : Type} : DataW H := .agg [.lit (.int .u64 1), .lit (.int .u64 10), .lit (.int .u64 100), .lit (.int .u64 1000), .lit (.int .u64 10000), .lit (.int .u64 100000), .lit (.int .u64 1000000), .lit (.int .u64 10000000), .lit (.int .u64 100000000), .lit (.int .u64 1000000000), .lit (.int .u64 10000000000), .lit (.int .u64 100000000000), .lit (.int .u64 1000000000000), .lit (.int .u64 10000000000000), .lit (.int .u64 100000000000000), .lit (.int .u64 1000000000000000), .lit (.int .u64 10000000000000000), .lit (.int .u64 100000000000000000), .lit (.int .u64 1000000000000000000), .lit (.int .u64 10000000000000000000)]
def laid_bytes_ErrTooLarge {H : Type} : DataW H := .iface "*errors.errorString" (.ptr (.agg [.lit (.string [98, 121, 116, 101, 115, 46, 66, 117, 102, 102, 101, 114, 58, 32, 116, 111, 111, 32, 108, 97, 114, 103, 101])]))

/-- 'laws.FnReadPalette': WHATEVER THE INPUT: true; the input reads as it did. -/
def fnReadPaletteSpec : ChangeSpec := { name := "fnReadPalette", vars := ["loop.example/pub-g03424/pub/pngparts.ieeeTable"], fn := fun _ => fun
  | [d1, d2, g1] => { results := [.lit (.bool true)], args := [d1, d2], vars := [g1] }
  | _ => none }
def fnReadPaletteRow : OpenClaim := { program := "ytiiipmcjbibgoaadoor", sum := "68fb2462a781124d5b8abc678b24b8446e5256242f5642fb269b6e0dbde6c858", func := "loop.example/pub-g03424/laws.FnReadPalette", spec := "fnReadPalette", unfollowed := true, recurses := true, named := ["loop.example/pub-g03424/pub/pngparts.ieeeTable", "io.ErrShortBuffer", "io.EOF", "io.ErrUnexpectedEOF"], apart := false, laid := [("io.ErrShortBuffer", laid_io_ErrShortBuffer), ("io.EOF", laid_io_EOF), ("io.ErrUnexpectedEOF", laid_io_ErrUnexpectedEOF), ("loop.example/pub-g03424/pub/pngparts.ieeeTable", laid_loop_example_pub_g03424_pub_pngparts_ieeeTable)] }
def FnReadPaletteSaid : Prop := fnReadPaletteRow.holds Tryd.pinned (OpenSpec.ofChange fnReadPaletteSpec)

/-- ITS FALSE NEIGHBOUR: 'it returns false'. Refute it at one input. -/
def fnReadPaletteWrong : ChangeSpec := { name := "fnReadPalette", vars := ["loop.example/pub-g03424/pub/pngparts.ieeeTable"], fn := fun _ => fun
  | [d1, d2, g1] => { results := [.lit (.bool false)], args := [d1, d2], vars := [g1] }
  | _ => none }
def FnReadPaletteWrongFalsely : Prop := fnReadPaletteRow.holds Tryd.pinned (OpenSpec.ofChange fnReadPaletteWrong)

/-- 'laws.FnReadPaletteKind': WHATEVER THE INPUT: true; the input reads as it did. -/
def fnReadPaletteKindSpec : ChangeSpec := { name := "fnReadPaletteKind", vars := ["loop.example/pub-g03424/pub/pngparts.ieeeTable"], fn := fun _ => fun
  | [d1, d2, d3, g1] => { results := [.lit (.bool true)], args := [d1, d2, d3], vars := [g1] }
  | _ => none }
def fnReadPaletteKindRow : OpenClaim := { program := "ytiiipmcjbibgoaadoor", sum := "68fb2462a781124d5b8abc678b24b8446e5256242f5642fb269b6e0dbde6c858", func := "loop.example/pub-g03424/laws.FnReadPaletteKind", spec := "fnReadPaletteKind", unfollowed := true, recurses := true, named := ["loop.example/pub-g03424/pub/pngparts.ieeeTable", "io.ErrShortBuffer", "io.EOF", "io.ErrUnexpectedEOF"], apart := false, laid := [("io.ErrShortBuffer", laid_io_ErrShortBuffer), ("io.EOF", laid_io_EOF), ("io.ErrUnexpectedEOF", laid_io_ErrUnexpectedEOF), ("loop.example/pub-g03424/pub/pngparts.ieeeTable", laid_loop_example_pub_g03424_pub_pngparts_ieeeTable)] }
def FnReadPaletteKindSaid : Prop := fnReadPaletteKindRow.holds Tryd.pinned (OpenSpec.ofChange fnReadPaletteKindSpec)

/-- ITS FALSE NEIGHBOUR: 'it returns false'. Refute it at one input. -/
def fnReadPaletteKindWrong : ChangeSpec := { name := "fnReadPaletteKind", vars := ["loop.example/pub-g03424/pub/pngparts.ieeeTable"], fn := fun _ => fun
  | [d1, d2, d3, g1] => { results := [.lit (.bool false)], args := [d1, d2, d3], vars := [g1] }
  | _ => none }
def FnReadPaletteKindWrongFalsely : Prop := fnReadPaletteKindRow.holds Tryd.pinned (OpenSpec.ofChange fnReadPaletteKindWrong)

/-- 'laws.FnReadClear': WHATEVER THE INPUT: true; the input reads as it did. -/
def fnReadClearSpec : ChangeSpec := { name := "fnReadClear", vars := ["loop.example/pub-g03424/pub/pngparts.ieeeTable"], fn := fun _ => fun
  | [d1, d2, d3, g1] => { results := [.lit (.bool true)], args := [d1, d2, d3], vars := [g1] }
  | _ => none }
def fnReadClearRow : OpenClaim := { program := "ytiiipmcjbibgoaadoor", sum := "68fb2462a781124d5b8abc678b24b8446e5256242f5642fb269b6e0dbde6c858", func := "loop.example/pub-g03424/laws.FnReadClear", spec := "fnReadClear", unfollowed := true, recurses := true, named := ["loop.example/pub-g03424/pub/pngparts.ieeeTable", "io.ErrShortBuffer", "io.EOF", "io.ErrUnexpectedEOF"], apart := false, laid := [("io.ErrShortBuffer", laid_io_ErrShortBuffer), ("io.EOF", laid_io_EOF), ("io.ErrUnexpectedEOF", laid_io_ErrUnexpectedEOF), ("loop.example/pub-g03424/pub/pngparts.ieeeTable", laid_loop_example_pub_g03424_pub_pngparts_ieeeTable)] }
def FnReadClearSaid : Prop := fnReadClearRow.holds Tryd.pinned (OpenSpec.ofChange fnReadClearSpec)

/-- ITS FALSE NEIGHBOUR: 'it returns false'. Refute it at one input. -/
def fnReadClearWrong : ChangeSpec := { name := "fnReadClear", vars := ["loop.example/pub-g03424/pub/pngparts.ieeeTable"], fn := fun _ => fun
  | [d1, d2, d3, g1] => { results := [.lit (.bool false)], args := [d1, d2, d3], vars := [g1] }
  | _ => none }
def FnReadClearWrongFalsely : Prop := fnReadClearRow.holds Tryd.pinned (OpenSpec.ofChange fnReadClearWrong)

/-- 'laws.FnReadClearSample': WHATEVER THE INPUT: true; the input reads as it did. -/
def fnReadClearSampleSpec : ChangeSpec := { name := "fnReadClearSample", vars := ["loop.example/pub-g03424/pub/pngparts.ieeeTable"], fn := fun _ => fun
  | [d1, d2, g1] => { results := [.lit (.bool true)], args := [d1, d2], vars := [g1] }
  | _ => none }
def fnReadClearSampleRow : OpenClaim := { program := "ytiiipmcjbibgoaadoor", sum := "68fb2462a781124d5b8abc678b24b8446e5256242f5642fb269b6e0dbde6c858", func := "loop.example/pub-g03424/laws.FnReadClearSample", spec := "fnReadClearSample", unfollowed := true, recurses := true, named := ["loop.example/pub-g03424/pub/pngparts.ieeeTable", "io.ErrShortBuffer", "io.EOF", "io.ErrUnexpectedEOF"], apart := false, laid := [("io.ErrShortBuffer", laid_io_ErrShortBuffer), ("io.EOF", laid_io_EOF), ("io.ErrUnexpectedEOF", laid_io_ErrUnexpectedEOF), ("loop.example/pub-g03424/pub/pngparts.ieeeTable", laid_loop_example_pub_g03424_pub_pngparts_ieeeTable)] }
def FnReadClearSampleSaid : Prop := fnReadClearSampleRow.holds Tryd.pinned (OpenSpec.ofChange fnReadClearSampleSpec)

/-- ITS FALSE NEIGHBOUR: 'it returns false'. Refute it at one input. -/
def fnReadClearSampleWrong : ChangeSpec := { name := "fnReadClearSample", vars := ["loop.example/pub-g03424/pub/pngparts.ieeeTable"], fn := fun _ => fun
  | [d1, d2, g1] => { results := [.lit (.bool false)], args := [d1, d2], vars := [g1] }
  | _ => none }
def FnReadClearSampleWrongFalsely : Prop := fnReadClearSampleRow.holds Tryd.pinned (OpenSpec.ofChange fnReadClearSampleWrong)

/-- 'laws.FnReadHeader': WHATEVER THE INPUT: true; the input reads as it did. -/
def fnReadHeaderSpec : ChangeSpec := { name := "fnReadHeader", vars := ["loop.example/pub-g03424/pub/pngparts.ieeeTable"], fn := fun _ => fun
  | [d1, d2, d3, d4, d5, d6, d7, g1] => { results := [.lit (.bool true)], args := [d1, d2, d3, d4, d5, d6, d7], vars := [g1] }
  | _ => none }
def fnReadHeaderRow : OpenClaim := { program := "ytiiipmcjbibgoaadoor", sum := "68fb2462a781124d5b8abc678b24b8446e5256242f5642fb269b6e0dbde6c858", func := "loop.example/pub-g03424/laws.FnReadHeader", spec := "fnReadHeader", unfollowed := true, recurses := true, named := ["loop.example/pub-g03424/pub/pngparts.ieeeTable", "io.ErrShortBuffer", "io.EOF", "io.ErrUnexpectedEOF"], apart := false, laid := [("io.ErrShortBuffer", laid_io_ErrShortBuffer), ("io.EOF", laid_io_EOF), ("io.ErrUnexpectedEOF", laid_io_ErrUnexpectedEOF), ("loop.example/pub-g03424/pub/pngparts.ieeeTable", laid_loop_example_pub_g03424_pub_pngparts_ieeeTable)] }
def FnReadHeaderSaid : Prop := fnReadHeaderRow.holds Tryd.pinned (OpenSpec.ofChange fnReadHeaderSpec)

/-- ITS FALSE NEIGHBOUR: 'it returns false'. Refute it at one input. -/
def fnReadHeaderWrong : ChangeSpec := { name := "fnReadHeader", vars := ["loop.example/pub-g03424/pub/pngparts.ieeeTable"], fn := fun _ => fun
  | [d1, d2, d3, d4, d5, d6, d7, g1] => { results := [.lit (.bool false)], args := [d1, d2, d3, d4, d5, d6, d7], vars := [g1] }
  | _ => none }
def FnReadHeaderWrongFalsely : Prop := fnReadHeaderRow.holds Tryd.pinned (OpenSpec.ofChange fnReadHeaderWrong)

/-- 'laws.FnReadHeaderBent': WHATEVER THE INPUT: true; the input reads as it did. -/
def fnReadHeaderBentSpec : ChangeSpec := { name := "fnReadHeaderBent", vars := ["loop.example/pub-g03424/pub/pngparts.ieeeTable"], fn := fun _ => fun
  | [d1, d2, d3, d4, d5, d6, g1] => { results := [.lit (.bool true)], args := [d1, d2, d3, d4, d5, d6], vars := [g1] }
  | _ => none }
def fnReadHeaderBentRow : OpenClaim := { program := "ytiiipmcjbibgoaadoor", sum := "68fb2462a781124d5b8abc678b24b8446e5256242f5642fb269b6e0dbde6c858", func := "loop.example/pub-g03424/laws.FnReadHeaderBent", spec := "fnReadHeaderBent", unfollowed := true, recurses := true, named := ["loop.example/pub-g03424/pub/pngparts.ieeeTable", "io.ErrShortBuffer", "io.EOF", "io.ErrUnexpectedEOF"], apart := false, laid := [("io.ErrShortBuffer", laid_io_ErrShortBuffer), ("io.EOF", laid_io_EOF), ("io.ErrUnexpectedEOF", laid_io_ErrUnexpectedEOF), ("loop.example/pub-g03424/pub/pngparts.ieeeTable", laid_loop_example_pub_g03424_pub_pngparts_ieeeTable)] }
def FnReadHeaderBentSaid : Prop := fnReadHeaderBentRow.holds Tryd.pinned (OpenSpec.ofChange fnReadHeaderBentSpec)

/-- ITS FALSE NEIGHBOUR: 'it returns false'. Refute it at one input. -/
def fnReadHeaderBentWrong : ChangeSpec := { name := "fnReadHeaderBent", vars := ["loop.example/pub-g03424/pub/pngparts.ieeeTable"], fn := fun _ => fun
  | [d1, d2, d3, d4, d5, d6, g1] => { results := [.lit (.bool false)], args := [d1, d2, d3, d4, d5, d6], vars := [g1] }
  | _ => none }
def FnReadHeaderBentWrongFalsely : Prop := fnReadHeaderBentRow.holds Tryd.pinned (OpenSpec.ofChange fnReadHeaderBentWrong)

/-- 'laws.FnChunk': WHATEVER THE INPUT: true; the input reads as it did. -/
def fnChunkSpec : ChangeSpec := { name := "fnChunk", vars := ["loop.example/pub-g03424/pub/pngparts.ieeeTable"], fn := fun _ => fun
  | [d1, d2, g1] => { results := [.lit (.bool true)], args := [d1, d2], vars := [g1] }
  | _ => none }
def fnChunkRow : OpenClaim := { program := "ytiiipmcjbibgoaadoor", sum := "68fb2462a781124d5b8abc678b24b8446e5256242f5642fb269b6e0dbde6c858", func := "loop.example/pub-g03424/laws.FnChunk", spec := "fnChunk", named := ["internal/strconv.uint64pow10", "math/bits.deBruijn32tab", "math/bits.deBruijn64tab", "loop.example/pub-g03424/pub/pngparts.ieeeTable", "bytes.ErrTooLarge"], apart := false, laid := [("math/bits.deBruijn32tab", laid_math_bits_deBruijn32tab), ("math/bits.deBruijn64tab", laid_math_bits_deBruijn64tab), ("internal/strconv.uint64pow10", laid_internal_strconv_uint64pow10), ("bytes.ErrTooLarge", laid_bytes_ErrTooLarge), ("loop.example/pub-g03424/pub/pngparts.ieeeTable", laid_loop_example_pub_g03424_pub_pngparts_ieeeTable)] }
def FnChunkSaid : Prop := fnChunkRow.holds Tryd.pinned (OpenSpec.ofChange fnChunkSpec)

/-- ITS FALSE NEIGHBOUR: 'it returns false'. Refute it at one input. -/
def fnChunkWrong : ChangeSpec := { name := "fnChunk", vars := ["loop.example/pub-g03424/pub/pngparts.ieeeTable"], fn := fun _ => fun
  | [d1, d2, g1] => { results := [.lit (.bool false)], args := [d1, d2], vars := [g1] }
  | _ => none }
def FnChunkWrongFalsely : Prop := fnChunkRow.holds Tryd.pinned (OpenSpec.ofChange fnChunkWrong)

/-- 'laws.FnPaletteChunks': WHATEVER THE INPUT: true; the input reads as it did. -/
def fnPaletteChunksSpec : ChangeSpec := { name := "fnPaletteChunks", vars := ["loop.example/pub-g03424/pub/pngparts.ieeeTable"], fn := fun _ => fun
  | [d, g1] => { results := [.lit (.bool true)], args := [d], vars := [g1] }
  | _ => none }
def fnPaletteChunksRow : OpenClaim := { program := "ytiiipmcjbibgoaadoor", sum := "68fb2462a781124d5b8abc678b24b8446e5256242f5642fb269b6e0dbde6c858", func := "loop.example/pub-g03424/laws.FnPaletteChunks", spec := "fnPaletteChunks", unfollowed := true, recurses := true, named := ["internal/strconv.uint64pow10", "math/bits.deBruijn32tab", "math/bits.deBruijn64tab", "loop.example/pub-g03424/pub/pngparts.ieeeTable", "bytes.ErrTooLarge"], apart := false, laid := [("math/bits.deBruijn32tab", laid_math_bits_deBruijn32tab), ("math/bits.deBruijn64tab", laid_math_bits_deBruijn64tab), ("internal/strconv.uint64pow10", laid_internal_strconv_uint64pow10), ("bytes.ErrTooLarge", laid_bytes_ErrTooLarge), ("loop.example/pub-g03424/pub/pngparts.ieeeTable", laid_loop_example_pub_g03424_pub_pngparts_ieeeTable)] }
def FnPaletteChunksSaid : Prop := fnPaletteChunksRow.holds Tryd.pinned (OpenSpec.ofChange fnPaletteChunksSpec)

/-- ITS FALSE NEIGHBOUR: 'it returns false'. Refute it at one input. -/
def fnPaletteChunksWrong : ChangeSpec := { name := "fnPaletteChunks", vars := ["loop.example/pub-g03424/pub/pngparts.ieeeTable"], fn := fun _ => fun
  | [d, g1] => { results := [.lit (.bool false)], args := [d], vars := [g1] }
  | _ => none }
def FnPaletteChunksWrongFalsely : Prop := fnPaletteChunksRow.holds Tryd.pinned (OpenSpec.ofChange fnPaletteChunksWrong)

/-- 'laws.FnHeader': WHATEVER THE INPUT: true; the input reads as it did. -/
def fnHeaderSpec : ChangeSpec := { name := "fnHeader", vars := ["loop.example/pub-g03424/pub/pngparts.ieeeTable"], fn := fun _ => fun
  | [d1, d2, d3, g1] => { results := [.lit (.bool true)], args := [d1, d2, d3], vars := [g1] }
  | _ => none }
def fnHeaderRow : OpenClaim := { program := "ytiiipmcjbibgoaadoor", sum := "68fb2462a781124d5b8abc678b24b8446e5256242f5642fb269b6e0dbde6c858", func := "loop.example/pub-g03424/laws.FnHeader", spec := "fnHeader", unfollowed := true, recurses := true, named := ["internal/strconv.uint64pow10", "math/bits.deBruijn32tab", "math/bits.deBruijn64tab", "loop.example/pub-g03424/pub/pngparts.ieeeTable", "bytes.ErrTooLarge"], apart := false, laid := [("math/bits.deBruijn32tab", laid_math_bits_deBruijn32tab), ("math/bits.deBruijn64tab", laid_math_bits_deBruijn64tab), ("internal/strconv.uint64pow10", laid_internal_strconv_uint64pow10), ("bytes.ErrTooLarge", laid_bytes_ErrTooLarge), ("loop.example/pub-g03424/pub/pngparts.ieeeTable", laid_loop_example_pub_g03424_pub_pngparts_ieeeTable)] }
def FnHeaderSaid : Prop := fnHeaderRow.holds Tryd.pinned (OpenSpec.ofChange fnHeaderSpec)

/-- ITS FALSE NEIGHBOUR: 'it returns false'. Refute it at one input. -/
def fnHeaderWrong : ChangeSpec := { name := "fnHeader", vars := ["loop.example/pub-g03424/pub/pngparts.ieeeTable"], fn := fun _ => fun
  | [d1, d2, d3, g1] => { results := [.lit (.bool false)], args := [d1, d2, d3], vars := [g1] }
  | _ => none }
def FnHeaderWrongFalsely : Prop := fnHeaderRow.holds Tryd.pinned (OpenSpec.ofChange fnHeaderWrong)

/-- 'laws.FnHeaderBack': WHATEVER THE INPUT: true; the input reads as it did. -/
def fnHeaderBackSpec : ChangeSpec := { name := "fnHeaderBack", vars := ["loop.example/pub-g03424/pub/pngparts.ieeeTable"], fn := fun _ => fun
  | [d1, d2, d3, g1] => { results := [.lit (.bool true)], args := [d1, d2, d3], vars := [g1] }
  | _ => none }
def fnHeaderBackRow : OpenClaim := { program := "ytiiipmcjbibgoaadoor", sum := "68fb2462a781124d5b8abc678b24b8446e5256242f5642fb269b6e0dbde6c858", func := "loop.example/pub-g03424/laws.FnHeaderBack", spec := "fnHeaderBack", unfollowed := true, recurses := true, named := ["internal/strconv.uint64pow10", "math/bits.deBruijn32tab", "math/bits.deBruijn64tab", "loop.example/pub-g03424/pub/pngparts.ieeeTable", "bytes.ErrTooLarge", "io.ErrShortBuffer", "io.EOF", "io.ErrUnexpectedEOF"], apart := false, laid := [("math/bits.deBruijn32tab", laid_math_bits_deBruijn32tab), ("math/bits.deBruijn64tab", laid_math_bits_deBruijn64tab), ("internal/strconv.uint64pow10", laid_internal_strconv_uint64pow10), ("io.ErrShortBuffer", laid_io_ErrShortBuffer), ("io.EOF", laid_io_EOF), ("io.ErrUnexpectedEOF", laid_io_ErrUnexpectedEOF), ("bytes.ErrTooLarge", laid_bytes_ErrTooLarge), ("loop.example/pub-g03424/pub/pngparts.ieeeTable", laid_loop_example_pub_g03424_pub_pngparts_ieeeTable)] }
def FnHeaderBackSaid : Prop := fnHeaderBackRow.holds Tryd.pinned (OpenSpec.ofChange fnHeaderBackSpec)

/-- ITS FALSE NEIGHBOUR: 'it returns false'. Refute it at one input. -/
def fnHeaderBackWrong : ChangeSpec := { name := "fnHeaderBack", vars := ["loop.example/pub-g03424/pub/pngparts.ieeeTable"], fn := fun _ => fun
  | [d1, d2, d3, g1] => { results := [.lit (.bool false)], args := [d1, d2, d3], vars := [g1] }
  | _ => none }
def FnHeaderBackWrongFalsely : Prop := fnHeaderBackRow.holds Tryd.pinned (OpenSpec.ofChange fnHeaderBackWrong)

/- THE SECOND FORM. 'bulk': how many values and letters a reading holds, each counted each time it is reached (what is shared counts as often as it is met; a slice's spare places count too). A statement '..UptoSaid' is the law's where the arguments, and the package variables that the reading takes, are together of bulk at most 1048576: NARROWER than '..Said'. Prove '..Said' where nothing that the law and all that it calls make is longer than what came in: it says more and counts as full. Else prove '..UptoSaid'. A law counts once. -/
mutual
def uptoBulk {H : Type} : DataW H → Nat
  | .lit (.string bytes) => bytes.length + 1
  | .lit _ => 1
  | .nil => 1
  | .ptr d => uptoBulk d + 1
  | .slice elems spare => uptoBulkAll elems + uptoBulkAll spare + 1
  | .agg parts => uptoBulkAll parts + 1
  | .iface _ d => uptoBulk d + 1
  | .map entries => uptoBulkEntries entries + 1
  | .held _ => 1
def uptoBulkAll {H : Type} : List (DataW H) → Nat
  | [] => 0
  | d :: r => uptoBulk d + uptoBulkAll r
def uptoBulkEntries {H : Type} : List (Lit × DataW H) → Nat
  | [] => 0
  | x :: r => uptoBulkEntry x + uptoBulkEntries r
def uptoBulkEntry {H : Type} : Lit × DataW H → Nat
  | (.string bytes, d) => bytes.length + uptoBulk d + 1
  | (_, d) => uptoBulk d + 1
 end
def uptoSmall : (H : Type) → List (DataW H) → Bool := fun _ ds => decide (uptoBulkAll ds ≤ 1048576)
def OpenSpec.upto (s : _root_.Go.ChangeSpec) : _root_.Go.OpenSpec := { _root_.Go.OpenSpec.ofChange s with cond := some uptoSmall }

/-- 'laws.FnReadPalette', WHERE WHAT IT READS IS OF BULK AT MOST 1048576: true; the input reads as it did. -/
def fnReadPaletteUptoRow : OpenClaim := { program := "ytiiipmcjbibgoaadoor", sum := "68fb2462a781124d5b8abc678b24b8446e5256242f5642fb269b6e0dbde6c858", func := "loop.example/pub-g03424/laws.FnReadPalette", spec := "fnReadPalette", unfollowed := true, recurses := true, named := ["loop.example/pub-g03424/pub/pngparts.ieeeTable", "io.ErrShortBuffer", "io.EOF", "io.ErrUnexpectedEOF"], apart := false, laid := [("io.ErrShortBuffer", laid_io_ErrShortBuffer), ("io.EOF", laid_io_EOF), ("io.ErrUnexpectedEOF", laid_io_ErrUnexpectedEOF), ("loop.example/pub-g03424/pub/pngparts.ieeeTable", laid_loop_example_pub_g03424_pub_pngparts_ieeeTable)], narrowed := true }
def FnReadPaletteUptoSaid : Prop := fnReadPaletteUptoRow.holds Tryd.pinned (OpenSpec.upto fnReadPaletteSpec)

/-- 'laws.FnReadPaletteKind', WHERE WHAT IT READS IS OF BULK AT MOST 1048576: true; the input reads as it did. -/
def fnReadPaletteKindUptoRow : OpenClaim := { program := "ytiiipmcjbibgoaadoor", sum := "68fb2462a781124d5b8abc678b24b8446e5256242f5642fb269b6e0dbde6c858", func := "loop.example/pub-g03424/laws.FnReadPaletteKind", spec := "fnReadPaletteKind", unfollowed := true, recurses := true, named := ["loop.example/pub-g03424/pub/pngparts.ieeeTable", "io.ErrShortBuffer", "io.EOF", "io.ErrUnexpectedEOF"], apart := false, laid := [("io.ErrShortBuffer", laid_io_ErrShortBuffer), ("io.EOF", laid_io_EOF), ("io.ErrUnexpectedEOF", laid_io_ErrUnexpectedEOF), ("loop.example/pub-g03424/pub/pngparts.ieeeTable", laid_loop_example_pub_g03424_pub_pngparts_ieeeTable)], narrowed := true }
def FnReadPaletteKindUptoSaid : Prop := fnReadPaletteKindUptoRow.holds Tryd.pinned (OpenSpec.upto fnReadPaletteKindSpec)

/-- 'laws.FnReadClear', WHERE WHAT IT READS IS OF BULK AT MOST 1048576: true; the input reads as it did. -/
def fnReadClearUptoRow : OpenClaim := { program := "ytiiipmcjbibgoaadoor", sum := "68fb2462a781124d5b8abc678b24b8446e5256242f5642fb269b6e0dbde6c858", func := "loop.example/pub-g03424/laws.FnReadClear", spec := "fnReadClear", unfollowed := true, recurses := true, named := ["loop.example/pub-g03424/pub/pngparts.ieeeTable", "io.ErrShortBuffer", "io.EOF", "io.ErrUnexpectedEOF"], apart := false, laid := [("io.ErrShortBuffer", laid_io_ErrShortBuffer), ("io.EOF", laid_io_EOF), ("io.ErrUnexpectedEOF", laid_io_ErrUnexpectedEOF), ("loop.example/pub-g03424/pub/pngparts.ieeeTable", laid_loop_example_pub_g03424_pub_pngparts_ieeeTable)], narrowed := true }
def FnReadClearUptoSaid : Prop := fnReadClearUptoRow.holds Tryd.pinned (OpenSpec.upto fnReadClearSpec)

/-- 'laws.FnReadClearSample', WHERE WHAT IT READS IS OF BULK AT MOST 1048576: true; the input reads as it did. -/
def fnReadClearSampleUptoRow : OpenClaim := { program := "ytiiipmcjbibgoaadoor", sum := "68fb2462a781124d5b8abc678b24b8446e5256242f5642fb269b6e0dbde6c858", func := "loop.example/pub-g03424/laws.FnReadClearSample", spec := "fnReadClearSample", unfollowed := true, recurses := true, named := ["loop.example/pub-g03424/pub/pngparts.ieeeTable", "io.ErrShortBuffer", "io.EOF", "io.ErrUnexpectedEOF"], apart := false, laid := [("io.ErrShortBuffer", laid_io_ErrShortBuffer), ("io.EOF", laid_io_EOF), ("io.ErrUnexpectedEOF", laid_io_ErrUnexpectedEOF), ("loop.example/pub-g03424/pub/pngparts.ieeeTable", laid_loop_example_pub_g03424_pub_pngparts_ieeeTable)], narrowed := true }
def FnReadClearSampleUptoSaid : Prop := fnReadClearSampleUptoRow.holds Tryd.pinned (OpenSpec.upto fnReadClearSampleSpec)

/-- 'laws.FnReadHeader', WHERE WHAT IT READS IS OF BULK AT MOST 1048576: true; the input reads as it did. -/
def fnReadHeaderUptoRow : OpenClaim := { program := "ytiiipmcjbibgoaadoor", sum := "68fb2462a781124d5b8abc678b24b8446e5256242f5642fb269b6e0dbde6c858", func := "loop.example/pub-g03424/laws.FnReadHeader", spec := "fnReadHeader", unfollowed := true, recurses := true, named := ["loop.example/pub-g03424/pub/pngparts.ieeeTable", "io.ErrShortBuffer", "io.EOF", "io.ErrUnexpectedEOF"], apart := false, laid := [("io.ErrShortBuffer", laid_io_ErrShortBuffer), ("io.EOF", laid_io_EOF), ("io.ErrUnexpectedEOF", laid_io_ErrUnexpectedEOF), ("loop.example/pub-g03424/pub/pngparts.ieeeTable", laid_loop_example_pub_g03424_pub_pngparts_ieeeTable)], narrowed := true }
def FnReadHeaderUptoSaid : Prop := fnReadHeaderUptoRow.holds Tryd.pinned (OpenSpec.upto fnReadHeaderSpec)

/-- 'laws.FnReadHeaderBent', WHERE WHAT IT READS IS OF BULK AT MOST 1048576: true; the input reads as it did. -/
def fnReadHeaderBentUptoRow : OpenClaim := { program := "ytiiipmcjbibgoaadoor", sum := "68fb2462a781124d5b8abc678b24b8446e5256242f5642fb269b6e0dbde6c858", func := "loop.example/pub-g03424/laws.FnReadHeaderBent", spec := "fnReadHeaderBent", unfollowed := true, recurses := true, named := ["loop.example/pub-g03424/pub/pngparts.ieeeTable", "io.ErrShortBuffer", "io.EOF", "io.ErrUnexpectedEOF"], apart := false, laid := [("io.ErrShortBuffer", laid_io_ErrShortBuffer), ("io.EOF", laid_io_EOF), ("io.ErrUnexpectedEOF", laid_io_ErrUnexpectedEOF), ("loop.example/pub-g03424/pub/pngparts.ieeeTable", laid_loop_example_pub_g03424_pub_pngparts_ieeeTable)], narrowed := true }
def FnReadHeaderBentUptoSaid : Prop := fnReadHeaderBentUptoRow.holds Tryd.pinned (OpenSpec.upto fnReadHeaderBentSpec)

/-- 'laws.FnChunk', WHERE WHAT IT READS IS OF BULK AT MOST 1048576: true; the input reads as it did. -/
def fnChunkUptoRow : OpenClaim := { program := "ytiiipmcjbibgoaadoor", sum := "68fb2462a781124d5b8abc678b24b8446e5256242f5642fb269b6e0dbde6c858", func := "loop.example/pub-g03424/laws.FnChunk", spec := "fnChunk", named := ["internal/strconv.uint64pow10", "math/bits.deBruijn32tab", "math/bits.deBruijn64tab", "loop.example/pub-g03424/pub/pngparts.ieeeTable", "bytes.ErrTooLarge"], apart := false, laid := [("math/bits.deBruijn32tab", laid_math_bits_deBruijn32tab), ("math/bits.deBruijn64tab", laid_math_bits_deBruijn64tab), ("internal/strconv.uint64pow10", laid_internal_strconv_uint64pow10), ("bytes.ErrTooLarge", laid_bytes_ErrTooLarge), ("loop.example/pub-g03424/pub/pngparts.ieeeTable", laid_loop_example_pub_g03424_pub_pngparts_ieeeTable)], narrowed := true }
def FnChunkUptoSaid : Prop := fnChunkUptoRow.holds Tryd.pinned (OpenSpec.upto fnChunkSpec)

/-- 'laws.FnPaletteChunks', WHERE WHAT IT READS IS OF BULK AT MOST 1048576: true; the input reads as it did. -/
def fnPaletteChunksUptoRow : OpenClaim := { program := "ytiiipmcjbibgoaadoor", sum := "68fb2462a781124d5b8abc678b24b8446e5256242f5642fb269b6e0dbde6c858", func := "loop.example/pub-g03424/laws.FnPaletteChunks", spec := "fnPaletteChunks", unfollowed := true, recurses := true, named := ["internal/strconv.uint64pow10", "math/bits.deBruijn32tab", "math/bits.deBruijn64tab", "loop.example/pub-g03424/pub/pngparts.ieeeTable", "bytes.ErrTooLarge"], apart := false, laid := [("math/bits.deBruijn32tab", laid_math_bits_deBruijn32tab), ("math/bits.deBruijn64tab", laid_math_bits_deBruijn64tab), ("internal/strconv.uint64pow10", laid_internal_strconv_uint64pow10), ("bytes.ErrTooLarge", laid_bytes_ErrTooLarge), ("loop.example/pub-g03424/pub/pngparts.ieeeTable", laid_loop_example_pub_g03424_pub_pngparts_ieeeTable)], narrowed := true }
def FnPaletteChunksUptoSaid : Prop := fnPaletteChunksUptoRow.holds Tryd.pinned (OpenSpec.upto fnPaletteChunksSpec)

/-- 'laws.FnHeader', WHERE WHAT IT READS IS OF BULK AT MOST 1048576: true; the input reads as it did. -/
def fnHeaderUptoRow : OpenClaim := { program := "ytiiipmcjbibgoaadoor", sum := "68fb2462a781124d5b8abc678b24b8446e5256242f5642fb269b6e0dbde6c858", func := "loop.example/pub-g03424/laws.FnHeader", spec := "fnHeader", unfollowed := true, recurses := true, named := ["internal/strconv.uint64pow10", "math/bits.deBruijn32tab", "math/bits.deBruijn64tab", "loop.example/pub-g03424/pub/pngparts.ieeeTable", "bytes.ErrTooLarge"], apart := false, laid := [("math/bits.deBruijn32tab", laid_math_bits_deBruijn32tab), ("math/bits.deBruijn64tab", laid_math_bits_deBruijn64tab), ("internal/strconv.uint64pow10", laid_internal_strconv_uint64pow10), ("bytes.ErrTooLarge", laid_bytes_ErrTooLarge), ("loop.example/pub-g03424/pub/pngparts.ieeeTable", laid_loop_example_pub_g03424_pub_pngparts_ieeeTable)], narrowed := true }
def FnHeaderUptoSaid : Prop := fnHeaderUptoRow.holds Tryd.pinned (OpenSpec.upto fnHeaderSpec)

/-- 'laws.FnHeaderBack', WHERE WHAT IT READS IS OF BULK AT MOST 1048576: true; the input reads as it did. -/
def fnHeaderBackUptoRow : OpenClaim := { program := "ytiiipmcjbibgoaadoor", sum := "68fb2462a781124d5b8abc678b24b8446e5256242f5642fb269b6e0dbde6c858", func := "loop.example/pub-g03424/laws.FnHeaderBack", spec := "fnHeaderBack", unfollowed := true, recurses := true, named := ["internal/strconv.uint64pow10", "math/bits.deBruijn32tab", "math/bits.deBruijn64tab", "loop.example/pub-g03424/pub/pngparts.ieeeTable", "bytes.ErrTooLarge", "io.ErrShortBuffer", "io.EOF", "io.ErrUnexpectedEOF"], apart := false, laid := [("math/bits.deBruijn32tab", laid_math_bits_deBruijn32tab), ("math/bits.deBruijn64tab", laid_math_bits_deBruijn64tab), ("internal/strconv.uint64pow10", laid_internal_strconv_uint64pow10), ("io.ErrShortBuffer", laid_io_ErrShortBuffer), ("io.EOF", laid_io_EOF), ("io.ErrUnexpectedEOF", laid_io_ErrUnexpectedEOF), ("bytes.ErrTooLarge", laid_bytes_ErrTooLarge), ("loop.example/pub-g03424/pub/pngparts.ieeeTable", laid_loop_example_pub_g03424_pub_pngparts_ieeeTable)], narrowed := true }
def FnHeaderBackUptoSaid : Prop := fnHeaderBackUptoRow.holds Tryd.pinned (OpenSpec.upto fnHeaderBackSpec)

end Rows
end Go.Proofs.YtiiipmcjbibgoaaDoor
