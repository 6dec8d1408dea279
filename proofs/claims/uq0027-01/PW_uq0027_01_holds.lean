import PyProof.Rows.All
import Wide.All
import OpenK.AllK
import Wide.FinOn
import Lean
import PySem.Challenge.RW_uq0027_01
set_option Elab.async false
set_option maxRecDepth 100000
set_option linter.all false
set_option compiler.extract_closed false
open PySem PySem.W PySem.Spec PySem.Calls PyProof.Rows
namespace Mine
section -- HeadD
noncomputable section
abbrev PW : Program := PySem.Challenge.pw_uq0027_01
abbrev kh := PyData.keyHash
def bodyT : List Stmt := behindTheImports PW
def stI (i : Nat) : Stmt := bodyT[i]?.getD (.Pass ⟨0, 0, 0, 0⟩)
def inI (s : Stmt) (j : Nat) : Stmt := match s with | .ClassDef _ _ _ b .. => b[j]?.getD (.Pass ⟨0, 0, 0, 0⟩) | _ => .Pass ⟨0, 0, 0, 0⟩
def fA (s : Stmt) : Arguments := match s with | .FunctionDef _ a .. => a | _ => default
def fB (s : Stmt) : FuncBody := match s with | .FunctionDef _ _ b .. => .stmts b | _ => default
def fS (s : Stmt) : Scope := match s with | .FunctionDef _ _ _ _ _ _ sc .. => sc | _ => default
abbrev dO (es : Array DictEntry) (n : Nat) : Obj := ⟨.type "dict", none, .dict es n, #[]⟩
noncomputable def entOf (t : Nat) (k : Int) (x : Str) : DictEntry := ⟨k, .int k t, .str x (t + 1)⟩
noncomputable def entsFrom : Nat → List (Int × Str) → List DictEntry
  | _, [] => []
  | t, (k, x) :: r => entOf t k x :: entsFrom (t + 3) r
noncomputable def entsShort : Nat → List (Int × Str) → List DictEntry
  | _, [] => []
  | t, (k, x) :: r => entOf t k x :: entsShort (t + 2) r
def envT : Env := { scope := PW.main.scope, locals := mainNs, globals := mainNs, cells := [], code := .ref 30, frame := some 31 }
noncomputable def s0 : Str := ⟨#[956]⟩
noncomputable def s1 : Str := ⟨#[115, 115]⟩
noncomputable def s2 : Str := ⟨#[105, 775]⟩
noncomputable def s3 : Str := ⟨#[700, 110]⟩
noncomputable def s4 : Str := ⟨#[115]⟩
noncomputable def s5 : Str := ⟨#[106, 780]⟩
noncomputable def s6 : Str := ⟨#[953]⟩
noncomputable def s7 : Str := ⟨#[32, 953]⟩
noncomputable def s8 : Str := ⟨#[953, 776, 769]⟩
noncomputable def s9 : Str := ⟨#[965, 776, 769]⟩
noncomputable def s10 : Str := ⟨#[963]⟩
noncomputable def s11 : Str := ⟨#[946]⟩
noncomputable def s12 : Str := ⟨#[952]⟩
noncomputable def s13 : Str := ⟨#[965]⟩
noncomputable def s14 : Str := ⟨#[973]⟩
noncomputable def s15 : Str := ⟨#[971]⟩
noncomputable def s16 : Str := ⟨#[966]⟩
noncomputable def s17 : Str := ⟨#[960]⟩
noncomputable def s18 : Str := ⟨#[954]⟩
noncomputable def s19 : Str := ⟨#[961]⟩
noncomputable def s20 : Str := ⟨#[949]⟩
noncomputable def s21 : Str := ⟨#[1381, 1410]⟩
noncomputable def s22 : Str := ⟨#[104, 817]⟩
noncomputable def s23 : Str := ⟨#[116, 776]⟩
noncomputable def s24 : Str := ⟨#[119, 778]⟩
noncomputable def s25 : Str := ⟨#[121, 778]⟩
noncomputable def s26 : Str := ⟨#[97, 702]⟩
noncomputable def s27 : Str := ⟨#[7777]⟩
noncomputable def s28 : Str := ⟨#[965, 787]⟩
noncomputable def s29 : Str := ⟨#[965, 787, 768]⟩
noncomputable def s30 : Str := ⟨#[965, 787, 769]⟩
noncomputable def s31 : Str := ⟨#[965, 787, 834]⟩
noncomputable def s32 : Str := ⟨#[7936, 953]⟩
noncomputable def s33 : Str := ⟨#[7937, 953]⟩
noncomputable def s34 : Str := ⟨#[7938, 953]⟩
noncomputable def s35 : Str := ⟨#[7939, 953]⟩
noncomputable def s36 : Str := ⟨#[7940, 953]⟩
noncomputable def s37 : Str := ⟨#[7941, 953]⟩
noncomputable def s38 : Str := ⟨#[7942, 953]⟩
noncomputable def s39 : Str := ⟨#[7943, 953]⟩
noncomputable def s40 : Str := ⟨#[7968, 953]⟩
noncomputable def s41 : Str := ⟨#[7969, 953]⟩
noncomputable def s42 : Str := ⟨#[7970, 953]⟩
noncomputable def s43 : Str := ⟨#[7971, 953]⟩
noncomputable def s44 : Str := ⟨#[7972, 953]⟩
noncomputable def s45 : Str := ⟨#[7973, 953]⟩
noncomputable def s46 : Str := ⟨#[7974, 953]⟩
noncomputable def s47 : Str := ⟨#[7975, 953]⟩
noncomputable def s48 : Str := ⟨#[8032, 953]⟩
noncomputable def s49 : Str := ⟨#[8033, 953]⟩
noncomputable def s50 : Str := ⟨#[8034, 953]⟩
noncomputable def s51 : Str := ⟨#[8035, 953]⟩
noncomputable def s52 : Str := ⟨#[8036, 953]⟩
noncomputable def s53 : Str := ⟨#[8037, 953]⟩
noncomputable def s54 : Str := ⟨#[8038, 953]⟩
noncomputable def s55 : Str := ⟨#[8039, 953]⟩
noncomputable def s56 : Str := ⟨#[8048, 953]⟩
noncomputable def s57 : Str := ⟨#[945, 953]⟩
noncomputable def s58 : Str := ⟨#[940, 953]⟩
noncomputable def s59 : Str := ⟨#[945, 834]⟩
noncomputable def s60 : Str := ⟨#[945, 834, 953]⟩
noncomputable def s61 : Str := ⟨#[8052, 953]⟩
noncomputable def s62 : Str := ⟨#[951, 953]⟩
noncomputable def s63 : Str := ⟨#[942, 953]⟩
noncomputable def s64 : Str := ⟨#[951, 834]⟩
noncomputable def s65 : Str := ⟨#[951, 834, 953]⟩
noncomputable def s66 : Str := ⟨#[953, 776, 768]⟩
noncomputable def s67 : Str := ⟨#[953, 834]⟩
noncomputable def s68 : Str := ⟨#[953, 776, 834]⟩
noncomputable def s69 : Str := ⟨#[965, 776, 768]⟩
noncomputable def s70 : Str := ⟨#[961, 787]⟩
noncomputable def s71 : Str := ⟨#[965, 834]⟩
noncomputable def s72 : Str := ⟨#[965, 776, 834]⟩
noncomputable def s73 : Str := ⟨#[8060, 953]⟩
noncomputable def s74 : Str := ⟨#[969, 953]⟩
noncomputable def s75 : Str := ⟨#[974, 953]⟩
noncomputable def s76 : Str := ⟨#[969, 834]⟩
noncomputable def s77 : Str := ⟨#[969, 834, 953]⟩
noncomputable def s78 : Str := ⟨#[114, 115]⟩
noncomputable def s79 : Str := ⟨#[99]⟩
noncomputable def s80 : Str := ⟨#[176, 99]⟩
noncomputable def s81 : Str := ⟨#[603]⟩
noncomputable def s82 : Str := ⟨#[176, 102]⟩
noncomputable def s83 : Str := ⟨#[104]⟩
noncomputable def s84 : Str := ⟨#[105]⟩
noncomputable def s85 : Str := ⟨#[108]⟩
noncomputable def s86 : Str := ⟨#[110]⟩
noncomputable def s87 : Str := ⟨#[110, 111]⟩
noncomputable def s88 : Str := ⟨#[112]⟩
noncomputable def s89 : Str := ⟨#[113]⟩
noncomputable def s90 : Str := ⟨#[114]⟩
noncomputable def s91 : Str := ⟨#[115, 109]⟩
noncomputable def s92 : Str := ⟨#[116, 101, 108]⟩
noncomputable def s93 : Str := ⟨#[116, 109]⟩
noncomputable def s94 : Str := ⟨#[122]⟩
noncomputable def s95 : Str := ⟨#[98]⟩
noncomputable def s96 : Str := ⟨#[101]⟩
noncomputable def s97 : Str := ⟨#[102]⟩
noncomputable def s98 : Str := ⟨#[109]⟩
noncomputable def s99 : Str := ⟨#[947]⟩
noncomputable def s100 : Str := ⟨#[100]⟩
noncomputable def s101 : Str := ⟨#[104, 112, 97]⟩
noncomputable def s102 : Str := ⟨#[97, 117]⟩
noncomputable def s103 : Str := ⟨#[111, 118]⟩
noncomputable def s104 : Str := ⟨#[112, 97]⟩
noncomputable def s105 : Str := ⟨#[110, 97]⟩
noncomputable def s106 : Str := ⟨#[956, 97]⟩
noncomputable def s107 : Str := ⟨#[109, 97]⟩
noncomputable def s108 : Str := ⟨#[107, 97]⟩
noncomputable def s109 : Str := ⟨#[107, 98]⟩
noncomputable def s110 : Str := ⟨#[109, 98]⟩
noncomputable def s111 : Str := ⟨#[103, 98]⟩
noncomputable def s112 : Str := ⟨#[112, 102]⟩
noncomputable def s113 : Str := ⟨#[110, 102]⟩
noncomputable def s114 : Str := ⟨#[956, 102]⟩
noncomputable def s115 : Str := ⟨#[104, 122]⟩
noncomputable def s116 : Str := ⟨#[107, 104, 122]⟩
noncomputable def s117 : Str := ⟨#[109, 104, 122]⟩
noncomputable def s118 : Str := ⟨#[103, 104, 122]⟩
noncomputable def s119 : Str := ⟨#[116, 104, 122]⟩
noncomputable def s120 : Str := ⟨#[107, 112, 97]⟩
noncomputable def s121 : Str := ⟨#[109, 112, 97]⟩
noncomputable def s122 : Str := ⟨#[103, 112, 97]⟩
noncomputable def s123 : Str := ⟨#[112, 118]⟩
noncomputable def s124 : Str := ⟨#[110, 118]⟩
noncomputable def s125 : Str := ⟨#[956, 118]⟩
noncomputable def s126 : Str := ⟨#[109, 118]⟩
noncomputable def s127 : Str := ⟨#[107, 118]⟩
noncomputable def s128 : Str := ⟨#[112, 119]⟩
noncomputable def s129 : Str := ⟨#[110, 119]⟩
noncomputable def s130 : Str := ⟨#[956, 119]⟩
noncomputable def s131 : Str := ⟨#[109, 119]⟩
noncomputable def s132 : Str := ⟨#[107, 119]⟩
noncomputable def s133 : Str := ⟨#[107, 969]⟩
noncomputable def s134 : Str := ⟨#[109, 969]⟩
noncomputable def s135 : Str := ⟨#[98, 113]⟩
noncomputable def s136 : Str := ⟨#[99, 8725, 107, 103]⟩
noncomputable def s137 : Str := ⟨#[99, 111, 46]⟩
noncomputable def s138 : Str := ⟨#[100, 98]⟩
noncomputable def s139 : Str := ⟨#[103, 121]⟩
noncomputable def s140 : Str := ⟨#[104, 112]⟩
noncomputable def s141 : Str := ⟨#[107, 107]⟩
noncomputable def s142 : Str := ⟨#[107, 109]⟩
noncomputable def s143 : Str := ⟨#[112, 104]⟩
noncomputable def s144 : Str := ⟨#[112, 112, 109]⟩
noncomputable def s145 : Str := ⟨#[112, 114]⟩
noncomputable def s146 : Str := ⟨#[115, 118]⟩
noncomputable def s147 : Str := ⟨#[119, 98]⟩
noncomputable def s148 : Str := ⟨#[102, 102]⟩
noncomputable def s149 : Str := ⟨#[102, 105]⟩
noncomputable def s150 : Str := ⟨#[102, 108]⟩
noncomputable def s151 : Str := ⟨#[102, 102, 105]⟩
noncomputable def s152 : Str := ⟨#[102, 102, 108]⟩
noncomputable def s153 : Str := ⟨#[115, 116]⟩
noncomputable def s154 : Str := ⟨#[1396, 1398]⟩
noncomputable def s155 : Str := ⟨#[1396, 1381]⟩
noncomputable def s156 : Str := ⟨#[1396, 1387]⟩
noncomputable def s157 : Str := ⟨#[1406, 1398]⟩
noncomputable def s158 : Str := ⟨#[1396, 1389]⟩
noncomputable def s159 : Str := ⟨#[97]⟩
noncomputable def s160 : Str := ⟨#[103]⟩
noncomputable def s161 : Str := ⟨#[106]⟩
noncomputable def s162 : Str := ⟨#[107]⟩
noncomputable def s163 : Str := ⟨#[111]⟩
noncomputable def s164 : Str := ⟨#[116]⟩
noncomputable def s165 : Str := ⟨#[117]⟩
noncomputable def s166 : Str := ⟨#[118]⟩
noncomputable def s167 : Str := ⟨#[119]⟩
noncomputable def s168 : Str := ⟨#[120]⟩
noncomputable def s169 : Str := ⟨#[121]⟩
noncomputable def s170 : Str := ⟨#[945]⟩
noncomputable def s171 : Str := ⟨#[948]⟩
noncomputable def s172 : Str := ⟨#[950]⟩
noncomputable def s173 : Str := ⟨#[951]⟩
noncomputable def s174 : Str := ⟨#[955]⟩
noncomputable def s175 : Str := ⟨#[957]⟩
noncomputable def s176 : Str := ⟨#[958]⟩
noncomputable def s177 : Str := ⟨#[959]⟩
noncomputable def s178 : Str := ⟨#[964]⟩
noncomputable def s179 : Str := ⟨#[967]⟩
noncomputable def s180 : Str := ⟨#[968]⟩
noncomputable def s181 : Str := ⟨#[969]⟩
noncomputable def b3L : List (Int × Str) := [(181, s0), (223, s1), (304, s2), (329, s3), (383, s4), (496, s5), (837, s6), (890, s7), (912, s8), (944, s9), (962, s10), (976, s11), (977, s12), (978, s13), (979, s14), (980, s15), (981, s16), (982, s17), (1008, s18), (1009, s19), (1010, s10), (1013, s20), (1415, s21), (7830, s22), (7831, s23), (7832, s24), (7833, s25), (7834, s26), (7835, s27), (8016, s28), (8018, s29), (8020, s30), (8022, s31), (8064, s32), (8065, s33), (8066, s34), (8067, s35), (8068, s36), (8069, s37), (8070, s38), (8071, s39), (8072, s32), (8073, s33), (8074, s34), (8075, s35), (8076, s36), (8077, s37), (8078, s38), (8079, s39), (8080, s40), (8081, s41), (8082, s42), (8083, s43), (8084, s44), (8085, s45), (8086, s46), (8087, s47), (8088, s40), (8089, s41), (8090, s42), (8091, s43), (8092, s44), (8093, s45), (8094, s46), (8095, s47), (8096, s48), (8097, s49), (8098, s50), (8099, s51), (8100, s52), (8101, s53), (8102, s54), (8103, s55), (8104, s48), (8105, s49), (8106, s50), (8107, s51), (8108, s52), (8109, s53), (8110, s54), (8111, s55), (8114, s56), (8115, s57), (8116, s58), (8118, s59), (8119, s60), (8124, s57), (8126, s6), (8130, s61), (8131, s62), (8132, s63), (8134, s64), (8135, s65), (8140, s62), (8146, s66), (8147, s8), (8150, s67), (8151, s68), (8162, s69), (8163, s9), (8164, s70), (8166, s71), (8167, s72), (8178, s73), (8179, s74), (8180, s75), (8182, s76), (8183, s77), (8188, s74), (8360, s78), (8450, s79), (8451, s80), (8455, s81), (8457, s82), (8459, s83), (8460, s83), (8461, s83), (8464, s84), (8465, s84), (8466, s85), (8469, s86), (8470, s87), (8473, s88), (8474, s89), (8475, s90), (8476, s90), (8477, s90), (8480, s91), (8481, s92), (8482, s93), (8484, s94), (8488, s94), (8492, s95), (8493, s79), (8496, s96), (8497, s97), (8499, s98), (8510, s99), (8511, s17), (8517, s100), (13169, s101), (13171, s102), (13173, s103), (13184, s104), (13185, s105), (13186, s106), (13187, s107), (13188, s108), (13189, s109), (13190, s110), (13191, s111), (13194, s112), (13195, s113), (13196, s114), (13200, s115), (13201, s116), (13202, s117), (13203, s118), (13204, s119), (13225, s104), (13226, s120), (13227, s121), (13228, s122), (13236, s123), (13237, s124), (13238, s125), (13239, s126), (13240, s127), (13241, s126), (13242, s128), (13243, s129), (13244, s130), (13245, s131), (13246, s132), (13247, s131), (13248, s133), (13249, s134), (13251, s135), (13254, s136), (13255, s137), (13256, s138), (13257, s139), (13259, s140), (13261, s141), (13262, s142), (13271, s143), (13273, s144), (13274, s145), (13276, s146), (13277, s147), (64256, s148), (64257, s149), (64258, s150), (64259, s151), (64260, s152), (64261, s153), (64262, s153), (64275, s154), (64276, s155), (64277, s156), (64278, s157), (64279, s158), (119808, s159), (119809, s95), (119810, s79), (119811, s100), (119812, s96), (119813, s97), (119814, s160), (119815, s83), (119816, s84), (119817, s161), (119818, s162), (119819, s85), (119820, s98), (119821, s86), (119822, s163), (119823, s88), (119824, s89), (119825, s90), (119826, s4), (119827, s164), (119828, s165), (119829, s166), (119830, s167), (119831, s168), (119832, s169), (119833, s94), (119860, s159), (119861, s95), (119862, s79), (119863, s100), (119864, s96), (119865, s97), (119866, s160), (119867, s83), (119868, s84), (119869, s161), (119870, s162), (119871, s85), (119872, s98), (119873, s86), (119874, s163), (119875, s88), (119876, s89), (119877, s90), (119878, s4), (119879, s164), (119880, s165), (119881, s166), (119882, s167), (119883, s168), (119884, s169), (119885, s94), (119912, s159), (119913, s95), (119914, s79), (119915, s100), (119916, s96), (119917, s97), (119918, s160), (119919, s83), (119920, s84), (119921, s161), (119922, s162), (119923, s85), (119924, s98), (119925, s86), (119926, s163), (119927, s88), (119928, s89), (119929, s90), (119930, s4), (119931, s164), (119932, s165), (119933, s166), (119934, s167), (119935, s168), (119936, s169), (119937, s94), (119964, s159), (119966, s79), (119967, s100), (119970, s160), (119973, s161), (119974, s162), (119977, s86), (119978, s163), (119979, s88), (119980, s89), (119982, s4), (119983, s164), (119984, s165), (119985, s166), (119986, s167), (119987, s168), (119988, s169), (119989, s94), (120016, s159), (120017, s95), (120018, s79), (120019, s100), (120020, s96), (120021, s97), (120022, s160), (120023, s83), (120024, s84), (120025, s161), (120026, s162), (120027, s85), (120028, s98), (120029, s86), (120030, s163), (120031, s88), (120032, s89), (120033, s90), (120034, s4), (120035, s164), (120036, s165), (120037, s166), (120038, s167), (120039, s168), (120040, s169), (120041, s94), (120068, s159), (120069, s95), (120071, s100), (120072, s96), (120073, s97), (120074, s160), (120077, s161), (120078, s162), (120079, s85), (120080, s98), (120081, s86), (120082, s163), (120083, s88), (120084, s89), (120086, s4), (120087, s164), (120088, s165), (120089, s166), (120090, s167), (120091, s168), (120092, s169), (120120, s159), (120121, s95), (120123, s100), (120124, s96), (120125, s97), (120126, s160), (120128, s84), (120129, s161), (120130, s162), (120131, s85), (120132, s98), (120134, s163), (120138, s4), (120139, s164), (120140, s165), (120141, s166), (120142, s167), (120143, s168), (120144, s169), (120172, s159), (120173, s95), (120174, s79), (120175, s100), (120176, s96), (120177, s97), (120178, s160), (120179, s83), (120180, s84), (120181, s161), (120182, s162), (120183, s85), (120184, s98), (120185, s86), (120186, s163), (120187, s88), (120188, s89), (120189, s90), (120190, s4), (120191, s164), (120192, s165), (120193, s166), (120194, s167), (120195, s168), (120196, s169), (120197, s94), (120224, s159), (120225, s95), (120226, s79), (120227, s100), (120228, s96), (120229, s97), (120230, s160), (120231, s83), (120232, s84), (120233, s161), (120234, s162), (120235, s85), (120236, s98), (120237, s86), (120238, s163), (120239, s88), (120240, s89), (120241, s90), (120242, s4), (120243, s164), (120244, s165), (120245, s166), (120246, s167), (120247, s168), (120248, s169), (120249, s94), (120276, s159), (120277, s95), (120278, s79), (120279, s100), (120280, s96), (120281, s97), (120282, s160), (120283, s83), (120284, s84), (120285, s161), (120286, s162), (120287, s85), (120288, s98), (120289, s86), (120290, s163), (120291, s88), (120292, s89), (120293, s90), (120294, s4), (120295, s164), (120296, s165), (120297, s166), (120298, s167), (120299, s168), (120300, s169), (120301, s94), (120328, s159), (120329, s95), (120330, s79), (120331, s100), (120332, s96), (120333, s97), (120334, s160), (120335, s83), (120336, s84), (120337, s161), (120338, s162), (120339, s85), (120340, s98), (120341, s86), (120342, s163), (120343, s88), (120344, s89), (120345, s90), (120346, s4), (120347, s164), (120348, s165), (120349, s166), (120350, s167), (120351, s168), (120352, s169), (120353, s94), (120380, s159), (120381, s95), (120382, s79), (120383, s100), (120384, s96), (120385, s97), (120386, s160), (120387, s83), (120388, s84), (120389, s161), (120390, s162), (120391, s85), (120392, s98), (120393, s86), (120394, s163), (120395, s88), (120396, s89), (120397, s90), (120398, s4), (120399, s164), (120400, s165), (120401, s166), (120402, s167), (120403, s168), (120404, s169), (120405, s94), (120432, s159), (120433, s95), (120434, s79), (120435, s100), (120436, s96), (120437, s97), (120438, s160), (120439, s83), (120440, s84), (120441, s161), (120442, s162), (120443, s85), (120444, s98), (120445, s86), (120446, s163), (120447, s88), (120448, s89), (120449, s90), (120450, s4), (120451, s164), (120452, s165), (120453, s166), (120454, s167), (120455, s168), (120456, s169), (120457, s94), (120488, s170), (120489, s11), (120490, s99), (120491, s171), (120492, s20), (120493, s172), (120494, s173), (120495, s12), (120496, s6), (120497, s18), (120498, s174), (120499, s0), (120500, s175), (120501, s176), (120502, s177), (120503, s17), (120504, s19), (120505, s12), (120506, s10), (120507, s178), (120508, s13), (120509, s16), (120510, s179), (120511, s180), (120512, s181), (120531, s10), (120546, s170), (120547, s11), (120548, s99), (120549, s171), (120550, s20), (120551, s172), (120552, s173), (120553, s12), (120554, s6), (120555, s18), (120556, s174), (120557, s0), (120558, s175), (120559, s176), (120560, s177), (120561, s17), (120562, s19), (120563, s12), (120564, s10), (120565, s178), (120566, s13), (120567, s16), (120568, s179), (120569, s180), (120570, s181), (120589, s10), (120604, s170), (120605, s11), (120606, s99), (120607, s171), (120608, s20), (120609, s172), (120610, s173), (120611, s12), (120612, s6), (120613, s18), (120614, s174), (120615, s0), (120616, s175), (120617, s176), (120618, s177), (120619, s17), (120620, s19), (120621, s12), (120622, s10), (120623, s178), (120624, s13), (120625, s16), (120626, s179), (120627, s180), (120628, s181), (120647, s10), (120662, s170), (120663, s11), (120664, s99), (120665, s171), (120666, s20), (120667, s172), (120668, s173), (120669, s12), (120670, s6), (120671, s18), (120672, s174), (120673, s0), (120674, s175), (120675, s176), (120676, s177), (120677, s17), (120678, s19), (120679, s12), (120680, s10), (120681, s178), (120682, s13), (120683, s16), (120684, s179), (120685, s180), (120686, s181), (120705, s10), (120720, s170), (120721, s11), (120722, s99), (120723, s171), (120724, s20), (120725, s172), (120726, s173), (120727, s12), (120728, s6), (120729, s18), (120730, s174), (120731, s0), (120732, s175), (120733, s176), (120734, s177), (120735, s17), (120736, s19), (120737, s12), (120738, s10), (120739, s178), (120740, s13), (120741, s16), (120742, s179), (120743, s180), (120744, s181), (120763, s10)]
noncomputable def b3B (j : Nat) : List (Int × Str) := (b3L.drop (17 * j)).take 17
noncomputable def b3E : List DictEntry := entsFrom 448 (b3L.take 646) ++ entsShort 2386 (b3L.drop 646)
noncomputable def s182 : Str := ⟨#[95, 95, 110, 97, 109, 101, 95, 95]⟩
noncomputable def s183 : Str := ⟨#[98, 117, 105, 108, 116, 105, 110, 115]⟩
noncomputable def s184 : Str := ⟨#[95, 95, 100, 111, 99, 95, 95]⟩
noncomputable def s185 : Str := ⟨#[95, 95, 112, 97, 99, 107, 97, 103, 101, 95, 95]⟩
noncomputable def s186 : Str := ⟨#[95, 95, 108, 111, 97, 100, 101, 114, 95, 95]⟩
noncomputable def s187 : Str := ⟨#[95, 95, 115, 112, 101, 99, 95, 95]⟩
noncomputable def s188 : Str := ⟨#[95, 95, 98, 117, 105, 108, 100, 95, 99, 108, 97, 115, 115, 95, 95]⟩
noncomputable def s189 : Str := ⟨#[95, 95, 105, 109, 112, 111, 114, 116, 95, 95]⟩
noncomputable def s190 : Str := ⟨#[97, 98, 115]⟩
noncomputable def s191 : Str := ⟨#[97, 108, 108]⟩
noncomputable def s192 : Str := ⟨#[97, 110, 121]⟩
noncomputable def s193 : Str := ⟨#[97, 115, 99, 105, 105]⟩
noncomputable def s194 : Str := ⟨#[98, 105, 110]⟩
noncomputable def s195 : Str := ⟨#[98, 114, 101, 97, 107, 112, 111, 105, 110, 116]⟩
noncomputable def s196 : Str := ⟨#[99, 97, 108, 108, 97, 98, 108, 101]⟩
noncomputable def s197 : Str := ⟨#[99, 104, 114]⟩
noncomputable def s198 : Str := ⟨#[99, 111, 109, 112, 105, 108, 101]⟩
noncomputable def s199 : Str := ⟨#[100, 101, 108, 97, 116, 116, 114]⟩
noncomputable def s200 : Str := ⟨#[100, 105, 114]⟩
noncomputable def s201 : Str := ⟨#[100, 105, 118, 109, 111, 100]⟩
noncomputable def s202 : Str := ⟨#[101, 118, 97, 108]⟩
noncomputable def s203 : Str := ⟨#[101, 120, 101, 99]⟩
noncomputable def s204 : Str := ⟨#[102, 111, 114, 109, 97, 116]⟩
noncomputable def s205 : Str := ⟨#[103, 101, 116, 97, 116, 116, 114]⟩
noncomputable def s206 : Str := ⟨#[103, 108, 111, 98, 97, 108, 115]⟩
noncomputable def s207 : Str := ⟨#[104, 97, 115, 97, 116, 116, 114]⟩
noncomputable def s208 : Str := ⟨#[104, 97, 115, 104]⟩
noncomputable def s209 : Str := ⟨#[104, 101, 120]⟩
noncomputable def s210 : Str := ⟨#[105, 100]⟩
noncomputable def s211 : Str := ⟨#[105, 110, 112, 117, 116]⟩
noncomputable def s212 : Str := ⟨#[105, 115, 105, 110, 115, 116, 97, 110, 99, 101]⟩
noncomputable def s213 : Str := ⟨#[105, 115, 115, 117, 98, 99, 108, 97, 115, 115]⟩
noncomputable def s214 : Str := ⟨#[105, 116, 101, 114]⟩
noncomputable def s215 : Str := ⟨#[97, 105, 116, 101, 114]⟩
noncomputable def s216 : Str := ⟨#[108, 101, 110]⟩
noncomputable def s217 : Str := ⟨#[108, 111, 99, 97, 108, 115]⟩
noncomputable def s218 : Str := ⟨#[109, 97, 120]⟩
noncomputable def s219 : Str := ⟨#[109, 105, 110]⟩
noncomputable def s220 : Str := ⟨#[110, 101, 120, 116]⟩
noncomputable def s221 : Str := ⟨#[97, 110, 101, 120, 116]⟩
noncomputable def s222 : Str := ⟨#[111, 99, 116]⟩
noncomputable def s223 : Str := ⟨#[111, 114, 100]⟩
noncomputable def s224 : Str := ⟨#[112, 111, 119]⟩
noncomputable def s225 : Str := ⟨#[112, 114, 105, 110, 116]⟩
noncomputable def s226 : Str := ⟨#[114, 101, 112, 114]⟩
noncomputable def s227 : Str := ⟨#[114, 111, 117, 110, 100]⟩
noncomputable def s228 : Str := ⟨#[115, 101, 116, 97, 116, 116, 114]⟩
noncomputable def s229 : Str := ⟨#[115, 111, 114, 116, 101, 100]⟩
noncomputable def s230 : Str := ⟨#[115, 117, 109]⟩
noncomputable def s231 : Str := ⟨#[118, 97, 114, 115]⟩
noncomputable def s232 : Str := ⟨#[78, 111, 110, 101]⟩
noncomputable def s233 : Str := ⟨#[69, 108, 108, 105, 112, 115, 105, 115]⟩
noncomputable def s234 : Str := ⟨#[78, 111, 116, 73, 109, 112, 108, 101, 109, 101, 110, 116, 101, 100]⟩
noncomputable def s235 : Str := ⟨#[70, 97, 108, 115, 101]⟩
noncomputable def s236 : Str := ⟨#[84, 114, 117, 101]⟩
noncomputable def s237 : Str := ⟨#[98, 111, 111, 108]⟩
noncomputable def s238 : Str := ⟨#[109, 101, 109, 111, 114, 121, 118, 105, 101, 119]⟩
noncomputable def s239 : Str := ⟨#[98, 121, 116, 101, 97, 114, 114, 97, 121]⟩
noncomputable def s240 : Str := ⟨#[98, 121, 116, 101, 115]⟩
noncomputable def s241 : Str := ⟨#[99, 108, 97, 115, 115, 109, 101, 116, 104, 111, 100]⟩
noncomputable def s242 : Str := ⟨#[99, 111, 109, 112, 108, 101, 120]⟩
noncomputable def s243 : Str := ⟨#[100, 105, 99, 116]⟩
noncomputable def s244 : Str := ⟨#[101, 110, 117, 109, 101, 114, 97, 116, 101]⟩
noncomputable def s245 : Str := ⟨#[102, 105, 108, 116, 101, 114]⟩
noncomputable def s246 : Str := ⟨#[102, 108, 111, 97, 116]⟩
noncomputable def s247 : Str := ⟨#[102, 114, 111, 122, 101, 110, 115, 101, 116]⟩
noncomputable def s248 : Str := ⟨#[112, 114, 111, 112, 101, 114, 116, 121]⟩
noncomputable def s249 : Str := ⟨#[105, 110, 116]⟩
noncomputable def s250 : Str := ⟨#[108, 105, 115, 116]⟩
noncomputable def s251 : Str := ⟨#[109, 97, 112]⟩
noncomputable def s252 : Str := ⟨#[111, 98, 106, 101, 99, 116]⟩
noncomputable def s253 : Str := ⟨#[114, 97, 110, 103, 101]⟩
noncomputable def s254 : Str := ⟨#[114, 101, 118, 101, 114, 115, 101, 100]⟩
noncomputable def s255 : Str := ⟨#[115, 101, 116]⟩
noncomputable def s256 : Str := ⟨#[115, 108, 105, 99, 101]⟩
noncomputable def s257 : Str := ⟨#[115, 116, 97, 116, 105, 99, 109, 101, 116, 104, 111, 100]⟩
noncomputable def s258 : Str := ⟨#[115, 116, 114]⟩
noncomputable def s259 : Str := ⟨#[115, 117, 112, 101, 114]⟩
noncomputable def s260 : Str := ⟨#[116, 117, 112, 108, 101]⟩
noncomputable def s261 : Str := ⟨#[116, 121, 112, 101]⟩
noncomputable def s262 : Str := ⟨#[122, 105, 112]⟩
noncomputable def s263 : Str := ⟨#[95, 95, 100, 101, 98, 117, 103, 95, 95]⟩
noncomputable def s264 : Str := ⟨#[66, 97, 115, 101, 69, 120, 99, 101, 112, 116, 105, 111, 110]⟩
noncomputable def s265 : Str := ⟨#[66, 97, 115, 101, 69, 120, 99, 101, 112, 116, 105, 111, 110, 71, 114, 111, 117, 112]⟩
noncomputable def s266 : Str := ⟨#[69, 120, 99, 101, 112, 116, 105, 111, 110]⟩
noncomputable def s267 : Str := ⟨#[71, 101, 110, 101, 114, 97, 116, 111, 114, 69, 120, 105, 116]⟩
noncomputable def s268 : Str := ⟨#[75, 101, 121, 98, 111, 97, 114, 100, 73, 110, 116, 101, 114, 114, 117, 112, 116]⟩
noncomputable def s269 : Str := ⟨#[83, 121, 115, 116, 101, 109, 69, 120, 105, 116]⟩
noncomputable def s270 : Str := ⟨#[65, 114, 105, 116, 104, 109, 101, 116, 105, 99, 69, 114, 114, 111, 114]⟩
noncomputable def s271 : Str := ⟨#[65, 115, 115, 101, 114, 116, 105, 111, 110, 69, 114, 114, 111, 114]⟩
noncomputable def s272 : Str := ⟨#[65, 116, 116, 114, 105, 98, 117, 116, 101, 69, 114, 114, 111, 114]⟩
noncomputable def s273 : Str := ⟨#[66, 117, 102, 102, 101, 114, 69, 114, 114, 111, 114]⟩
noncomputable def s274 : Str := ⟨#[69, 79, 70, 69, 114, 114, 111, 114]⟩
noncomputable def s275 : Str := ⟨#[73, 109, 112, 111, 114, 116, 69, 114, 114, 111, 114]⟩
noncomputable def s276 : Str := ⟨#[76, 111, 111, 107, 117, 112, 69, 114, 114, 111, 114]⟩
noncomputable def s277 : Str := ⟨#[77, 101, 109, 111, 114, 121, 69, 114, 114, 111, 114]⟩
noncomputable def s278 : Str := ⟨#[78, 97, 109, 101, 69, 114, 114, 111, 114]⟩
noncomputable def s279 : Str := ⟨#[79, 83, 69, 114, 114, 111, 114]⟩
noncomputable def s280 : Str := ⟨#[82, 101, 102, 101, 114, 101, 110, 99, 101, 69, 114, 114, 111, 114]⟩
noncomputable def s281 : Str := ⟨#[82, 117, 110, 116, 105, 109, 101, 69, 114, 114, 111, 114]⟩
noncomputable def s282 : Str := ⟨#[83, 116, 111, 112, 65, 115, 121, 110, 99, 73, 116, 101, 114, 97, 116, 105, 111, 110]⟩
noncomputable def s283 : Str := ⟨#[83, 116, 111, 112, 73, 116, 101, 114, 97, 116, 105, 111, 110]⟩
noncomputable def s284 : Str := ⟨#[83, 121, 110, 116, 97, 120, 69, 114, 114, 111, 114]⟩
noncomputable def s285 : Str := ⟨#[83, 121, 115, 116, 101, 109, 69, 114, 114, 111, 114]⟩
noncomputable def s286 : Str := ⟨#[84, 121, 112, 101, 69, 114, 114, 111, 114]⟩
noncomputable def s287 : Str := ⟨#[86, 97, 108, 117, 101, 69, 114, 114, 111, 114]⟩
noncomputable def s288 : Str := ⟨#[87, 97, 114, 110, 105, 110, 103]⟩
noncomputable def s289 : Str := ⟨#[70, 108, 111, 97, 116, 105, 110, 103, 80, 111, 105, 110, 116, 69, 114, 114, 111, 114]⟩
noncomputable def s290 : Str := ⟨#[79, 118, 101, 114, 102, 108, 111, 119, 69, 114, 114, 111, 114]⟩
noncomputable def s291 : Str := ⟨#[90, 101, 114, 111, 68, 105, 118, 105, 115, 105, 111, 110, 69, 114, 114, 111, 114]⟩
noncomputable def s292 : Str := ⟨#[66, 121, 116, 101, 115, 87, 97, 114, 110, 105, 110, 103]⟩
noncomputable def s293 : Str := ⟨#[68, 101, 112, 114, 101, 99, 97, 116, 105, 111, 110, 87, 97, 114, 110, 105, 110, 103]⟩
noncomputable def s294 : Str := ⟨#[69, 110, 99, 111, 100, 105, 110, 103, 87, 97, 114, 110, 105, 110, 103]⟩
noncomputable def s295 : Str := ⟨#[70, 117, 116, 117, 114, 101, 87, 97, 114, 110, 105, 110, 103]⟩
noncomputable def s296 : Str := ⟨#[73, 109, 112, 111, 114, 116, 87, 97, 114, 110, 105, 110, 103]⟩
noncomputable def s297 : Str := ⟨#[80, 101, 110, 100, 105, 110, 103, 68, 101, 112, 114, 101, 99, 97, 116, 105, 111, 110, 87, 97, 114, 110, 105, 110, 103]⟩
noncomputable def s298 : Str := ⟨#[82, 101, 115, 111, 117, 114, 99, 101, 87, 97, 114, 110, 105, 110, 103]⟩
noncomputable def s299 : Str := ⟨#[82, 117, 110, 116, 105, 109, 101, 87, 97, 114, 110, 105, 110, 103]⟩
noncomputable def s300 : Str := ⟨#[83, 121, 110, 116, 97, 120, 87, 97, 114, 110, 105, 110, 103]⟩
noncomputable def s301 : Str := ⟨#[85, 110, 105, 99, 111, 100, 101, 87, 97, 114, 110, 105, 110, 103]⟩
noncomputable def s302 : Str := ⟨#[85, 115, 101, 114, 87, 97, 114, 110, 105, 110, 103]⟩
noncomputable def s303 : Str := ⟨#[66, 108, 111, 99, 107, 105, 110, 103, 73, 79, 69, 114, 114, 111, 114]⟩
noncomputable def s304 : Str := ⟨#[67, 104, 105, 108, 100, 80, 114, 111, 99, 101, 115, 115, 69, 114, 114, 111, 114]⟩
noncomputable def s305 : Str := ⟨#[67, 111, 110, 110, 101, 99, 116, 105, 111, 110, 69, 114, 114, 111, 114]⟩
noncomputable def s306 : Str := ⟨#[70, 105, 108, 101, 69, 120, 105, 115, 116, 115, 69, 114, 114, 111, 114]⟩
noncomputable def s307 : Str := ⟨#[70, 105, 108, 101, 78, 111, 116, 70, 111, 117, 110, 100, 69, 114, 114, 111, 114]⟩
noncomputable def s308 : Str := ⟨#[73, 110, 116, 101, 114, 114, 117, 112, 116, 101, 100, 69, 114, 114, 111, 114]⟩
noncomputable def s309 : Str := ⟨#[73, 115, 65, 68, 105, 114, 101, 99, 116, 111, 114, 121, 69, 114, 114, 111, 114]⟩
noncomputable def s310 : Str := ⟨#[78, 111, 116, 65, 68, 105, 114, 101, 99, 116, 111, 114, 121, 69, 114, 114, 111, 114]⟩
noncomputable def s311 : Str := ⟨#[80, 101, 114, 109, 105, 115, 115, 105, 111, 110, 69, 114, 114, 111, 114]⟩
noncomputable def s312 : Str := ⟨#[80, 114, 111, 99, 101, 115, 115, 76, 111, 111, 107, 117, 112, 69, 114, 114, 111, 114]⟩
noncomputable def s313 : Str := ⟨#[84, 105, 109, 101, 111, 117, 116, 69, 114, 114, 111, 114]⟩
noncomputable def s314 : Str := ⟨#[73, 110, 100, 101, 110, 116, 97, 116, 105, 111, 110, 69, 114, 114, 111, 114]⟩
noncomputable def s315 : Str := ⟨#[95, 73, 110, 99, 111, 109, 112, 108, 101, 116, 101, 73, 110, 112, 117, 116, 69, 114, 114, 111, 114]⟩
noncomputable def s316 : Str := ⟨#[73, 110, 100, 101, 120, 69, 114, 114, 111, 114]⟩
noncomputable def s317 : Str := ⟨#[75, 101, 121, 69, 114, 114, 111, 114]⟩
noncomputable def s318 : Str := ⟨#[77, 111, 100, 117, 108, 101, 78, 111, 116, 70, 111, 117, 110, 100, 69, 114, 114, 111, 114]⟩
noncomputable def s319 : Str := ⟨#[78, 111, 116, 73, 109, 112, 108, 101, 109, 101, 110, 116, 101, 100, 69, 114, 114, 111, 114]⟩
noncomputable def s320 : Str := ⟨#[80, 121, 116, 104, 111, 110, 70, 105, 110, 97, 108, 105, 122, 97, 116, 105, 111, 110, 69, 114, 114, 111, 114]⟩
noncomputable def s321 : Str := ⟨#[82, 101, 99, 117, 114, 115, 105, 111, 110, 69, 114, 114, 111, 114]⟩
noncomputable def s322 : Str := ⟨#[85, 110, 98, 111, 117, 110, 100, 76, 111, 99, 97, 108, 69, 114, 114, 111, 114]⟩
noncomputable def s323 : Str := ⟨#[85, 110, 105, 99, 111, 100, 101, 69, 114, 114, 111, 114]⟩
noncomputable def s324 : Str := ⟨#[66, 114, 111, 107, 101, 110, 80, 105, 112, 101, 69, 114, 114, 111, 114]⟩
noncomputable def s325 : Str := ⟨#[67, 111, 110, 110, 101, 99, 116, 105, 111, 110, 65, 98, 111, 114, 116, 101, 100, 69, 114, 114, 111, 114]⟩
noncomputable def s326 : Str := ⟨#[67, 111, 110, 110, 101, 99, 116, 105, 111, 110, 82, 101, 102, 117, 115, 101, 100, 69, 114, 114, 111, 114]⟩
noncomputable def s327 : Str := ⟨#[67, 111, 110, 110, 101, 99, 116, 105, 111, 110, 82, 101, 115, 101, 116, 69, 114, 114, 111, 114]⟩
noncomputable def s328 : Str := ⟨#[84, 97, 98, 69, 114, 114, 111, 114]⟩
noncomputable def s329 : Str := ⟨#[85, 110, 105, 99, 111, 100, 101, 68, 101, 99, 111, 100, 101, 69, 114, 114, 111, 114]⟩
noncomputable def s330 : Str := ⟨#[85, 110, 105, 99, 111, 100, 101, 69, 110, 99, 111, 100, 101, 69, 114, 114, 111, 114]⟩
noncomputable def s331 : Str := ⟨#[85, 110, 105, 99, 111, 100, 101, 84, 114, 97, 110, 115, 108, 97, 116, 101, 69, 114, 114, 111, 114]⟩
noncomputable def s332 : Str := ⟨#[69, 120, 99, 101, 112, 116, 105, 111, 110, 71, 114, 111, 117, 112]⟩
noncomputable def s333 : Str := ⟨#[69, 110, 118, 105, 114, 111, 110, 109, 101, 110, 116, 69, 114, 114, 111, 114]⟩
noncomputable def s334 : Str := ⟨#[73, 79, 69, 114, 114, 111, 114]⟩
noncomputable def s335 : Str := ⟨#[111, 112, 101, 110]⟩
noncomputable def s336 : Str := ⟨#[113, 117, 105, 116]⟩
noncomputable def s337 : Str := ⟨#[101, 120, 105, 116]⟩
noncomputable def s338 : Str := ⟨#[99, 111, 112, 121, 114, 105, 103, 104, 116]⟩
noncomputable def s339 : Str := ⟨#[99, 114, 101, 100, 105, 116, 115]⟩
noncomputable def s340 : Str := ⟨#[108, 105, 99, 101, 110, 115, 101]⟩
noncomputable def s341 : Str := ⟨#[104, 101, 108, 112]⟩
noncomputable def o0 (P : Params) : Obj := ⟨(.type "dict"), none, (.dict #[⟨(kh P s182), (.str s182 1), (.str s183 160)⟩, ⟨(kh P s184), (.str s184 2), (.builtin "builtins.__doc__:str#opaque")⟩, ⟨(kh P s185), (.str s185 3), (.builtin "builtins.__package__:str#opaque")⟩, ⟨(kh P s186), (.str s186 4), (.builtin "builtins.__loader__:shared#opaque")⟩, ⟨(kh P s187), (.str s187 5), (.builtin "builtins.__spec__#opaque")⟩, ⟨(kh P s188), (.str s188 6), (.builtin "__build_class__")⟩, ⟨(kh P s189), (.str s189 7), (.builtin "__import__")⟩, ⟨(kh P s190), (.str s190 8), (.builtin "abs")⟩, ⟨(kh P s191), (.str s191 9), (.builtin "all")⟩, ⟨(kh P s192), (.str s192 10), (.builtin "any")⟩, ⟨(kh P s193), (.str s193 11), (.builtin "ascii")⟩, ⟨(kh P s194), (.str s194 12), (.builtin "bin")⟩, ⟨(kh P s195), (.str s195 13), (.builtin "breakpoint")⟩, ⟨(kh P s196), (.str s196 14), (.builtin "callable")⟩, ⟨(kh P s197), (.str s197 15), (.builtin "chr")⟩, ⟨(kh P s198), (.str s198 16), (.builtin "compile")⟩, ⟨(kh P s199), (.str s199 17), (.builtin "delattr")⟩, ⟨(kh P s200), (.str s200 18), (.builtin "dir")⟩, ⟨(kh P s201), (.str s201 19), (.builtin "divmod")⟩, ⟨(kh P s202), (.str s202 20), (.builtin "eval")⟩, ⟨(kh P s203), (.str s203 21), (.builtin "exec")⟩, ⟨(kh P s204), (.str s204 22), (.builtin "format")⟩, ⟨(kh P s205), (.str s205 23), (.builtin "getattr")⟩, ⟨(kh P s206), (.str s206 24), (.builtin "globals")⟩, ⟨(kh P s207), (.str s207 25), (.builtin "hasattr")⟩, ⟨(kh P s208), (.str s208 26), (.builtin "hash")⟩, ⟨(kh P s209), (.str s209 27), (.builtin "hex")⟩, ⟨(kh P s210), (.str s210 28), (.builtin "id")⟩, ⟨(kh P s211), (.str s211 29), (.builtin "input")⟩, ⟨(kh P s212), (.str s212 30), (.builtin "isinstance")⟩, ⟨(kh P s213), (.str s213 31), (.builtin "issubclass")⟩, ⟨(kh P s214), (.str s214 32), (.builtin "iter")⟩, ⟨(kh P s215), (.str s215 33), (.builtin "aiter")⟩, ⟨(kh P s216), (.str s216 34), (.builtin "len")⟩, ⟨(kh P s217), (.str s217 35), (.builtin "locals")⟩, ⟨(kh P s218), (.str s218 36), (.builtin "max")⟩, ⟨(kh P s219), (.str s219 37), (.builtin "min")⟩, ⟨(kh P s220), (.str s220 38), (.builtin "next")⟩, ⟨(kh P s221), (.str s221 39), (.builtin "anext")⟩, ⟨(kh P s222), (.str s222 40), (.builtin "oct")⟩, ⟨(kh P s223), (.str s223 41), (.builtin "ord")⟩, ⟨(kh P s224), (.str s224 42), (.builtin "pow")⟩, ⟨(kh P s225), (.str s225 43), (.builtin "print")⟩, ⟨(kh P s226), (.str s226 44), (.builtin "repr")⟩, ⟨(kh P s227), (.str s227 45), (.builtin "round")⟩, ⟨(kh P s228), (.str s228 46), (.builtin "setattr")⟩, ⟨(kh P s229), (.str s229 47), (.builtin "sorted")⟩, ⟨(kh P s230), (.str s230 48), (.builtin "sum")⟩, ⟨(kh P s231), (.str s231 49), (.builtin "vars")⟩, ⟨(kh P s232), (.str s232 50), .none⟩, ⟨(kh P s233), (.str s233 51), .ellipsis⟩, ⟨(kh P s234), (.str s234 52), .notImplemented⟩, ⟨(kh P s235), (.str s235 53), (.bool false)⟩, ⟨(kh P s236), (.str s236 54), (.bool true)⟩, ⟨(kh P s237), (.str s237 55), (.type "bool")⟩, ⟨(kh P s238), (.str s238 56), (.type "memoryview")⟩, ⟨(kh P s239), (.str s239 57), (.type "bytearray")⟩, ⟨(kh P s240), (.str s240 58), (.type "bytes")⟩, ⟨(kh P s241), (.str s241 59), (.type "classmethod")⟩, ⟨(kh P s242), (.str s242 60), (.type "complex")⟩, ⟨(kh P s243), (.str s243 61), (.type "dict")⟩, ⟨(kh P s244), (.str s244 62), (.type "enumerate")⟩, ⟨(kh P s245), (.str s245 63), (.type "filter")⟩, ⟨(kh P s246), (.str s246 64), (.type "float")⟩, ⟨(kh P s247), (.str s247 65), (.type "frozenset")⟩, ⟨(kh P s248), (.str s248 66), (.type "property")⟩, ⟨(kh P s249), (.str s249 67), (.type "int")⟩, ⟨(kh P s250), (.str s250 68), (.type "list")⟩, ⟨(kh P s251), (.str s251 69), (.type "map")⟩, ⟨(kh P s252), (.str s252 70), (.type "object")⟩, ⟨(kh P s253), (.str s253 71), (.type "range")⟩, ⟨(kh P s254), (.str s254 72), (.type "reversed")⟩, ⟨(kh P s255), (.str s255 73), (.type "set")⟩, ⟨(kh P s256), (.str s256 74), (.type "slice")⟩, ⟨(kh P s257), (.str s257 75), (.type "staticmethod")⟩, ⟨(kh P s258), (.str s258 76), (.type "str")⟩, ⟨(kh P s259), (.str s259 77), (.type "super")⟩, ⟨(kh P s260), (.str s260 78), (.type "tuple")⟩, ⟨(kh P s261), (.str s261 79), (.type "type")⟩, ⟨(kh P s262), (.str s262 80), (.type "zip")⟩, ⟨(kh P s263), (.str s263 81), (.bool true)⟩, ⟨(kh P s264), (.str s264 82), (.type "BaseException")⟩, ⟨(kh P s265), (.str s265 83), (.type "BaseExceptionGroup")⟩, ⟨(kh P s266), (.str s266 84), (.type "Exception")⟩, ⟨(kh P s267), (.str s267 85), (.type "GeneratorExit")⟩, ⟨(kh P s268), (.str s268 86), (.type "KeyboardInterrupt")⟩, ⟨(kh P s269), (.str s269 87), (.type "SystemExit")⟩, ⟨(kh P s270), (.str s270 88), (.type "ArithmeticError")⟩, ⟨(kh P s271), (.str s271 89), (.type "AssertionError")⟩, ⟨(kh P s272), (.str s272 90), (.type "AttributeError")⟩, ⟨(kh P s273), (.str s273 91), (.type "BufferError")⟩, ⟨(kh P s274), (.str s274 92), (.type "EOFError")⟩, ⟨(kh P s275), (.str s275 93), (.type "ImportError")⟩, ⟨(kh P s276), (.str s276 94), (.type "LookupError")⟩, ⟨(kh P s277), (.str s277 95), (.type "MemoryError")⟩, ⟨(kh P s278), (.str s278 96), (.type "NameError")⟩, ⟨(kh P s279), (.str s279 97), (.type "OSError")⟩, ⟨(kh P s280), (.str s280 98), (.type "ReferenceError")⟩, ⟨(kh P s281), (.str s281 99), (.type "RuntimeError")⟩, ⟨(kh P s282), (.str s282 100), (.type "StopAsyncIteration")⟩, ⟨(kh P s283), (.str s283 101), (.type "StopIteration")⟩, ⟨(kh P s284), (.str s284 102), (.type "SyntaxError")⟩, ⟨(kh P s285), (.str s285 103), (.type "SystemError")⟩, ⟨(kh P s286), (.str s286 104), (.type "TypeError")⟩, ⟨(kh P s287), (.str s287 105), (.type "ValueError")⟩, ⟨(kh P s288), (.str s288 106), (.type "Warning")⟩, ⟨(kh P s289), (.str s289 107), (.type "FloatingPointError")⟩, ⟨(kh P s290), (.str s290 108), (.type "OverflowError")⟩, ⟨(kh P s291), (.str s291 109), (.type "ZeroDivisionError")⟩, ⟨(kh P s292), (.str s292 110), (.type "BytesWarning")⟩, ⟨(kh P s293), (.str s293 111), (.type "DeprecationWarning")⟩, ⟨(kh P s294), (.str s294 112), (.type "EncodingWarning")⟩, ⟨(kh P s295), (.str s295 113), (.type "FutureWarning")⟩, ⟨(kh P s296), (.str s296 114), (.type "ImportWarning")⟩, ⟨(kh P s297), (.str s297 115), (.type "PendingDeprecationWarning")⟩, ⟨(kh P s298), (.str s298 116), (.type "ResourceWarning")⟩, ⟨(kh P s299), (.str s299 117), (.type "RuntimeWarning")⟩, ⟨(kh P s300), (.str s300 118), (.type "SyntaxWarning")⟩, ⟨(kh P s301), (.str s301 119), (.type "UnicodeWarning")⟩, ⟨(kh P s302), (.str s302 120), (.type "UserWarning")⟩, ⟨(kh P s303), (.str s303 121), (.type "BlockingIOError")⟩, ⟨(kh P s304), (.str s304 122), (.type "ChildProcessError")⟩, ⟨(kh P s305), (.str s305 123), (.type "ConnectionError")⟩, ⟨(kh P s306), (.str s306 124), (.type "FileExistsError")⟩, ⟨(kh P s307), (.str s307 125), (.type "FileNotFoundError")⟩, ⟨(kh P s308), (.str s308 126), (.type "InterruptedError")⟩, ⟨(kh P s309), (.str s309 127), (.type "IsADirectoryError")⟩, ⟨(kh P s310), (.str s310 128), (.type "NotADirectoryError")⟩, ⟨(kh P s311), (.str s311 129), (.type "PermissionError")⟩, ⟨(kh P s312), (.str s312 130), (.type "ProcessLookupError")⟩, ⟨(kh P s313), (.str s313 131), (.type "TimeoutError")⟩, ⟨(kh P s314), (.str s314 132), (.type "IndentationError")⟩, ⟨(kh P s315), (.str s315 133), (.type "_IncompleteInputError")⟩, ⟨(kh P s316), (.str s316 134), (.type "IndexError")⟩, ⟨(kh P s317), (.str s317 135), (.type "KeyError")⟩, ⟨(kh P s318), (.str s318 136), (.type "ModuleNotFoundError")⟩, ⟨(kh P s319), (.str s319 137), (.type "NotImplementedError")⟩, ⟨(kh P s320), (.str s320 138), (.type "PythonFinalizationError")⟩, ⟨(kh P s321), (.str s321 139), (.type "RecursionError")⟩, ⟨(kh P s322), (.str s322 140), (.type "UnboundLocalError")⟩, ⟨(kh P s323), (.str s323 141), (.type "UnicodeError")⟩, ⟨(kh P s324), (.str s324 142), (.type "BrokenPipeError")⟩, ⟨(kh P s325), (.str s325 143), (.type "ConnectionAbortedError")⟩, ⟨(kh P s326), (.str s326 144), (.type "ConnectionRefusedError")⟩, ⟨(kh P s327), (.str s327 145), (.type "ConnectionResetError")⟩, ⟨(kh P s328), (.str s328 146), (.type "TabError")⟩, ⟨(kh P s329), (.str s329 147), (.type "UnicodeDecodeError")⟩, ⟨(kh P s330), (.str s330 148), (.type "UnicodeEncodeError")⟩, ⟨(kh P s331), (.str s331 149), (.type "UnicodeTranslateError")⟩, ⟨(kh P s332), (.str s332 150), (.type "ExceptionGroup")⟩, ⟨(kh P s333), (.str s333 151), (.type "OSError")⟩, ⟨(kh P s334), (.str s334 152), (.type "OSError")⟩, ⟨(kh P s335), (.str s335 153), (.builtin "open")⟩, ⟨(kh P s336), (.str s336 154), (.builtin "builtins.quit#opaque")⟩, ⟨(kh P s337), (.str s337 155), (.builtin "builtins.exit#opaque")⟩, ⟨(kh P s338), (.str s338 156), (.builtin "builtins.copyright#opaque")⟩, ⟨(kh P s339), (.str s339 157), (.builtin "builtins.credits#opaque")⟩, ⟨(kh P s340), (.str s340 158), (.builtin "builtins.license#opaque")⟩, ⟨(kh P s341), (.str s341 159), (.builtin "builtins.help#opaque")⟩] 159), #[]⟩
noncomputable def s342 : Str := ⟨#[95, 95, 109, 97, 105, 110, 95, 95]⟩
noncomputable def s343 : Str := ⟨#[95, 115, 114, 101]⟩
noncomputable def o1 (P : Params) : Obj := ⟨(.type "dict"), none, (.dict #[⟨(kh P s183), (.str s183 162), (.ref 4)⟩, ⟨(kh P s342), (.str s342 163), (.ref 5)⟩, ⟨(kh P s343), (.str s343 244), (.ref 12)⟩] 3), #[]⟩
noncomputable def s344 : Str := ⟨#[105, 109, 112, 111, 114, 116, 46, 108, 111, 97, 100, 101, 100, 46, 95, 115, 114, 101]⟩
noncomputable def s345 : Str := ⟨#[99, 108, 97, 115, 115, 46, 95, 102, 114, 111, 122, 101, 110, 95, 105, 109, 112, 111, 114, 116, 108, 105, 98, 46, 66, 117, 105, 108, 116, 105, 110, 73, 109, 112, 111, 114, 116, 101, 114]⟩
noncomputable def s346 : Str := ⟨#[119, 97, 116, 99, 104, 101, 100, 46, 105, 109, 112, 111, 114, 116]⟩
noncomputable def s347 : Str := ⟨#[99, 108, 97, 115, 115, 46, 95, 102, 114, 111, 122, 101, 110, 95, 105, 109, 112, 111, 114, 116, 108, 105, 98, 46, 77, 111, 100, 117, 108, 101, 83, 112, 101, 99]⟩
noncomputable def s348 : Str := ⟨#[115, 121, 115, 46, 109, 111, 100, 117, 108, 101, 115, 46, 98, 111, 111, 107, 101, 100, 45, 101, 112, 111, 99, 104]⟩
noncomputable def s349 : Str := ⟨#[105, 109, 112, 111, 114, 116, 46, 108, 97, 116, 101, 114, 45, 108, 97, 105, 100, 46, 95, 115, 114, 101]⟩
noncomputable def s350 : Str := ⟨#[119, 97, 116, 99, 104, 101, 100, 46, 108, 105, 98, 114, 97, 114, 121]⟩
noncomputable def s351 : Str := ⟨#[119, 97, 116, 99, 104, 101, 100, 46, 108, 105, 98, 114, 97, 114, 121, 45, 111, 98, 106, 101, 99, 116, 115]⟩
noncomputable def s352 : Str := ⟨#[12]⟩
noncomputable def s353 : Str := ⟨#[119, 97, 116, 99, 104, 101, 100, 46, 108, 105, 98, 114, 97, 114, 121, 45, 100, 101, 101, 112, 46, 95, 115, 114, 101]⟩
noncomputable def s354 : Str := ⟨#[4, 0, 0, 11, 4, 0, 0, 11, 4, 0, 0, 3, 4, 0, 0, 11, 8, 4, 100, 105, 99, 116, 2]⟩
noncomputable def o2 (P : Params) : Obj := ⟨.none, none, (.dict #[⟨(kh P s344), (.str s344 183), (.bool true)⟩, ⟨(kh P s345), (.str s345 185), (.ref 14)⟩, ⟨(kh P s346), (.str s346 206), (.ref 18)⟩, ⟨(kh P s347), (.str s347 216), (.ref 22)⟩, ⟨(kh P s348), (.str s348 245), (.int 3 0)⟩, ⟨(kh P s349), (.str s349 270), (.bool true)⟩, ⟨(kh P s350), (.str s350 272), (.ref 27)⟩, ⟨(kh P s351), (.str s351 0), (.str s352 0)⟩, ⟨(kh P s353), (.str s353 273), (.str s354 0)⟩] 9), #[]⟩
noncomputable def s355 : Str := ⟨#[95, 95, 97, 110, 110, 111, 116, 97, 116, 105, 111, 110, 115, 95, 95]⟩
noncomputable def s356 : Str := ⟨#[95, 95, 98, 117, 105, 108, 116, 105, 110, 115, 95, 95]⟩
noncomputable def s357 : Str := ⟨#[95, 95, 102, 105, 108, 101, 95, 95]⟩
noncomputable def s358 : Str := ⟨#[47, 99, 108, 97, 105, 109, 47, 99, 117, 116, 46, 112, 121]⟩
noncomputable def s359 : Str := ⟨#[95, 95, 99, 97, 99, 104, 101, 100, 95, 95]⟩
noncomputable def o3 (P : Params) : Obj := ⟨(.type "dict"), none, (.dict #[⟨(kh P s182), (.str s182 165), (.str s342 164)⟩, ⟨(kh P s184), (.str s184 166), .none⟩, ⟨(kh P s185), (.str s185 167), .none⟩, ⟨(kh P s186), (.str s186 168), (.builtin "__main__.__loader__#opaque")⟩, ⟨(kh P s187), (.str s187 169), .none⟩, ⟨(kh P s355), (.str s355 170), (.ref 6)⟩, ⟨(kh P s356), (.str s356 171), (.ref 4)⟩, ⟨(kh P s357), (.str s357 173), (.str s358 172)⟩, ⟨(kh P s359), (.str s359 174), .none⟩, ⟨(kh P s343), (.str s343 275), (.ref 12)⟩] 10), #[]⟩
noncomputable def o4 (_ : Params) : Obj := ⟨(.type "module"), (some 0), .plain, #[]⟩
noncomputable def o5 (_ : Params) : Obj := ⟨(.type "module"), (some 3), .plain, #[]⟩
noncomputable def o6 (_ : Params) : Obj := ⟨(.type "dict"), none, (.dict #[] 0), #[]⟩
noncomputable def o7 (_ : Params) : Obj := ⟨(.type "tuple"), none, (.seq #[] 0), #[]⟩
noncomputable def o8 (_ : Params) : Obj := ⟨.none, none, (.fields #[]), #[]⟩
noncomputable def s360 : Str := ⟨#[60, 109, 111, 100, 117, 108, 101, 62]⟩
noncomputable def o9 (_ : Params) : Obj := ⟨(.type "code"), none, (.fields #[(.str s360 176), (.str s360 177), (.str s358 178), (.int 1 0), (.int 0 0), (.int 0 0), (.int 0 0), (.int 0 0), (.ref 7), (.bool false), (.int 175 0), (.ref 8), .none, .none, .none, .none, (.int 179 0), (.int 1 0), (.str s358 180)]), #[]⟩
noncomputable def o10 (_ : Params) : Obj := ⟨(.type "frame"), none, .plain, #[(some (.ref 9)), (some (.ref 3)), (some (.ref 3)), none, (some (.str s342 164)), none, (some (.ref 0))]⟩
noncomputable def s361 : Str := ⟨#[]⟩
noncomputable def s362 : Str := ⟨#[116, 101, 109, 112, 108, 97, 116, 101]⟩
noncomputable def s363 : Str := ⟨#[103, 101, 116, 99, 111, 100, 101, 115, 105, 122, 101]⟩
noncomputable def s364 : Str := ⟨#[97, 115, 99, 105, 105, 95, 105, 115, 99, 97, 115, 101, 100]⟩
noncomputable def s365 : Str := ⟨#[117, 110, 105, 99, 111, 100, 101, 95, 105, 115, 99, 97, 115, 101, 100]⟩
noncomputable def s366 : Str := ⟨#[97, 115, 99, 105, 105, 95, 116, 111, 108, 111, 119, 101, 114]⟩
noncomputable def s367 : Str := ⟨#[117, 110, 105, 99, 111, 100, 101, 95, 116, 111, 108, 111, 119, 101, 114]⟩
noncomputable def s368 : Str := ⟨#[77, 65, 71, 73, 67]⟩
noncomputable def s369 : Str := ⟨#[67, 79, 68, 69, 83, 73, 90, 69]⟩
noncomputable def s370 : Str := ⟨#[77, 65, 88, 82, 69, 80, 69, 65, 84]⟩
noncomputable def s371 : Str := ⟨#[77, 65, 88, 71, 82, 79, 85, 80, 83]⟩
noncomputable def s372 : Str := ⟨#[32, 83, 82, 69, 32, 50, 46, 50, 46, 50, 32, 67, 111, 112, 121, 114, 105, 103, 104, 116, 32, 40, 99, 41, 32, 49, 57, 57, 55, 45, 50, 48, 48, 50, 32, 98, 121, 32, 83, 101, 99, 114, 101, 116, 32, 76, 97, 98, 115, 32, 65, 66, 32]⟩
noncomputable def o11 (P : Params) : Obj := ⟨(.type "dict"), none, (.dict #[⟨(kh P s182), (.str s182 247), (.str s343 246)⟩, ⟨(kh P s184), (.str s184 248), .none⟩, ⟨(kh P s185), (.str s185 250), (.str s361 249)⟩, ⟨(kh P s186), (.str s186 251), (.ref 14)⟩, ⟨(kh P s187), (.str s187 252), (.ref 26)⟩, ⟨(kh P s198), (.str s198 253), (.builtin "_sre.compile")⟩, ⟨(kh P s362), (.str s362 254), (.builtin "_sre.template")⟩, ⟨(kh P s363), (.str s363 255), (.builtin "_sre.getcodesize")⟩, ⟨(kh P s364), (.str s364 256), (.builtin "_sre.ascii_iscased")⟩, ⟨(kh P s365), (.str s365 257), (.builtin "_sre.unicode_iscased")⟩, ⟨(kh P s366), (.str s366 258), (.builtin "_sre.ascii_tolower")⟩, ⟨(kh P s367), (.str s367 259), (.builtin "_sre.unicode_tolower")⟩, ⟨(kh P s368), (.str s368 261), (.int 20230612 260)⟩, ⟨(kh P s369), (.str s369 263), (.int 4 262)⟩, ⟨(kh P s370), (.str s370 265), (.int 4294967295 264)⟩, ⟨(kh P s371), (.str s371 267), (.int 1073741823 266)⟩, ⟨(kh P s338), (.str s338 269), (.str s372 268)⟩] 17), #[]⟩
noncomputable def o12 (_ : Params) : Obj := ⟨(.type "module"), (some 11), .plain, #[]⟩
noncomputable def s373 : Str := ⟨#[95, 95, 109, 111, 100, 117, 108, 101, 95, 95]⟩
noncomputable def s374 : Str := ⟨#[95, 102, 114, 111, 122, 101, 110, 95, 105, 109, 112, 111, 114, 116, 108, 105, 98]⟩
noncomputable def s375 : Str := ⟨#[95, 95, 102, 105, 114, 115, 116, 108, 105, 110, 101, 110, 111, 95, 95]⟩
noncomputable def s376 : Str := ⟨#[95, 79, 82, 73, 71, 73, 78]⟩
noncomputable def s377 : Str := ⟨#[98, 117, 105, 108, 116, 45, 105, 110]⟩
noncomputable def s378 : Str := ⟨#[102, 105, 110, 100, 95, 115, 112, 101, 99]⟩
noncomputable def s379 : Str := ⟨#[99, 114, 101, 97, 116, 101, 95, 109, 111, 100, 117, 108, 101]⟩
noncomputable def s380 : Str := ⟨#[101, 120, 101, 99, 95, 109, 111, 100, 117, 108, 101]⟩
noncomputable def s381 : Str := ⟨#[103, 101, 116, 95, 99, 111, 100, 101]⟩
noncomputable def s382 : Str := ⟨#[103, 101, 116, 95, 115, 111, 117, 114, 99, 101]⟩
noncomputable def s383 : Str := ⟨#[105, 115, 95, 112, 97, 99, 107, 97, 103, 101]⟩
noncomputable def s384 : Str := ⟨#[108, 111, 97, 100, 95, 109, 111, 100, 117, 108, 101]⟩
noncomputable def s385 : Str := ⟨#[95, 95, 115, 116, 97, 116, 105, 99, 95, 97, 116, 116, 114, 105, 98, 117, 116, 101, 115, 95, 95]⟩
noncomputable def s386 : Str := ⟨#[95, 95, 100, 105, 99, 116, 95, 95]⟩
noncomputable def s387 : Str := ⟨#[95, 95, 119, 101, 97, 107, 114, 101, 102, 95, 95]⟩
noncomputable def o13 (P : Params) : Obj := ⟨(.type "dict"), none, (.dict #[⟨(kh P s373), (.str s373 189), (.str s374 186)⟩, ⟨(kh P s375), (.str s375 190), (.int 971 187)⟩, ⟨(kh P s184), (.str s184 191), (.builtin "_frozen_importlib.BuiltinImporter.__doc__:str#opaque")⟩, ⟨(kh P s376), (.str s376 192), (.str s377 188)⟩, ⟨(kh P s378), (.str s378 193), (.builtin "_frozen_importlib.BuiltinImporter.find_spec#opaque")⟩, ⟨(kh P s379), (.str s379 194), (.builtin "_frozen_importlib.BuiltinImporter.create_module#opaque")⟩, ⟨(kh P s380), (.str s380 195), (.builtin "_frozen_importlib.BuiltinImporter.exec_module#opaque")⟩, ⟨(kh P s381), (.str s381 196), (.builtin "_frozen_importlib.BuiltinImporter.get_code#opaque")⟩, ⟨(kh P s382), (.str s382 197), (.builtin "_frozen_importlib.BuiltinImporter.get_source#opaque")⟩, ⟨(kh P s383), (.str s383 198), (.builtin "_frozen_importlib.BuiltinImporter.is_package#opaque")⟩, ⟨(kh P s384), (.str s384 199), (.builtin "_frozen_importlib.BuiltinImporter.load_module#opaque")⟩, ⟨(kh P s385), (.str s385 200), (.ref 15)⟩, ⟨(kh P s386), (.str s386 202), (.ref 16)⟩, ⟨(kh P s387), (.str s387 204), (.ref 17)⟩] 14), #[]⟩
noncomputable def s388 : Str := ⟨#[66, 117, 105, 108, 116, 105, 110, 73, 109, 112, 111, 114, 116, 101, 114]⟩
noncomputable def o14 (_ : Params) : Obj := ⟨(.type "type"), none, (.cls ⟨s388, [(.type "object")], [(.ref 14), (.type "object")], 13, s388, true, [], [], false, none, false⟩), #[]⟩
noncomputable def o15 (_ : Params) : Obj := ⟨(.type "getset_descriptor"), none, (.fields #[(.str s386 201), (.ref 14), (.builtin "function.__dict__"), (.builtin "function.__dict__#set")]), #[]⟩
noncomputable def o16 (_ : Params) : Obj := ⟨(.type "getset_descriptor"), none, (.fields #[(.str s387 203), (.ref 14), (.builtin "ExceptionGroup.__weakref__"), .none]), #[]⟩
noncomputable def s389 : Str := ⟨#[6, 189, 10, 95, 95, 109, 111, 100, 117, 108, 101, 95, 95, 6, 186, 17, 95, 102, 114, 111, 122, 101, 110, 95, 105, 109, 112, 111, 114, 116, 108, 105, 98, 6, 190, 15, 95, 95, 102, 105, 114, 115, 116, 108, 105, 110, 101, 110, 111, 95, 95, 4, 187, 0, 971, 6, 191, 7, 95, 95, 100, 111, 99, 95, 95, 9, 52, 95, 102, 114, 111, 122, 101, 110, 95, 105, 109, 112, 111, 114, 116, 108, 105, 98, 46, 66, 117, 105, 108, 116, 105, 110, 73, 109, 112, 111, 114, 116, 101, 114, 46, 95, 95, 100, 111, 99, 95, 95, 58, 115, 116, 114, 35, 111, 112, 97, 113, 117, 101, 6, 192, 7, 95, 79, 82, 73, 71, 73, 78, 6, 188, 8, 98, 117, 105, 108, 116, 45, 105, 110, 6, 193, 9, 102, 105, 110, 100, 95, 115, 112, 101, 99, 9, 50, 95, 102, 114, 111, 122, 101, 110, 95, 105, 109, 112, 111, 114, 116, 108, 105, 98, 46, 66, 117, 105, 108, 116, 105, 110, 73, 109, 112, 111, 114, 116, 101, 114, 46, 102, 105, 110, 100, 95, 115, 112, 101, 99, 35, 111, 112, 97, 113, 117, 101, 6, 194, 13, 99, 114, 101, 97, 116, 101, 95, 109, 111, 100, 117, 108, 101, 9, 54, 95, 102, 114, 111, 122, 101, 110, 95, 105, 109, 112, 111, 114, 116, 108, 105, 98, 46, 66, 117, 105, 108, 116, 105, 110, 73, 109, 112, 111, 114, 116, 101, 114, 46, 99, 114, 101, 97, 116, 101, 95, 109, 111, 100, 117, 108, 101, 35, 111, 112, 97, 113, 117, 101, 6, 195, 11, 101, 120, 101, 99, 95, 109, 111, 100, 117, 108, 101, 9, 52, 95, 102, 114, 111, 122, 101, 110, 95, 105, 109, 112, 111, 114, 116, 108, 105, 98, 46, 66, 117, 105, 108, 116, 105, 110, 73, 109, 112, 111, 114, 116, 101, 114, 46, 101, 120, 101, 99, 95, 109, 111, 100, 117, 108, 101, 35, 111, 112, 97, 113, 117, 101, 6, 196, 8, 103, 101, 116, 95, 99, 111, 100, 101, 9, 49, 95, 102, 114, 111, 122, 101, 110, 95, 105, 109, 112, 111, 114, 116, 108, 105, 98, 46, 66, 117, 105, 108, 116, 105, 110, 73, 109, 112, 111, 114, 116, 101, 114, 46, 103, 101, 116, 95, 99, 111, 100, 101, 35, 111, 112, 97, 113, 117, 101, 6, 197, 10, 103, 101, 116, 95, 115, 111, 117, 114, 99, 101, 9, 51, 95, 102, 114, 111, 122, 101, 110, 95, 105, 109, 112, 111, 114, 116, 108, 105, 98, 46, 66, 117, 105, 108, 116, 105, 110, 73, 109, 112, 111, 114, 116, 101, 114, 46, 103, 101, 116, 95, 115, 111, 117, 114, 99, 101, 35, 111, 112, 97, 113, 117, 101, 6, 198, 10, 105, 115, 95, 112, 97, 99, 107, 97, 103, 101, 9, 51, 95, 102, 114, 111, 122, 101, 110, 95, 105, 109, 112, 111, 114, 116, 108, 105, 98, 46, 66, 117, 105, 108, 116, 105, 110, 73, 109, 112, 111, 114, 116, 101, 114, 46, 105, 115, 95, 112, 97, 99, 107, 97, 103, 101, 35, 111, 112, 97, 113, 117, 101, 6, 199, 11, 108, 111, 97, 100, 95, 109, 111, 100, 117, 108, 101, 9, 52, 95, 102, 114, 111, 122, 101, 110, 95, 105, 109, 112, 111, 114, 116, 108, 105, 98, 46, 66, 117, 105, 108, 116, 105, 110, 73, 109, 112, 111, 114, 116, 101, 114, 46, 108, 111, 97, 100, 95, 109, 111, 100, 117, 108, 101, 35, 111, 112, 97, 113, 117, 101, 6, 200, 21, 95, 95, 115, 116, 97, 116, 105, 99, 95, 97, 116, 116, 114, 105, 98, 117, 116, 101, 115, 95, 95, 4, 0, 0, 15, 6, 202, 8, 95, 95, 100, 105, 99, 116, 95, 95, 4, 0, 0, 16, 6, 204, 11, 95, 95, 119, 101, 97, 107, 114, 101, 102, 95, 95, 4, 0, 0, 17]⟩
noncomputable def s390 : Str := ⟨#[6, 227, 10, 95, 95, 109, 111, 100, 117, 108, 101, 95, 95, 6, 217, 17, 95, 102, 114, 111, 122, 101, 110, 95, 105, 109, 112, 111, 114, 116, 108, 105, 98, 6, 228, 15, 95, 95, 102, 105, 114, 115, 116, 108, 105, 110, 101, 110, 111, 95, 95, 4, 218, 0, 562, 6, 229, 7, 95, 95, 100, 111, 99, 95, 95, 9, 47, 95, 102, 114, 111, 122, 101, 110, 95, 105, 109, 112, 111, 114, 116, 108, 105, 98, 46, 77, 111, 100, 117, 108, 101, 83, 112, 101, 99, 46, 95, 95, 100, 111, 99, 95, 95, 58, 115, 116, 114, 35, 111, 112, 97, 113, 117, 101, 6, 230, 8, 95, 95, 105, 110, 105, 116, 95, 95, 9, 44, 95, 102, 114, 111, 122, 101, 110, 95, 105, 109, 112, 111, 114, 116, 108, 105, 98, 46, 77, 111, 100, 117, 108, 101, 83, 112, 101, 99, 46, 95, 95, 105, 110, 105, 116, 95, 95, 35, 111, 112, 97, 113, 117, 101, 6, 231, 8, 95, 95, 114, 101, 112, 114, 95, 95, 9, 44, 95, 102, 114, 111, 122, 101, 110, 95, 105, 109, 112, 111, 114, 116, 108, 105, 98, 46, 77, 111, 100, 117, 108, 101, 83, 112, 101, 99, 46, 95, 95, 114, 101, 112, 114, 95, 95, 35, 111, 112, 97, 113, 117, 101, 6, 232, 6, 95, 95, 101, 113, 95, 95, 9, 42, 95, 102, 114, 111, 122, 101, 110, 95, 105, 109, 112, 111, 114, 116, 108, 105, 98, 46, 77, 111, 100, 117, 108, 101, 83, 112, 101, 99, 46, 95, 95, 101, 113, 95, 95, 35, 111, 112, 97, 113, 117, 101, 6, 233, 6, 99, 97, 99, 104, 101, 100, 9, 42, 95, 102, 114, 111, 122, 101, 110, 95, 105, 109, 112, 111, 114, 116, 108, 105, 98, 46, 77, 111, 100, 117, 108, 101, 83, 112, 101, 99, 46, 99, 97, 99, 104, 101, 100, 35, 111, 112, 97, 113, 117, 101, 6, 234, 6, 112, 97, 114, 101, 110, 116, 9, 42, 95, 102, 114, 111, 122, 101, 110, 95, 105, 109, 112, 111, 114, 116, 108, 105, 98, 46, 77, 111, 100, 117, 108, 101, 83, 112, 101, 99, 46, 112, 97, 114, 101, 110, 116, 35, 111, 112, 97, 113, 117, 101, 6, 235, 12, 104, 97, 115, 95, 108, 111, 99, 97, 116, 105, 111, 110, 9, 48, 95, 102, 114, 111, 122, 101, 110, 95, 105, 109, 112, 111, 114, 116, 108, 105, 98, 46, 77, 111, 100, 117, 108, 101, 83, 112, 101, 99, 46, 104, 97, 115, 95, 108, 111, 99, 97, 116, 105, 111, 110, 35, 111, 112, 97, 113, 117, 101, 6, 236, 21, 95, 95, 115, 116, 97, 116, 105, 99, 95, 97, 116, 116, 114, 105, 98, 117, 116, 101, 115, 95, 95, 4, 0, 0, 23, 6, 238, 8, 95, 95, 100, 105, 99, 116, 95, 95, 4, 0, 0, 24, 6, 240, 11, 95, 95, 119, 101, 97, 107, 114, 101, 102, 95, 95, 4, 0, 0, 25, 6, 241, 8, 95, 95, 104, 97, 115, 104, 95, 95, 0]⟩
noncomputable def o17 (_ : Params) : Obj := ⟨.none, none, (.seq #[(.int 13 0), (.str s389 0), (.bool true), (.bool true), (.str s361 205), (.int 21 0), (.str s390 0), (.bool true), (.bool true), (.str s361 242)] 1), #[]⟩
noncomputable def o18 (_ : Params) : Obj := ⟨(.type "list"), none, (.seq #[] 0), #[]⟩
noncomputable def s391 : Str := ⟨#[110, 97, 109, 101]⟩
noncomputable def s392 : Str := ⟨#[108, 111, 97, 100, 101, 114]⟩
noncomputable def s393 : Str := ⟨#[111, 114, 105, 103, 105, 110]⟩
noncomputable def s394 : Str := ⟨#[108, 111, 97, 100, 101, 114, 95, 115, 116, 97, 116, 101]⟩
noncomputable def s395 : Str := ⟨#[115, 117, 98, 109, 111, 100, 117, 108, 101, 95, 115, 101, 97, 114, 99, 104, 95, 108, 111, 99, 97, 116, 105, 111, 110, 115]⟩
noncomputable def s396 : Str := ⟨#[95, 117, 110, 105, 110, 105, 116, 105, 97, 108, 105, 122, 101, 100, 95, 115, 117, 98, 109, 111, 100, 117, 108, 101, 115]⟩
noncomputable def s397 : Str := ⟨#[95, 115, 101, 116, 95, 102, 105, 108, 101, 97, 116, 116, 114]⟩
noncomputable def s398 : Str := ⟨#[95, 99, 97, 99, 104, 101, 100]⟩
noncomputable def s399 : Str := ⟨#[95, 105, 110, 105, 116, 105, 97, 108, 105, 122, 105, 110, 103]⟩
noncomputable def o19 (P : Params) : Obj := ⟨(.type "dict"), none, (.dict #[⟨(kh P s391), (.str s391 208), (.str s343 207)⟩, ⟨(kh P s392), (.str s392 209), (.ref 14)⟩, ⟨(kh P s393), (.str s393 210), (.str s377 184)⟩, ⟨(kh P s394), (.str s394 211), .none⟩, ⟨(kh P s395), (.str s395 212), .none⟩, ⟨(kh P s396), (.str s396 213), (.ref 19)⟩, ⟨(kh P s397), (.str s397 214), (.bool false)⟩, ⟨(kh P s398), (.str s398 215), .none⟩, ⟨(kh P s399), (.str s399 243), (.bool false)⟩] 9), #[]⟩
def s400 : Str := ⟨#[95, 95, 105, 110, 105, 116, 95, 95]⟩
def s401 : Str := ⟨#[95, 95, 114, 101, 112, 114, 95, 95]⟩
def s402 : Str := ⟨#[95, 95, 101, 113, 95, 95]⟩
def s403 : Str := ⟨#[99, 97, 99, 104, 101, 100]⟩
def s404 : Str := ⟨#[112, 97, 114, 101, 110, 116]⟩
def s405 : Str := ⟨#[104, 97, 115, 95, 108, 111, 99, 97, 116, 105, 111, 110]⟩
def s406 : Str := ⟨#[95, 95, 104, 97, 115, 104, 95, 95]⟩
noncomputable def o20 (P : Params) : Obj := ⟨(.type "dict"), none, (.dict #[⟨(kh P s373), (.str s373 227), (.str s374 217)⟩, ⟨(kh P s375), (.str s375 228), (.int 562 218)⟩, ⟨(kh P s184), (.str s184 229), (.builtin "_frozen_importlib.ModuleSpec.__doc__:str#opaque")⟩, ⟨(kh P s400), (.str s400 230), (.builtin "_frozen_importlib.ModuleSpec.__init__#opaque")⟩, ⟨(kh P s401), (.str s401 231), (.builtin "_frozen_importlib.ModuleSpec.__repr__#opaque")⟩, ⟨(kh P s402), (.str s402 232), (.builtin "_frozen_importlib.ModuleSpec.__eq__#opaque")⟩, ⟨(kh P s403), (.str s403 233), (.builtin "_frozen_importlib.ModuleSpec.cached#opaque")⟩, ⟨(kh P s404), (.str s404 234), (.builtin "_frozen_importlib.ModuleSpec.parent#opaque")⟩, ⟨(kh P s405), (.str s405 235), (.builtin "_frozen_importlib.ModuleSpec.has_location#opaque")⟩, ⟨(kh P s385), (.str s385 236), (.ref 23)⟩, ⟨(kh P s386), (.str s386 238), (.ref 24)⟩, ⟨(kh P s387), (.str s387 240), (.ref 25)⟩, ⟨(kh P s406), (.str s406 241), .none⟩] 13), #[]⟩
def s407 : Str := ⟨#[77, 111, 100, 117, 108, 101, 83, 112, 101, 99]⟩
noncomputable def o21 (_ : Params) : Obj := ⟨(.type "type"), none, (.cls ⟨s407, [(.type "object")], [(.ref 22), (.type "object")], 21, s407, true, [], [], false, none, false⟩), #[]⟩
noncomputable def o22 (_ : Params) : Obj := ⟨(.type "tuple"), none, (.seq #[(.str s398 219), (.str s397 220), (.str s396 221), (.str s392 222), (.str s394 223), (.str s391 224), (.str s393 225), (.str s395 226)] 0), #[]⟩
noncomputable def o23 (_ : Params) : Obj := ⟨(.type "getset_descriptor"), none, (.fields #[(.str s386 237), (.ref 22), (.builtin "function.__dict__"), (.builtin "function.__dict__#set")]), #[]⟩
noncomputable def o24 (_ : Params) : Obj := ⟨(.type "getset_descriptor"), none, (.fields #[(.str s387 239), (.ref 22), (.builtin "ExceptionGroup.__weakref__"), .none]), #[]⟩
noncomputable def o25 (_ : Params) : Obj := ⟨(.ref 22), (some 20), .plain, #[]⟩
noncomputable def s408 : Str := ⟨#[6, 247, 8, 95, 95, 110, 97, 109, 101, 95, 95, 6, 246, 4, 95, 115, 114, 101, 6, 248, 7, 95, 95, 100, 111, 99, 95, 95, 0, 6, 250, 11, 95, 95, 112, 97, 99, 107, 97, 103, 101, 95, 95, 6, 249, 0, 6, 251, 10, 95, 95, 108, 111, 97, 100, 101, 114, 95, 95, 4, 0, 0, 14, 6, 252, 8, 95, 95, 115, 112, 101, 99, 95, 95, 4, 0, 0, 26, 6, 253, 7, 99, 111, 109, 112, 105, 108, 101, 9, 12, 95, 115, 114, 101, 46, 99, 111, 109, 112, 105, 108, 101, 6, 254, 8, 116, 101, 109, 112, 108, 97, 116, 101, 9, 13, 95, 115, 114, 101, 46, 116, 101, 109, 112, 108, 97, 116, 101, 6, 255, 11, 103, 101, 116, 99, 111, 100, 101, 115, 105, 122, 101, 9, 16, 95, 115, 114, 101, 46, 103, 101, 116, 99, 111, 100, 101, 115, 105, 122, 101, 6, 256, 13, 97, 115, 99, 105, 105, 95, 105, 115, 99, 97, 115, 101, 100, 9, 18, 95, 115, 114, 101, 46, 97, 115, 99, 105, 105, 95, 105, 115, 99, 97, 115, 101, 100, 6, 257, 15, 117, 110, 105, 99, 111, 100, 101, 95, 105, 115, 99, 97, 115, 101, 100, 9, 20, 95, 115, 114, 101, 46, 117, 110, 105, 99, 111, 100, 101, 95, 105, 115, 99, 97, 115, 101, 100, 6, 258, 13, 97, 115, 99, 105, 105, 95, 116, 111, 108, 111, 119, 101, 114, 9, 18, 95, 115, 114, 101, 46, 97, 115, 99, 105, 105, 95, 116, 111, 108, 111, 119, 101, 114, 6, 259, 15, 117, 110, 105, 99, 111, 100, 101, 95, 116, 111, 108, 111, 119, 101, 114, 9, 20, 95, 115, 114, 101, 46, 117, 110, 105, 99, 111, 100, 101, 95, 116, 111, 108, 111, 119, 101, 114, 6, 261, 5, 77, 65, 71, 73, 67, 4, 260, 0, 20230612, 6, 263, 8, 67, 79, 68, 69, 83, 73, 90, 69, 4, 262, 0, 4, 6, 265, 9, 77, 65, 88, 82, 69, 80, 69, 65, 84, 4, 264, 0, 4294967295, 6, 267, 9, 77, 65, 88, 71, 82, 79, 85, 80, 83, 4, 266, 0, 1073741823, 6, 269, 9, 99, 111, 112, 121, 114, 105, 103, 104, 116, 6, 268, 53, 32, 83, 82, 69, 32, 50, 46, 50, 46, 50, 32, 67, 111, 112, 121, 114, 105, 103, 104, 116, 32, 40, 99, 41, 32, 49, 57, 57, 55, 45, 50, 48, 48, 50, 32, 98, 121, 32, 83, 101, 99, 114, 101, 116, 32, 76, 97, 98, 115, 32, 65, 66, 32]⟩
noncomputable def o26 (_ : Params) : Obj := ⟨.none, none, (.seq #[(.int 11 0), (.str s408 0), (.bool true), (.bool false), (.str s343 271)] 0), #[]⟩
noncomputable def hE (P : Params) : Heap := ⟨#[o0 P, o1 P, o2 P, o3 P, o4 P, o5 P, o6 P, o7 P, o8 P, o9 P, o10 P, o11 P, o12 P, o13 P, o14 P, o7 P, o15 P, o16 P, o17 P, o18 P, o19 P, o20 P, o21 P, o22 P, o23 P, o24 P, o25 P, o26 P], {}⟩
noncomputable def o27 (P : Params) : Obj := ⟨(.type "dict"), none, (.dict #[⟨(kh P s182), (.str s182 247), (.str s343 246)⟩, ⟨(kh P s184), (.str s184 248), .none⟩, ⟨(kh P s185), (.str s185 250), (.str s361 249)⟩, ⟨(kh P s186), (.str s186 251), (.builtin "off-the-table:_sre.__loader__:shared#opaque")⟩, ⟨(kh P s187), (.str s187 252), (.builtin "off-the-table:_sre.__spec__:shared#opaque")⟩, ⟨(kh P s198), (.str s198 253), (.builtin "_sre.compile")⟩, ⟨(kh P s362), (.str s362 254), (.builtin "off-the-table:_sre.template:shared#opaque")⟩, ⟨(kh P s363), (.str s363 255), (.builtin "off-the-table:_sre.getcodesize:shared#opaque")⟩, ⟨(kh P s364), (.str s364 256), (.builtin "off-the-table:_sre.ascii_iscased:shared#opaque")⟩, ⟨(kh P s365), (.str s365 257), (.builtin "off-the-table:_sre.unicode_iscased:shared#opaque")⟩, ⟨(kh P s366), (.str s366 258), (.builtin "off-the-table:_sre.ascii_tolower:shared#opaque")⟩, ⟨(kh P s367), (.str s367 259), (.builtin "off-the-table:_sre.unicode_tolower:shared#opaque")⟩, ⟨(kh P s368), (.str s368 261), (.int 20230612 260)⟩, ⟨(kh P s369), (.str s369 263), (.int 4 262)⟩, ⟨(kh P s370), (.str s370 265), (.int 4294967295 264)⟩, ⟨(kh P s371), (.str s371 267), (.int 1073741823 266)⟩, ⟨(kh P s338), (.str s338 269), (.str s372 268)⟩] 17), #[]⟩
noncomputable def hA (P : Params) : Heap := ⟨#[o0 P, o1 P, o2 P, o3 P, o4 P, o5 P, o6 P, o7 P, o8 P, o9 P, o10 P, o27 P, o12 P, o13 P, o14 P, o7 P, o15 P, o16 P, o17 P, o18 P, o19 P, o20 P, o21 P, o22 P, o23 P, o24 P, o25 P, o26 P], {}⟩
noncomputable def o28 (_ : Params) : Obj := ⟨(.type "code"), none, (.fields #[(.str s360 277), (.str s360 278), (.str s358 279), (.int 1 0), (.int 0 0), (.int 0 0), (.int 0 0), (.int 0 0), (.ref 28), (.bool false), (.int 276 0), (.ref 29), .none, .none, .none, .none, (.int 280 0), (.int 1 0), (.str s358 281)]), #[]⟩
noncomputable def o29 (_ : Params) : Obj := ⟨(.type "frame"), none, .plain, #[(some (.ref 30)), (some (.ref 3)), (some (.ref 3)), none, (some (.str s342 164)), none, (some (.ref 0))]⟩
noncomputable def hB (P : Params) : Heap := ⟨#[o0 P, o1 P, o2 P, o3 P, o4 P, o5 P, o6 P, o7 P, o8 P, o9 P, o10 P, o27 P, o12 P, o13 P, o14 P, o7 P, o15 P, o16 P, o17 P, o18 P, o19 P, o20 P, o21 P, o22 P, o23 P, o24 P, o25 P, o26 P, o7 P, o8 P, o28 P, o29 P], {}⟩
def s409 : Str := ⟨#[108, 97, 119, 95, 117, 113, 48, 48, 50, 55, 95, 48, 49]⟩
def s410 : Str := ⟨#[95, 119, 97, 108, 108]⟩
def s411 : Str := ⟨#[98, 105, 115, 101, 99, 116, 95, 114, 105, 103, 104, 116]⟩
def s412 : Str := ⟨#[98, 105, 115, 101, 99, 116, 95, 108, 101, 102, 116]⟩
def s413 : Str := ⟨#[95, 110, 101, 116, 114, 99, 108, 101, 120]⟩
def s414 : Str := ⟨#[98, 49, 95, 115, 101, 116]⟩
def s415 : Str := ⟨#[105, 110, 95, 116, 97, 98, 108, 101, 95, 98, 49]⟩
def s416 : Str := ⟨#[98, 51, 95, 101, 120, 99, 101, 112, 116, 105, 111, 110, 115]⟩
def s417 : Str := ⟨#[109, 97, 112, 95, 116, 97, 98, 108, 101, 95, 98, 51]⟩
def s418 : Str := ⟨#[116, 115, 112, 101, 99, 105, 97, 108, 115]⟩
def s419 : Str := ⟨#[95, 110, 97, 109, 101, 95, 100, 105, 115, 97, 108, 108, 111, 119, 101, 100, 95, 114, 101]⟩
def s420 : Str := ⟨#[95, 118, 97, 108, 117, 101, 95, 100, 105, 115, 97, 108, 108, 111, 119, 101, 100, 95, 114, 101]⟩
def s421 : Str := ⟨#[95, 102, 111, 114, 109, 97, 116, 112, 97, 114, 97, 109]⟩
def s422 : Str := ⟨#[72, 101, 97, 100, 101, 114, 115]⟩
def s423 : Str := ⟨#[95, 108, 97, 119, 95, 108, 101, 120, 101, 114]⟩
def s424 : Str := ⟨#[95, 108, 97, 119, 95, 119, 111, 114, 100]⟩
def s425 : Str := ⟨#[95, 108, 97, 119, 95, 112, 114, 101, 112, 97, 114, 101, 100]⟩
def s426 : Str := ⟨#[95, 108, 97, 119, 95, 101, 110, 100]⟩
def s427 : Str := ⟨#[108, 97, 119]⟩
noncomputable def o30 (P : Params) : Obj := ⟨(.type "dict"), none, (.dict #[⟨(kh P s182), (.str s182 165), (.str s409 2670)⟩, ⟨(kh P s184), (.str s184 166), .none⟩, ⟨(kh P s185), (.str s185 167), .none⟩, ⟨(kh P s186), (.str s186 168), (.builtin "__main__.__loader__#opaque")⟩, ⟨(kh P s187), (.str s187 169), .none⟩, ⟨(kh P s355), (.str s355 170), (.ref 6)⟩, ⟨(kh P s356), (.str s356 171), (.ref 4)⟩, ⟨(kh P s357), (.str s357 173), (.str s358 172)⟩, ⟨(kh P s359), (.str s359 174), .none⟩, ⟨(kh P s343), (.str s343 275), (.ref 12)⟩, ⟨(kh P s410), (.str s410 288), (.ref 38)⟩, ⟨(kh P s411), (.str s411 304), (.ref 47)⟩, ⟨(kh P s412), (.str s412 318), (.ref 56)⟩, ⟨(kh P s413), (.str s413 378), (.ref 94)⟩, ⟨(kh P s414), (.str s414 440), (.ref 106)⟩, ⟨(kh P s415), (.str s415 447), (.ref 116)⟩, ⟨(kh P s416), (.str s416 2398), (.ref 117)⟩, ⟨(kh P s417), (.str s417 2406), (.ref 162)⟩, ⟨(kh P s418), (.str s418 2442), (.ref 167)⟩, ⟨(kh P s419), (.str s419 2468), (.ref 172)⟩, ⟨(kh P s420), (.str s420 2502), (.ref 177)⟩, ⟨(kh P s421), (.str s421 2512), (.ref 185)⟩, ⟨(kh P s422), (.str s422 2669), (.ref 306)⟩, ⟨(kh P s423), (.str s423 2682), (.ref 317)⟩, ⟨(kh P s424), (.str s424 2702), (.ref 324)⟩, ⟨(kh P s425), (.str s425 2708), (.ref 329)⟩, ⟨(kh P s426), (.str s426 2719), (.ref 336)⟩, ⟨(kh P s427), (.str s427 2725), (.ref 341)⟩] 28), #[]⟩
noncomputable def o31 (_ : Params) : Obj := ⟨.none, none, (.fields #[(.int 2 0), (.int 0 0), (.ref 37), (.int 6 0), (.int 0 0), (.ref 46), (.int 26 0), (.int 0 0), (.ref 55), (.int 47 0), (.int 0 0), (.ref 62), (.int 92 0), (.int 0 0), (.ref 115), (.int 95 0), (.int 0 0), (.ref 161), (.int 104 0), (.int 0 0), (.ref 184), (.int 113 0), (.int 0 0), (.ref 191), (.int 196 0), (.int 0 0), (.ref 316), (.int 206 0), (.int 0 0), (.ref 323), (.int 227 0), (.int 0 0), (.ref 328), (.int 229 0), (.int 0 0), (.ref 335), (.int 238 0), (.int 0 0), (.ref 340)]), #[]⟩
noncomputable def o32 (_ : Params) : Obj := ⟨(.type "tuple"), none, (.seq #[(.str s162 285)] 0), #[]⟩
noncomputable def o33 (_ : Params) : Obj := ⟨.none, none, (.func ⟨s410, s410, fA (stI 0), fB (stI 0), fS (stI 0), 0, [], .none, .none, .none, .none, none, .none, .none, 0⟩), #[]⟩
noncomputable def o34 (_ : Params) : Obj := ⟨(.type "code"), none, (.fields #[(.str s410 282), (.str s410 283), (.str s358 284), (.int 2 0), (.int 1 0), (.int 0 0), (.int 0 0), (.int 3 0), (.ref 32), (.bool true), (.int 276 0), (.ref 33), .none, (.ref 34), (.ref 35), (.ref 36), (.int 286 0), (.int 2 0), (.str s358 287)]), #[]⟩
noncomputable def o35 (_ : Params) : Obj := ⟨(.type "function"), none, (.func ⟨s410, s410, fA (stI 0), fB (stI 0), fS (stI 0), 3, [], .none, .none, .none, (.str s342 164), none, (.ref 37), .none, 0⟩), #[]⟩
noncomputable def o36 (_ : Params) : Obj := ⟨(.type "tuple"), none, (.seq #[(.int 0 291), .none] 0), #[]⟩
def s428 : Str := ⟨#[107, 101, 121]⟩
noncomputable def o37 (P : Params) : Obj := ⟨(.type "dict"), none, (.dict #[⟨(kh P s428), (.str s428 292), .none⟩] 1), #[]⟩
def s429 : Str := ⟨#[108, 111]⟩
def s430 : Str := ⟨#[104, 105]⟩
def s431 : Str := ⟨#[109, 105, 100]⟩
noncomputable def o38 (_ : Params) : Obj := ⟨(.type "tuple"), none, (.seq #[(.str s159 296), (.str s168 297), (.str s429 298), (.str s430 299), (.str s428 300), (.str s431 301)] 0), #[]⟩
noncomputable def o39 (_ : Params) : Obj := ⟨.none, none, (.func ⟨s411, s411, fA (stI 2), fB (stI 2), fS (stI 2), 0, [], .none, .none, .none, .none, none, .none, .none, 0⟩), #[]⟩
noncomputable def o40 (_ : Params) : Obj := ⟨(.type "code"), none, (.fields #[(.str s411 293), (.str s411 294), (.str s358 295), (.int 6 0), (.int 4 0), (.int 0 0), (.int 1 0), (.int 3 0), (.ref 41), (.bool true), (.int 276 0), (.ref 42), .none, (.ref 43), (.ref 44), (.ref 45), (.int 302 0), (.int 6 0), (.str s358 303)]), #[]⟩
def s432 : Str := ⟨#[99, 112, 121, 51, 49, 51, 46, 98, 105, 115, 101, 99, 116]⟩
noncomputable def o41 (_ : Params) : Obj := ⟨(.type "function"), none, (.func ⟨s411, s411, fA (stI 2), fB (stI 2), fS (stI 2), 3, [], (.ref 39), (.ref 40), .none, (.str s432 289), none, (.ref 46), .none, 0⟩), #[]⟩
noncomputable def o42 (_ : Params) : Obj := ⟨(.type "tuple"), none, (.seq #[(.int 0 305), .none] 0), #[]⟩
noncomputable def o43 (P : Params) : Obj := ⟨(.type "dict"), none, (.dict #[⟨(kh P s428), (.str s428 306), .none⟩] 1), #[]⟩
noncomputable def o44 (_ : Params) : Obj := ⟨(.type "tuple"), none, (.seq #[(.str s159 310), (.str s168 311), (.str s429 312), (.str s430 313), (.str s428 314), (.str s431 315)] 0), #[]⟩
noncomputable def o45 (_ : Params) : Obj := ⟨.none, none, (.func ⟨s412, s412, fA (stI 3), fB (stI 3), fS (stI 3), 0, [], .none, .none, .none, .none, none, .none, .none, 0⟩), #[]⟩
noncomputable def o46 (_ : Params) : Obj := ⟨(.type "code"), none, (.fields #[(.str s412 307), (.str s412 308), (.str s358 309), (.int 26 0), (.int 4 0), (.int 0 0), (.int 1 0), (.int 3 0), (.ref 50), (.bool true), (.int 276 0), (.ref 51), .none, (.ref 52), (.ref 53), (.ref 54), (.int 316 0), (.int 26 0), (.str s358 317)]), #[]⟩
noncomputable def o47 (_ : Params) : Obj := ⟨(.type "function"), none, (.func ⟨s412, s412, fA (stI 3), fB (stI 3), fS (stI 3), 3, [], (.ref 48), (.ref 49), .none, (.str s432 289), none, (.ref 55), .none, 0⟩), #[]⟩
noncomputable def o48 (_ : Params) : Obj := ⟨(.type "builtin_function_or_method"), none, (.fields #[(.builtin "type.__prepare__"), (.type "type")]), #[]⟩
def s433 : Str := ⟨#[99, 112, 121, 51, 49, 51, 46, 110, 101, 116, 114, 99]⟩
def s434 : Str := ⟨#[95, 95, 113, 117, 97, 108, 110, 97, 109, 101, 95, 95]⟩
def s435 : Str := ⟨#[95, 114, 101, 97, 100, 95, 99, 104, 97, 114]⟩
def s436 : Str := ⟨#[103, 101, 116, 95, 116, 111, 107, 101, 110]⟩
def s437 : Str := ⟨#[112, 117, 115, 104, 95, 116, 111, 107, 101, 110]⟩
noncomputable def o49 (P : Params) : Obj := ⟨(.type "dict"), none, (.dict #[⟨(kh P s373), (.str s373 328), (.str s433 319)⟩, ⟨(kh P s434), (.str s434 330), (.str s413 329)⟩, ⟨(kh P s375), (.str s375 332), (.int 47 331)⟩, ⟨(kh P s400), (.str s400 340), (.ref 70)⟩, ⟨(kh P s435), (.str s435 348), (.ref 77)⟩, ⟨(kh P s436), (.str s436 358), (.ref 84)⟩, ⟨(kh P s437), (.str s437 366), (.ref 91)⟩, ⟨(kh P s385), (.str s385 371), (.ref 92)⟩] 8), #[]⟩
noncomputable def o50 (_ : Params) : Obj := ⟨.none, none, (.fields #[(.int 49 0), (.int 4 0), (.ref 69), (.int 55 0), (.int 4 0), (.ref 76), (.int 61 0), (.int 4 0), (.ref 83), (.int 88 0), (.int 4 0), (.ref 90)]), #[]⟩
noncomputable def o51 (_ : Params) : Obj := ⟨(.type "code"), none, (.fields #[(.str s413 323), (.str s413 324), (.str s358 325), (.int 47 0), (.int 0 0), (.int 0 0), (.int 0 0), (.int 0 0), (.ref 60), (.bool false), (.int 276 0), (.ref 61), .none, .none, .none, .none, (.int 326 0), (.int 47 0), (.str s358 327)]), #[]⟩
noncomputable def o52 (_ : Params) : Obj := ⟨(.type "frame"), none, .plain, #[(some (.ref 62)), (some (.ref 3)), (some (.ref 59)), none, (some (.str s433 319)), none, (some (.ref 0))]⟩
def s438 : Str := ⟨#[115, 101, 108, 102]⟩
def s439 : Str := ⟨#[102, 112]⟩
noncomputable def o53 (_ : Params) : Obj := ⟨(.type "tuple"), none, (.seq #[(.str s438 336), (.str s439 337)] 0), #[]⟩
def s440 : Str := ⟨#[95, 110, 101, 116, 114, 99, 108, 101, 120, 46, 95, 95, 105, 110, 105, 116, 95, 95]⟩
noncomputable def o54 (_ : Params) : Obj := ⟨.none, none, (.func ⟨s400, s440, fA (inI (stI 5) 0), fB (inI (stI 5) 0), fS (inI (stI 5) 0), 0, [], .none, .none, .none, .none, none, .none, .none, 0⟩), #[]⟩
noncomputable def o55 (_ : Params) : Obj := ⟨(.type "code"), none, (.fields #[(.str s400 333), (.str s440 334), (.str s358 335), (.int 49 0), (.int 2 0), (.int 0 0), (.int 0 0), (.int 3 0), (.ref 64), (.bool true), (.int 276 0), (.ref 65), .none, (.ref 66), (.ref 67), (.ref 68), (.int 338 0), (.int 49 0), (.str s358 339)]), #[]⟩
noncomputable def o56 (_ : Params) : Obj := ⟨(.type "function"), none, (.func ⟨s400, s440, fA (inI (stI 5) 0), fB (inI (stI 5) 0), fS (inI (stI 5) 0), 3, [], .none, .none, .none, (.str s433 319), none, (.ref 69), .none, 0⟩), #[]⟩
def s441 : Str := ⟨#[99, 104]⟩
noncomputable def o57 (_ : Params) : Obj := ⟨(.type "tuple"), none, (.seq #[(.str s438 344), (.str s441 345)] 0), #[]⟩
def s442 : Str := ⟨#[95, 110, 101, 116, 114, 99, 108, 101, 120, 46, 95, 114, 101, 97, 100, 95, 99, 104, 97, 114]⟩
noncomputable def o58 (_ : Params) : Obj := ⟨.none, none, (.func ⟨s435, s442, fA (inI (stI 5) 1), fB (inI (stI 5) 1), fS (inI (stI 5) 1), 0, [], .none, .none, .none, .none, none, .none, .none, 0⟩), #[]⟩
noncomputable def o59 (_ : Params) : Obj := ⟨(.type "code"), none, (.fields #[(.str s435 341), (.str s442 342), (.str s358 343), (.int 55 0), (.int 1 0), (.int 0 0), (.int 0 0), (.int 3 0), (.ref 71), (.bool true), (.int 276 0), (.ref 72), .none, (.ref 73), (.ref 74), (.ref 75), (.int 346 0), (.int 55 0), (.str s358 347)]), #[]⟩
noncomputable def o60 (_ : Params) : Obj := ⟨(.type "function"), none, (.func ⟨s435, s442, fA (inI (stI 5) 1), fB (inI (stI 5) 1), fS (inI (stI 5) 1), 3, [], .none, .none, .none, (.str s433 319), none, (.ref 76), .none, 0⟩), #[]⟩
def s443 : Str := ⟨#[116, 111, 107, 101, 110]⟩
def s444 : Str := ⟨#[102, 105, 116, 101, 114]⟩
noncomputable def o61 (_ : Params) : Obj := ⟨(.type "tuple"), none, (.seq #[(.str s438 352), (.str s443 353), (.str s444 354), (.str s441 355)] 0), #[]⟩
def s445 : Str := ⟨#[95, 110, 101, 116, 114, 99, 108, 101, 120, 46, 103, 101, 116, 95, 116, 111, 107, 101, 110]⟩
noncomputable def o62 (_ : Params) : Obj := ⟨.none, none, (.func ⟨s436, s445, fA (inI (stI 5) 2), fB (inI (stI 5) 2), fS (inI (stI 5) 2), 0, [], .none, .none, .none, .none, none, .none, .none, 0⟩), #[]⟩
noncomputable def o63 (_ : Params) : Obj := ⟨(.type "code"), none, (.fields #[(.str s436 349), (.str s445 350), (.str s358 351), (.int 61 0), (.int 1 0), (.int 0 0), (.int 0 0), (.int 3 0), (.ref 78), (.bool true), (.int 276 0), (.ref 79), .none, (.ref 80), (.ref 81), (.ref 82), (.int 356 0), (.int 61 0), (.str s358 357)]), #[]⟩
noncomputable def o64 (_ : Params) : Obj := ⟨(.type "function"), none, (.func ⟨s436, s445, fA (inI (stI 5) 2), fB (inI (stI 5) 2), fS (inI (stI 5) 2), 3, [], .none, .none, .none, (.str s433 319), none, (.ref 83), .none, 0⟩), #[]⟩
noncomputable def o65 (_ : Params) : Obj := ⟨(.type "tuple"), none, (.seq #[(.str s438 362), (.str s443 363)] 0), #[]⟩
def s446 : Str := ⟨#[95, 110, 101, 116, 114, 99, 108, 101, 120, 46, 112, 117, 115, 104, 95, 116, 111, 107, 101, 110]⟩
noncomputable def o66 (_ : Params) : Obj := ⟨.none, none, (.func ⟨s437, s446, fA (inI (stI 5) 3), fB (inI (stI 5) 3), fS (inI (stI 5) 3), 0, [], .none, .none, .none, .none, none, .none, .none, 0⟩), #[]⟩
noncomputable def o67 (_ : Params) : Obj := ⟨(.type "code"), none, (.fields #[(.str s437 359), (.str s446 360), (.str s358 361), (.int 88 0), (.int 2 0), (.int 0 0), (.int 0 0), (.int 3 0), (.ref 85), (.bool true), (.int 276 0), (.ref 86), .none, (.ref 87), (.ref 88), (.ref 89), (.int 364 0), (.int 88 0), (.str s358 365)]), #[]⟩
noncomputable def o68 (_ : Params) : Obj := ⟨(.type "function"), none, (.func ⟨s437, s446, fA (inI (stI 5) 3), fB (inI (stI 5) 3), fS (inI (stI 5) 3), 3, [], .none, .none, .none, (.str s433 319), none, (.ref 90), .none, 0⟩), #[]⟩
def s447 : Str := ⟨#[105, 110, 115, 116, 114, 101, 97, 109]⟩
def s448 : Str := ⟨#[108, 105, 110, 101, 110, 111]⟩
def s449 : Str := ⟨#[112, 117, 115, 104, 98, 97, 99, 107]⟩
def s450 : Str := ⟨#[119, 104, 105, 116, 101, 115, 112, 97, 99, 101]⟩
noncomputable def o69 (_ : Params) : Obj := ⟨(.type "tuple"), none, (.seq #[(.str s447 367), (.str s448 368), (.str s449 369), (.str s450 370)] 0), #[]⟩
noncomputable def o70 (P : Params) : Obj := ⟨(.type "dict"), none, (.dict #[⟨(kh P s373), (.str s373 328), (.str s433 319)⟩, ⟨(kh P s375), (.str s375 332), (.int 47 331)⟩, ⟨(kh P s400), (.str s400 340), (.ref 70)⟩, ⟨(kh P s435), (.str s435 348), (.ref 77)⟩, ⟨(kh P s436), (.str s436 358), (.ref 84)⟩, ⟨(kh P s437), (.str s437 366), (.ref 91)⟩, ⟨(kh P s385), (.str s385 371), (.ref 92)⟩, ⟨(kh P s386), (.str s386 373), (.ref 95)⟩, ⟨(kh P s387), (.str s387 375), (.ref 96)⟩, ⟨(kh P s184), (.str s184 376), .none⟩] 4), #[]⟩
noncomputable def o71 (_ : Params) : Obj := ⟨(.type "type"), none, (.cls ⟨s413, [(.type "object")], [(.ref 94), (.type "object")], 93, s413, true, [], [], false, none, false⟩), #[none, none, (some (.str s413 321)), (some (.str s413 329)), (some (.builtin "object.__new__")), (some (.bool true))]⟩
noncomputable def o72 (_ : Params) : Obj := ⟨(.type "getset_descriptor"), none, (.fields #[(.str s386 372), (.ref 94), (.builtin "function.__dict__"), (.builtin "function.__dict__#set")]), #[]⟩
noncomputable def o73 (_ : Params) : Obj := ⟨(.type "getset_descriptor"), none, (.fields #[(.str s387 374), (.ref 94), (.builtin "ExceptionGroup.__weakref__"), .none]), #[]⟩
noncomputable def o74 (_ : Params) : Obj := ⟨(.type "super"), none, (.fields #[(.ref 94), (.ref 94), (.ref 94)]), #[]⟩
noncomputable def o75 (_ : Params) : Obj := ⟨(.type "builtin_function_or_method"), none, (.fields #[(.builtin "object.__init_subclass__"), (.ref 94)]), #[]⟩
noncomputable def o76 (_ : Params) : Obj := ⟨(.type "list"), none, (.seq #[(.int 173 381), (.int 847 382), (.int 6150 383), (.int 6155 384), (.int 6156 385), (.int 6157 386), (.int 8203 387), (.int 8204 388), (.int 8205 389), (.int 8288 390), (.int 65279 391)] 0), #[]⟩
noncomputable def o77 (_ : Params) : Obj := ⟨(.type "range"), none, (.fields #[(.int 65024 392), (.int 65040 393), (.int 1 394)]), #[]⟩
noncomputable def o78 (_ : Params) : Obj := ⟨(.type "list"), none, (.seq #[(.int 65024 397), (.int 65025 398), (.int 65026 399), (.int 65027 400), (.int 65028 401), (.int 65029 402), (.int 65030 403), (.int 65031 404), (.int 65032 405), (.int 65033 406), (.int 65034 407), (.int 65035 408), (.int 65036 409), (.int 65037 410), (.int 65038 411), (.int 65039 412)] 18), #[]⟩
noncomputable def o79 (_ : Params) : Obj := ⟨(.type "range_iterator"), none, (.fields #[(.int 65040 0), (.int 0 0), (.int 1 0)]), #[]⟩
noncomputable def o80 (_ : Params) : Obj := ⟨(.type "StopIteration"), none, (.fields #[(.ref 103), .none, .none, .none, (.bool false), .none]), #[]⟩
noncomputable def o81 (_ : Params) : Obj := ⟨(.type "list"), none, (.seq #[(.int 173 381), (.int 847 382), (.int 6150 383), (.int 6155 384), (.int 6156 385), (.int 6157 386), (.int 8203 387), (.int 8204 388), (.int 8205 389), (.int 8288 390), (.int 65279 391), (.int 65024 397), (.int 65025 398), (.int 65026 399), (.int 65027 400), (.int 65028 401), (.int 65029 402), (.int 65030 403), (.int 65031 404), (.int 65032 405), (.int 65033 406), (.int 65034 407), (.int 65035 408), (.int 65036 409), (.int 65037 410), (.int 65038 411), (.int 65039 412)] 0), #[]⟩
noncomputable def o82 (P : Params) : Obj := ⟨(.type "set"), none, (.set #[(65024, (.int 65024 397)), (65025, (.int 65025 398)), (65026, (.int 65026 399)), (65027, (.int 65027 400)), (65028, (.int 65028 401)), (65029, (.int 65029 402)), (6150, (.int 6150 383)), (65030, (.int 65030 403)), (65031, (.int 65031 404)), (65032, (.int 65032 405)), (65033, (.int 65033 406)), (6155, (.int 6155 384)), (6156, (.int 6156 385)), (6157, (.int 6157 386)), (8203, (.int 8203 387)), (8204, (.int 8204 388)), (8205, (.int 8205 389)), (65034, (.int 65034 407)), (65035, (.int 65035 408)), (65036, (.int 65036 409)), (65037, (.int 65037 410)), (65038, (.int 65038 411)), (65039, (.int 65039 412)), (173, (.int 173 381)), (847, (.int 847 382)), (8288, (.int 8288 390)), (65279, (.int 65279 391))] 29 ⟨127, #[0, 1, 2, 3, 4, 5, 6, 7, 8, 9, 10, 11, 12, 13, 14, 15, 16, 17, 18, 19, 20, 21, 22, 45, 79, 96, 127], #[], 0, (!P.followText "set-order"), 2, true⟩), #[]⟩
noncomputable def o83 (_ : Params) : Obj := ⟨(.type "list_iterator"), none, (.fields #[.none, (.int 27 0)]), #[]⟩
noncomputable def o84 (_ : Params) : Obj := ⟨(.type "StopIteration"), none, (.fields #[(.ref 108), .none, .none, .none, (.bool false), .none]), #[]⟩
def s451 : Str := ⟨#[99, 111, 100, 101]⟩
noncomputable def o85 (_ : Params) : Obj := ⟨(.type "tuple"), none, (.seq #[(.str s451 444)] 0), #[]⟩
noncomputable def o86 (_ : Params) : Obj := ⟨.none, none, (.func ⟨s415, s415, fA (stI 8), fB (stI 8), fS (stI 8), 0, [], .none, .none, .none, .none, none, .none, .none, 0⟩), #[]⟩
noncomputable def o87 (_ : Params) : Obj := ⟨(.type "code"), none, (.fields #[(.str s415 441), (.str s415 442), (.str s358 443), (.int 92 0), (.int 1 0), (.int 0 0), (.int 0 0), (.int 3 0), (.ref 110), (.bool true), (.int 276 0), (.ref 111), .none, (.ref 112), (.ref 113), (.ref 114), (.int 445 0), (.int 92 0), (.str s358 446)]), #[]⟩
def s452 : Str := ⟨#[99, 112, 121, 51, 49, 51, 46, 115, 116, 114, 105, 110, 103, 112, 114, 101, 112]⟩
noncomputable def o88 (_ : Params) : Obj := ⟨(.type "function"), none, (.func ⟨s415, s415, fA (stI 8), fB (stI 8), fS (stI 8), 3, [], .none, .none, .none, (.str s452 379), none, (.ref 115), .none, 0⟩), #[]⟩
noncomputable def o89 (_ : Params) : Obj := dO b3E.toArray 650
noncomputable def o90 (_ : Params) : Obj := dO (entsFrom 499 (b3B 1)).toArray 17
noncomputable def o91 (_ : Params) : Obj := dO (entsFrom 550 (b3B 2)).toArray 17
noncomputable def o92 (_ : Params) : Obj := dO (entsFrom 601 (b3B 3)).toArray 17
noncomputable def o93 (_ : Params) : Obj := dO (entsFrom 652 (b3B 4)).toArray 17
noncomputable def o94 (_ : Params) : Obj := dO (entsFrom 703 (b3B 5)).toArray 17
noncomputable def o95 (_ : Params) : Obj := dO (entsFrom 754 (b3B 6)).toArray 17
noncomputable def o96 (_ : Params) : Obj := dO (entsFrom 805 (b3B 7)).toArray 17
noncomputable def o97 (_ : Params) : Obj := dO (entsFrom 856 (b3B 8)).toArray 17
noncomputable def o98 (_ : Params) : Obj := dO (entsFrom 907 (b3B 9)).toArray 17
noncomputable def o99 (_ : Params) : Obj := dO (entsFrom 958 (b3B 10)).toArray 17
noncomputable def o100 (_ : Params) : Obj := dO (entsFrom 1009 (b3B 11)).toArray 17
noncomputable def o101 (_ : Params) : Obj := dO (entsFrom 1060 (b3B 12)).toArray 17
noncomputable def o102 (_ : Params) : Obj := dO (entsFrom 1111 (b3B 13)).toArray 17
noncomputable def o103 (_ : Params) : Obj := dO (entsFrom 1162 (b3B 14)).toArray 17
noncomputable def o104 (_ : Params) : Obj := dO (entsFrom 1213 (b3B 15)).toArray 17
noncomputable def o105 (_ : Params) : Obj := dO (entsFrom 1264 (b3B 16)).toArray 17
noncomputable def o106 (_ : Params) : Obj := dO (entsFrom 1315 (b3B 17)).toArray 17
noncomputable def o107 (_ : Params) : Obj := dO (entsFrom 1366 (b3B 18)).toArray 17
noncomputable def o108 (_ : Params) : Obj := dO (entsFrom 1417 (b3B 19)).toArray 17
noncomputable def o109 (_ : Params) : Obj := dO (entsFrom 1468 (b3B 20)).toArray 17
noncomputable def o110 (_ : Params) : Obj := dO (entsFrom 1519 (b3B 21)).toArray 17
noncomputable def o111 (_ : Params) : Obj := dO (entsFrom 1570 (b3B 22)).toArray 17
noncomputable def o112 (_ : Params) : Obj := dO (entsFrom 1621 (b3B 23)).toArray 17
noncomputable def o113 (_ : Params) : Obj := dO (entsFrom 1672 (b3B 24)).toArray 17
noncomputable def o114 (_ : Params) : Obj := dO (entsFrom 1723 (b3B 25)).toArray 17
noncomputable def o115 (_ : Params) : Obj := dO (entsFrom 1774 (b3B 26)).toArray 17
noncomputable def o116 (_ : Params) : Obj := dO (entsFrom 1825 (b3B 27)).toArray 17
noncomputable def o117 (_ : Params) : Obj := dO (entsFrom 1876 (b3B 28)).toArray 17
noncomputable def o118 (_ : Params) : Obj := dO (entsFrom 1927 (b3B 29)).toArray 17
noncomputable def o119 (_ : Params) : Obj := dO (entsFrom 1978 (b3B 30)).toArray 17
noncomputable def o120 (_ : Params) : Obj := dO (entsFrom 2029 (b3B 31)).toArray 17
noncomputable def o121 (_ : Params) : Obj := dO (entsFrom 2080 (b3B 32)).toArray 17
noncomputable def o122 (_ : Params) : Obj := dO (entsFrom 2131 (b3B 33)).toArray 17
noncomputable def o123 (_ : Params) : Obj := dO (entsFrom 2182 (b3B 34)).toArray 17
noncomputable def o124 (_ : Params) : Obj := dO (entsFrom 2233 (b3B 35)).toArray 17
noncomputable def o125 (_ : Params) : Obj := dO (entsFrom 2284 (b3B 36)).toArray 17
noncomputable def o126 (_ : Params) : Obj := dO (entsFrom 2335 (b3B 37)).toArray 17
noncomputable def o127 (_ : Params) : Obj := dO (entsShort 2386 (b3L.drop 646)).toArray 4
noncomputable def o128 (_ : Params) : Obj := ⟨(.type "tuple"), none, (.seq #[(.str s451 2402), (.str s90 2403)] 0), #[]⟩
noncomputable def o129 (_ : Params) : Obj := ⟨.none, none, (.func ⟨s417, s417, fA (stI 10), fB (stI 10), fS (stI 10), 0, [], .none, .none, .none, .none, none, .none, .none, 0⟩), #[]⟩
noncomputable def o130 (_ : Params) : Obj := ⟨(.type "code"), none, (.fields #[(.str s417 2399), (.str s417 2400), (.str s358 2401), (.int 95 0), (.int 1 0), (.int 0 0), (.int 0 0), (.int 3 0), (.ref 156), (.bool true), (.int 276 0), (.ref 157), .none, (.ref 158), (.ref 159), (.ref 160), (.int 2404 0), (.int 95 0), (.str s358 2405)]), #[]⟩
noncomputable def o131 (_ : Params) : Obj := ⟨(.type "function"), none, (.func ⟨s417, s417, fA (stI 10), fB (stI 10), fS (stI 10), 3, [], .none, .none, .none, (.str s452 379), none, (.ref 161), .none, 0⟩), #[]⟩
noncomputable def o132 (_ : Params) : Obj := ⟨(.type "list"), none, (.seq #[(.int 14 2412), (.int 14 2413), (.int 4 2414), (.int 1 2415), (.int 1 2416), (.int 9 2417), (.int 0 2418), (.int 4227896069 2419), (.int 939524097 2420), (.int 0 2421), (.int 0 2422), (.int 0 2423), (.int 0 2424), (.int 0 2425), (.int 0 2426), (.int 13 2427), (.int 11 2428), (.int 9 2429), (.int 0 2430), (.int 4227896069 2431), (.int 939524097 2432), (.int 0 2433), (.int 0 2434), (.int 0 2435), (.int 0 2436), (.int 0 2437), (.int 0 2438), (.int 1 2439)] 0), #[]⟩
noncomputable def o133 (_ : Params) : Obj := ⟨(.type "tuple"), none, (.seq #[.none] 0), #[]⟩
noncomputable def o134 (_ : Params) : Obj := ⟨(.type "tuple"), none, (.seq #[(.int 14 0), (.int 14 0), (.int 4 0), (.int 1 0), (.int 1 0), (.int 9 0), (.int 0 0), (.int 4227896069 0), (.int 939524097 0), (.int 0 0), (.int 0 0), (.int 0 0), (.int 0 0), (.int 0 0), (.int 0 0), (.int 13 0), (.int 11 0), (.int 9 0), (.int 0 0), (.int 4227896069 0), (.int 939524097 0), (.int 0 0), (.int 0 0), (.int 0 0), (.int 0 0), (.int 0 0), (.int 0 0), (.int 1 0)] 0), #[]⟩
def s453 : Str := ⟨#[91, 32, 92, 40, 92, 41, 60, 62, 64, 44, 59, 58, 92, 92, 34, 47, 92, 91, 92, 93, 92, 63, 61, 93]⟩
noncomputable def o135 (_ : Params) : Obj := ⟨(.type "re.Pattern"), none, (.fields #[(.str s453 2410), (.int 32 2441), (.int 0 0), .none, .none, (.ref 166), (.int 0 0)]), #[]⟩
noncomputable def o136 (_ : Params) : Obj := ⟨(.type "list"), none, (.seq #[(.int 14 2446), (.int 10 2447), (.int 4 2448), (.int 1 2449), (.int 1 2450), (.int 22 2451), (.int 0 2452), (.int 31 2453), (.int 16 2454), (.int 127 2455), (.int 0 2456), (.int 13 2457), (.int 7 2458), (.int 22 2459), (.int 0 2460), (.int 31 2461), (.int 16 2462), (.int 127 2463), (.int 0 2464), (.int 1 2465)] 0), #[]⟩
noncomputable def o137 (_ : Params) : Obj := ⟨(.type "tuple"), none, (.seq #[(.int 14 0), (.int 10 0), (.int 4 0), (.int 1 0), (.int 1 0), (.int 22 0), (.int 0 0), (.int 31 0), (.int 16 0), (.int 127 0), (.int 0 0), (.int 13 0), (.int 7 0), (.int 22 0), (.int 0 0), (.int 31 0), (.int 16 0), (.int 127 0), (.int 0 0), (.int 1 0)] 0), #[]⟩
def s454 : Str := ⟨#[91, 92, 120, 48, 48, 45, 92, 120, 49, 70, 92, 120, 55, 70, 93]⟩
noncomputable def o138 (_ : Params) : Obj := ⟨(.type "re.Pattern"), none, (.fields #[(.str s454 2444), (.int 32 2467), (.int 0 0), .none, .none, (.ref 171), (.int 0 0)]), #[]⟩
noncomputable def o139 (_ : Params) : Obj := ⟨(.type "list"), none, (.seq #[(.int 14 2472), (.int 14 2473), (.int 4 2474), (.int 1 2475), (.int 1 2476), (.int 9 2477), (.int 4294966783 2478), (.int 0 2479), (.int 0 2480), (.int 2147483648 2481), (.int 0 2482), (.int 0 2483), (.int 0 2484), (.int 0 2485), (.int 0 2486), (.int 13 2487), (.int 11 2488), (.int 9 2489), (.int 4294966783 2490), (.int 0 2491), (.int 0 2492), (.int 2147483648 2493), (.int 0 2494), (.int 0 2495), (.int 0 2496), (.int 0 2497), (.int 0 2498), (.int 1 2499)] 0), #[]⟩
noncomputable def o140 (_ : Params) : Obj := ⟨(.type "tuple"), none, (.seq #[(.int 14 0), (.int 14 0), (.int 4 0), (.int 1 0), (.int 1 0), (.int 9 0), (.int 4294966783 0), (.int 0 0), (.int 0 0), (.int 2147483648 0), (.int 0 0), (.int 0 0), (.int 0 0), (.int 0 0), (.int 0 0), (.int 13 0), (.int 11 0), (.int 9 0), (.int 4294966783 0), (.int 0 0), (.int 0 0), (.int 2147483648 0), (.int 0 0), (.int 0 0), (.int 0 0), (.int 0 0), (.int 0 0), (.int 1 0)] 0), #[]⟩
def s455 : Str := ⟨#[91, 92, 120, 48, 48, 45, 92, 120, 48, 56, 92, 120, 48, 65, 45, 92, 120, 49, 70, 92, 120, 55, 70, 93]⟩
noncomputable def o141 (_ : Params) : Obj := ⟨(.type "re.Pattern"), none, (.fields #[(.str s455 2470), (.int 32 2501), (.int 0 0), .none, .none, (.ref 176), (.int 0 0)]), #[]⟩
noncomputable def o142 (_ : Params) : Obj := ⟨(.type "tuple"), none, (.seq #[.none, (.int 1 2503)] 0), #[]⟩
def s456 : Str := ⟨#[112, 97, 114, 97, 109]⟩
def s457 : Str := ⟨#[118, 97, 108, 117, 101]⟩
def s458 : Str := ⟨#[113, 117, 111, 116, 101]⟩
noncomputable def o143 (_ : Params) : Obj := ⟨(.type "tuple"), none, (.seq #[(.str s456 2507), (.str s457 2508), (.str s458 2509)] 0), #[]⟩
noncomputable def o144 (_ : Params) : Obj := ⟨.none, none, (.func ⟨s421, s421, fA (stI 15), fB (stI 15), fS (stI 15), 0, [], .none, .none, .none, .none, none, .none, .none, 0⟩), #[]⟩
noncomputable def o145 (_ : Params) : Obj := ⟨(.type "code"), none, (.fields #[(.str s421 2504), (.str s421 2505), (.str s358 2506), (.int 104 0), (.int 3 0), (.int 0 0), (.int 0 0), (.int 3 0), (.ref 179), (.bool true), (.int 276 0), (.ref 180), .none, (.ref 181), (.ref 182), (.ref 183), (.int 2510 0), (.int 104 0), (.str s358 2511)]), #[]⟩
def s459 : Str := ⟨#[99, 112, 121, 51, 49, 51, 46, 119, 115, 103, 105, 114, 101, 102, 46, 104, 101, 97, 100, 101, 114, 115]⟩
noncomputable def o146 (_ : Params) : Obj := ⟨(.type "function"), none, (.func ⟨s421, s421, fA (stI 15), fB (stI 15), fS (stI 15), 3, [], (.ref 178), .none, .none, (.str s459 2407), none, (.ref 184), .none, 0⟩), #[]⟩
def s460 : Str := ⟨#[95, 99, 111, 110, 118, 101, 114, 116, 95, 115, 116, 114, 105, 110, 103, 95, 116, 121, 112, 101]⟩
def s461 : Str := ⟨#[95, 95, 108, 101, 110, 95, 95]⟩
def s462 : Str := ⟨#[95, 95, 115, 101, 116, 105, 116, 101, 109, 95, 95]⟩
def s463 : Str := ⟨#[95, 95, 100, 101, 108, 105, 116, 101, 109, 95, 95]⟩
def s464 : Str := ⟨#[95, 95, 103, 101, 116, 105, 116, 101, 109, 95, 95]⟩
def s465 : Str := ⟨#[95, 95, 99, 111, 110, 116, 97, 105, 110, 115, 95, 95]⟩
def s466 : Str := ⟨#[103, 101, 116, 95, 97, 108, 108]⟩
def s467 : Str := ⟨#[103, 101, 116]⟩
def s468 : Str := ⟨#[107, 101, 121, 115]⟩
def s469 : Str := ⟨#[118, 97, 108, 117, 101, 115]⟩
def s470 : Str := ⟨#[105, 116, 101, 109, 115]⟩
def s471 : Str := ⟨#[95, 95, 115, 116, 114, 95, 95]⟩
def s472 : Str := ⟨#[95, 95, 98, 121, 116, 101, 115, 95, 95]⟩
def s473 : Str := ⟨#[115, 101, 116, 100, 101, 102, 97, 117, 108, 116]⟩
def s474 : Str := ⟨#[97, 100, 100, 95, 104, 101, 97, 100, 101, 114]⟩
noncomputable def o147 (P : Params) : Obj := ⟨(.type "dict"), none, (.dict #[⟨(kh P s373), (.str s373 2520), (.str s459 2407)⟩, ⟨(kh P s434), (.str s434 2522), (.str s422 2521)⟩, ⟨(kh P s375), (.str s375 2524), (.int 113 2523)⟩, ⟨(kh P s400), (.str s400 2534), (.ref 200)⟩, ⟨(kh P s460), (.str s460 2544), (.ref 207)⟩, ⟨(kh P s461), (.str s461 2551), (.ref 214)⟩, ⟨(kh P s462), (.str s462 2560), (.ref 221)⟩, ⟨(kh P s463), (.str s463 2566), (.ref 226)⟩, ⟨(kh P s464), (.str s464 2574), (.ref 233)⟩, ⟨(kh P s465), (.str s465 2582), (.ref 240)⟩, ⟨(kh P s466), (.str s466 2588), (.ref 245)⟩, ⟨(kh P s467), (.str s467 2599), (.ref 253)⟩, ⟨(kh P s468), (.str s468 2605), (.ref 258)⟩, ⟨(kh P s469), (.str s469 2611), (.ref 263)⟩, ⟨(kh P s470), (.str s470 2618), (.ref 270)⟩, ⟨(kh P s401), (.str s401 2625), (.ref 277)⟩, ⟨(kh P s471), (.str s471 2631), (.ref 282)⟩, ⟨(kh P s472), (.str s472 2638), (.ref 289)⟩, ⟨(kh P s473), (.str s473 2647), (.ref 296)⟩, ⟨(kh P s474), (.str s474 2660), (.ref 303)⟩, ⟨(kh P s385), (.str s385 2662), (.ref 304)⟩] 21), #[]⟩
noncomputable def o148 (_ : Params) : Obj := ⟨.none, none, (.fields #[(.int 115 0), (.int 4 0), (.ref 199), (.int 125 0), (.int 4 0), (.ref 206), (.int 133 0), (.int 4 0), (.ref 213), (.int 136 0), (.int 4 0), (.ref 220), (.int 140 0), (.int 4 0), (.ref 225), (.int 144 0), (.int 4 0), (.ref 232), (.int 147 0), (.int 4 0), (.ref 239), (.int 150 0), (.int 4 0), (.ref 244), (.int 154 0), (.int 4 0), (.ref 252), (.int 161 0), (.int 4 0), (.ref 257), (.int 164 0), (.int 4 0), (.ref 262), (.int 167 0), (.int 4 0), (.ref 269), (.int 170 0), (.int 4 0), (.ref 276), (.int 173 0), (.int 4 0), (.ref 281), (.int 176 0), (.int 4 0), (.ref 288), (.int 179 0), (.int 4 0), (.ref 295), (.int 182 0), (.int 4 0), (.ref 302)]), #[]⟩
noncomputable def o149 (_ : Params) : Obj := ⟨(.type "code"), none, (.fields #[(.str s422 2515), (.str s422 2516), (.str s358 2517), (.int 113 0), (.int 0 0), (.int 0 0), (.int 0 0), (.int 0 0), (.ref 189), (.bool false), (.int 276 0), (.ref 190), .none, .none, .none, .none, (.int 2518 0), (.int 113 0), (.str s358 2519)]), #[]⟩
noncomputable def o150 (_ : Params) : Obj := ⟨(.type "frame"), none, .plain, #[(some (.ref 191)), (some (.ref 3)), (some (.ref 188)), none, (some (.str s459 2407)), none, (some (.ref 0))]⟩
def s475 : Str := ⟨#[104, 101, 97, 100, 101, 114, 115]⟩
noncomputable def o151 (_ : Params) : Obj := ⟨(.type "tuple"), none, (.seq #[(.str s438 2528), (.str s475 2529), (.str s162 2530), (.str s166 2531)] 0), #[]⟩
def s476 : Str := ⟨#[72, 101, 97, 100, 101, 114, 115, 46, 95, 95, 105, 110, 105, 116, 95, 95]⟩
noncomputable def o152 (_ : Params) : Obj := ⟨.none, none, (.func ⟨s400, s476, fA (inI (stI 16) 0), fB (inI (stI 16) 0), fS (inI (stI 16) 0), 0, [], .none, .none, .none, .none, none, .none, .none, 0⟩), #[]⟩
noncomputable def o153 (_ : Params) : Obj := ⟨(.type "code"), none, (.fields #[(.str s400 2525), (.str s476 2526), (.str s358 2527), (.int 115 0), (.int 2 0), (.int 0 0), (.int 0 0), (.int 3 0), (.ref 194), (.bool true), (.int 276 0), (.ref 195), .none, (.ref 196), (.ref 197), (.ref 198), (.int 2532 0), (.int 115 0), (.str s358 2533)]), #[]⟩
noncomputable def o154 (_ : Params) : Obj := ⟨(.type "function"), none, (.func ⟨s400, s476, fA (inI (stI 16) 0), fB (inI (stI 16) 0), fS (inI (stI 16) 0), 3, [], (.ref 193), .none, .none, (.str s459 2407), none, (.ref 199), .none, 0⟩), #[]⟩
def s477 : Str := ⟨#[114, 101, 103, 101, 120]⟩
noncomputable def o155 (_ : Params) : Obj := ⟨(.type "tuple"), none, (.seq #[(.str s438 2538), (.str s457 2539), (.str s391 2540), (.str s477 2541)] 0), #[]⟩
def s478 : Str := ⟨#[72, 101, 97, 100, 101, 114, 115, 46, 95, 99, 111, 110, 118, 101, 114, 116, 95, 115, 116, 114, 105, 110, 103, 95, 116, 121, 112, 101]⟩
noncomputable def o156 (_ : Params) : Obj := ⟨.none, none, (.func ⟨s460, s478, fA (inI (stI 16) 1), fB (inI (stI 16) 1), fS (inI (stI 16) 1), 0, [], .none, .none, .none, .none, none, .none, .none, 0⟩), #[]⟩
noncomputable def o157 (_ : Params) : Obj := ⟨(.type "code"), none, (.fields #[(.str s460 2535), (.str s478 2536), (.str s358 2537), (.int 125 0), (.int 2 0), (.int 0 0), (.int 1 0), (.int 3 0), (.ref 201), (.bool true), (.int 276 0), (.ref 202), .none, (.ref 203), (.ref 204), (.ref 205), (.int 2542 0), (.int 125 0), (.str s358 2543)]), #[]⟩
noncomputable def o158 (_ : Params) : Obj := ⟨(.type "function"), none, (.func ⟨s460, s478, fA (inI (stI 16) 1), fB (inI (stI 16) 1), fS (inI (stI 16) 1), 3, [], .none, .none, .none, (.str s459 2407), none, (.ref 206), .none, 0⟩), #[]⟩
noncomputable def o159 (_ : Params) : Obj := ⟨(.type "tuple"), none, (.seq #[(.str s438 2548)] 0), #[]⟩
def s479 : Str := ⟨#[72, 101, 97, 100, 101, 114, 115, 46, 95, 95, 108, 101, 110, 95, 95]⟩
noncomputable def o160 (_ : Params) : Obj := ⟨.none, none, (.func ⟨s461, s479, fA (inI (stI 16) 2), fB (inI (stI 16) 2), fS (inI (stI 16) 2), 0, [], .none, .none, .none, .none, none, .none, .none, 0⟩), #[]⟩
noncomputable def o161 (_ : Params) : Obj := ⟨(.type "code"), none, (.fields #[(.str s461 2545), (.str s479 2546), (.str s358 2547), (.int 133 0), (.int 1 0), (.int 0 0), (.int 0 0), (.int 3 0), (.ref 208), (.bool true), (.int 276 0), (.ref 209), .none, (.ref 210), (.ref 211), (.ref 212), (.int 2549 0), (.int 133 0), (.str s358 2550)]), #[]⟩
noncomputable def o162 (_ : Params) : Obj := ⟨(.type "function"), none, (.func ⟨s461, s479, fA (inI (stI 16) 2), fB (inI (stI 16) 2), fS (inI (stI 16) 2), 3, [], .none, .none, .none, (.str s459 2407), none, (.ref 213), .none, 0⟩), #[]⟩
def s480 : Str := ⟨#[118, 97, 108]⟩
noncomputable def o163 (_ : Params) : Obj := ⟨(.type "tuple"), none, (.seq #[(.str s438 2555), (.str s391 2556), (.str s480 2557)] 0), #[]⟩
def s481 : Str := ⟨#[72, 101, 97, 100, 101, 114, 115, 46, 95, 95, 115, 101, 116, 105, 116, 101, 109, 95, 95]⟩
noncomputable def o164 (_ : Params) : Obj := ⟨.none, none, (.func ⟨s462, s481, fA (inI (stI 16) 3), fB (inI (stI 16) 3), fS (inI (stI 16) 3), 0, [], .none, .none, .none, .none, none, .none, .none, 0⟩), #[]⟩
noncomputable def o165 (_ : Params) : Obj := ⟨(.type "code"), none, (.fields #[(.str s462 2552), (.str s481 2553), (.str s358 2554), (.int 136 0), (.int 3 0), (.int 0 0), (.int 0 0), (.int 3 0), (.ref 215), (.bool true), (.int 276 0), (.ref 216), .none, (.ref 217), (.ref 218), (.ref 219), (.int 2558 0), (.int 136 0), (.str s358 2559)]), #[]⟩
noncomputable def o166 (_ : Params) : Obj := ⟨(.type "function"), none, (.func ⟨s462, s481, fA (inI (stI 16) 3), fB (inI (stI 16) 3), fS (inI (stI 16) 3), 3, [], .none, .none, .none, (.str s459 2407), none, (.ref 220), .none, 0⟩), #[]⟩
def s482 : Str := ⟨#[72, 101, 97, 100, 101, 114, 115, 46, 95, 95, 100, 101, 108, 105, 116, 101, 109, 95, 95]⟩
noncomputable def o167 (_ : Params) : Obj := ⟨.none, none, (.func ⟨s463, s482, fA (inI (stI 16) 4), fB (inI (stI 16) 4), fS (inI (stI 16) 4), 0, [], .none, .none, .none, .none, none, .none, .none, 0⟩), #[]⟩
noncomputable def o168 (_ : Params) : Obj := ⟨(.type "code"), none, (.fields #[(.str s463 2561), (.str s482 2562), (.str s358 2563), (.int 140 0), (.int 2 0), (.int 0 0), (.int 0 0), (.int 3 0), (.ref 222), (.bool true), (.int 276 0), (.ref 223), .none, .none, .none, (.ref 224), (.int 2564 0), (.int 140 0), (.str s358 2565)]), #[]⟩
noncomputable def o169 (_ : Params) : Obj := ⟨(.type "function"), none, (.func ⟨s463, s482, fA (inI (stI 16) 4), fB (inI (stI 16) 4), fS (inI (stI 16) 4), 3, [], .none, .none, .none, (.str s459 2407), none, (.ref 225), .none, 0⟩), #[]⟩
noncomputable def o170 (_ : Params) : Obj := ⟨(.type "tuple"), none, (.seq #[(.str s438 2570), (.str s391 2571)] 0), #[]⟩
def s483 : Str := ⟨#[72, 101, 97, 100, 101, 114, 115, 46, 95, 95, 103, 101, 116, 105, 116, 101, 109, 95, 95]⟩
noncomputable def o171 (_ : Params) : Obj := ⟨.none, none, (.func ⟨s464, s483, fA (inI (stI 16) 5), fB (inI (stI 16) 5), fS (inI (stI 16) 5), 0, [], .none, .none, .none, .none, none, .none, .none, 0⟩), #[]⟩
noncomputable def o172 (_ : Params) : Obj := ⟨(.type "code"), none, (.fields #[(.str s464 2567), (.str s483 2568), (.str s358 2569), (.int 144 0), (.int 2 0), (.int 0 0), (.int 0 0), (.int 3 0), (.ref 227), (.bool true), (.int 276 0), (.ref 228), .none, (.ref 229), (.ref 230), (.ref 231), (.int 2572 0), (.int 144 0), (.str s358 2573)]), #[]⟩
noncomputable def o173 (_ : Params) : Obj := ⟨(.type "function"), none, (.func ⟨s464, s483, fA (inI (stI 16) 5), fB (inI (stI 16) 5), fS (inI (stI 16) 5), 3, [], .none, .none, .none, (.str s459 2407), none, (.ref 232), .none, 0⟩), #[]⟩
noncomputable def o174 (_ : Params) : Obj := ⟨(.type "tuple"), none, (.seq #[(.str s438 2578), (.str s391 2579)] 0), #[]⟩
def s484 : Str := ⟨#[72, 101, 97, 100, 101, 114, 115, 46, 95, 95, 99, 111, 110, 116, 97, 105, 110, 115, 95, 95]⟩
noncomputable def o175 (_ : Params) : Obj := ⟨.none, none, (.func ⟨s465, s484, fA (inI (stI 16) 6), fB (inI (stI 16) 6), fS (inI (stI 16) 6), 0, [], .none, .none, .none, .none, none, .none, .none, 0⟩), #[]⟩
noncomputable def o176 (_ : Params) : Obj := ⟨(.type "code"), none, (.fields #[(.str s465 2575), (.str s484 2576), (.str s358 2577), (.int 147 0), (.int 2 0), (.int 0 0), (.int 0 0), (.int 3 0), (.ref 234), (.bool true), (.int 276 0), (.ref 235), .none, (.ref 236), (.ref 237), (.ref 238), (.int 2580 0), (.int 147 0), (.str s358 2581)]), #[]⟩
noncomputable def o177 (_ : Params) : Obj := ⟨(.type "function"), none, (.func ⟨s465, s484, fA (inI (stI 16) 6), fB (inI (stI 16) 6), fS (inI (stI 16) 6), 3, [], .none, .none, .none, (.str s459 2407), none, (.ref 239), .none, 0⟩), #[]⟩
def s485 : Str := ⟨#[72, 101, 97, 100, 101, 114, 115, 46, 103, 101, 116, 95, 97, 108, 108]⟩
noncomputable def o178 (_ : Params) : Obj := ⟨.none, none, (.func ⟨s466, s485, fA (inI (stI 16) 7), fB (inI (stI 16) 7), fS (inI (stI 16) 7), 0, [], .none, .none, .none, .none, none, .none, .none, 0⟩), #[]⟩
noncomputable def o179 (_ : Params) : Obj := ⟨(.type "code"), none, (.fields #[(.str s466 2583), (.str s485 2584), (.str s358 2585), (.int 150 0), (.int 2 0), (.int 0 0), (.int 0 0), (.int 3 0), (.ref 241), (.bool true), (.int 276 0), (.ref 242), .none, .none, .none, (.ref 243), (.int 2586 0), (.int 150 0), (.str s358 2587)]), #[]⟩
noncomputable def o180 (_ : Params) : Obj := ⟨(.type "function"), none, (.func ⟨s466, s485, fA (inI (stI 16) 7), fB (inI (stI 16) 7), fS (inI (stI 16) 7), 3, [], .none, .none, .none, (.str s459 2407), none, (.ref 244), .none, 0⟩), #[]⟩
def s486 : Str := ⟨#[100, 101, 102, 97, 117, 108, 116]⟩
noncomputable def o181 (_ : Params) : Obj := ⟨(.type "tuple"), none, (.seq #[(.str s438 2592), (.str s391 2593), (.str s486 2594), (.str s162 2595), (.str s166 2596)] 0), #[]⟩
def s487 : Str := ⟨#[72, 101, 97, 100, 101, 114, 115, 46, 103, 101, 116]⟩
noncomputable def o182 (_ : Params) : Obj := ⟨.none, none, (.func ⟨s467, s487, fA (inI (stI 16) 8), fB (inI (stI 16) 8), fS (inI (stI 16) 8), 0, [], .none, .none, .none, .none, none, .none, .none, 0⟩), #[]⟩
noncomputable def o183 (_ : Params) : Obj := ⟨(.type "code"), none, (.fields #[(.str s467 2589), (.str s487 2590), (.str s358 2591), (.int 154 0), (.int 3 0), (.int 0 0), (.int 0 0), (.int 3 0), (.ref 247), (.bool true), (.int 276 0), (.ref 248), .none, (.ref 249), (.ref 250), (.ref 251), (.int 2597 0), (.int 154 0), (.str s358 2598)]), #[]⟩
noncomputable def o184 (_ : Params) : Obj := ⟨(.type "function"), none, (.func ⟨s467, s487, fA (inI (stI 16) 8), fB (inI (stI 16) 8), fS (inI (stI 16) 8), 3, [], (.ref 246), .none, .none, (.str s459 2407), none, (.ref 252), .none, 0⟩), #[]⟩
def s488 : Str := ⟨#[72, 101, 97, 100, 101, 114, 115, 46, 107, 101, 121, 115]⟩
noncomputable def o185 (_ : Params) : Obj := ⟨.none, none, (.func ⟨s468, s488, fA (inI (stI 16) 9), fB (inI (stI 16) 9), fS (inI (stI 16) 9), 0, [], .none, .none, .none, .none, none, .none, .none, 0⟩), #[]⟩
noncomputable def o186 (_ : Params) : Obj := ⟨(.type "code"), none, (.fields #[(.str s468 2600), (.str s488 2601), (.str s358 2602), (.int 161 0), (.int 1 0), (.int 0 0), (.int 0 0), (.int 3 0), (.ref 254), (.bool true), (.int 276 0), (.ref 255), .none, .none, .none, (.ref 256), (.int 2603 0), (.int 161 0), (.str s358 2604)]), #[]⟩
noncomputable def o187 (_ : Params) : Obj := ⟨(.type "function"), none, (.func ⟨s468, s488, fA (inI (stI 16) 9), fB (inI (stI 16) 9), fS (inI (stI 16) 9), 3, [], .none, .none, .none, (.str s459 2407), none, (.ref 257), .none, 0⟩), #[]⟩
def s489 : Str := ⟨#[72, 101, 97, 100, 101, 114, 115, 46, 118, 97, 108, 117, 101, 115]⟩
noncomputable def o188 (_ : Params) : Obj := ⟨.none, none, (.func ⟨s469, s489, fA (inI (stI 16) 10), fB (inI (stI 16) 10), fS (inI (stI 16) 10), 0, [], .none, .none, .none, .none, none, .none, .none, 0⟩), #[]⟩
noncomputable def o189 (_ : Params) : Obj := ⟨(.type "code"), none, (.fields #[(.str s469 2606), (.str s489 2607), (.str s358 2608), (.int 164 0), (.int 1 0), (.int 0 0), (.int 0 0), (.int 3 0), (.ref 259), (.bool true), (.int 276 0), (.ref 260), .none, .none, .none, (.ref 261), (.int 2609 0), (.int 164 0), (.str s358 2610)]), #[]⟩
noncomputable def o190 (_ : Params) : Obj := ⟨(.type "function"), none, (.func ⟨s469, s489, fA (inI (stI 16) 10), fB (inI (stI 16) 10), fS (inI (stI 16) 10), 3, [], .none, .none, .none, (.str s459 2407), none, (.ref 262), .none, 0⟩), #[]⟩
noncomputable def o191 (_ : Params) : Obj := ⟨(.type "tuple"), none, (.seq #[(.str s438 2615)] 0), #[]⟩
def s490 : Str := ⟨#[72, 101, 97, 100, 101, 114, 115, 46, 105, 116, 101, 109, 115]⟩
noncomputable def o192 (_ : Params) : Obj := ⟨.none, none, (.func ⟨s470, s490, fA (inI (stI 16) 11), fB (inI (stI 16) 11), fS (inI (stI 16) 11), 0, [], .none, .none, .none, .none, none, .none, .none, 0⟩), #[]⟩
noncomputable def o193 (_ : Params) : Obj := ⟨(.type "code"), none, (.fields #[(.str s470 2612), (.str s490 2613), (.str s358 2614), (.int 167 0), (.int 1 0), (.int 0 0), (.int 0 0), (.int 3 0), (.ref 264), (.bool true), (.int 276 0), (.ref 265), .none, (.ref 266), (.ref 267), (.ref 268), (.int 2616 0), (.int 167 0), (.str s358 2617)]), #[]⟩
noncomputable def o194 (_ : Params) : Obj := ⟨(.type "function"), none, (.func ⟨s470, s490, fA (inI (stI 16) 11), fB (inI (stI 16) 11), fS (inI (stI 16) 11), 3, [], .none, .none, .none, (.str s459 2407), none, (.ref 269), .none, 0⟩), #[]⟩
noncomputable def o195 (_ : Params) : Obj := ⟨(.type "tuple"), none, (.seq #[(.str s438 2622)] 0), #[]⟩
def s491 : Str := ⟨#[72, 101, 97, 100, 101, 114, 115, 46, 95, 95, 114, 101, 112, 114, 95, 95]⟩
noncomputable def o196 (_ : Params) : Obj := ⟨.none, none, (.func ⟨s401, s491, fA (inI (stI 16) 12), fB (inI (stI 16) 12), fS (inI (stI 16) 12), 0, [], .none, .none, .none, .none, none, .none, .none, 0⟩), #[]⟩
noncomputable def o197 (_ : Params) : Obj := ⟨(.type "code"), none, (.fields #[(.str s401 2619), (.str s491 2620), (.str s358 2621), (.int 170 0), (.int 1 0), (.int 0 0), (.int 0 0), (.int 3 0), (.ref 271), (.bool true), (.int 276 0), (.ref 272), .none, (.ref 273), (.ref 274), (.ref 275), (.int 2623 0), (.int 170 0), (.str s358 2624)]), #[]⟩
noncomputable def o198 (_ : Params) : Obj := ⟨(.type "function"), none, (.func ⟨s401, s491, fA (inI (stI 16) 12), fB (inI (stI 16) 12), fS (inI (stI 16) 12), 3, [], .none, .none, .none, (.str s459 2407), none, (.ref 276), .none, 0⟩), #[]⟩
def s492 : Str := ⟨#[72, 101, 97, 100, 101, 114, 115, 46, 95, 95, 115, 116, 114, 95, 95]⟩
noncomputable def o199 (_ : Params) : Obj := ⟨.none, none, (.func ⟨s471, s492, fA (inI (stI 16) 13), fB (inI (stI 16) 13), fS (inI (stI 16) 13), 0, [], .none, .none, .none, .none, none, .none, .none, 0⟩), #[]⟩
noncomputable def o200 (_ : Params) : Obj := ⟨(.type "code"), none, (.fields #[(.str s471 2626), (.str s492 2627), (.str s358 2628), (.int 173 0), (.int 1 0), (.int 0 0), (.int 0 0), (.int 3 0), (.ref 278), (.bool true), (.int 276 0), (.ref 279), .none, .none, .none, (.ref 280), (.int 2629 0), (.int 173 0), (.str s358 2630)]), #[]⟩
noncomputable def o201 (_ : Params) : Obj := ⟨(.type "function"), none, (.func ⟨s471, s492, fA (inI (stI 16) 13), fB (inI (stI 16) 13), fS (inI (stI 16) 13), 3, [], .none, .none, .none, (.str s459 2407), none, (.ref 281), .none, 0⟩), #[]⟩
noncomputable def o202 (_ : Params) : Obj := ⟨(.type "tuple"), none, (.seq #[(.str s438 2635)] 0), #[]⟩
def s493 : Str := ⟨#[72, 101, 97, 100, 101, 114, 115, 46, 95, 95, 98, 121, 116, 101, 115, 95, 95]⟩
noncomputable def o203 (_ : Params) : Obj := ⟨.none, none, (.func ⟨s472, s493, fA (inI (stI 16) 14), fB (inI (stI 16) 14), fS (inI (stI 16) 14), 0, [], .none, .none, .none, .none, none, .none, .none, 0⟩), #[]⟩
noncomputable def o204 (_ : Params) : Obj := ⟨(.type "code"), none, (.fields #[(.str s472 2632), (.str s493 2633), (.str s358 2634), (.int 176 0), (.int 1 0), (.int 0 0), (.int 0 0), (.int 3 0), (.ref 283), (.bool true), (.int 276 0), (.ref 284), .none, (.ref 285), (.ref 286), (.ref 287), (.int 2636 0), (.int 176 0), (.str s358 2637)]), #[]⟩
noncomputable def o205 (_ : Params) : Obj := ⟨(.type "function"), none, (.func ⟨s472, s493, fA (inI (stI 16) 14), fB (inI (stI 16) 14), fS (inI (stI 16) 14), 3, [], .none, .none, .none, (.str s459 2407), none, (.ref 288), .none, 0⟩), #[]⟩
noncomputable def o206 (_ : Params) : Obj := ⟨(.type "tuple"), none, (.seq #[(.str s438 2642), (.str s391 2643), (.str s457 2644)] 0), #[]⟩
def s494 : Str := ⟨#[72, 101, 97, 100, 101, 114, 115, 46, 115, 101, 116, 100, 101, 102, 97, 117, 108, 116]⟩
noncomputable def o207 (_ : Params) : Obj := ⟨.none, none, (.func ⟨s473, s494, fA (inI (stI 16) 15), fB (inI (stI 16) 15), fS (inI (stI 16) 15), 0, [], .none, .none, .none, .none, none, .none, .none, 0⟩), #[]⟩
noncomputable def o208 (_ : Params) : Obj := ⟨(.type "code"), none, (.fields #[(.str s473 2639), (.str s494 2640), (.str s358 2641), (.int 179 0), (.int 3 0), (.int 0 0), (.int 0 0), (.int 3 0), (.ref 290), (.bool true), (.int 276 0), (.ref 291), .none, (.ref 292), (.ref 293), (.ref 294), (.int 2645 0), (.int 179 0), (.str s358 2646)]), #[]⟩
noncomputable def o209 (_ : Params) : Obj := ⟨(.type "function"), none, (.func ⟨s473, s494, fA (inI (stI 16) 15), fB (inI (stI 16) 15), fS (inI (stI 16) 15), 3, [], .none, .none, .none, (.str s459 2407), none, (.ref 295), .none, 0⟩), #[]⟩
def s495 : Str := ⟨#[95, 110, 97, 109, 101]⟩
def s496 : Str := ⟨#[95, 118, 97, 108, 117, 101]⟩
def s497 : Str := ⟨#[95, 112, 97, 114, 97, 109, 115]⟩
def s498 : Str := ⟨#[112, 97, 114, 116, 115]⟩
noncomputable def o210 (_ : Params) : Obj := ⟨(.type "tuple"), none, (.seq #[(.str s438 2651), (.str s495 2652), (.str s496 2653), (.str s497 2654), (.str s498 2655), (.str s162 2656), (.str s166 2657)] 0), #[]⟩
def s499 : Str := ⟨#[72, 101, 97, 100, 101, 114, 115, 46, 97, 100, 100, 95, 104, 101, 97, 100, 101, 114]⟩
noncomputable def o211 (_ : Params) : Obj := ⟨.none, none, (.func ⟨s474, s499, fA (inI (stI 16) 16), fB (inI (stI 16) 16), fS (inI (stI 16) 16), 0, [], .none, .none, .none, .none, none, .none, .none, 0⟩), #[]⟩
noncomputable def o212 (_ : Params) : Obj := ⟨(.type "code"), none, (.fields #[(.str s474 2648), (.str s499 2649), (.str s358 2650), (.int 182 0), (.int 3 0), (.int 0 0), (.int 0 0), (.int 11 0), (.ref 297), (.bool true), (.int 276 0), (.ref 298), .none, (.ref 299), (.ref 300), (.ref 301), (.int 2658 0), (.int 182 0), (.str s358 2659)]), #[]⟩
noncomputable def o213 (_ : Params) : Obj := ⟨(.type "function"), none, (.func ⟨s474, s499, fA (inI (stI 16) 16), fB (inI (stI 16) 16), fS (inI (stI 16) 16), 3, [], .none, .none, .none, (.str s459 2407), none, (.ref 302), .none, 0⟩), #[]⟩
def s500 : Str := ⟨#[95, 104, 101, 97, 100, 101, 114, 115]⟩
noncomputable def o214 (_ : Params) : Obj := ⟨(.type "tuple"), none, (.seq #[(.str s500 2661)] 0), #[]⟩
noncomputable def o215 (P : Params) : Obj := ⟨(.type "dict"), none, (.dict #[⟨(kh P s373), (.str s373 2520), (.str s459 2407)⟩, ⟨(kh P s375), (.str s375 2524), (.int 113 2523)⟩, ⟨(kh P s400), (.str s400 2534), (.ref 200)⟩, ⟨(kh P s460), (.str s460 2544), (.ref 207)⟩, ⟨(kh P s461), (.str s461 2551), (.ref 214)⟩, ⟨(kh P s462), (.str s462 2560), (.ref 221)⟩, ⟨(kh P s463), (.str s463 2566), (.ref 226)⟩, ⟨(kh P s464), (.str s464 2574), (.ref 233)⟩, ⟨(kh P s465), (.str s465 2582), (.ref 240)⟩, ⟨(kh P s466), (.str s466 2588), (.ref 245)⟩, ⟨(kh P s467), (.str s467 2599), (.ref 253)⟩, ⟨(kh P s468), (.str s468 2605), (.ref 258)⟩, ⟨(kh P s469), (.str s469 2611), (.ref 263)⟩, ⟨(kh P s470), (.str s470 2618), (.ref 270)⟩, ⟨(kh P s401), (.str s401 2625), (.ref 277)⟩, ⟨(kh P s471), (.str s471 2631), (.ref 282)⟩, ⟨(kh P s472), (.str s472 2638), (.ref 289)⟩, ⟨(kh P s473), (.str s473 2647), (.ref 296)⟩, ⟨(kh P s474), (.str s474 2660), (.ref 303)⟩, ⟨(kh P s385), (.str s385 2662), (.ref 304)⟩, ⟨(kh P s386), (.str s386 2664), (.ref 307)⟩, ⟨(kh P s387), (.str s387 2666), (.ref 308)⟩, ⟨(kh P s184), (.str s184 2667), .none⟩] 4), #[]⟩
noncomputable def o216 (_ : Params) : Obj := ⟨(.type "type"), none, (.cls ⟨s422, [(.type "object")], [(.ref 306), (.type "object")], 305, s422, true, [], [], false, none, false⟩), #[none, none, (some (.str s422 2513)), (some (.str s422 2521)), (some (.builtin "object.__new__")), (some (.bool true))]⟩
noncomputable def o217 (_ : Params) : Obj := ⟨(.type "getset_descriptor"), none, (.fields #[(.str s386 2663), (.ref 306), (.builtin "function.__dict__"), (.builtin "function.__dict__#set")]), #[]⟩
noncomputable def o218 (_ : Params) : Obj := ⟨(.type "getset_descriptor"), none, (.fields #[(.str s387 2665), (.ref 306), (.builtin "ExceptionGroup.__weakref__"), .none]), #[]⟩
noncomputable def o219 (_ : Params) : Obj := ⟨(.type "super"), none, (.fields #[(.ref 306), (.ref 306), (.ref 306)]), #[]⟩
noncomputable def o220 (_ : Params) : Obj := ⟨(.type "builtin_function_or_method"), none, (.fields #[(.builtin "object.__init_subclass__"), (.ref 306)]), #[]⟩
def s501 : Str := ⟨#[116, 101, 120, 116]⟩
def s502 : Str := ⟨#[95, 108, 97, 119, 95, 114, 101, 97, 100]⟩
def s503 : Str := ⟨#[115, 116, 97, 110, 100]⟩
noncomputable def o221 (_ : Params) : Obj := ⟨(.type "tuple"), none, (.seq #[(.str s501 2675), (.str s502 2676), (.str s503 2677)] 0), #[]⟩
def s504 : Str := ⟨#[112, 108, 97, 99, 101]⟩
noncomputable def o222 (_ : Params) : Obj := ⟨(.type "tuple"), none, (.seq #[(.str s501 2678), (.str s504 2679)] 0), #[]⟩
noncomputable def o223 (_ : Params) : Obj := ⟨.none, none, (.func ⟨s423, s423, fA (stI 18), fB (stI 18), fS (stI 18), 0, [], .none, .none, .none, .none, none, .none, .none, 0⟩), #[]⟩
noncomputable def o224 (_ : Params) : Obj := ⟨(.type "code"), none, (.fields #[(.str s423 2672), (.str s423 2673), (.str s358 2674), (.int 196 0), (.int 1 0), (.int 0 0), (.int 0 0), (.int 3 0), (.ref 311), (.bool true), (.int 276 0), (.ref 312), .none, (.ref 313), (.ref 314), (.ref 315), (.int 2680 0), (.int 196 0), (.str s358 2681)]), #[]⟩
noncomputable def o225 (_ : Params) : Obj := ⟨(.type "function"), none, (.func ⟨s423, s423, fA (stI 18), fB (stI 18), fS (stI 18), 3, [], .none, .none, .none, (.str s409 2670), none, (.ref 316), .none, 0⟩), #[]⟩
def s505 : Str := ⟨#[99, 111, 100, 101, 115]⟩
def s506 : Str := ⟨#[112, 108, 97, 105, 110]⟩
def s507 : Str := ⟨#[103, 114, 101, 97, 116]⟩
def s508 : Str := ⟨#[98, 111, 108, 100]⟩
def s509 : Str := ⟨#[111, 116, 104, 101, 114]⟩
def s510 : Str := ⟨#[97, 104, 101, 97, 100]⟩
def s511 : Str := ⟨#[107, 101, 112, 116]⟩
def s512 : Str := ⟨#[113, 117, 111, 116, 101, 100]⟩
def s513 : Str := ⟨#[104, 105, 100, 100, 101, 110]⟩
def s514 : Str := ⟨#[109, 97, 114, 107, 115]⟩
def s515 : Str := ⟨#[115, 105, 103, 110]⟩
def s516 : Str := ⟨#[98, 111, 100, 121]⟩
noncomputable def o226 (_ : Params) : Obj := ⟨(.type "tuple"), none, (.seq #[(.str s168 2686), (.str s505 2687), (.str s506 2688), (.str s507 2689), (.str s508 2690), (.str s509 2691), (.str s86 2692), (.str s510 2693), (.str s511 2694), (.str s512 2695), (.str s513 2696), (.str s514 2697), (.str s515 2698), (.str s516 2699)] 0), #[]⟩
noncomputable def o227 (_ : Params) : Obj := ⟨.none, none, (.func ⟨s424, s424, fA (stI 19), fB (stI 19), fS (stI 19), 0, [], .none, .none, .none, .none, none, .none, .none, 0⟩), #[]⟩
noncomputable def o228 (_ : Params) : Obj := ⟨(.type "code"), none, (.fields #[(.str s424 2683), (.str s424 2684), (.str s358 2685), (.int 206 0), (.int 1 0), (.int 0 0), (.int 0 0), (.int 3 0), (.ref 318), (.bool true), (.int 276 0), (.ref 319), .none, (.ref 320), (.ref 321), (.ref 322), (.int 2700 0), (.int 206 0), (.str s358 2701)]), #[]⟩
noncomputable def o229 (_ : Params) : Obj := ⟨(.type "function"), none, (.func ⟨s424, s424, fA (stI 19), fB (stI 19), fS (stI 19), 3, [], .none, .none, .none, (.str s409 2670), none, (.ref 323), .none, 0⟩), #[]⟩
noncomputable def o230 (_ : Params) : Obj := ⟨.none, none, (.func ⟨s425, s425, fA (stI 20), fB (stI 20), fS (stI 20), 0, [], .none, .none, .none, .none, none, .none, .none, 0⟩), #[]⟩
noncomputable def o231 (_ : Params) : Obj := ⟨(.type "code"), none, (.fields #[(.str s425 2703), (.str s425 2704), (.str s358 2705), (.int 227 0), (.int 1 0), (.int 0 0), (.int 0 0), (.int 3 0), (.ref 325), (.bool true), (.int 276 0), (.ref 326), .none, .none, .none, (.ref 327), (.int 2706 0), (.int 227 0), (.str s358 2707)]), #[]⟩
noncomputable def o232 (_ : Params) : Obj := ⟨(.type "function"), none, (.func ⟨s425, s425, fA (stI 20), fB (stI 20), fS (stI 20), 3, [], .none, .none, .none, (.str s409 2670), none, (.ref 328), .none, 0⟩), #[]⟩
def s517 : Str := ⟨#[119, 111, 114, 100, 115]⟩
def s518 : Str := ⟨#[98, 101, 103, 105, 110]⟩
def s519 : Str := ⟨#[115, 111, 117, 103, 104, 116]⟩
def s520 : Str := ⟨#[109, 101, 116]⟩
noncomputable def o233 (_ : Params) : Obj := ⟨(.type "tuple"), none, (.seq #[(.str s517 2712), (.str s518 2713), (.str s519 2714), (.str s520 2715), (.str s162 2716)] 0), #[]⟩
noncomputable def o234 (_ : Params) : Obj := ⟨.none, none, (.func ⟨s426, s426, fA (stI 21), fB (stI 21), fS (stI 21), 0, [], .none, .none, .none, .none, none, .none, .none, 0⟩), #[]⟩
noncomputable def o235 (_ : Params) : Obj := ⟨(.type "code"), none, (.fields #[(.str s426 2709), (.str s426 2710), (.str s358 2711), (.int 229 0), (.int 2 0), (.int 0 0), (.int 0 0), (.int 3 0), (.ref 330), (.bool true), (.int 276 0), (.ref 331), .none, (.ref 332), (.ref 333), (.ref 334), (.int 2717 0), (.int 229 0), (.str s358 2718)]), #[]⟩
noncomputable def o236 (_ : Params) : Obj := ⟨(.type "function"), none, (.func ⟨s426, s426, fA (stI 21), fB (stI 21), fS (stI 21), 3, [], .none, .none, .none, (.str s409 2670), none, (.ref 335), .none, 0⟩), #[]⟩
noncomputable def o237 (_ : Params) : Obj := ⟨.none, none, (.func ⟨s427, s427, fA (stI 22), fB (stI 22), fS (stI 22), 0, [], .none, .none, .none, .none, none, .none, .none, 0⟩), #[]⟩
noncomputable def o238 (_ : Params) : Obj := ⟨(.type "code"), none, (.fields #[(.str s427 2720), (.str s427 2721), (.str s358 2722), (.int 238 0), (.int 1 0), (.int 0 0), (.int 0 0), (.int 3 0), (.ref 337), (.bool true), (.int 276 0), (.ref 338), .none, .none, .none, (.ref 339), (.int 2723 0), (.int 238 0), (.str s358 2724)]), #[]⟩
noncomputable def o239 (_ : Params) : Obj := ⟨(.type "function"), none, (.func ⟨s427, s427, fA (stI 22), fB (stI 22), fS (stI 22), 3, [], .none, .none, .none, (.str s409 2670), none, (.ref 340), .none, 0⟩), #[]⟩
noncomputable def hZ (P : Params) : Heap := ⟨#[o0 P, o1 P, o2 P, o30 P, o4 P, o5 P, o6 P, o7 P, o8 P, o9 P, o10 P, o27 P, o12 P, o13 P, o14 P, o7 P, o15 P, o16 P, o17 P, o18 P, o19 P, o20 P, o21 P, o22 P, o23 P, o24 P, o25 P, o26 P, o7 P, o31 P, o28 P, o29 P, o7 P, o8 P, o32 P, o7 P, o33 P, o34 P, o35 P, o36 P, o37 P, o7 P, o8 P, o38 P, o7 P, o39 P, o40 P, o41 P, o42 P, o43 P, o7 P, o8 P, o44 P, o7 P, o45 P, o46 P, o47 P, o7 P, o48 P, o49 P, o7 P, o50 P, o51 P, o52 P, o7 P, o8 P, o53 P, o7 P, o54 P, o55 P, o56 P, o7 P, o8 P, o57 P, o7 P, o58 P, o59 P, o60 P, o7 P, o8 P, o61 P, o7 P, o62 P, o63 P, o64 P, o7 P, o8 P, o65 P, o7 P, o66 P, o67 P, o68 P, o69 P, o70 P, o71 P, o72 P, o73 P, o74 P, o75 P, o76 P, o77 P, o78 P, o79 P, o7 P, o80 P, o81 P, o82 P, o83 P, o7 P, o84 P, o7 P, o8 P, o85 P, o7 P, o86 P, o87 P, o88 P, o89 P, o90 P, o91 P, o92 P, o93 P, o94 P, o95 P, o96 P, o97 P, o98 P, o99 P, o100 P, o101 P, o102 P, o103 P, o104 P, o105 P, o106 P, o107 P, o108 P, o109 P, o110 P, o111 P, o112 P, o113 P, o114 P, o115 P, o116 P, o117 P, o118 P, o119 P, o120 P, o121 P, o122 P, o123 P, o124 P, o125 P, o126 P, o127 P, o7 P, o8 P, o128 P, o7 P, o129 P, o130 P, o131 P, o132 P, o6 P, o133 P, o134 P, o135 P, o136 P, o6 P, o133 P, o137 P, o138 P, o139 P, o6 P, o133 P, o140 P, o141 P, o142 P, o7 P, o8 P, o143 P, o7 P, o144 P, o145 P, o146 P, o7 P, o48 P, o147 P, o7 P, o148 P, o149 P, o150 P, o133 P, o7 P, o8 P, o151 P, o7 P, o152 P, o153 P, o154 P, o7 P, o8 P, o155 P, o7 P, o156 P, o157 P, o158 P, o7 P, o8 P, o159 P, o7 P, o160 P, o161 P, o162 P, o7 P, o8 P, o163 P, o7 P, o164 P, o165 P, o166 P, o7 P, o8 P, o167 P, o168 P, o169 P, o7 P, o8 P, o170 P, o7 P, o171 P, o172 P, o173 P, o7 P, o8 P, o174 P, o7 P, o175 P, o176 P, o177 P, o7 P, o8 P, o178 P, o179 P, o180 P, o133 P, o7 P, o8 P, o181 P, o7 P, o182 P, o183 P, o184 P, o7 P, o8 P, o185 P, o186 P, o187 P, o7 P, o8 P, o188 P, o189 P, o190 P, o7 P, o8 P, o191 P, o7 P, o192 P, o193 P, o194 P, o7 P, o8 P, o195 P, o7 P, o196 P, o197 P, o198 P, o7 P, o8 P, o199 P, o200 P, o201 P, o7 P, o8 P, o202 P, o7 P, o203 P, o204 P, o205 P, o7 P, o8 P, o206 P, o7 P, o207 P, o208 P, o209 P, o7 P, o8 P, o210 P, o7 P, o211 P, o212 P, o213 P, o214 P, o215 P, o216 P, o217 P, o218 P, o219 P, o220 P, o7 P, o8 P, o221 P, o222 P, o223 P, o224 P, o225 P, o7 P, o8 P, o226 P, o7 P, o227 P, o228 P, o229 P, o7 P, o8 P, o230 P, o231 P, o232 P, o7 P, o8 P, o233 P, o7 P, o234 P, o235 P, o236 P, o7 P, o8 P, o237 P, o238 P, o239 P], {}⟩
noncomputable def n0 (P : Params) : BT := .node (o7 P) .nil .nil
noncomputable def n1 (P : Params) : BT := .node (o22 P) .nil .nil
noncomputable def n2 (P : Params) : BT := .node (o7 P) (n0 P) (n1 P)
noncomputable def n3 (P : Params) : BT := .node (o18 P) .nil .nil
noncomputable def n4 (P : Params) : BT := .node (o26 P) .nil .nil
noncomputable def n5 (P : Params) : BT := .node (o27 P) (n3 P) (n4 P)
noncomputable def n6 (P : Params) : BT := .node (o3 P) (n2 P) (n5 P)
noncomputable def n7 (P : Params) : BT := .node (o16 P) .nil .nil
noncomputable def n8 (P : Params) : BT := .node (o24 P) .nil .nil
noncomputable def n9 (P : Params) : BT := .node (o9 P) (n7 P) (n8 P)
noncomputable def n10 (P : Params) : BT := .node (o20 P) .nil .nil
noncomputable def n11 (P : Params) : BT := .node (o13 P) (n10 P) .nil
noncomputable def n12 (P : Params) : BT := .node (o5 P) (n9 P) (n11 P)
noncomputable def n13 (P : Params) : BT := .node (o1 P) (n6 P) (n12 P)
noncomputable def n14 (P : Params) : BT := .node (o15 P) .nil .nil
noncomputable def n15 (P : Params) : BT := .node (o23 P) .nil .nil
noncomputable def n16 (P : Params) : BT := .node (o8 P) (n14 P) (n15 P)
noncomputable def n17 (P : Params) : BT := .node (o19 P) .nil .nil
noncomputable def n18 (P : Params) : BT := .node (o12 P) (n17 P) .nil
noncomputable def n19 (P : Params) : BT := .node (o4 P) (n16 P) (n18 P)
noncomputable def n20 (P : Params) : BT := .node (o17 P) .nil .nil
noncomputable def n21 (P : Params) : BT := .node (o25 P) .nil .nil
noncomputable def n22 (P : Params) : BT := .node (o10 P) (n20 P) (n21 P)
noncomputable def n23 (P : Params) : BT := .node (o21 P) .nil .nil
noncomputable def n24 (P : Params) : BT := .node (o14 P) (n23 P) .nil
noncomputable def n25 (P : Params) : BT := .node (o6 P) (n22 P) (n24 P)
noncomputable def n26 (P : Params) : BT := .node (o2 P) (n19 P) (n25 P)
noncomputable def n27 (P : Params) : BT := .node (o0 P) (n13 P) (n26 P)
noncomputable def n28 (P : Params) : BT := .node (o29 P) .nil .nil
noncomputable def n29 (P : Params) : BT := .node (o7 P) (n28 P) .nil
noncomputable def n30 (P : Params) : BT := .node (o7 P) (n29 P) (n1 P)
noncomputable def n31 (P : Params) : BT := .node (o3 P) (n30 P) (n5 P)
noncomputable def n32 (P : Params) : BT := .node (o8 P) .nil .nil
noncomputable def n33 (P : Params) : BT := .node (o13 P) (n10 P) (n32 P)
noncomputable def n34 (P : Params) : BT := .node (o5 P) (n9 P) (n33 P)
noncomputable def n35 (P : Params) : BT := .node (o1 P) (n31 P) (n34 P)
noncomputable def n36 (P : Params) : BT := .node (o12 P) (n17 P) (n0 P)
noncomputable def n37 (P : Params) : BT := .node (o4 P) (n16 P) (n36 P)
noncomputable def n38 (P : Params) : BT := .node (o28 P) .nil .nil
noncomputable def n39 (P : Params) : BT := .node (o14 P) (n23 P) (n38 P)
noncomputable def n40 (P : Params) : BT := .node (o6 P) (n22 P) (n39 P)
noncomputable def n41 (P : Params) : BT := .node (o2 P) (n37 P) (n40 P)
noncomputable def n42 (P : Params) : BT := .node (o0 P) (n35 P) (n41 P)
noncomputable def o240 (P : Params) : Obj := ⟨(.type "dict"), none, (.dict #[⟨(kh P s182), (.str s182 165), (.str s342 164)⟩, ⟨(kh P s184), (.str s184 166), .none⟩, ⟨(kh P s185), (.str s185 167), .none⟩, ⟨(kh P s186), (.str s186 168), (.builtin "__main__.__loader__#opaque")⟩, ⟨(kh P s187), (.str s187 169), .none⟩, ⟨(kh P s355), (.str s355 170), (.ref 6)⟩, ⟨(kh P s356), (.str s356 171), (.ref 4)⟩, ⟨(kh P s357), (.str s357 173), (.str s358 172)⟩, ⟨(kh P s359), (.str s359 174), .none⟩, ⟨(kh P s343), (.str s343 275), (.ref 12)⟩, ⟨(kh P s410), (.str s410 288), (.ref 38)⟩] 11), #[]⟩
noncomputable def o241 (_ : Params) : Obj := ⟨.none, none, (.fields #[(.int 2 0), (.int 0 0), (.ref 37)]), #[]⟩
noncomputable def n43 (P : Params) : BT := .node (o18 P) (n0 P) .nil
noncomputable def n44 (P : Params) : BT := .node (o27 P) (n43 P) (n4 P)
noncomputable def n45 (P : Params) : BT := .node (o240 P) (n30 P) (n44 P)
noncomputable def n46 (P : Params) : BT := .node (o16 P) (n32 P) .nil
noncomputable def n47 (P : Params) : BT := .node (o9 P) (n46 P) (n8 P)
noncomputable def n48 (P : Params) : BT := .node (o34 P) .nil .nil
noncomputable def n49 (P : Params) : BT := .node (o20 P) (n48 P) .nil
noncomputable def n50 (P : Params) : BT := .node (o241 P) .nil .nil
noncomputable def n51 (P : Params) : BT := .node (o13 P) (n49 P) (n50 P)
noncomputable def n52 (P : Params) : BT := .node (o5 P) (n47 P) (n51 P)
noncomputable def n53 (P : Params) : BT := .node (o1 P) (n45 P) (n52 P)
noncomputable def n54 (P : Params) : BT := .node (o15 P) (n0 P) .nil
noncomputable def n55 (P : Params) : BT := .node (o8 P) (n54 P) (n15 P)
noncomputable def n56 (P : Params) : BT := .node (o33 P) .nil .nil
noncomputable def n57 (P : Params) : BT := .node (o19 P) (n56 P) .nil
noncomputable def n58 (P : Params) : BT := .node (o12 P) (n57 P) (n0 P)
noncomputable def n59 (P : Params) : BT := .node (o4 P) (n55 P) (n58 P)
noncomputable def n60 (P : Params) : BT := .node (o32 P) .nil .nil
noncomputable def n61 (P : Params) : BT := .node (o17 P) (n60 P) .nil
noncomputable def n62 (P : Params) : BT := .node (o10 P) (n61 P) (n21 P)
noncomputable def n63 (P : Params) : BT := .node (o35 P) .nil .nil
noncomputable def n64 (P : Params) : BT := .node (o21 P) (n63 P) .nil
noncomputable def n65 (P : Params) : BT := .node (o14 P) (n64 P) (n38 P)
noncomputable def n66 (P : Params) : BT := .node (o6 P) (n62 P) (n65 P)
noncomputable def n67 (P : Params) : BT := .node (o2 P) (n59 P) (n66 P)
noncomputable def n68 (P : Params) : BT := .node (o0 P) (n53 P) (n67 P)
noncomputable def o242 (P : Params) : Obj := ⟨(.type "dict"), none, (.dict #[⟨(kh P s182), (.str s182 165), (.str s432 289)⟩, ⟨(kh P s184), (.str s184 166), .none⟩, ⟨(kh P s185), (.str s185 167), .none⟩, ⟨(kh P s186), (.str s186 168), (.builtin "__main__.__loader__#opaque")⟩, ⟨(kh P s187), (.str s187 169), .none⟩, ⟨(kh P s355), (.str s355 170), (.ref 6)⟩, ⟨(kh P s356), (.str s356 171), (.ref 4)⟩, ⟨(kh P s357), (.str s357 173), (.str s358 172)⟩, ⟨(kh P s359), (.str s359 174), .none⟩, ⟨(kh P s343), (.str s343 275), (.ref 12)⟩, ⟨(kh P s410), (.str s410 288), (.ref 38)⟩] 11), #[]⟩
noncomputable def n69 (P : Params) : BT := .node (o242 P) (n30 P) (n44 P)
noncomputable def n70 (P : Params) : BT := .node (o1 P) (n69 P) (n52 P)
noncomputable def n71 (P : Params) : BT := .node (o0 P) (n70 P) (n67 P)
noncomputable def o243 (P : Params) : Obj := ⟨(.type "dict"), none, (.dict #[⟨(kh P s182), (.str s182 165), (.str s432 289)⟩, ⟨(kh P s184), (.str s184 166), .none⟩, ⟨(kh P s185), (.str s185 167), .none⟩, ⟨(kh P s186), (.str s186 168), (.builtin "__main__.__loader__#opaque")⟩, ⟨(kh P s187), (.str s187 169), .none⟩, ⟨(kh P s355), (.str s355 170), (.ref 6)⟩, ⟨(kh P s356), (.str s356 171), (.ref 4)⟩, ⟨(kh P s357), (.str s357 173), (.str s358 172)⟩, ⟨(kh P s359), (.str s359 174), .none⟩, ⟨(kh P s343), (.str s343 275), (.ref 12)⟩, ⟨(kh P s410), (.str s410 288), (.ref 38)⟩, ⟨(kh P s411), (.str s411 304), (.ref 47)⟩] 12), #[]⟩
noncomputable def o244 (_ : Params) : Obj := ⟨.none, none, (.fields #[(.int 2 0), (.int 0 0), (.ref 37), (.int 6 0), (.int 0 0), (.ref 46)]), #[]⟩
noncomputable def n72 (P : Params) : BT := .node (o41 P) .nil .nil
noncomputable def n73 (P : Params) : BT := .node (o7 P) (n28 P) (n72 P)
noncomputable def n74 (P : Params) : BT := .node (o36 P) .nil .nil
noncomputable def n75 (P : Params) : BT := .node (o22 P) (n74 P) .nil
noncomputable def n76 (P : Params) : BT := .node (o7 P) (n73 P) (n75 P)
noncomputable def n77 (P : Params) : BT := .node (o38 P) .nil .nil
noncomputable def n78 (P : Params) : BT := .node (o26 P) (n77 P) .nil
noncomputable def n79 (P : Params) : BT := .node (o27 P) (n43 P) (n78 P)
noncomputable def n80 (P : Params) : BT := .node (o243 P) (n76 P) (n79 P)
noncomputable def n81 (P : Params) : BT := .node (o24 P) (n0 P) .nil
noncomputable def n82 (P : Params) : BT := .node (o9 P) (n46 P) (n81 P)
noncomputable def n83 (P : Params) : BT := .node (o39 P) .nil .nil
noncomputable def n84 (P : Params) : BT := .node (o244 P) (n83 P) .nil
noncomputable def n85 (P : Params) : BT := .node (o13 P) (n49 P) (n84 P)
noncomputable def n86 (P : Params) : BT := .node (o5 P) (n82 P) (n85 P)
noncomputable def n87 (P : Params) : BT := .node (o1 P) (n80 P) (n86 P)
noncomputable def n88 (P : Params) : BT := .node (o37 P) .nil .nil
noncomputable def n89 (P : Params) : BT := .node (o23 P) (n88 P) .nil
noncomputable def n90 (P : Params) : BT := .node (o8 P) (n54 P) (n89 P)
noncomputable def n91 (P : Params) : BT := .node (o7 P) (n0 P) .nil
noncomputable def n92 (P : Params) : BT := .node (o12 P) (n57 P) (n91 P)
noncomputable def n93 (P : Params) : BT := .node (o4 P) (n90 P) (n92 P)
noncomputable def n94 (P : Params) : BT := .node (o25 P) (n32 P) .nil
noncomputable def n95 (P : Params) : BT := .node (o10 P) (n61 P) (n94 P)
noncomputable def n96 (P : Params) : BT := .node (o40 P) .nil .nil
noncomputable def n97 (P : Params) : BT := .node (o28 P) (n96 P) .nil
noncomputable def n98 (P : Params) : BT := .node (o14 P) (n64 P) (n97 P)
noncomputable def n99 (P : Params) : BT := .node (o6 P) (n95 P) (n98 P)
noncomputable def n100 (P : Params) : BT := .node (o2 P) (n93 P) (n99 P)
noncomputable def n101 (P : Params) : BT := .node (o0 P) (n87 P) (n100 P)
noncomputable def o245 (P : Params) : Obj := ⟨(.type "dict"), none, (.dict #[⟨(kh P s182), (.str s182 165), (.str s432 289)⟩, ⟨(kh P s184), (.str s184 166), .none⟩, ⟨(kh P s185), (.str s185 167), .none⟩, ⟨(kh P s186), (.str s186 168), (.builtin "__main__.__loader__#opaque")⟩, ⟨(kh P s187), (.str s187 169), .none⟩, ⟨(kh P s355), (.str s355 170), (.ref 6)⟩, ⟨(kh P s356), (.str s356 171), (.ref 4)⟩, ⟨(kh P s357), (.str s357 173), (.str s358 172)⟩, ⟨(kh P s359), (.str s359 174), .none⟩, ⟨(kh P s343), (.str s343 275), (.ref 12)⟩, ⟨(kh P s410), (.str s410 288), (.ref 38)⟩, ⟨(kh P s411), (.str s411 304), (.ref 47)⟩, ⟨(kh P s412), (.str s412 318), (.ref 56)⟩] 13), #[]⟩
noncomputable def o246 (_ : Params) : Obj := ⟨.none, none, (.fields #[(.int 2 0), (.int 0 0), (.ref 37), (.int 6 0), (.int 0 0), (.ref 46), (.int 26 0), (.int 0 0), (.ref 55)]), #[]⟩
noncomputable def n102 (P : Params) : BT := .node (o46 P) .nil .nil
noncomputable def n103 (P : Params) : BT := .node (o22 P) (n74 P) (n102 P)
noncomputable def n104 (P : Params) : BT := .node (o7 P) (n73 P) (n103 P)
noncomputable def n105 (P : Params) : BT := .node (o18 P) (n0 P) (n32 P)
noncomputable def n106 (P : Params) : BT := .node (o27 P) (n105 P) (n78 P)
noncomputable def n107 (P : Params) : BT := .node (o245 P) (n104 P) (n106 P)
noncomputable def n108 (P : Params) : BT := .node (o43 P) .nil .nil
noncomputable def n109 (P : Params) : BT := .node (o16 P) (n32 P) (n108 P)
noncomputable def n110 (P : Params) : BT := .node (o9 P) (n109 P) (n81 P)
noncomputable def n111 (P : Params) : BT := .node (o20 P) (n48 P) (n0 P)
noncomputable def n112 (P : Params) : BT := .node (o246 P) (n83 P) .nil
noncomputable def n113 (P : Params) : BT := .node (o13 P) (n111 P) (n112 P)
noncomputable def n114 (P : Params) : BT := .node (o5 P) (n110 P) (n113 P)
noncomputable def n115 (P : Params) : BT := .node (o1 P) (n107 P) (n114 P)
noncomputable def n116 (P : Params) : BT := .node (o42 P) .nil .nil
noncomputable def n117 (P : Params) : BT := .node (o15 P) (n0 P) (n116 P)
noncomputable def n118 (P : Params) : BT := .node (o47 P) .nil .nil
noncomputable def n119 (P : Params) : BT := .node (o23 P) (n88 P) (n118 P)
noncomputable def n120 (P : Params) : BT := .node (o8 P) (n117 P) (n119 P)
noncomputable def n121 (P : Params) : BT := .node (o44 P) .nil .nil
noncomputable def n122 (P : Params) : BT := .node (o19 P) (n56 P) (n121 P)
noncomputable def n123 (P : Params) : BT := .node (o12 P) (n122 P) (n91 P)
noncomputable def n124 (P : Params) : BT := .node (o4 P) (n120 P) (n123 P)
noncomputable def n125 (P : Params) : BT := .node (o17 P) (n60 P) (n0 P)
noncomputable def n126 (P : Params) : BT := .node (o10 P) (n125 P) (n94 P)
noncomputable def n127 (P : Params) : BT := .node (o45 P) .nil .nil
noncomputable def n128 (P : Params) : BT := .node (o21 P) (n63 P) (n127 P)
noncomputable def n129 (P : Params) : BT := .node (o14 P) (n128 P) (n97 P)
noncomputable def n130 (P : Params) : BT := .node (o6 P) (n126 P) (n129 P)
noncomputable def n131 (P : Params) : BT := .node (o2 P) (n124 P) (n130 P)
noncomputable def n132 (P : Params) : BT := .node (o0 P) (n115 P) (n131 P)
noncomputable def o247 (P : Params) : Obj := ⟨(.type "dict"), none, (.dict #[⟨(kh P s182), (.str s182 165), (.str s433 319)⟩, ⟨(kh P s184), (.str s184 166), .none⟩, ⟨(kh P s185), (.str s185 167), .none⟩, ⟨(kh P s186), (.str s186 168), (.builtin "__main__.__loader__#opaque")⟩, ⟨(kh P s187), (.str s187 169), .none⟩, ⟨(kh P s355), (.str s355 170), (.ref 6)⟩, ⟨(kh P s356), (.str s356 171), (.ref 4)⟩, ⟨(kh P s357), (.str s357 173), (.str s358 172)⟩, ⟨(kh P s359), (.str s359 174), .none⟩, ⟨(kh P s343), (.str s343 275), (.ref 12)⟩, ⟨(kh P s410), (.str s410 288), (.ref 38)⟩, ⟨(kh P s411), (.str s411 304), (.ref 47)⟩, ⟨(kh P s412), (.str s412 318), (.ref 56)⟩] 13), #[]⟩
noncomputable def n133 (P : Params) : BT := .node (o247 P) (n104 P) (n106 P)
noncomputable def n134 (P : Params) : BT := .node (o1 P) (n133 P) (n114 P)
noncomputable def n135 (P : Params) : BT := .node (o0 P) (n134 P) (n131 P)
noncomputable def o248 (P : Params) : Obj := ⟨(.type "dict"), none, (.dict #[⟨(kh P s182), (.str s182 165), (.str s433 319)⟩, ⟨(kh P s184), (.str s184 166), .none⟩, ⟨(kh P s185), (.str s185 167), .none⟩, ⟨(kh P s186), (.str s186 168), (.builtin "__main__.__loader__#opaque")⟩, ⟨(kh P s187), (.str s187 169), .none⟩, ⟨(kh P s355), (.str s355 170), (.ref 6)⟩, ⟨(kh P s356), (.str s356 171), (.ref 4)⟩, ⟨(kh P s357), (.str s357 173), (.str s358 172)⟩, ⟨(kh P s359), (.str s359 174), .none⟩, ⟨(kh P s343), (.str s343 275), (.ref 12)⟩, ⟨(kh P s410), (.str s410 288), (.ref 38)⟩, ⟨(kh P s411), (.str s411 304), (.ref 47)⟩, ⟨(kh P s412), (.str s412 318), (.ref 56)⟩, ⟨(kh P s413), (.str s413 378), (.ref 94)⟩] 14), #[]⟩
noncomputable def o249 (_ : Params) : Obj := ⟨.none, none, (.fields #[(.int 2 0), (.int 0 0), (.ref 37), (.int 6 0), (.int 0 0), (.ref 46), (.int 26 0), (.int 0 0), (.ref 55), (.int 47 0), (.int 0 0), (.ref 62)]), #[]⟩
noncomputable def n136 (P : Params) : BT := .node (o52 P) .nil .nil
noncomputable def n137 (P : Params) : BT := .node (o72 P) .nil .nil
noncomputable def n138 (P : Params) : BT := .node (o29 P) (n136 P) (n137 P)
noncomputable def n139 (P : Params) : BT := .node (o41 P) (n32 P) .nil
noncomputable def n140 (P : Params) : BT := .node (o7 P) (n138 P) (n139 P)
noncomputable def n141 (P : Params) : BT := .node (o36 P) (n0 P) .nil
noncomputable def n142 (P : Params) : BT := .node (o65 P) .nil .nil
noncomputable def n143 (P : Params) : BT := .node (o46 P) (n142 P) .nil
noncomputable def n144 (P : Params) : BT := .node (o22 P) (n141 P) (n143 P)
noncomputable def n145 (P : Params) : BT := .node (o7 P) (n140 P) (n144 P)
noncomputable def n146 (P : Params) : BT := .node (o63 P) .nil .nil
noncomputable def n147 (P : Params) : BT := .node (o8 P) (n146 P) .nil
noncomputable def n148 (P : Params) : BT := .node (o18 P) (n91 P) (n147 P)
noncomputable def n149 (P : Params) : BT := .node (o58 P) .nil .nil
noncomputable def n150 (P : Params) : BT := .node (o38 P) (n149 P) .nil
noncomputable def n151 (P : Params) : BT := .node (o68 P) .nil .nil
noncomputable def n152 (P : Params) : BT := .node (o49 P) (n151 P) .nil
noncomputable def n153 (P : Params) : BT := .node (o26 P) (n150 P) (n152 P)
noncomputable def n154 (P : Params) : BT := .node (o27 P) (n148 P) (n153 P)
noncomputable def n155 (P : Params) : BT := .node (o248 P) (n145 P) (n154 P)
noncomputable def n156 (P : Params) : BT := .node (o74 P) .nil .nil
noncomputable def n157 (P : Params) : BT := .node (o8 P) (n32 P) (n156 P)
noncomputable def n158 (P : Params) : BT := .node (o43 P) (n0 P) .nil
noncomputable def n159 (P : Params) : BT := .node (o16 P) (n157 P) (n158 P)
noncomputable def n160 (P : Params) : BT := .node (o57 P) .nil .nil
noncomputable def n161 (P : Params) : BT := .node (o7 P) (n160 P) .nil
noncomputable def n162 (P : Params) : BT := .node (o66 P) .nil .nil
noncomputable def n163 (P : Params) : BT := .node (o7 P) (n162 P) .nil
noncomputable def n164 (P : Params) : BT := .node (o24 P) (n161 P) (n163 P)
noncomputable def n165 (P : Params) : BT := .node (o9 P) (n159 P) (n164 P)
noncomputable def n166 (P : Params) : BT := .node (o55 P) .nil .nil
noncomputable def n167 (P : Params) : BT := .node (o34 P) (n166 P) .nil
noncomputable def n168 (P : Params) : BT := .node (o20 P) (n167 P) (n91 P)
noncomputable def n169 (P : Params) : BT := .node (o60 P) .nil .nil
noncomputable def n170 (P : Params) : BT := .node (o39 P) (n169 P) .nil
noncomputable def n171 (P : Params) : BT := .node (o70 P) .nil .nil
noncomputable def n172 (P : Params) : BT := .node (o50 P) (n171 P) .nil
noncomputable def n173 (P : Params) : BT := .node (o249 P) (n170 P) (n172 P)
noncomputable def n174 (P : Params) : BT := .node (o13 P) (n168 P) (n173 P)
noncomputable def n175 (P : Params) : BT := .node (o5 P) (n165 P) (n174 P)
noncomputable def n176 (P : Params) : BT := .node (o1 P) (n155 P) (n175 P)
noncomputable def n177 (P : Params) : BT := .node (o73 P) .nil .nil
noncomputable def n178 (P : Params) : BT := .node (o7 P) (n0 P) (n177 P)
noncomputable def n179 (P : Params) : BT := .node (o61 P) .nil .nil
noncomputable def n180 (P : Params) : BT := .node (o42 P) (n179 P) .nil
noncomputable def n181 (P : Params) : BT := .node (o15 P) (n178 P) (n180 P)
noncomputable def n182 (P : Params) : BT := .node (o37 P) (n32 P) .nil
noncomputable def n183 (P : Params) : BT := .node (o47 P) (n0 P) .nil
noncomputable def n184 (P : Params) : BT := .node (o23 P) (n182 P) (n183 P)
noncomputable def n185 (P : Params) : BT := .node (o8 P) (n181 P) (n184 P)
noncomputable def n186 (P : Params) : BT := .node (o54 P) .nil .nil
noncomputable def n187 (P : Params) : BT := .node (o33 P) (n186 P) .nil
noncomputable def n188 (P : Params) : BT := .node (o64 P) .nil .nil
noncomputable def n189 (P : Params) : BT := .node (o44 P) (n188 P) .nil
noncomputable def n190 (P : Params) : BT := .node (o19 P) (n187 P) (n189 P)
noncomputable def n191 (P : Params) : BT := .node (o59 P) .nil .nil
noncomputable def n192 (P : Params) : BT := .node (o7 P) (n191 P) .nil
noncomputable def n193 (P : Params) : BT := .node (o69 P) .nil .nil
noncomputable def n194 (P : Params) : BT := .node (o7 P) (n193 P) .nil
noncomputable def n195 (P : Params) : BT := .node (o7 P) (n192 P) (n194 P)
noncomputable def n196 (P : Params) : BT := .node (o12 P) (n190 P) (n195 P)
noncomputable def n197 (P : Params) : BT := .node (o4 P) (n185 P) (n196 P)
noncomputable def n198 (P : Params) : BT := .node (o53 P) .nil .nil
noncomputable def n199 (P : Params) : BT := .node (o75 P) .nil .nil
noncomputable def n200 (P : Params) : BT := .node (o32 P) (n198 P) (n199 P)
noncomputable def n201 (P : Params) : BT := .node (o62 P) .nil .nil
noncomputable def n202 (P : Params) : BT := .node (o7 P) (n201 P) .nil
noncomputable def n203 (P : Params) : BT := .node (o17 P) (n200 P) (n202 P)
noncomputable def n204 (P : Params) : BT := .node (o8 P) (n0 P) .nil
noncomputable def n205 (P : Params) : BT := .node (o67 P) .nil .nil
noncomputable def n206 (P : Params) : BT := .node (o48 P) (n205 P) .nil
noncomputable def n207 (P : Params) : BT := .node (o25 P) (n204 P) (n206 P)
noncomputable def n208 (P : Params) : BT := .node (o10 P) (n203 P) (n207 P)
noncomputable def n209 (P : Params) : BT := .node (o56 P) .nil .nil
noncomputable def n210 (P : Params) : BT := .node (o35 P) (n209 P) .nil
noncomputable def n211 (P : Params) : BT := .node (o45 P) (n32 P) .nil
noncomputable def n212 (P : Params) : BT := .node (o21 P) (n210 P) (n211 P)
noncomputable def n213 (P : Params) : BT := .node (o40 P) (n0 P) .nil
noncomputable def n214 (P : Params) : BT := .node (o71 P) .nil .nil
noncomputable def n215 (P : Params) : BT := .node (o51 P) (n214 P) .nil
noncomputable def n216 (P : Params) : BT := .node (o28 P) (n213 P) (n215 P)
noncomputable def n217 (P : Params) : BT := .node (o14 P) (n212 P) (n216 P)
noncomputable def n218 (P : Params) : BT := .node (o6 P) (n208 P) (n217 P)
noncomputable def n219 (P : Params) : BT := .node (o2 P) (n197 P) (n218 P)
noncomputable def n220 (P : Params) : BT := .node (o0 P) (n176 P) (n219 P)
noncomputable def o250 (P : Params) : Obj := ⟨(.type "dict"), none, (.dict #[⟨(kh P s182), (.str s182 165), (.str s452 379)⟩, ⟨(kh P s184), (.str s184 166), .none⟩, ⟨(kh P s185), (.str s185 167), .none⟩, ⟨(kh P s186), (.str s186 168), (.builtin "__main__.__loader__#opaque")⟩, ⟨(kh P s187), (.str s187 169), .none⟩, ⟨(kh P s355), (.str s355 170), (.ref 6)⟩, ⟨(kh P s356), (.str s356 171), (.ref 4)⟩, ⟨(kh P s357), (.str s357 173), (.str s358 172)⟩, ⟨(kh P s359), (.str s359 174), .none⟩, ⟨(kh P s343), (.str s343 275), (.ref 12)⟩, ⟨(kh P s410), (.str s410 288), (.ref 38)⟩, ⟨(kh P s411), (.str s411 304), (.ref 47)⟩, ⟨(kh P s412), (.str s412 318), (.ref 56)⟩, ⟨(kh P s413), (.str s413 378), (.ref 94)⟩] 14), #[]⟩
noncomputable def n221 (P : Params) : BT := .node (o250 P) (n145 P) (n154 P)
noncomputable def n222 (P : Params) : BT := .node (o1 P) (n221 P) (n175 P)
noncomputable def n223 (P : Params) : BT := .node (o0 P) (n222 P) (n219 P)
noncomputable def o251 (P : Params) : Obj := ⟨(.type "dict"), none, (.dict #[⟨(kh P s182), (.str s182 165), (.str s452 379)⟩, ⟨(kh P s184), (.str s184 166), .none⟩, ⟨(kh P s185), (.str s185 167), .none⟩, ⟨(kh P s186), (.str s186 168), (.builtin "__main__.__loader__#opaque")⟩, ⟨(kh P s187), (.str s187 169), .none⟩, ⟨(kh P s355), (.str s355 170), (.ref 6)⟩, ⟨(kh P s356), (.str s356 171), (.ref 4)⟩, ⟨(kh P s357), (.str s357 173), (.str s358 172)⟩, ⟨(kh P s359), (.str s359 174), .none⟩, ⟨(kh P s343), (.str s343 275), (.ref 12)⟩, ⟨(kh P s410), (.str s410 288), (.ref 38)⟩, ⟨(kh P s411), (.str s411 304), (.ref 47)⟩, ⟨(kh P s412), (.str s412 318), (.ref 56)⟩, ⟨(kh P s413), (.str s413 378), (.ref 94)⟩, ⟨(kh P s414), (.str s414 440), (.ref 106)⟩] 15), #[]⟩
noncomputable def n224 (P : Params) : BT := .node (o36 P) (n0 P) (n0 P)
noncomputable def n225 (P : Params) : BT := .node (o22 P) (n224 P) (n143 P)
noncomputable def n226 (P : Params) : BT := .node (o7 P) (n140 P) (n225 P)
noncomputable def n227 (P : Params) : BT := .node (o76 P) .nil .nil
noncomputable def n228 (P : Params) : BT := .node (o7 P) (n0 P) (n227 P)
noncomputable def n229 (P : Params) : BT := .node (o18 P) (n228 P) (n147 P)
noncomputable def n230 (P : Params) : BT := .node (o83 P) .nil .nil
noncomputable def n231 (P : Params) : BT := .node (o38 P) (n149 P) (n230 P)
noncomputable def n232 (P : Params) : BT := .node (o26 P) (n231 P) (n152 P)
noncomputable def n233 (P : Params) : BT := .node (o27 P) (n229 P) (n232 P)
noncomputable def n234 (P : Params) : BT := .node (o251 P) (n226 P) (n233 P)
noncomputable def n235 (P : Params) : BT := .node (o81 P) .nil .nil
noncomputable def n236 (P : Params) : BT := .node (o7 P) (n160 P) (n235 P)
noncomputable def n237 (P : Params) : BT := .node (o24 P) (n236 P) (n163 P)
noncomputable def n238 (P : Params) : BT := .node (o9 P) (n159 P) (n237 P)
noncomputable def n239 (P : Params) : BT := .node (o78 P) .nil .nil
noncomputable def n240 (P : Params) : BT := .node (o34 P) (n166 P) (n239 P)
noncomputable def n241 (P : Params) : BT := .node (o20 P) (n240 P) (n91 P)
noncomputable def n242 (P : Params) : BT := .node (o84 P) .nil .nil
noncomputable def n243 (P : Params) : BT := .node (o39 P) (n169 P) (n242 P)
noncomputable def n244 (P : Params) : BT := .node (o249 P) (n243 P) (n172 P)
noncomputable def n245 (P : Params) : BT := .node (o13 P) (n241 P) (n244 P)
noncomputable def n246 (P : Params) : BT := .node (o5 P) (n238 P) (n245 P)
noncomputable def n247 (P : Params) : BT := .node (o1 P) (n234 P) (n246 P)
noncomputable def n248 (P : Params) : BT := .node (o80 P) .nil .nil
noncomputable def n249 (P : Params) : BT := .node (o37 P) (n32 P) (n248 P)
noncomputable def n250 (P : Params) : BT := .node (o23 P) (n249 P) (n183 P)
noncomputable def n251 (P : Params) : BT := .node (o8 P) (n181 P) (n250 P)
noncomputable def n252 (P : Params) : BT := .node (o77 P) .nil .nil
noncomputable def n253 (P : Params) : BT := .node (o33 P) (n186 P) (n252 P)
noncomputable def n254 (P : Params) : BT := .node (o19 P) (n253 P) (n189 P)
noncomputable def n255 (P : Params) : BT := .node (o7 P) (n191 P) (n0 P)
noncomputable def n256 (P : Params) : BT := .node (o7 P) (n255 P) (n194 P)
noncomputable def n257 (P : Params) : BT := .node (o12 P) (n254 P) (n256 P)
noncomputable def n258 (P : Params) : BT := .node (o4 P) (n251 P) (n257 P)
noncomputable def n259 (P : Params) : BT := .node (o82 P) .nil .nil
noncomputable def n260 (P : Params) : BT := .node (o8 P) (n0 P) (n259 P)
noncomputable def n261 (P : Params) : BT := .node (o25 P) (n260 P) (n206 P)
noncomputable def n262 (P : Params) : BT := .node (o10 P) (n203 P) (n261 P)
noncomputable def n263 (P : Params) : BT := .node (o79 P) .nil .nil
noncomputable def n264 (P : Params) : BT := .node (o35 P) (n209 P) (n263 P)
noncomputable def n265 (P : Params) : BT := .node (o21 P) (n264 P) (n211 P)
noncomputable def n266 (P : Params) : BT := .node (o14 P) (n265 P) (n216 P)
noncomputable def n267 (P : Params) : BT := .node (o6 P) (n262 P) (n266 P)
noncomputable def n268 (P : Params) : BT := .node (o2 P) (n258 P) (n267 P)
noncomputable def n269 (P : Params) : BT := .node (o0 P) (n247 P) (n268 P)
noncomputable def o252 (P : Params) : Obj := ⟨(.type "dict"), none, (.dict #[⟨(kh P s182), (.str s182 165), (.str s452 379)⟩, ⟨(kh P s184), (.str s184 166), .none⟩, ⟨(kh P s185), (.str s185 167), .none⟩, ⟨(kh P s186), (.str s186 168), (.builtin "__main__.__loader__#opaque")⟩, ⟨(kh P s187), (.str s187 169), .none⟩, ⟨(kh P s355), (.str s355 170), (.ref 6)⟩, ⟨(kh P s356), (.str s356 171), (.ref 4)⟩, ⟨(kh P s357), (.str s357 173), (.str s358 172)⟩, ⟨(kh P s359), (.str s359 174), .none⟩, ⟨(kh P s343), (.str s343 275), (.ref 12)⟩, ⟨(kh P s410), (.str s410 288), (.ref 38)⟩, ⟨(kh P s411), (.str s411 304), (.ref 47)⟩, ⟨(kh P s412), (.str s412 318), (.ref 56)⟩, ⟨(kh P s413), (.str s413 378), (.ref 94)⟩, ⟨(kh P s414), (.str s414 440), (.ref 106)⟩, ⟨(kh P s415), (.str s415 447), (.ref 116)⟩] 16), #[]⟩
noncomputable def o253 (_ : Params) : Obj := ⟨.none, none, (.fields #[(.int 2 0), (.int 0 0), (.ref 37), (.int 6 0), (.int 0 0), (.ref 46), (.int 26 0), (.int 0 0), (.ref 55), (.int 47 0), (.int 0 0), (.ref 62), (.int 92 0), (.int 0 0), (.ref 115)]), #[]⟩
noncomputable def n270 (P : Params) : BT := .node (o41 P) (n32 P) (n32 P)
noncomputable def n271 (P : Params) : BT := .node (o7 P) (n138 P) (n270 P)
noncomputable def n272 (P : Params) : BT := .node (o7 P) (n271 P) (n225 P)
noncomputable def n273 (P : Params) : BT := .node (o87 P) .nil .nil
noncomputable def n274 (P : Params) : BT := .node (o8 P) (n146 P) (n273 P)
noncomputable def n275 (P : Params) : BT := .node (o18 P) (n228 P) (n274 P)
noncomputable def n276 (P : Params) : BT := .node (o27 P) (n275 P) (n232 P)
noncomputable def n277 (P : Params) : BT := .node (o252 P) (n272 P) (n276 P)
noncomputable def n278 (P : Params) : BT := .node (o43 P) (n0 P) (n0 P)
noncomputable def n279 (P : Params) : BT := .node (o16 P) (n157 P) (n278 P)
noncomputable def n280 (P : Params) : BT := .node (o9 P) (n279 P) (n237 P)
noncomputable def n281 (P : Params) : BT := .node (o253 P) (n243 P) (n172 P)
noncomputable def n282 (P : Params) : BT := .node (o13 P) (n241 P) (n281 P)
noncomputable def n283 (P : Params) : BT := .node (o5 P) (n280 P) (n282 P)
noncomputable def n284 (P : Params) : BT := .node (o1 P) (n277 P) (n283 P)
noncomputable def n285 (P : Params) : BT := .node (o85 P) .nil .nil
noncomputable def n286 (P : Params) : BT := .node (o42 P) (n179 P) (n285 P)
noncomputable def n287 (P : Params) : BT := .node (o15 P) (n178 P) (n286 P)
noncomputable def n288 (P : Params) : BT := .node (o8 P) (n287 P) (n250 P)
noncomputable def n289 (P : Params) : BT := .node (o88 P) .nil .nil
noncomputable def n290 (P : Params) : BT := .node (o44 P) (n188 P) (n289 P)
noncomputable def n291 (P : Params) : BT := .node (o19 P) (n253 P) (n290 P)
noncomputable def n292 (P : Params) : BT := .node (o12 P) (n291 P) (n256 P)
noncomputable def n293 (P : Params) : BT := .node (o4 P) (n288 P) (n292 P)
noncomputable def n294 (P : Params) : BT := .node (o86 P) .nil .nil
noncomputable def n295 (P : Params) : BT := .node (o7 P) (n201 P) (n294 P)
noncomputable def n296 (P : Params) : BT := .node (o17 P) (n200 P) (n295 P)
noncomputable def n297 (P : Params) : BT := .node (o10 P) (n296 P) (n261 P)
noncomputable def n298 (P : Params) : BT := .node (o40 P) (n0 P) (n0 P)
noncomputable def n299 (P : Params) : BT := .node (o28 P) (n298 P) (n215 P)
noncomputable def n300 (P : Params) : BT := .node (o14 P) (n265 P) (n299 P)
noncomputable def n301 (P : Params) : BT := .node (o6 P) (n297 P) (n300 P)
noncomputable def n302 (P : Params) : BT := .node (o2 P) (n293 P) (n301 P)
noncomputable def n303 (P : Params) : BT := .node (o0 P) (n284 P) (n302 P)
noncomputable def o254 (P : Params) : Obj := ⟨(.type "dict"), none, (.dict #[⟨(kh P s182), (.str s182 165), (.str s452 379)⟩, ⟨(kh P s184), (.str s184 166), .none⟩, ⟨(kh P s185), (.str s185 167), .none⟩, ⟨(kh P s186), (.str s186 168), (.builtin "__main__.__loader__#opaque")⟩, ⟨(kh P s187), (.str s187 169), .none⟩, ⟨(kh P s355), (.str s355 170), (.ref 6)⟩, ⟨(kh P s356), (.str s356 171), (.ref 4)⟩, ⟨(kh P s357), (.str s357 173), (.str s358 172)⟩, ⟨(kh P s359), (.str s359 174), .none⟩, ⟨(kh P s343), (.str s343 275), (.ref 12)⟩, ⟨(kh P s410), (.str s410 288), (.ref 38)⟩, ⟨(kh P s411), (.str s411 304), (.ref 47)⟩, ⟨(kh P s412), (.str s412 318), (.ref 56)⟩, ⟨(kh P s413), (.str s413 378), (.ref 94)⟩, ⟨(kh P s414), (.str s414 440), (.ref 106)⟩, ⟨(kh P s415), (.str s415 447), (.ref 116)⟩, ⟨(kh P s416), (.str s416 2398), (.ref 117)⟩] 17), #[]⟩
noncomputable def n304 (P : Params) : BT := .node (o99 P) .nil .nil
noncomputable def n305 (P : Params) : BT := .node (o52 P) (n304 P) .nil
noncomputable def n306 (P : Params) : BT := .node (o29 P) (n305 P) (n137 P)
noncomputable def n307 (P : Params) : BT := .node (o115 P) .nil .nil
noncomputable def n308 (P : Params) : BT := .node (o8 P) (n307 P) .nil
noncomputable def n309 (P : Params) : BT := .node (o41 P) (n308 P) (n32 P)
noncomputable def n310 (P : Params) : BT := .node (o7 P) (n306 P) (n309 P)
noncomputable def n311 (P : Params) : BT := .node (o107 P) .nil .nil
noncomputable def n312 (P : Params) : BT := .node (o7 P) (n311 P) .nil
noncomputable def n313 (P : Params) : BT := .node (o36 P) (n312 P) (n0 P)
noncomputable def n314 (P : Params) : BT := .node (o123 P) .nil .nil
noncomputable def n315 (P : Params) : BT := .node (o65 P) (n314 P) .nil
noncomputable def n316 (P : Params) : BT := .node (o91 P) .nil .nil
noncomputable def n317 (P : Params) : BT := .node (o46 P) (n315 P) (n316 P)
noncomputable def n318 (P : Params) : BT := .node (o22 P) (n313 P) (n317 P)
noncomputable def n319 (P : Params) : BT := .node (o7 P) (n310 P) (n318 P)
noncomputable def n320 (P : Params) : BT := .node (o103 P) .nil .nil
noncomputable def n321 (P : Params) : BT := .node (o7 P) (n320 P) .nil
noncomputable def n322 (P : Params) : BT := .node (o7 P) (n321 P) (n227 P)
noncomputable def n323 (P : Params) : BT := .node (o119 P) .nil .nil
noncomputable def n324 (P : Params) : BT := .node (o63 P) (n323 P) .nil
noncomputable def n325 (P : Params) : BT := .node (o8 P) (n324 P) (n273 P)
noncomputable def n326 (P : Params) : BT := .node (o18 P) (n322 P) (n325 P)
noncomputable def n327 (P : Params) : BT := .node (o111 P) .nil .nil
noncomputable def n328 (P : Params) : BT := .node (o58 P) (n327 P) .nil
noncomputable def n329 (P : Params) : BT := .node (o38 P) (n328 P) (n230 P)
noncomputable def n330 (P : Params) : BT := .node (o127 P) .nil .nil
noncomputable def n331 (P : Params) : BT := .node (o68 P) (n330 P) .nil
noncomputable def n332 (P : Params) : BT := .node (o95 P) .nil .nil
noncomputable def n333 (P : Params) : BT := .node (o49 P) (n331 P) (n332 P)
noncomputable def n334 (P : Params) : BT := .node (o26 P) (n329 P) (n333 P)
noncomputable def n335 (P : Params) : BT := .node (o27 P) (n326 P) (n334 P)
noncomputable def n336 (P : Params) : BT := .node (o254 P) (n319 P) (n335 P)
noncomputable def n337 (P : Params) : BT := .node (o101 P) .nil .nil
noncomputable def n338 (P : Params) : BT := .node (o8 P) (n337 P) .nil
noncomputable def n339 (P : Params) : BT := .node (o8 P) (n338 P) (n156 P)
noncomputable def n340 (P : Params) : BT := .node (o117 P) .nil .nil
noncomputable def n341 (P : Params) : BT := .node (o7 P) (n340 P) .nil
noncomputable def n342 (P : Params) : BT := .node (o43 P) (n341 P) (n0 P)
noncomputable def n343 (P : Params) : BT := .node (o16 P) (n339 P) (n342 P)
noncomputable def n344 (P : Params) : BT := .node (o109 P) .nil .nil
noncomputable def n345 (P : Params) : BT := .node (o57 P) (n344 P) .nil
noncomputable def n346 (P : Params) : BT := .node (o7 P) (n345 P) (n235 P)
noncomputable def n347 (P : Params) : BT := .node (o125 P) .nil .nil
noncomputable def n348 (P : Params) : BT := .node (o66 P) (n347 P) .nil
noncomputable def n349 (P : Params) : BT := .node (o93 P) .nil .nil
noncomputable def n350 (P : Params) : BT := .node (o7 P) (n348 P) (n349 P)
noncomputable def n351 (P : Params) : BT := .node (o24 P) (n346 P) (n350 P)
noncomputable def n352 (P : Params) : BT := .node (o9 P) (n343 P) (n351 P)
noncomputable def n353 (P : Params) : BT := .node (o105 P) .nil .nil
noncomputable def n354 (P : Params) : BT := .node (o55 P) (n353 P) .nil
noncomputable def n355 (P : Params) : BT := .node (o34 P) (n354 P) (n239 P)
noncomputable def n356 (P : Params) : BT := .node (o121 P) .nil .nil
noncomputable def n357 (P : Params) : BT := .node (o7 P) (n356 P) .nil
noncomputable def n358 (P : Params) : BT := .node (o89 P) .nil .nil
noncomputable def n359 (P : Params) : BT := .node (o7 P) (n357 P) (n358 P)
noncomputable def n360 (P : Params) : BT := .node (o20 P) (n355 P) (n359 P)
noncomputable def n361 (P : Params) : BT := .node (o113 P) .nil .nil
noncomputable def n362 (P : Params) : BT := .node (o60 P) (n361 P) .nil
noncomputable def n363 (P : Params) : BT := .node (o39 P) (n362 P) (n242 P)
noncomputable def n364 (P : Params) : BT := .node (o97 P) .nil .nil
noncomputable def n365 (P : Params) : BT := .node (o50 P) (n171 P) (n364 P)
noncomputable def n366 (P : Params) : BT := .node (o253 P) (n363 P) (n365 P)
noncomputable def n367 (P : Params) : BT := .node (o13 P) (n360 P) (n366 P)
noncomputable def n368 (P : Params) : BT := .node (o5 P) (n352 P) (n367 P)
noncomputable def n369 (P : Params) : BT := .node (o1 P) (n336 P) (n368 P)
noncomputable def n370 (P : Params) : BT := .node (o100 P) .nil .nil
noncomputable def n371 (P : Params) : BT := .node (o7 P) (n370 P) .nil
noncomputable def n372 (P : Params) : BT := .node (o7 P) (n371 P) (n177 P)
noncomputable def n373 (P : Params) : BT := .node (o116 P) .nil .nil
noncomputable def n374 (P : Params) : BT := .node (o61 P) (n373 P) .nil
noncomputable def n375 (P : Params) : BT := .node (o42 P) (n374 P) (n285 P)
noncomputable def n376 (P : Params) : BT := .node (o15 P) (n372 P) (n375 P)
noncomputable def n377 (P : Params) : BT := .node (o108 P) .nil .nil
noncomputable def n378 (P : Params) : BT := .node (o8 P) (n377 P) .nil
noncomputable def n379 (P : Params) : BT := .node (o37 P) (n378 P) (n248 P)
noncomputable def n380 (P : Params) : BT := .node (o124 P) .nil .nil
noncomputable def n381 (P : Params) : BT := .node (o7 P) (n380 P) .nil
noncomputable def n382 (P : Params) : BT := .node (o92 P) .nil .nil
noncomputable def n383 (P : Params) : BT := .node (o47 P) (n381 P) (n382 P)
noncomputable def n384 (P : Params) : BT := .node (o23 P) (n379 P) (n383 P)
noncomputable def n385 (P : Params) : BT := .node (o8 P) (n376 P) (n384 P)
noncomputable def n386 (P : Params) : BT := .node (o104 P) .nil .nil
noncomputable def n387 (P : Params) : BT := .node (o54 P) (n386 P) .nil
noncomputable def n388 (P : Params) : BT := .node (o33 P) (n387 P) (n252 P)
noncomputable def n389 (P : Params) : BT := .node (o120 P) .nil .nil
noncomputable def n390 (P : Params) : BT := .node (o64 P) (n389 P) .nil
noncomputable def n391 (P : Params) : BT := .node (o44 P) (n390 P) (n289 P)
noncomputable def n392 (P : Params) : BT := .node (o19 P) (n388 P) (n391 P)
noncomputable def n393 (P : Params) : BT := .node (o112 P) .nil .nil
noncomputable def n394 (P : Params) : BT := .node (o59 P) (n393 P) .nil
noncomputable def n395 (P : Params) : BT := .node (o7 P) (n394 P) (n0 P)
noncomputable def n396 (P : Params) : BT := .node (o96 P) .nil .nil
noncomputable def n397 (P : Params) : BT := .node (o7 P) (n193 P) (n396 P)
noncomputable def n398 (P : Params) : BT := .node (o7 P) (n395 P) (n397 P)
noncomputable def n399 (P : Params) : BT := .node (o12 P) (n392 P) (n398 P)
noncomputable def n400 (P : Params) : BT := .node (o4 P) (n385 P) (n399 P)
noncomputable def n401 (P : Params) : BT := .node (o102 P) .nil .nil
noncomputable def n402 (P : Params) : BT := .node (o53 P) (n401 P) .nil
noncomputable def n403 (P : Params) : BT := .node (o32 P) (n402 P) (n199 P)
noncomputable def n404 (P : Params) : BT := .node (o118 P) .nil .nil
noncomputable def n405 (P : Params) : BT := .node (o62 P) (n404 P) .nil
noncomputable def n406 (P : Params) : BT := .node (o7 P) (n405 P) (n294 P)
noncomputable def n407 (P : Params) : BT := .node (o17 P) (n403 P) (n406 P)
noncomputable def n408 (P : Params) : BT := .node (o110 P) .nil .nil
noncomputable def n409 (P : Params) : BT := .node (o7 P) (n408 P) .nil
noncomputable def n410 (P : Params) : BT := .node (o8 P) (n409 P) (n259 P)
noncomputable def n411 (P : Params) : BT := .node (o126 P) .nil .nil
noncomputable def n412 (P : Params) : BT := .node (o67 P) (n411 P) .nil
noncomputable def n413 (P : Params) : BT := .node (o94 P) .nil .nil
noncomputable def n414 (P : Params) : BT := .node (o48 P) (n412 P) (n413 P)
noncomputable def n415 (P : Params) : BT := .node (o25 P) (n410 P) (n414 P)
noncomputable def n416 (P : Params) : BT := .node (o10 P) (n407 P) (n415 P)
noncomputable def n417 (P : Params) : BT := .node (o106 P) .nil .nil
noncomputable def n418 (P : Params) : BT := .node (o56 P) (n417 P) .nil
noncomputable def n419 (P : Params) : BT := .node (o35 P) (n418 P) (n263 P)
noncomputable def n420 (P : Params) : BT := .node (o122 P) .nil .nil
noncomputable def n421 (P : Params) : BT := .node (o8 P) (n420 P) .nil
noncomputable def n422 (P : Params) : BT := .node (o90 P) .nil .nil
noncomputable def n423 (P : Params) : BT := .node (o45 P) (n421 P) (n422 P)
noncomputable def n424 (P : Params) : BT := .node (o21 P) (n419 P) (n423 P)
noncomputable def n425 (P : Params) : BT := .node (o114 P) .nil .nil
noncomputable def n426 (P : Params) : BT := .node (o7 P) (n425 P) .nil
noncomputable def n427 (P : Params) : BT := .node (o40 P) (n426 P) (n0 P)
noncomputable def n428 (P : Params) : BT := .node (o98 P) .nil .nil
noncomputable def n429 (P : Params) : BT := .node (o51 P) (n214 P) (n428 P)
noncomputable def n430 (P : Params) : BT := .node (o28 P) (n427 P) (n429 P)
noncomputable def n431 (P : Params) : BT := .node (o14 P) (n424 P) (n430 P)
noncomputable def n432 (P : Params) : BT := .node (o6 P) (n416 P) (n431 P)
noncomputable def n433 (P : Params) : BT := .node (o2 P) (n400 P) (n432 P)
noncomputable def n434 (P : Params) : BT := .node (o0 P) (n369 P) (n433 P)
noncomputable def o255 (P : Params) : Obj := ⟨(.type "dict"), none, (.dict #[⟨(kh P s182), (.str s182 165), (.str s452 379)⟩, ⟨(kh P s184), (.str s184 166), .none⟩, ⟨(kh P s185), (.str s185 167), .none⟩, ⟨(kh P s186), (.str s186 168), (.builtin "__main__.__loader__#opaque")⟩, ⟨(kh P s187), (.str s187 169), .none⟩, ⟨(kh P s355), (.str s355 170), (.ref 6)⟩, ⟨(kh P s356), (.str s356 171), (.ref 4)⟩, ⟨(kh P s357), (.str s357 173), (.str s358 172)⟩, ⟨(kh P s359), (.str s359 174), .none⟩, ⟨(kh P s343), (.str s343 275), (.ref 12)⟩, ⟨(kh P s410), (.str s410 288), (.ref 38)⟩, ⟨(kh P s411), (.str s411 304), (.ref 47)⟩, ⟨(kh P s412), (.str s412 318), (.ref 56)⟩, ⟨(kh P s413), (.str s413 378), (.ref 94)⟩, ⟨(kh P s414), (.str s414 440), (.ref 106)⟩, ⟨(kh P s415), (.str s415 447), (.ref 116)⟩, ⟨(kh P s416), (.str s416 2398), (.ref 117)⟩, ⟨(kh P s417), (.str s417 2406), (.ref 162)⟩] 18), #[]⟩
noncomputable def o256 (_ : Params) : Obj := ⟨.none, none, (.fields #[(.int 2 0), (.int 0 0), (.ref 37), (.int 6 0), (.int 0 0), (.ref 46), (.int 26 0), (.int 0 0), (.ref 55), (.int 47 0), (.int 0 0), (.ref 62), (.int 92 0), (.int 0 0), (.ref 115), (.int 95 0), (.int 0 0), (.ref 161)]), #[]⟩
noncomputable def n435 (P : Params) : BT := .node (o72 P) (n0 P) .nil
noncomputable def n436 (P : Params) : BT := .node (o29 P) (n305 P) (n435 P)
noncomputable def n437 (P : Params) : BT := .node (o7 P) (n436 P) (n309 P)
noncomputable def n438 (P : Params) : BT := .node (o7 P) (n437 P) (n318 P)
noncomputable def n439 (P : Params) : BT := .node (o255 P) (n438 P) (n335 P)
noncomputable def n440 (P : Params) : BT := .node (o130 P) .nil .nil
noncomputable def n441 (P : Params) : BT := .node (o74 P) (n440 P) .nil
noncomputable def n442 (P : Params) : BT := .node (o8 P) (n338 P) (n441 P)
noncomputable def n443 (P : Params) : BT := .node (o16 P) (n442 P) (n342 P)
noncomputable def n444 (P : Params) : BT := .node (o9 P) (n443 P) (n351 P)
noncomputable def n445 (P : Params) : BT := .node (o70 P) (n32 P) .nil
noncomputable def n446 (P : Params) : BT := .node (o50 P) (n445 P) (n364 P)
noncomputable def n447 (P : Params) : BT := .node (o256 P) (n363 P) (n446 P)
noncomputable def n448 (P : Params) : BT := .node (o13 P) (n360 P) (n447 P)
noncomputable def n449 (P : Params) : BT := .node (o5 P) (n444 P) (n448 P)
noncomputable def n450 (P : Params) : BT := .node (o1 P) (n439 P) (n449 P)
noncomputable def n451 (P : Params) : BT := .node (o129 P) .nil .nil
noncomputable def n452 (P : Params) : BT := .node (o73 P) (n451 P) .nil
noncomputable def n453 (P : Params) : BT := .node (o7 P) (n371 P) (n452 P)
noncomputable def n454 (P : Params) : BT := .node (o15 P) (n453 P) (n375 P)
noncomputable def n455 (P : Params) : BT := .node (o8 P) (n454 P) (n384 P)
noncomputable def n456 (P : Params) : BT := .node (o69 P) (n0 P) .nil
noncomputable def n457 (P : Params) : BT := .node (o7 P) (n456 P) (n396 P)
noncomputable def n458 (P : Params) : BT := .node (o7 P) (n395 P) (n457 P)
noncomputable def n459 (P : Params) : BT := .node (o12 P) (n392 P) (n458 P)
noncomputable def n460 (P : Params) : BT := .node (o4 P) (n455 P) (n459 P)
noncomputable def n461 (P : Params) : BT := .node (o131 P) .nil .nil
noncomputable def n462 (P : Params) : BT := .node (o75 P) (n461 P) .nil
noncomputable def n463 (P : Params) : BT := .node (o32 P) (n402 P) (n462 P)
noncomputable def n464 (P : Params) : BT := .node (o17 P) (n463 P) (n406 P)
noncomputable def n465 (P : Params) : BT := .node (o10 P) (n464 P) (n415 P)
noncomputable def n466 (P : Params) : BT := .node (o128 P) .nil .nil
noncomputable def n467 (P : Params) : BT := .node (o71 P) (n466 P) .nil
noncomputable def n468 (P : Params) : BT := .node (o51 P) (n467 P) (n428 P)
noncomputable def n469 (P : Params) : BT := .node (o28 P) (n427 P) (n468 P)
noncomputable def n470 (P : Params) : BT := .node (o14 P) (n424 P) (n469 P)
noncomputable def n471 (P : Params) : BT := .node (o6 P) (n465 P) (n470 P)
noncomputable def n472 (P : Params) : BT := .node (o2 P) (n460 P) (n471 P)
noncomputable def n473 (P : Params) : BT := .node (o0 P) (n450 P) (n472 P)
noncomputable def o257 (P : Params) : Obj := ⟨(.type "dict"), none, (.dict #[⟨(kh P s182), (.str s182 165), (.str s459 2407)⟩, ⟨(kh P s184), (.str s184 166), .none⟩, ⟨(kh P s185), (.str s185 167), .none⟩, ⟨(kh P s186), (.str s186 168), (.builtin "__main__.__loader__#opaque")⟩, ⟨(kh P s187), (.str s187 169), .none⟩, ⟨(kh P s355), (.str s355 170), (.ref 6)⟩, ⟨(kh P s356), (.str s356 171), (.ref 4)⟩, ⟨(kh P s357), (.str s357 173), (.str s358 172)⟩, ⟨(kh P s359), (.str s359 174), .none⟩, ⟨(kh P s343), (.str s343 275), (.ref 12)⟩, ⟨(kh P s410), (.str s410 288), (.ref 38)⟩, ⟨(kh P s411), (.str s411 304), (.ref 47)⟩, ⟨(kh P s412), (.str s412 318), (.ref 56)⟩, ⟨(kh P s413), (.str s413 378), (.ref 94)⟩, ⟨(kh P s414), (.str s414 440), (.ref 106)⟩, ⟨(kh P s415), (.str s415 447), (.ref 116)⟩, ⟨(kh P s416), (.str s416 2398), (.ref 117)⟩, ⟨(kh P s417), (.str s417 2406), (.ref 162)⟩] 18), #[]⟩
noncomputable def n474 (P : Params) : BT := .node (o257 P) (n438 P) (n335 P)
noncomputable def n475 (P : Params) : BT := .node (o1 P) (n474 P) (n449 P)
noncomputable def n476 (P : Params) : BT := .node (o0 P) (n475 P) (n472 P)
noncomputable def o258 (P : Params) : Obj := ⟨(.type "dict"), none, (.dict #[⟨(kh P s182), (.str s182 165), (.str s459 2407)⟩, ⟨(kh P s184), (.str s184 166), .none⟩, ⟨(kh P s185), (.str s185 167), .none⟩, ⟨(kh P s186), (.str s186 168), (.builtin "__main__.__loader__#opaque")⟩, ⟨(kh P s187), (.str s187 169), .none⟩, ⟨(kh P s355), (.str s355 170), (.ref 6)⟩, ⟨(kh P s356), (.str s356 171), (.ref 4)⟩, ⟨(kh P s357), (.str s357 173), (.str s358 172)⟩, ⟨(kh P s359), (.str s359 174), .none⟩, ⟨(kh P s343), (.str s343 275), (.ref 12)⟩, ⟨(kh P s410), (.str s410 288), (.ref 38)⟩, ⟨(kh P s411), (.str s411 304), (.ref 47)⟩, ⟨(kh P s412), (.str s412 318), (.ref 56)⟩, ⟨(kh P s413), (.str s413 378), (.ref 94)⟩, ⟨(kh P s414), (.str s414 440), (.ref 106)⟩, ⟨(kh P s415), (.str s415 447), (.ref 116)⟩, ⟨(kh P s416), (.str s416 2398), (.ref 117)⟩, ⟨(kh P s417), (.str s417 2406), (.ref 162)⟩, ⟨(kh P s418), (.str s418 2442), (.ref 167)⟩] 19), #[]⟩
noncomputable def n477 (P : Params) : BT := .node (o135 P) .nil .nil
noncomputable def n478 (P : Params) : BT := .node (o7 P) (n477 P) .nil
noncomputable def n479 (P : Params) : BT := .node (o36 P) (n312 P) (n478 P)
noncomputable def n480 (P : Params) : BT := .node (o22 P) (n479 P) (n317 P)
noncomputable def n481 (P : Params) : BT := .node (o7 P) (n437 P) (n480 P)
noncomputable def n482 (P : Params) : BT := .node (o132 P) .nil .nil
noncomputable def n483 (P : Params) : BT := .node (o76 P) (n482 P) .nil
noncomputable def n484 (P : Params) : BT := .node (o7 P) (n321 P) (n483 P)
noncomputable def n485 (P : Params) : BT := .node (o18 P) (n484 P) (n325 P)
noncomputable def n486 (P : Params) : BT := .node (o27 P) (n485 P) (n334 P)
noncomputable def n487 (P : Params) : BT := .node (o258 P) (n481 P) (n486 P)
noncomputable def n488 (P : Params) : BT := .node (o133 P) .nil .nil
noncomputable def n489 (P : Params) : BT := .node (o78 P) (n488 P) .nil
noncomputable def n490 (P : Params) : BT := .node (o34 P) (n354 P) (n489 P)
noncomputable def n491 (P : Params) : BT := .node (o20 P) (n490 P) (n359 P)
noncomputable def n492 (P : Params) : BT := .node (o13 P) (n491 P) (n447 P)
noncomputable def n493 (P : Params) : BT := .node (o5 P) (n444 P) (n492 P)
noncomputable def n494 (P : Params) : BT := .node (o1 P) (n487 P) (n493 P)
noncomputable def n495 (P : Params) : BT := .node (o6 P) .nil .nil
noncomputable def n496 (P : Params) : BT := .node (o77 P) (n495 P) .nil
noncomputable def n497 (P : Params) : BT := .node (o33 P) (n387 P) (n496 P)
noncomputable def n498 (P : Params) : BT := .node (o19 P) (n497 P) (n391 P)
noncomputable def n499 (P : Params) : BT := .node (o12 P) (n498 P) (n458 P)
noncomputable def n500 (P : Params) : BT := .node (o4 P) (n455 P) (n499 P)
noncomputable def n501 (P : Params) : BT := .node (o134 P) .nil .nil
noncomputable def n502 (P : Params) : BT := .node (o79 P) (n501 P) .nil
noncomputable def n503 (P : Params) : BT := .node (o35 P) (n418 P) (n502 P)
noncomputable def n504 (P : Params) : BT := .node (o21 P) (n503 P) (n423 P)
noncomputable def n505 (P : Params) : BT := .node (o14 P) (n504 P) (n469 P)
noncomputable def n506 (P : Params) : BT := .node (o6 P) (n465 P) (n505 P)
noncomputable def n507 (P : Params) : BT := .node (o2 P) (n500 P) (n506 P)
noncomputable def n508 (P : Params) : BT := .node (o0 P) (n494 P) (n507 P)
noncomputable def o259 (P : Params) : Obj := ⟨(.type "dict"), none, (.dict #[⟨(kh P s182), (.str s182 165), (.str s459 2407)⟩, ⟨(kh P s184), (.str s184 166), .none⟩, ⟨(kh P s185), (.str s185 167), .none⟩, ⟨(kh P s186), (.str s186 168), (.builtin "__main__.__loader__#opaque")⟩, ⟨(kh P s187), (.str s187 169), .none⟩, ⟨(kh P s355), (.str s355 170), (.ref 6)⟩, ⟨(kh P s356), (.str s356 171), (.ref 4)⟩, ⟨(kh P s357), (.str s357 173), (.str s358 172)⟩, ⟨(kh P s359), (.str s359 174), .none⟩, ⟨(kh P s343), (.str s343 275), (.ref 12)⟩, ⟨(kh P s410), (.str s410 288), (.ref 38)⟩, ⟨(kh P s411), (.str s411 304), (.ref 47)⟩, ⟨(kh P s412), (.str s412 318), (.ref 56)⟩, ⟨(kh P s413), (.str s413 378), (.ref 94)⟩, ⟨(kh P s414), (.str s414 440), (.ref 106)⟩, ⟨(kh P s415), (.str s415 447), (.ref 116)⟩, ⟨(kh P s416), (.str s416 2398), (.ref 117)⟩, ⟨(kh P s417), (.str s417 2406), (.ref 162)⟩, ⟨(kh P s418), (.str s418 2442), (.ref 167)⟩, ⟨(kh P s419), (.str s419 2468), (.ref 172)⟩] 20), #[]⟩
noncomputable def n509 (P : Params) : BT := .node (o137 P) .nil .nil
noncomputable def n510 (P : Params) : BT := .node (o83 P) (n509 P) .nil
noncomputable def n511 (P : Params) : BT := .node (o38 P) (n328 P) (n510 P)
noncomputable def n512 (P : Params) : BT := .node (o26 P) (n511 P) (n333 P)
noncomputable def n513 (P : Params) : BT := .node (o27 P) (n485 P) (n512 P)
noncomputable def n514 (P : Params) : BT := .node (o259 P) (n481 P) (n513 P)
noncomputable def n515 (P : Params) : BT := .node (o81 P) (n495 P) .nil
noncomputable def n516 (P : Params) : BT := .node (o7 P) (n345 P) (n515 P)
noncomputable def n517 (P : Params) : BT := .node (o24 P) (n516 P) (n350 P)
noncomputable def n518 (P : Params) : BT := .node (o9 P) (n443 P) (n517 P)
noncomputable def n519 (P : Params) : BT := .node (o5 P) (n518 P) (n492 P)
noncomputable def n520 (P : Params) : BT := .node (o1 P) (n514 P) (n519 P)
noncomputable def n521 (P : Params) : BT := .node (o136 P) .nil .nil
noncomputable def n522 (P : Params) : BT := .node (o80 P) (n521 P) .nil
noncomputable def n523 (P : Params) : BT := .node (o37 P) (n378 P) (n522 P)
noncomputable def n524 (P : Params) : BT := .node (o23 P) (n523 P) (n383 P)
noncomputable def n525 (P : Params) : BT := .node (o8 P) (n454 P) (n524 P)
noncomputable def n526 (P : Params) : BT := .node (o138 P) .nil .nil
noncomputable def n527 (P : Params) : BT := .node (o7 P) (n526 P) .nil
noncomputable def n528 (P : Params) : BT := .node (o7 P) (n394 P) (n527 P)
noncomputable def n529 (P : Params) : BT := .node (o7 P) (n528 P) (n457 P)
noncomputable def n530 (P : Params) : BT := .node (o12 P) (n498 P) (n529 P)
noncomputable def n531 (P : Params) : BT := .node (o4 P) (n525 P) (n530 P)
noncomputable def n532 (P : Params) : BT := .node (o82 P) (n488 P) .nil
noncomputable def n533 (P : Params) : BT := .node (o8 P) (n409 P) (n532 P)
noncomputable def n534 (P : Params) : BT := .node (o25 P) (n533 P) (n414 P)
noncomputable def n535 (P : Params) : BT := .node (o10 P) (n464 P) (n534 P)
noncomputable def n536 (P : Params) : BT := .node (o6 P) (n535 P) (n505 P)
noncomputable def n537 (P : Params) : BT := .node (o2 P) (n531 P) (n536 P)
noncomputable def n538 (P : Params) : BT := .node (o0 P) (n520 P) (n537 P)
noncomputable def o260 (P : Params) : Obj := ⟨(.type "dict"), none, (.dict #[⟨(kh P s182), (.str s182 165), (.str s459 2407)⟩, ⟨(kh P s184), (.str s184 166), .none⟩, ⟨(kh P s185), (.str s185 167), .none⟩, ⟨(kh P s186), (.str s186 168), (.builtin "__main__.__loader__#opaque")⟩, ⟨(kh P s187), (.str s187 169), .none⟩, ⟨(kh P s355), (.str s355 170), (.ref 6)⟩, ⟨(kh P s356), (.str s356 171), (.ref 4)⟩, ⟨(kh P s357), (.str s357 173), (.str s358 172)⟩, ⟨(kh P s359), (.str s359 174), .none⟩, ⟨(kh P s343), (.str s343 275), (.ref 12)⟩, ⟨(kh P s410), (.str s410 288), (.ref 38)⟩, ⟨(kh P s411), (.str s411 304), (.ref 47)⟩, ⟨(kh P s412), (.str s412 318), (.ref 56)⟩, ⟨(kh P s413), (.str s413 378), (.ref 94)⟩, ⟨(kh P s414), (.str s414 440), (.ref 106)⟩, ⟨(kh P s415), (.str s415 447), (.ref 116)⟩, ⟨(kh P s416), (.str s416 2398), (.ref 117)⟩, ⟨(kh P s417), (.str s417 2406), (.ref 162)⟩, ⟨(kh P s418), (.str s418 2442), (.ref 167)⟩, ⟨(kh P s419), (.str s419 2468), (.ref 172)⟩, ⟨(kh P s420), (.str s420 2502), (.ref 177)⟩] 21), #[]⟩
noncomputable def n539 (P : Params) : BT := .node (o8 P) (n488 P) .nil
noncomputable def n540 (P : Params) : BT := .node (o41 P) (n308 P) (n539 P)
noncomputable def n541 (P : Params) : BT := .node (o7 P) (n436 P) (n540 P)
noncomputable def n542 (P : Params) : BT := .node (o7 P) (n541 P) (n480 P)
noncomputable def n543 (P : Params) : BT := .node (o260 P) (n542 P) (n513 P)
noncomputable def n544 (P : Params) : BT := .node (o141 P) .nil .nil
noncomputable def n545 (P : Params) : BT := .node (o7 P) (n544 P) .nil
noncomputable def n546 (P : Params) : BT := .node (o43 P) (n341 P) (n545 P)
noncomputable def n547 (P : Params) : BT := .node (o16 P) (n442 P) (n546 P)
noncomputable def n548 (P : Params) : BT := .node (o9 P) (n547 P) (n517 P)
noncomputable def n549 (P : Params) : BT := .node (o139 P) .nil .nil
noncomputable def n550 (P : Params) : BT := .node (o84 P) (n549 P) .nil
noncomputable def n551 (P : Params) : BT := .node (o39 P) (n362 P) (n550 P)
noncomputable def n552 (P : Params) : BT := .node (o256 P) (n551 P) (n446 P)
noncomputable def n553 (P : Params) : BT := .node (o13 P) (n491 P) (n552 P)
noncomputable def n554 (P : Params) : BT := .node (o5 P) (n548 P) (n553 P)
noncomputable def n555 (P : Params) : BT := .node (o1 P) (n543 P) (n554 P)
noncomputable def n556 (P : Params) : BT := .node (o140 P) .nil .nil
noncomputable def n557 (P : Params) : BT := .node (o85 P) (n556 P) .nil
noncomputable def n558 (P : Params) : BT := .node (o42 P) (n374 P) (n557 P)
noncomputable def n559 (P : Params) : BT := .node (o15 P) (n453 P) (n558 P)
noncomputable def n560 (P : Params) : BT := .node (o8 P) (n559 P) (n524 P)
noncomputable def n561 (P : Params) : BT := .node (o4 P) (n560 P) (n530 P)
noncomputable def n562 (P : Params) : BT := .node (o7 P) (n495 P) .nil
noncomputable def n563 (P : Params) : BT := .node (o40 P) (n426 P) (n562 P)
noncomputable def n564 (P : Params) : BT := .node (o28 P) (n563 P) (n468 P)
noncomputable def n565 (P : Params) : BT := .node (o14 P) (n504 P) (n564 P)
noncomputable def n566 (P : Params) : BT := .node (o6 P) (n535 P) (n565 P)
noncomputable def n567 (P : Params) : BT := .node (o2 P) (n561 P) (n566 P)
noncomputable def n568 (P : Params) : BT := .node (o0 P) (n555 P) (n567 P)
noncomputable def o261 (P : Params) : Obj := ⟨(.type "dict"), none, (.dict #[⟨(kh P s182), (.str s182 165), (.str s459 2407)⟩, ⟨(kh P s184), (.str s184 166), .none⟩, ⟨(kh P s185), (.str s185 167), .none⟩, ⟨(kh P s186), (.str s186 168), (.builtin "__main__.__loader__#opaque")⟩, ⟨(kh P s187), (.str s187 169), .none⟩, ⟨(kh P s355), (.str s355 170), (.ref 6)⟩, ⟨(kh P s356), (.str s356 171), (.ref 4)⟩, ⟨(kh P s357), (.str s357 173), (.str s358 172)⟩, ⟨(kh P s359), (.str s359 174), .none⟩, ⟨(kh P s343), (.str s343 275), (.ref 12)⟩, ⟨(kh P s410), (.str s410 288), (.ref 38)⟩, ⟨(kh P s411), (.str s411 304), (.ref 47)⟩, ⟨(kh P s412), (.str s412 318), (.ref 56)⟩, ⟨(kh P s413), (.str s413 378), (.ref 94)⟩, ⟨(kh P s414), (.str s414 440), (.ref 106)⟩, ⟨(kh P s415), (.str s415 447), (.ref 116)⟩, ⟨(kh P s416), (.str s416 2398), (.ref 117)⟩, ⟨(kh P s417), (.str s417 2406), (.ref 162)⟩, ⟨(kh P s418), (.str s418 2442), (.ref 167)⟩, ⟨(kh P s419), (.str s419 2468), (.ref 172)⟩, ⟨(kh P s420), (.str s420 2502), (.ref 177)⟩, ⟨(kh P s421), (.str s421 2512), (.ref 185)⟩] 22), #[]⟩
noncomputable def o262 (_ : Params) : Obj := ⟨.none, none, (.fields #[(.int 2 0), (.int 0 0), (.ref 37), (.int 6 0), (.int 0 0), (.ref 46), (.int 26 0), (.int 0 0), (.ref 55), (.int 47 0), (.int 0 0), (.ref 62), (.int 92 0), (.int 0 0), (.ref 115), (.int 95 0), (.int 0 0), (.ref 161), (.int 104 0), (.int 0 0), (.ref 184)]), #[]⟩
noncomputable def n569 (P : Params) : BT := .node (o144 P) .nil .nil
noncomputable def n570 (P : Params) : BT := .node (o91 P) (n569 P) .nil
noncomputable def n571 (P : Params) : BT := .node (o46 P) (n315 P) (n570 P)
noncomputable def n572 (P : Params) : BT := .node (o22 P) (n479 P) (n571 P)
noncomputable def n573 (P : Params) : BT := .node (o7 P) (n541 P) (n572 P)
noncomputable def n574 (P : Params) : BT := .node (o87 P) (n0 P) .nil
noncomputable def n575 (P : Params) : BT := .node (o8 P) (n324 P) (n574 P)
noncomputable def n576 (P : Params) : BT := .node (o18 P) (n484 P) (n575 P)
noncomputable def n577 (P : Params) : BT := .node (o27 P) (n576 P) (n512 P)
noncomputable def n578 (P : Params) : BT := .node (o261 P) (n573 P) (n577 P)
noncomputable def n579 (P : Params) : BT := .node (o146 P) .nil .nil
noncomputable def n580 (P : Params) : BT := .node (o93 P) (n579 P) .nil
noncomputable def n581 (P : Params) : BT := .node (o7 P) (n348 P) (n580 P)
noncomputable def n582 (P : Params) : BT := .node (o24 P) (n516 P) (n581 P)
noncomputable def n583 (P : Params) : BT := .node (o9 P) (n547 P) (n582 P)
noncomputable def n584 (P : Params) : BT := .node (o143 P) .nil .nil
noncomputable def n585 (P : Params) : BT := .node (o89 P) (n584 P) .nil
noncomputable def n586 (P : Params) : BT := .node (o7 P) (n357 P) (n585 P)
noncomputable def n587 (P : Params) : BT := .node (o20 P) (n490 P) (n586 P)
noncomputable def n588 (P : Params) : BT := .node (o262 P) (n551 P) (n446 P)
noncomputable def n589 (P : Params) : BT := .node (o13 P) (n587 P) (n588 P)
noncomputable def n590 (P : Params) : BT := .node (o5 P) (n583 P) (n589 P)
noncomputable def n591 (P : Params) : BT := .node (o1 P) (n578 P) (n590 P)
noncomputable def n592 (P : Params) : BT := .node (o145 P) .nil .nil
noncomputable def n593 (P : Params) : BT := .node (o92 P) (n592 P) .nil
noncomputable def n594 (P : Params) : BT := .node (o47 P) (n381 P) (n593 P)
noncomputable def n595 (P : Params) : BT := .node (o23 P) (n523 P) (n594 P)
noncomputable def n596 (P : Params) : BT := .node (o8 P) (n559 P) (n595 P)
noncomputable def n597 (P : Params) : BT := .node (o88 P) (n32 P) .nil
noncomputable def n598 (P : Params) : BT := .node (o44 P) (n390 P) (n597 P)
noncomputable def n599 (P : Params) : BT := .node (o19 P) (n497 P) (n598 P)
noncomputable def n600 (P : Params) : BT := .node (o12 P) (n599 P) (n529 P)
noncomputable def n601 (P : Params) : BT := .node (o4 P) (n596 P) (n600 P)
noncomputable def n602 (P : Params) : BT := .node (o142 P) .nil .nil
noncomputable def n603 (P : Params) : BT := .node (o86 P) (n602 P) .nil
noncomputable def n604 (P : Params) : BT := .node (o7 P) (n405 P) (n603 P)
noncomputable def n605 (P : Params) : BT := .node (o17 P) (n463 P) (n604 P)
noncomputable def n606 (P : Params) : BT := .node (o10 P) (n605 P) (n534 P)
noncomputable def n607 (P : Params) : BT := .node (o90 P) (n0 P) .nil
noncomputable def n608 (P : Params) : BT := .node (o45 P) (n421 P) (n607 P)
noncomputable def n609 (P : Params) : BT := .node (o21 P) (n503 P) (n608 P)
noncomputable def n610 (P : Params) : BT := .node (o14 P) (n609 P) (n564 P)
noncomputable def n611 (P : Params) : BT := .node (o6 P) (n606 P) (n610 P)
noncomputable def n612 (P : Params) : BT := .node (o2 P) (n601 P) (n611 P)
noncomputable def n613 (P : Params) : BT := .node (o0 P) (n591 P) (n612 P)
noncomputable def o263 (P : Params) : Obj := ⟨(.type "dict"), none, (.dict #[⟨(kh P s182), (.str s182 165), (.str s459 2407)⟩, ⟨(kh P s184), (.str s184 166), .none⟩, ⟨(kh P s185), (.str s185 167), .none⟩, ⟨(kh P s186), (.str s186 168), (.builtin "__main__.__loader__#opaque")⟩, ⟨(kh P s187), (.str s187 169), .none⟩, ⟨(kh P s355), (.str s355 170), (.ref 6)⟩, ⟨(kh P s356), (.str s356 171), (.ref 4)⟩, ⟨(kh P s357), (.str s357 173), (.str s358 172)⟩, ⟨(kh P s359), (.str s359 174), .none⟩, ⟨(kh P s343), (.str s343 275), (.ref 12)⟩, ⟨(kh P s410), (.str s410 288), (.ref 38)⟩, ⟨(kh P s411), (.str s411 304), (.ref 47)⟩, ⟨(kh P s412), (.str s412 318), (.ref 56)⟩, ⟨(kh P s413), (.str s413 378), (.ref 94)⟩, ⟨(kh P s414), (.str s414 440), (.ref 106)⟩, ⟨(kh P s415), (.str s415 447), (.ref 116)⟩, ⟨(kh P s416), (.str s416 2398), (.ref 117)⟩, ⟨(kh P s417), (.str s417 2406), (.ref 162)⟩, ⟨(kh P s418), (.str s418 2442), (.ref 167)⟩, ⟨(kh P s419), (.str s419 2468), (.ref 172)⟩, ⟨(kh P s420), (.str s420 2502), (.ref 177)⟩, ⟨(kh P s421), (.str s421 2512), (.ref 185)⟩, ⟨(kh P s422), (.str s422 2669), (.ref 306)⟩] 23), #[]⟩
noncomputable def o264 (_ : Params) : Obj := ⟨.none, none, (.fields #[(.int 2 0), (.int 0 0), (.ref 37), (.int 6 0), (.int 0 0), (.ref 46), (.int 26 0), (.int 0 0), (.ref 55), (.int 47 0), (.int 0 0), (.ref 62), (.int 92 0), (.int 0 0), (.ref 115), (.int 95 0), (.int 0 0), (.ref 161), (.int 104 0), (.int 0 0), (.ref 184), (.int 113 0), (.int 0 0), (.ref 191)]), #[]⟩
noncomputable def n614 (P : Params) : BT := .node (o99 P) (n32 P) .nil
noncomputable def n615 (P : Params) : BT := .node (o149 P) .nil .nil
noncomputable def n616 (P : Params) : BT := .node (o52 P) (n614 P) (n615 P)
noncomputable def n617 (P : Params) : BT := .node (o203 P) .nil .nil
noncomputable def n618 (P : Params) : BT := .node (o7 P) (n617 P) .nil
noncomputable def n619 (P : Params) : BT := .node (o72 P) (n618 P) (n32 P)
noncomputable def n620 (P : Params) : BT := .node (o29 P) (n616 P) (n619 P)
noncomputable def n621 (P : Params) : BT := .node (o115 P) (n0 P) .nil
noncomputable def n622 (P : Params) : BT := .node (o158 P) .nil .nil
noncomputable def n623 (P : Params) : BT := .node (o8 P) (n621 P) (n622 P)
noncomputable def n624 (P : Params) : BT := .node (o213 P) .nil .nil
noncomputable def n625 (P : Params) : BT := .node (o133 P) (n624 P) .nil
noncomputable def n626 (P : Params) : BT := .node (o176 P) .nil .nil
noncomputable def n627 (P : Params) : BT := .node (o8 P) (n625 P) (n626 P)
noncomputable def n628 (P : Params) : BT := .node (o41 P) (n623 P) (n627 P)
noncomputable def n629 (P : Params) : BT := .node (o7 P) (n620 P) (n628 P)
noncomputable def n630 (P : Params) : BT := .node (o190 P) .nil .nil
noncomputable def n631 (P : Params) : BT := .node (o107 P) (n630 P) .nil
noncomputable def n632 (P : Params) : BT := .node (o153 P) .nil .nil
noncomputable def n633 (P : Params) : BT := .node (o7 P) (n631 P) (n632 P)
noncomputable def n634 (P : Params) : BT := .node (o208 P) .nil .nil
noncomputable def n635 (P : Params) : BT := .node (o135 P) (n634 P) .nil
noncomputable def n636 (P : Params) : BT := .node (o171 P) .nil .nil
noncomputable def n637 (P : Params) : BT := .node (o7 P) (n635 P) (n636 P)
noncomputable def n638 (P : Params) : BT := .node (o36 P) (n633 P) (n637 P)
noncomputable def n639 (P : Params) : BT := .node (o123 P) (n32 P) .nil
noncomputable def n640 (P : Params) : BT := .node (o65 P) (n639 P) (n0 P)
noncomputable def n641 (P : Params) : BT := .node (o91 P) (n569 P) (n0 P)
noncomputable def n642 (P : Params) : BT := .node (o46 P) (n640 P) (n641 P)
noncomputable def n643 (P : Params) : BT := .node (o22 P) (n638 P) (n642 P)
noncomputable def n644 (P : Params) : BT := .node (o7 P) (n629 P) (n643 P)
noncomputable def n645 (P : Params) : BT := .node (o103 P) (n0 P) .nil
noncomputable def n646 (P : Params) : BT := .node (o7 P) (n645 P) (n32 P)
noncomputable def n647 (P : Params) : BT := .node (o132 P) (n32 P) .nil
noncomputable def n648 (P : Params) : BT := .node (o76 P) (n647 P) (n0 P)
noncomputable def n649 (P : Params) : BT := .node (o7 P) (n646 P) (n648 P)
noncomputable def n650 (P : Params) : BT := .node (o196 P) .nil .nil
noncomputable def n651 (P : Params) : BT := .node (o119 P) (n650 P) .nil
noncomputable def n652 (P : Params) : BT := .node (o63 P) (n651 P) (n0 P)
noncomputable def n653 (P : Params) : BT := .node (o217 P) .nil .nil
noncomputable def n654 (P : Params) : BT := .node (o7 P) (n653 P) .nil
noncomputable def n655 (P : Params) : BT := .node (o178 P) .nil .nil
noncomputable def n656 (P : Params) : BT := .node (o87 P) (n654 P) (n655 P)
noncomputable def n657 (P : Params) : BT := .node (o8 P) (n652 P) (n656 P)
noncomputable def n658 (P : Params) : BT := .node (o18 P) (n649 P) (n657 P)
noncomputable def n659 (P : Params) : BT := .node (o111 P) (n0 P) .nil
noncomputable def n660 (P : Params) : BT := .node (o155 P) .nil .nil
noncomputable def n661 (P : Params) : BT := .node (o58 P) (n659 P) (n660 P)
noncomputable def n662 (P : Params) : BT := .node (o210 P) .nil .nil
noncomputable def n663 (P : Params) : BT := .node (o137 P) (n662 P) .nil
noncomputable def n664 (P : Params) : BT := .node (o83 P) (n663 P) (n32 P)
noncomputable def n665 (P : Params) : BT := .node (o38 P) (n661 P) (n664 P)
noncomputable def n666 (P : Params) : BT := .node (o127 P) (n0 P) .nil
noncomputable def n667 (P : Params) : BT := .node (o164 P) .nil .nil
noncomputable def n668 (P : Params) : BT := .node (o68 P) (n666 P) (n667 P)
noncomputable def n669 (P : Params) : BT := .node (o48 P) .nil .nil
noncomputable def n670 (P : Params) : BT := .node (o182 P) .nil .nil
noncomputable def n671 (P : Params) : BT := .node (o95 P) (n669 P) (n670 P)
noncomputable def n672 (P : Params) : BT := .node (o49 P) (n668 P) (n671 P)
noncomputable def n673 (P : Params) : BT := .node (o26 P) (n665 P) (n672 P)
noncomputable def n674 (P : Params) : BT := .node (o27 P) (n658 P) (n673 P)
noncomputable def n675 (P : Params) : BT := .node (o263 P) (n644 P) (n674 P)
noncomputable def n676 (P : Params) : BT := .node (o186 P) .nil .nil
noncomputable def n677 (P : Params) : BT := .node (o101 P) (n676 P) .nil
noncomputable def n678 (P : Params) : BT := .node (o8 P) (n677 P) (n488 P)
noncomputable def n679 (P : Params) : BT := .node (o205 P) .nil .nil
noncomputable def n680 (P : Params) : BT := .node (o130 P) (n679 P) .nil
noncomputable def n681 (P : Params) : BT := .node (o168 P) .nil .nil
noncomputable def n682 (P : Params) : BT := .node (o74 P) (n680 P) (n681 P)
noncomputable def n683 (P : Params) : BT := .node (o8 P) (n678 P) (n682 P)
noncomputable def n684 (P : Params) : BT := .node (o195 P) .nil .nil
noncomputable def n685 (P : Params) : BT := .node (o117 P) (n684 P) .nil
noncomputable def n686 (P : Params) : BT := .node (o7 P) (n685 P) (n32 P)
noncomputable def n687 (P : Params) : BT := .node (o215 P) .nil .nil
noncomputable def n688 (P : Params) : BT := .node (o141 P) (n687 P) .nil
noncomputable def n689 (P : Params) : BT := .node (o7 P) (n688 P) (n0 P)
noncomputable def n690 (P : Params) : BT := .node (o43 P) (n686 P) (n689 P)
noncomputable def n691 (P : Params) : BT := .node (o16 P) (n683 P) (n690 P)
noncomputable def n692 (P : Params) : BT := .node (o109 P) (n32 P) .nil
noncomputable def n693 (P : Params) : BT := .node (o57 P) (n692 P) (n0 P)
noncomputable def n694 (P : Params) : BT := .node (o6 P) (n0 P) .nil
noncomputable def n695 (P : Params) : BT := .node (o173 P) .nil .nil
noncomputable def n696 (P : Params) : BT := .node (o81 P) (n694 P) (n695 P)
noncomputable def n697 (P : Params) : BT := .node (o7 P) (n693 P) (n696 P)
noncomputable def n698 (P : Params) : BT := .node (o200 P) .nil .nil
noncomputable def n699 (P : Params) : BT := .node (o125 P) (n698 P) .nil
noncomputable def n700 (P : Params) : BT := .node (o163 P) .nil .nil
noncomputable def n701 (P : Params) : BT := .node (o66 P) (n699 P) (n700 P)
noncomputable def n702 (P : Params) : BT := .node (o181 P) .nil .nil
noncomputable def n703 (P : Params) : BT := .node (o93 P) (n579 P) (n702 P)
noncomputable def n704 (P : Params) : BT := .node (o7 P) (n701 P) (n703 P)
noncomputable def n705 (P : Params) : BT := .node (o24 P) (n697 P) (n704 P)
noncomputable def n706 (P : Params) : BT := .node (o9 P) (n691 P) (n705 P)
noncomputable def n707 (P : Params) : BT := .node (o188 P) .nil .nil
noncomputable def n708 (P : Params) : BT := .node (o105 P) (n707 P) .nil
noncomputable def n709 (P : Params) : BT := .node (o55 P) (n708 P) (n0 P)
noncomputable def n710 (P : Params) : BT := .node (o133 P) (n0 P) .nil
noncomputable def n711 (P : Params) : BT := .node (o170 P) .nil .nil
noncomputable def n712 (P : Params) : BT := .node (o78 P) (n710 P) (n711 P)
noncomputable def n713 (P : Params) : BT := .node (o34 P) (n709 P) (n712 P)
noncomputable def n714 (P : Params) : BT := .node (o198 P) .nil .nil
noncomputable def n715 (P : Params) : BT := .node (o121 P) (n714 P) .nil
noncomputable def n716 (P : Params) : BT := .node (o161 P) .nil .nil
noncomputable def n717 (P : Params) : BT := .node (o7 P) (n715 P) (n716 P)
noncomputable def n718 (P : Params) : BT := .node (o219 P) .nil .nil
noncomputable def n719 (P : Params) : BT := .node (o143 P) (n718 P) .nil
noncomputable def n720 (P : Params) : BT := .node (o180 P) .nil .nil
noncomputable def n721 (P : Params) : BT := .node (o89 P) (n719 P) (n720 P)
noncomputable def n722 (P : Params) : BT := .node (o7 P) (n717 P) (n721 P)
noncomputable def n723 (P : Params) : BT := .node (o20 P) (n713 P) (n722 P)
noncomputable def n724 (P : Params) : BT := .node (o193 P) .nil .nil
noncomputable def n725 (P : Params) : BT := .node (o113 P) (n724 P) .nil
noncomputable def n726 (P : Params) : BT := .node (o156 P) .nil .nil
noncomputable def n727 (P : Params) : BT := .node (o60 P) (n725 P) (n726 P)
noncomputable def n728 (P : Params) : BT := .node (o211 P) .nil .nil
noncomputable def n729 (P : Params) : BT := .node (o139 P) (n728 P) .nil
noncomputable def n730 (P : Params) : BT := .node (o84 P) (n729 P) (n0 P)
noncomputable def n731 (P : Params) : BT := .node (o39 P) (n727 P) (n730 P)
noncomputable def n732 (P : Params) : BT := .node (o202 P) .nil .nil
noncomputable def n733 (P : Params) : BT := .node (o8 P) (n732 P) .nil
noncomputable def n734 (P : Params) : BT := .node (o166 P) .nil .nil
noncomputable def n735 (P : Params) : BT := .node (o70 P) (n733 P) (n734 P)
noncomputable def n736 (P : Params) : BT := .node (o184 P) .nil .nil
noncomputable def n737 (P : Params) : BT := .node (o97 P) (n0 P) (n736 P)
noncomputable def n738 (P : Params) : BT := .node (o50 P) (n735 P) (n737 P)
noncomputable def n739 (P : Params) : BT := .node (o264 P) (n731 P) (n738 P)
noncomputable def n740 (P : Params) : BT := .node (o13 P) (n723 P) (n739 P)
noncomputable def n741 (P : Params) : BT := .node (o5 P) (n706 P) (n740 P)
noncomputable def n742 (P : Params) : BT := .node (o1 P) (n675 P) (n741 P)
noncomputable def n743 (P : Params) : BT := .node (o185 P) .nil .nil
noncomputable def n744 (P : Params) : BT := .node (o100 P) (n743 P) .nil
noncomputable def n745 (P : Params) : BT := .node (o150 P) .nil .nil
noncomputable def n746 (P : Params) : BT := .node (o7 P) (n744 P) (n745 P)
noncomputable def n747 (P : Params) : BT := .node (o204 P) .nil .nil
noncomputable def n748 (P : Params) : BT := .node (o129 P) (n747 P) .nil
noncomputable def n749 (P : Params) : BT := .node (o167 P) .nil .nil
noncomputable def n750 (P : Params) : BT := .node (o73 P) (n748 P) (n749 P)
noncomputable def n751 (P : Params) : BT := .node (o7 P) (n746 P) (n750 P)
noncomputable def n752 (P : Params) : BT := .node (o116 P) (n32 P) .nil
noncomputable def n753 (P : Params) : BT := .node (o61 P) (n752 P) (n0 P)
noncomputable def n754 (P : Params) : BT := .node (o214 P) .nil .nil
noncomputable def n755 (P : Params) : BT := .node (o140 P) (n754 P) .nil
noncomputable def n756 (P : Params) : BT := .node (o177 P) .nil .nil
noncomputable def n757 (P : Params) : BT := .node (o85 P) (n755 P) (n756 P)
noncomputable def n758 (P : Params) : BT := .node (o42 P) (n753 P) (n757 P)
noncomputable def n759 (P : Params) : BT := .node (o15 P) (n751 P) (n758 P)
noncomputable def n760 (P : Params) : BT := .node (o108 P) (n0 P) .nil
noncomputable def n761 (P : Params) : BT := .node (o154 P) .nil .nil
noncomputable def n762 (P : Params) : BT := .node (o8 P) (n760 P) (n761 P)
noncomputable def n763 (P : Params) : BT := .node (o209 P) .nil .nil
noncomputable def n764 (P : Params) : BT := .node (o136 P) (n763 P) .nil
noncomputable def n765 (P : Params) : BT := .node (o172 P) .nil .nil
noncomputable def n766 (P : Params) : BT := .node (o80 P) (n764 P) (n765 P)
noncomputable def n767 (P : Params) : BT := .node (o37 P) (n762 P) (n766 P)
noncomputable def n768 (P : Params) : BT := .node (o199 P) .nil .nil
noncomputable def n769 (P : Params) : BT := .node (o124 P) (n768 P) .nil
noncomputable def n770 (P : Params) : BT := .node (o7 P) (n769 P) (n32 P)
noncomputable def n771 (P : Params) : BT := .node (o92 P) (n592 P) (n32 P)
noncomputable def n772 (P : Params) : BT := .node (o47 P) (n770 P) (n771 P)
noncomputable def n773 (P : Params) : BT := .node (o23 P) (n767 P) (n772 P)
noncomputable def n774 (P : Params) : BT := .node (o8 P) (n759 P) (n773 P)
noncomputable def n775 (P : Params) : BT := .node (o104 P) (n32 P) .nil
noncomputable def n776 (P : Params) : BT := .node (o151 P) .nil .nil
noncomputable def n777 (P : Params) : BT := .node (o54 P) (n775 P) (n776 P)
noncomputable def n778 (P : Params) : BT := .node (o206 P) .nil .nil
noncomputable def n779 (P : Params) : BT := .node (o6 P) (n778 P) .nil
noncomputable def n780 (P : Params) : BT := .node (o77 P) (n779 P) (n32 P)
noncomputable def n781 (P : Params) : BT := .node (o33 P) (n777 P) (n780 P)
noncomputable def n782 (P : Params) : BT := .node (o197 P) .nil .nil
noncomputable def n783 (P : Params) : BT := .node (o120 P) (n782 P) .nil
noncomputable def n784 (P : Params) : BT := .node (o160 P) .nil .nil
noncomputable def n785 (P : Params) : BT := .node (o64 P) (n783 P) (n784 P)
noncomputable def n786 (P : Params) : BT := .node (o218 P) .nil .nil
noncomputable def n787 (P : Params) : BT := .node (o8 P) (n786 P) .nil
noncomputable def n788 (P : Params) : BT := .node (o179 P) .nil .nil
noncomputable def n789 (P : Params) : BT := .node (o88 P) (n787 P) (n788 P)
noncomputable def n790 (P : Params) : BT := .node (o44 P) (n785 P) (n789 P)
noncomputable def n791 (P : Params) : BT := .node (o19 P) (n781 P) (n790 P)
noncomputable def n792 (P : Params) : BT := .node (o192 P) .nil .nil
noncomputable def n793 (P : Params) : BT := .node (o112 P) (n792 P) .nil
noncomputable def n794 (P : Params) : BT := .node (o59 P) (n793 P) (n0 P)
noncomputable def n795 (P : Params) : BT := .node (o138 P) (n0 P) .nil
noncomputable def n796 (P : Params) : BT := .node (o174 P) .nil .nil
noncomputable def n797 (P : Params) : BT := .node (o7 P) (n795 P) (n796 P)
noncomputable def n798 (P : Params) : BT := .node (o7 P) (n794 P) (n797 P)
noncomputable def n799 (P : Params) : BT := .node (o7 P) (n32 P) .nil
noncomputable def n800 (P : Params) : BT := .node (o165 P) .nil .nil
noncomputable def n801 (P : Params) : BT := .node (o69 P) (n799 P) (n800 P)
noncomputable def n802 (P : Params) : BT := .node (o147 P) .nil .nil
noncomputable def n803 (P : Params) : BT := .node (o183 P) .nil .nil
noncomputable def n804 (P : Params) : BT := .node (o96 P) (n802 P) (n803 P)
noncomputable def n805 (P : Params) : BT := .node (o7 P) (n801 P) (n804 P)
noncomputable def n806 (P : Params) : BT := .node (o7 P) (n798 P) (n805 P)
noncomputable def n807 (P : Params) : BT := .node (o12 P) (n791 P) (n806 P)
noncomputable def n808 (P : Params) : BT := .node (o4 P) (n774 P) (n807 P)
noncomputable def n809 (P : Params) : BT := .node (o187 P) .nil .nil
noncomputable def n810 (P : Params) : BT := .node (o102 P) (n809 P) .nil
noncomputable def n811 (P : Params) : BT := .node (o53 P) (n810 P) (n0 P)
noncomputable def n812 (P : Params) : BT := .node (o131 P) (n0 P) .nil
noncomputable def n813 (P : Params) : BT := .node (o169 P) .nil .nil
noncomputable def n814 (P : Params) : BT := .node (o75 P) (n812 P) (n813 P)
noncomputable def n815 (P : Params) : BT := .node (o32 P) (n811 P) (n814 P)
noncomputable def n816 (P : Params) : BT := .node (o118 P) (n0 P) .nil
noncomputable def n817 (P : Params) : BT := .node (o159 P) .nil .nil
noncomputable def n818 (P : Params) : BT := .node (o62 P) (n816 P) (n817 P)
noncomputable def n819 (P : Params) : BT := .node (o216 P) .nil .nil
noncomputable def n820 (P : Params) : BT := .node (o142 P) (n819 P) .nil
noncomputable def n821 (P : Params) : BT := .node (o86 P) (n820 P) (n32 P)
noncomputable def n822 (P : Params) : BT := .node (o7 P) (n818 P) (n821 P)
noncomputable def n823 (P : Params) : BT := .node (o17 P) (n815 P) (n822 P)
noncomputable def n824 (P : Params) : BT := .node (o191 P) .nil .nil
noncomputable def n825 (P : Params) : BT := .node (o110 P) (n824 P) .nil
noncomputable def n826 (P : Params) : BT := .node (o7 P) (n825 P) (n32 P)
noncomputable def n827 (P : Params) : BT := .node (o133 P) (n32 P) .nil
noncomputable def n828 (P : Params) : BT := .node (o82 P) (n827 P) (n0 P)
noncomputable def n829 (P : Params) : BT := .node (o8 P) (n826 P) (n828 P)
noncomputable def n830 (P : Params) : BT := .node (o201 P) .nil .nil
noncomputable def n831 (P : Params) : BT := .node (o126 P) (n830 P) .nil
noncomputable def n832 (P : Params) : BT := .node (o67 P) (n831 P) (n0 P)
noncomputable def n833 (P : Params) : BT := .node (o94 P) (n0 P) (n0 P)
noncomputable def n834 (P : Params) : BT := .node (o48 P) (n832 P) (n833 P)
noncomputable def n835 (P : Params) : BT := .node (o25 P) (n829 P) (n834 P)
noncomputable def n836 (P : Params) : BT := .node (o10 P) (n823 P) (n835 P)
noncomputable def n837 (P : Params) : BT := .node (o189 P) .nil .nil
noncomputable def n838 (P : Params) : BT := .node (o106 P) (n837 P) .nil
noncomputable def n839 (P : Params) : BT := .node (o152 P) .nil .nil
noncomputable def n840 (P : Params) : BT := .node (o56 P) (n838 P) (n839 P)
noncomputable def n841 (P : Params) : BT := .node (o207 P) .nil .nil
noncomputable def n842 (P : Params) : BT := .node (o134 P) (n841 P) .nil
noncomputable def n843 (P : Params) : BT := .node (o79 P) (n842 P) (n0 P)
noncomputable def n844 (P : Params) : BT := .node (o35 P) (n840 P) (n843 P)
noncomputable def n845 (P : Params) : BT := .node (o122 P) (n0 P) .nil
noncomputable def n846 (P : Params) : BT := .node (o162 P) .nil .nil
noncomputable def n847 (P : Params) : BT := .node (o8 P) (n845 P) (n846 P)
noncomputable def n848 (P : Params) : BT := .node (o220 P) .nil .nil
noncomputable def n849 (P : Params) : BT := .node (o7 P) (n848 P) .nil
noncomputable def n850 (P : Params) : BT := .node (o90 P) (n849 P) (n488 P)
noncomputable def n851 (P : Params) : BT := .node (o45 P) (n847 P) (n850 P)
noncomputable def n852 (P : Params) : BT := .node (o21 P) (n844 P) (n851 P)
noncomputable def n853 (P : Params) : BT := .node (o194 P) .nil .nil
noncomputable def n854 (P : Params) : BT := .node (o114 P) (n853 P) .nil
noncomputable def n855 (P : Params) : BT := .node (o157 P) .nil .nil
noncomputable def n856 (P : Params) : BT := .node (o7 P) (n854 P) (n855 P)
noncomputable def n857 (P : Params) : BT := .node (o212 P) .nil .nil
noncomputable def n858 (P : Params) : BT := .node (o6 P) (n857 P) .nil
noncomputable def n859 (P : Params) : BT := .node (o175 P) .nil .nil
noncomputable def n860 (P : Params) : BT := .node (o7 P) (n858 P) (n859 P)
noncomputable def n861 (P : Params) : BT := .node (o40 P) (n856 P) (n860 P)
noncomputable def n862 (P : Params) : BT := .node (o128 P) (n0 P) .nil
noncomputable def n863 (P : Params) : BT := .node (o71 P) (n862 P) (n0 P)
noncomputable def n864 (P : Params) : BT := .node (o148 P) .nil .nil
noncomputable def n865 (P : Params) : BT := .node (o98 P) (n864 P) (n0 P)
noncomputable def n866 (P : Params) : BT := .node (o51 P) (n863 P) (n865 P)
noncomputable def n867 (P : Params) : BT := .node (o28 P) (n861 P) (n866 P)
noncomputable def n868 (P : Params) : BT := .node (o14 P) (n852 P) (n867 P)
noncomputable def n869 (P : Params) : BT := .node (o6 P) (n836 P) (n868 P)
noncomputable def n870 (P : Params) : BT := .node (o2 P) (n808 P) (n869 P)
noncomputable def n871 (P : Params) : BT := .node (o0 P) (n742 P) (n870 P)
noncomputable def o265 (P : Params) : Obj := ⟨(.type "dict"), none, (.dict #[⟨(kh P s182), (.str s182 165), (.str s409 2670)⟩, ⟨(kh P s184), (.str s184 166), .none⟩, ⟨(kh P s185), (.str s185 167), .none⟩, ⟨(kh P s186), (.str s186 168), (.builtin "__main__.__loader__#opaque")⟩, ⟨(kh P s187), (.str s187 169), .none⟩, ⟨(kh P s355), (.str s355 170), (.ref 6)⟩, ⟨(kh P s356), (.str s356 171), (.ref 4)⟩, ⟨(kh P s357), (.str s357 173), (.str s358 172)⟩, ⟨(kh P s359), (.str s359 174), .none⟩, ⟨(kh P s343), (.str s343 275), (.ref 12)⟩, ⟨(kh P s410), (.str s410 288), (.ref 38)⟩, ⟨(kh P s411), (.str s411 304), (.ref 47)⟩, ⟨(kh P s412), (.str s412 318), (.ref 56)⟩, ⟨(kh P s413), (.str s413 378), (.ref 94)⟩, ⟨(kh P s414), (.str s414 440), (.ref 106)⟩, ⟨(kh P s415), (.str s415 447), (.ref 116)⟩, ⟨(kh P s416), (.str s416 2398), (.ref 117)⟩, ⟨(kh P s417), (.str s417 2406), (.ref 162)⟩, ⟨(kh P s418), (.str s418 2442), (.ref 167)⟩, ⟨(kh P s419), (.str s419 2468), (.ref 172)⟩, ⟨(kh P s420), (.str s420 2502), (.ref 177)⟩, ⟨(kh P s421), (.str s421 2512), (.ref 185)⟩, ⟨(kh P s422), (.str s422 2669), (.ref 306)⟩] 23), #[]⟩
noncomputable def n872 (P : Params) : BT := .node (o265 P) (n644 P) (n674 P)
noncomputable def n873 (P : Params) : BT := .node (o1 P) (n872 P) (n741 P)
noncomputable def n874 (P : Params) : BT := .node (o0 P) (n873 P) (n870 P)
noncomputable def o266 (P : Params) : Obj := ⟨(.type "dict"), none, (.dict #[⟨(kh P s182), (.str s182 165), (.str s409 2670)⟩, ⟨(kh P s184), (.str s184 166), .none⟩, ⟨(kh P s185), (.str s185 167), .none⟩, ⟨(kh P s186), (.str s186 168), (.builtin "__main__.__loader__#opaque")⟩, ⟨(kh P s187), (.str s187 169), .none⟩, ⟨(kh P s355), (.str s355 170), (.ref 6)⟩, ⟨(kh P s356), (.str s356 171), (.ref 4)⟩, ⟨(kh P s357), (.str s357 173), (.str s358 172)⟩, ⟨(kh P s359), (.str s359 174), .none⟩, ⟨(kh P s343), (.str s343 275), (.ref 12)⟩, ⟨(kh P s410), (.str s410 288), (.ref 38)⟩, ⟨(kh P s411), (.str s411 304), (.ref 47)⟩, ⟨(kh P s412), (.str s412 318), (.ref 56)⟩, ⟨(kh P s413), (.str s413 378), (.ref 94)⟩, ⟨(kh P s414), (.str s414 440), (.ref 106)⟩, ⟨(kh P s415), (.str s415 447), (.ref 116)⟩, ⟨(kh P s416), (.str s416 2398), (.ref 117)⟩, ⟨(kh P s417), (.str s417 2406), (.ref 162)⟩, ⟨(kh P s418), (.str s418 2442), (.ref 167)⟩, ⟨(kh P s419), (.str s419 2468), (.ref 172)⟩, ⟨(kh P s420), (.str s420 2502), (.ref 177)⟩, ⟨(kh P s421), (.str s421 2512), (.ref 185)⟩, ⟨(kh P s422), (.str s422 2669), (.ref 306)⟩, ⟨(kh P s423), (.str s423 2682), (.ref 317)⟩] 24), #[]⟩
noncomputable def o267 (_ : Params) : Obj := ⟨.none, none, (.fields #[(.int 2 0), (.int 0 0), (.ref 37), (.int 6 0), (.int 0 0), (.ref 46), (.int 26 0), (.int 0 0), (.ref 55), (.int 47 0), (.int 0 0), (.ref 62), (.int 92 0), (.int 0 0), (.ref 115), (.int 95 0), (.int 0 0), (.ref 161), (.int 104 0), (.int 0 0), (.ref 184), (.int 113 0), (.int 0 0), (.ref 191), (.int 196 0), (.int 0 0), (.ref 316)]), #[]⟩
noncomputable def n875 (P : Params) : BT := .node (o144 P) (n0 P) .nil
noncomputable def n876 (P : Params) : BT := .node (o91 P) (n875 P) (n0 P)
noncomputable def n877 (P : Params) : BT := .node (o46 P) (n640 P) (n876 P)
noncomputable def n878 (P : Params) : BT := .node (o22 P) (n638 P) (n877 P)
noncomputable def n879 (P : Params) : BT := .node (o7 P) (n629 P) (n878 P)
noncomputable def n880 (P : Params) : BT := .node (o223 P) .nil .nil
noncomputable def n881 (P : Params) : BT := .node (o48 P) (n880 P) .nil
noncomputable def n882 (P : Params) : BT := .node (o95 P) (n881 P) (n670 P)
noncomputable def n883 (P : Params) : BT := .node (o49 P) (n668 P) (n882 P)
noncomputable def n884 (P : Params) : BT := .node (o26 P) (n665 P) (n883 P)
noncomputable def n885 (P : Params) : BT := .node (o27 P) (n658 P) (n884 P)
noncomputable def n886 (P : Params) : BT := .node (o266 P) (n879 P) (n885 P)
noncomputable def n887 (P : Params) : BT := .node (o221 P) .nil .nil
noncomputable def n888 (P : Params) : BT := .node (o146 P) (n887 P) .nil
noncomputable def n889 (P : Params) : BT := .node (o93 P) (n888 P) (n702 P)
noncomputable def n890 (P : Params) : BT := .node (o7 P) (n701 P) (n889 P)
noncomputable def n891 (P : Params) : BT := .node (o24 P) (n697 P) (n890 P)
noncomputable def n892 (P : Params) : BT := .node (o9 P) (n691 P) (n891 P)
noncomputable def n893 (P : Params) : BT := .node (o225 P) .nil .nil
noncomputable def n894 (P : Params) : BT := .node (o7 P) (n893 P) .nil
noncomputable def n895 (P : Params) : BT := .node (o97 P) (n894 P) (n736 P)
noncomputable def n896 (P : Params) : BT := .node (o50 P) (n735 P) (n895 P)
noncomputable def n897 (P : Params) : BT := .node (o267 P) (n731 P) (n896 P)
noncomputable def n898 (P : Params) : BT := .node (o13 P) (n723 P) (n897 P)
noncomputable def n899 (P : Params) : BT := .node (o5 P) (n892 P) (n898 P)
noncomputable def n900 (P : Params) : BT := .node (o1 P) (n886 P) (n899 P)
noncomputable def n901 (P : Params) : BT := .node (o145 P) (n32 P) .nil
noncomputable def n902 (P : Params) : BT := .node (o92 P) (n901 P) (n32 P)
noncomputable def n903 (P : Params) : BT := .node (o47 P) (n770 P) (n902 P)
noncomputable def n904 (P : Params) : BT := .node (o23 P) (n767 P) (n903 P)
noncomputable def n905 (P : Params) : BT := .node (o8 P) (n759 P) (n904 P)
noncomputable def n906 (P : Params) : BT := .node (o224 P) .nil .nil
noncomputable def n907 (P : Params) : BT := .node (o147 P) (n906 P) .nil
noncomputable def n908 (P : Params) : BT := .node (o96 P) (n907 P) (n803 P)
noncomputable def n909 (P : Params) : BT := .node (o7 P) (n801 P) (n908 P)
noncomputable def n910 (P : Params) : BT := .node (o7 P) (n798 P) (n909 P)
noncomputable def n911 (P : Params) : BT := .node (o12 P) (n791 P) (n910 P)
noncomputable def n912 (P : Params) : BT := .node (o4 P) (n905 P) (n911 P)
noncomputable def n913 (P : Params) : BT := .node (o222 P) .nil .nil
noncomputable def n914 (P : Params) : BT := .node (o7 P) (n913 P) .nil
noncomputable def n915 (P : Params) : BT := .node (o94 P) (n914 P) (n0 P)
noncomputable def n916 (P : Params) : BT := .node (o48 P) (n832 P) (n915 P)
noncomputable def n917 (P : Params) : BT := .node (o25 P) (n829 P) (n916 P)
noncomputable def n918 (P : Params) : BT := .node (o10 P) (n823 P) (n917 P)
noncomputable def n919 (P : Params) : BT := .node (o6 P) (n918 P) (n868 P)
noncomputable def n920 (P : Params) : BT := .node (o2 P) (n912 P) (n919 P)
noncomputable def n921 (P : Params) : BT := .node (o0 P) (n900 P) (n920 P)
noncomputable def o268 (P : Params) : Obj := ⟨(.type "dict"), none, (.dict #[⟨(kh P s182), (.str s182 165), (.str s409 2670)⟩, ⟨(kh P s184), (.str s184 166), .none⟩, ⟨(kh P s185), (.str s185 167), .none⟩, ⟨(kh P s186), (.str s186 168), (.builtin "__main__.__loader__#opaque")⟩, ⟨(kh P s187), (.str s187 169), .none⟩, ⟨(kh P s355), (.str s355 170), (.ref 6)⟩, ⟨(kh P s356), (.str s356 171), (.ref 4)⟩, ⟨(kh P s357), (.str s357 173), (.str s358 172)⟩, ⟨(kh P s359), (.str s359 174), .none⟩, ⟨(kh P s343), (.str s343 275), (.ref 12)⟩, ⟨(kh P s410), (.str s410 288), (.ref 38)⟩, ⟨(kh P s411), (.str s411 304), (.ref 47)⟩, ⟨(kh P s412), (.str s412 318), (.ref 56)⟩, ⟨(kh P s413), (.str s413 378), (.ref 94)⟩, ⟨(kh P s414), (.str s414 440), (.ref 106)⟩, ⟨(kh P s415), (.str s415 447), (.ref 116)⟩, ⟨(kh P s416), (.str s416 2398), (.ref 117)⟩, ⟨(kh P s417), (.str s417 2406), (.ref 162)⟩, ⟨(kh P s418), (.str s418 2442), (.ref 167)⟩, ⟨(kh P s419), (.str s419 2468), (.ref 172)⟩, ⟨(kh P s420), (.str s420 2502), (.ref 177)⟩, ⟨(kh P s421), (.str s421 2512), (.ref 185)⟩, ⟨(kh P s422), (.str s422 2669), (.ref 306)⟩, ⟨(kh P s423), (.str s423 2682), (.ref 317)⟩, ⟨(kh P s424), (.str s424 2702), (.ref 324)⟩] 25), #[]⟩
noncomputable def o269 (_ : Params) : Obj := ⟨.none, none, (.fields #[(.int 2 0), (.int 0 0), (.ref 37), (.int 6 0), (.int 0 0), (.ref 46), (.int 26 0), (.int 0 0), (.ref 55), (.int 47 0), (.int 0 0), (.ref 62), (.int 92 0), (.int 0 0), (.ref 115), (.int 95 0), (.int 0 0), (.ref 161), (.int 104 0), (.int 0 0), (.ref 184), (.int 113 0), (.int 0 0), (.ref 191), (.int 196 0), (.int 0 0), (.ref 316), (.int 206 0), (.int 0 0), (.ref 323)]), #[]⟩
noncomputable def n922 (P : Params) : BT := .node (o149 P) (n32 P) .nil
noncomputable def n923 (P : Params) : BT := .node (o52 P) (n614 P) (n922 P)
noncomputable def n924 (P : Params) : BT := .node (o29 P) (n923 P) (n619 P)
noncomputable def n925 (P : Params) : BT := .node (o7 P) (n924 P) (n628 P)
noncomputable def n926 (P : Params) : BT := .node (o7 P) (n925 P) (n878 P)
noncomputable def n927 (P : Params) : BT := .node (o228 P) .nil .nil
noncomputable def n928 (P : Params) : BT := .node (o8 P) (n927 P) .nil
noncomputable def n929 (P : Params) : BT := .node (o7 P) (n645 P) (n928 P)
noncomputable def n930 (P : Params) : BT := .node (o7 P) (n929 P) (n648 P)
noncomputable def n931 (P : Params) : BT := .node (o18 P) (n930 P) (n657 P)
noncomputable def n932 (P : Params) : BT := .node (o27 P) (n931 P) (n884 P)
noncomputable def n933 (P : Params) : BT := .node (o268 P) (n926 P) (n932 P)
noncomputable def n934 (P : Params) : BT := .node (o8 P) (n677 P) (n710 P)
noncomputable def n935 (P : Params) : BT := .node (o8 P) (n934 P) (n682 P)
noncomputable def n936 (P : Params) : BT := .node (o16 P) (n935 P) (n690 P)
noncomputable def n937 (P : Params) : BT := .node (o9 P) (n936 P) (n891 P)
noncomputable def n938 (P : Params) : BT := .node (o269 P) (n731 P) (n896 P)
noncomputable def n939 (P : Params) : BT := .node (o13 P) (n723 P) (n938 P)
noncomputable def n940 (P : Params) : BT := .node (o5 P) (n937 P) (n939 P)
noncomputable def n941 (P : Params) : BT := .node (o1 P) (n933 P) (n940 P)
noncomputable def n942 (P : Params) : BT := .node (o226 P) .nil .nil
noncomputable def n943 (P : Params) : BT := .node (o150 P) (n942 P) .nil
noncomputable def n944 (P : Params) : BT := .node (o7 P) (n744 P) (n943 P)
noncomputable def n945 (P : Params) : BT := .node (o7 P) (n944 P) (n750 P)
noncomputable def n946 (P : Params) : BT := .node (o15 P) (n945 P) (n758 P)
noncomputable def n947 (P : Params) : BT := .node (o8 P) (n946 P) (n904 P)
noncomputable def n948 (P : Params) : BT := .node (o229 P) .nil .nil
noncomputable def n949 (P : Params) : BT := .node (o151 P) (n948 P) .nil
noncomputable def n950 (P : Params) : BT := .node (o54 P) (n775 P) (n949 P)
noncomputable def n951 (P : Params) : BT := .node (o33 P) (n950 P) (n780 P)
noncomputable def n952 (P : Params) : BT := .node (o19 P) (n951 P) (n790 P)
noncomputable def n953 (P : Params) : BT := .node (o12 P) (n952 P) (n910 P)
noncomputable def n954 (P : Params) : BT := .node (o4 P) (n947 P) (n953 P)
noncomputable def n955 (P : Params) : BT := .node (o227 P) .nil .nil
noncomputable def n956 (P : Params) : BT := .node (o7 P) (n955 P) .nil
noncomputable def n957 (P : Params) : BT := .node (o53 P) (n810 P) (n956 P)
noncomputable def n958 (P : Params) : BT := .node (o32 P) (n957 P) (n814 P)
noncomputable def n959 (P : Params) : BT := .node (o17 P) (n958 P) (n822 P)
noncomputable def n960 (P : Params) : BT := .node (o10 P) (n959 P) (n917 P)
noncomputable def n961 (P : Params) : BT := .node (o148 P) (n0 P) .nil
noncomputable def n962 (P : Params) : BT := .node (o98 P) (n961 P) (n0 P)
noncomputable def n963 (P : Params) : BT := .node (o51 P) (n863 P) (n962 P)
noncomputable def n964 (P : Params) : BT := .node (o28 P) (n861 P) (n963 P)
noncomputable def n965 (P : Params) : BT := .node (o14 P) (n852 P) (n964 P)
noncomputable def n966 (P : Params) : BT := .node (o6 P) (n960 P) (n965 P)
noncomputable def n967 (P : Params) : BT := .node (o2 P) (n954 P) (n966 P)
noncomputable def n968 (P : Params) : BT := .node (o0 P) (n941 P) (n967 P)
noncomputable def o270 (P : Params) : Obj := ⟨(.type "dict"), none, (.dict #[⟨(kh P s182), (.str s182 165), (.str s409 2670)⟩, ⟨(kh P s184), (.str s184 166), .none⟩, ⟨(kh P s185), (.str s185 167), .none⟩, ⟨(kh P s186), (.str s186 168), (.builtin "__main__.__loader__#opaque")⟩, ⟨(kh P s187), (.str s187 169), .none⟩, ⟨(kh P s355), (.str s355 170), (.ref 6)⟩, ⟨(kh P s356), (.str s356 171), (.ref 4)⟩, ⟨(kh P s357), (.str s357 173), (.str s358 172)⟩, ⟨(kh P s359), (.str s359 174), .none⟩, ⟨(kh P s343), (.str s343 275), (.ref 12)⟩, ⟨(kh P s410), (.str s410 288), (.ref 38)⟩, ⟨(kh P s411), (.str s411 304), (.ref 47)⟩, ⟨(kh P s412), (.str s412 318), (.ref 56)⟩, ⟨(kh P s413), (.str s413 378), (.ref 94)⟩, ⟨(kh P s414), (.str s414 440), (.ref 106)⟩, ⟨(kh P s415), (.str s415 447), (.ref 116)⟩, ⟨(kh P s416), (.str s416 2398), (.ref 117)⟩, ⟨(kh P s417), (.str s417 2406), (.ref 162)⟩, ⟨(kh P s418), (.str s418 2442), (.ref 167)⟩, ⟨(kh P s419), (.str s419 2468), (.ref 172)⟩, ⟨(kh P s420), (.str s420 2502), (.ref 177)⟩, ⟨(kh P s421), (.str s421 2512), (.ref 185)⟩, ⟨(kh P s422), (.str s422 2669), (.ref 306)⟩, ⟨(kh P s423), (.str s423 2682), (.ref 317)⟩, ⟨(kh P s424), (.str s424 2702), (.ref 324)⟩, ⟨(kh P s425), (.str s425 2708), (.ref 329)⟩] 26), #[]⟩
noncomputable def o271 (_ : Params) : Obj := ⟨.none, none, (.fields #[(.int 2 0), (.int 0 0), (.ref 37), (.int 6 0), (.int 0 0), (.ref 46), (.int 26 0), (.int 0 0), (.ref 55), (.int 47 0), (.int 0 0), (.ref 62), (.int 92 0), (.int 0 0), (.ref 115), (.int 95 0), (.int 0 0), (.ref 161), (.int 104 0), (.int 0 0), (.ref 184), (.int 113 0), (.int 0 0), (.ref 191), (.int 196 0), (.int 0 0), (.ref 316), (.int 206 0), (.int 0 0), (.ref 323), (.int 227 0), (.int 0 0), (.ref 328)]), #[]⟩
noncomputable def n969 (P : Params) : BT := .node (o230 P) .nil .nil
noncomputable def n970 (P : Params) : BT := .node (o153 P) (n969 P) .nil
noncomputable def n971 (P : Params) : BT := .node (o7 P) (n631 P) (n970 P)
noncomputable def n972 (P : Params) : BT := .node (o36 P) (n971 P) (n637 P)
noncomputable def n973 (P : Params) : BT := .node (o22 P) (n972 P) (n877 P)
noncomputable def n974 (P : Params) : BT := .node (o7 P) (n925 P) (n973 P)
noncomputable def n975 (P : Params) : BT := .node (o270 P) (n974 P) (n932 P)
noncomputable def n976 (P : Params) : BT := .node (o232 P) .nil .nil
noncomputable def n977 (P : Params) : BT := .node (o7 P) (n976 P) .nil
noncomputable def n978 (P : Params) : BT := .node (o57 P) (n692 P) (n977 P)
noncomputable def n979 (P : Params) : BT := .node (o7 P) (n978 P) (n696 P)
noncomputable def n980 (P : Params) : BT := .node (o24 P) (n979 P) (n890 P)
noncomputable def n981 (P : Params) : BT := .node (o9 P) (n936 P) (n980 P)
noncomputable def n982 (P : Params) : BT := .node (o55 P) (n708 P) (n91 P)
noncomputable def n983 (P : Params) : BT := .node (o34 P) (n982 P) (n712 P)
noncomputable def n984 (P : Params) : BT := .node (o20 P) (n983 P) (n722 P)
noncomputable def n985 (P : Params) : BT := .node (o271 P) (n731 P) (n896 P)
noncomputable def n986 (P : Params) : BT := .node (o13 P) (n984 P) (n985 P)
noncomputable def n987 (P : Params) : BT := .node (o5 P) (n981 P) (n986 P)
noncomputable def n988 (P : Params) : BT := .node (o1 P) (n975 P) (n987 P)
noncomputable def n989 (P : Params) : BT := .node (o231 P) .nil .nil
noncomputable def n990 (P : Params) : BT := .node (o154 P) (n989 P) .nil
noncomputable def n991 (P : Params) : BT := .node (o8 P) (n760 P) (n990 P)
noncomputable def n992 (P : Params) : BT := .node (o37 P) (n991 P) (n766 P)
noncomputable def n993 (P : Params) : BT := .node (o23 P) (n992 P) (n903 P)
noncomputable def n994 (P : Params) : BT := .node (o8 P) (n946 P) (n993 P)
noncomputable def n995 (P : Params) : BT := .node (o4 P) (n994 P) (n953 P)
noncomputable def n996 (P : Params) : BT := .node (o152 P) (n32 P) .nil
noncomputable def n997 (P : Params) : BT := .node (o56 P) (n838 P) (n996 P)
noncomputable def n998 (P : Params) : BT := .node (o35 P) (n997 P) (n843 P)
noncomputable def n999 (P : Params) : BT := .node (o21 P) (n998 P) (n851 P)
noncomputable def n1000 (P : Params) : BT := .node (o14 P) (n999 P) (n964 P)
noncomputable def n1001 (P : Params) : BT := .node (o6 P) (n960 P) (n1000 P)
noncomputable def n1002 (P : Params) : BT := .node (o2 P) (n995 P) (n1001 P)
noncomputable def n1003 (P : Params) : BT := .node (o0 P) (n988 P) (n1002 P)
noncomputable def o272 (P : Params) : Obj := ⟨(.type "dict"), none, (.dict #[⟨(kh P s182), (.str s182 165), (.str s409 2670)⟩, ⟨(kh P s184), (.str s184 166), .none⟩, ⟨(kh P s185), (.str s185 167), .none⟩, ⟨(kh P s186), (.str s186 168), (.builtin "__main__.__loader__#opaque")⟩, ⟨(kh P s187), (.str s187 169), .none⟩, ⟨(kh P s355), (.str s355 170), (.ref 6)⟩, ⟨(kh P s356), (.str s356 171), (.ref 4)⟩, ⟨(kh P s357), (.str s357 173), (.str s358 172)⟩, ⟨(kh P s359), (.str s359 174), .none⟩, ⟨(kh P s343), (.str s343 275), (.ref 12)⟩, ⟨(kh P s410), (.str s410 288), (.ref 38)⟩, ⟨(kh P s411), (.str s411 304), (.ref 47)⟩, ⟨(kh P s412), (.str s412 318), (.ref 56)⟩, ⟨(kh P s413), (.str s413 378), (.ref 94)⟩, ⟨(kh P s414), (.str s414 440), (.ref 106)⟩, ⟨(kh P s415), (.str s415 447), (.ref 116)⟩, ⟨(kh P s416), (.str s416 2398), (.ref 117)⟩, ⟨(kh P s417), (.str s417 2406), (.ref 162)⟩, ⟨(kh P s418), (.str s418 2442), (.ref 167)⟩, ⟨(kh P s419), (.str s419 2468), (.ref 172)⟩, ⟨(kh P s420), (.str s420 2502), (.ref 177)⟩, ⟨(kh P s421), (.str s421 2512), (.ref 185)⟩, ⟨(kh P s422), (.str s422 2669), (.ref 306)⟩, ⟨(kh P s423), (.str s423 2682), (.ref 317)⟩, ⟨(kh P s424), (.str s424 2702), (.ref 324)⟩, ⟨(kh P s425), (.str s425 2708), (.ref 329)⟩, ⟨(kh P s426), (.str s426 2719), (.ref 336)⟩] 27), #[]⟩
noncomputable def o273 (_ : Params) : Obj := ⟨.none, none, (.fields #[(.int 2 0), (.int 0 0), (.ref 37), (.int 6 0), (.int 0 0), (.ref 46), (.int 26 0), (.int 0 0), (.ref 55), (.int 47 0), (.int 0 0), (.ref 62), (.int 92 0), (.int 0 0), (.ref 115), (.int 95 0), (.int 0 0), (.ref 161), (.int 104 0), (.int 0 0), (.ref 184), (.int 113 0), (.int 0 0), (.ref 191), (.int 196 0), (.int 0 0), (.ref 316), (.int 206 0), (.int 0 0), (.ref 323), (.int 227 0), (.int 0 0), (.ref 328), (.int 229 0), (.int 0 0), (.ref 335)]), #[]⟩
noncomputable def n1004 (P : Params) : BT := .node (o235 P) .nil .nil
noncomputable def n1005 (P : Params) : BT := .node (o158 P) (n1004 P) .nil
noncomputable def n1006 (P : Params) : BT := .node (o8 P) (n621 P) (n1005 P)
noncomputable def n1007 (P : Params) : BT := .node (o41 P) (n1006 P) (n627 P)
noncomputable def n1008 (P : Params) : BT := .node (o7 P) (n924 P) (n1007 P)
noncomputable def n1009 (P : Params) : BT := .node (o7 P) (n1008 P) (n973 P)
noncomputable def n1010 (P : Params) : BT := .node (o155 P) (n32 P) .nil
noncomputable def n1011 (P : Params) : BT := .node (o58 P) (n659 P) (n1010 P)
noncomputable def n1012 (P : Params) : BT := .node (o38 P) (n1011 P) (n664 P)
noncomputable def n1013 (P : Params) : BT := .node (o26 P) (n1012 P) (n883 P)
noncomputable def n1014 (P : Params) : BT := .node (o27 P) (n931 P) (n1013 P)
noncomputable def n1015 (P : Params) : BT := .node (o272 P) (n1009 P) (n1014 P)
noncomputable def n1016 (P : Params) : BT := .node (o156 P) (n0 P) .nil
noncomputable def n1017 (P : Params) : BT := .node (o60 P) (n725 P) (n1016 P)
noncomputable def n1018 (P : Params) : BT := .node (o39 P) (n1017 P) (n730 P)
noncomputable def n1019 (P : Params) : BT := .node (o273 P) (n1018 P) (n896 P)
noncomputable def n1020 (P : Params) : BT := .node (o13 P) (n984 P) (n1019 P)
noncomputable def n1021 (P : Params) : BT := .node (o5 P) (n981 P) (n1020 P)
noncomputable def n1022 (P : Params) : BT := .node (o1 P) (n1015 P) (n1021 P)
noncomputable def n1023 (P : Params) : BT := .node (o236 P) .nil .nil
noncomputable def n1024 (P : Params) : BT := .node (o7 P) (n1023 P) .nil
noncomputable def n1025 (P : Params) : BT := .node (o61 P) (n752 P) (n1024 P)
noncomputable def n1026 (P : Params) : BT := .node (o42 P) (n1025 P) (n757 P)
noncomputable def n1027 (P : Params) : BT := .node (o15 P) (n945 P) (n1026 P)
noncomputable def n1028 (P : Params) : BT := .node (o8 P) (n1027 P) (n993 P)
noncomputable def n1029 (P : Params) : BT := .node (o233 P) .nil .nil
noncomputable def n1030 (P : Params) : BT := .node (o7 P) (n1029 P) .nil
noncomputable def n1031 (P : Params) : BT := .node (o59 P) (n793 P) (n1030 P)
noncomputable def n1032 (P : Params) : BT := .node (o7 P) (n1031 P) (n797 P)
noncomputable def n1033 (P : Params) : BT := .node (o7 P) (n1032 P) (n909 P)
noncomputable def n1034 (P : Params) : BT := .node (o12 P) (n952 P) (n1033 P)
noncomputable def n1035 (P : Params) : BT := .node (o4 P) (n1028 P) (n1034 P)
noncomputable def n1036 (P : Params) : BT := .node (o7 P) (n825 P) (n204 P)
noncomputable def n1037 (P : Params) : BT := .node (o8 P) (n1036 P) (n828 P)
noncomputable def n1038 (P : Params) : BT := .node (o25 P) (n1037 P) (n916 P)
noncomputable def n1039 (P : Params) : BT := .node (o10 P) (n959 P) (n1038 P)
noncomputable def n1040 (P : Params) : BT := .node (o234 P) .nil .nil
noncomputable def n1041 (P : Params) : BT := .node (o157 P) (n1040 P) .nil
noncomputable def n1042 (P : Params) : BT := .node (o7 P) (n854 P) (n1041 P)
noncomputable def n1043 (P : Params) : BT := .node (o40 P) (n1042 P) (n860 P)
noncomputable def n1044 (P : Params) : BT := .node (o28 P) (n1043 P) (n963 P)
noncomputable def n1045 (P : Params) : BT := .node (o14 P) (n999 P) (n1044 P)
noncomputable def n1046 (P : Params) : BT := .node (o6 P) (n1039 P) (n1045 P)
noncomputable def n1047 (P : Params) : BT := .node (o2 P) (n1035 P) (n1046 P)
noncomputable def n1048 (P : Params) : BT := .node (o0 P) (n1022 P) (n1047 P)
noncomputable def n1049 (P : Params) : BT := .node (o237 P) .nil .nil
noncomputable def n1050 (P : Params) : BT := .node (o7 P) (n1049 P) .nil
noncomputable def n1051 (P : Params) : BT := .node (o63 P) (n651 P) (n1050 P)
noncomputable def n1052 (P : Params) : BT := .node (o8 P) (n1051 P) (n656 P)
noncomputable def n1053 (P : Params) : BT := .node (o18 P) (n930 P) (n1052 P)
noncomputable def n1054 (P : Params) : BT := .node (o27 P) (n1053 P) (n1013 P)
noncomputable def n1055 (P : Params) : BT := .node (o30 P) (n1009 P) (n1054 P)
noncomputable def n1056 (P : Params) : BT := .node (o7 P) (n685 P) (n204 P)
noncomputable def n1057 (P : Params) : BT := .node (o43 P) (n1056 P) (n689 P)
noncomputable def n1058 (P : Params) : BT := .node (o16 P) (n935 P) (n1057 P)
noncomputable def n1059 (P : Params) : BT := .node (o9 P) (n1058 P) (n980 P)
noncomputable def n1060 (P : Params) : BT := .node (o239 P) .nil .nil
noncomputable def n1061 (P : Params) : BT := .node (o161 P) (n1060 P) .nil
noncomputable def n1062 (P : Params) : BT := .node (o7 P) (n715 P) (n1061 P)
noncomputable def n1063 (P : Params) : BT := .node (o7 P) (n1062 P) (n721 P)
noncomputable def n1064 (P : Params) : BT := .node (o20 P) (n983 P) (n1063 P)
noncomputable def n1065 (P : Params) : BT := .node (o31 P) (n1018 P) (n896 P)
noncomputable def n1066 (P : Params) : BT := .node (o13 P) (n1064 P) (n1065 P)
noncomputable def n1067 (P : Params) : BT := .node (o5 P) (n1059 P) (n1066 P)
noncomputable def n1068 (P : Params) : BT := .node (o1 P) (n1055 P) (n1067 P)
noncomputable def n1069 (P : Params) : BT := .node (o238 P) .nil .nil
noncomputable def n1070 (P : Params) : BT := .node (o160 P) (n1069 P) .nil
noncomputable def n1071 (P : Params) : BT := .node (o64 P) (n783 P) (n1070 P)
noncomputable def n1072 (P : Params) : BT := .node (o44 P) (n1071 P) (n789 P)
noncomputable def n1073 (P : Params) : BT := .node (o19 P) (n951 P) (n1072 P)
noncomputable def n1074 (P : Params) : BT := .node (o12 P) (n1073 P) (n1033 P)
noncomputable def n1075 (P : Params) : BT := .node (o4 P) (n1028 P) (n1074 P)
noncomputable def n1076 (P : Params) : BT := .node (o159 P) (n32 P) .nil
noncomputable def n1077 (P : Params) : BT := .node (o62 P) (n816 P) (n1076 P)
noncomputable def n1078 (P : Params) : BT := .node (o7 P) (n1077 P) (n821 P)
noncomputable def n1079 (P : Params) : BT := .node (o17 P) (n958 P) (n1078 P)
noncomputable def n1080 (P : Params) : BT := .node (o10 P) (n1079 P) (n1038 P)
noncomputable def n1081 (P : Params) : BT := .node (o6 P) (n1080 P) (n1045 P)
noncomputable def n1082 (P : Params) : BT := .node (o2 P) (n1075 P) (n1081 P)
noncomputable def n1083 (P : Params) : BT := .node (o0 P) (n1068 P) (n1082 P)
end
end
section -- Goes
noncomputable abbrev cT : Code := .body bodyT envT
noncomputable abbrev qT : Pos := ⟨0, 0, 0, 0⟩
noncomputable abbrev BT0 : List Frame := [topFrame qT]
noncomputable abbrev sgo (w : World) (n : Nat) (s : Shared) (t : Thread) := segGo treeTable PW w 28 (some (.ref 6)) 1 n s t
/-- the tree t, from s at p, comes to a in n steps -/
noncomputable def Goes {α : Type} (w : World) (n : Nat) (t : Sem α) (s : Shared) (p : Pos) (a : α) (s' : Shared) (p' : Pos) : Prop :=
  ∀ (K : α → Sem Fin) (H : Value → Sem Fin) (gd : Bool → Bool) (lv : List Value → List Value),
    sgo w n s ⟨t.wrap K H gd lv, cT, p, BT0⟩ = some (s', ⟨K a, cT, p', BT0⟩)

theorem sgo_add (w : World) : ∀ (n m : Nat) (s s₁ : Shared) (t t₁ : Thread), sgo w n s t = some (s₁, t₁) → sgo w (n + m) s t = sgo w m s₁ t₁
  | 0, m, s, s₁, t, t₁, h => by
    obtain ⟨rfl, rfl⟩ : s = s₁ ∧ t = t₁ := by simpa [sgo, segGo] using h
    rw [Nat.zero_add]
  | n + 1, m, s, s₁, t, t₁, h => by
    rw [show n + 1 + m = n + m + 1 by omega]
    unfold sgo at h ⊢
    conv => lhs; unfold segGo
    unfold segGo at h
    cases he : endAt 1 t with
    | some f => rw [he] at h; cases h
    | none =>
      rw [he] at h
      cases hk : stepOk 28 (some (.ref 6)) t with
      | false => rw [hk] at h; cases h
      | true =>
        rw [hk] at h
        cases hs : step (denote treeTable) PW w s t with
        | halt o s₂ => rw [hs] at h; cases h
        | go s₂ t₂ =>
          rw [hs] at h
          have := sgo_add w n m s₂ s₁ t₂ t₁ h
          unfold sgo at this
          rw [← this]

variable {w : World} {α β : Type}
theorem goes_pure {a : α} {s : Shared} {p : Pos} : Goes w 0 (.pure a) s p a s p := fun _ _ _ _ => rfl
theorem goes_ret {a : α} {s : Shared} {p : Pos} : Goes w 0 (Pure.pure a) s p a s p := fun _ _ _ _ => rfl
theorem goes_bind {n k : Nat} {m : Sem α} {f : α → Sem β} {s s₁ s₂ : Shared} {p p₁ p₂ : Pos} {a : α} {b : β} (h : Goes w n m s p a s₁ p₁) (h' : Goes w k (f a) s₁ p₁ b s₂ p₂) :
    Goes w (n + k) (m >>= f) s p b s₂ p₂ := fun K H gd lv => by
  rw [Sem.bind_eq_wrap', Sem.wrap_wrap]
  exact (sgo_add w n k _ _ _ _ (h _ _ _ _)).trans (h' K H gd lv)
theorem Goes.keep {n : Nat} {vs : List Value} {m : Sem α} {s s' : Shared} {p p' : Pos} {a : α} (h : Goes w n m s p a s' p') : Goes w n (m.keep vs) s p a s' p' := fun K H gd lv => by
  rw [Sem.keep_eq_wrap, Sem.wrap_wrap]
  exact h _ _ _ _
theorem Goes.onRaise {n : Nat} {k : Value → Sem Unit} {m : Sem α} {s s' : Shared} {p p' : Pos} {a : α} (h : Goes w n m s p a s' p') : Goes w n (m.onRaise k) s p a s' p' := fun K H gd lv => by
  rw [Sem.onRaise_eq_wrap, Sem.wrap_wrap]
  exact h _ _ _ _
theorem Goes.tryCatch {n : Nat} {k : Value → Sem α} {m : Sem α} {s s' : Shared} {p p' : Pos} {a : α} (h : Goes w n m s p a s' p') : Goes w n (m.tryCatch k) s p a s' p' := fun K H gd lv => by
  rw [Sem.tryCatch_eq_wrap, Sem.wrap_wrap]
  exact h _ _ _ _
theorem goes_holding {n : Nat} {vs : List Value} {m : Sem α} {s s' : Shared} {p p' : Pos} {a : α} (h : Goes w n m s p a s' p') : Goes w n (holding vs m) s p a s' p' := by
  unfold holding
  split
  · exact h
  · exact h.keep
theorem Goes.eq {n n' : Nat} {m : Sem α} {s s' s'' : Shared} {p p' : Pos} {a a' : α} (h : Goes w n m s p a s' p') (e1 : n = n') (e2 : a = a') (e3 : s' = s'') : Goes w n' m s p a' s'' p' := by
  subst e1 e2 e3; exact h

theorem goes_fresh {s : Shared} {p : Pos} : Goes w 1 fresh s p s.toks { s with toks := s.toks + 1 } p := fun _ _ _ _ => rfl
theorem goes_standAt {s : Shared} {p q : Pos} : Goes w 1 (standAt q) s p () s q := fun _ _ _ _ => rfl
theorem goes_rule {s : Shared} {p : Pos} {t : String} : Goes w 1 (rule t) s p () s p := fun _ _ _ _ => rfl
theorem goes_point {s : Shared} {p : Pos} : Goes w 1 point s p () s p := fun _ _ _ _ => rfl
theorem goes_ask {s : Shared} {p : Pos} : Goes w 1 ask s p ⟨PW, w.params⟩ s p := fun _ _ _ _ => rfl
theorem goes_alloc {s : Shared} {p : Pos} {o : Obj} : Goes w 1 (alloc o) s p s.heap.objs.size { s with heap := s.heap.push o } p := fun _ _ _ _ => rfl
theorem goes_loadPart {s : Shared} {p : Pos} {a : Addr} {q : Option Value} {o : Obj} (h : s.heap.get? a = some o) : Goes w 1 (loadPart a q) s p o s p := fun K H gd lv => by
  obtain ⟨heap, gens, drawn, toks, os⟩ := s
  show (match step (denote treeTable) PW w ⟨heap, gens, drawn, toks, os⟩ ⟨.load a q fun x => K x, cT, p, BT0⟩ with | .go s' t' => sgo w 0 s' t' | .halt _ _ => none) = _
  simp only [step, show heap.get? a = some o from h]
  rfl
theorem goes_load {s : Shared} {p : Pos} {a : Addr} {o : Obj} (h : s.heap.get? a = some o) : Goes w 1 (load a) s p o s p := goes_loadPart h
theorem goes_updatePart {s : Shared} {p : Pos} {a : Addr} {q : Option Value} {o : Obj} {f : Obj → Obj} (h : s.heap.get? a = some o) (ha : 28 ≤ a) :
    Goes w 1 (updatePart a q f) s p () { s with heap := s.heap.update a f } p := fun K H gd lv => by
  obtain ⟨heap, gens, drawn, toks, os⟩ := s
  have hk : stepOk 28 (some (.ref 6)) ⟨.update a q f fun x => K x, cT, p, BT0⟩ = true := by
    show (Thread.calm _ && (Nat.ble 28 a || a == mainNs || a == cStatics || some (Value.ref 6) == some (.ref a))) = true
    rw [Nat.ble_eq_true_of_le ha]
    rfl
  show (match stepOk 28 (some (.ref 6)) ⟨.update a q f fun x => K x, cT, p, BT0⟩ with
    | false => none
    | true => match step (denote treeTable) PW w ⟨heap, gens, drawn, toks, os⟩ ⟨.update a q f fun x => K x, cT, p, BT0⟩ with | .go s' t' => sgo w 0 s' t' | .halt _ _ => none) = _
  rw [hk]
  simp only [step, show heap.get? a = some o from h, Option.isSome_some, if_true]
  rfl

theorem goes_mkInt {s : Shared} {p : Pos} {i : Int} : Goes w 1 (mkInt i) s p (.int i s.toks) { s with toks := s.toks + 1 } p := goes_bind (f := fun t => Pure.pure (Value.int i t)) goes_fresh goes_ret
theorem goes_mkText {s : Shared} {p : Pos} {x : Str} : Goes w 1 (mkText x) s p (.str x s.toks) { s with toks := s.toks + 1 } p := goes_bind (f := fun t => Pure.pure (Value.str x t)) goes_fresh goes_ret


theorem special_hash (k : Int) (t : Tok) : specialOf (.int k t) "__hash__" = pure (some (.builtin "int.__hash__")) := by
  rw [Fast.te4214721358667687652]
  kernel_rfl
/-- what int.__hash__ gives -/
noncomputable def hashI (x : Int) : Int := if ((if x < 0 then -((x.natAbs % (2 ^ 61 - 1 : Nat) : Nat) : Int) else ((x.natAbs % (2 ^ 61 - 1 : Nat) : Nat) : Int)) == -1) = true then -2 else (if x < 0 then -((x.natAbs % (2 ^ 61 - 1 : Nat) : Nat) : Int) else ((x.natAbs % (2 ^ 61 - 1 : Nat) : Nat) : Int))
theorem hashI_of {k : Int} (h : 0 ≤ k) (h2 : k < 2 ^ 60) : hashI k = k := by
  have e : ((k.natAbs % (2 ^ 61 - 1 : Nat) : Nat) : Int) = k := by
    have : k.natAbs % (2 ^ 61 - 1 : Nat) = k.natAbs := Nat.mod_eq_of_lt (by omega)
    rw [this]; omega
  unfold hashI
  rw [if_neg (show ¬ k < 0 by omega), e, if_neg]
  simp; omega
theorem hash_runB (b : Bool) (w : World) (heap : Heap) (gens : Array GenState) (drawn : Drawn) (toks : Nat) (os : OsState) (p : Pos) (k : Int) (t : Tok) (X : Sem Value) (K : Option Value → Sem Fin) (H : Value → Sem Fin) (gd : Bool → Bool) (lv : List Value → List Value) :
    segGo treeTable PW (w.withFollow "special-get-raises" b) 28 (some (.ref 6)) 1 5 ⟨heap, gens, drawn, toks, os⟩ ⟨(callSpecialIfBoundUnlessNone? (.int k t) "__hash__" X).wrap K H gd lv, cT, p, BT0⟩ =
      some (⟨heap, gens, drawn, toks + 1, os⟩, ⟨K (some (.int (hashI k) toks)), cT, p, BT0⟩) := by
  rw [Fast.te3277212676724774461, Fast.te14364793385576792824, Fast.te16697807410369149715]
  cases b <;> kernel_rfl
theorem goes_hashCall {s : Shared} {p : Pos} {k : Int} {t : Tok} {X : Sem Value} : Goes w 5 (callSpecialIfBoundUnlessNone? (.int k t) "__hash__" X) s p (some (.int (hashI k) s.toks)) { s with toks := s.toks + 1 } p := fun K H gd lv =>
  byRow2 "special-get-raises" (P := fun w => sgo w 5 s ⟨(callSpecialIfBoundUnlessNone? (.int k t) "__hash__" X).wrap K H gd lv, cT, p, BT0⟩ = some ({ s with toks := s.toks + 1 }, ⟨K (some (.int (hashI k) s.toks)), cT, p, BT0⟩))
    (fun w => hash_runB false w s.heap s.gens s.drawn s.toks s.os p k t X K H gd lv) (fun w => hash_runB true w s.heap s.gens s.drawn s.toks s.os p k t X K H gd lv) w
theorem reduced_eq {k : Int} (h : 0 ≤ k) (h2 : k < 2 ^ 63) : pyHashByItsType.reduced k = pure k := by
  unfold pyHashByItsType.reduced
  have h3 : (decide (-(2 ^ 63 : Int) ≤ k) && decide (k < 2 ^ 63)) = true := by
    rw [decide_eq_true h2, decide_eq_true (by omega)]; rfl
  have h4 : (k == -1) = false := by simp; omega
  simp only [h3, h4, if_true]
  rfl
theorem goes_hash {s : Shared} {p : Pos} {k : Int} {t : Tok} (h : 0 ≤ k) (h2 : k < 2 ^ 60) : Goes w 5 (pyHash (.int k t)) s p k { s with toks := s.toks + 1 } p := by
  show Goes w 5 (pyHashByItsType (.int k t)) s p k _ p
  unfold pyHashByItsType
  refine (goes_bind (n := 0) (a := ()) (s₁ := s) (p₁ := p) (k := 5) goes_ret ?_).eq (by omega) rfl rfl
  rw [special_hash]
  refine (goes_bind (n := 0) (s₁ := s) (p₁ := p) (k := 5) goes_ret ?_).eq (by omega) rfl rfl
  dsimp only
  rw [if_neg (by decide)]
  refine (goes_bind (n := 0) (s₁ := s) (p₁ := p) (k := 5) goes_ret ?_).eq (by omega) rfl rfl
  rw [if_neg (by decide)]
  refine (goes_bind (n := 5) (k := 0) goes_hashCall ?_).eq (by omega) rfl rfl
  dsimp only
  rw [hashI_of h h2, reduced_eq h (by omega)]
  exact goes_ret
noncomputable def freeOf (es : Array DictEntry) (k : Int) : Prop := ∀ (i : Nat) (e : DictEntry), es[i]? = some e → e.hash ≠ k
theorem places_nil {es : Array DictEntry} {k : Int} (h : freeOf es k) : placesWithHash es.size (fun i => es[i]?.map (·.hash)) k = [] := by
  unfold placesWithHash
  rw [List.filter_eq_nil_iff]
  intro i _
  dsimp only
  cases e : es[i]? with
  | none => rw [Option.map_none]; exact fun q => by cases q
  | some x =>
    have := h i x e
    rw [Option.map_some]
    intro q
    exact this (Option.some.inj (beq_iff_eq.mp q))
theorem goes_entries {s : Shared} {p : Pos} {d : Addr} {q : Option Value} {es : Array DictEntry} {n : Nat} (h : s.heap.get? d = some (dO es n)) : Goes w 1 (dictEntries d q) s p es s p :=
  goes_bind (k := 0) (f := fun o => match o.data with | .dict es _ => Pure.pure es | _ => unsupported "internal:not-a-dict") (goes_loadPart h) goes_ret
theorem goes_epoch {s : Shared} {p : Pos} {d : Addr} {q : Option Value} {es : Array DictEntry} {n : Nat} (h : s.heap.get? d = some (dO es n)) : Goes w 1 (dictEpoch d q) s p n s p :=
  goes_bind (k := 0) (f := fun o => match o.data with | .dict _ n => Pure.pure n | _ => unsupported "internal:not-a-dict") (goes_loadPart h) goes_ret
theorem goes_find {s : Shared} {p : Pos} {d : Addr} {k : Int} {t : Tok} {es : Array DictEntry} {n : Nat} (h : s.heap.get? d = some (dO es n)) (hf : freeOf es k) :
    Goes w 1 (dictFind d (.int k t) k) s p none s p := by
  unfold dictFind
  refine goes_holding ?_
  refine goes_bind (k := 0) (goes_entries h) ?_
  dsimp only
  rw [places_nil hf]
  exact goes_ret
noncomputable def setO (h : Heap) (d : Addr) (o : Obj) : Heap := h.update d (fun _ => o)
theorem setO_get {h : Heap} {d : Addr} {o : Obj} (o' : Obj) (e : h.get? d = some o) (hf : o'.isFreed = false) : (setO h d o').get? d = some o' := Heap.get?_update_self _ e hf
theorem setO_other {h : Heap} {d b : Addr} {o : Obj} (hb : b ≠ d) : (setO h d o).get? b = h.get? b := Heap.get?_update_other h _ (Ne.symm hb)
theorem Heap_ext {h h' : Heap} (e : ∀ i : Nat, h.objs[i]? = h'.objs[i]?) (l : h.life = h'.life) : h = h' := by
  obtain ⟨a, l1⟩ := h
  obtain ⟨b, l2⟩ := h'
  obtain rfl : a = b := Array.ext_getElem? e
  obtain rfl : l1 = l2 := l
  rfl
theorem upd_objs (h : Heap) (a : Addr) (f : Obj → Obj) (i : Nat) : (h.update a f).objs[i]? = if a = i then (h.objs[i]?).map f else h.objs[i]? := by
  cases h; simp only [Heap.update, Array.getElem?_modify]
theorem push_objs (h : Heap) (o : Obj) (i : Nat) : (h.push o).objs[i]? = if i = h.objs.size then some o else h.objs[i]? := by
  cases h; simp only [Heap.push, Array.getElem?_push]
theorem setO_setO (h : Heap) (d : Addr) (o o' : Obj) : setO (setO h d o) d o' = setO h d o' := by
  refine Heap_ext (fun i => ?_) (by cases h; rfl)
  simp only [setO, upd_objs]
  split
  · cases h.objs[i]? <;> rfl
  · rfl
theorem upd_eq {h : Heap} {d : Addr} {o : Obj} (f : Obj → Obj) (e : h.get? d = some o) : h.update d f = setO h d (f o) := by
  have e1 := (Heap.get?_some_iff.mp e).1
  refine Heap_ext (fun i => ?_) (by cases h; rfl)
  simp only [setO, upd_objs]
  split
  · rename_i q; subst q; rw [e1]; rfl
  · rfl
theorem setO_push {h : Heap} {d : Addr} {o o' : Obj} (hd : d < h.objs.size) : setO (h.push o) d o' = (setO h d o').push o := by
  have sz : (setO h d o').objs.size = h.objs.size := by cases h; simp only [setO, Heap.update, Array.size_modify]
  refine Heap_ext (fun i => ?_) (by cases h; rfl)
  rw [push_objs, sz]
  simp only [setO, upd_objs, push_objs]
  by_cases q : d = i
  · subst q; rw [if_pos rfl, if_neg (Nat.ne_of_lt hd), if_neg (Nat.ne_of_lt hd), if_pos rfl]
  · rw [if_neg q, if_neg q]
theorem setO_pushed {h : Heap} {o o' : Obj} : setO (h.push o) h.objs.size o' = h.push o' := by
  refine Heap_ext (fun i => ?_) (by cases h; rfl)
  simp only [setO, upd_objs, push_objs]
  by_cases q : h.objs.size = i
  · subst q; simp
  · rw [if_neg q, if_neg (Ne.symm q), if_neg (Ne.symm q)]
theorem setO_size (h : Heap) (d : Addr) (o : Obj) : (setO h d o).objs.size = h.objs.size := by cases h; simp only [setO, Heap.update, Array.size_modify]
theorem push_size (h : Heap) (o : Obj) : (h.push o).objs.size = h.objs.size + 1 := by cases h; simp only [Heap.push, Array.size_push]

theorem past_line {es : Array DictEntry} {n : Nat} (hs : es.size ≤ 1000) : (Data.dict es n).pastItsLine = none := by
  have : ¬ es.size > sizeLine + 1 := by rw [sizeLine_eq]; omega
  unfold Data.pastItsLine
  simp only [this, if_false]
theorem goes_putKeys {s : Shared} {p : Pos} {d : Addr} {q : Option Value} {es : Array DictEntry} {n : Nat} {x : DictEntry} (h : s.heap.get? d = some (dO es n)) (hd : 28 ≤ d) (hs : es.size < 1000) :
    Goes w 3 (updateDictKeys d (·.push x) q) s p () { s with heap := setO s.heap d (dO (es.push x) (n + 1)) } p := by
  unfold updateDictKeys
  refine goes_bind (n := 1) (k := 2) (goes_loadPart h) ?_
  dsimp only
  refine goes_bind (n := 1) (k := 1) (goes_updatePart h hd) ?_
  rw [upd_eq (Obj.mapDictKeys (·.push x)) h]
  unfold lookBehind
  refine goes_bind (n := 1) (k := 0) (goes_loadPart (o := dO (es.push x) (n + 1)) (setO_get _ h rfl)) ?_
  dsimp only
  rw [past_line (by rw [Array.size_push]; omega)]
  exact goes_ret
/-- a key that is not yet in the dict -/
theorem goes_put {s : Shared} {p : Pos} {d : Addr} {k : Int} {t : Tok} {v : Value} {es : Array DictEntry} {n : Nat} (h : s.heap.get? d = some (dO es n)) (hd : 28 ≤ d) (hs : es.size < 1000) (hk : 0 ≤ k) (hk2 : k < 2 ^ 60) (hf : freeOf es k) :
    Goes w 10 (dictSet d (.int k t) v) s p () { s with heap := setO s.heap d (dO (es.push ⟨k, .int k t, v⟩) (n + 1)), toks := s.toks + 1 } p := by
  unfold dictSet
  refine goes_holding ?_
  refine goes_bind (n := 5) (k := 5) (goes_hash hk hk2) ?_
  unfold dictSetHashed
  refine goes_holding ?_
  refine goes_bind (n := 1) (k := 4) (goes_find h hf) ?_
  dsimp only
  refine goes_bind (n := 1) (k := 3) goes_rule ?_
  exact goes_putKeys h hd hs
theorem goes_dput {s : Shared} {p : Pos} {d : Addr} {k : Int} {t : Tok} {v : Value} {es : Array DictEntry} {n : Nat} (h : s.heap.get? d = some (dO es n)) (hd : 28 ≤ d) (hs : es.size < 1000) (hf : freeOf es k) :
    Goes w 4 (dictPut d k (.int k t) v) s p () { s with heap := setO s.heap d (dO (es.push ⟨k, .int k t, v⟩) (n + 1)) } p := by
  unfold dictPut
  refine goes_bind (n := 1) (k := 3) (goes_find h hf) ?_
  dsimp only
  exact goes_putKeys h hd hs

/-- a loop over a list -/
theorem goes_forIn {σ : Type} (f : β → σ → Sem (ForInStep σ)) (n : Nat) (S : Nat → Shared) (p : Pos) (A : Nat → σ) : ∀ (l : List β) (i : Nat),
    (∀ j x, l[j]? = some x → Goes w n (f x (A (i + j))) (S (i + j)) p (.yield (A (i + j + 1))) (S (i + j + 1)) p) →
    Goes w (n * l.length) (forIn l (A i) f) (S i) p (A (i + l.length)) (S (i + l.length)) p
  | [], i, _ => by
    rw [List.forIn_nil]
    exact goes_ret
  | x :: l, i, h => by
    rw [List.forIn_cons]
    have h0 := h 0 x rfl
    have ih := goes_forIn f n S p A l (i + 1) fun j y hj => by
      have := h (j + 1) y hj
      rw [show i + (j + 1) = i + 1 + j by omega] at this
      exact this
    refine (goes_bind h0 ?_).eq (by rw [List.length_cons, Nat.mul_succ, Nat.add_comm]) rfl rfl
    dsimp only
    rw [show i + (x :: l).length = i + 1 + l.length by rw [List.length_cons]; omega]
    exact ih

theorem freeOf_list {l : List DictEntry} {k : Int} (h : ∀ e ∈ l, e.hash ≠ k) : freeOf l.toArray k := fun i e he => h e (List.mem_of_getElem? (by simpa using he))
noncomputable def hashes (l : List DictEntry) : List Int := l.map (·.hash)
theorem entsFrom_hashes : ∀ (t : Nat) (l : List (Int × Str)), hashes (entsFrom t l) = l.map (·.1)
  | _, [] => rfl
  | t, (k, x) :: r => by
    have := entsFrom_hashes (t + 3) r
    simp only [hashes, entsFrom, List.map_cons] at this ⊢
    rw [this]
    rfl
theorem entsFrom_length : ∀ (t : Nat) (l : List (Int × Str)), (entsFrom t l).length = l.length
  | _, [] => rfl
  | t, (k, x) :: r => by simp only [entsFrom, List.length_cons, entsFrom_length (t + 3) r]
theorem entsFrom_append : ∀ (t : Nat) (l r : List (Int × Str)), entsFrom t (l ++ r) = entsFrom t l ++ entsFrom (t + 3 * l.length) r
  | t, [], r => by simp [entsFrom]
  | t, (k, x) :: l, r => by
    simp only [List.cons_append, entsFrom, entsFrom_append (t + 3) l r, List.length_cons]
    rw [show t + 3 + 3 * l.length = t + 3 * (l.length + 1) by omega]
/-- an item of the display -/
noncomputable def itemOf (q : Pos) (x : Int × Str) : Sem Value × Sem Value := (mkInt x.1, do let v ← mkText x.2; standAt q; pure v)
noncomputable def okKeys (l : List (Int × Str)) : Prop := ∀ x ∈ l, 0 ≤ x.1 ∧ x.1 < 2 ^ 60
/-- the keys of the items are new and apart -/
noncomputable def newKeys (es : List DictEntry) (l : List (Int × Str)) : Prop := (hashes es ++ l.map (·.1)).Nodup
theorem newKeys.head {es : List DictEntry} {k : Int} {x : Str} {l : List (Int × Str)} (h : newKeys es ((k, x) :: l)) : ∀ e ∈ es, e.hash ≠ k := by
  intro e he q
  unfold newKeys at h
  rw [List.nodup_append] at h
  exact h.2.2 e.hash (List.mem_map.mpr ⟨e, he, rfl⟩) k (by simp) q
theorem newKeys.tail {es : List DictEntry} {k : Int} {x : Str} {l : List (Int × Str)} {e : DictEntry} (he : e.hash = k) (h : newKeys es ((k, x) :: l)) : newKeys (es ++ [e]) l := by
  unfold newKeys hashes at h ⊢
  simpa [he] using h

theorem goes_item {s : Shared} {q : Pos} {k : Int} {x : Str} {vs : Value → List Value} {β : Type} {g : Value → Value → Sem β} {n : Nat} {b : β} {s' : Shared} {p' : Pos}
    (h : Goes w n (g (.int k s.toks) (.str x (s.toks + 1))) { s with toks := s.toks + 2 } q b s' p') :
    Goes w (n + 3) (do let kv ← (itemOf q (k, x)).1; let vv ← holding (vs kv) (itemOf q (k, x)).2; g kv vv) s q b s' p' := by
  refine (goes_bind (n := 1) (k := n + 2) goes_mkInt ?_).eq (by omega) rfl rfl
  refine (goes_bind (n := 2) (k := n) (goes_holding ?_) h).eq (by omega) rfl rfl
  refine goes_bind (n := 1) (k := 1) goes_mkText ?_
  refine goes_bind (n := 1) (k := 0) goes_standAt ?_
  exact goes_ret

/-- the long display's loop -/
theorem goes_longLoop {d : Addr} (hd : 28 ≤ d) {q : Pos} : ∀ (l : List (Int × Str)) (es : List DictEntry) (n : Nat) (s : Shared), s.heap.get? d = some (dO es.toArray n) → okKeys l → newKeys es l → es.length + l.length ≤ 1000 →
    Goes w (13 * l.length) (forIn (l.map (itemOf q)) PUnit.unit fun x __s => match x with
      | (k, v) => do
        let kv ← k
        let vv ← holding [kv] v
        holding [kv, vv] (dictSet d kv vv)
        pure (ForInStep.yield PUnit.unit)) s q PUnit.unit
      { s with heap := setO s.heap d (dO (es ++ entsFrom s.toks l).toArray (n + l.length)), toks := s.toks + 3 * l.length } q
  | [], es, n, s, h, _, _, _ => by
    rw [List.map_nil, List.forIn_nil]
    refine goes_ret.eq rfl rfl ?_
    simp only [entsFrom, List.append_nil, List.length_nil, Nat.mul_zero, Nat.add_zero]
    have : setO s.heap d (dO es.toArray n) = s.heap := by
      refine Heap_ext (fun i => ?_) (by cases s.heap; rfl)
      simp only [setO, upd_objs]
      split
      · rename_i q; subst q; rw [(Heap.get?_some_iff.mp h).1]; rfl
      · rfl
    rw [this]
  | (k, x) :: l, es, n, s, h, ho, hn, hl => by
    rw [List.map_cons, List.forIn_cons]
    rw [List.length_cons] at hl
    obtain ⟨k1, k2⟩ := ho (k, x) (List.mem_cons_self ..)
    have ih := goes_longLoop hd (q := q) l (es ++ [entOf s.toks k x]) (n + 1)
      { s with heap := setO s.heap d (dO (es ++ [entOf s.toks k x]).toArray (n + 1)), toks := s.toks + 3 } (setO_get _ h rfl)
      (fun y hy => ho y (List.mem_cons_of_mem _ hy)) (newKeys.tail (e := entOf s.toks k x) rfl hn) (by rw [List.length_append, List.length_singleton]; omega)
    refine (goes_bind (n := 13) (k := 13 * l.length) (a := .yield PUnit.unit) (s₁ := { s with heap := setO s.heap d (dO (es ++ [entOf s.toks k x]).toArray (n + 1)), toks := s.toks + 3 }) (p₁ := q) ?_ ih).eq
      (by rw [List.length_cons, Nat.mul_succ, Nat.add_comm]) rfl ?_
    · refine goes_item (n := 10) (vs := fun kv => [kv]) (g := fun kv vv => do holding [kv, vv] (dictSet d kv vv); pure (ForInStep.yield PUnit.unit)) ?_
      refine goes_bind (n := 10) (k := 0) (goes_holding (goes_put (s := { s with toks := s.toks + 2 }) h hd (by rw [List.size_toArray]; omega) k1 k2 (freeOf_list (newKeys.head hn)))) ?_
      refine goes_ret.eq rfl rfl ?_
      simp only [List.push_toArray]
      rfl
    · simp only [setO_setO, List.append_assoc, List.singleton_append, List.length_cons, entsFrom]
      rw [show n + 1 + l.length = n + (l.length + 1) by omega, show s.toks + 3 + 3 * l.length = s.toks + 3 * (l.length + 1) by omega]
theorem goes_subLong {q : Pos} {s : Shared} (l : List (Int × Str)) (hl : 15 < l.length) (hl2 : l.length ≤ 1000) (hs : 28 ≤ s.heap.objs.size) (ho : okKeys l) (hn : newKeys [] l) :
    Goes w (2 + 13 * l.length) (subDict (l.map (itemOf q))) s q s.heap.objs.size { s with heap := s.heap.push (dO (entsFrom s.toks l).toArray l.length), toks := s.toks + 3 * l.length } q := by
  unfold subDict
  refine (goes_bind (n := 1) (k := 1 + 13 * l.length) goes_alloc ?_).eq (by omega) rfl rfl
  have main := goes_longLoop (w := w) hs (q := q) l [] 0 { s with heap := s.heap.push (dO #[] 0) } (Heap.get?_push_size _ rfl) ho hn (by simpa using hl2)
  refine goes_bind (n := 1 + 13 * l.length) (k := 0) (a := ()) (goes_holding ?_) goes_ret
  rw [if_neg (by rw [List.length_map]; omega)]
  refine goes_bind (n := 1) (k := 13 * l.length) goes_rule ?_
  refine goes_bind (n := 13 * l.length) (k := 0) main ?_
  refine goes_ret.eq rfl rfl ?_
  simp only [List.nil_append, Nat.zero_add, setO_pushed]

theorem isInst_dict : isSubtype (.type "dict") (.type "dict") = pure true := by
  rw [Fast.te16098473122060591676]
  kernel_rfl
theorem special_iter : typeLookup (.type "dict") "__iter__" = pure (some (.builtin "dict.__iter__")) := by
  rw [Fast.te1381439984260040727]
  kernel_rfl
theorem goes_isInst {s : Shared} {p : Pos} {a : Addr} {es : Array DictEntry} {n : Nat} (h : s.heap.get? a = some (dO es n)) : Goes w 1 (isInstance (.ref a) (.type "dict")) s p true s p := by
  unfold isInstance
  refine goes_bind (n := 1) (k := 0) (a := Value.type "dict") (goes_bind (n := 1) (k := 0) (goes_loadPart h) goes_ret) ?_
  rw [isInst_dict]
  exact goes_ret
theorem goes_iterOf {s : Shared} {p : Pos} {a : Addr} {es : Array DictEntry} {n : Nat} (h : s.heap.get? a = some (dO es n)) : Goes w 1 (specialOf (.ref a) "__iter__") s p (some (.builtin "dict.__iter__")) s p := by
  unfold specialOf
  refine goes_bind (n := 1) (k := 0) (a := Value.type "dict") (goes_bind (n := 1) (k := 0) (goes_loadPart h) goes_ret) ?_
  rw [special_iter]
  exact goes_ret
/-- the entries are of the shape that a display lays -/
noncomputable def intKeys (l : List DictEntry) : Prop := ∀ e ∈ l, ∃ t, e.key = .int e.hash t
theorem entsFrom_int : ∀ (t : Nat) (l : List (Int × Str)), intKeys (entsFrom t l)
  | _, [] => fun _ h => nomatch h
  | t, (k, x) :: r => fun e h => by
    rcases List.mem_cons.mp h with rfl | h
    · exact ⟨t, rfl⟩
    · exact entsFrom_int (t + 3) r e h
noncomputable def newHashes (es l : List DictEntry) : Prop := (hashes es ++ hashes l).Nodup
theorem goes_mergeLoop {d a : Addr} (hd : 28 ≤ d) (hda : a ≠ d) {q : Pos} (all : List DictEntry) (na : Nat) : ∀ (l pre es : List DictEntry) (n : Nat) (s : Shared), all = pre ++ l → s.heap.get? d = some (dO es.toArray n) → s.heap.get? a = some (dO all.toArray na) →
    intKeys l → newHashes es l → es.length + l.length ≤ 1000 →
    Goes w (6 * l.length) (forIn (List.range' pre.length l.length) PUnit.unit fun i __s => do
      let __do_lift ← dictEntries a
      match __do_lift[i]? with
      | some e => do
        holding [e.key, e.val] (dictPut d e.hash e.key e.val)
        let __do_lift ← dictEpoch a
        if (__do_lift != na) = true then do
          unsupported "dict.changed-during-merge"
          pure (ForInStep.yield PUnit.unit)
        else pure (ForInStep.yield PUnit.unit)
      | x => do
        unsupported "dict.changed-during-merge"
        pure (ForInStep.yield PUnit.unit)) s q PUnit.unit { s with heap := setO s.heap d (dO (es ++ l).toArray (n + l.length)) } q
  | [], pre, es, n, s, _, h, _, _, _, _ => by
    rw [List.length_nil, List.range'_zero, List.forIn_nil]
    refine goes_ret.eq rfl rfl ?_
    simp only [List.append_nil, Nat.add_zero]
    have : setO s.heap d (dO es.toArray n) = s.heap := by
      refine Heap_ext (fun i => ?_) (by cases s.heap; rfl)
      simp only [setO, upd_objs]
      split
      · rename_i q; subst q; rw [(Heap.get?_some_iff.mp h).1]; rfl
      · rfl
    rw [this]
  | e :: l, pre, es, n, s, hall, h, ha, hi, hn, hl => by
    rw [List.length_cons] at hl
    rw [List.length_cons, List.range'_succ, List.forIn_cons]
    obtain ⟨t, ht⟩ := hi e (List.mem_cons_self ..)
    have hfree : ∀ x ∈ es, x.hash ≠ e.hash := by
      intro x hx q
      unfold newHashes at hn
      rw [List.nodup_append] at hn
      exact hn.2.2 x.hash (List.mem_map.mpr ⟨x, hx, rfl⟩) e.hash (by simp [hashes]) q
    have hn' : newHashes (es ++ [e]) l := by
      unfold newHashes hashes at hn ⊢
      simpa using hn
    have ih := goes_mergeLoop hd hda (q := q) all na l (pre ++ [e]) (es ++ [e]) (n + 1) { s with heap := setO s.heap d (dO (es ++ [e]).toArray (n + 1)) } (by rw [hall]; simp) (setO_get _ h rfl)
      ((setO_other hda).trans ha) (fun y hy => hi y (List.mem_cons_of_mem _ hy)) hn' (by rw [List.length_append, List.length_singleton]; omega)
    rw [List.length_append, List.length_singleton] at ih
    refine (goes_bind (n := 6) (k := 6 * l.length) (a := .yield PUnit.unit) (s₁ := { s with heap := setO s.heap d (dO (es ++ [e]).toArray (n + 1)) }) (p₁ := q) ?_ ih).eq
      (by rw [Nat.mul_succ, Nat.add_comm]) rfl ?_
    · refine goes_bind (n := 1) (k := 5) (goes_entries ha) ?_
      have hx : all.toArray[pre.length]? = some e := by rw [hall]; simp
      rw [hx]
      dsimp only
      have put := goes_dput (w := w) (p := q) (k := e.hash) (t := t) (v := e.val) (s := s) h hd (by rw [List.size_toArray]; omega) (freeOf_list hfree)
      rw [← ht] at put
      refine goes_bind (n := 4) (k := 1) (goes_holding put) ?_
      refine (goes_bind (n := 1) (k := 0) (goes_epoch (n := na) (es := all.toArray) ((setO_other hda).trans ha)) ?_)
      rw [if_neg (by simp)]
      refine goes_ret.eq rfl rfl ?_
      simp only [List.push_toArray]
    · simp only [setO_setO, List.append_assoc, List.singleton_append]
      rw [show n + 1 + l.length = n + (l.length + 1) by omega]
theorem goes_merge {d a : Addr} (hd : 28 ≤ d) (hda : a ≠ d) (hsm : a ≠ sysModules) {q : Pos} {es l : List DictEntry} {n na : Nat} {s : Shared} (hne : es ≠ []) (h : s.heap.get? d = some (dO es.toArray n)) (ha : s.heap.get? a = some (dO l.toArray na))
    (hi : intKeys l) (hn : newHashes es l) (hl : es.length + l.length ≤ 1000) :
    Goes w (5 + 6 * l.length) (mergeMapping d (.ref a) false) s q () { s with heap := setO s.heap d (dO (es ++ l).toArray (n + l.length)) } q := by
  unfold mergeMapping
  refine (goes_bind (n := 1) (k := 4 + 6 * l.length) (goes_isInst ha) ?_).eq (by omega) rfl rfl
  dsimp only
  rw [if_pos rfl]
  refine (goes_bind (n := 1) (k := 3 + 6 * l.length) (goes_iterOf ha) ?_).eq (by omega) rfl rfl
  refine (goes_bind (n := 0) (k := 3 + 6 * l.length) (a := true) goes_ret ?_).eq (by omega) rfl rfl
  dsimp only
  rw [if_neg (by simpa using hsm)]
  refine (goes_bind (n := 1) (k := 2 + 6 * l.length) (goes_entries h) ?_).eq (by omega) rfl rfl
  rw [if_neg (by simpa using hne)]
  refine (goes_bind (n := 1) (k := 1 + 6 * l.length) (goes_entries ha) ?_).eq (by omega) rfl rfl
  refine (goes_bind (n := 1) (k := 6 * l.length) (goes_epoch ha) ?_).eq (by omega) rfl rfl
  refine goes_bind (n := 6 * l.length) (k := 0) (a := PUnit.unit) ?_ goes_ret
  have m := goes_mergeLoop (w := w) hd hda (q := q) l na l [] es n s rfl h ha hi hn hl
  rw [List.size_toArray, List.range_eq_range']
  exact m

theorem entsShort_hashes : ∀ (t : Nat) (l : List (Int × Str)), hashes (entsShort t l) = l.map (·.1)
  | _, [] => rfl
  | t, (k, x) :: r => by
    have := entsShort_hashes (t + 2) r
    simp only [hashes, entsShort, List.map_cons] at this ⊢
    rw [this]
    rfl
theorem entsShort_length : ∀ (t : Nat) (l : List (Int × Str)), (entsShort t l).length = l.length
  | _, [] => rfl
  | t, (k, x) :: r => by simp only [entsShort, List.length_cons, entsShort_length (t + 2) r]
theorem entsShort_int : ∀ (t : Nat) (l : List (Int × Str)), intKeys (entsShort t l)
  | _, [] => fun _ h => nomatch h
  | t, (k, x) :: r => fun e h => by
    rcases List.mem_cons.mp h with rfl | h
    · exact ⟨t, rfl⟩
    · exact entsShort_int (t + 2) r e h
theorem goes_evalPairs {q : Pos} : ∀ (l : List (Int × Str)) (s : Shared),
    Goes w (3 * l.length) (evalPairs (l.map (itemOf q))) s q ((entsShort s.toks l).map fun e => (e.key, e.val)) { s with toks := s.toks + 2 * l.length } q
  | [], s => goes_ret
  | (k, x) :: l, s => by
    rw [List.map_cons]
    unfold evalPairs
    refine (goes_item (n := 3 * l.length) (vs := fun kv => [kv]) (g := fun kv vv => do return (kv, vv) :: (← holding [kv, vv] (evalPairs (l.map (itemOf q))))) ?_).eq (by rw [List.length_cons]; omega) rfl rfl
    refine goes_bind (n := 3 * l.length) (k := 0) (goes_holding (goes_evalPairs l { s with toks := s.toks + 2 })) ?_
    refine goes_ret.eq rfl rfl ?_
    simp only [List.length_cons]
    rw [show s.toks + 2 + 2 * l.length = s.toks + 2 * (l.length + 1) by omega]
/-- the short display's loop: the values stand, the dict is filled -/
theorem goes_shortLoop {d : Addr} (hd : 28 ≤ d) {q : Pos} : ∀ (l es : List DictEntry) (n : Nat) (s : Shared), s.heap.get? d = some (dO es.toArray n) → intKeys l → (∀ e ∈ l, 0 ≤ e.hash ∧ e.hash < 2 ^ 60) → newHashes es l → es.length + l.length ≤ 1000 →
    Goes w (10 * l.length) (forIn (l.map fun e => (e.key, e.val)) PUnit.unit fun x __s => match x with
      | (k, v) => do
        dictSet d k v
        pure (ForInStep.yield PUnit.unit)) s q PUnit.unit
      { s with heap := setO s.heap d (dO (es ++ l).toArray (n + l.length)), toks := s.toks + l.length } q
  | [], es, n, s, h, _, _, _, _ => by
    rw [List.map_nil, List.forIn_nil]
    refine goes_ret.eq rfl rfl ?_
    simp only [List.append_nil, List.length_nil, Nat.add_zero]
    have : setO s.heap d (dO es.toArray n) = s.heap := by
      refine Heap_ext (fun i => ?_) (by cases s.heap; rfl)
      simp only [setO, upd_objs]
      split
      · rename_i q; subst q; rw [(Heap.get?_some_iff.mp h).1]; rfl
      · rfl
    rw [this]
  | e :: l, es, n, s, h, hi, ho, hn, hl => by
    rw [List.map_cons, List.forIn_cons]
    rw [List.length_cons] at hl
    obtain ⟨t, ht⟩ := hi e (List.mem_cons_self ..)
    obtain ⟨k1, k2⟩ := ho e (List.mem_cons_self ..)
    have hfree : ∀ x ∈ es, x.hash ≠ e.hash := by
      intro x hx q
      unfold newHashes at hn
      rw [List.nodup_append] at hn
      exact hn.2.2 x.hash (List.mem_map.mpr ⟨x, hx, rfl⟩) e.hash (by simp [hashes]) q
    have hn' : newHashes (es ++ [e]) l := by
      unfold newHashes hashes at hn ⊢
      simpa using hn
    have ih := goes_shortLoop hd (q := q) l (es ++ [e]) (n + 1) { s with heap := setO s.heap d (dO (es ++ [e]).toArray (n + 1)), toks := s.toks + 1 } (setO_get _ h rfl)
      (fun y hy => hi y (List.mem_cons_of_mem _ hy)) (fun y hy => ho y (List.mem_cons_of_mem _ hy)) hn' (by rw [List.length_append, List.length_singleton]; omega)
    refine (goes_bind (n := 10) (k := 10 * l.length) (a := .yield PUnit.unit) (s₁ := { s with heap := setO s.heap d (dO (es ++ [e]).toArray (n + 1)), toks := s.toks + 1 }) (p₁ := q) ?_ ih).eq
      (by rw [List.length_cons, Nat.mul_succ, Nat.add_comm]) rfl ?_
    · have put := goes_put (w := w) (p := q) (k := e.hash) (t := t) (v := e.val) (s := s) h hd (by rw [List.size_toArray]; omega) k1 k2 (freeOf_list hfree)
      rw [← ht] at put
      refine goes_bind (n := 10) (k := 0) put ?_
      refine goes_ret.eq rfl rfl ?_
      simp only [List.push_toArray]
    · simp only [setO_setO, List.append_assoc, List.singleton_append, List.length_cons]
      rw [show n + 1 + l.length = n + (l.length + 1) by omega, show s.toks + 1 + l.length = s.toks + (l.length + 1) by omega]
theorem goes_subShort {q : Pos} {s : Shared} (l : List (Int × Str)) (hl : l.length ≤ 15) (hs : 28 ≤ s.heap.objs.size) (ho : okKeys l) (hn : (l.map (·.1)).Nodup) :
    Goes w (1 + 13 * l.length) (subDict (l.map (itemOf q))) s q s.heap.objs.size { s with heap := s.heap.push (dO (entsShort s.toks l).toArray l.length), toks := s.toks + 3 * l.length } q := by
  unfold subDict
  refine goes_bind (n := 1) (k := 13 * l.length) goes_alloc ?_
  refine goes_bind (n := 13 * l.length) (k := 0) (a := ()) (goes_holding ?_) goes_ret
  rw [if_pos (by rw [List.length_map]; omega)]
  refine (goes_bind (n := 3 * l.length) (k := 10 * l.length) (goes_evalPairs l _) ?_).eq (by omega) rfl rfl
  refine goes_holding ?_
  have hk : ∀ e ∈ entsShort s.toks l, 0 ≤ e.hash ∧ e.hash < 2 ^ 60 := by
    intro e he
    have : e.hash ∈ hashes (entsShort s.toks l) := List.mem_map.mpr ⟨e, he, rfl⟩
    rw [entsShort_hashes] at this
    obtain ⟨x, hx, e1⟩ := List.mem_map.mp this
    have := ho x hx
    rw [e1] at this
    exact this
  have m := goes_shortLoop (w := w) hs (q := q) (entsShort s.toks l) [] 0 { s with heap := s.heap.push (dO #[] 0), toks := s.toks + 2 * l.length } (Heap.get?_push_size _ rfl) (entsShort_int _ _) hk
    (by unfold newHashes; rw [entsShort_hashes]; simpa [hashes] using hn) (by rw [entsShort_length]; simp; omega)
  rw [entsShort_length] at m
  refine goes_bind (n := 10 * l.length) (k := 0) m ?_
  refine goes_ret.eq rfl rfl ?_
  simp only [List.nil_append, Nat.zero_add, setO_pushed]
  rw [show s.toks + 2 * l.length + l.length = s.toks + 3 * l.length by omega]

noncomputable def pushAll : Heap → List Obj → Heap
  | h, [] => h
  | h, o :: l => pushAll (h.push o) l
noncomputable def lift1 (x : Sem Value × Sem Value) : Option (Sem Value) × Sem Value := (some x.1, x.2)
noncomputable abbrev RunS := List (Sem Value × Sem Value)
theorem acc_run {f : Option (Sem Value) × Sem Value → Option Addr × RunS → Sem (ForInStep (Option Addr × RunS))}
    (hf : ∀ x m (r : RunS), r.length + 1 ≤ 16 → f (lift1 x) (m, r) = pure (.yield (m, r ++ [x]))) : ∀ (l : RunS) (m : Option Addr) (r : RunS) (rest : List (Option (Sem Value) × Sem Value)), r.length + l.length ≤ 16 →
    forIn (l.map lift1 ++ rest) (m, r) f = forIn rest (m, r ++ l) f
  | [], m, r, rest, _ => by rw [List.map_nil, List.nil_append, List.append_nil]
  | x :: l, m, r, rest, h => by
    rw [List.length_cons] at h
    rw [List.map_cons, List.cons_append, List.forIn_cons, hf x m r (by omega)]
    show forIn (l.map lift1 ++ rest) (m, r ++ [x]) f = _
    rw [acc_run hf l m (r ++ [x]) rest (by rw [List.length_append, List.length_singleton]; omega), List.append_assoc, List.singleton_append]
/-- what a later block does: the sub dict is laid, then merged -/
theorem goes_later {d : Addr} {q : Pos} {s : Shared} {es : List DictEntry} {n : Nat} (l : List (Int × Str)) (hd : 28 ≤ d) (hne : es ≠ []) (h : s.heap.get? d = some (dO es.toArray n)) (hl : 15 < l.length) (hz : es.length + l.length ≤ 1000)
    (ho : okKeys l) (hn : newKeys es l) (X : Value → Sem Unit) :
    Goes w (7 + 19 * l.length) (do
      let sub ← holding [Value.ref d] (subDict (l.map (itemOf q)))
      (holding [Value.ref d, Value.ref sub] (mergeMapping d (Value.ref sub) false)).onRaise X
      pure (some d)) s q (some d) { s with heap := (setO s.heap d (dO (es ++ entsFrom s.toks l).toArray (n + l.length))).push (dO (entsFrom s.toks l).toArray l.length), toks := s.toks + 3 * l.length } q := by
  have hds := Heap.lt_size h
  have hn0 : newKeys [] l := by
    unfold newKeys at hn ⊢
    rw [List.nodup_append] at hn
    simpa [hashes] using hn.2.1
  refine (goes_bind (n := 2 + 13 * l.length) (k := 5 + 6 * l.length) (goes_holding (goes_subLong l hl (by omega) (Nat.le_trans hd (Nat.le_of_lt hds)) ho hn0)) ?_).eq (by omega) rfl rfl
  have m := goes_merge (w := w) (d := d) (a := s.heap.objs.size) hd (Nat.ne_of_gt hds) (Nat.ne_of_gt (Nat.lt_of_lt_of_le (by decide : sysModules < 28) (Nat.le_trans hd (Nat.le_of_lt hds)))) (q := q) (es := es) (l := entsFrom s.toks l) (n := n) (na := l.length)
    (s := { s with heap := s.heap.push (dO (entsFrom s.toks l).toArray l.length), toks := s.toks + 3 * l.length }) hne (Heap.get?_push_of_some _ h) (Heap.get?_push_size _ rfl) (entsFrom_int _ _)
    (by unfold newHashes; rw [entsFrom_hashes]; exact hn) (by rw [entsFrom_length]; omega)
  rw [entsFrom_length] at m
  refine goes_bind (n := 5 + 6 * l.length) (k := 0) (a := ()) (Goes.onRaise (goes_holding m)) ?_
  refine goes_ret.eq rfl rfl ?_
  simp only [setO_push hds]
theorem goes_laterShort {d : Addr} {q : Pos} {s : Shared} {es : List DictEntry} {n : Nat} (l : List (Int × Str)) (hd : 28 ≤ d) (hne : es ≠ []) (h : s.heap.get? d = some (dO es.toArray n)) (hl : l.length ≤ 15) (hz : es.length + l.length ≤ 1000)
    (ho : okKeys l) (hn : newKeys es l) (X : Value → Sem Unit) :
    Goes w (6 + 19 * l.length) (do
      let sub ← holding [Value.ref d] (subDict (l.map (itemOf q)))
      (holding [Value.ref d, Value.ref sub] (mergeMapping d (Value.ref sub) false)).onRaise X
      pure (some d)) s q (some d) { s with heap := (setO s.heap d (dO (es ++ entsShort s.toks l).toArray (n + l.length))).push (dO (entsShort s.toks l).toArray l.length), toks := s.toks + 3 * l.length } q := by
  have hds := Heap.lt_size h
  have hn0 : (l.map (·.1)).Nodup := by
    unfold newKeys at hn
    rw [List.nodup_append] at hn
    exact hn.2.1
  refine (goes_bind (n := 1 + 13 * l.length) (k := 5 + 6 * l.length) (goes_holding (goes_subShort l hl (Nat.le_trans hd (Nat.le_of_lt hds)) ho hn0)) ?_).eq (by omega) rfl rfl
  have m := goes_merge (w := w) (d := d) (a := s.heap.objs.size) hd (Nat.ne_of_gt hds) (Nat.ne_of_gt (Nat.lt_of_lt_of_le (by decide : sysModules < 28) (Nat.le_trans hd (Nat.le_of_lt hds)))) (q := q) (es := es) (l := entsShort s.toks l) (n := n) (na := l.length)
    (s := { s with heap := s.heap.push (dO (entsShort s.toks l).toArray l.length), toks := s.toks + 3 * l.length }) hne (Heap.get?_push_of_some _ h) (Heap.get?_push_size _ rfl) (entsShort_int _ _)
    (by unfold newHashes; rw [entsShort_hashes]; exact hn) (by rw [entsShort_length]; omega)
  rw [entsShort_length] at m
  refine goes_bind (n := 5 + 6 * l.length) (k := 0) (a := ()) (Goes.onRaise (goes_holding m)) ?_
  refine goes_ret.eq rfl rfl ?_
  simp only [setO_push hds]
noncomputable def subsOf : Nat → List (List (Int × Str)) → List Obj
  | _, [] => []
  | t, b :: bs => dO (entsFrom t b).toArray b.length :: subsOf (t + 3 * b.length) bs
theorem newKeys.app {es : List DictEntry} {l r : List (Int × Str)} (h : newKeys es (l ++ r)) (t : Nat) : newKeys es l ∧ newKeys (es ++ entsFrom t l) r := by
  unfold newKeys at *
  constructor
  · rw [List.map_append, ← List.append_assoc, List.nodup_append] at h
    exact h.1
  · have e : hashes (es ++ entsFrom t l) = hashes es ++ l.map (·.1) := by
      rw [show hashes (es ++ entsFrom t l) = hashes es ++ hashes (entsFrom t l) from List.map_append .., entsFrom_hashes]
    rw [e, List.append_assoc, ← List.map_append]
    exact h
theorem goes_blocks {d : Addr} {q : Pos} (hd : 28 ≤ d) {f : Option (Sem Value) × Sem Value → Option Addr × RunS → Sem (ForInStep (Option Addr × RunS))} (X : Addr → Value → Sem Unit)
    (hf : ∀ x m (r : RunS), r.length + 1 ≤ 16 → f (lift1 x) (m, r) = pure (.yield (m, r ++ [x])))
    (hf2 : ∀ x d (r : RunS), r.length + 1 = 17 → f (lift1 x) (some d, r) = (do
      let main ← (do
        let sub ← holding [Value.ref d] (subDict (r ++ [x]))
        (holding [Value.ref d, Value.ref sub] (mergeMapping d (Value.ref sub) false)).onRaise (X d)
        pure (some d))
      pure (.yield (main, [])))) (tail : List (Int × Str)) (ht : tail.length ≤ 16) :
    ∀ (bs : List (List (Int × Str))) (es : List DictEntry) (n : Nat) (s : Shared), (∀ b ∈ bs, b.length = 17) → es ≠ [] → s.heap.get? d = some (dO es.toArray n) → es.length + bs.flatten.length ≤ 1000 → s.heap.objs.size + bs.length ≤ 1000 → okKeys bs.flatten → newKeys es bs.flatten →
    Goes w (330 * bs.length) (forIn (((bs.flatten ++ tail).map (itemOf q)).map lift1) (some d, []) f) s q (some d, tail.map (itemOf q))
      { s with heap := pushAll (setO s.heap d (dO (es ++ entsFrom s.toks bs.flatten).toArray (n + bs.flatten.length))) (subsOf s.toks bs), toks := s.toks + 3 * bs.flatten.length } q
  | [], es, n, s, _, _, h, _, _, _, _ => by
    have e := acc_run hf (tail.map (itemOf q)) (some d) [] [] (by simpa using ht)
    simp only [List.flatten_nil, List.nil_append, List.append_nil] at e ⊢
    rw [e, List.forIn_nil]
    refine goes_ret.eq rfl rfl ?_
    simp only [entsFrom, List.append_nil, List.length_nil, Nat.add_zero, Nat.mul_zero, subsOf, pushAll]
    have : setO s.heap d (dO es.toArray n) = s.heap := by
      refine Heap_ext (fun i => ?_) (by cases s.heap; rfl)
      simp only [setO, upd_objs]
      split
      · rename_i q; subst q; rw [(Heap.get?_some_iff.mp h).1]; rfl
      · rfl
    rw [this]
  | b :: bs, es, n, s, hb, hne, h, hz, hs, ho, hn => by
    have hb0 : b.length = 17 := hb b (List.mem_cons_self ..)
    have hds := Heap.lt_size h
    obtain ⟨b', x, rfl⟩ : ∃ b' x, b = b' ++ [x] := ⟨b.dropLast, b.getLast (by intro e; rw [e] at hb0; cases hb0), (List.dropLast_concat_getLast _).symm⟩
    have hb' : b'.length = 16 := by rw [List.length_append, List.length_singleton] at hb0; omega
    rw [List.flatten_cons, List.length_append] at hz
    rw [List.length_cons] at hs
    rw [List.flatten_cons] at ho hn
    obtain ⟨hn1, hn2⟩ := hn.app s.toks
    have e : ((((b' ++ [x]) :: bs).flatten ++ tail).map (itemOf q)).map lift1 = (b'.map (itemOf q)).map lift1 ++ (lift1 (itemOf q x) :: ((bs.flatten ++ tail).map (itemOf q)).map lift1) := by simp
    rw [e, acc_run hf (b'.map (itemOf q)) (some d) [] _ (by simp; omega), List.nil_append, List.forIn_cons, hf2 _ _ _ (by rw [List.length_map]; omega)]
    have hlater := goes_later (w := w) (q := q) (s := s) (n := n) (b' ++ [x]) hd hne h (by omega) (by omega) (fun y hy => ho y (List.mem_append_left _ hy)) hn1 (X d)
    rw [List.map_append, List.map_singleton, hb0] at hlater
    have ih := goes_blocks (q := q) hd X hf hf2 tail ht bs (es ++ entsFrom s.toks (b' ++ [x])) (n + 17)
      { s with heap := (setO s.heap d (dO (es ++ entsFrom s.toks (b' ++ [x])).toArray (n + 17))).push (dO (entsFrom s.toks (b' ++ [x])).toArray 17), toks := s.toks + 3 * 17 }
      (fun c hc => hb c (List.mem_cons_of_mem _ hc)) (by simp [hne]) (Heap.get?_push_of_some _ (setO_get _ h rfl)) (by rw [List.length_append, entsFrom_length]; omega) (by rw [push_size, setO_size]; omega)
      (fun y hy => ho y (List.mem_append_right _ hy)) hn2
    refine (goes_bind (n := 330) (k := 330 * bs.length) (a := .yield (some d, [])) (goes_bind (n := 330) (k := 0) hlater goes_ret) ih).eq (by rw [List.length_cons, Nat.mul_succ, Nat.add_comm]) rfl ?_
    rw [setO_push (by rw [setO_size]; exact hds), setO_setO]
    simp only [List.flatten_cons, entsFrom_append, List.append_assoc, List.length_append, hb', List.length_singleton, subsOf, pushAll]
    rw [show n + 17 + bs.flatten.length = n + (16 + (1 + bs.flatten.length)) by omega, show s.toks + 3 * 17 + 3 * bs.flatten.length = s.toks + 3 * (16 + (1 + bs.flatten.length)) by omega]

theorem goes_loop {q : Pos} {f : Option (Sem Value) × Sem Value → Option Addr × RunS → Sem (ForInStep (Option Addr × RunS))} (X : Addr → Value → Sem Unit)
    (hf : ∀ x m (r : RunS), r.length + 1 ≤ 16 → f (lift1 x) (m, r) = pure (.yield (m, r ++ [x])))
    (hf2 : ∀ x d (r : RunS), r.length + 1 = 17 → f (lift1 x) (some d, r) = (do
      let main ← (do
        let sub ← holding [Value.ref d] (subDict (r ++ [x]))
        (holding [Value.ref d, Value.ref sub] (mergeMapping d (Value.ref sub) false)).onRaise (X d)
        pure (some d))
      pure (.yield (main, []))))
    (hf3 : ∀ x (r : RunS), r.length + 1 = 17 → f (lift1 x) (none, r) = (do
      let main ← (do
        let sub ← subDict (r ++ [x])
        pure (some sub))
      pure (.yield (main, [])))) (tail : List (Int × Str)) (ht : tail.length ≤ 16) (b : List (Int × Str)) (bs : List (List (Int × Str))) (s : Shared) (hd : 28 ≤ s.heap.objs.size) (hb0 : b.length = 17) (hb : ∀ b ∈ bs, b.length = 17)
    (hz : 17 + bs.flatten.length ≤ 1000) (hs : s.heap.objs.size + 1 + bs.length ≤ 1000) (ho : okKeys (b ++ bs.flatten)) (hn : newKeys [] (b ++ bs.flatten)) :
    Goes w (223 + 330 * bs.length) (forIn (((b ++ bs.flatten ++ tail).map (itemOf q)).map lift1) ((none : Option Addr), ([] : RunS)) f) s q (some s.heap.objs.size, tail.map (itemOf q))
      { s with heap := pushAll (s.heap.push (dO (entsFrom s.toks (b ++ bs.flatten)).toArray (17 + bs.flatten.length))) (subsOf (s.toks + 51) bs), toks := s.toks + 51 + 3 * bs.flatten.length } q := by
  obtain ⟨b', x, rfl⟩ : ∃ b' x, b = b' ++ [x] := ⟨b.dropLast, b.getLast (by intro e; rw [e] at hb0; cases hb0), (List.dropLast_concat_getLast _).symm⟩
  have hb' : b'.length = 16 := by rw [List.length_append, List.length_singleton] at hb0; omega
  have hn1 := hn.app s.toks
  have e : (((b' ++ [x]) ++ bs.flatten ++ tail).map (itemOf q)).map lift1 = (b'.map (itemOf q)).map lift1 ++ (lift1 (itemOf q x) :: ((bs.flatten ++ tail).map (itemOf q)).map lift1) := by simp
  rw [e, acc_run hf (b'.map (itemOf q)) none [] _ (by simp; omega), List.nil_append, List.forIn_cons, hf3 _ _ (by rw [List.length_map]; omega)]
  have hsub := goes_subLong (w := w) (q := q) (s := s) (b' ++ [x]) (by omega) (by omega) hd (fun y hy => ho y (List.mem_append_left _ hy)) hn1.1
  rw [List.map_append, List.map_singleton, hb0] at hsub
  have hne : entsFrom s.toks (b' ++ [x]) ≠ [] := by
    intro q
    have := entsFrom_length s.toks (b' ++ [x])
    rw [q, hb0] at this
    cases this
  have ih := goes_blocks (w := w) (q := q) hd X hf hf2 tail ht bs (entsFrom s.toks (b' ++ [x])) 17
    { s with heap := s.heap.push (dO (entsFrom s.toks (b' ++ [x])).toArray 17), toks := s.toks + 3 * 17 } hb hne (Heap.get?_push_size _ rfl) (by rw [entsFrom_length, hb0]; exact hz) (by rw [push_size]; omega)
    (fun y hy => ho y (List.mem_append_right _ hy)) (by simpa using hn1.2)
  refine (goes_bind (n := 223) (k := 330 * bs.length) (p₁ := q) (s₁ := { s with heap := s.heap.push (dO (entsFrom s.toks (b' ++ [x])).toArray 17), toks := s.toks + 3 * 17 }) (a := ForInStep.yield (some s.heap.objs.size, ([] : RunS))) ?_ ih).eq rfl rfl ?_
  · refine goes_bind (n := 223) (k := 0) (a := some s.heap.objs.size) ?_ goes_ret
    exact goes_bind (n := 223) (k := 0) hsub goes_ret
  rw [setO_pushed]
  rw [entsFrom_append s.toks (b' ++ [x]) bs.flatten, hb0]
theorem pushAll_get {d : Addr} {o : Obj} : ∀ (l : List Obj) (h : Heap), h.get? d = some o → (pushAll h l).get? d = some o
  | [], _, e => e
  | x :: l, h, e => pushAll_get l (h.push x) (Heap.get?_push_of_some _ e)
theorem pushAll_size : ∀ (l : List Obj) (h : Heap), (pushAll h l).objs.size = h.objs.size + l.length
  | [], _ => rfl
  | x :: l, h => by
    rw [pushAll, pushAll_size l (h.push x), push_size, List.length_cons]; omega
theorem pushAll_set {d : Addr} {o : Obj} : ∀ (l : List Obj) (h : Heap), d < h.objs.size → setO (pushAll h l) d o = pushAll (setO h d o) l
  | [], _, _ => rfl
  | x :: l, h, e => by
    rw [pushAll, pushAll, pushAll_set l (h.push x) (by rw [push_size]; exact Nat.lt_succ_of_lt e), setO_push e]
theorem pushAll_snoc (o : Obj) : ∀ (l : List Obj) (h : Heap), (pushAll h l).push o = pushAll h (l ++ [o])
  | [], _ => rfl
  | x :: l, h => by rw [List.cons_append, pushAll, pushAll, pushAll_snoc o l]
/-- the whole display: blocks of 17, the rest of 15 or fewer -/
theorem goes_display {q : Pos} (tail : List (Int × Str)) (ht : tail.length ≤ 15) (ht0 : tail ≠ []) (b : List (Int × Str)) (bs : List (List (Int × Str))) (s : Shared) (hd : 28 ≤ s.heap.objs.size) (hb0 : b.length = 17) (hb : ∀ b ∈ bs, b.length = 17)
    (hz : 17 + bs.flatten.length + tail.length ≤ 1000) (hs : s.heap.objs.size + 1 + bs.length ≤ 1000) (ho : okKeys (b ++ bs.flatten ++ tail)) (hn : newKeys [] (b ++ bs.flatten ++ tail)) :
    Goes w (223 + 330 * bs.length + (6 + 19 * tail.length)) (dictDisplay (((b ++ bs.flatten ++ tail).map (itemOf q)).map lift1)) s q (.ref s.heap.objs.size)
      { s with heap := pushAll (s.heap.push (dO (entsFrom s.toks (b ++ bs.flatten) ++ entsShort (s.toks + 51 + 3 * bs.flatten.length) tail).toArray (17 + bs.flatten.length + tail.length))) (subsOf (s.toks + 51) bs ++ [dO (entsShort (s.toks + 51 + 3 * bs.flatten.length) tail).toArray tail.length]), toks := s.toks + 51 + 3 * bs.flatten.length + 3 * tail.length } q := by
  unfold dictDisplay
  dsimp only
  have hn' := newKeys.app (l := b ++ bs.flatten) (r := tail) hn s.toks
  refine goes_bind (n := 223 + 330 * bs.length) (k := 6 + 19 * tail.length) (goes_loop (w := w) (q := q) (fun d x => do
    let _ ← holding [Value.ref d, x] (runValue (Code.builtin "proto.let_go" { }))
    pure ()) ?hf ?hf2 ?hf3 tail (by omega) b bs s hd hb0 hb (by omega) hs (fun y hy => ho y (List.mem_append_left _ hy)) hn'.1) ?_
  case hf =>
    intro x m r hr
    unfold lift1
    dsimp only
    rw [if_neg (by simp; omega)]
  case hf2 =>
    intro x d r hr
    unfold lift1
    dsimp only
    rw [if_pos (by simp; omega), if_neg (by simp)]
  case hf3 =>
    intro x r hr
    unfold lift1
    dsimp only
    rw [if_pos (by simp; omega), if_neg (by simp)]
  dsimp only
  rw [if_neg (by simpa using ht0)]
  have hd1 : s.heap.objs.size < (s.heap.push (dO (entsFrom s.toks (b ++ bs.flatten)).toArray (17 + bs.flatten.length))).objs.size := by rw [push_size]; exact Nat.lt_succ_self _
  have hne : entsFrom s.toks (b ++ bs.flatten) ≠ [] := by
    intro q
    have := entsFrom_length s.toks (b ++ bs.flatten)
    rw [q, List.length_append, hb0, List.length_nil] at this
    omega
  have m := goes_laterShort (w := w) (q := q) (s := { s with heap := pushAll (s.heap.push (dO (entsFrom s.toks (b ++ bs.flatten)).toArray (17 + bs.flatten.length))) (subsOf (s.toks + 51) bs), toks := s.toks + 51 + 3 * bs.flatten.length })
    (d := s.heap.objs.size) (es := entsFrom s.toks (b ++ bs.flatten)) (n := 17 + bs.flatten.length) tail hd hne (pushAll_get _ _ (Heap.get?_push_size _ rfl)) ht (by rw [entsFrom_length, List.length_append, hb0]; omega)
    (fun y hy => ho y (List.mem_append_right _ hy)) (by simpa using hn'.2) (fun x => do
    let _ ← holding [Value.ref s.heap.objs.size, x] (runValue (Code.builtin "proto.let_go" { }))
    pure ())
  refine goes_bind (n := 6 + 19 * tail.length) (k := 0) m ?_
  refine goes_ret.eq rfl rfl ?_
  rw [pushAll_set _ _ hd1, setO_pushed, pushAll_snoc]
end
section -- HeadB2
noncomputable section
variable {w : World} {α β : Type}
noncomputable def GoTo (w : World) (n : Nat) (t : Sem α) (s : Shared) (p : Pos) (t' : Sem α) (s' : Shared) (p' : Pos) : Prop :=
  ∀ (K : α → Sem Fin) (H : Value → Sem Fin) (gd : Bool → Bool) (lv : List Value → List Value), sgo w n s ⟨t.wrap K H gd lv, cT, p, BT0⟩ = some (s', ⟨t'.wrap K H gd lv, cT, p', BT0⟩)
theorem goto_of {n : Nat} {m : Sem α} {s s' : Shared} {p p' : Pos} {a : α} (h : Goes w n m s p a s' p') (f : α → Sem β) : GoTo w n (m >>= f) s p (f a) s' p' := fun K H gd lv => by
  rw [Sem.bind_eq_wrap', Sem.wrap_wrap]
  exact h _ _ _ _
theorem goto_bind {n : Nat} {m m' : Sem α} {s s' : Shared} {p p' : Pos} (h : GoTo w n m s p m' s' p') (f : α → Sem β) : GoTo w n (m >>= f) s p (m' >>= f) s' p' := fun K H gd lv => by
  rw [Sem.bind_eq_wrap', Sem.bind_eq_wrap', Sem.wrap_wrap, Sem.wrap_wrap]
  exact h _ _ _ _
theorem goto_trans {n k : Nat} {m m₁ m₂ : Sem α} {s s₁ s₂ : Shared} {p p₁ p₂ : Pos} (h : GoTo w n m s p m₁ s₁ p₁) (h' : GoTo w k m₁ s₁ p₁ m₂ s₂ p₂) : GoTo w (n + k) m s p m₂ s₂ p₂ :=
  fun K H gd lv => (sgo_add w n k _ _ _ _ (h K H gd lv)).trans (h' K H gd lv)

noncomputable def parts9 : Expr × List (Option Expr) × List Expr × Pos × Pos := match stI 9 with
  | .Assign [n] (.Dict ks vs q) p => (n, ks, vs, q, p)
  | _ => (.Constant .none 0 qT, [], [], qT, qT)
noncomputable abbrev nm9 : Expr := parts9.1
noncomputable abbrev ks9 : List (Option Expr) := parts9.2.1
noncomputable abbrev vs9 : List Expr := parts9.2.2.1
noncomputable abbrev q9 : Pos := parts9.2.2.2.1
noncomputable abbrev p9 : Pos := parts9.2.2.2.2
theorem st9_eq : stI 9 = .Assign [nm9] (.Dict ks9 vs9 q9) p9 := by kernel_rfl
noncomputable def tail9 : List (Int × Str) := b3L.drop 646
noncomputable def bs9 : List (List (Int × Str)) := (List.range 37).map fun j => b3B (j + 1)
theorem split9 : b3B 0 ++ bs9.flatten ++ tail9 = b3L := by kernel_rfl
theorem head9 : b3B 0 ++ bs9.flatten = b3L.take 646 := by kernel_rfl
theorem items9 : (evalEachOpt ks9 envT).zip ((evalEach vs9 envT).map fun v => do let x ← v; standAt q9; pure x) = ((b3B 0 ++ bs9.flatten ++ tail9).map (itemOf q9)).map lift1 := by kernel_rfl
theorem swap9 : swapsWithSole [nm9] (.Dict ks9 vs9 q9) p9.line envT = pure false := by kernel_rfl
noncomputable def okKeysB (l : List (Int × Str)) : Bool := l.all fun x => decide (0 ≤ x.1) && decide (x.1 < 2 ^ 60)
theorem ok9 : okKeysB (b3B 0 ++ bs9.flatten ++ tail9) = true := by kernel_rfl
/-- strictly rising: so no key twice -/
noncomputable def risingB : List (Int × Str) → Bool
  | x :: y :: r => decide (x.1 < y.1) && risingB (y :: r)
  | _ => true
theorem rise9 : risingB b3L = true := by kernel_rfl
theorem len9 : (bs9.all fun b => b.length == 17) = true ∧ bs9.flatten.length = 629 ∧ tail9.length = 4 ∧ (b3B 0).length = 17 ∧ bs9.length = 37 := by
  refine ⟨?_, ?_, ?_, ?_, ?_⟩ <;> kernel_rfl
theorem rising_pairwise : ∀ (l : List (Int × Str)), risingB l = true → l.Pairwise fun a b => a.1 < b.1
  | [], _ => .nil
  | [_], _ => List.pairwise_singleton _ _
  | x :: y :: r, h => by
    obtain ⟨h1, h2⟩ := Bool.and_eq_true_iff.mp h
    have ih := rising_pairwise (y :: r) h2
    refine List.Pairwise.cons (fun z hz => ?_) ih
    rcases List.mem_cons.mp hz with rfl | hz
    · exact of_decide_eq_true h1
    · exact Int.lt_trans (of_decide_eq_true h1) (List.rel_of_pairwise_cons ih hz)
theorem new9 : newKeys [] (b3B 0 ++ bs9.flatten ++ tail9) := by
  rw [split9]
  unfold newKeys hashes
  rw [List.map_nil, List.nil_append]
  have := rising_pairwise _ rise9
  rw [List.Nodup, List.pairwise_map]
  exact this.imp fun h => Int.ne_of_lt h
noncomputable def insAll : BT → Nat → List Obj → BT
  | t, _, [] => t
  | t, n, o :: l => insAll (t.ins n o) (n + 1) l
noncomputable def insOk : BT → Nat → List Obj → Bool
  | _, _, [] => true
  | t, n, o :: l => ((t.ins n o).get n).isSome && insOk (t.ins n o) (n + 1) l
theorem insAll_abs (life : Life) : ∀ (l : List Obj) (t : BT) (n : Nat), insOk t n l = true → absHeap (insAll t n l) (n + l.length) life = pushAll (absHeap t n life) l
  | [], _, _, _ => rfl
  | o :: l, t, n, h => by
    obtain ⟨h1, h2⟩ := Bool.and_eq_true_iff.mp h
    rw [insAll, pushAll, ← absHeap_ins h1, List.length_cons, show n + (l.length + 1) = n + 1 + l.length by omega]
    exact insAll_abs life l (t.ins n o) (n + 1) h2
noncomputable def objs9 : List Obj := dO b3E.toArray 650 :: (subsOf 499 bs9 ++ [dO (entsShort 2386 tail9).toArray 4])
theorem objs9_len : objs9.length = 39 := by kernel_rfl
theorem ins9 (P : Params) : insOk (n303 P) 117 objs9 = true := by kernel_rfl
noncomputable def rest9 (v : Value) : Sem Flow := swappedStores [nm9] (.Dict ks9 vs9 q9) envT >>= fun sw => assignStores envT v sw ((assignEach [nm9] envT).map (·.2))
noncomputable def aft9 (f : Flow) : Sem Flow := match f with | .next => execs [] envT | f => pure f

set_option maxHeartbeats 2000000 in
theorem open9 (s : Shared) (p : Pos) (hs : s.heap.objs.size = 117) (ht : s.toks = 448) :
    GoTo w 12517 (execs [stI 9] envT) s p (rest9 (.ref 117) >>= aft9) { s with heap := pushAll s.heap objs9, toks := 2398 } q9 := by
  rw [st9_eq]
  have e0 : execs [Stmt.Assign [nm9] (.Dict ks9 vs9 q9) p9] envT = ((do
      standAt p9
      let b ← swapsWithSole [nm9] (.Dict ks9 vs9 q9) p9.line envT
      if b then do
        evalThenUse (.Dict ks9 vs9 q9) envT fun v => assignAll v ((assignEach [nm9] envT).map (·.2))
        pure .next
      else do
        let v ← eval (.Dict ks9 vs9 q9) envT
        rest9 v) >>= aft9) := by kernel_rfl
  rw [e0, swap9]
  obtain ⟨l1, l2, l3, l4, l5⟩ := len9
  have hb : ∀ b ∈ bs9, b.length = 17 := fun b hb => by simpa using List.all_eq_true.mp l1 b hb
  have ho : okKeys (b3B 0 ++ bs9.flatten ++ tail9) := fun x hx => by
    have := List.all_eq_true.mp ok9 x hx
    obtain ⟨h1, h2⟩ := Bool.and_eq_true_iff.mp this
    exact ⟨of_decide_eq_true h1, of_decide_eq_true h2⟩
  have hne : tail9 ≠ [] := fun q => by rw [q] at l3; cases l3
  have disp := goes_display (w := w) (q := q9) tail9 (by omega) hne (b3B 0) bs9 s (by omega) l4 hb (by omega) (by omega) ho new9
  rw [l2, l3, l5, hs, ht, head9] at disp
  have heap_eq : pushAll (s.heap.push (dO (entsFrom 448 (b3L.take 646) ++ entsShort (448 + 51 + 3 * 629) tail9).toArray (17 + 629 + 4))) (subsOf (448 + 51) bs9 ++ [dO (entsShort (448 + 51 + 3 * 629) tail9).toArray 4]) = pushAll s.heap objs9 := by kernel_rfl
  rw [heap_eq] at disp
  have ev : GoTo w 12516 (eval (.Dict ks9 vs9 q9) envT >>= rest9) s p9 (rest9 (.ref 117)) { s with heap := pushAll s.heap objs9, toks := 2398 } q9 := by
    have e1 : eval (.Dict ks9 vs9 q9) envT = (do
      standAt q9
      dictDisplay ((evalEachOpt ks9 envT).zip ((evalEach vs9 envT).map fun v => do let x ← v; standAt q9; pure x))) := by kernel_rfl
    rw [e1, items9]
    refine goto_of (n := 12516) ?_ rest9
    exact goes_bind (n := 1) (k := 12515) goes_standAt disp
  refine goto_bind (n := 12517) ?_ aft9
  refine goto_trans (n := 1) (k := 12516) (goto_of (n := 1) goes_standAt _) ?_
  exact ev
theorem last9 (w : World) (os : OsState) : segRunT treeTable PW w 28 (some (.ref 6)) 1 9 ⟨insAll (n303 w.params) 117 objs9, 156, {}, #[], {}, 2398, os⟩ ⟨(rest9 (.ref 117) >>= aft9).wrap doneF deadEnd id id, .body bodyT envT, q9, [topFrame qT]⟩ =
    some (Flow.next, (⟨n434 w.params, 156, {}, #[], {}, 2399, os⟩ : SharedT), Code.body bodyT envT, (⟨94, 0, 94, 13⟩ : Pos)) := by
  rw [Fast.te10110043849684766642, Fast.te14364793385576792824]
  kernel_rfl
theorem abs9 (P : Params) : pushAll (absHeap (n303 P) 117 {}) objs9 = absHeap (insAll (n303 P) 117 objs9) 156 {} := by
  have := insAll_abs {} objs9 (n303 P) 117 (ins9 P)
  rw [objs9_len] at this
  exact this.symm
theorem pc9 (w : World) (os : OsState) : segRun treeTable PW w 28 (some (.ref 6)) 1 (12517 + 9) (⟨n303 w.params, 117, {}, #[], {}, 448, os⟩ : SharedT).abs (piecesOf [stI 9] envT (.body bodyT envT) ⟨92, 0, 93, 30⟩ [topFrame ⟨0, 0, 0, 0⟩]) =
    some (Flow.next, (⟨n434 w.params, 156, {}, #[], {}, 2399, os⟩ : SharedT).abs, Code.body bodyT envT, (⟨94, 0, 94, 13⟩ : Pos)) := by
  have h1 := open9 (w := w) ⟨absHeap (n303 w.params) 117 {}, #[], {}, 448, os⟩ ⟨92, 0, 93, 30⟩ (absHeap_size _ _ _) rfl doneF deadEnd id id
  dsimp only at h1
  rw [abs9] at h1
  have h2 := segRun_of (last9 w os)
  dsimp only [SharedT.abs] at h2 ⊢
  generalize absHeap (n303 w.params) 117 {} = H0 at h1 ⊢
  generalize absHeap (insAll (n303 w.params) 117 objs9) 156 {} = H1 at h1 h2
  generalize absHeap (n434 w.params) 156 {} = H2 at h2 ⊢
  generalize (12517 : Nat) = N1 at h1 ⊢
  exact seg_go h1 h2
end
end
section -- Base
noncomputable section
noncomputable def VW : Program := view PW [0, 1, 6, 8, 9, 10, 11, 13, 14, 15, 17, 19, 20, 21, 22, 23]
noncomputable def LS : List Str := ["bisect_right", "bisect_left", "b1_set", "b3_exceptions", "tspecials", "_name_disallowed_re", "_value_disallowed_re", "_formatparam"]
noncomputable def LX : List Str := ["bisect_right", "bisect_left", "b1_set", "b3_exceptions", "tspecials", "_name_disallowed_re", "_value_disallowed_re", "_formatparam", "Headers", "_sre", "_wall", "in_table_b1", "map_table_b3", "_law_lexer", "_law_word", "_law_prepared", "_law_end", "law", "_netrclex"]
noncomputable def KK (P : Params) : Frag := (nat_lit 2, o2 P) :: (nat_lit 3, o30 P) :: (nat_lit 32, o7 P) :: (nat_lit 34, o32 P) :: (nat_lit 35, o7 P) :: (nat_lit 37, o34 P) :: (nat_lit 38, o35 P) :: (nat_lit 39, o36 P) :: (nat_lit 40, o37 P) :: (nat_lit 41, o7 P) :: (nat_lit 43, o38 P) :: (nat_lit 44, o7 P) :: (nat_lit 46, o40 P) :: (nat_lit 47, o41 P) :: (nat_lit 48, o42 P) :: (nat_lit 49, o43 P) :: (nat_lit 50, o7 P) :: (nat_lit 52, o44 P) :: (nat_lit 53, o7 P) :: (nat_lit 55, o46 P) :: (nat_lit 56, o47 P) :: (nat_lit 64, o7 P) :: (nat_lit 66, o53 P) :: (nat_lit 67, o7 P) :: (nat_lit 69, o55 P) :: (nat_lit 70, o56 P) :: (nat_lit 71, o7 P) :: (nat_lit 73, o57 P) :: (nat_lit 74, o7 P) :: (nat_lit 76, o59 P) :: (nat_lit 77, o60 P) :: (nat_lit 78, o7 P) :: (nat_lit 80, o61 P) :: (nat_lit 81, o7 P) :: (nat_lit 83, o63 P) :: (nat_lit 84, o64 P) :: (nat_lit 85, o7 P) :: (nat_lit 87, o65 P) :: (nat_lit 88, o7 P) :: (nat_lit 90, o67 P) :: (nat_lit 91, o68 P) :: (nat_lit 92, o69 P) :: (nat_lit 93, o70 P) :: (nat_lit 94, o71 P) :: (nat_lit 95, o72 P) :: (nat_lit 96, o73 P) :: (nat_lit 106, o82 P) :: (nat_lit 110, o7 P) :: (nat_lit 112, o85 P) :: (nat_lit 113, o7 P) :: (nat_lit 115, o87 P) :: (nat_lit 116, o88 P) :: (nat_lit 117, o89 P) :: (nat_lit 156, o7 P) :: (nat_lit 158, o128 P) :: (nat_lit 159, o7 P) :: (nat_lit 161, o130 P) :: (nat_lit 162, o131 P) :: (nat_lit 166, o134 P) :: (nat_lit 167, o135 P) :: (nat_lit 171, o137 P) :: (nat_lit 172, o138 P) :: (nat_lit 176, o140 P) :: (nat_lit 177, o141 P) :: (nat_lit 178, o142 P) :: (nat_lit 179, o7 P) :: (nat_lit 181, o143 P) :: (nat_lit 182, o7 P) :: (nat_lit 184, o145 P) :: (nat_lit 185, o146 P) :: (nat_lit 193, o133 P) :: (nat_lit 194, o7 P) :: (nat_lit 196, o151 P) :: (nat_lit 197, o7 P) :: (nat_lit 199, o153 P) :: (nat_lit 200, o154 P) :: (nat_lit 201, o7 P) :: (nat_lit 203, o155 P) :: (nat_lit 204, o7 P) :: (nat_lit 206, o157 P) :: (nat_lit 207, o158 P) :: (nat_lit 208, o7 P) :: (nat_lit 210, o159 P) :: (nat_lit 211, o7 P) :: (nat_lit 213, o161 P) :: (nat_lit 214, o162 P) :: (nat_lit 215, o7 P) :: (nat_lit 217, o163 P) :: (nat_lit 218, o7 P) :: (nat_lit 220, o165 P) :: (nat_lit 221, o166 P) :: (nat_lit 222, o7 P) :: (nat_lit 225, o168 P) :: (nat_lit 226, o169 P) :: (nat_lit 227, o7 P) :: (nat_lit 229, o170 P) :: (nat_lit 230, o7 P) :: (nat_lit 232, o172 P) :: (nat_lit 233, o173 P) :: (nat_lit 234, o7 P) :: (nat_lit 236, o174 P) :: (nat_lit 237, o7 P) :: (nat_lit 239, o176 P) :: (nat_lit 240, o177 P) :: (nat_lit 241, o7 P) :: (nat_lit 244, o179 P) :: (nat_lit 245, o180 P) :: (nat_lit 246, o133 P) :: (nat_lit 247, o7 P) :: (nat_lit 249, o181 P) :: (nat_lit 250, o7 P) :: (nat_lit 252, o183 P) :: (nat_lit 253, o184 P) :: (nat_lit 254, o7 P) :: (nat_lit 257, o186 P) :: (nat_lit 258, o187 P) :: (nat_lit 259, o7 P) :: (nat_lit 262, o189 P) :: (nat_lit 263, o190 P) :: (nat_lit 264, o7 P) :: (nat_lit 266, o191 P) :: (nat_lit 267, o7 P) :: (nat_lit 269, o193 P) :: (nat_lit 270, o194 P) :: (nat_lit 271, o7 P) :: (nat_lit 273, o195 P) :: (nat_lit 274, o7 P) :: (nat_lit 276, o197 P) :: (nat_lit 277, o198 P) :: (nat_lit 278, o7 P) :: (nat_lit 281, o200 P) :: (nat_lit 282, o201 P) :: (nat_lit 283, o7 P) :: (nat_lit 285, o202 P) :: (nat_lit 286, o7 P) :: (nat_lit 288, o204 P) :: (nat_lit 289, o205 P) :: (nat_lit 290, o7 P) :: (nat_lit 292, o206 P) :: (nat_lit 293, o7 P) :: (nat_lit 295, o208 P) :: (nat_lit 296, o209 P) :: (nat_lit 297, o7 P) :: (nat_lit 299, o210 P) :: (nat_lit 300, o7 P) :: (nat_lit 302, o212 P) :: (nat_lit 303, o213 P) :: (nat_lit 304, o214 P) :: (nat_lit 305, o215 P) :: (nat_lit 306, o216 P) :: (nat_lit 307, o217 P) :: (nat_lit 308, o218 P) :: (nat_lit 311, o7 P) :: (nat_lit 313, o221 P) :: (nat_lit 314, o222 P) :: (nat_lit 316, o224 P) :: (nat_lit 317, o225 P) :: (nat_lit 318, o7 P) :: (nat_lit 320, o226 P) :: (nat_lit 321, o7 P) :: (nat_lit 323, o228 P) :: (nat_lit 324, o229 P) :: (nat_lit 325, o7 P) :: (nat_lit 328, o231 P) :: (nat_lit 329, o232 P) :: (nat_lit 330, o7 P) :: (nat_lit 332, o233 P) :: (nat_lit 333, o7 P) :: (nat_lit 335, o235 P) :: (nat_lit 336, o236 P) :: (nat_lit 337, o7 P) :: (nat_lit 340, o238 P) :: (nat_lit 341, o239 P) :: []
noncomputable def asK : List Addr := nat_lit 2 :: nat_lit 3 :: nat_lit 32 :: nat_lit 34 :: nat_lit 35 :: nat_lit 37 :: nat_lit 38 :: nat_lit 39 :: nat_lit 40 :: nat_lit 41 :: nat_lit 43 :: nat_lit 44 :: nat_lit 46 :: nat_lit 47 :: nat_lit 48 :: nat_lit 49 :: nat_lit 50 :: nat_lit 52 :: nat_lit 53 :: nat_lit 55 :: nat_lit 56 :: nat_lit 64 :: nat_lit 66 :: nat_lit 67 :: nat_lit 69 :: nat_lit 70 :: nat_lit 71 :: nat_lit 73 :: nat_lit 74 :: nat_lit 76 :: nat_lit 77 :: nat_lit 78 :: nat_lit 80 :: nat_lit 81 :: nat_lit 83 :: nat_lit 84 :: nat_lit 85 :: nat_lit 87 :: nat_lit 88 :: nat_lit 90 :: nat_lit 91 :: nat_lit 92 :: nat_lit 93 :: nat_lit 94 :: nat_lit 95 :: nat_lit 96 :: nat_lit 106 :: nat_lit 110 :: nat_lit 112 :: nat_lit 113 :: nat_lit 115 :: nat_lit 116 :: nat_lit 117 :: nat_lit 156 :: nat_lit 158 :: nat_lit 159 :: nat_lit 161 :: nat_lit 162 :: nat_lit 166 :: nat_lit 167 :: nat_lit 171 :: nat_lit 172 :: nat_lit 176 :: nat_lit 177 :: nat_lit 178 :: nat_lit 179 :: nat_lit 181 :: nat_lit 182 :: nat_lit 184 :: nat_lit 185 :: nat_lit 193 :: nat_lit 194 :: nat_lit 196 :: nat_lit 197 :: nat_lit 199 :: nat_lit 200 :: nat_lit 201 :: nat_lit 203 :: nat_lit 204 :: nat_lit 206 :: nat_lit 207 :: nat_lit 208 :: nat_lit 210 :: nat_lit 211 :: nat_lit 213 :: nat_lit 214 :: nat_lit 215 :: nat_lit 217 :: nat_lit 218 :: nat_lit 220 :: nat_lit 221 :: nat_lit 222 :: nat_lit 225 :: nat_lit 226 :: nat_lit 227 :: nat_lit 229 :: nat_lit 230 :: nat_lit 232 :: nat_lit 233 :: nat_lit 234 :: nat_lit 236 :: nat_lit 237 :: nat_lit 239 :: nat_lit 240 :: nat_lit 241 :: nat_lit 244 :: nat_lit 245 :: nat_lit 246 :: nat_lit 247 :: nat_lit 249 :: nat_lit 250 :: nat_lit 252 :: nat_lit 253 :: nat_lit 254 :: nat_lit 257 :: nat_lit 258 :: nat_lit 259 :: nat_lit 262 :: nat_lit 263 :: nat_lit 264 :: nat_lit 266 :: nat_lit 267 :: nat_lit 269 :: nat_lit 270 :: nat_lit 271 :: nat_lit 273 :: nat_lit 274 :: nat_lit 276 :: nat_lit 277 :: nat_lit 278 :: nat_lit 281 :: nat_lit 282 :: nat_lit 283 :: nat_lit 285 :: nat_lit 286 :: nat_lit 288 :: nat_lit 289 :: nat_lit 290 :: nat_lit 292 :: nat_lit 293 :: nat_lit 295 :: nat_lit 296 :: nat_lit 297 :: nat_lit 299 :: nat_lit 300 :: nat_lit 302 :: nat_lit 303 :: nat_lit 304 :: nat_lit 305 :: nat_lit 306 :: nat_lit 307 :: nat_lit 308 :: nat_lit 311 :: nat_lit 313 :: nat_lit 314 :: nat_lit 316 :: nat_lit 317 :: nat_lit 318 :: nat_lit 320 :: nat_lit 321 :: nat_lit 323 :: nat_lit 324 :: nat_lit 325 :: nat_lit 328 :: nat_lit 329 :: nat_lit 330 :: nat_lit 332 :: nat_lit 333 :: nat_lit 335 :: nat_lit 336 :: nat_lit 337 :: nat_lit 340 :: nat_lit 341 :: []
theorem asK_eq (P : Params) : asK = (KK P).map (·.1) := by kernel_rfl
noncomputable def HK : Hook := kmHook KK asK asK_eq [nat_lit 312]
noncomputable abbrev rT : RowW := PySem.Challenge.rw_uq0027_01.row.toRowW
noncomputable def XtT (s : Shared) : Bool := xlAt VW [] s && recOk (RowW.records rT) s
end
end
section -- HeadP
noncomputable section

theorem pc0 (w : World) : (fun os => segRunT treeTable PW w 28 (some (.ref 6)) 1 30 ⟨n42 w.params, 32, {}, #[], {}, 282, os⟩ (piecesOf [stI 0] envT (.body bodyT envT) ⟨0, 0, 0, 0⟩ [topFrame ⟨0, 0, 0, 0⟩])) = fun os => some (Flow.next, (⟨n68 w.params, 39, {}, #[], {}, 289, os⟩ : SharedT), Code.body bodyT envT, (⟨2, 0, 4, 12⟩ : Pos)) := by
  rw [Fast.te10110043849684766642, Fast.te14364793385576792824]
  kernel_rfl

theorem pc1 (w : World) : (fun os => segRunT treeTable PW w 28 (some (.ref 6)) 1 10 ⟨n68 w.params, 39, {}, #[], {}, 289, os⟩ (piecesOf [stI 1] envT (.body bodyT envT) ⟨2, 0, 4, 12⟩ [topFrame ⟨0, 0, 0, 0⟩])) = fun os => some (Flow.next, (⟨n71 w.params, 39, {}, #[], {}, 291, os⟩ : SharedT), Code.body bodyT envT, (⟨5, 0, 5, 8⟩ : Pos)) := by
  rw [Fast.te10110043849684766642, Fast.te14364793385576792824]
  kernel_rfl

theorem pc2 (w : World) : (fun os => segRunT treeTable PW w 28 (some (.ref 6)) 1 42 ⟨n71 w.params, 39, {}, #[], {}, 291, os⟩ (piecesOf [stI 2] envT (.body bodyT envT) ⟨5, 0, 5, 8⟩ [topFrame ⟨0, 0, 0, 0⟩])) = fun os => some (Flow.next, (⟨n101 w.params, 48, {}, #[], {}, 305, os⟩ : SharedT), Code.body bodyT envT, (⟨6, 0, 25, 13⟩ : Pos)) := by
  rw [Fast.te10110043849684766642, Fast.te14364793385576792824]
  kernel_rfl

theorem pc3 (w : World) : (fun os => segRunT treeTable PW w 28 (some (.ref 6)) 1 42 ⟨n101 w.params, 48, {}, #[], {}, 305, os⟩ (piecesOf [stI 3] envT (.body bodyT envT) ⟨6, 0, 25, 13⟩ [topFrame ⟨0, 0, 0, 0⟩])) = fun os => some (Flow.next, (⟨n132 w.params, 57, {}, #[], {}, 319, os⟩ : SharedT), Code.body bodyT envT, (⟨26, 0, 45, 13⟩ : Pos)) := by
  rw [Fast.te10110043849684766642, Fast.te14364793385576792824]
  kernel_rfl

theorem pc4 (w : World) : (fun os => segRunT treeTable PW w 28 (some (.ref 6)) 1 10 ⟨n132 w.params, 57, {}, #[], {}, 319, os⟩ (piecesOf [stI 4] envT (.body bodyT envT) ⟨26, 0, 45, 13⟩ [topFrame ⟨0, 0, 0, 0⟩])) = fun os => some (Flow.next, (⟨n135 w.params, 57, {}, #[], {}, 321, os⟩ : SharedT), Code.body bodyT envT, (⟨46, 0, 46, 8⟩ : Pos)) := by
  rw [Fast.te10110043849684766642, Fast.te14364793385576792824]
  kernel_rfl

theorem pc5 (w : World) : (fun os => segRunT treeTable PW w 28 (some (.ref 6)) 1 324 ⟨n135 w.params, 57, {}, #[], {}, 321, os⟩ (piecesOf [stI 5] envT (.body bodyT envT) ⟨46, 0, 46, 8⟩ [topFrame ⟨0, 0, 0, 0⟩])) = fun os => some (Flow.next, (⟨n220 w.params, 99, {}, #[], {}, 379, os⟩ : SharedT), Code.body bodyT envT, (⟨47, 0, 89, 35⟩ : Pos)) := by
  rw [Fast.te10110043849684766642, Fast.te14364793385576792824]
  kernel_rfl

theorem pc6 (w : World) : (fun os => segRunT treeTable PW w 28 (some (.ref 6)) 1 10 ⟨n220 w.params, 99, {}, #[], {}, 379, os⟩ (piecesOf [stI 6] envT (.body bodyT envT) ⟨47, 0, 89, 35⟩ [topFrame ⟨0, 0, 0, 0⟩])) = fun os => some (Flow.next, (⟨n223 w.params, 99, {}, #[], {}, 381, os⟩ : SharedT), Code.body bodyT envT, (⟨90, 0, 90, 8⟩ : Pos)) := by
  rw [Fast.te10110043849684766642, Fast.te14364793385576792824]
  kernel_rfl

noncomputable def pp7 (w : World) : Prop := (fun os => segRunT treeTable PW w 28 (some (.ref 6)) 1 999 ⟨n223 w.params, 99, {}, #[], {}, 381, os⟩ (piecesOf [stI 7] envT (.body bodyT envT) ⟨90, 0, 90, 8⟩ [topFrame ⟨0, 0, 0, 0⟩])) = fun os => some (Flow.next, (⟨n269 w.params, 110, {}, #[], {}, 441, os⟩ : SharedT), Code.body bodyT envT, (⟨91, 0, 91, 6⟩ : Pos))
theorem pc7a (b c : Bool) (w : World) : pp7 ((w.withFollow "special-get-raises" c).withFollow "set-order" b) := by
  unfold pp7
  rw [Fast.te10110043849684766642, Fast.te14364793385576792824]
  cases b <;> cases c <;> kernel_rfl
theorem pc7b (b : Bool) (w : World) : pp7 (w.withFollow "set-order" b) := byRow2 "special-get-raises" (P := fun w => pp7 (w.withFollow "set-order" b)) (pc7a b false) (pc7a b true) w
theorem pc7 (w : World) : pp7 w := byRow2 "set-order" (P := pp7) (pc7b false) (pc7b true) w

theorem pc8 (w : World) : (fun os => segRunT treeTable PW w 28 (some (.ref 6)) 1 30 ⟨n269 w.params, 110, {}, #[], {}, 441, os⟩ (piecesOf [stI 8] envT (.body bodyT envT) ⟨91, 0, 91, 6⟩ [topFrame ⟨0, 0, 0, 0⟩])) = fun os => some (Flow.next, (⟨n303 w.params, 117, {}, #[], {}, 448, os⟩ : SharedT), Code.body bodyT envT, (⟨92, 0, 93, 30⟩ : Pos)) := by
  rw [Fast.te10110043849684766642, Fast.te14364793385576792824]
  kernel_rfl

theorem pc10 (w : World) : (fun os => segRunT treeTable PW w 28 (some (.ref 6)) 1 31 ⟨n434 w.params, 156, {}, #[], {}, 2399, os⟩ (piecesOf [stI 10] envT (.body bodyT envT) ⟨94, 0, 94, 13⟩ [topFrame ⟨0, 0, 0, 0⟩])) = fun os => some (Flow.next, (⟨n473 w.params, 163, {}, #[], {}, 2407, os⟩ : SharedT), Code.body bodyT envT, (⟨95, 0, 99, 23⟩ : Pos)) := by
  rw [Fast.te10110043849684766642, Fast.te14364793385576792824]
  kernel_rfl

theorem pc11 (w : World) : (fun os => segRunT treeTable PW w 28 (some (.ref 6)) 1 10 ⟨n473 w.params, 163, {}, #[], {}, 2407, os⟩ (piecesOf [stI 11] envT (.body bodyT envT) ⟨95, 0, 99, 23⟩ [topFrame ⟨0, 0, 0, 0⟩])) = fun os => some (Flow.next, (⟨n476 w.params, 163, {}, #[], {}, 2409, os⟩ : SharedT), Code.body bodyT envT, (⟨100, 0, 100, 8⟩ : Pos)) := by
  rw [Fast.te10110043849684766642, Fast.te14364793385576792824]
  kernel_rfl

theorem pc12 (w : World) : (fun os => segRunT treeTable PW w 28 (some (.ref 6)) 1 78 ⟨n476 w.params, 163, {}, #[], {}, 2409, os⟩ (piecesOf [stI 12] envT (.body bodyT envT) ⟨100, 0, 100, 8⟩ [topFrame ⟨0, 0, 0, 0⟩])) = fun os => some (Flow.next, (⟨n508 w.params, 168, {}, #[], {}, 2443, os⟩ : SharedT), Code.body bodyT envT, (⟨101, 0, 101, 9⟩ : Pos)) := by
  rw [Fast.te10110043849684766642, Fast.te14364793385576792824]
  kernel_rfl

theorem pc13 (w : World) : (fun os => segRunT treeTable PW w 28 (some (.ref 6)) 1 70 ⟨n508 w.params, 168, {}, #[], {}, 2443, os⟩ (piecesOf [stI 13] envT (.body bodyT envT) ⟨101, 0, 101, 9⟩ [topFrame ⟨0, 0, 0, 0⟩])) = fun os => some (Flow.next, (⟨n538 w.params, 173, {}, #[], {}, 2469, os⟩ : SharedT), Code.body bodyT envT, (⟨102, 0, 102, 19⟩ : Pos)) := by
  rw [Fast.te10110043849684766642, Fast.te14364793385576792824]
  kernel_rfl

theorem pc14 (w : World) : (fun os => segRunT treeTable PW w 28 (some (.ref 6)) 1 78 ⟨n538 w.params, 173, {}, #[], {}, 2469, os⟩ (piecesOf [stI 14] envT (.body bodyT envT) ⟨102, 0, 102, 19⟩ [topFrame ⟨0, 0, 0, 0⟩])) = fun os => some (Flow.next, (⟨n568 w.params, 178, {}, #[], {}, 2503, os⟩ : SharedT), Code.body bodyT envT, (⟨103, 0, 103, 20⟩ : Pos)) := by
  rw [Fast.te10110043849684766642, Fast.te14364793385576792824]
  kernel_rfl

theorem pc15 (w : World) : (fun os => segRunT treeTable PW w 28 (some (.ref 6)) 1 34 ⟨n568 w.params, 178, {}, #[], {}, 2503, os⟩ (piecesOf [stI 15] envT (.body bodyT envT) ⟨103, 0, 103, 20⟩ [topFrame ⟨0, 0, 0, 0⟩])) = fun os => some (Flow.next, (⟨n613 w.params, 186, {}, #[], {}, 2513, os⟩ : SharedT), Code.body bodyT envT, (⟨104, 0, 112, 20⟩ : Pos)) := by
  rw [Fast.te10110043849684766642, Fast.te14364793385576792824]
  kernel_rfl

theorem pc16 (w : World) : (fun os => segRunT treeTable PW w 28 (some (.ref 6)) 1 727 ⟨n613 w.params, 186, {}, #[], {}, 2513, os⟩ (piecesOf [stI 16] envT (.body bodyT envT) ⟨104, 0, 112, 20⟩ [topFrame ⟨0, 0, 0, 0⟩])) = fun os => some (Flow.next, (⟨n871 w.params, 311, {}, #[], {}, 2670, os⟩ : SharedT), Code.body bodyT envT, (⟨113, 0, 194, 93⟩ : Pos)) := by
  rw [Fast.te10110043849684766642, Fast.te14364793385576792824]
  kernel_rfl

theorem pc17 (w : World) : (fun os => segRunT treeTable PW w 28 (some (.ref 6)) 1 10 ⟨n871 w.params, 311, {}, #[], {}, 2670, os⟩ (piecesOf [stI 17] envT (.body bodyT envT) ⟨113, 0, 194, 93⟩ [topFrame ⟨0, 0, 0, 0⟩])) = fun os => some (Flow.next, (⟨n874 w.params, 311, {}, #[], {}, 2672, os⟩ : SharedT), Code.body bodyT envT, (⟨195, 0, 195, 8⟩ : Pos)) := by
  rw [Fast.te10110043849684766642, Fast.te14364793385576792824]
  kernel_rfl

theorem pc18 (w : World) : (fun os => segRunT treeTable PW w 28 (some (.ref 6)) 1 34 ⟨n874 w.params, 311, {}, #[], {}, 2672, os⟩ (piecesOf [stI 18] envT (.body bodyT envT) ⟨195, 0, 195, 8⟩ [topFrame ⟨0, 0, 0, 0⟩])) = fun os => some (Flow.next, (⟨n921 w.params, 318, {}, #[], {}, 2683, os⟩ : SharedT), Code.body bodyT envT, (⟨196, 0, 205, 27⟩ : Pos)) := by
  rw [Fast.te10110043849684766642, Fast.te14364793385576792824]
  kernel_rfl

theorem pc19 (w : World) : (fun os => segRunT treeTable PW w 28 (some (.ref 6)) 1 43 ⟨n921 w.params, 318, {}, #[], {}, 2683, os⟩ (piecesOf [stI 19] envT (.body bodyT envT) ⟨196, 0, 205, 27⟩ [topFrame ⟨0, 0, 0, 0⟩])) = fun os => some (Flow.next, (⟨n968 w.params, 325, {}, #[], {}, 2703, os⟩ : SharedT), Code.body bodyT envT, (⟨206, 0, 226, 65⟩ : Pos)) := by
  rw [Fast.te10110043849684766642, Fast.te14364793385576792824]
  kernel_rfl

theorem pc20 (w : World) : (fun os => segRunT treeTable PW w 28 (some (.ref 6)) 1 27 ⟨n968 w.params, 325, {}, #[], {}, 2703, os⟩ (piecesOf [stI 20] envT (.body bodyT envT) ⟨206, 0, 226, 65⟩ [topFrame ⟨0, 0, 0, 0⟩])) = fun os => some (Flow.next, (⟨n1003 w.params, 330, {}, #[], {}, 2709, os⟩ : SharedT), Code.body bodyT envT, (⟨227, 0, 228, 82⟩ : Pos)) := by
  rw [Fast.te10110043849684766642, Fast.te14364793385576792824]
  kernel_rfl

theorem pc21 (w : World) : (fun os => segRunT treeTable PW w 28 (some (.ref 6)) 1 34 ⟨n1003 w.params, 330, {}, #[], {}, 2709, os⟩ (piecesOf [stI 21] envT (.body bodyT envT) ⟨227, 0, 228, 82⟩ [topFrame ⟨0, 0, 0, 0⟩])) = fun os => some (Flow.next, (⟨n1048 w.params, 337, {}, #[], {}, 2720, os⟩ : SharedT), Code.body bodyT envT, (⟨229, 0, 237, 12⟩ : Pos)) := by
  rw [Fast.te10110043849684766642, Fast.te14364793385576792824]
  kernel_rfl

theorem pc22 (w : World) : (fun os => segRunT treeTable PW w 28 (some (.ref 6)) 1 27 ⟨n1048 w.params, 337, {}, #[], {}, 2720, os⟩ (piecesOf [stI 22] envT (.body bodyT envT) ⟨229, 0, 237, 12⟩ [topFrame ⟨0, 0, 0, 0⟩])) = fun os => some (Flow.next, (⟨n1083 w.params, 342, {}, #[], {}, 2726, os⟩ : SharedT), Code.body bodyT envT, (⟨238, 0, 277, 75⟩ : Pos)) := by
  rw [Fast.te10110043849684766642, Fast.te14364793385576792824]
  kernel_rfl

theorem fencT (w : World) : (fun os => Option.map (fun (s : Shared) => (s.heap, s.gens, s.drawn, s.toks)) (fenceModules? PW { heap := hE w.params, gens := #[], drawn := {}, toks := 276, os := os })) = fun _ => some (hA w.params, #[], {}, 276) := by
  rw [Fast.te14289696077712309145]
  kernel_rfl
theorem impT (w : World) : importEnds treeTable (opening PW) w 1000 (start (opening PW)).fst (start (opening PW)).snd = some { heap := hE w.params, gens := #[], drawn := {}, toks := 276, os := (start (opening PW)).fst.os } := by
  rw [Fast.te10274390034422433532, Fast.te14364793385576792824, Fast.te1435165496053646825]
  kernel_rfl
theorem preT (w : World) (os : OsState) : topGo treeTable PW w 28 (some (.ref 6)) 12 ⟨hA w.params, #[], {}, 276, os⟩ (topStub PW) = some (⟨hB w.params, #[], {}, 282, os⟩, ⟨denote treeTable (.body bodyT envT), .body bodyT envT, ⟨0, 0, 0, 0⟩, [topFrame ⟨0, 0, 0, 0⟩]⟩) := by
  rw [Fast.te15667345088766844465, Fast.te14364793385576792824, Fast.te11892475500146522536]
  kernel_rfl
theorem blkT (w : World) (os : OsState) : segRun treeTable PW w 28 (some (.ref 6)) 1 1 ⟨hB w.params, #[], {}, 282, os⟩ (blockOf bodyT envT (.body bodyT envT) ⟨0, 0, 0, 0⟩ [topFrame ⟨0, 0, 0, 0⟩]) = some (.next, (⟨n42 w.params, 32, {}, #[], {}, 282, os⟩ : SharedT).abs, .body bodyT envT, ⟨0, 0, 0, 0⟩) := by
  rw [Fast.te14374325043358763698, Fast.te14364793385576792824]
  kernel_rfl
theorem finT (w : World) (os : OsState) : topRun treeTable PW w 28 (some (.ref 6)) 2 (⟨n1083 w.params, 342, {}, #[], {}, 2726, os⟩ : SharedT).abs ⟨doneF .next, .body bodyT envT, ⟨238, 0, 277, 75⟩, [topFrame ⟨0, 0, 0, 0⟩]⟩ = some ⟨hZ w.params, #[], {}, 2726, os⟩ := by
  rw [Fast.te14082659384304107361, Fast.te14364793385576792824]
  kernel_rfl
theorem sizT (w : World) : ((hA w.params).isNs mainGlobals && (#[] : Array GenState).size == 0, (hA w.params).objs.size, (hA w.params).nsMap mainGlobals "__annotations__") = (true, 28, some (.ref 6)) := by
  rw [Fast.te8920871248978507458]
  kernel_rfl
noncomputable def bl23 : List Stmt := []
theorem run23 (w : World) (os : OsState) : topRun treeTable PW w 28 (some (.ref 6)) 2 (⟨n1083 w.params, 342, {}, #[], {}, 2726, os⟩ : SharedT).abs (restOf bl23 envT (.body bodyT envT) ⟨238, 0, 277, 75⟩ [topFrame ⟨0, 0, 0, 0⟩]) = some ⟨hZ w.params, #[], {}, 2726, os⟩ := piece_nil (finT w os)

noncomputable def bl22 : List Stmt := [stI 22] ++ bl23
theorem run22 (w : World) (os : OsState) : topRun treeTable PW w 28 (some (.ref 6)) (27 + 2) (⟨n1048 w.params, 337, {}, #[], {}, 2720, os⟩ : SharedT).abs (restOf bl22 envT (.body bodyT envT) ⟨229, 0, 237, 12⟩ [topFrame ⟨0, 0, 0, 0⟩]) = some ⟨hZ w.params, #[], {}, 2726, os⟩ :=
  piece_app (n := 27) (N := 2) (segRun_of (congrFun (pc22 w) os)) (run23 w os)

noncomputable def bl21 : List Stmt := [stI 21] ++ bl22
theorem run21 (w : World) (os : OsState) : topRun treeTable PW w 28 (some (.ref 6)) (34 + 29) (⟨n1003 w.params, 330, {}, #[], {}, 2709, os⟩ : SharedT).abs (restOf bl21 envT (.body bodyT envT) ⟨227, 0, 228, 82⟩ [topFrame ⟨0, 0, 0, 0⟩]) = some ⟨hZ w.params, #[], {}, 2726, os⟩ :=
  piece_app (n := 34) (N := 29) (segRun_of (congrFun (pc21 w) os)) (run22 w os)

noncomputable def bl20 : List Stmt := [stI 20] ++ bl21
theorem run20 (w : World) (os : OsState) : topRun treeTable PW w 28 (some (.ref 6)) (27 + 63) (⟨n968 w.params, 325, {}, #[], {}, 2703, os⟩ : SharedT).abs (restOf bl20 envT (.body bodyT envT) ⟨206, 0, 226, 65⟩ [topFrame ⟨0, 0, 0, 0⟩]) = some ⟨hZ w.params, #[], {}, 2726, os⟩ :=
  piece_app (n := 27) (N := 63) (segRun_of (congrFun (pc20 w) os)) (run21 w os)

noncomputable def bl19 : List Stmt := [stI 19] ++ bl20
theorem run19 (w : World) (os : OsState) : topRun treeTable PW w 28 (some (.ref 6)) (43 + 90) (⟨n921 w.params, 318, {}, #[], {}, 2683, os⟩ : SharedT).abs (restOf bl19 envT (.body bodyT envT) ⟨196, 0, 205, 27⟩ [topFrame ⟨0, 0, 0, 0⟩]) = some ⟨hZ w.params, #[], {}, 2726, os⟩ :=
  piece_app (n := 43) (N := 90) (segRun_of (congrFun (pc19 w) os)) (run20 w os)

noncomputable def bl18 : List Stmt := [stI 18] ++ bl19
theorem run18 (w : World) (os : OsState) : topRun treeTable PW w 28 (some (.ref 6)) (34 + 133) (⟨n874 w.params, 311, {}, #[], {}, 2672, os⟩ : SharedT).abs (restOf bl18 envT (.body bodyT envT) ⟨195, 0, 195, 8⟩ [topFrame ⟨0, 0, 0, 0⟩]) = some ⟨hZ w.params, #[], {}, 2726, os⟩ :=
  piece_app (n := 34) (N := 133) (segRun_of (congrFun (pc18 w) os)) (run19 w os)

noncomputable def bl17 : List Stmt := [stI 17] ++ bl18
theorem run17 (w : World) (os : OsState) : topRun treeTable PW w 28 (some (.ref 6)) (10 + 167) (⟨n871 w.params, 311, {}, #[], {}, 2670, os⟩ : SharedT).abs (restOf bl17 envT (.body bodyT envT) ⟨113, 0, 194, 93⟩ [topFrame ⟨0, 0, 0, 0⟩]) = some ⟨hZ w.params, #[], {}, 2726, os⟩ :=
  piece_app (n := 10) (N := 167) (segRun_of (congrFun (pc17 w) os)) (run18 w os)

noncomputable def bl16 : List Stmt := [stI 16] ++ bl17
theorem run16 (w : World) (os : OsState) : topRun treeTable PW w 28 (some (.ref 6)) (727 + 177) (⟨n613 w.params, 186, {}, #[], {}, 2513, os⟩ : SharedT).abs (restOf bl16 envT (.body bodyT envT) ⟨104, 0, 112, 20⟩ [topFrame ⟨0, 0, 0, 0⟩]) = some ⟨hZ w.params, #[], {}, 2726, os⟩ :=
  piece_app (n := 727) (N := 177) (segRun_of (congrFun (pc16 w) os)) (run17 w os)

noncomputable def bl15 : List Stmt := [stI 15] ++ bl16
theorem run15 (w : World) (os : OsState) : topRun treeTable PW w 28 (some (.ref 6)) (34 + 904) (⟨n568 w.params, 178, {}, #[], {}, 2503, os⟩ : SharedT).abs (restOf bl15 envT (.body bodyT envT) ⟨103, 0, 103, 20⟩ [topFrame ⟨0, 0, 0, 0⟩]) = some ⟨hZ w.params, #[], {}, 2726, os⟩ :=
  piece_app (n := 34) (N := 904) (segRun_of (congrFun (pc15 w) os)) (run16 w os)

noncomputable def bl14 : List Stmt := [stI 14] ++ bl15
theorem run14 (w : World) (os : OsState) : topRun treeTable PW w 28 (some (.ref 6)) (78 + 938) (⟨n538 w.params, 173, {}, #[], {}, 2469, os⟩ : SharedT).abs (restOf bl14 envT (.body bodyT envT) ⟨102, 0, 102, 19⟩ [topFrame ⟨0, 0, 0, 0⟩]) = some ⟨hZ w.params, #[], {}, 2726, os⟩ :=
  piece_app (n := 78) (N := 938) (segRun_of (congrFun (pc14 w) os)) (run15 w os)

noncomputable def bl13 : List Stmt := [stI 13] ++ bl14
theorem run13 (w : World) (os : OsState) : topRun treeTable PW w 28 (some (.ref 6)) (70 + 1016) (⟨n508 w.params, 168, {}, #[], {}, 2443, os⟩ : SharedT).abs (restOf bl13 envT (.body bodyT envT) ⟨101, 0, 101, 9⟩ [topFrame ⟨0, 0, 0, 0⟩]) = some ⟨hZ w.params, #[], {}, 2726, os⟩ :=
  piece_app (n := 70) (N := 1016) (segRun_of (congrFun (pc13 w) os)) (run14 w os)

noncomputable def bl12 : List Stmt := [stI 12] ++ bl13
theorem run12 (w : World) (os : OsState) : topRun treeTable PW w 28 (some (.ref 6)) (78 + 1086) (⟨n476 w.params, 163, {}, #[], {}, 2409, os⟩ : SharedT).abs (restOf bl12 envT (.body bodyT envT) ⟨100, 0, 100, 8⟩ [topFrame ⟨0, 0, 0, 0⟩]) = some ⟨hZ w.params, #[], {}, 2726, os⟩ :=
  piece_app (n := 78) (N := 1086) (segRun_of (congrFun (pc12 w) os)) (run13 w os)

noncomputable def bl11 : List Stmt := [stI 11] ++ bl12
theorem run11 (w : World) (os : OsState) : topRun treeTable PW w 28 (some (.ref 6)) (10 + 1164) (⟨n473 w.params, 163, {}, #[], {}, 2407, os⟩ : SharedT).abs (restOf bl11 envT (.body bodyT envT) ⟨95, 0, 99, 23⟩ [topFrame ⟨0, 0, 0, 0⟩]) = some ⟨hZ w.params, #[], {}, 2726, os⟩ :=
  piece_app (n := 10) (N := 1164) (segRun_of (congrFun (pc11 w) os)) (run12 w os)

noncomputable def bl10 : List Stmt := [stI 10] ++ bl11
theorem run10 (w : World) (os : OsState) : topRun treeTable PW w 28 (some (.ref 6)) (31 + 1174) (⟨n434 w.params, 156, {}, #[], {}, 2399, os⟩ : SharedT).abs (restOf bl10 envT (.body bodyT envT) ⟨94, 0, 94, 13⟩ [topFrame ⟨0, 0, 0, 0⟩]) = some ⟨hZ w.params, #[], {}, 2726, os⟩ :=
  piece_app (n := 31) (N := 1174) (segRun_of (congrFun (pc10 w) os)) (run11 w os)

noncomputable def bl9 : List Stmt := [stI 9] ++ bl10
theorem run9 (w : World) (os : OsState) : topRun treeTable PW w 28 (some (.ref 6)) (12526 + 1205) (⟨n303 w.params, 117, {}, #[], {}, 448, os⟩ : SharedT).abs (restOf bl9 envT (.body bodyT envT) ⟨92, 0, 93, 30⟩ [topFrame ⟨0, 0, 0, 0⟩]) = some ⟨hZ w.params, #[], {}, 2726, os⟩ :=
  piece_app (n := 12526) (N := 1205) (pc9 w os) (run10 w os)

noncomputable def bl8 : List Stmt := [stI 8] ++ bl9
theorem run8 (w : World) (os : OsState) : topRun treeTable PW w 28 (some (.ref 6)) (30 + 13731) (⟨n269 w.params, 110, {}, #[], {}, 441, os⟩ : SharedT).abs (restOf bl8 envT (.body bodyT envT) ⟨91, 0, 91, 6⟩ [topFrame ⟨0, 0, 0, 0⟩]) = some ⟨hZ w.params, #[], {}, 2726, os⟩ :=
  piece_app (n := 30) (N := 13731) (segRun_of (congrFun (pc8 w) os)) (run9 w os)

noncomputable def bl7 : List Stmt := [stI 7] ++ bl8
theorem run7 (w : World) (os : OsState) : topRun treeTable PW w 28 (some (.ref 6)) (999 + 13761) (⟨n223 w.params, 99, {}, #[], {}, 381, os⟩ : SharedT).abs (restOf bl7 envT (.body bodyT envT) ⟨90, 0, 90, 8⟩ [topFrame ⟨0, 0, 0, 0⟩]) = some ⟨hZ w.params, #[], {}, 2726, os⟩ :=
  piece_app (n := 999) (N := 13761) (segRun_of (congrFun (pc7 w) os)) (run8 w os)

noncomputable def bl6 : List Stmt := [stI 6] ++ bl7
theorem run6 (w : World) (os : OsState) : topRun treeTable PW w 28 (some (.ref 6)) (10 + 14760) (⟨n220 w.params, 99, {}, #[], {}, 379, os⟩ : SharedT).abs (restOf bl6 envT (.body bodyT envT) ⟨47, 0, 89, 35⟩ [topFrame ⟨0, 0, 0, 0⟩]) = some ⟨hZ w.params, #[], {}, 2726, os⟩ :=
  piece_app (n := 10) (N := 14760) (segRun_of (congrFun (pc6 w) os)) (run7 w os)

noncomputable def bl5 : List Stmt := [stI 5] ++ bl6
theorem run5 (w : World) (os : OsState) : topRun treeTable PW w 28 (some (.ref 6)) (324 + 14770) (⟨n135 w.params, 57, {}, #[], {}, 321, os⟩ : SharedT).abs (restOf bl5 envT (.body bodyT envT) ⟨46, 0, 46, 8⟩ [topFrame ⟨0, 0, 0, 0⟩]) = some ⟨hZ w.params, #[], {}, 2726, os⟩ :=
  piece_app (n := 324) (N := 14770) (segRun_of (congrFun (pc5 w) os)) (run6 w os)

noncomputable def bl4 : List Stmt := [stI 4] ++ bl5
theorem run4 (w : World) (os : OsState) : topRun treeTable PW w 28 (some (.ref 6)) (10 + 15094) (⟨n132 w.params, 57, {}, #[], {}, 319, os⟩ : SharedT).abs (restOf bl4 envT (.body bodyT envT) ⟨26, 0, 45, 13⟩ [topFrame ⟨0, 0, 0, 0⟩]) = some ⟨hZ w.params, #[], {}, 2726, os⟩ :=
  piece_app (n := 10) (N := 15094) (segRun_of (congrFun (pc4 w) os)) (run5 w os)

noncomputable def bl3 : List Stmt := [stI 3] ++ bl4
theorem run3 (w : World) (os : OsState) : topRun treeTable PW w 28 (some (.ref 6)) (42 + 15104) (⟨n101 w.params, 48, {}, #[], {}, 305, os⟩ : SharedT).abs (restOf bl3 envT (.body bodyT envT) ⟨6, 0, 25, 13⟩ [topFrame ⟨0, 0, 0, 0⟩]) = some ⟨hZ w.params, #[], {}, 2726, os⟩ :=
  piece_app (n := 42) (N := 15104) (segRun_of (congrFun (pc3 w) os)) (run4 w os)

noncomputable def bl2 : List Stmt := [stI 2] ++ bl3
theorem run2 (w : World) (os : OsState) : topRun treeTable PW w 28 (some (.ref 6)) (42 + 15146) (⟨n71 w.params, 39, {}, #[], {}, 291, os⟩ : SharedT).abs (restOf bl2 envT (.body bodyT envT) ⟨5, 0, 5, 8⟩ [topFrame ⟨0, 0, 0, 0⟩]) = some ⟨hZ w.params, #[], {}, 2726, os⟩ :=
  piece_app (n := 42) (N := 15146) (segRun_of (congrFun (pc2 w) os)) (run3 w os)

noncomputable def bl1 : List Stmt := [stI 1] ++ bl2
theorem run1 (w : World) (os : OsState) : topRun treeTable PW w 28 (some (.ref 6)) (10 + 15188) (⟨n68 w.params, 39, {}, #[], {}, 289, os⟩ : SharedT).abs (restOf bl1 envT (.body bodyT envT) ⟨2, 0, 4, 12⟩ [topFrame ⟨0, 0, 0, 0⟩]) = some ⟨hZ w.params, #[], {}, 2726, os⟩ :=
  piece_app (n := 10) (N := 15188) (segRun_of (congrFun (pc1 w) os)) (run2 w os)

noncomputable def bl0 : List Stmt := [stI 0] ++ bl1
theorem run0 (w : World) (os : OsState) : topRun treeTable PW w 28 (some (.ref 6)) (30 + 15198) (⟨n42 w.params, 32, {}, #[], {}, 282, os⟩ : SharedT).abs (restOf bl0 envT (.body bodyT envT) ⟨0, 0, 0, 0⟩ [topFrame ⟨0, 0, 0, 0⟩]) = some ⟨hZ w.params, #[], {}, 2726, os⟩ :=
  piece_app (n := 30) (N := 15198) (segRun_of (congrFun (pc0 w) os)) (run1 w os)

theorem bl_eq : bl0 = bodyT := by kernel_rfl
theorem runB (w : World) (os : OsState) : topRun treeTable PW w 28 (some (.ref 6)) (1 + 15228) ⟨hB w.params, #[], {}, 282, os⟩ ⟨denote treeTable (.body bodyT envT), .body bodyT envT, ⟨0, 0, 0, 0⟩, [topFrame ⟨0, 0, 0, 0⟩]⟩ = some ⟨hZ w.params, #[], {}, 2726, os⟩ :=
  piece_block (n := 1) (N := 15228) (blkT w os) (by have := run0 w os; rw [bl_eq] at this; exact this)
theorem runT (w : World) (os : OsState) : topRun treeTable PW w 28 (some (.ref 6)) (12 + 15229) ⟨hA w.params, #[], {}, 276, os⟩ (topStub PW) = some ⟨hZ w.params, #[], {}, 2726, os⟩ :=
  go_top (n := 12) (N := 15229) (preT w os) (runB w os)


theorem lk0 (w : World) (os : OsState) : seen ((recsOf VW).map (·.name)) (ownsOf VW) [] { (⟨hZ w.params, #[], {}, 2726, os⟩ : Shared) with gens := #[] } = expectedOf VW := by
  rw [Fast.te5160383126252970620, R.mapR_eq, Fast.te3399658132070893891, Fast.te5991557255702980513]
  kernel_rfl

theorem lk1 (w : World) (os : OsState) : (hZ w.params).bltView = bltViewBooted := by
  kernel_rfl

theorem lk2 (w : World) (os : OsState) : (hZ w.params).keysOk (looseW VW LS) ((recsOf VW).map (·.name)) ((litsOf VW).map (·.1)) ((clssOf VW (looseW VW LS)).map (·.name)) = true := by
  rw [Fast.te10880121769531294198, Fast.te821141287760084731, R.mapR_eq, Fast.te3399658132070893891, Fast.te7409074990110511671, Fast.te13664370479719496447]
  kernel_rfl

theorem lk3 (w : World) (os : OsState) : (hZ w.params).accountedOkI (importedModules PW.main.body) = true := by
  rw [Fast.te14722251495701143533, Fast.te5923862056798008813]
  kernel_rfl

noncomputable def ascFrom (k : Int) : List (PyData × PyData) → Bool
  | [] => true
  | (.int l, _) :: D => decide (k < l) && ascFrom l D
  | _ => false
theorem asc_apart : ∀ {D : List (PyData × PyData)} {k : Int}, ascFrom k D = true → keysApartInt D = true ∧ ∀ j, j ≤ k → hasIntKey j D = false
  | [], _, _ => ⟨rfl, fun _ _ => rfl⟩
  | (.int l, _) :: D, k, h => by
    obtain ⟨h1, h2⟩ := Bool.and_eq_true_iff.mp h
    have h1 := of_decide_eq_true h1
    obtain ⟨a, b⟩ := asc_apart h2
    refine ⟨?_, fun j hj => ?_⟩
    · show (!hasIntKey l D && keysApartInt D) = true
      rw [a, b l (Int.le_refl _)]; rfl
    · show ((l == j) || hasIntKey j D) = false
      rw [b j (by omega)]
      simp; omega
/-- the keys lie apart: where they go up, by one look at each -/
theorem apart_asc (D : List (PyData × PyData)) : keysApartInt D = (ascFrom (-1) D || keysApartInt D) := by
  cases h : ascFrom (-1) D with
  | false => rfl
  | true => exact (asc_apart h).1
noncomputable def tabIntOkA (h : Heap) (name : Str) (D : List (PyData × PyData)) : Bool :=
  match h.nsMap mainGlobals name with
  | some (.ref a) => (match h.get? a with
    | some o => (match o.cls, o.dict, o.data with
      | .type n, none, .dict es _ => (n == "dict") && (o.slots.size == 0) && entriesAreInt es.toList D && (ascFrom (-1) D || keysApartInt D) && (a != sysModules)
      | _, _, _ => false)
    | none => false)
  | _ => false
theorem tabIntOk_asc (h : Heap) (name : Str) (D : List (PyData × PyData)) : h.tabIntOk name D = tabIntOkA h name D := by
  have e := apart_asc D
  unfold Heap.tabIntOk tabIntOkA
  generalize (ascFrom (-1) D || keysApartInt D) = y at e ⊢
  rw [e]
  rfl
noncomputable def tablesOkA (p : Program) (h : Heap) : Bool := (valNames p).all fun x =>
  (match tupIntsOf p x with | some ns => h.tupIntsOk x ns | none => true) &&
  (match tupStrsOf p x with | some ss => h.tupStrsOk x ss | none => true) &&
  (match tabIntOf p x with | some D => tabIntOkA h x D | none => true)
theorem tablesOk_asc (p : Program) (h : Heap) : tablesOk p h = tablesOkA p h := by
  unfold tablesOk tablesOkA
  congr 1
  funext x
  congr 1
  cases tabIntOf p x with
  | some D => exact tabIntOk_asc _ _ _
  | none => rfl
theorem lk4 (w : World) (os : OsState) : tablesOk VW (hZ w.params) = true := by
  rw [tablesOk_asc]
  kernel_rfl

theorem lk5 (w : World) (os : OsState) : XtT (⟨hZ w.params, #[], {}, 2726, os⟩ : Shared) = true := by
  kernel_rfl

theorem lk6 (w : World) (os : OsState) : tabsOk VW (⟨hZ w.params, #[], {}, 2726, os⟩ : Shared) = true := by
  rw [Fast.te479339242167458305]
  kernel_rfl

theorem lk7 (w : World) (os : OsState) : pinSeenD VW (drecsOf VW) (⟨hZ w.params, #[], {}, 2726, os⟩ : Shared) = pinGoodD (drecsOf VW) := by
  rw [Fast.te16090120013241838585, Fast.te3247288618530077131]
  kernel_rfl

theorem lk8 (w : World) (os : OsState) : plainSeenE VW (looseW VW LS) (⟨hZ w.params, #[], {}, 2726, os⟩ : Shared) = plainGoodE VW (looseW VW LS) := by
  rw [Fast.te2386780881361962483, Fast.te821141287760084731]
  kernel_rfl

theorem lk9 (w : World) (os : OsState) : plainSeenD VW LS (⟨hZ w.params, #[], {}, 2726, os⟩ : Shared) = plainGoodD VW LS := by
  rw [Fast.te11698064438423848299]
  kernel_rfl

theorem lk10 (w : World) (os : OsState) : wideSeen VW (⟨hZ w.params, #[], {}, 2726, os⟩ : Shared) = wideGood VW := by
  rw [Fast.te7317090234206586261]
  kernel_rfl

theorem lk11 (w : World) (os : OsState) : clsSeenW VW LS (⟨hZ w.params, #[], {}, 2726, os⟩ : Shared) = clsGoodW VW LS := by
  rw [Fast.te7369524293546568484]
  kernel_rfl

theorem lk12 (w : World) (os : OsState) : staticsOk (importedModules PW.main.body) (hA w.params) (hZ w.params) = true := by
  rw [Fast.te5923862056798008813]
  kernel_rfl

theorem lk13 (w : World) (os : OsState) : namesBound PW (hZ w.params) = true := by
  kernel_rfl

theorem lk14 (w : World) (os : OsState) : laidKept (hA w.params) (hZ w.params) = true := by
  kernel_rfl

theorem lk15 (w : World) (os : OsState) : (hZ w.params).isNs mainGlobals = true := by
  kernel_rfl

theorem lk16 (w : World) (os : OsState) : (hZ w.params).isNs builtinsNs = true := by
  kernel_rfl

theorem lk17 (w : World) (os : OsState) : HK.obs (⟨hZ w.params, #[], {}, 2726, os⟩ : Shared) = HK.val w := by
  kernel_rfl

theorem looksT (w : World) : (fun os => ((staticsOk (importedModules PW.main.body) (hA w.params) (hZ w.params) && namesBound PW (hZ w.params) && gensDone (⟨hZ w.params, #[], {}, 2726, os⟩ : Shared) && laidKept (hA w.params) (hZ w.params)),
   openSeen VW LS (importedModules PW.main.body) XtT true (⟨hZ w.params, #[], {}, 2726, os⟩ : Shared), HK.obs (⟨hZ w.params, #[], {}, 2726, os⟩ : Shared))) = fun _ => (true, openGood VW LS, HK.val w) := by
  funext os
  unfold openSeen openGood
  rw [lk0 w os, lk7 w os, lk8 w os, lk9 w os, lk10 w os, lk11 w os, lk12 w os, lk13 w os, lk14 w os, lk17 w os, lk6 w os, lk5 w os, lk4 w os]
  dsimp only
  rw [lk1 w os, lk2 w os, lk3 w os, lk15 w os, lk16 w os]
  rfl
theorem leftT : LeftO PW VW LS XtT HK.obs HK.val 40000 :=
  LeftO.of_pieces (H₀ := hA) (H₁ := hZ) (gs₀ := #[]) (gs₁ := #[]) (d₀ := {}) (d₁ := {}) (k₀ := 276) (k₁ := 2726) (m₀ := 28) (ann := some (.ref 6)) (M := 12 + 15229)
    (fun w => open_cut impT (by decide) fencT w) sizT runT (by decide) looksT
end
end
section -- S1
theorem fill1 : PySem.Challenge.rw_uq0027_01 = PySem.Challenge.rw_uq0027_01 ∧ KK = KK := by
  k_fill
  exact ⟨rfl, rfl⟩
/-- table B.1 -/
noncomputable def b1List : List Int := [173, 847, 6150, 6155, 6156, 6157, 8203, 8204, 8205, 8288, 65279, 65024, 65025, 65026, 65027, 65028, 65029, 65030, 65031, 65032, 65033, 65034, 65035, 65036, 65037, 65038, 65039]
noncomputable def inB1 (c : Int) : Bool := b1List.contains c
section
variable {prog : Program} {w : World} {A : Around} {E : Value → Shared → Prop} {s : Shared} {h₀ : Heap}
theorem K_106 (P : Params) : (KK P).lookup 106 = some (o82 P) := by kernel_rfl
noncomputable def setB1 (P : Params) : List (Int × Value) := match (o82 P).data with | .set es _ _ => es.toList | _ => []
noncomputable def setT1 (P : Params) : SetTable := match (o82 P).data with | .set _ _ t => t | _ => default
noncomputable def intElem (e : Int × Value) : Bool := match e.2 with | .int k _ => e.1 == hashInt k | _ => false
theorem setB1_int (P : Params) : (setB1 P).all intElem = true := by kernel_rfl
theorem setB1_b1 (P : Params) : ((setB1 P).all fun e => match e.2 with | .int k _ => inB1 k | _ => false) = true := by kernel_rfl
theorem b1_setB1 (P : Params) : (b1List.all fun k => (setB1 P).any fun e => Value.isInt k e.2) = true := by kernel_rfl
theorem intElem_of {e : Int × Value} (h : intElem e = true) : ∃ k t, e.2 = .int k t ∧ e.1 = hashInt k := by
  obtain ⟨a, v⟩ := e
  unfold intElem at h
  cases v <;> simp at h
  exact ⟨_, _, rfl, h⟩
theorem isInt_iff {k : Int} {v : Value} : Value.isInt k v = true ↔ ∃ t, v = .int k t :=
  ⟨fun h => Value.isInt_shape h, fun ⟨t, h⟩ => by rw [h]; simp [Value.isInt]⟩
theorem set106 {h : Heap} (X : (KK w.params).In h) : h.SetOf (intKind prog w) 106 inB1 27 := by
  have ho := X _ _ (K_106 w.params)
  have hes : (o82 w.params).data = .set (setB1 w.params).toArray 29 (setT1 w.params) := by kernel_rfl
  refine ⟨_, _, _, _, ho, ⟨rfl, rfl, rfl⟩, hes, ?_, ?_, ?_, ?_, ?_⟩
  · intro e he
    obtain ⟨k, t, h1, h2⟩ := intElem_of (List.all_eq_true.mp (setB1_int w.params) e he)
    exact ⟨⟨k, isInt_iff.mpr ⟨t, h1⟩, h2⟩, by rw [h1]; rfl⟩
  · intro k
    constructor
    · intro hk
      have := List.all_eq_true.mp (b1_setB1 w.params) k (List.contains_iff_mem.mp hk)
      obtain ⟨e, he, h1⟩ := List.any_eq_true.mp this
      exact ⟨e, he, h1⟩
    · rintro ⟨e, he, h1⟩
      obtain ⟨t, h2⟩ := isInt_iff.mp h1
      have := List.all_eq_true.mp (setB1_b1 w.params) e he
      rw [h2] at this
      exact this
  · exact of_decide_eq_true (by kernel_rfl)
  · kernel_rfl
  · kernel_rfl

theorem K_117 (P : Params) : (KK P).lookup 117 = some (dO b3E.toArray 650) := by kernel_rfl
noncomputable def dictElem (e : DictEntry) : Bool := match e.key with | .int k _ => e.hash == hashInt k | _ => false
theorem b3_keys : b3E.all dictElem = true := by kernel_rfl
noncomputable def b3at (k : Int) : Option Value := findBy Value.isInt b3E.toArray k
theorem map117 {h : Heap} (X : (KK w.params).In h) : h.MapOf (intKind prog w) 117 b3at := by
  have ho := X _ _ (K_117 w.params)
  refine ⟨_, _, _, ho, ⟨rfl, rfl, rfl⟩, rfl, ?_, fun k => rfl⟩
  intro e he
  have h1 := List.all_eq_true.mp b3_keys e (by simpa using he)
  unfold dictElem at h1
  cases hk : e.key with
  | int k t =>
    rw [hk] at h1
    exact ⟨k, isInt_iff.mpr ⟨t, rfl⟩, beq_iff_eq.mp h1⟩
  | _ => rw [hk] at h1; cases h1
theorem in106 {k : Int} {t : Tok} {m : Str → Option Value} {L : Addr} {Q : Value → Shared → Prop} (F : Fr h₀ L s.heap m) (X : (KK w.params).In h₀) (h : Q (.bool (inB1 k)) { s with toks := s.toks + 1 }) : wpAny (model prog w) A (compareOp .In (.int k t) (.ref 106)) Q E s :=
  wpAny_inSet_of (knd := intKind prog w) (k := k) (intKind_is prog w k t) rfl (set106 (X.keeps F.keep)) h
theorem meth117 {m : Str → Option Value} {L : Addr} {pl : Sem Bool} {Q : Value × List Value → Shared → Prop} (F : Fr h₀ L s.heap m) (X : (KK w.params).In h₀) (h : Q (.builtin "dict.get", [.ref 117]) s) : wpAny (model prog w) A (getMethod (.ref 117) "get" pl) Q E s :=
  have hm := map117 (prog := prog) (X.keeps F.keep)
  getMethod_builtin hm.typeIs PySem.F.plainAttrs_dict PySem.F.slot_dict_get PySem.F.type_dict_get hm.noDict h
theorem get117 {k : Int} {t : Tok} {m : Str → Option Value} {L : Addr} {Q : Value → Shared → Prop} (F : Fr h₀ L s.heap m) (X : (KK w.params).In h₀) (h : Q ((b3at k).getD .none) { s with toks := s.toks + 1 }) : wpAny (model prog w) A (call (.builtin "dict.get") [.ref 117, .int k t]) Q E s :=
  have hm := map117 (prog := prog) (X.keeps F.keep)
  call_meetsIn PySem.F.slot_dict_get hm.typeIs PySem.F.entry_dict_get (PySem.F.args_dict_get_2 _ _) (meets_dict_get (intKind prog w) 117 (intKind_is prog w k t) rfl) ⟨_, hm, h⟩
end
end
local macro_rules | `(tactic| walk_at "st") => `(tactic| first | (k_unfold; (try dsimp only)) | (k_end; wrow_close) | walk1 | (dsimp only; walk1) | (leave1; try dsimp only))
section -- SBase
/-- a call's summary: what it needs of the ledger, what it gives -/
noncomputable abbrev SumT (w : World) (mean : ExcName → Option Value) (mg mb : Str → Option Value) (f : Value) (vs : List Value) (kw : List (Str × Value)) (dpn unn : Nat) (pre : List (Addr × Obj)) (Post : Value → List (Addr × Obj) → Prop) : Prop :=
  ∀ (news : List (Addr × Obj)) (dp un : Nat) (gd : Option (List Code)) (cn : Str) (cs : Scope) (a : Addr) (ccd : Value) (cl : List (Str × Addr)) (outer : List Env) (A₀ : Around) (base h₀ : Heap) (L : Addr) (m : Str → Option Value) (s : Shared) (Q E : Value → Shared → Prop),
    Below A₀ base outer h₀ → Fr h₀ L s.heap m → (KK w.params).In h₀ → News h₀ L s.heap (pre ++ news) → OwnOff news (pre.map (·.1)) → Top topProg LX mean mg mb h₀ → cs.kind = .function → dp + dpn < recursionLimit → un + unn < cLine →
    (∀ v new h' tk, Post v new → Fr h₀ L h' m → News h₀ L h' (new ++ news) → (∀ p ∈ new, p.1 ∈ pre.map (·.1) ∨ ∀ q ∈ pre ++ news, q.1 < p.1) → Q v { s with heap := h', toks := tk }) →
    wpAny (model PW w) (ktrTop dp un gd cn cs L a ccd cl outer) (call f vs kw) Q E s
/-- the same of the machine's own call -/
noncomputable abbrev SumC (w : World) (mean : ExcName → Option Value) (mg mb : Str → Option Value) (f : Value) (vs : List Value) (kw : List (Str × Value)) (dpn unn : Nat) (pre : List (Addr × Obj)) (Post : Value → List (Addr × Obj) → Prop) : Prop :=
  ∀ (news : List (Addr × Obj)) (dp un : Nat) (gd : Option (List Code)) (cn : Str) (cs : Scope) (a : Addr) (ccd : Value) (cl : List (Str × Addr)) (outer : List Env) (A₀ : Around) (base h₀ : Heap) (L : Addr) (m : Str → Option Value) (s : Shared) (Q E : Value → Shared → Prop),
    Below A₀ base outer h₀ → Fr h₀ L s.heap m → (KK w.params).In h₀ → News h₀ L s.heap (pre ++ news) → OwnOff news (pre.map (·.1)) → Top topProg LX mean mg mb h₀ → cs.kind = .function → dp + dpn < recursionLimit → un + unn < cLine →
    (∀ v new h' tk, Post v new → Fr h₀ L h' m → News h₀ L h' (new ++ news) → (∀ p ∈ new, p.1 ∈ pre.map (·.1) ∨ ∀ q ∈ pre ++ news, q.1 < p.1) → Q v { s with heap := h', toks := tk }) →
    codeAny (model PW w) (ktrTop dp un gd cn cs L a ccd cl outer) (.call f ⟨vs, kw⟩) (fun r s' => match r with | .ok (.ret v) => Q v s' | .ok _ => False | .error e => E e s') s
theorem SumC.toT {w : World} {mean : ExcName → Option Value} {mg mb : Str → Option Value} {f : Value} {vs : List Value} {kw : List (Str × Value)} {dpn unn : Nat} {pre : List (Addr × Obj)} {Post : Value → List (Addr × Obj) → Prop} (h : SumC w mean mg mb f vs kw dpn unn pre Post) : SumT w mean mg mb f vs kw dpn unn pre Post :=
  fun news dp un gd cn cs a ccd cl outer A₀ base h₀ L m s Q E B F X N o T hk hdp hun hret => wpAny_call (h news dp un gd cn cs a ccd cl outer A₀ base h₀ L m s Q E B F X N o T hk hdp hun hret)
theorem SumT.use {w : World} {mean : ExcName → Option Value} {mg mb : Str → Option Value} {f : Value} {vs : List Value} {kw : List (Str × Value)} {dpn unn : Nat} {pre : List (Addr × Obj)} {Post : Value → List (Addr × Obj) → Prop} (S : SumT w mean mg mb f vs kw dpn unn pre Post)
    {news : List (Addr × Obj)} {dp un : Nat} {gd : Option (List Code)} {cn : Str} {cs : Scope} {a : Addr} {ccd : Value} {cl : List (Str × Addr)} {outer : List Env} {A₀ AA : Around} {base h₀ : Heap} {L : Addr} {m : Str → Option Value} {s : Shared} {Q E : Value → Shared → Prop}
    (hAA : AA = ktrTop dp un gd cn cs L a ccd cl outer) (B : Below A₀ base outer h₀) (F : Fr h₀ L s.heap m) (X : (KK w.params).In h₀) (N : News h₀ L s.heap (pre ++ news)) (o : OwnOff news (pre.map (·.1))) (T : Top topProg LX mean mg mb h₀) (hk : cs.kind = .function) (hdp : dp + dpn < recursionLimit) (hun : un + unn < cLine)
    (hret : ∀ v new h' tk, Post v new → Fr h₀ L h' m → News h₀ L h' (new ++ news) → (∀ p ∈ new, p.1 ∈ pre.map (·.1) ∨ ∀ q ∈ pre ++ news, q.1 < p.1) → Q v { s with heap := h', toks := tk }) : wpAny (model PW w) AA (call f vs kw) Q E s := by
  subst hAA
  exact S news dp un gd cn cs a ccd cl outer A₀ base h₀ L m s Q E B F X N o T hk hdp hun hret
theorem off_nil {news : List (Addr × Obj)} : OwnOff news [] := fun _ _ _ h => nomatch h
end
section -- Sre1
open PySem.Sre
/-- no sign of the text is in the first set -/
theorem admitted_none (m : Sre.M) (hin : ∀ i, i < m.lim → ∀ seen, ∃ seen', inSet m.code (m.text.getD i 0) m.code.size 5 true seen = .ok (false, seen')) : ∀ fuel s seen, ∃ seen', M.admitted m fuel s seen = .ok (none, seen')
  | 0, s, seen => ⟨seen, rfl⟩
  | fuel + 1, s, seen => by
    unfold M.admitted
    split
    · exact ⟨seen, rfl⟩
    · rename_i hs
      obtain ⟨seen', h⟩ := hin s (Nat.lt_of_not_le hs) seen
      rw [h]
      exact admitted_none m hin fuel (s + 1) seen'
theorem attemptFrom_says (m : Sre.M) (s : Nat) (first : Bool) (hf : m.hasFirstSet = true) (hin : ∀ i, i < m.lim → ∀ seen, ∃ seen', inSet m.code (m.text.getD i 0) m.code.size 5 true seen = .ok (false, seen')) :
    (m.attemptFrom s first).answer = some false ∧ (m.attemptFrom s first).frames = m.frames ∧ (m.attemptFrom s first).outcome = m.outcome := by
  obtain ⟨seen', h⟩ := admitted_none m hin (m.lim + 1 - s) s m.seen
  unfold M.attemptFrom
  rw [if_neg (by simp [hf]), h]
  exact ⟨rfl, rfl, rfl⟩
/-- a search without a hit has said no -/
theorem search_says (code text : Array Nat) (groups lim : Nat) (hfirst : ((match ops[code.getD 0 0]? with | some .INFO => true | _ => false) && code.getD 2 0 == 4) = true) (hin : ∀ i, i < lim → ∀ seen, ∃ seen', inSet code (text.getD i 0) code.size 5 true seen = .ok (false, seen')) :
    (forSearch code text groups 0 lim false).answer = some false ∧ (forSearch code text groups 0 lim false).frames = [] ∧ (forSearch code text groups 0 lim false).outcome = none := by
  unfold forSearch
  dsimp only
  split
  · exact ⟨rfl, rfl, rfl⟩
  · exact attemptFrom_says _ 0 true hfirst hin
theorem step_no (m : Sre.M) (ha : m.answer = some false) (hf : m.frames = []) (ho : m.outcome = none) : m.step = { m with outcome := some .failed } := by
  unfold M.step
  rw [ho]
  simp only [Option.isSome_none, Bool.false_eq_true, if_false, ha, hf]
theorem run_no (m : Sre.M) (ha : m.answer = some false) (hf : m.frames = []) (ho : m.outcome = none) : m.runFor 4 = { m with outcome := some .failed } := by
  show (if m.outcome.isSome then m else M.runFor 3 m.step) = _
  rw [step_no m ha hf ho, ho]
  rfl
section
variable {M : Model} {A : Around} {E : Value → Shared → Prop} {s : Shared}
theorem drive_no (m : Sre.M) (ha : m.answer = some false) (hf : m.frames = []) (ho : m.outcome = none) (k : Nat) {Q : Sre.M → Shared → Prop} (h : Q { m with outcome := some .failed } s) : wpAny M A (Builtin.Re.reDrive (k + 1) m) Q E s := by
  unfold Builtin.Re.reDrive
  dsimp only [Builtin.Re.reTurnSteps]
  rw [run_no m ha hf ho]
  exact wpAny_pure h
theorem run_end_no (m : Sre.M) (ha : m.answer = some false) (hf : m.frames = []) (ho : m.outcome = none) {Q : Option Sre.M → Shared → Prop} (h : Q none s) : wpAny M A (Builtin.Re.reRunToEnd m) Q E s := by
  unfold Builtin.Re.reRunToEnd
  refine wpAny_bind ?_
  refine drive_no m ha hf ho (2 ^ 64 - 1) ?_
  refine wpAny_bind (wpAny_forIn_list _ (fun _ _ s' => s' = s) _ (fun x rest b s' hs => ?_) (fun b s' hs => ?_) _ _ rfl)
  · subst hs
    split
    · exact wpAny_bind (wpAny_rule (wpAny_pure rfl))
    · exact wpAny_pure rfl
  · subst hs
    exact wpAny_pure h
end
open Builtin Builtin.Re
theorem slot_re_search : Slot "re.Pattern" "search" "re.Pattern.search" :=
  .of (owner := "re.Pattern") (n := "search") (by rw [typeLookup_type, builtinLookup_eq_fast]; kernel_rfl) (by decide +kernel) (by decide +kernel) (by decide +kernel)
    (by first | exact .inl (by decide +kernel) | exact .inr (by decide +kernel)) (by rw [isSubtype_type]; kernel_rfl)
theorem entry_re_search : entryFor table "re.Pattern.search" = some Builtin.«re.Pattern.search» := entryFor_of_tree (by kernel_rfl)
theorem args_re_search (a b : Value) : argsOk "re.Pattern.search" ⟨[a, b], []⟩ := by unfold argsOk; kernel_rfl
theorem named_one (v : Value) : reNamed "re.Pattern.search" "search" ["string", "pos", "endpos"] 1 [v] [] = pure [some v, none, none] := by kernel_rfl
section
variable {prog : Program} {w : World} {A : Around} {E : Value → Shared → Prop} {s : Shared}
theorem search_none {a c : Addr} {o oc : Obj} {fs items : Array Value} {n : Nat} {x : Str} {t : Tok} {Q : Value → Shared → Prop} (ho : s.heap.get? a = some o) (hcls : o.cls = .type "re.Pattern") (hd : o.data = .fields fs) (h5 : fs.getD 5 .none = .ref c) (h6 : reRawNat (fs.getD 6 .none) = 0)
    (hc : s.heap.get? c = some oc) (hcd : oc.data = .seq items n)
    (hfirst : ((match Sre.ops[((items.map reRawOf).map (·.toNat)).getD 0 0]? with | some Sre.Op.INFO => true | _ => false) && ((items.map reRawOf).map (·.toNat)).getD 2 0 == 4) = true)
    (hin : ∀ i, i < x.cps.size → ∀ seen, ∃ seen', Sre.inSet ((items.map reRawOf).map (·.toNat)) (x.cps.getD i 0) ((items.map reRawOf).map (·.toNat)).size 5 true seen = .ok (false, seen'))
    (h : Q .none s) : wpAny (model prog w) A (call (.builtin "re.Pattern.search") [.ref a, .str x t]) Q E s := by
  have hT : s.TypeIs (.ref a) "re.Pattern" := ⟨_, ho, hcls⟩
  refine wpAny_call_entry slot_re_search hT entry_re_search ?_ (args_re_search _ _)
  unfold Builtin.«re.Pattern.search»
  refine wpAny_bind ?_
  unfold reTarget
  dsimp only
  rw [named_one]
  refine wpAny_bind (wpAny_pure ?_)
  dsimp only
  refine wpAny_bind (wpAny_pure ?_)
  refine wpAny_bind (wpAny_pure ?_)
  refine wpAny_bind (wpAny_fieldsOf ho hd ?_)
  refine wpAny_bind (m := reTextOf (.str x t)) ?_
  show wpAny _ _ (pure (x.cps, 0)) _ _ _
  refine wpAny_pure ?_
  dsimp only
  rw [h6]
  show wpAny _ _ (reNoCollectionInside (.str x t) 0 >>= _) _ _ _
  refine wpAny_bind ?_
  show wpAny _ _ (pure ()) _ _ _
  refine wpAny_pure ?_
  rw [h5]
  refine wpAny_bind (m := reRawItems (.ref c)) ?_
  unfold reRawItems
  refine wpAny_bind (wpAny_seqItems hc hcd (wpAny_pure ?_))
  refine wpAny_pure ?_
  unfold reAnswer
  dsimp only [Option.getD]
  obtain ⟨ha, hf, hoo⟩ := search_says ((items.map reRawOf).map (·.toNat)) x.cps (reRawNat (fs.getD 2 .none)) (min (Int.toNat (2 ^ 63 - 1)) x.cps.size) hfirst (fun i hi => hin i (Nat.lt_of_lt_of_le hi (Nat.min_le_right _ _)))
  refine wpAny_bind (run_end_no _ ?_ ?_ ?_ (wpAny_pure ⟨_, rfl, h⟩))
  · exact ha
  · exact hf
  · exact hoo
end
end
section -- Sre2
open Builtin Builtin.Re
/-- a sign that a header may hold -/
noncomputable def okC (c : Nat) : Bool := decide (32 ≤ c) && c != 127
noncomputable def fs172 (P : Params) : Array Value := match (KK P).lookup 172 with | some o => (match o.data with | .fields v => v | _ => #[]) | none => #[]
noncomputable def fs177 (P : Params) : Array Value := match (KK P).lookup 177 with | some o => (match o.data with | .fields v => v | _ => #[]) | none => #[]
theorem K_172 (P : Params) : ∃ o c oc items n, (KK P).lookup 172 = some o ∧ o.cls = .type "re.Pattern" ∧ o.data = .fields (fs172 P) ∧ (fs172 P).getD 5 .none = .ref c ∧ reRawNat ((fs172 P).getD 6 .none) = 0 ∧ (KK P).lookup c = some oc ∧ oc.data = .seq items n ∧ (items.map reRawOf).map (·.toNat) = #[14, 10, 4, 1, 1, 22, 0, 31, 16, 127, 0, 13, 7, 22, 0, 31, 16, 127, 0, 1] :=
  ⟨_, _, _, _, _, rfl, rfl, rfl, rfl, rfl, rfl, rfl, by kernel_rfl⟩
theorem K_177 (P : Params) : ∃ o c oc items n, (KK P).lookup 177 = some o ∧ o.cls = .type "re.Pattern" ∧ o.data = .fields (fs177 P) ∧ (fs177 P).getD 5 .none = .ref c ∧ reRawNat ((fs177 P).getD 6 .none) = 0 ∧ (KK P).lookup c = some oc ∧ oc.data = .seq items n ∧ (items.map reRawOf).map (·.toNat) = #[14, 14, 4, 1, 1, 9, 4294966783, 0, 0, 2147483648, 0, 0, 0, 0, 0, 13, 11, 9, 4294966783, 0, 0, 2147483648, 0, 0, 0, 0, 0, 1] :=
  ⟨_, _, _, _, _, rfl, rfl, rfl, rfl, rfl, rfl, rfl, by kernel_rfl⟩
noncomputable abbrev code172 : Array Nat := #[14, 10, 4, 1, 1, 22, 0, 31, 16, 127, 0, 13, 7, 22, 0, 31, 16, 127, 0, 1]
noncomputable abbrev code177 : Array Nat := #[14, 14, 4, 1, 1, 9, 4294966783, 0, 0, 2147483648, 0, 0, 0, 0, 0, 13, 11, 9, 4294966783, 0, 0, 2147483648, 0, 0, 0, 0, 0, 1]
theorem okC_iff {c : Nat} : okC c = true ↔ 32 ≤ c ∧ c ≠ 127 := by simp [okC]
theorem in172 {c : Nat} (h : okC c = true) (seen : Sre.Seen) : ∃ seen', Sre.inSet code172 c code172.size 5 true seen = .ok (false, seen') := by
  obtain ⟨h1, h2⟩ := okC_iff.mp h
  have e1 : (decide (0 ≤ c) && decide (c ≤ 31)) = false := by simp; omega
  have e2 : (c == 127) = false := by simpa using h2
  refine ⟨((seen.add 22).add 16).add 0, ?_⟩
  show (if (decide (0 ≤ c) && decide (c ≤ 31)) = true then Except.ok (true, seen.add 22) else if (c == 127) = true then Except.ok (true, (seen.add 22).add 16) else Except.ok (!true, ((seen.add 22).add 16).add 0)) = _
  rw [e1, e2]
  rfl
theorem bits177 : ∀ c : Fin 256, okC c.val = true → (code177.getD (5 + (1 + c.val / 32)) 0).testBit (c.val % 32) = false := by decide +kernel
theorem in177 {c : Nat} (h : okC c = true) (seen : Sre.Seen) : ∃ seen', Sre.inSet code177 c code177.size 5 true seen = .ok (false, seen') := by
  have e1 : (decide (c < 256) && (code177.getD (5 + (1 + c / 32)) 0).testBit (c % 32)) = false := by
    by_cases hc : c < 256
    · rw [bits177 ⟨c, hc⟩ h]; simp
    · simp [hc]
  refine ⟨(seen.add 9).add 0, ?_⟩
  show (if (decide (c < 256) && (code177.getD (5 + (1 + c / 32)) 0).testBit (c % 32)) = true then Except.ok (true, seen.add 9) else Except.ok (!true, (seen.add 9).add 0)) = _
  rw [e1]
  rfl
section
variable {w : World} {A : Around} {E : Value → Shared → Prop} {s : Shared} {h₀ : Heap} {L : Addr} {m : Str → Option Value} {x : Str} {t : Tok} {Q : Value → Shared → Prop}
theorem all_at (hx : x.cps.toList.all okC = true) {i : Nat} (hi : i < x.cps.size) : okC (x.cps.getD i 0) = true := by
  have := List.all_eq_true.mp hx (x.cps[i]) (by simp)
  simpa [Array.getD, hi] using this
theorem search172 (X : (KK w.params).In h₀) (F : Fr h₀ L s.heap m) (hx : x.cps.toList.all okC = true) (h : Q .none s) : wpAny (model PW w) A (call (.builtin "re.Pattern.search") [.ref 172, .str x t]) Q E s := by
  obtain ⟨o, c, oc, items, n, ho, hcls, hd, h5, h6, hc, hcd, hcode⟩ := K_172 w.params
  refine search_none (F.keep _ _ (X _ _ ho)) hcls hd h5 h6 (F.keep _ _ (X _ _ hc)) hcd (by rw [hcode]; rfl) (fun i hi seen => ?_) h
  rw [hcode]
  exact in172 (all_at hx hi) seen
theorem search177 (X : (KK w.params).In h₀) (F : Fr h₀ L s.heap m) (hx : x.cps.toList.all okC = true) (h : Q .none s) : wpAny (model PW w) A (call (.builtin "re.Pattern.search") [.ref 177, .str x t]) Q E s := by
  obtain ⟨o, c, oc, items, n, ho, hcls, hd, h5, h6, hc, hcd, hcode⟩ := K_177 w.params
  refine search_none (F.keep _ _ (X _ _ ho)) hcls hd h5 h6 (F.keep _ _ (X _ _ hc)) hcd (by rw [hcode]; rfl) (fun i hi seen => ?_) h
  rw [hcode]
  exact in177 (all_at hx hi) seen
end
theorem plainAttrs_re : PlainAttrs "re.Pattern" :=
  ⟨⟨"object.__getattribute__", by rw [typeLookup_type, builtinLookup_eq_fast]; kernel_rfl, by decide +kernel⟩, by rw [typeLookup_type, builtinLookup_eq_fast]; kernel_rfl⟩
theorem type_re_search : typeOf (.builtin "re.Pattern.search") = pure (.type "method_descriptor") := by show builtinType _ = _; rw [builtinType_eq_fast]; kernel_rfl
section
variable {w : World} {A : Around} {E : Value → Shared → Prop} {s : Shared} {h₀ : Heap} {L : Addr} {m : Str → Option Value} {pl : Sem Bool} {Q : Value × List Value → Shared → Prop}
theorem K_172d (P : Params) : ∃ o, (KK P).lookup 172 = some o ∧ o.cls = .type "re.Pattern" ∧ o.dict = none := ⟨_, rfl, rfl, rfl⟩
theorem K_177d (P : Params) : ∃ o, (KK P).lookup 177 = some o ∧ o.cls = .type "re.Pattern" ∧ o.dict = none := ⟨_, rfl, rfl, rfl⟩
theorem meth172 (X : (KK w.params).In h₀) (F : Fr h₀ L s.heap m) (h : Q (.builtin "re.Pattern.search", [.ref 172]) s) : wpAny (model PW w) A (getMethod (.ref 172) "search" pl) Q E s := by
  obtain ⟨o, ho, hc, hd⟩ := K_172d w.params
  exact getMethod_builtin ⟨o, F.keep _ _ (X _ _ ho), hc⟩ plainAttrs_re slot_re_search type_re_search (fun a e => by cases e; exact ⟨o, F.keep _ _ (X _ _ ho), hd⟩) h
theorem meth177 (X : (KK w.params).In h₀) (F : Fr h₀ L s.heap m) (h : Q (.builtin "re.Pattern.search", [.ref 177]) s) : wpAny (model PW w) A (getMethod (.ref 177) "search" pl) Q E s := by
  obtain ⟨o, ho, hc, hd⟩ := K_177d w.params
  exact getMethod_builtin ⟨o, F.keep _ _ (X _ _ ho), hc⟩ plainAttrs_re slot_re_search type_re_search (fun a e => by cases e; exact ⟨o, F.keep _ _ (X _ _ ho), hd⟩) h
end
end
section -- S11
theorem fill11 : PySem.Challenge.rw_uq0027_01 = PySem.Challenge.rw_uq0027_01 ∧ KK = KK := by
  k_fill
  exact ⟨rfl, rfl⟩
variable {w : World} {mean : ExcName → Option Value} {mg mb : Str → Option Value}
local macro_rules | `(tactic| walk_at "getMethod ref") => `(tactic| (k_here; k_dflt (first | (refine' meth172 ?jX ?jF ?_; (case jX => k_asm); (case jF => k_asm)) | (refine' meth177 ?jX ?jF ?_; (case jX => k_asm); (case jF => k_asm)))))
set_option maxHeartbeats 4000000 in
theorem sum_conv (hx : Value) (x : Str) (t : Tok) (b : Bool) (hok : x.cps.toList.all okC = true) : SumT w mean mg mb (.ref 207) [hx, .str x t] [(Str.ofString "name", .bool b)] 1 8 [] (fun v new => v = .str x t ∧ new = []) := by
  intro news dp un gd cn cs a ccd cl outer A₀ base h₀ L m s Q E B F X N hoff T hk hdp hun hret
  simp only [List.nil_append] at N
  refine wpAny_call ?_
  k_dflt cell_enter
  (repeat' (first | with_reducible ((show wpAny _ _ (call (Value.builtin "re.Pattern.search") _) _ _ _); (k_dflt (first | (refine' search172 ?zzjX ?zzjF ?zzjh ?_; (case zzjX => k_asm); (case zzjF => k_asm); (case zzjh => assumption)) | (refine' search177 ?zzjX ?zzjF ?zzjh ?_; (case zzjX => k_asm); (case zzjF => k_asm); (case zzjh => assumption))))) | walk_at "st"))
  all_goals exact hret _ [] _ _ ⟨rfl, rfl⟩ (by k_asm) (by k_asm) (fun _ h => nomatch h)
end
section -- CompRule
section
variable {prog : Program} {w : World} {A : Around} {E : Value → Shared → Prop} {env : Env} {h₀ : Heap} {L : Addr} {m : Str → Option Value}
/-- the turn's world: the frame, what the loop owns (abstract), what has grown, what stood; the block's names by the owned part -/
structure CT (h₀ : Heap) (L : Addr) (m : Str → Option Value) (news : List (Addr × Obj)) (C : Addr) (mC : Str → Option Value) (own ex : List (Addr × Obj)) (s : Shared) : Prop where
  F : Fr h₀ L s.heap m
  N : News h₀ L s.heap (own ++ (ex ++ news))
  ns : ∀ h : Heap, News h₀ L h (own ++ (ex ++ news)) → h.Ns C mC
  off : ∀ p ∈ own, p.1 ≤ C
  has : ∃ o, (C, o) ∈ own
theorem ns_lt {h : Heap} {C : Addr} {mC : Str → Option Value} (x : h.Ns C mC) : C < h.objs.size := let ⟨_, _, _, e, _⟩ := x; Heap.lt_size e
theorem nsub {h : Heap} {a b : List (Addr × Obj)} (N : News h₀ L h a) (s : ∀ p ∈ b, p ∈ a) : News h₀ L h b := fun p hp => N p (s p hp)
theorem comp_loop {R : Result → Shared → Prop} {elt iter : Expr} {x : Str} {px : Pos} {ifs : List Expr} {scope : Scope} {pos : Pos} {I D : Addr} {fp wr : List Addr} {n : Nat} {P : Nat → Value → Prop} {St : Nat → Heap → Prop}
    {cenv : Env} {m₀ : Str → Option Value} {news : List (Addr × Obj)} {s : Shared} (W : Walks prog w A I fp wr n P St)
    (hx : cenv.kindOf x = some .local) (hp : (cenv.scope.kind == .class || (cenv.scope.kind == .module && cenv.locals != cenv.globals)) = false)
    (hCL : cenv.locals ≠ L) (hDL : D ≠ L) (hDf : D ∉ fp) (hfp : ∀ b ∈ fp, b < cenv.locals) (hLf : L ∉ fp) (hwr : ∀ b ∈ wr, h₀.get? b = none) (hD0 : h₀.get? D = none) (hC0 : h₀.get? cenv.locals = none)
    (hnw : ∀ p ∈ news, (h₀.get? p.1 = none → p.1 ∉ wr) ∧ p.1 < D) (hDlo : D < cenv.locals)
    (hst : St 0 s.heap) (hacc : s.heap.PlainList D #[]) (hn : s.heap.Ns cenv.locals m₀) (F : Fr h₀ L s.heap m) (N : News h₀ L s.heap news)
    (Inv : Nat → List Value → List (Addr × Obj) → Prop) (h0 : Inv 0 [] []) (hsz : ∀ i ys ex, i ≤ n → Inv i ys ex → ys.length ≤ sizeLine)
    (turn : ∀ i v ys ex s' own mC, i < n → P i v → Inv i ys ex → mC x = some v → CT h₀ L m news cenv.locals mC own ex s' →
      wpAny (model prog w) A (forIn ifs true fun c r => if r = true then do let ok ← isTrue c cenv (eval c cenv); pure (ForInStep.yield ok) else pure (ForInStep.yield r))
        (fun ok s₃ => (∃ h₃ tk₃, s₃ = { s' with heap := h₃, toks := tk₃ }) ∧ CT h₀ L m news cenv.locals mC own ex s₃ ∧
          if ok = true then wpAny (model prog w) A (eval elt cenv) (fun y s₄ => ∃ h₄ tk₄ g, s₄ = { s₃ with heap := h₄, toks := tk₄ } ∧ Fr h₀ L h₄ m ∧ News h₀ L h₄ (g ++ (own ++ (ex ++ news))) ∧ (∀ p ∈ g, cenv.locals < p.1) ∧ Inv (i + 1) (ys ++ [y]) (g ++ ex))
              (notedBy (model prog w) A cenv fun e s' => R (.error e) s') s₃
          else Inv (i + 1) ys ex) (notedBy (model prog w) A cenv fun e s' => R (.error e) s') s')
    (hR : ∀ h' tk m' ys ex ep, Inv n ys ex → h'.Ns cenv.locals m' → Fr h₀ L h' m → News h₀ L h' ((D, listOf ys.toArray ep) :: (ex ++ news)) → (∀ p ∈ ex, cenv.locals < p.1) → R (.ok .next) { s with heap := h', toks := tk }) :
    codeAny (model prog w) A (.compLoop (.ListComp elt [⟨.Name x px, iter, ifs, 0⟩] scope pos) 0 (.ref I) (.ref D) cenv) R s := by
  have hLw : L ∉ wr := fun h => hLf (W.sub _ h)
  have hDw : D ∉ wr := fun h => hDf (W.sub _ h)
  have hCf : cenv.locals ∉ fp := fun h => absurd (hfp _ h) (Nat.lt_irrefl _)
  have hCw : cenv.locals ∉ wr := fun h => hCf (W.sub _ h)
  have hDC : D ≠ cenv.locals := Nat.ne_of_lt hDlo
  have old : ∀ b o, h₀.get? b = some o → b ∉ wr := fun b o e hb => by rw [hwr b hb] at e; cases e
  refine codeAny_compLoop_tests
    (fun k s' => ∃ h' tk m' ys ex i ep, s' = { s with heap := h', toks := tk } ∧ St i h' ∧ Fr h₀ L h' m ∧ News h₀ L h' (ex ++ news) ∧ (∀ p ∈ ex, cenv.locals < p.1) ∧ h'.get? D = some (listOf ys.toArray ep) ∧ h'.Ns cenv.locals m' ∧ Inv i ys ex ∧ i ≤ n ∧ k = n + 1 - i) ?_ (n + 1) ?_
  · rintro k s' ⟨h', tk, m', ys, ex, i, ep, rfl, hst', F', N', hex, hD', hn', hI, hi, rfl⟩
    have hexw : ∀ p ∈ ex ++ news, p.1 ∉ wr := fun p hp => (List.mem_append.mp hp).elim (fun h hb => absurd (hfp _ (W.sub _ hb)) (Nat.not_lt.mpr (Nat.le_of_lt (hex p h)))) fun h => (hnw p h).1 (N p h).2.2
    have next : ∀ h₁ : Heap, (∀ b o, b ∉ wr → h'.get? b = some o → h₁.get? b = some o) → Fr h₀ L h₁ m ∧ News h₀ L h₁ (ex ++ news) := fun h₁ hk₁ =>
      ⟨⟨F'.ns.at' fun o e => hk₁ _ o hLw e, fun b o e => hk₁ b o (old b o e) (F'.keep b o e), F'.above⟩, fun p hp => ⟨hk₁ _ _ (hexw p hp) (N' p hp).1, (N' p hp).2⟩⟩
    by_cases hlt : i < n
    · refine W.item i _ _ _ hlt hst' fun v h₁ tk₁ hP hst₁ hk₁ => ?_
      obtain ⟨F₁, N₁⟩ := next h₁ hk₁
      refine wpAny_assign_Name (wpAny_storeName_local hx (hn'.at' fun o e => hk₁ _ o hCw e) (fun h₂ hn₂ hs₂ => ?_) hp)
      obtain ⟨oC, eC⟩ : ∃ oC, h₂.get? cenv.locals = some oC := let ⟨o, _, _, e, _⟩ := hn₂; ⟨o, e⟩
      have hst₂ : St (i + 1) h₂ := W.frame _ _ _ hst₁ fun b hb o e => (hs₂.2 b fun q => hCf (q ▸ hb)).trans e
      have hD₂ : h₂.get? D = some (listOf ys.toArray ep) := (hs₂.2 D hDC).trans (hk₁ _ _ hDw hD')
      have F₂ : Fr h₀ L h₂ m := ⟨F₁.ns.at' fun o e => (hs₂.2 L (Ne.symm hCL)).trans e, fun b o e => (hs₂.2 b fun q => by rw [q, hC0] at e; cases e).trans (F₁.keep b o e), F₁.above⟩
      have N₂ : News h₀ L h₂ (ex ++ news) := fun p hp => ⟨(hs₂.2 p.1 (by
        rcases List.mem_append.mp hp with h | h
        · exact Nat.ne_of_gt (hex p h)
        · exact Nat.ne_of_lt (Nat.lt_trans (hnw p h).2 hDlo))).trans (N₁ p hp).1, (N₁ p hp).2⟩
      have Nown : News h₀ L h₂ (ownOf h₀ fp h₂ ++ [(D, listOf ys.toArray ep), (cenv.locals, oC)]) := fun p hp => by
        rcases List.mem_append.mp hp with h | h
        · exact news_ownOf hLf p h
        · rcases List.mem_cons.mp h with rfl | h
          · exact ⟨hD₂, hDL, hD0⟩
          · rw [List.mem_singleton.mp h]; exact ⟨eC, hCL, hC0⟩
      have ct : CT h₀ L m news cenv.locals (fun y => if y = x then some v else m' y) (ownOf h₀ fp h₂ ++ [(D, listOf ys.toArray ep), (cenv.locals, oC)]) ex { s with heap := h₂, toks := tk₁ + 1 } := by
        refine ⟨F₂, fun p hp => (List.mem_append.mp hp).elim (Nown p) (N₂ p), fun h N => ?_, fun p hp => ?_, ⟨oC, by simp⟩⟩
        · refine hn₂.at' fun o e => ?_
          rw [eC] at e
          cases e
          exact (N (cenv.locals, oC) (by simp)).1
        · rcases List.mem_append.mp hp with h | h
          · exact Nat.le_of_lt (hfp _ (ownOf_sub p h))
          · rcases List.mem_cons.mp h with rfl | h
            · exact Nat.le_of_lt hDlo
            · rw [List.mem_singleton.mp h]; exact Nat.le_refl _
      refine wpAny_mono (turn i v ys ex _ _ _ hlt hP hI (by simp) ct) (fun ok s₃ h₃ => ?_) fun _ _ e => e
      obtain ⟨⟨h₃', tk₃, rfl⟩, ct₃, h₃⟩ := h₃
      have stNext : ∀ h : Heap, Fr h₀ L h m → News h₀ L h (ownOf h₀ fp h₂ ++ [(D, listOf ys.toArray ep), (cenv.locals, oC)]) → St (i + 1) h := fun h Fh Nh => by
        refine W.frame _ _ _ hst₂ fun b hb o e => ?_
        cases hb0 : h₀.get? b with
        | some o₀ =>
          have : o₀ = o := by have := F₂.keep b o₀ hb0; rw [e] at this; exact (Option.some.inj this).symm
          exact this ▸ Fh.keep b o₀ hb0
        | none => exact (Nh _ (List.mem_append_left _ (mem_ownOf hb hb0 e))).1
      cases ok with
      | false =>
        simp only [Bool.false_eq_true, if_false] at h₃ ⊢
        exact ⟨n + 1 - (i + 1), by omega, h₃', tk₃, _, ys, ex, i + 1, ep, rfl, stNext _ ct₃.F (nsub ct₃.N fun p hp => List.mem_append_left _ hp), ct₃.F, nsub ct₃.N fun p hp => List.mem_append_right _ hp, hex,
          (ct₃.N (D, listOf ys.toArray ep) (by simp)).1, ct₃.ns _ ct₃.N, h₃, hlt, rfl⟩
      | true =>
        simp only [if_true] at h₃ ⊢
        refine wpAny_mono h₃ (fun y s₄ h₄ => ?_) fun _ _ e => e
        obtain ⟨h₄', tk₄, g, rfl, F₄, N₄, hg, hI'⟩ := h₄
        have N₄' := nsub (b := ownOf h₀ fp h₂ ++ [(D, listOf ys.toArray ep), (cenv.locals, oC)] ++ (ex ++ news)) N₄ fun p hp => List.mem_append_right _ hp
        have hys : ys.toArray.size ≤ sizeLine := by rw [List.size_toArray]; exact hsz i ys ex (Nat.le_of_lt hlt) hI
        refine wpAny_list_append_plain (hsz := hys) ⟨ep, (N₄' (D, listOf ys.toArray ep) (by simp)).1⟩ fun h₅ hl₅ hs₅ => ?_
        obtain ⟨ep', hl₅⟩ := hl₅
        have F₅ : Fr h₀ L h₅ m := ⟨F₄.ns.at' fun o e => (hs₅.2 L (Ne.symm hDL)).trans e, fun b o e => (hs₅.2 b fun q => by rw [q, hD0] at e; cases e).trans (F₄.keep b o e), F₄.above⟩
        have other : ∀ b, b ≠ D → h₅.get? b = h₄'.get? b := hs₅.2
        refine ⟨n + 1 - (i + 1), by omega, h₅, tk₄, (fun y => if y = x then some v else m' y), ys ++ [y], g ++ ex, i + 1, ep', rfl, ?_, F₅, ?_, ?_, ?_, ?_, hI', hlt, rfl⟩
        · refine W.frame _ _ _ (stNext _ F₄ (nsub N₄' fun p hp => List.mem_append_left _ hp)) fun b hb o e => (other b fun q => hDf (q ▸ hb)).trans e
        · intro p hp
          have hm : p ∈ g ++ (ownOf h₀ fp h₂ ++ [(D, listOf ys.toArray ep), (cenv.locals, oC)] ++ (ex ++ news)) := by
            simp only [List.mem_append] at hp ⊢
            rcases hp with (h | h) | h
            · exact .inl h
            · exact .inr (.inr (.inl h))
            · exact .inr (.inr (.inr h))
          refine ⟨(other p.1 ?_).trans (N₄ p hm).1, (N₄ p hm).2⟩
          simp only [List.mem_append] at hp
          rcases hp with (h | h) | h
          · exact Nat.ne_of_gt (Nat.lt_trans hDlo (hg p h))
          · exact Nat.ne_of_gt (Nat.lt_trans hDlo (hex p h))
          · exact Nat.ne_of_lt (hnw p h).2
        · intro p hp
          exact (List.mem_append.mp hp).elim (hg p) (hex p)
        · rw [hl₅]; simp
        · exact (ct₃.ns h₄' N₄').at' fun o e => (other _ (Ne.symm hDC)).trans e
    · have hin : i = n := by omega
      subst hin
      refine W.done _ _ _ hst' fun h₁ tk₁ hk₁ => ?_
      obtain ⟨F₁, N₁⟩ := next h₁ hk₁
      refine hR h₁ tk₁ m' ys ex ep hI (hn'.at' fun o e => hk₁ _ o hCw e) F₁ (fun p hp => ?_) hex
      rcases List.mem_cons.mp hp with rfl | hp
      · exact ⟨hk₁ _ _ hDw hD', hDL, hD0⟩
      · exact N₁ p hp
  · obtain ⟨ep, hD⟩ := hacc
    exact ⟨s.heap, s.toks, m₀, [], [], 0, ep, rfl, hst, F, N, (fun _ h => nomatch h), hD, hn, h0, Nat.zero_le _, rfl⟩

/-- a comprehension over a walk: what stood stays, the answer is a new list; what the elements have made stands behind it -/
theorem comp_eval {Q : Value → Shared → Prop} {elt iter : Expr} {x : Str} {px : Pos} {ifs : List Expr} {scope : Scope} {pos : Pos} {s : Shared}
    (hfree : ∀ y ∈ scope.names, y.2 ≠ .free) (hcell : ∀ y ∈ scope.names, y.2 ≠ .cell) (hkind : scope.kind = .function)
    (hnames : ∀ y ∈ scope.names, y.2 = .local → scope.names.lookup y.1 = some .local) (hx : scope.names.lookup x = some .local)
    (h : wpAny (model prog w) A (eval iter env) (fun xv s₁ => wpAny (model prog w) A (pyIter xv) (fun it s₂ => ∃ I fp wr n P St news, it = .ref I ∧ Walks prog w A I fp wr n P St ∧ St 0 s₂.heap ∧
      (∀ b ∈ fp, b < s₂.heap.objs.size) ∧ L ∉ fp ∧ (∀ b ∈ wr, h₀.get? b = none) ∧ (∀ p ∈ news, p.1 ∉ wr) ∧ Fr h₀ L s₂.heap m ∧ News h₀ L s₂.heap news ∧
      ∃ Inv : Nat → List Value → List (Addr × Obj) → Prop, Inv 0 [] [] ∧ (∀ i ys ex, i ≤ n → Inv i ys ex → ys.length ≤ sizeLine) ∧
      (∀ C i v ys ex s' own mC E', s₂.heap.objs.size < C → i < n → P i v → Inv i ys ex → mC x = some v → CT h₀ L m news C mC own ex s' →
        wpAny (model prog w) A (forIn ifs true fun c r => if r = true then do let ok ← isTrue c (compEnv scope C env) (eval c (compEnv scope C env)); pure (ForInStep.yield ok) else pure (ForInStep.yield r))
          (fun ok s₃ => (∃ h₃ tk₃, s₃ = { s' with heap := h₃, toks := tk₃ }) ∧ CT h₀ L m news C mC own ex s₃ ∧
            if ok = true then wpAny (model prog w) A (eval elt (compEnv scope C env)) (fun y s₄ => ∃ h₄ tk₄ g, s₄ = { s₃ with heap := h₄, toks := tk₄ } ∧ Fr h₀ L h₄ m ∧ News h₀ L h₄ (g ++ (own ++ (ex ++ news))) ∧ (∀ p ∈ g, C < p.1) ∧ Inv (i + 1) (ys ++ [y]) (g ++ ex))
                E' s₃
            else Inv (i + 1) ys ex) E' s') ∧
      (∀ D h' tk ys ex ep, Inv n ys ex → (∀ p ∈ news, p.1 < D) → (∀ p ∈ ex, D < p.1) → Fr h₀ L h' m → News h₀ L h' ((D, listOf ys.toArray ep) :: (ex ++ news)) → Q (.ref D) { s₂ with heap := h', toks := tk })) E s₁) E s)
    (hs : ∀ x, foldedSetIterable iter env x = pure x := by intro _; rfl) :
    wpAny (model prog w) A (eval (.ListComp elt [⟨.Name x px, iter, ifs, 0⟩] scope pos) env) Q E s := by
  refine wpAny_ListComp hfree hkind hnames (wpAny_mono h (fun xv s₁ h₁ => wpAny_mono h₁ (fun it s₂ h₂ => ?_) fun _ _ e => e) fun _ _ e => e) hs
  obtain ⟨I, fp, wr, n, P, St, news, rfl, W, hst, hfp, hLf, hwr, hnw, F, N, Inv, h0, hsz, turn, hQ⟩ := h₂
  refine wpAny_newObj_type (wpAny_newFunctionEnv hcell (by intro y hy; simp at hy) (fun h₁ hns₁ hsb₁ => ?_) hkind)
  dsimp only at hns₁ hsb₁ ⊢
  generalize hH2 : s₂.heap.push { cls := .type "list", dict := none, data := .seq ([] : List Value).toArray } = H2 at hns₁ hsb₁ ⊢
  have hC : H2.objs.size = s₂.heap.objs.size + 1 := by rw [← hH2, Heap.size_push]
  have hDC : s₂.heap.objs.size < H2.objs.size := by rw [hC]; exact Nat.lt_succ_self _
  have old : ∀ b o, s₂.heap.get? b = some o → h₁.get? b = some o := fun b o e => hsb₁.extBut b o (Nat.ne_of_lt (Nat.lt_trans (Heap.lt_size e) hDC)) (Heap.get?_push_of_some _ (hH2 ▸ Heap.get?_push_of_some _ e))
  have hacc : h₁.PlainList s₂.heap.objs.size #[] := ⟨_, hsb₁.extBut _ _ (Nat.ne_of_lt hDC) (Heap.get?_push_of_some _ (hH2 ▸ Heap.get?_push_size _ rfl))⟩
  have hst₁ : St 0 h₁ := W.frame _ _ _ hst fun b _ o e => old b o e
  have fresh : ∀ a, s₂.heap.objs.size ≤ a → h₀.get? a = none := fun a ha => by
    cases e : h₀.get? a with
    | none => rfl
    | some o' => exact absurd (Heap.lt_size (F.keep a o' e)) (Nat.not_lt.mpr ha)
  have F₁ : Fr h₀ L h₁ m := F.keeps old
  have N₁ : News h₀ L h₁ news := fun p hp => ⟨old _ _ (N p hp).1, (N p hp).2⟩
  have hL : L < s₂.heap.objs.size := ns_lt F.ns
  have key : ∀ s₃ : Shared, s₃ = { s₂ with heap := h₁, toks := s₂.toks + ([] : List (Str × Value)).length } →
      codeAny (model prog w) A (.compLoop (.ListComp elt [⟨.Name x px, iter, ifs, 0⟩] scope pos) 0 (.ref I) (.ref s₂.heap.objs.size) (compEnv scope H2.objs.size env))
        (fun r s' => ∃ m, s'.heap.Ns H2.objs.size m ∧ ∀ h', Heap.SameBut H2.objs.size s'.heap h' →
            match r with | .ok _ => Q (.ref s₂.heap.objs.size) { s' with heap := h' } | .error x => wpAny (model prog w) A (passOn "comprehension.variables-let-go" x (compEnv scope H2.objs.size env)) Q E { s' with heap := h' }) s₃ := by
    rintro s₃ rfl
    refine comp_loop (cenv := compEnv scope H2.objs.size env) (D := s₂.heap.objs.size) (m := m) (L := L) (h₀ := h₀) W hx (by simp [compEnv, hkind]) (Nat.ne_of_gt (Nat.lt_trans hL hDC)) (Nat.ne_of_gt hL)
      (fun h => absurd (hfp _ h) (Nat.lt_irrefl _)) (fun b hb => Nat.lt_trans (hfp b hb) hDC) hLf hwr (fresh _ (Nat.le_refl _)) (fresh _ (Nat.le_of_lt hDC))
      (fun p hp => ⟨fun _ => hnw p hp, Heap.lt_size (N p hp).1⟩) hDC hst₁ hacc hns₁ F₁ N₁ Inv h0 hsz (fun i v ys ex s' own mC hi hP hI hm ct => ?_) (fun h' tk m' ys ex ep hI hn' F' N' hex => ?_)
    · exact turn _ i v ys ex s' own mC _ hDC hi hP hI hm ct
    · refine ⟨m', hn', fun h'' hs'' => ?_⟩
      have oth : ∀ b, b ≠ H2.objs.size → h''.get? b = h'.get? b := hs''.2
      refine hQ _ h'' tk ys ex ep hI (fun p hp => Heap.lt_size (N p hp).1) (fun p hp => Nat.lt_trans hDC (hex p hp)) ⟨F'.ns.at' fun o e => (oth L (Nat.ne_of_lt (Nat.lt_trans hL hDC))).trans e, fun b o e => (oth b fun q => by rw [q, fresh _ (Nat.le_of_lt hDC)] at e; cases e).trans (F'.keep b o e), F'.above⟩ (fun p hp => ?_)
      refine ⟨(oth p.1 ?_).trans (N' p hp).1, (N' p hp).2⟩
      rcases List.mem_cons.mp hp with rfl | h
      · exact Nat.ne_of_lt hDC
      · rcases List.mem_append.mp h with h | h
        · exact Nat.ne_of_gt (hex p h)
        · exact Nat.ne_of_lt (Nat.lt_trans (Heap.lt_size (N p h).1) hDC)
  refine codeAny_compStart_list (key _ rfl) (W.self 0 _ _ _ hst₁ (key _ rfl))
end
end
section -- ForRule
section
variable {prog : Program} {w : World} {A : Around} {E : Value → Shared → Prop} {s : Shared} {env : Env} {h₀ : Heap} {x : Str} {body : List Stmt} {Q : Flow → Shared → Prop}
/-- a turn's end: the iterator stands, the rest answers J -/
noncomputable def InvEndL (h₀ : Heap) (L : Addr) (J : (Str → Option Value) → List (Addr × Obj) → Prop) (I : Addr) (oI : Obj) (s₁ s₂ : Shared) : Prop :=
  ∃ h' tk m' news', s₂ = { s₁ with heap := h', toks := tk } ∧ Fr h₀ L h' m' ∧ News h₀ L h' ((I, oI) :: news') ∧ (∀ p ∈ news', p.1 ≠ I) ∧ J m' news'
noncomputable def InvPostL (h₀ : Heap) (L : Addr) (J : (Str → Option Value) → List (Addr × Obj) → Prop) (I : Addr) (oI : Obj) (s₁ : Shared) (Q : Flow → Shared → Prop) (f : Flow) (s₂ : Shared) : Prop :=
  match f with
  | .ret v => Q (.ret v) s₂
  | .brk => Q .next s₂
  | _ => InvEndL h₀ L J I oI s₁ s₂
/-- what a loop's body must do, and what its end gives -/
structure Turns (prog : Program) (w : World) (A : Around) (h₀ : Heap) (env : Env) (x : Str) (body : List Stmt) (Q : Flow → Shared → Prop) (E : Value → Shared → Prop) (s : Shared) (n : Nat) (P : Nat → Value → Prop) (J : Nat → (Str → Option Value) → List (Addr × Obj) → Prop) : Prop where
  turn : ∀ i v m₁ news₁ h tk I oI, i < n → P i v → J i m₁ news₁ → (∀ p ∈ news₁, p.1 ≠ I) → s.heap.objs.size ≤ I → Fr h₀ env.locals h (fun y => if y = x then some v else m₁ y) → News h₀ env.locals h ((I, oI) :: news₁) →
      wpAny (model prog w) A (execs body env) (InvPostL h₀ env.locals (J (i + 1)) I oI { s with heap := h, toks := tk } Q) E { s with heap := h, toks := tk }
  done : ∀ m₁ news₁ h tk, J n m₁ news₁ → Fr h₀ env.locals h m₁ → News h₀ env.locals h news₁ → Q .next { s with heap := h, toks := tk }

theorem iter_core {I : Addr} {fp : List Addr} {n : Nat} {P : Nat → Value → Prop} {St : Nat → Heap → Prop} {m₀ : Str → Option Value} {news : List (Addr × Obj)} {J : Nat → (Str → Option Value) → List (Addr × Obj) → Prop} {h₂ : Heap}
    (hI : I = s.heap.objs.size) (W : Walks prog w A I fp [I] n P St) (hst : St 0 h₂) (hget : ∀ i h, St i h → ∃ o, h.get? I = some o) (up : ∀ b o, s.heap.get? b = some o → h₂.get? b = some o) (hIf : I ∈ fp)
    (own : ∀ b ∈ fp, b = I ∨ (∃ o, h₀.get? b = some o) ∨ ∃ o, ∀ i m₁ news₁, J i m₁ news₁ → (b, o) ∈ news₁)
    (F : Fr h₀ env.locals s.heap m₀) (N : News h₀ env.locals s.heap news) (h0 : J 0 m₀ news) (T : Turns prog w A h₀ env x body Q E s n P J) :
    LoopAtV prog w A h₀ env x body Q E (.ref I) { s with heap := h₂ } := by
  subst hI
  have hL : env.locals < s.heap.objs.size := F.ns.lt
  refine ⟨_, fp, _, n, P, St, m₀, news, J, rfl, W, ?_, ?_, ?_, hst, F.keeps up, N.grown up, h0, ?_, ?_⟩
  · intro hm
    rcases own _ hm with e | ⟨o, e⟩ | h
    · exact absurd hL (e ▸ Nat.lt_irrefl _)
    · exact absurd (Nat.lt_of_lt_of_le (Heap.lt_size e) F.above) (Nat.lt_irrefl _)
    · obtain ⟨o, ho⟩ := h
      exact (N _ (ho 0 _ _ h0)).2.1 rfl
  · intro b hb
    rw [List.mem_singleton.mp hb]
    exact next_is_new F
  · intro p hp hI
    exact absurd (Heap.lt_size (N p hp).1) ((List.mem_singleton.mp hI) ▸ Nat.lt_irrefl _)
  · rintro i v m₁ news₁ s₁ ow ⟨hh', tk', rfl⟩ hin hP hJ hoff hsub hin2 hall hst' F₁ N₁
    obtain ⟨oI, hoI⟩ := hget _ _ hst'
    have hI0 : h₀.get? s.heap.objs.size = none := next_is_new F
    have mI : (s.heap.objs.size, oI) ∈ ow := hall _ hIf hI0 _ hoI
    have N₂ : News h₀ env.locals hh' ((s.heap.objs.size, oI) :: news₁) := fun p hp => (List.mem_cons.mp hp).elim (fun e => N₁ p (List.mem_append_left _ (e ▸ mI))) fun h => N₁ p (List.mem_append_right _ h)
    have hne : ∀ p ∈ news₁, p.1 ≠ s.heap.objs.size := fun p hp e => hoff p hp (List.mem_singleton.mpr e)
    refine wpAny_mono (T.turn i v m₁ news₁ hh' tk' _ oI hin hP hJ hne (Nat.le_refl _) F₁ N₂) (fun f s₂ p => ?_) fun _ _ e => e
    have fin : InvEndL h₀ env.locals (J (i + 1)) s.heap.objs.size oI { s with heap := hh', toks := tk' } s₂ → LoopStepU h₀ env.locals [s.heap.objs.size] ow (J (i + 1)) { s with heap := hh', toks := tk' } .next s₂ := by
      rintro ⟨h', tk, m', news', e, F', N', hn, hm⟩
      refine ⟨rfl, h', tk, m', news', e, F', fun p hp => ?_, fun p hp h => hn p hp (List.mem_singleton.mp h), hm⟩
      rcases List.mem_append.mp hp with h | h
      · rcases own _ (hsub p h) with q | ⟨o, q⟩ | q
        · have : p = (s.heap.objs.size, oI) := by
            have h1 := (N₁ p (List.mem_append_left _ h)).1
            rw [q] at h1
            have h1' : some oI = some p.2 := hoI.symm.trans h1
            cases h1'
            exact Prod.ext q rfl
          rw [this]
          exact N' _ (.head _)
        · have := (N₁ p (List.mem_append_left _ h)).2.2
          rw [q] at this; cases this
        · obtain ⟨o, q⟩ := q
          have g1 := (N₁ p (List.mem_append_left _ h)).1
          rw [(N₁ _ (List.mem_append_right _ (q i m₁ news₁ hJ))).1] at g1
          have : p = (p.1, o) := Prod.ext rfl (Option.some.inj g1).symm
          rw [this]
          exact N' _ (List.mem_cons_of_mem _ (q (i + 1) m' news' hm))
      · exact N' p (List.mem_cons_of_mem _ h)
    cases f with
    | ret v => exact .ret p
    | brk => exact .brk p
    | next => exact .next (fin p)
    | cont => exact .cont (fin p)
  · rintro h' tk m' news' F' N' _ hJ
    exact T.done m' news' h' tk hJ F' N'

theorem iter_str {u : Str} {t : Tok} {m₀ : Str → Option Value} {news : List (Addr × Obj)} (J : Nat → (Str → Option Value) → List (Addr × Obj) → Prop)
    (hh : A.handled = none) (F : Fr h₀ env.locals s.heap m₀) (N : News h₀ env.locals s.heap news) (h0 : J 0 m₀ news) (T : Turns prog w A h₀ env x body Q E s u.cps.size (SignAt u) J) :
    wpAny (model prog w) A (pyIter (.str u t)) (fun it s₂ => LoopAtV prog w A h₀ env x body Q E it s₂) E s := by
  have own : ∀ b ∈ [s.heap.objs.size], b = s.heap.objs.size ∨ (∃ o, h₀.get? b = some o) ∨ ∃ o, ∀ i m₁ news₁, J i m₁ news₁ → (b, o) ∈ news₁ := fun b hb => .inl (List.mem_singleton.mp hb)
  have up : ∀ (o : Obj) b o', s.heap.get? b = some o' → (s.heap.push o).get? b = some o' := fun o b o' e => Heap.get?_push_of_some _ e
  cases ha : u.cps.all (· < 128)
  · exact wpAny_pyIter_wide ha (iter_core rfl (Walks.strWide hh _ u t) ⟨_, Heap.get?_push_size _ rfl, rfl, rfl⟩ (fun i h st => by obtain ⟨o, e, _⟩ := st; exact ⟨o, e⟩) (up _) (List.mem_singleton.mpr rfl) own F N h0 T)
  · exact wpAny_pyIter_ascii ha (iter_core rfl (Walks.strAscii hh _ u t) ⟨_, Heap.get?_push_size _ rfl, rfl, rfl⟩ (fun i h st => by obtain ⟨o, e, _⟩ := st; exact ⟨o, e⟩) (up _) (List.mem_singleton.mpr rfl) own F N h0 T)
theorem iter_ledL {l : Addr} {its : Array Value} {k : Nat} {m₀ : Str → Option Value} {news : List (Addr × Obj)} (J : Nat → (Str → Option Value) → List (Addr × Obj) → Prop)
    (hh : A.handled = none) (F : Fr h₀ env.locals s.heap m₀) (N : News h₀ env.locals s.heap news) (h0 : J 0 m₀ news) (hl : ∀ i m₁ news₁, J i m₁ news₁ → (l, listOf its k) ∈ news₁)
    (T : Turns prog w A h₀ env x body Q E s its.size (fun i v => its[i]? = some v) J) :
    wpAny (model prog w) A (pyIter (.ref l)) (fun it s₂ => LoopAtV prog w A h₀ env x body Q E it s₂) E s := by
  have hls : s.heap.IsList l its := PySem.IsL.isList (n := k) (N _ (hl 0 _ _ h0)).1
  have hlt : l < s.heap.objs.size := by obtain ⟨_, e, _⟩ := hls; exact Heap.lt_size e
  refine wpAny_pyIter_list hls ?_
  refine iter_core rfl (Walks.list hh _ l (Nat.ne_of_lt hlt) its) ⟨⟨_, Heap.get?_push_size _ rfl, rfl, rfl⟩, hls.push _⟩ (fun i h st => by obtain ⟨o, e, _⟩ := st.1; exact ⟨o, e⟩) (fun b o' e => Heap.get?_push_of_some _ e) (.head _) (fun b hb => ?_) F N h0 T
  rcases List.mem_cons.mp hb with e | hb
  · exact .inl e
  · exact .inr (.inr ⟨_, fun i m₁ news₁ hJ => (List.mem_singleton.mp hb) ▸ hl i m₁ news₁ hJ⟩)
theorem iter_rng {r : Addr} {a b : Int} {t u v : Tok} {n : Nat} {m₀ : Str → Option Value} {news : List (Addr × Obj)} (J : Nat → (Str → Option Value) → List (Addr × Obj) → Prop)
    (hr : IsRange s.heap r a b 1 t u v) (hsm : Builtin.Range.small a b 1 = true) (hn : Builtin.Range.rangeSize a b 1 = ((n : Nat) : Int))
    (hh : A.handled = none) (F : Fr h₀ env.locals s.heap m₀) (N : News h₀ env.locals s.heap news) (h0 : J 0 m₀ news)
    (T : Turns prog w A h₀ env x body Q E s n (fun i v => ∃ t, v = .int (a + (i : Int)) t) J) :
    wpAny (model prog w) A (pyIter (.ref r)) (fun it s₂ => LoopAtV prog w A h₀ env x body Q E it s₂) E s := by
  refine wpAny_pyIter_range hr hsm ?_
  exact iter_core rfl (LCg.range_walks hh a n) (by show IsRangeIter _ _ _ _ _; rw [hn]; simpa using Heap.get?_push_size _ rfl) (fun i h st => ⟨_, st⟩) (fun b o' e => Heap.get?_push_of_some _ e) (List.mem_singleton.mpr rfl) (fun b hb => .inl (List.mem_singleton.mp hb)) F N h0 T
end
end
section -- S3L
theorem fill3L : PySem.Challenge.rw_uq0027_01 = PySem.Challenge.rw_uq0027_01 ∧ KK = KK := by
  k_fill
  exact ⟨rfl, rfl⟩
variable {w : World} {mean : ExcName → Option Value} {mg mb : Str → Option Value}
/-- the signs that may stand ahead -/
noncomputable def codesN : List Nat := [173, 847, 6150, 6155, 6156, 6157, 8203, 8204, 8205, 8288, 65279, 65024, 65025, 65026, 65027, 65028, 65029, 65030, 65031, 65032, 65033, 65034, 65035, 65036, 65037, 65038, 65039, 172, 846, 6149, 8206, 65040]
theorem codesN_get {k : Nat} (h : k < 32) : ∃ c, codesN[k]? = some c ∧ c ≤ 70000 := by
  have : ∀ k : Fin 32, ∃ c, codesN[k.val]? = some c ∧ c ≤ 70000 := fun k => ⟨codesN.getD k.val 0, by revert k; decide⟩
  exact this ⟨k, h⟩
theorem codes_sub {prog : Program} {w : World} {A : Around} {E : Value → Shared → Prop} {s : Shared} {h₀ : Heap} {L D : Addr} {news : List (Addr × Obj)} {value slice : PySem.Expr} {vs : List Value} {ns : List Int} {n : Nat} {k : Int} {u : Tok} {Q : Value → Shared → Prop} (N : News h₀ L s.heap news) (hm : (D, listOf vs.toArray n) ∈ news) (hi : IntsAre vs ns) (h0 : 0 ≤ k) (h1 : k < 32) (hn : ns = codesN.map fun (c : Nat) => (c : Int))
    (h : ∀ c t, codesN[k.toNat]? = some c → c ≤ 70000 → Q (.int (c : Int) t) s) (hs : subscripted slice false (.ref D) (.int k u) = operate [.ref D, .int k u] (getItem (.ref D) (.int k u)) := by with_unfolding_all rfl) :
    wpAny (model prog w) A (subscriptTail value slice (.ref D) (.int k u)) Q E s := by
  subst hn
  refine ksa_sub N hm hi h0 (by simp [codesN]; omega) (by omega) (fun t => ?_) hs
  obtain ⟨c, hc, hl⟩ := codesN_get (k := k.toNat) (by omega)
  have : (codesN.map fun (c : Nat) => (c : Int)).getD k.toNat 0 = (c : Int) := by simp [List.getD, hc]
  rw [this]
  exact h c t hc hl
/-- texts that the next joins give -/
structure Cuts (us : List Str) : Prop where
noncomputable abbrev nW (x : Int) : Int := (x.fdiv 16).fmod 40
/-- the sign ahead -/
noncomputable def aheadS (x : Int) : Str := if nW x < 32 then ⟨#[codesN.getD (nW x).toNat 0]⟩ else ⟨#[]⟩
noncomputable def keptS (x : Int) : Str := if 26 < nW x then aheadS x else ⟨#[]⟩
noncomputable def menuL : List (List String) := [["ss", "st", "t\"", "s \\"], ["SS", "ST", "T\"", "S \\"], ["𝐒𝐒", "𝐒𝐓", "𝐓\"", "𝐒 \\"], ["ß", "ﬆ", "𝕿\"", "ſ \\"]]
noncomputable def menuS (x : Int) : Str := Str.ofString ((menuL.getD ((x.fdiv 4).fmod 4).toNat []).getD (x.fmod 4).toNat "")
theorem sub_at {prog : Program} {w : World} {A : Around} {E : Value → Shared → Prop} {s : Shared} {h₀ : Heap} {L D : Addr} {news : List (Addr × Obj)} {value slice : PySem.Expr} {its : Array Value} {v : Value} {n j : Nat} {k : Int} {u : Tok} {Q : Value → Shared → Prop} (N : News h₀ L s.heap news) (hm : (D, listOf its n) ∈ news) (hk : k = (j : Int)) (hj : j < 64) (hv : its.toList[j]? = some v)
    (h : Q v s) (hs : subscripted slice false (.ref D) (.int k u) = operate [.ref D, .int k u] (getItem (.ref D) (.int k u)) := by with_unfolding_all rfl) :
    wpAny (model prog w) A (subscriptTail value slice (.ref D) (.int k u)) Q E s := by
  subst hk
  have hl : s.heap.IsList D its := PySem.IsL.isList (n := n) (N _ hm).1
  exact tail_any hl.typeIs slot_list_getitem.lookup (wpAny_getItem_list hl (by omega) (by omega) (by simpa using hv) h) hs
theorem sub_strs {prog : Program} {w : World} {A : Around} {E : Value → Shared → Prop} {s : Shared} {h₀ : Heap} {L D : Addr} {news : List (Addr × Obj)} {value slice : PySem.Expr} {vs : List Value} {ws : List Str} {n : Nat} {k : Int} {u : Tok} {Q : Value → Shared → Prop} (N : News h₀ L s.heap news) (hm : (D, listOf vs.toArray n) ∈ news) (hw : StrsAre vs ws) (h0 : 0 ≤ k) (h1 : k < 4) (hl : ws.length = 4)
    (h : ∀ t, Q (.str (ws.getD k.toNat PySem.Str.empty) t) s) (hs : subscripted slice false (.ref D) (.int k u) = operate [.ref D, .int k u] (getItem (.ref D) (.int k u)) := by with_unfolding_all rfl) :
    wpAny (model prog w) A (subscriptTail value slice (.ref D) (.int k u)) Q E s :=
  KTb.item_list (PySem.IsL.isList (n := n) (N _ hm).1) hw h0 (by omega) (by omega) (fun t _ => h t) hs
/-- the menu's row is one of four -/
theorem split4 {x : Int} {P : Prop} (h : ∀ j : Nat, j < 4 → (x.fdiv 4).fmod 4 = (j : Int) → P) : P :=
  h ((x.fdiv 4).fmod 4).toNat (by have := Int.fmod_lt_of_pos (x.fdiv 4) (b := 4) (by decide); have := Int.fmod_nonneg_of_pos (x.fdiv 4) (b := 4) (by decide); omega) (by have := Int.fmod_nonneg_of_pos (x.fdiv 4) (b := 4) (by decide); omega)
theorem lt4 {j : Nat} (h : j < 4) : j = 0 ∨ j = 1 ∨ j = 2 ∨ j = 3 := by omega
structure MenuMark (x : Int) : Prop where
/-- a join's end -/
noncomputable def StrEnd (u : Str) (h₀ : Heap) (L : Addr) (m : Str → Option Value) (news : List (Addr × Obj)) (s : Shared) (v : Value) (s' : Shared) : Prop :=
  ∃ t, v = .str u t ∧ ∃ h' tk', s' = { s with heap := h', toks := tk' } ∧ Fr h₀ L h' m ∧ News h₀ L h' news
theorem cut_str {M : Model} {A : Around} {E : Value → Shared → Prop} {s : Shared} {h₀ : Heap} {L : Addr} {m : Str → Option Value} {news : List (Addr × Obj)} {e : Expr} {env : Env} {u : Str} {us : List Str} {Q : Value → Shared → Prop} (hc : Cuts (u :: us)) (F : Fr h₀ L s.heap m) (N : News h₀ L s.heap news)
    (h1 : wpAny M A (eval e env) (StrEnd u h₀ L m news s) E s)
    (h2 : Cuts us → ∀ t h' tk', Fr h₀ L h' m → News h₀ L h' news → Q (.str u t) { s with heap := h', toks := tk' }) : wpAny M A (eval e env) Q E s :=
  wpAny_mono h1 (fun v s' ⟨t, r, h', tk', e, F', N'⟩ => by subst r e; exact h2 ⟨⟩ t h' tk' F' N') fun _ _ e => e
theorem StrEnd.intro {u u' : Str} {h₀ : Heap} {L : Addr} {m : Str → Option Value} {news news' : List (Addr × Obj)} {s : Shared} {t : Tok} {h' : Heap} {tk' : Nat} (e : u' = u) (F : Fr h₀ L h' m) (N : News h₀ L h' news') (hs : ∀ p ∈ news, p ∈ news') : StrEnd u h₀ L m news s (.str u' t) { s with heap := h', toks := tk' } :=
  ⟨t, by rw [e], h', tk', rfl, F, nsub N hs⟩
/-- a turn's end of a loop that gathers in one list -/
noncomputable def AccEnd (h₀ : Heap) (L D : Addr) (x : Str) (m₀ : Str → Option Value) (rest : List (Addr × Obj)) (G : Array Value → Prop) (s₁ : Shared) (f : Flow) (s₂ : Shared) : Prop :=
  (f = .next ∨ f = .cont) ∧ ∃ h' tk' us k v, s₂ = { s₁ with heap := h', toks := tk' } ∧ Fr h₀ L h' (fun y => if y = x then v else m₀ y) ∧ News h₀ L h' ((D, listOf us k) :: rest) ∧ G us
theorem AccEnd.intro {h₀ : Heap} {L D : Addr} {x : Str} {m₀ : Str → Option Value} {rest news' : List (Addr × Obj)} {G : Array Value → Prop} {s₁ : Shared} {h' : Heap} {tk' : Nat} {us : Array Value} {k : Nat} {v : Option Value} {f : Flow} (hf : f = .next ∨ f = .cont) (F : Fr h₀ L h' (fun y => if y = x then v else m₀ y)) (N : News h₀ L h' news') (hs : ∀ p ∈ (D, listOf us k) :: rest, p ∈ news') (g : G us) :
    AccEnd h₀ L D x m₀ rest G s₁ f { s₁ with heap := h', toks := tk' } := ⟨hf, h', tk', us, k, v, rfl, F, nsub N hs, g⟩
theorem for_F {prog : Program} {w : World} {A : Around} {E : Value → Shared → Prop} {s : Shared} {env : Env} {h₀ : Heap} {m : Str → Option Value} {Q : Flow → Shared → Prop} {x : Str} {px pos : Pos} {iter : Expr} {body : List Stmt} (F : Fr h₀ env.locals s.heap m) (hx : env.kindOf x = some .local)
    (hp : (env.scope.kind == .class || (env.scope.kind == .module && env.locals != env.globals)) = false)
    (h : wpAny (model prog w) A (eval iter env) (fun xv s₁ => wpAny (model prog w) A (pyIter xv) (fun it s₂ => LoopAtV prog w A h₀ env x body Q E it s₂) E s₁) E s)
    (hs : ∀ x, foldedSetIterable iter env x = pure x := by intro _; rfl)
    (hE : PassesOwn (model prog w) A env E := by passes_own) :
    wpAny (model prog w) A (exec (.For (.Name x px) iter body [] pos) env) Q E s := For_invV h₀ hx hp h hs hE
theorem for_strAcc {prog : Program} {w : World} {A : Around} {E : Value → Shared → Prop} {s : Shared} {env : Env} {h₀ : Heap} {x : Str} {body : List Stmt} {Q : Flow → Shared → Prop} {u : Str} {t : Tok} {D : Addr} {k₀ : Nat} {m₀ : Str → Option Value} {rest : List (Addr × Obj)} (G : Nat → Array Value → Prop)
    (hh : A.handled = none) (F : Fr h₀ env.locals s.heap m₀) (N : News h₀ env.locals s.heap ((D, listOf #[] k₀) :: rest)) (hoff : ∀ p ∈ rest, p.1 ≠ D) (g0 : G 0 #[]) (hsz : ∀ i us, i ≤ u.cps.size → G i us → us.size ≤ 1000)
    (turn : ∀ i c tu us k h tk I oI, u.cps[i]? = some c → G i us → us.size ≤ 1000 → (∀ p ∈ (I, oI) :: rest, p.1 ≠ D) → Fr h₀ env.locals h (fun y => if y = x then some (.str ⟨#[c]⟩ tu) else m₀ y) → News h₀ env.locals h ((D, listOf us k) :: (I, oI) :: rest) →
      wpAny (model prog w) A (execs body env) (AccEnd h₀ env.locals D x m₀ ((I, oI) :: rest) (G (i + 1)) { s with heap := h, toks := tk }) E { s with heap := h, toks := tk })
    (done : ∀ us k v h tk, G u.cps.size us → us.size ≤ 1000 → Fr h₀ env.locals h (fun y => if y = x then v else m₀ y) → News h₀ env.locals h ((D, listOf us k) :: rest) → Q .next { s with heap := h, toks := tk }) :
    wpAny (model prog w) A (pyIter (.str u t)) (fun it s₂ => LoopAtV prog w A h₀ env x body Q E it s₂) E s := by
  have m0 : m₀ = fun y => if y = x then m₀ x else m₀ y := by funext y; by_cases h : y = x <;> simp [h]
  refine iter_str (m₀ := m₀) (fun i m₁ news₁ => ∃ us k v, m₁ = (fun y => if y = x then v else m₀ y) ∧ news₁ = (D, listOf us k) :: rest ∧ G i us ∧ i ≤ u.cps.size) hh F N ⟨#[], k₀, _, m0, rfl, g0, Nat.zero_le _⟩ ⟨?_, ?_⟩
  · rintro i v m₁ news₁ h tk I oI hi ⟨c, tu, hc, rfl⟩ ⟨us, k, v', rfl, rfl, hg, hi'⟩ hI hsI F₁ N₁
    have e : (fun y => if y = x then some (Value.str ⟨#[c]⟩ tu) else if y = x then v' else m₀ y) = fun y => if y = x then some (Value.str ⟨#[c]⟩ tu) else m₀ y := by
      funext y; by_cases h : y = x <;> simp [h]
    rw [e] at F₁
    have hDI : I ≠ D := fun h => hI (D, listOf us k) (.head _) h.symm
    have off : ∀ p ∈ (I, oI) :: rest, p.1 ≠ D := fun p hp => (List.mem_cons.mp hp).elim (fun e => by rw [e]; exact hDI) (hoff p)
    have N₂ : News h₀ env.locals h ((D, listOf us k) :: (I, oI) :: rest) := nsub N₁ fun p hp => by
      simp only [List.mem_cons] at hp ⊢
      rcases hp with h | h | h
      · exact .inr (.inl h)
      · exact .inl h
      · exact .inr (.inr h)
    refine wpAny_mono (turn i c tu us k h tk I oI hc hg (hsz i us hi' hg) off F₁ N₂) (fun f s₂ p => ?_) fun _ _ e => e
    obtain ⟨hf, h', tk', us', k', v'', rfl, F', N', g'⟩ := p
    have fin : InvEndL h₀ env.locals (fun m₁ news₁ => ∃ us k v, m₁ = (fun y => if y = x then v else m₀ y) ∧ news₁ = (D, listOf us k) :: rest ∧ G (i + 1) us ∧ i + 1 ≤ u.cps.size) I oI { s with heap := h, toks := tk } { s with heap := h', toks := tk' } :=
      ⟨h', tk', _, (D, listOf us' k') :: rest, rfl, F', nsub N' fun p hp => by
        simp only [List.mem_cons] at hp ⊢
        rcases hp with h | h | h
        · exact .inr (.inl h)
        · exact .inl h
        · exact .inr (.inr h), fun p hp => by
        rcases List.mem_cons.mp hp with h | h
        · rw [h]; exact Ne.symm hDI
        · exact hI p (List.mem_cons_of_mem _ h), us', k', v'', rfl, rfl, g', hi⟩
    rcases hf with rfl | rfl
    · exact fin
    · exact fin
  · rintro m₁ news₁ h tk ⟨us, k, v', rfl, rfl, hg, _⟩ F₁ N₁
    exact done us k v' h tk hg (hsz _ _ (Nat.le_refl _) hg) F₁ N₁

noncomputable abbrev quotedB (x : Int) : Bool := decide ((x.fdiv 640).fmod 2 = 1)
noncomputable abbrev hiddenB (x : Int) : Bool := decide ((x.fdiv 1280).fmod 2 = 1)
noncomputable def markOf (q hd : Bool) (c : Nat) : List Str := if hd || (⟨#[c]⟩ : Str) == Str.ofString "\\" || ((⟨#[c]⟩ : Str) == Str.ofString "\"" && q) || ((⟨#[c]⟩ : Str) == Str.ofString " " && !q) then [Str.ofString "\\", ⟨#[c]⟩] else [⟨#[c]⟩]
noncomputable def marksL (q hd : Bool) (l : List Nat) : List Str := l.flatMap (markOf q hd)
theorem marksL_len (q hd : Bool) : ∀ l : List Nat, (marksL q hd l).length ≤ 2 * l.length
  | [] => by simp [marksL]
  | c :: l => by
    have := marksL_len q hd l
    have h2 : (markOf q hd c).length ≤ 2 := by unfold markOf; split <;> simp
    simp only [marksL, List.flatMap_cons, List.length_append, List.length_cons] at this ⊢
    omega
theorem marksL_snoc (q hd : Bool) (l : List Nat) (c : Nat) : marksL q hd (l ++ [c]) = marksL q hd l ++ markOf q hd c := by simp [marksL]
structure WordMark (x : Int) : Prop where
noncomputable def wordG (x : Int) (u : Str) (i : Nat) (us : Array Value) : Prop := StrsAre us.toList (marksL (quotedB x) (hiddenB x) (u.cps.toList.take i))
theorem StrsAre_len : ∀ {us : List Value} {ws : List Str}, StrsAre us ws → us.length = ws.length
  | _, _, .nil => rfl
  | _, _, .cons _ _ h => by simp [StrsAre_len h]
theorem wordG_size {x : Int} {u : Str} {i : Nat} {us : Array Value} (hu : u.cps.size ≤ 400) (g : wordG x u i us) : us.size ≤ 1000 := by
  have h1 := StrsAre_len g
  have h2 := marksL_len (quotedB x) (hiddenB x) (u.cps.toList.take i)
  have h3 : (u.cps.toList.take i).length ≤ u.cps.size := by rw [List.length_take, Array.length_toList]; exact Nat.min_le_right _ _
  rw [Array.length_toList] at h1
  omega
theorem wordG_next {x : Int} {u : Str} {i c : Nat} {us us' : Array Value} (hc : u.cps[i]? = some c) (g : wordG x u i us) (e : ∃ vs, us' = us ++ vs ∧ StrsAre vs.toList (markOf (quotedB x) (hiddenB x) c)) : wordG x u (i + 1) us' := by
  obtain ⟨vs, rfl, hv⟩ := e
  unfold wordG at g ⊢
  have : u.cps.toList.take (i + 1) = u.cps.toList.take i ++ [c] := by rw [List.take_add_one]; simp [hc]
  rw [this, marksL_snoc, Array.toList_append]
  exact g.append' hv
theorem for_word {prog : Program} {w : World} {A : Around} {E : Value → Shared → Prop} {s : Shared} {env : Env} {h₀ : Heap} {nm : Str} {body : List Stmt} {Q : Flow → Shared → Prop} {x : Int} {u : Str} {t : Tok} {D : Addr} {k₀ : Nat} {m₀ : Str → Option Value} {rest : List (Addr × Obj)} (_hm : WordMark x)
    (hh : A.handled = none) (F : Fr h₀ env.locals s.heap m₀) (N : News h₀ env.locals s.heap ((D, listOf #[] k₀) :: rest)) (hoff : ∀ p ∈ rest, p.1 ≠ D) (hu : u.cps.size ≤ 400)
    (turn : ∀ i c tu us k h tk I oI, u.cps[i]? = some c → wordG x u i us → us.size ≤ 1000 → (∀ p ∈ (I, oI) :: rest, p.1 ≠ D) → Fr h₀ env.locals h (fun y => if y = nm then some (.str ⟨#[c]⟩ tu) else m₀ y) → News h₀ env.locals h ((D, listOf us k) :: (I, oI) :: rest) →
      wpAny (model prog w) A (execs body env) (AccEnd h₀ env.locals D nm m₀ ((I, oI) :: rest) (wordG x u (i + 1)) { s with heap := h, toks := tk }) E { s with heap := h, toks := tk })
    (done : ∀ us k v h tk, wordG x u u.cps.size us → us.size ≤ 1000 → Fr h₀ env.locals h (fun y => if y = nm then v else m₀ y) → News h₀ env.locals h ((D, listOf us k) :: rest) → Q .next { s with heap := h, toks := tk }) :
    wpAny (model prog w) A (pyIter (.str u t)) (fun it s₂ => LoopAtV prog w A h₀ env nm body Q E it s₂) E s :=
  for_strAcc (wordG x u) hh F N hoff .nil (fun i us _ g => wordG_size hu g) turn done
theorem ahead_len (x : Int) : (aheadS x).length ≤ 1 := by unfold aheadS; split <;> exact Nat.le_of_ble_eq_true rfl
theorem kept_len (x : Int) : (keptS x).length ≤ 1 := by
  unfold keptS
  split
  · exact ahead_len x
  · exact Nat.le_of_ble_eq_true rfl
theorem menu_len (x : Int) : (menuS x).length ≤ 3 := by
  unfold menuS
  have h : ∀ a b : Nat, (Str.ofString ((menuL.getD a []).getD b "")).length ≤ 3 := by
    intro a b
    match a, b with
    | 0, 0 | 0, 1 | 0, 2 | 0, 3 | 1, 0 | 1, 1 | 1, 2 | 1, 3 | 2, 0 | 2, 1 | 2, 2 | 2, 3 | 3, 0 | 3, 1 | 3, 2 | 3, 3 => decide
    | 0, b + 4 | 1, b + 4 | 2, b + 4 | 3, b + 4 => simp [menuL, List.getD]; decide
    | a + 4, b => simp [menuL, List.getD]; decide
  exact h _ _
theorem am_len (x : Int) : (aheadS x ++ menuS x).length ≤ 4 := by rw [PySem.Str.length_append]; have := ahead_len x; have := menu_len x; omega
theorem marks_ones (q hd : Bool) (l : List Nat) : ∀ a ∈ marksL q hd l, a.length = 1 := by
  intro a ha
  obtain ⟨c, _, hc⟩ := List.mem_flatMap.mp ha
  unfold markOf at hc
  split at hc
  · rcases List.mem_cons.mp hc with rfl | hc
    · rfl
    · rw [List.mem_singleton.mp hc]; rfl
  · rw [List.mem_singleton.mp hc]; rfl
theorem carried_strs {us : List Value} {ws : List Str} (h : StrsAre us ws) : CarriedAll us (ws.map fun a => PyData.str (id a)) := lm_carried_strs h
/-- the signs with their marks, before the quotation marks -/
noncomputable def innerS (x : Int) : Str := PySem.Txt.join (PySem.Str.ofString "") (marksL (quotedB x) (hiddenB x) (aheadS x ++ menuS x).cps.toList)
theorem inner_len (x : Int) : (innerS x).length ≤ 8 := by
  unfold innerS
  rw [KT.join_ones _ (marks_ones _ _ _)]
  have := marksL_len (quotedB x) (hiddenB x) (aheadS x ++ menuS x).cps.toList
  have h2 := am_len x
  have h3 : (aheadS x ++ menuS x).cps.toList.length = (aheadS x ++ menuS x).length := Array.length_toList
  omega
theorem join_word {prog : Program} {w : World} {A : Around} {E : Value → Shared → Prop} {s : Shared} {h₀ : Heap} {L D : Addr} {news : List (Addr × Obj)} {us : Array Value} {k : Nat} {x : Int} {t : Tok} {Q : Value → Shared → Prop} (N : News h₀ L s.heap news) (hm : (D, listOf us k) ∈ news) (g : wordG x (aheadS x ++ menuS x) (aheadS x ++ menuS x).cps.size us)
    (h : ∀ t' k, Q (.str (innerS x) t') { s with toks := k }) : wpAny (model prog w) A (call (.builtin "str.join") [.str (PySem.Str.ofString "") t, .ref D]) Q E s := by
  have hl : s.heap.IsList D us.toList.toArray := by rw [Array.toArray_toList]; exact PySem.IsL.isList (n := k) (N _ hm).1
  have e : (aheadS x ++ menuS x).cps.toList.take (aheadS x ++ menuS x).cps.size = (aheadS x ++ menuS x).cps.toList := by rw [← Array.length_toList, List.take_length]
  unfold wordG at g
  rw [e] at g
  have h2 := am_len x
  have h3 : (aheadS x ++ menuS x).cps.toList.length = (aheadS x ++ menuS x).length := Array.length_toList
  have h4 := marksL_len (quotedB x) (hiddenB x) (aheadS x ++ menuS x).cps.toList
  refine KT.join_B 1 hl (carried_strs g) (fun a ha => Nat.le_of_eq (marks_ones _ _ _ a ha)) (by omega) (by decide) fun t' k => ?_
  rw [List.map_id]
  exact h t' k
end
local macro_rules | `(tactic| walk_at "m0") => `(tactic| (k_here; k_dflt (first | (refine' meth172 ?jX ?jF ?_; (case jX => k_asm); (case jF => k_asm)) | (refine' meth177 ?jX ?jF ?_; (case jX => k_asm); (case jF => k_asm)))))
section -- S12
theorem fill12 : PySem.Challenge.rw_uq0027_01 = PySem.Challenge.rw_uq0027_01 ∧ KK = KK := by
  k_fill
  exact ⟨rfl, rfl⟩
variable {w : World} {mean : ExcName → Option Value} {mg mb : Str → Option Value}
local macro_rules | `(tactic| k_room) => `(tactic| ktr_room)
local macro_rules | `(tactic| walk_at "getMethod ref") => `(tactic| walk_at "m0")
/-- the headers' object -/
noncomputable abbrev hdrL (P : Params) (hx hd hl : Addr) (k1 : Tok) (its : Array Value) (n : Nat) : List (Addr × Obj) :=
  [(hl, listOf its n), (hx, instObj 306 hd), (hd, dictOf [⟨PyData.keyHash P (Str.ofString "_headers"), .str (Str.ofString "_headers") k1, .ref hl⟩] 1)]
theorem le_sz {k : Nat} (h : k ≤ 1000) : k ≤ sizeLine := by rw [sizeLine_eq]; omega
noncomputable abbrev addPost (P : Params) (hx hd hl : Addr) (k1 : Tok) (its : Array Value) (x y : Str) (v : Value) (new : List (Addr × Obj)) : Prop :=
  v = .none ∧ ∃ D tx ty n, new = (D, ({ cls := .type "tuple", data := .seq [Value.str x tx, .str y ty].toArray } : Obj)) :: hdrL P hx hd hl k1 (its.push (.ref D)) n
theorem add_ret {Q : Value → Shared → Prop} {s : Shared} {h₀ h' : Heap} {L : Addr} {m : Str → Option Value} {news : List (Addr × Obj)} {tk : Nat} {P : Params} {hx hd hl D : Addr} {k1 tx ty : Tok} {its : Array Value} {n n' : Nat} {x y : Str} {e1 e2 e3 e4 e5 : Addr × Obj}
    (hret : ∀ v new h' tk, addPost P hx hd hl k1 its x y v new → Fr h₀ L h' m → News h₀ L h' (new ++ news) → (∀ p ∈ new, p.1 ∈ (hdrL P hx hd hl k1 its n).map (·.1) ∨ ∀ q ∈ hdrL P hx hd hl k1 its n ++ news, q.1 < p.1) → Q v { s with heap := h', toks := tk })
    (F : Fr h₀ L h' m)
    (N : News h₀ L h' ((D, ({ cls := .type "tuple", data := .seq [Value.str x tx, .str y ty].toArray } : Obj)) :: e1 :: e2 :: (hdrL P hx hd hl k1 (its.push (.ref D)) n' ++ news)))
    (l0 : ∀ p ∈ e3 :: e4 :: e5 :: (hdrL P hx hd hl k1 its n ++ news), p.1 < D) : Q .none { s with heap := h', toks := tk } := by
  refine hret _ ((D, _) :: hdrL P hx hd hl k1 (its.push (.ref D)) n') _ _ ⟨rfl, D, tx, ty, n', rfl⟩ F (nsub N fun p hp => ?_) fun p hp => ?_
  · rcases List.mem_cons.mp hp with h | h
    · rw [h]; exact .head _
    · exact .tail _ (.tail _ (.tail _ h))
  · rcases List.mem_cons.mp hp with h | h
    · rw [h]; exact .inr fun q hq => l0 q (.tail _ (.tail _ (.tail _ hq)))
    · exact .inl (by
        have : p.1 ∈ (hdrL P hx hd hl k1 (its.push (.ref D)) n').map (·.1) := List.mem_map_of_mem (f := (·.1)) h
        exact this)
theorem drop2 {h₀ h : Heap} {L : Addr} {a b : Addr × Obj} {rest : List (Addr × Obj)} (N : News h₀ L h (a :: b :: rest)) : News h₀ L h (a :: rest) := nsub N fun p hp => (List.mem_cons.mp hp).elim (fun e => e ▸ .head _) fun h => .tail _ (.tail _ h)
theorem join_single (x y : Str) : PySem.Txt.join x ([y].map id) = y := by rfl
theorem join_one {prog : Program} {w : World} {A : Around} {E : Value → Shared → Prop} {s : Shared} {h₀ : Heap} {L D : Addr} {news : List (Addr × Obj)} {k : Nat} {y : Str} {t ty : Tok} {Q : Value → Shared → Prop} (N : News h₀ L s.heap news) (hm : (D, listOf (#[].push (.str y ty)) k) ∈ news) (hy : y.length ≤ 8)
    (h : ∀ t' k, Q (.str y t') { s with toks := k }) : wpAny (model prog w) A (call (.builtin "str.join") [.str (PySem.Str.ofString "; ") t, .ref D]) Q E s := by
  have hl : s.heap.IsList D [Value.str y ty].toArray := PySem.IsL.isList (n := k) (N _ hm).1
  refine KT.join_B 8 hl (carried_strs (.cons _ _ .nil)) (fun a ha => ?_) (Nat.le_of_ble_eq_true rfl) (by decide) fun t' k => ?_
  · rw [List.mem_singleton.mp ha]; exact hy
  · rw [join_single]; exact h t' k
local macro_rules | `(tactic| walk_at "call builtin:str.join") => `(tactic| (k_here; k_dflt (refine' join_one ?jN ?jm ?jy ?_; (case jN => k_asm); (case jm => k_mem); (case jy => assumption)); intro t' k'))
local macro_rules | `(tactic| walk_at "newTuple") => `(tactic| (k_here; k_dflt (refine' kup_newTuple ?F ?N ?_ ?z; (case F => k_asm); (case N => k_asm); (case z => kmk_size)); intro D' h' F' N' l1; (have l0 := l1); (try k_lt l1); (try k_sweep)))
set_option maxHeartbeats 4000000 in
theorem sum_add (hx hd hl : Addr) (o1 : @LT.lt Nat _ hd hx) (o2 : @LT.lt Nat _ hx hl) (k1 : Tok) (its : Array Value) (n : Nat) (x y : Str) (tx ty : Tok) (hokx : x.cps.toList.all okC = true) (hoky : y.cps.toList.all okC = true) (hz : its.size ≤ 1000) (hy8 : y.length ≤ 8) :
    SumT w mean mg mb (.ref 303) [.ref hx, .str x tx, .str y ty] [] 2 24 (hdrL w.params hx hd hl k1 its n) (addPost w.params hx hd hl k1 its x y) := by
  intro news dp un gd cn cs a ccd cl outer A₀ base h₀ L m s Q E B F X N hoff T hk hdp hun hret
  simp only [hdrL, List.nil_append, List.cons_append] at N
  simp only [hdrL, List.map_cons, List.map_nil] at hoff
  refine wpAny_call ?_
  k_dflt (refine' kpc_more (cl := []) ?k1 ?k2 ?k3 ?k4 ?k5 ?kA ?kF ?kK ?k6 ?k7 ?k8 ?kX ?kM ?kN ?kD ?kR ?kP ?kT ?kB ?_ ?c2 ?c3 ?c4 ?c5; (case kA => exact rfl); (case kF => exact rfl); (case kK => assumption); (case k1 => k_asm); (case k2 => k_asm); (case k3 => k_asm); (case k4 => k_asm); (case k5 => k_asm); (case k6 => k_is); (case k7 => k_is); (case k8 => ktr_room); (case kX => kp_lit); (case kM => exact rfl); (case kN => exact rfl); (case kD => kp_flats); (case kR => exact rfl); (case kP => exact rfl); (case kT => exact fun _ => rfl); (case kB => exact fun _ => locs rfl); (case c5 => decide); (case c2 => exact rfl); (case c3 => exact rfl); (case c4 => exact rfl); k_whole; intro D' o' g' L' h' tk' l1 lo' hs' fs' FG' F' N' B' X' T'; (try k_lt l1); (try dsimp only); (try k_lift B'); (try k_fold))
  (repeat' (first | with_reducible ((show wpAny _ _ (call (Value.builtin "list.append") _) _ _ _); (k_dflt (refine' append_K ?zzjF ?zzjN ?zzjU ?_ ?zzjz; (case zzjF => k_asm); (case zzjN => k_asm); (case zzjU => k_upd); (case zzjz => first | (with_reducible exact le_sz (by assumption)) | size_fits)); intro hzz Fzz Nzz)) | with_reducible ((show wpAny _ _ (call (Value.builtin "list.append") _) _ _ _); (k_dflt (refine' append_K ?zzjF (drop2 ?zzjN) ?zzjU ?_ ?zzjz; (case zzjF => k_asm); (case zzjN => k_asm); (case zzjU => k_upd); (case zzjz => first | (with_reducible exact le_sz (by assumption)) | size_fits)); intro hzz Fzz Nzz)) | with_reducible ((show wpAny _ _ (call (Value.builtin "re.Pattern.search") _) _ _ _); (k_dflt (first | (refine' search172 ?zzjX ?zzjF ?zzjh ?_; (case zzjX => k_asm); (case zzjF => k_asm); (case zzjh => assumption)) | (refine' search177 ?zzjX ?zzjF ?zzjh ?_; (case zzjX => k_asm); (case zzjF => k_asm); (case zzjh => assumption))))) | walk_at "st"))
  exact add_ret hret (by k_asm) (by k_asm) (by assumption)
end
section -- CompStr
/-- a comprehension that the walk leaves to the hand -/
noncomputable def CompHold (P : Prop) : Prop := P
theorem comp_hold {P : Prop} (h : CompHold P) : P := h
section
variable {prog : Program} {w : World} {A : Around} {E : Value → Shared → Prop} {env : Env} {h₀ : Heap} {L : Addr} {m : Str → Option Value}
/-- an element's end -/
noncomputable def EltEnd (h₀ : Heap) (L : Addr) (m : Str → Option Value) (news : List (Addr × Obj)) (C : Addr) (own ex : List (Addr × Obj)) (Inv : Nat → List Value → List (Addr × Obj) → Prop) (i : Nat) (ys : List Value) (s₃ : Shared) (y : Value) (s₄ : Shared) : Prop :=
  ∃ h₄ tk₄ g, s₄ = { s₃ with heap := h₄, toks := tk₄ } ∧ Fr h₀ L h₄ m ∧ News h₀ L h₄ (g ++ (own ++ (ex ++ news))) ∧ (∀ p ∈ g, C < p.1) ∧ Inv (i + 1) (ys ++ [y]) (g ++ ex)
/-- a test's end -/
noncomputable def TestEnd (prog : Program) (w : World) (A : Around) (h₀ : Heap) (L : Addr) (m : Str → Option Value) (news : List (Addr × Obj)) (elt : Expr) (cenv : Env) (C : Addr) (mC : Str → Option Value) (own ex : List (Addr × Obj)) (Inv : Nat → List Value → List (Addr × Obj) → Prop) (i : Nat) (ys : List Value) (E' : Value → Shared → Prop) (s' : Shared) (ok : Bool) (s₃ : Shared) : Prop :=
  (∃ h₃ tk₃, s₃ = { s' with heap := h₃, toks := tk₃ }) ∧ CT h₀ L m news C mC own ex s₃ ∧
    if ok = true then wpAny (model prog w) A (eval elt cenv) (EltEnd h₀ L m news C own ex Inv i ys s₃) E' s₃ else Inv (i + 1) ys ex
/-- a turn's test and element -/
noncomputable def TurnGoal (prog : Program) (w : World) (A : Around) (h₀ : Heap) (L : Addr) (m : Str → Option Value) (news : List (Addr × Obj)) (elt : Expr) (ifs : List Expr) (cenv : Env) (C : Addr) (mC : Str → Option Value) (own ex : List (Addr × Obj)) (Inv : Nat → List Value → List (Addr × Obj) → Prop) (i : Nat) (ys : List Value) (E' : Value → Shared → Prop) (s' : Shared) : Prop :=
  wpAny (model prog w) A (forIn ifs true fun c r => if r = true then do let ok ← isTrue c cenv (eval c cenv); pure (ForInStep.yield ok) else pure (ForInStep.yield r))
          (TestEnd prog w A h₀ L m news elt cenv C mC own ex Inv i ys E' s') E' s'
theorem TestEnd.mk {elt : Expr} {cenv : Env} {news own ex : List (Addr × Obj)} {C : Addr} {mC : Str → Option Value} {Inv : Nat → List Value → List (Addr × Obj) → Prop} {i : Nat} {ys : List Value} {E' : Value → Shared → Prop} {s' : Shared} {ok : Bool} {h₃ : Heap} {tk₃ : Nat} {s0 : Shared}
    (ct : CT h₀ L m news C mC own ex s0) (F : Fr h₀ L h₃ m) (N : News h₀ L h₃ (own ++ (ex ++ news)))
    (h1 : ok = true → CT h₀ L m news C mC own ex { s' with heap := h₃, toks := tk₃ } → wpAny (model prog w) A (eval elt cenv) (EltEnd h₀ L m news C own ex Inv i ys { s' with heap := h₃, toks := tk₃ }) E' { s' with heap := h₃, toks := tk₃ })
    (h2 : ok = false → Inv (i + 1) ys ex) : TestEnd prog w A h₀ L m news elt cenv C mC own ex Inv i ys E' s' ok { s' with heap := h₃, toks := tk₃ } := by
  have ct' : CT h₀ L m news C mC own ex { s' with heap := h₃, toks := tk₃ } := ⟨F, N, ct.ns, ct.off, ct.has⟩
  refine ⟨⟨h₃, tk₃, rfl⟩, ct', ?_⟩
  cases ok with
  | true => exact h1 rfl ct'
  | false => exact h2 rfl
theorem EltEnd.mk {news own ex g : List (Addr × Obj)} {C : Addr} {Inv : Nat → List Value → List (Addr × Obj) → Prop} {i : Nat} {ys : List Value} {s₃ : Shared} {y : Value} {h₄ : Heap} {tk₄ : Nat} (F : Fr h₀ L h₄ m) (N : News h₀ L h₄ (g ++ (own ++ (ex ++ news)))) (hg : ∀ p ∈ g, C < p.1) (hI : Inv (i + 1) (ys ++ [y]) (g ++ ex)) :
    EltEnd h₀ L m news C own ex Inv i ys s₃ y { s₃ with heap := h₄, toks := tk₄ } := ⟨h₄, tk₄, g, rfl, F, N, hg, hI⟩
theorem comp_str {Q : Value → Shared → Prop} {elt iter : Expr} {x : Str} {px : Pos} {ifs : List Expr} {scope : Scope} {pos : Pos} {s : Shared} {u : Str} {t : Tok} {news : List (Addr × Obj)}
    (hfree : ∀ y ∈ scope.names, y.2 ≠ .free) (hcell : ∀ y ∈ scope.names, y.2 ≠ .cell) (hkind : scope.kind = .function)
    (hnames : ∀ y ∈ scope.names, y.2 = .local → scope.names.lookup y.1 = some .local) (hx : scope.names.lookup x = some .local)
    (hh : A.handled = none) (hit : wpAny (model prog w) A (eval iter env) (fun xv s₁ => xv = .str u t ∧ s₁ = s) E s)
    (F : Fr h₀ L s.heap m) (N : News h₀ L s.heap news) (Inv : Nat → List Value → List (Addr × Obj) → Prop) (h0 : Inv 0 [] []) (hsz : ∀ i ys ex, i ≤ u.cps.size → Inv i ys ex → ys.length ≤ sizeLine)
    (turn : ∀ C i c tc ys ex s' own mC E', (∀ q ∈ news, q.1 < C) → u.cps[i]? = some c → Inv i ys ex → mC x = some (.str ⟨#[c]⟩ tc) → CT h₀ L m news C mC own ex s' → TurnGoal prog w A h₀ L m news elt ifs (compEnv scope C env) C mC own ex Inv i ys E' s')
    (done : ∀ D h' tk ys ex ep, Inv u.cps.size ys ex → (∀ p ∈ news, p.1 < D) → (∀ p ∈ ex, D < p.1) → Fr h₀ L h' m → News h₀ L h' ((D, listOf ys.toArray ep) :: (ex ++ news)) → Q (.ref D) { s with heap := h', toks := tk })
    (hs : ∀ x, foldedSetIterable iter env x = pure x := by intro _; rfl) : wpAny (model prog w) A (eval (.ListComp elt [⟨.Name x px, iter, ifs, 0⟩] scope pos) env) Q E s := by
  refine comp_eval (m := m) (L := L) (h₀ := h₀) hfree hcell hkind hnames hx (wpAny_mono hit (fun xv s₁ h₁ => ?_) fun _ _ e => e) hs
  obtain ⟨rfl, rfl⟩ := h₁
  have hL : L < s₁.heap.objs.size := F.ns.lt
  have hI0 : h₀.get? s₁.heap.objs.size = none := next_is_new F
  have rest : ∀ (o : Obj) (St : Nat → Heap → Prop), Walks prog w A s₁.heap.objs.size [s₁.heap.objs.size] [s₁.heap.objs.size] u.cps.size (SignAt u) St → St 0 (s₁.heap.push o) →
      ∃ I fp wr n P St news, (Value.ref s₁.heap.objs.size) = .ref I ∧ Walks prog w A I fp wr n P St ∧ St 0 (s₁.heap.push o) ∧
      (∀ b ∈ fp, b < (s₁.heap.push o).objs.size) ∧ L ∉ fp ∧ (∀ b ∈ wr, h₀.get? b = none) ∧ (∀ p ∈ news, p.1 ∉ wr) ∧ Fr h₀ L (s₁.heap.push o) m ∧ News h₀ L (s₁.heap.push o) news ∧
      ∃ Inv : Nat → List Value → List (Addr × Obj) → Prop, Inv 0 [] [] ∧ (∀ i ys ex, i ≤ n → Inv i ys ex → ys.length ≤ sizeLine) ∧
      (∀ C i v ys ex s' own mC E', (s₁.heap.push o).objs.size < C → i < n → P i v → Inv i ys ex → mC x = some v → CT h₀ L m news C mC own ex s' →
        TurnGoal prog w A h₀ L m news elt ifs (compEnv scope C env) C mC own ex Inv i ys E' s') ∧
      (∀ D h' tk ys ex ep, Inv n ys ex → (∀ p ∈ news, p.1 < D) → (∀ p ∈ ex, D < p.1) → Fr h₀ L h' m → News h₀ L h' ((D, listOf ys.toArray ep) :: (ex ++ news)) → Q (.ref D) { s₁ with heap := h', toks := tk }) := by
    intro o St W hst
    have up : ∀ b o', s₁.heap.get? b = some o' → (s₁.heap.push o).get? b = some o' := fun b o' e => Heap.get?_push_of_some _ e
    refine ⟨_, _, _, _, _, St, news, rfl, W, hst, fun b hb => ?_, fun hm => ?_, fun b hb => ?_, fun p hp hm => ?_, F.keeps up, N.grown up, Inv, h0, hsz, ?_, ?_⟩
    · rw [List.mem_singleton.mp hb, Heap.size_push]; exact Nat.lt_succ_self _
    · exact absurd hL (List.mem_singleton.mp hm ▸ Nat.lt_irrefl _)
    · rw [List.mem_singleton.mp hb]; exact hI0
    · exact absurd (Heap.lt_size (N p hp).1) (List.mem_singleton.mp hm ▸ Nat.lt_irrefl _)
    · rintro C i v ys ex s' own mC E' hC hi ⟨c, tc, hc, rfl⟩ hInv hm ct
      exact turn C i c tc ys ex s' own mC E' (fun q hq => Nat.lt_trans (Heap.lt_size (N.grown up q hq).1) hC) hc hInv hm ct
    · exact done
  cases ha : u.cps.all (· < 128)
  · exact wpAny_pyIter_wide ha (rest _ _ (Walks.strWide hh _ u t) ⟨_, Heap.get?_push_size _ rfl, rfl, rfl⟩)
  · exact wpAny_pyIter_ascii ha (rest _ _ (Walks.strAscii hh _ u t) ⟨_, Heap.get?_push_size _ rfl, rfl, rfl⟩)
end
end
section -- CompC
section
variable {prog : Program} {w : World} {A : Around} {E : Value → Shared → Prop} {env : Env} {h₀ : Heap} {L : Addr} {m : Str → Option Value}
theorem block_C {elt iter : Expr} {x : Str} {px : Pos} {ifs : List Expr} {scope : Scope} {cl : List (Str × Addr)} {pos : Pos} {s₂ : Shared} {I : Addr} {fp wr : List Addr} {n : Nat} {P : Nat → Value → Prop} {St : Nat → Heap → Prop} {news : List (Addr × Obj)}
    {RR : Value → Addr → Result → Shared → Prop} (W : Walks prog w A I fp wr n P St)
    (hcell : ∀ y ∈ scope.names, y.2 ≠ .cell) (hkind : scope.kind = .function) (hx : scope.names.lookup x = some .local) (hst : St 0 s₂.heap)
    (hfp : ∀ b ∈ fp, b < s₂.heap.objs.size) (hLf : L ∉ fp) (hwr : ∀ b ∈ wr, h₀.get? b = none) (hnw : ∀ p ∈ news, p.1 ∉ wr) (F : Fr h₀ L s₂.heap m) (N : News h₀ L s₂.heap news)
    (Inv : Nat → List Value → List (Addr × Obj) → Prop) (h0 : Inv 0 [] []) (hsz : ∀ i ys ex, i ≤ n → Inv i ys ex → ys.length ≤ sizeLine)
    (turn : ∀ C i v ys ex s' own mC E', s₂.heap.objs.size < C → i < n → P i v → Inv i ys ex → mC x = some v → CT h₀ L m news C mC own ex s' → TurnGoal prog w A h₀ L m news elt ifs (compEnvC scope cl C env) C mC own ex Inv i ys E' s')
    (hRR : ∀ D C h' tk m' ys ex ep, Inv n ys ex → h'.Ns C m' → Fr h₀ L h' m → News h₀ L h' ((D, listOf ys.toArray ep) :: (ex ++ news)) → D < C → h₀.get? C = none → C ≠ L → (∀ p ∈ news, p.1 < D) → (∀ p ∈ ex, C < p.1) → RR (.ref D) C (.ok .next) { s₂ with heap := h', toks := tk }) :
    wpAny (model prog w) A (newList []) (fun acc s₃ => wpAny (model prog w) A (newFunctionEnv scope env.globals cl [] env.qual none .none (some env)) (fun cenv s₄ =>
      codeAny (model prog w) A (.compStart (.ListComp elt [⟨.Name x px, iter, ifs, 0⟩] scope pos) 0 (.ref I) acc { cenv with scope := relabel scope env }) (RR acc cenv.locals) s₄) E s₃) E s₂ := by
  refine wpAny_newObj_type (wpAny_newFunctionEnv hcell (by intro y hy; simp at hy) (fun h₁ hns₁ hsb₁ => ?_) hkind)
  dsimp only at hns₁ hsb₁ ⊢
  generalize hH2 : s₂.heap.push { cls := .type "list", dict := none, data := .seq ([] : List Value).toArray } = H2 at hns₁ hsb₁ ⊢
  have hC : H2.objs.size = s₂.heap.objs.size + 1 := by rw [← hH2, Heap.size_push]
  have hDC : s₂.heap.objs.size < H2.objs.size := by rw [hC]; exact Nat.lt_succ_self _
  have old : ∀ b o, s₂.heap.get? b = some o → h₁.get? b = some o := fun b o e => hsb₁.extBut b o (Nat.ne_of_lt (Nat.lt_trans (Heap.lt_size e) hDC)) (Heap.get?_push_of_some _ (hH2 ▸ Heap.get?_push_of_some _ e))
  have hacc : h₁.PlainList s₂.heap.objs.size #[] := ⟨_, hsb₁.extBut _ _ (Nat.ne_of_lt hDC) (Heap.get?_push_of_some _ (hH2 ▸ Heap.get?_push_size _ rfl))⟩
  have hst₁ : St 0 h₁ := W.frame _ _ _ hst fun b _ o e => old b o e
  have fresh : ∀ a, s₂.heap.objs.size ≤ a → h₀.get? a = none := fun a ha => by
    cases e : h₀.get? a with
    | none => rfl
    | some o' => exact absurd (Heap.lt_size (F.keep a o' e)) (Nat.not_lt.mpr ha)
  have F₁ : Fr h₀ L h₁ m := F.keeps old
  have N₁ : News h₀ L h₁ news := fun p hp => ⟨old _ _ (N p hp).1, (N p hp).2⟩
  have hL : L < s₂.heap.objs.size := ns_lt F.ns
  have key : ∀ s₃ : Shared, s₃ = { s₂ with heap := h₁, toks := s₂.toks + ([] : List (Str × Value)).length } →
      codeAny (model prog w) A (.compLoop (.ListComp elt [⟨.Name x px, iter, ifs, 0⟩] scope pos) 0 (.ref I) (.ref s₂.heap.objs.size) (compEnvC scope cl H2.objs.size env))
        (RR (.ref s₂.heap.objs.size) H2.objs.size) s₃ := by
    rintro s₃ rfl
    refine comp_loop (cenv := compEnvC scope cl H2.objs.size env) (D := s₂.heap.objs.size) (m := m) (L := L) (h₀ := h₀) W (lookup_relabel_local hx) (by simp [compEnvC, relabel, hkind]) (Nat.ne_of_gt (Nat.lt_trans hL hDC)) (Nat.ne_of_gt hL)
      (fun h => absurd (hfp _ h) (Nat.lt_irrefl _)) (fun b hb => Nat.lt_trans (hfp b hb) hDC) hLf hwr (fresh _ (Nat.le_refl _)) (fresh _ (Nat.le_of_lt hDC))
      (fun p hp => ⟨fun _ => hnw p hp, Heap.lt_size (N p hp).1⟩) hDC hst₁ hacc hns₁ F₁ N₁ Inv h0 hsz (fun i v ys ex s' own mC hi hP hI hm ct => ?_) (fun h' tk m' ys ex ep hI hn' F' N' hex => ?_)
    · exact turn _ i v ys ex s' own mC _ hDC hi hP hI hm ct
    · exact hRR _ _ h' tk m' ys ex ep hI hn' F' N' hDC (fresh _ (Nat.le_of_lt hDC)) (Nat.ne_of_gt (Nat.lt_trans hL hDC)) (fun p hp => Heap.lt_size (N p hp).1) hex
  exact codeAny_compStart_list (key _ rfl) (W.self 0 _ _ _ hst₁ (key _ rfl))
theorem TurnGoal.plain {elt : Expr} {cenv : Env} {news own ex : List (Addr × Obj)} {C : Addr} {mC : Str → Option Value} {Inv : Nat → List Value → List (Addr × Obj) → Prop} {i : Nat} {ys : List Value} {E' : Value → Shared → Prop} {s' : Shared}
    (ct : CT h₀ L m news C mC own ex s') (h : wpAny (model prog w) A (eval elt cenv) (EltEnd h₀ L m news C own ex Inv i ys s') E' s') : TurnGoal prog w A h₀ L m news elt [] cenv C mC own ex Inv i ys E' s' := by
  unfold TurnGoal
  refine wpAny_tests_nil ?_
  refine ⟨⟨s'.heap, s'.toks, rfl⟩, ct, ?_⟩
  rw [if_pos rfl]
  exact h
theorem EltEnd.new {news own ex : List (Addr × Obj)} {C D : Addr} {o : Obj} {mC : Str → Option Value} {Inv : Nat → List Value → List (Addr × Obj) → Prop} {i : Nat} {ys : List Value} {s₃ s' : Shared} {h₄ : Heap} {tk₄ : Nat} (ct : CT h₀ L m news C mC own ex s') (F : Fr h₀ L h₄ m) (N : News h₀ L h₄ ((D, o) :: (own ++ (ex ++ news)))) (hD : ∀ q ∈ own ++ (ex ++ news), q.1 < D) (hI : Inv (i + 1) (ys ++ [.ref D]) ([(D, o)] ++ ex)) :
    EltEnd h₀ L m news C own ex Inv i ys s₃ (.ref D) { s₃ with heap := h₄, toks := tk₄ } := by
  obtain ⟨oC, hC⟩ := ct.has
  refine ⟨h₄, tk₄, [(D, o)], rfl, F, N, fun p hp => ?_, hI⟩
  rw [List.mem_singleton.mp hp]
  exact hD _ (List.mem_append_left _ hC)
/-- what stands behind a comprehension whose value is handed on -/
noncomputable def FinE (h₀ : Heap) (L : Addr) (m : Str → Option Value) (Q : Value → Shared → Prop) (s₁ : Shared) (D : Addr) (ys : List Value) (ep : Nat) (rest : List (Addr × Obj)) : Prop :=
  ∀ h' tk, Fr h₀ L h' m → News h₀ L h' ((D, listOf ys.toArray ep) :: rest) → Q (.ref D) { s₁ with heap := h', toks := tk }
/-- and of one that is stored at once -/
noncomputable def FinA (h₀ : Heap) (L : Addr) (m : Str → Option Value) (y : Str) (Q : Flow → Shared → Prop) (s₁ : Shared) (D : Addr) (ys : List Value) (ep : Nat) (rest : List (Addr × Obj)) : Prop :=
  ∀ h' tk, Fr h₀ L h' (fun z => if z = y then some (.ref D) else m z) → News h₀ L h' ((D, listOf ys.toArray ep) :: rest) → Q .next { s₁ with heap := h', toks := tk }
/-- the walk over a comprehension's source, and what is done at its turns -/
noncomputable def CompAt (prog : Program) (w : World) (A : Around) (h₀ : Heap) (L : Addr) (m : Str → Option Value) (env : Env) (elt : Expr) (x : Str) (ifs : List Expr) (scope : Scope) (cl : List (Str × Addr)) (Fin : Shared → Addr → List Value → Nat → List (Addr × Obj) → Prop) (it : Value) (s₂ : Shared) : Prop :=
  ∃ I fp wr n P St news, it = .ref I ∧ Walks prog w A I fp wr n P St ∧ St 0 s₂.heap ∧
      (∀ b ∈ fp, b < s₂.heap.objs.size) ∧ L ∉ fp ∧ (∀ b ∈ wr, h₀.get? b = none) ∧ (∀ p ∈ news, p.1 ∉ wr) ∧ Fr h₀ L s₂.heap m ∧ News h₀ L s₂.heap news ∧
      ∃ Inv : Nat → List Value → List (Addr × Obj) → Prop, Inv 0 [] [] ∧ (∀ i ys ex, i ≤ n → Inv i ys ex → ys.length ≤ sizeLine) ∧
      (∀ C i v ys ex s' own mC E', s₂.heap.objs.size < C → i < n → P i v → Inv i ys ex → mC x = some v → CT h₀ L m news C mC own ex s' → TurnGoal prog w A h₀ L m news elt ifs (compEnvC scope cl C env) C mC own ex Inv i ys E' s') ∧
      (∀ D ys ex ep, Inv n ys ex → (∀ p ∈ news, p.1 < D) → (∀ p ∈ ex, D < p.1) → Fin s₂ D ys ep (ex ++ news))
theorem comp_evalC {Q : Value → Shared → Prop} {elt iter : Expr} {x : Str} {px : Pos} {ifs : List Expr} {scope : Scope} {cl : List (Str × Addr)} {pos : Pos} {s : Shared} (_F₀ : Fr h₀ L s.heap m)
    (hclos : closureFor scope env = pure cl) (hcell : ∀ y ∈ scope.names, y.2 ≠ .cell) (hkind : scope.kind = .function)
    (hnames : ∀ y ∈ scope.names, y.2 = .local → scope.names.lookup y.1 = some .local) (hx : scope.names.lookup x = some .local)
    (h : wpAny (model prog w) A (eval iter env) (fun xv s₁ => wpAny (model prog w) A (pyIter xv) (CompAt prog w A h₀ L m env elt x ifs scope cl (FinE h₀ L m Q)) E s₁) E s)
    (hs : ∀ x, foldedSetIterable iter env x = pure x := by intro _; rfl) :
    wpAny (model prog w) A (eval (.ListComp elt [⟨.Name x px, iter, ifs, 0⟩] scope pos) env) Q E s := by
  rw [eval_ListComp]
  refine wpAny_comprehension_free (use := none) rfl hs hclos hkind hnames (wpAny_mono h (fun xv s₁ h₁ => wpAny_mono h₁ (fun it s₂ h₂ => ?_) fun _ _ e => e) fun _ _ e => e)
  obtain ⟨I, fp, wr, n, P, St, news, rfl, W, hst, hfp, hLf, hwr, hnw, F, N, Inv, h0, hsz, turn, hQ⟩ := h₂
  refine block_C (RR := fun acc C => compPost (model prog w) A E none Q acc C) W hcell hkind hx hst hfp hLf hwr hnw F N Inv h0 hsz turn ?_
  intro D C h' tk m' ys ex ep hI hn' F' N' hDC hC0 hCL hnD hex
  refine ⟨m', hn', fun h'' hs'' => ?_⟩
  have oth : ∀ b, b ≠ C → h''.get? b = h'.get? b := hs''.2
  refine hQ D ys ex ep hI hnD (fun p hp => Nat.lt_trans hDC (hex p hp)) h'' tk ⟨F'.ns.at' fun o e => (oth L (Ne.symm hCL)).trans e, fun b o e => (oth b fun q => by rw [q, hC0] at e; cases e).trans (F'.keep b o e), F'.above⟩ (fun p hp => ?_)
  refine ⟨(oth p.1 ?_).trans (N' p hp).1, (N' p hp).2⟩
  rcases List.mem_cons.mp hp with rfl | h
  · exact Nat.ne_of_lt hDC
  · rcases List.mem_append.mp h with h | h
    · exact Nat.ne_of_gt (hex p h)
    · exact Nat.ne_of_lt (Nat.lt_trans (hnD p h) hDC)
theorem comp_assignC {elt iter : Expr} {x y : Str} {px py : Pos} {ifs : List Expr} {scope : Scope} {cl : List (Str × Addr)} {pos spos : Pos} {s : Shared} {Q : Flow → Shared → Prop} (_F₀ : Fr h₀ L s.heap m) (hLe : env.locals = L)
    (hsw : swapsWith (.ListComp elt [⟨.Name x px, iter, ifs, 0⟩] scope pos) (some (.Name y py)) spos.line env = pure true)
    (hclos : closureFor scope env = pure cl) (hcell : ∀ z ∈ scope.names, z.2 ≠ .cell) (hkind : scope.kind = .function)
    (hnames : ∀ z ∈ scope.names, z.2 = .local → scope.names.lookup z.1 = some .local) (hx : scope.names.lookup x = some .local)
    (hy : env.kindOf y = some .local) (hp : (env.scope.kind == .class || (env.scope.kind == .module && env.locals != env.globals)) = false)
    (h : wpAny (model prog w) A (eval iter env) (fun xv s₁ => wpAny (model prog w) A (pyIter xv) (CompAt prog w A h₀ L m env elt x ifs scope cl (FinA h₀ L m y Q)) E s₁) E s)
    (hs : ∀ x, foldedSetIterable iter env x = pure x := by intro _; rfl) :
    wpAny (model prog w) A (exec (.Assign [.Name y py] (.ListComp elt [⟨.Name x px, iter, ifs, 0⟩] scope pos) spos) env) Q E s := by
  subst hLe
  rw [exec_Assign_Name_used _ _ _ _ hsw]
  refine wpAny_bind (wpAny_standAt (wpAny_bind ?_))
  show wpAny _ A (do let _ ← comprehension (.ListComp elt [⟨.Name x px, iter, ifs, 0⟩] scope pos) scope env _ (newList []) false (eval iter env) (some (assign (.Name y py) env))) _ _ s
  refine wpAny_bind (wpAny_mono (wpAny_comprehension_free (use := some (assign (.Name y py) env)) (Q := fun _ s' => Q .next s') rfl hs hclos hkind hnames
    (wpAny_mono h (fun xv s₁ h₁ => wpAny_mono h₁ (fun it s₂ h₂ => ?_) fun _ _ e => e) fun _ _ e => e)) (fun _ s' hq => wpAny_pure (wpAny_pure hq)) fun _ _ e => e)
  obtain ⟨I, fp, wr, n, P, St, news, rfl, W, hst, hfp, hLf, hwr, hnw, F, N, Inv, h0, hsz, turn, hQ⟩ := h₂
  refine block_C (RR := fun acc C => compPost (model prog w) A E (some (assign (.Name y py) env)) (fun _ s' => Q .next s') acc C) W hcell hkind hx hst hfp hLf hwr hnw F N Inv h0 hsz turn ?_
  intro D C h' tk m' ys ex ep hI hn' F' N' hDC hC0 hCL hnD hex
  show wpAny _ A (assign (.Name y py) env (.ref D)) _ _ _
  have hL0 : h₀.get? env.locals = none := Heap.get?_none_of_le F'.above
  refine wpAny_assign_Name (wpAny_storeName_local hy F'.ns (fun h₂ hn₂ hs₂ => ?_) hp)
  have F₂ : Fr h₀ env.locals h₂ (fun z => if z = y then some (.ref D) else m z) := ⟨hn₂, fun b o e => hs₂.extBut b o (fun q => by rw [q, hL0] at e; cases e) (F'.keep b o e), F'.above⟩
  refine ⟨m', hn'.sameBut hs₂ hCL, fun h'' hs'' => ?_⟩
  have oth : ∀ b, b ≠ C → h''.get? b = h₂.get? b := hs''.2
  refine hQ D ys ex ep hI hnD (fun p hp => Nat.lt_trans hDC (hex p hp)) h'' _ ⟨F₂.ns.at' fun o e => (oth _ (Ne.symm hCL)).trans e, fun b o e => (oth b fun q => by rw [q, hC0] at e; cases e).trans (F₂.keep b o e), F₂.above⟩ (fun p hp => ?_)
  refine ⟨(oth p.1 ?_).trans ((hs₂.2 p.1 (N' p hp).2.1).trans (N' p hp).1), (N' p hp).2⟩
  rcases List.mem_cons.mp hp with rfl | h
  · exact Nat.ne_of_lt hDC
  · rcases List.mem_append.mp h with h | h
    · exact Nat.ne_of_gt (hex p h)
    · exact Nat.ne_of_lt (Nat.lt_trans (hnD p h) hDC)
theorem iterC_list {elt : Expr} {x : Str} {ifs : List Expr} {scope : Scope} {cl : List (Str × Addr)} {Fin : Shared → Addr → List Value → Nat → List (Addr × Obj) → Prop} {s : Shared} {l : Addr} {its : Array Value} {k : Nat} {news : List (Addr × Obj)}
    (Inv : Nat → List Value → List (Addr × Obj) → Prop) (hh : A.handled = none) (F : Fr h₀ L s.heap m) (N : News h₀ L s.heap news) (hl : (l, listOf its k) ∈ news) (h0 : Inv 0 [] []) (hsz : ∀ i ys ex, i ≤ its.size → Inv i ys ex → ys.length ≤ sizeLine)
    (turn : ∀ C i v ys ex s' own mC E', (∀ q ∈ news, q.1 < C) → its[i]? = some v → Inv i ys ex → mC x = some v → CT h₀ L m news C mC own ex s' → TurnGoal prog w A h₀ L m news elt ifs (compEnvC scope cl C env) C mC own ex Inv i ys E' s')
    (fin : ∀ h D ys ex ep, Inv its.size ys ex → (∀ p ∈ news, p.1 < D) → (∀ p ∈ ex, D < p.1) → Fin { s with heap := h } D ys ep (ex ++ news)) :
    wpAny (model prog w) A (pyIter (.ref l)) (CompAt prog w A h₀ L m env elt x ifs scope cl Fin) E s := by
  have hls : s.heap.IsList l its := PySem.IsL.isList (n := k) (N _ hl).1
  have hlt : l < s.heap.objs.size := by obtain ⟨_, e, _⟩ := hls; exact Heap.lt_size e
  have hL : L < s.heap.objs.size := F.ns.lt
  have hlL : l ≠ L := (N _ hl).2.1
  refine wpAny_pyIter_list hls ?_
  have up : ∀ b o', s.heap.get? b = some o' → (s.heap.push { cls := .type "list_iterator", data := .fields #[.ref l, .int 0 0] }).get? b = some o' := fun b o' e => Heap.get?_push_of_some _ e
  refine ⟨_, _, _, _, _, _, news, rfl, Walks.list hh s.heap.objs.size l (Nat.ne_of_lt hlt) its, ⟨⟨_, Heap.get?_push_size _ rfl, rfl, rfl⟩, hls.push _⟩, fun b hb => ?_, fun hm => ?_, fun b hb => ?_, fun p hp hm => ?_, F.keeps up, N.grown up, Inv, h0, hsz, ?_, ?_⟩
  · show b < (s.heap.push _).objs.size
    rw [Heap.size_push]
    rcases List.mem_cons.mp hb with rfl | hb
    · exact Nat.lt_succ_self _
    · rw [List.mem_singleton.mp hb]; exact Nat.lt_succ_of_lt hlt
  · rcases List.mem_cons.mp hm with e | hb
    · exact absurd hL (e ▸ Nat.lt_irrefl _)
    · exact hlL (List.mem_singleton.mp hb).symm
  · rw [List.mem_singleton.mp hb]; exact next_is_new F
  · exact absurd (Heap.lt_size (N p hp).1) (List.mem_singleton.mp hm ▸ Nat.lt_irrefl _)
  · intro C i v ys ex s' own mC E' hC hi hP hInv hm ct
    exact turn C i v ys ex s' own mC E' (fun q hq => Nat.lt_trans (Heap.lt_size (N.grown up q hq).1) hC) hP hInv hm ct
  · intro D ys ex ep hI hD hex
    exact fin _ D ys ex ep hI hD hex
theorem iterC_rng {elt : Expr} {x : Str} {ifs : List Expr} {scope : Scope} {cl : List (Str × Addr)} {Fin : Shared → Addr → List Value → Nat → List (Addr × Obj) → Prop} {s : Shared} {r : Addr} {a b : Int} {t u v : Tok} {n : Nat} {news : List (Addr × Obj)}
    (Inv : Nat → List Value → List (Addr × Obj) → Prop) (hr : IsRange s.heap r a b 1 t u v) (hsm : Builtin.Range.small a b 1 = true) (hn : Builtin.Range.rangeSize a b 1 = ((n : Nat) : Int)) (hh : A.handled = none) (F : Fr h₀ L s.heap m) (N : News h₀ L s.heap news) (h0 : Inv 0 [] []) (hsz : ∀ i ys ex, i ≤ n → Inv i ys ex → ys.length ≤ sizeLine)
    (turn : ∀ C i t ys ex s' own mC E', (∀ q ∈ news, q.1 < C) → i < n → Inv i ys ex → mC x = some (.int (a + (i : Int)) t) → CT h₀ L m news C mC own ex s' → TurnGoal prog w A h₀ L m news elt ifs (compEnvC scope cl C env) C mC own ex Inv i ys E' s')
    (fin : ∀ h D ys ex ep, Inv n ys ex → (∀ p ∈ news, p.1 < D) → (∀ p ∈ ex, D < p.1) → Fin { s with heap := h } D ys ep (ex ++ news)) :
    wpAny (model prog w) A (pyIter (.ref r)) (CompAt prog w A h₀ L m env elt x ifs scope cl Fin) E s := by
  have hL : L < s.heap.objs.size := F.ns.lt
  refine wpAny_pyIter_range hr hsm ?_
  have up : ∀ (o : Obj) b o', s.heap.get? b = some o' → (s.heap.push o).get? b = some o' := fun o b o' e => Heap.get?_push_of_some _ e
  refine ⟨_, _, _, _, _, _, news, rfl, LCg.range_walks hh a n, by show IsRangeIter _ _ _ _ _; rw [hn]; simpa using Heap.get?_push_size _ rfl, fun b hb => ?_, fun hm => ?_, fun b hb => ?_, fun p hp hm => ?_, F.keeps (up _), N.grown (up _), Inv, h0, hsz, ?_, ?_⟩
  · rw [List.mem_singleton.mp hb]; show s.heap.objs.size < (s.heap.push _).objs.size; rw [Heap.size_push]; exact Nat.lt_succ_self _
  · exact absurd hL (List.mem_singleton.mp hm ▸ Nat.lt_irrefl _)
  · rw [List.mem_singleton.mp hb]; exact next_is_new F
  · exact absurd (Heap.lt_size (N p hp).1) (List.mem_singleton.mp hm ▸ Nat.lt_irrefl _)
  · rintro C i v ys ex s' own mC E' hC hi ⟨t, rfl⟩ hInv hm ct
    exact turn C i t ys ex s' own mC E' (fun q hq => Nat.lt_trans (Heap.lt_size (N.grown (up _) q hq).1) hC) hi hInv hm ct
  · intro D ys ex ep hI hD hex
    exact fin _ D ys ex ep hI hD hex
end
end
section -- TupL
noncomputable abbrev tup2 (a b : Str) (ta tb : Tok) : Obj := { cls := .type "tuple", data := .seq [Value.str a ta, .str b tb].toArray }
/-- a list of pairs of texts: each a tuple that stands in N -/
noncomputable def TupsAt (N : List (Addr × Obj)) (ys : List Value) (ps : List (Str × Str)) : Prop := ys.length = ps.length ∧ ∀ (i : Nat) (p : Str × Str), ps[i]? = some p → ∃ (D : Addr) (ta tb : Tok), ys[i]? = some (Value.ref D) ∧ (D, tup2 p.1 p.2 ta tb) ∈ N
theorem TupsAt.nil {N : List (Addr × Obj)} : TupsAt N [] [] := ⟨rfl, fun i p h => nomatch h⟩
theorem TupsAt.mono {N N' : List (Addr × Obj)} {ys : List Value} {ps : List (Str × Str)} (h : TupsAt N ys ps) (s : ∀ p ∈ N, p ∈ N') : TupsAt N' ys ps :=
  ⟨h.1, fun i p e => let ⟨D, ta, tb, e1, e2⟩ := h.2 i p e; ⟨D, ta, tb, e1, s _ e2⟩⟩
theorem TupsAt.append {N : List (Addr × Obj)} {ys zs : List Value} {ps qs : List (Str × Str)} (h : TupsAt N ys ps) (g : TupsAt N zs qs) : TupsAt N (ys ++ zs) (ps ++ qs) := by
  refine ⟨by rw [List.length_append, List.length_append, h.1, g.1], fun i p e => ?_⟩
  by_cases hi : i < ps.length
  · rw [List.getElem?_append_left hi] at e
    obtain ⟨D, ta, tb, e1, e2⟩ := h.2 i p e
    exact ⟨D, ta, tb, by rw [List.getElem?_append_left (by rw [h.1]; exact hi)]; exact e1, e2⟩
  · rw [List.getElem?_append_right (by omega)] at e
    obtain ⟨D, ta, tb, e1, e2⟩ := g.2 _ p e
    exact ⟨D, ta, tb, by rw [List.getElem?_append_right (by rw [h.1]; omega), h.1]; exact e1, e2⟩
theorem TupsAt.one {N : List (Addr × Obj)} {D : Addr} {a b : Str} {ta tb : Tok} (h : (D, tup2 a b ta tb) ∈ N) : TupsAt N [.ref D] [(a, b)] := by
  refine ⟨rfl, fun i p e => ?_⟩
  match i, e with
  | 0, e => cases e; exact ⟨D, ta, tb, rfl, h⟩
theorem TupsAt.get {N : List (Addr × Obj)} {ys : List Value} {ps : List (Str × Str)} (h : TupsAt N ys ps) {i : Nat} {v : Value} (e : ys[i]? = some v) : ∃ p D ta tb, ps[i]? = some p ∧ v = .ref D ∧ (D, tup2 p.1 p.2 ta tb) ∈ N := by
  have hi : i < ps.length := by rw [← h.1]; exact (List.getElem?_eq_some_iff.mp e).1
  obtain ⟨D, ta, tb, e1, e2⟩ := h.2 i _ (List.getElem?_eq_getElem hi)
  exact ⟨_, D, ta, tb, List.getElem?_eq_getElem hi, by rw [e] at e1; exact Option.some.inj e1, e2⟩
section
variable {prog : Program} {w : World} {A : Around} {E : Value → Shared → Prop} {s : Shared} {h₀ : Heap} {L D : Addr} {news : List (Addr × Obj)} {value slice : PySem.Expr} {Q : Value → Shared → Prop}
theorem isTup_of {h : Heap} {a b : Str} {ta tb : Tok} (e : h.get? D = some (tup2 a b ta tb)) : IsTup h D #[.str a ta, .str b tb] := ⟨_, e, rfl, _, rfl⟩
theorem sub_tup0 {a b : Str} {ta tb u : Tok} (N : News h₀ L s.heap news) (hm : (D, tup2 a b ta tb) ∈ news) (h : Q (.str a ta) s) (hs : subscripted slice false (.ref D) (.int 0 u) = operate [.ref D, .int 0 u] (getItem (.ref D) (.int 0 u)) := by with_unfolding_all rfl) :
    wpAny (model prog w) A (subscriptTail value slice (.ref D) (.int 0 u)) Q E s :=
  have ht := isTup_of (N _ hm).1
  tail_any ht.typeIs slot_tuple_getitem.lookup (getItem_tuple (j := 0) ht (by decide) (by decide) rfl rfl h) hs
theorem sub_tup1 {a b : Str} {ta tb u : Tok} (N : News h₀ L s.heap news) (hm : (D, tup2 a b ta tb) ∈ news) (h : Q (.str b tb) s) (hs : subscripted slice false (.ref D) (.int 1 u) = operate [.ref D, .int 1 u] (getItem (.ref D) (.int 1 u)) := by with_unfolding_all rfl) :
    wpAny (model prog w) A (subscriptTail value slice (.ref D) (.int 1 u)) Q E s :=
  have ht := isTup_of (N _ hm).1
  tail_any ht.typeIs slot_tuple_getitem.lookup (getItem_tuple (j := 1) ht (by decide) (by decide) rfl rfl h) hs
end
end
section -- S15
theorem fill15 : PySem.Challenge.rw_uq0027_01 = PySem.Challenge.rw_uq0027_01 ∧ KK = KK := by
  k_fill
  exact ⟨rfl, rfl⟩
variable {w : World} {mean : ExcName → Option Value} {mg mb : Str → Option Value}
local macro_rules | `(tactic| k_room) => `(tactic| ktr_room)
theorem lt_news {h₀ h : Heap} {L : Addr} {news : List (Addr × Obj)} (N : News h₀ L h news) {q : Addr × Obj} (hq : q ∈ news) : q.1 < h.objs.size := Heap.lt_size (N q hq).1
theorem new_or {D : Addr} {o : Obj} {pre news : List (Addr × Obj)} (h : ∀ q ∈ pre ++ news, q.1 < D) : ∀ p ∈ (D, o) :: pre, p.1 ∈ pre.map (·.1) ∨ ∀ q ∈ pre ++ news, q.1 < p.1 := fun p hp => by
  rcases List.mem_cons.mp hp with e | e
  · rw [e]; exact .inr h
  · exact .inl (List.mem_map_of_mem (f := (·.1)) e)
theorem items_ret {Q : Value → Shared → Prop} {s : Shared} {h₀ h' : Heap} {L D : Addr} {m : Str → Option Value} {news : List (Addr × Obj)} {tk : Nat} {P : Params} {hx hd hl : Addr} {k1 : Tok} {its : Array Value} {n : Nat}
    (hret : ∀ v new h' tk, (∃ D, v = Value.ref D ∧ new = (D, listOf its 0) :: hdrL P hx hd hl k1 its n) → Fr h₀ L h' m → News h₀ L h' (new ++ news) → (∀ p ∈ new, p.1 ∈ (hdrL P hx hd hl k1 its n).map (·.1) ∨ ∀ q ∈ hdrL P hx hd hl k1 its n ++ news, q.1 < p.1) → Q v { s with heap := h', toks := tk })
    (F : Fr h₀ L h' m) (N : News h₀ L h' ((D, ({ cls := .type "list", data := .seq (slicePick its none none none) } : Obj)) :: (hdrL P hx hd hl k1 its n ++ news))) (l0 : ∀ q ∈ hdrL P hx hd hl k1 its n ++ news, q.1 < D) : Q (.ref D) { s with heap := h', toks := tk } := by
  rw [slicePick_all] at N
  exact hret _ _ _ _ ⟨D, rfl, rfl⟩ F N (new_or l0)
set_option maxHeartbeats 4000000 in
theorem sum_items (hx hd hl : Addr) (o1 : @LT.lt Nat _ hd hx) (o2 : @LT.lt Nat _ hx hl) (k1 : Tok) (its : Array Value) (n : Nat) (hz : its.size ≤ 1000) :
    SumT w mean mg mb (.ref 270) [.ref hx] [] 2 24 (hdrL w.params hx hd hl k1 its n) (fun v new => ∃ D, v = .ref D ∧ new = (D, listOf its 0) :: hdrL w.params hx hd hl k1 its n) := by
  intro news dp un gd cn cs a ccd cl outer A₀ base h₀ L m s Q E B F X N hoff T hk hdp hun hret
  simp only [hdrL, List.nil_append, List.cons_append] at N
  simp only [hdrL, List.map_cons, List.map_nil] at hoff
  refine wpAny_call ?_
  k_dflt cell_enter
  k_steps
  exact items_ret hret (by k_asm) (by k_asm) (fun q hq => Nat.lt_succ_of_lt (lt_news (by assumption) hq))
local macro_rules | `(tactic| walk_at "getMethod ref") => `(tactic| walk_at "m0")
local macro_rules | `(tactic| walk_at "eval ListComp") => `(tactic| (k_here; (with_reducible refine comp_hold ?_)))
local macro_rules | `(tactic| walk_at "exec Assign cons ListComp") => `(tactic| (k_here; (with_reducible refine comp_hold ?_)))
/-- what get_all gives -/
noncomputable def getP (ps : List (Str × Str)) (x : Str) : List Str := (ps.filter fun p => Txt.lower p.1 == Txt.lower x).map (·.2)
noncomputable abbrev getPost (P : Params) (hx hd hl : Addr) (k1 : Tok) (its : Array Value) (n : Nat) (tups : List (Addr × Obj)) (ps : List (Str × Str)) (x : Str) (v : Value) (new : List (Addr × Obj)) : Prop :=
  ∃ D us e, v = .ref D ∧ StrsAre us (getP ps x) ∧ new = (D, listOf us.toArray e) :: (hdrL P hx hd hl k1 its n ++ tups)
noncomputable def getI (ps : List (Str × Str)) (x : Str) (i : Nat) (ys : List Value) (ex : List (Addr × Obj)) : Prop := StrsAre ys (getP (ps.take i) x) ∧ ex = [] ∧ i ≤ ps.length
theorem getI_sz {ps : List (Str × Str)} {x : Str} {tups : List (Addr × Obj)} {its : Array Value} (htup : TupsAt tups its.toList ps) (hz : its.size ≤ 1000) : ∀ i ys ex, i ≤ its.size → getI ps x i ys ex → ys.length ≤ sizeLine := by
  intro i ys ex hi hI
  have h1 := hI.1.length
  have h2 : (getP (ps.take i) x).length ≤ (ps.take i).length := by unfold getP; rw [List.length_map]; exact List.length_filter_le _ _
  rw [List.length_take] at h2
  rw [sizeLine_eq]
  omega
theorem take_succP {ps : List (Str × Str)} {i : Nat} {p : Str × Str} (hp : ps[i]? = some p) : ps.take (i + 1) = ps.take i ++ [p] := by rw [List.take_add_one, hp]; rfl
theorem getI_take {ps : List (Str × Str)} {x : Str} {i : Nat} {p : Str × Str} {ys : List Value} {ex : List (Addr × Obj)} {tb : Tok} (hp : ps[i]? = some p) (h : (Txt.lower p.1 == Txt.lower x) = true) (hI : getI ps x i ys ex) : getI ps x (i + 1) (ys ++ [.str p.2 tb]) ([] ++ ex) := by
  refine ⟨?_, hI.2.1, (List.getElem?_eq_some_iff.mp hp).1⟩
  have e : getP (ps.take (i + 1)) x = getP (ps.take i) x ++ [p.2] := by rw [take_succP hp]; simp [getP, h]
  rw [e]
  exact hI.1.append' (.cons _ _ .nil)
theorem getI_skip {ps : List (Str × Str)} {x : Str} {i : Nat} {p : Str × Str} {ys : List Value} {ex : List (Addr × Obj)} (hp : ps[i]? = some p) (h : (Txt.lower p.1 == Txt.lower x) = false) (hI : getI ps x i ys ex) : getI ps x (i + 1) ys ex := by
  refine ⟨?_, hI.2.1, (List.getElem?_eq_some_iff.mp hp).1⟩
  have e : getP (ps.take (i + 1)) x = getP (ps.take i) x := by rw [take_succP hp]; simp [getP, h]
  rw [e]
  exact hI.1
theorem ga_mem {a c q : Addr × Obj} {pre tups news : List (Addr × Obj)} (h : q ∈ a :: (pre ++ tups) ++ news) : q ∈ a :: ([] ++ c :: (pre ++ (tups ++ news))) := by
  simp only [List.mem_cons, List.mem_append, List.cons_append, List.nil_append] at h ⊢
  rcases h with h | ((h | h) | h)
  · exact .inl h
  · exact .inr (.inr (.inl h))
  · exact .inr (.inr (.inr (.inl h)))
  · exact .inr (.inr (.inr (.inr h)))
theorem ga_mem2 {c q : Addr × Obj} {pre tups news : List (Addr × Obj)} (h : q ∈ pre ++ tups ++ news) : q ∈ c :: (pre ++ (tups ++ news)) := by
  rw [List.append_assoc] at h
  exact List.mem_cons_of_mem _ h
theorem getall_ret {Q : Value → Shared → Prop} {s : Shared} {h₀ h' : Heap} {L D : Addr} {m : Str → Option Value} {news tups ex : List (Addr × Obj)} {tk : Nat} {P : Params} {hx hd hl : Addr} {k1 : Tok} {its : Array Value} {n ep : Nat} {ps : List (Str × Str)} {x : Str} {ys : List Value} {c : Addr × Obj}
    (hret : ∀ v new h' tk, getPost P hx hd hl k1 its n tups ps x v new → Fr h₀ L h' m → News h₀ L h' (new ++ news) → (∀ p ∈ new, p.1 ∈ (hdrL P hx hd hl k1 its n ++ tups).map (·.1) ∨ ∀ q ∈ hdrL P hx hd hl k1 its n ++ tups ++ news, q.1 < p.1) → Q v { s with heap := h', toks := tk })
    (htup : TupsAt tups its.toList ps) (hI : getI ps x its.size ys ex)
    (F : Fr h₀ L h' m) (N : News h₀ L h' ((D, listOf ys.toArray ep) :: (ex ++ c :: (hdrL P hx hd hl k1 its n ++ (tups ++ news))))) (l0 : ∀ q ∈ c :: (hdrL P hx hd hl k1 its n ++ (tups ++ news)), q.1 < D) : Q (.ref D) { s with heap := h', toks := tk } := by
  have e : ps.take its.size = ps := by rw [show its.size = ps.length from htup.1, List.take_length]
  obtain ⟨hI1, rfl, _⟩ := hI
  rw [e] at hI1
  refine hret _ _ _ _ ⟨D, ys, ep, rfl, hI1, rfl⟩ F (nsub N fun q hq => ?_) (new_or fun q hq => l0 q ?_)
  · exact ga_mem hq
  · exact ga_mem2 hq
local macro_rules | `(tactic| k_mem) => `(tactic| (with_reducible refine' List.mem_append_right _ (List.mem_append_right _ ?k9); case k9 => k_mem))
local macro_rules | `(tactic| walk_at "eval Name") => `(tactic| (k_here; (with_reducible show wpAny _ _ (eval (Expr.Name _ _) (compEnvC _ _ _ _)) _ _ _); k_dflt (refine' wpAny_Name (wpAny_loadName_local ?ja ?jb ?jc ?jd ?_) ?je; (case jc => assumption); (case jd => assumption); (case ja => exact rfl); (case jb => exact rfl); (case je => decide))))
set_option maxHeartbeats 4000000 in
theorem sum_getall (hx hd hl : Addr) (o1 : @LT.lt Nat _ hd hx) (o2 : @LT.lt Nat _ hx hl) (k1 : Tok) (its : Array Value) (n : Nat) (hz : its.size ≤ 1000) (tups : List (Addr × Obj)) (ps : List (Str × Str)) (htup : TupsAt tups its.toList ps) (x : Str) (t : Tok) (hok : (Txt.lower x).cps.toList.all okC = true) (hxl : x.length ≤ 100) (hpl : ∀ p ∈ ps, p.1.length ≤ 100) :
    SumT w mean mg mb (.ref 245) [.ref hx, .str x t] [] 2 24 (hdrL w.params hx hd hl k1 its n ++ tups) (getPost w.params hx hd hl k1 its n tups ps x) := by
  intro news dp un gd cn cs a ccd cl outer A₀ base h₀ L m s Q E B F X N hoff T hk hdp hun hret
  simp only [hdrL, List.nil_append, List.cons_append] at N
  simp only [hdrL, List.map_cons, List.map_nil, List.cons_append, List.nil_append] at hoff
  refine wpAny_call ?_
  k_dflt (refine' code_defC ?k1 ?k2 ?k3 ?k4 ?k5 ?kA ?kF ?kK ?k6 ?k7 ?k8 ?k9 ?kB ?kD ?_ ?c2 ?c3 ?c4; (case kA => exact rfl); (case kF => exact rfl); (case kK => assumption); (case k1 => k_asm); (case k2 => k_asm); (case k3 => k_asm); (case k4 => k_asm); (case k5 => k_asm); (case k6 => k_is); (case k7 => k_is); (case k8 => ktr_room); (case k9 => exact BindsTo.of_eq rfl); (case kB => exact rfl); (case kD => decide +kernel); (case c2 => exact rfl); (case c3 => exact rfl); (case c4 => exact rfl); k_whole; intro g' L' h' tk' cells' FG' F' N' Y' B' X' T' l1; (have l0 := l1); (have a1 := fun p hp => Nat.lt_succ_of_lt (l1 p hp)); (try k_lt l1); (try k_lt a1); k_cells Y'; (try simp only [List.cons_append, List.nil_append] at N'); (try dsimp only); (try k_lift B'); (try k_fold))
  (repeat' (first | with_reducible ((show wpAny _ _ (subscriptTail _ _ (Value.ref _) _) _ _ _); ((with_reducible show wpAny _ _ (subscriptTail _ _ (Value.ref _) (Value.int 1 _)) _ _ _); k_dflt (refine' sub_tup1 ?zza ?zzb ?_ ?zzg; (case zza => k_asm); (case zzb => exact List.mem_append_right _ (List.mem_append_right _ (List.mem_cons_of_mem _ (List.mem_cons_of_mem _ (List.mem_cons_of_mem _ (List.mem_cons_of_mem _ (by assumption))))))); (case zzg => with_unfolding_all rfl)))) | with_reducible ((show wpAny _ _ (subscriptTail _ _ (Value.ref _) _) _ _ _); ((with_reducible show wpAny _ _ (subscriptTail _ _ (Value.ref _) (Value.int 0 _)) _ _ _); k_dflt (refine' sub_tup0 ?zza ?zzb ?_ ?zzg; (case zza => k_asm); (case zzb => exact List.mem_append_right _ (List.mem_append_right _ (List.mem_cons_of_mem _ (List.mem_cons_of_mem _ (List.mem_cons_of_mem _ (List.mem_cons_of_mem _ (by assumption))))))); (case zzg => with_unfolding_all rfl)))) | with_reducible ((show wpAny _ _ (call (Value.builtin "re.Pattern.search") _) _ _ _); (k_dflt (first | (refine' search172 ?zzjX ?zzjF ?zzjh ?_; (case zzjX => k_asm); (case zzjF => k_asm); (case zzjh => assumption)) | (refine' search177 ?zzjX ?zzjF ?zzjh ?_; (case zzjX => k_asm); (case zzjF => k_asm); (case zzjh => assumption))))) | walk_at "st"))
  unfold CompHold
  k_dflt (refine' comp_evalC ?jF0 ?hclos ?hcell ?hkind ?hnames ?hxx ?hit ?hs)
  case jF0 => k_asm
  case hclos => with_unfolding_all rfl
  case hcell => decide
  case hkind => exact rfl
  case hnames => decide
  case hxx => decide
  case hs => intro x; rfl
  case hit =>
    (repeat' (first | with_reducible ((show wpAny _ _ (subscriptTail _ _ (Value.ref _) _) _ _ _); ((with_reducible show wpAny _ _ (subscriptTail _ _ (Value.ref _) (Value.int 1 _)) _ _ _); k_dflt (refine' sub_tup1 ?zza ?zzb ?_ ?zzg; (case zza => k_asm); (case zzb => exact List.mem_append_right _ (List.mem_append_right _ (List.mem_cons_of_mem _ (List.mem_cons_of_mem _ (List.mem_cons_of_mem _ (List.mem_cons_of_mem _ (by assumption))))))); (case zzg => with_unfolding_all rfl)))) | with_reducible ((show wpAny _ _ (subscriptTail _ _ (Value.ref _) _) _ _ _); ((with_reducible show wpAny _ _ (subscriptTail _ _ (Value.ref _) (Value.int 0 _)) _ _ _); k_dflt (refine' sub_tup0 ?zza ?zzb ?_ ?zzg; (case zza => k_asm); (case zzb => exact List.mem_append_right _ (List.mem_append_right _ (List.mem_cons_of_mem _ (List.mem_cons_of_mem _ (List.mem_cons_of_mem _ (List.mem_cons_of_mem _ (by assumption))))))); (case zzg => with_unfolding_all rfl)))) | with_reducible ((show wpAny _ _ (call (Value.builtin "re.Pattern.search") _) _ _ _); (k_dflt (first | (refine' search172 ?zzjX ?zzjF ?zzjh ?_; (case zzjX => k_asm); (case zzjF => k_asm); (case zzjh => assumption)) | (refine' search177 ?zzjX ?zzjF ?zzjh ?_; (case zzjX => k_asm); (case zzjF => k_asm); (case zzjh => assumption))))) | walk_at "st"))
    refine' iterC_list (getI ps x) ?jh ?jF ?jN ?jm ⟨.nil, rfl, Nat.zero_le _⟩ ?hsz ?turn ?fin
    case jh => exact rfl
    case jF => k_asm
    case jN => k_asm
    case jm => k_mem
    case hsz => exact getI_sz htup hz
    case turn =>
      intro C i v ys ex s' own mC E' hC hv hI hm ct
      obtain ⟨p, D, ta, tb, hp, rfl, hmem⟩ := htup.get (i := i) (v := v) (by simpa using hv)
      have hpl' := hpl p (List.mem_of_getElem? hp)
      have hmem2 := List.mem_append_left news hmem
      have F1 := ct.F
      have N1 := ct.N
      have nC := ct.ns _ ct.N
      unfold TurnGoal
      (repeat' (first | with_reducible ((show wpAny _ _ (subscriptTail _ _ (Value.ref _) _) _ _ _); ((with_reducible show wpAny _ _ (subscriptTail _ _ (Value.ref _) (Value.int 1 _)) _ _ _); k_dflt (refine' sub_tup1 ?zza ?zzb ?_ ?zzg; (case zza => k_asm); (case zzb => exact List.mem_append_right _ (List.mem_append_right _ (List.mem_cons_of_mem _ (List.mem_cons_of_mem _ (List.mem_cons_of_mem _ (List.mem_cons_of_mem _ (by assumption))))))); (case zzg => with_unfolding_all rfl)))) | with_reducible ((show wpAny _ _ (subscriptTail _ _ (Value.ref _) _) _ _ _); ((with_reducible show wpAny _ _ (subscriptTail _ _ (Value.ref _) (Value.int 0 _)) _ _ _); k_dflt (refine' sub_tup0 ?zza ?zzb ?_ ?zzg; (case zza => k_asm); (case zzb => exact List.mem_append_right _ (List.mem_append_right _ (List.mem_cons_of_mem _ (List.mem_cons_of_mem _ (List.mem_cons_of_mem _ (List.mem_cons_of_mem _ (by assumption))))))); (case zzg => with_unfolding_all rfl)))) | with_reducible ((show wpAny _ _ (call (Value.builtin "re.Pattern.search") _) _ _ _); (k_dflt (first | (refine' search172 ?zzjX ?zzjF ?zzjh ?_; (case zzjX => k_asm); (case zzjF => k_asm); (case zzjh => assumption)) | (refine' search177 ?zzjX ?zzjF ?zzjh ?_; (case zzjX => k_asm); (case zzjF => k_asm); (case zzjh => assumption))))) | walk_at "st"))
      refine TestEnd.mk ct (by k_asm) (by k_asm) (fun hok2 ct2 => ?_) (fun hok2 => ?_)
      · have F2 := ct2.F
        have N2 := ct2.N
        have nC2 := ct2.ns _ ct2.N
        (repeat' (first | with_reducible ((show wpAny _ _ (subscriptTail _ _ (Value.ref _) _) _ _ _); ((with_reducible show wpAny _ _ (subscriptTail _ _ (Value.ref _) (Value.int 1 _)) _ _ _); k_dflt (refine' sub_tup1 ?zza ?zzb ?_ ?zzg; (case zza => k_asm); (case zzb => exact List.mem_append_right _ (List.mem_append_right _ (List.mem_cons_of_mem _ (List.mem_cons_of_mem _ (List.mem_cons_of_mem _ (List.mem_cons_of_mem _ (by assumption))))))); (case zzg => with_unfolding_all rfl)))) | with_reducible ((show wpAny _ _ (subscriptTail _ _ (Value.ref _) _) _ _ _); ((with_reducible show wpAny _ _ (subscriptTail _ _ (Value.ref _) (Value.int 0 _)) _ _ _); k_dflt (refine' sub_tup0 ?zza ?zzb ?_ ?zzg; (case zza => k_asm); (case zzb => exact List.mem_append_right _ (List.mem_append_right _ (List.mem_cons_of_mem _ (List.mem_cons_of_mem _ (List.mem_cons_of_mem _ (List.mem_cons_of_mem _ (by assumption))))))); (case zzg => with_unfolding_all rfl)))) | with_reducible ((show wpAny _ _ (call (Value.builtin "re.Pattern.search") _) _ _ _); (k_dflt (first | (refine' search172 ?zzjX ?zzjF ?zzjh ?_; (case zzjX => k_asm); (case zzjF => k_asm); (case zzjh => assumption)) | (refine' search177 ?zzjX ?zzjF ?zzjh ?_; (case zzjX => k_asm); (case zzjF => k_asm); (case zzjh => assumption))))) | walk_at "st"))
        exact EltEnd.mk (g := []) (by k_asm) (by k_asm) (fun _ h => nomatch h) (getI_take hp hok2 hI)
      · exact getI_skip hp hok2 hI
    case fin =>
      intro h D ys ex ep hI hD hex h2 tk F2 N2
      dsimp only
      (repeat' (first | with_reducible ((show wpAny _ _ (subscriptTail _ _ (Value.ref _) _) _ _ _); ((with_reducible show wpAny _ _ (subscriptTail _ _ (Value.ref _) (Value.int 1 _)) _ _ _); k_dflt (refine' sub_tup1 ?zza ?zzb ?_ ?zzg; (case zza => k_asm); (case zzb => exact List.mem_append_right _ (List.mem_append_right _ (List.mem_cons_of_mem _ (List.mem_cons_of_mem _ (List.mem_cons_of_mem _ (List.mem_cons_of_mem _ (by assumption))))))); (case zzg => with_unfolding_all rfl)))) | with_reducible ((show wpAny _ _ (subscriptTail _ _ (Value.ref _) _) _ _ _); ((with_reducible show wpAny _ _ (subscriptTail _ _ (Value.ref _) (Value.int 0 _)) _ _ _); k_dflt (refine' sub_tup0 ?zza ?zzb ?_ ?zzg; (case zza => k_asm); (case zzb => exact List.mem_append_right _ (List.mem_append_right _ (List.mem_cons_of_mem _ (List.mem_cons_of_mem _ (List.mem_cons_of_mem _ (List.mem_cons_of_mem _ (by assumption))))))); (case zzg => with_unfolding_all rfl)))) | with_reducible ((show wpAny _ _ (call (Value.builtin "re.Pattern.search") _) _ _ _); (k_dflt (first | (refine' search172 ?zzjX ?zzjF ?zzjh ?_; (case zzjX => k_asm); (case zzjF => k_asm); (case zzjh => assumption)) | (refine' search177 ?zzjX ?zzjF ?zzjh ?_; (case zzjX => k_asm); (case zzjF => k_asm); (case zzjh => assumption))))) | walk_at "st"))
      exact getall_ret hret htup hI (by k_asm) (by k_asm) hD
end
section -- S17
theorem fill17 : PySem.Challenge.rw_uq0027_01 = PySem.Challenge.rw_uq0027_01 ∧ KK = KK := by
  k_fill
  exact ⟨rfl, rfl⟩
variable {w : World} {mean : ExcName → Option Value} {mg mb : Str → Option Value}
local macro_rules | `(tactic| k_room) => `(tactic| ktr_room)
section
variable {prog : Program} {A : Around} {E : Value → Shared → Prop} {s : Shared} {env : Env} {h₀ : Heap} {L : Addr}
noncomputable def EmptyAt (h₀ : Heap) (L : Addr) (Q : Flow → Shared → Prop) (xv : Value) (s₁ : Shared) : Prop :=
  ∃ l k m news, xv = .ref l ∧ Fr h₀ L s₁.heap m ∧ News h₀ L s₁.heap news ∧ (l, listOf #[] k) ∈ news ∧ ∀ h' tk, Fr h₀ L h' m → News h₀ L h' news → Q .next { s₁ with heap := h', toks := tk }
theorem EmptyAt.mk {Q : Flow → Shared → Prop} {l : Addr} {k : Nat} {m : Str → Option Value} {news : List (Addr × Obj)} (F : Fr h₀ L s.heap m) (N : News h₀ L s.heap news) (hl : (l, listOf #[] k) ∈ news) (h : ∀ h' tk, Fr h₀ L h' m → News h₀ L h' news → Q .next { s with heap := h', toks := tk }) : EmptyAt h₀ L Q (.ref l) s := ⟨l, k, m, news, rfl, F, N, hl, h⟩
theorem for_none {m : Str → Option Value} {target iter : Expr} {body : List Stmt} {pos : Pos} {Q : Flow → Shared → Prop} (_F : Fr h₀ L s.heap m) (hh : A.handled = none) (hE : PassesOwn (model prog w) A env E)
    (h : wpAny (model prog w) A (eval iter env) (EmptyAt h₀ L Q) E s) (hs : ∀ x, foldedSetIterable iter env x = pure x := by intro _; rfl) :
    wpAny (model prog w) A (exec (.For target iter body [] pos) env) Q E s := by
  refine wpAny_For (wpAny_mono h (fun xv s₁ h₁ => ?_) fun _ _ e => e) hs
  obtain ⟨l, k, m, news, rfl, F, N, hl, hQ⟩ := h₁
  have hls : s₁.heap.IsList l #[] := PySem.IsL.isList (n := k) (N _ hl).1
  have hlt : l < s₁.heap.objs.size := by obtain ⟨_, e, _⟩ := hls; exact Heap.lt_size e
  refine wpAny_pyIter_list hls ?_
  have up : ∀ b o', s₁.heap.get? b = some o' → (s₁.heap.push { cls := .type "list_iterator", data := .fields #[.ref l, .int 0 0] }).get? b = some o' := fun b o' e => Heap.get?_push_of_some _ e
  have W := Walks.list (prog := prog) (w := w) hh s₁.heap.objs.size l (Nat.ne_of_lt hlt) #[]
  have F1 := F.keeps up
  have N1 := N.grown up
  have hst : (s₁.heap.push { cls := .type "list_iterator", data := .fields #[.ref l, .int 0 0] }).IsListIter s₁.heap.objs.size l 0 ∧ (s₁.heap.push { cls := .type "list_iterator", data := .fields #[.ref l, .int 0 0] }).IsList l #[] := ⟨⟨_, Heap.get?_push_size _ rfl, rfl, rfl⟩, hls.push _⟩
  have hI0 : h₀.get? s₁.heap.objs.size = none := next_is_new F
  generalize (s₁.heap.push { cls := .type "list_iterator", data := .fields #[.ref l, .int 0 0] }) = H at F1 N1 hst ⊢
  refine codeAny_forLoop_any (fun n s' => s' = { s₁ with heap := H }) ?_ 0 rfl
  rintro n s' rfl
  refine W.done _ _ _ hst fun h₂ tk₂ hk₂ => ?_
  refine wpAny_execs_nil ?_
  refine hQ h₂ tk₂ ⟨F1.ns.at' fun o e => hk₂ L o (fun hm => ?_) e, fun b o e => hk₂ b o (fun hm => ?_) (F1.keep b o e), F1.above⟩ fun p hp => ⟨hk₂ _ _ (fun hm => ?_) (N1 p hp).1, (N1 p hp).2⟩
  · exact absurd F.ns.lt (List.mem_singleton.mp hm ▸ Nat.lt_irrefl _)
  · rw [List.mem_singleton.mp hm, hI0] at e; cases e
  · exact absurd (Heap.lt_size (N p hp).1) (List.mem_singleton.mp hm ▸ Nat.lt_irrefl _)
end
noncomputable abbrev hdrPost (P : Params) (v : Value) (new : List (Addr × Obj)) : Prop :=
  ∃ hx hd hl k1 n, v = .ref hx ∧ @LT.lt Nat _ hd hx ∧ @LT.lt Nat _ hx hl ∧ new = hdrL P hx hd hl k1 #[] n
theorem headers_ret {Q : Value → Shared → Prop} {s : Shared} {h₀ h' : Heap} {L : Addr} {m : Str → Option Value} {news : List (Addr × Obj)} {tk : Nat} {P : Params} {hx hd hl : Addr} {k1 : Tok} {n : Nat}
    (hret : ∀ v new h' tk, hdrPost P v new → Fr h₀ L h' m → News h₀ L h' (new ++ news) → (∀ p ∈ new, p.1 ∈ ([] : List (Addr × Obj)).map (·.1) ∨ ∀ q ∈ [] ++ news, q.1 < p.1) → Q v { s with heap := h', toks := tk })
    (F : Fr h₀ L h' m) (N : News h₀ L h' (hdrL P hx hd hl k1 #[] n ++ news)) (l0 : ∀ q ∈ news, q.1 < hd) (l1 : @LT.lt Nat _ hd hx) (l2 : @LT.lt Nat _ hx hl) : Q (.ref hx) { s with heap := h', toks := tk } := by
  refine hret _ _ _ _ ⟨hx, hd, hl, k1, n, rfl, l1, l2, rfl⟩ F N fun p hp => .inr fun q hq => ?_
  have hq' : @LT.lt Nat _ q.1 hd := l0 q hq
  simp only [hdrL, List.mem_cons, List.not_mem_nil, or_false] at hp
  rcases hp with h | h | h <;> rw [h] <;> show @LT.lt Nat _ _ _ <;> dsimp only <;> omega
set_option maxHeartbeats 4000000 in
theorem sum_headers : SumT w mean mg mb (.ref 306) [] [] 2 24 [] (hdrPost w.params) := by
  intro news dp un gd cn cs a ccd cl outer A₀ base h₀ L m s Q E B F X N hoff T hk hdp hun hret
  simp only [List.nil_append, List.cons_append] at N
  k_dflt (refine' call_cls ?k1 ?k2 ?k3 ?k4 ?k5 ?k6 ?_; (case k1 => k_asm); (case k2 => k_asm); (case k3 => k_asm); (case k4 => k_is); (case k5 => k_is); (case k6 => k_is); k_whole; intro x' d' h' F' N' l1 l2; (have l3 := l1); (have l4 := l2); (try k_lt l1); (try k_lt2 l2); (try k_sweep))
  k_dflt (refine' code_def ?k1 ?k2 ?k3 ?k4 ?k5 ?kA ?kF ?kK ?k6 ?k7 ?k8 ?k9 ?kB ?_ ?c2 ?c3 ?c4 ?c5; (case kA => exact rfl); (case kF => exact rfl); (case kK => assumption); (case k1 => k_asm); (case k2 => k_asm); (case k3 => k_asm); (case k4 => k_asm); (case k5 => k_asm); (case k6 => k_is); (case k7 => k_is); (case k8 => ktr_room); (case k9 => first | exact BindsTo.of_eq rfl | exact binds_K (by k_in) rfl (by k_is) rfl rfl rfl); (case c5 => decide); (case kB => exact locs rfl); (case c2 => exact rfl); (case c3 => exact rfl); (case c4 => exact rfl); k_whole; intro g' L' h' FG' F' N' B' X' T'; (try dsimp only); (try k_lift B'); (try k_fold))
  (repeat' (first | with_reducible ((show wpAny _ _ (exec (Stmt.For _ _ _ _ _) _) _ _ _); ((with_reducible show wpAny _ _ (exec (Stmt.For (Expr.Tuple _ _ _) _ _ [] _) _) _ _ _); k_dflt (refine' for_none ?zzjF ?zzjh ?zzjE ?_ ?zzjs; (case zzjF => k_asm); (case zzjh => exact rfl); (case zzjE => passes_own); (case zzjs => (intro x; rfl))))) | walk_at "st"))
  refine EmptyAt.mk (by k_asm) (by k_asm) (by k_mem) fun h2 tk2 F2 N2 => ?_
  dsimp only
  (repeat' (first | with_reducible ((show wpAny _ _ (exec (Stmt.For _ _ _ _ _) _) _ _ _); ((with_reducible show wpAny _ _ (exec (Stmt.For (Expr.Tuple _ _ _) _ _ [] _) _) _ _ _); k_dflt (refine' for_none ?zzjF ?zzjh ?zzjE ?_ ?zzjs; (case zzjF => k_asm); (case zzjh => exact rfl); (case zzjE => passes_own); (case zzjs => (intro x; rfl))))) | walk_at "st"))
  exact headers_ret hret (by k_asm) (by k_asm) l3 l2 (by omega)
end
section -- S13
local macro_rules | `(tactic| walk_at "z") => `(tactic| skip)
theorem fill13 : PySem.Challenge.rw_uq0027_01 = PySem.Challenge.rw_uq0027_01 ∧ KK = KK := by
  k_fill
  exact ⟨rfl, rfl⟩
variable {w : World} {mean : ExcName → Option Value} {mg mb : Str → Option Value}
noncomputable def blPost (ns : List Int) (x r : Int) : Prop := 0 ≤ r ∧ r ≤ ns.length ∧ (∀ k : Nat, (k : Int) < r → ns.getD k 0 < x) ∧ (∀ k : Nat, r ≤ (k : Int) → k < ns.length → ¬ ns.getD k 0 < x)
noncomputable def brPost (ns : List Int) (x r : Int) : Prop := 0 ≤ r ∧ r ≤ ns.length ∧ (∀ k : Nat, (k : Int) < r → ¬ x < ns.getD k 0) ∧ (∀ k : Nat, r ≤ (k : Int) → k < ns.length → x < ns.getD k 0)
set_option maxHeartbeats 4000000 in
theorem sum_bl (l : Addr) (vs : List Value) (ns : List Int) (k : Nat) (hv : IntsAre vs ns) (hso : sortedZ ns = true) (x : Int) (t : Tok) (hz : ns.length ≤ 100) : SumT w mean mg mb (.ref 56) [.ref l, .int x t] [] 1 8 [(l, listOf vs.toArray k)] (fun v new => (∃ r t, v = .int r t ∧ blPost ns x r) ∧ new = [(l, listOf vs.toArray k)]) := by
  intro news dp un gd cn cs a ccd cl outer A₀ base h₀ L m s Q E B F X N hoff T hk hdp hun hret
  simp only [List.nil_append, List.cons_append] at N
  simp only [List.map_cons, List.map_nil] at hoff
  refine wpAny_call ?_
  k_dflt (refine' code_def ?k1 ?k2 ?k3 ?k4 ?k5 ?kA ?kF ?kK ?k6 ?k7 ?k8 ?k9 ?kB ?_ ?c2 ?c3 ?c4 ?c5; (case kA => exact rfl); (case kF => exact rfl); (case kK => assumption); (case k1 => k_asm); (case k2 => k_asm); (case k3 => k_asm); (case k4 => k_asm); (case k5 => k_asm); (case k6 => k_is); (case k7 => k_is); (case k8 => ktr_room); (case k9 => (refine' kp_binds ?kx ?ke; (case kx => k_in); (case ke => exact fun _ => rfl))); (case c5 => decide); (case kB => exact locs rfl); (case c2 => exact rfl); (case c3 => exact rfl); (case c4 => exact rfl); k_whole; intro g' L' h' FG' F' N' B' X' T'; (try dsimp only); (try k_lift B'); (try k_fold))
  k_steps
  exact hret _ [(l, listOf vs.toArray k)] _ _ ⟨⟨_, _, rfl, by assumption, by assumption, by assumption, by assumption⟩, rfl⟩ (by k_asm) (by k_asm) (fun q hq => .inl (List.mem_map_of_mem (f := (·.1)) hq))
end
section -- S14
local macro_rules | `(tactic| walk_at "z") => `(tactic| skip)
theorem fill14 : PySem.Challenge.rw_uq0027_01 = PySem.Challenge.rw_uq0027_01 ∧ KK = KK := by
  k_fill
  exact ⟨rfl, rfl⟩
variable {w : World} {mean : ExcName → Option Value} {mg mb : Str → Option Value}

section
variable {prog : Program} {w : World} {A : Around} {E : Value → Shared → Prop} {s : Shared} {env : Env} {h₀ : Heap} {L : Addr} {Q : Flow → Shared → Prop}
noncomputable def brM (m₀ : Str → Option Value) (lo : Int) (tl : Tok) (hi : Int) (th : Tok) (vm : Option Value) : Str → Option Value := fun y => if y = Str.ofString "lo" then some (.int lo tl) else if y = Str.ofString "hi" then some (.int hi th) else if y = Str.ofString "mid" then vm else m₀ y
structure BrI (ns : List Int) (x lo hi : Int) : Prop where
  a : 0 ≤ lo
  b : lo ≤ hi
  c : hi ≤ ns.length
  d : ∀ k : Nat, (k : Int) < lo → ¬ x < ns.getD k 0
  e : ∀ k : Nat, hi ≤ (k : Int) → k < ns.length → x < ns.getD k 0
theorem BrI.mid {ns : List Int} {x lo hi : Int} (h : BrI ns x lo hi) (ht : lo < hi) : lo ≤ Int.fdiv (lo + hi) 2 ∧ Int.fdiv (lo + hi) 2 < hi ∧ 0 ≤ Int.fdiv (lo + hi) 2 ∧ Int.fdiv (lo + hi) 2 < ns.length := by
  obtain ⟨a, b, c, _, _⟩ := h
  rw [Int.fdiv_eq_ediv_of_nonneg _ (by decide)]
  omega
theorem BrI.down {ns : List Int} {x lo hi : Int} (hs : sortedZ ns = true) (h : BrI ns x lo hi) (ht : lo < hi) (hlt : x < ns.getD (Int.fdiv (lo + hi) 2).toNat 0) : BrI ns x lo (Int.fdiv (lo + hi) 2) := by
  obtain ⟨m1, m2, m3, m4⟩ := h.mid ht
  obtain ⟨a, b, c, d, e⟩ := h
  refine ⟨by omega, by omega, by omega, d, fun k hk hl => ?_⟩
  exact Int.lt_of_lt_of_le hlt (sorted_getD_le ((sortedZ_iff _).mp hs) (by omega) hl)
theorem BrI.up {ns : List Int} {x lo hi : Int} (hs : sortedZ ns = true) (h : BrI ns x lo hi) (ht : lo < hi) (hge : ¬ x < ns.getD (Int.fdiv (lo + hi) 2).toNat 0) : BrI ns x (Int.fdiv (lo + hi) 2 + 1) hi := by
  obtain ⟨m1, m2, m3, m4⟩ := h.mid ht
  obtain ⟨a, b, c, d, e⟩ := h
  refine ⟨by omega, by omega, by omega, fun k hk hlt => hge ?_, e⟩
  exact Int.lt_of_lt_of_le hlt (sorted_getD_le ((sortedZ_iff _).mp hs) (by omega) (by omega))
noncomputable def BrEnd (ns : List Int) (x : Int) (m₀ : Str → Option Value) (h₀ : Heap) (L : Addr) (news : List (Addr × Obj)) (k : Int) (s : Shared) (f : Flow) (s₃ : Shared) : Prop :=
  f = .next ∧ ∃ h' tk lo hi tl th vm, s₃ = { s with heap := h', toks := tk } ∧ BrI ns x lo hi ∧ hi - lo < k ∧ Fr h₀ L h' (brM m₀ lo tl hi th vm) ∧ News h₀ L h' news
theorem BrEnd.mk {ns : List Int} {x : Int} {m₀ m₂ : Str → Option Value} {news : List (Addr × Obj)} {k : Int} {h' : Heap} {tk : Nat} {lo hi : Int} {tl th : Tok} (F : Fr h₀ L h' m₂) (N : News h₀ L h' news) (I : BrI ns x lo hi) (hk : hi - lo < k)
    (e1 : m₂ (Str.ofString "lo") = some (.int lo tl)) (e2 : m₂ (Str.ofString "hi") = some (.int hi th)) (e3 : ∀ z, z ≠ Str.ofString "lo" → z ≠ Str.ofString "hi" → z ≠ Str.ofString "mid" → m₂ z = m₀ z) : BrEnd ns x m₀ h₀ L news k s .next { s with heap := h', toks := tk } := by
  have e : m₂ = brM m₀ lo tl hi th (m₂ (Str.ofString "mid")) := by
    funext z
    unfold brM
    split
    · next h => rw [h, e1]
    · split
      · next h => rw [h, e2]
      · split
        · next h => rw [h]
        · next h1 h2 h3 => exact e3 z h1 h2 h3
  exact ⟨rfl, h', tk, lo, hi, tl, th, _, rfl, I, hk, e ▸ F, N⟩
theorem while_br {ns : List Int} {x : Int} {test : Expr} {body : List Stmt} {pos : Pos} {m₀ : Str → Option Value} {news : List (Addr × Obj)} {t0 t1 : Tok}
    (F : Fr h₀ L s.heap m₀) (N : News h₀ L s.heap news) (hlo : m₀ (Str.ofString "lo") = some (.int 0 t0)) (hhi : m₀ (Str.ofString "hi") = some (.int ns.length t1))
    (turn : ∀ lo hi tl th vm h tk, BrI ns x lo hi → Fr h₀ L h (brM m₀ lo tl hi th vm) → News h₀ L h news →
      wpAny (model prog w) A (isTrue test env (eval test env)) (fun b s₂ =>
        if b = true then wpAny (model prog w) A (execs body env) (BrEnd ns x m₀ h₀ L news (hi - lo) s) E s₂ else Q .next s₂) E { s with heap := h, toks := tk })
    (hE : PassesOwn (model prog w) A env E := by passes_own) :
    wpAny (model prog w) A (exec (.While test body [] pos) env) Q E s := by
  refine While_inv2 (J := fun n m₁ news₁ => ∃ lo hi tl th vm, m₁ = brM m₀ lo tl hi th vm ∧ news₁ = news ∧ BrI ns x lo hi ∧ n = (hi - lo).toNat) (n₀ := ((ns.length : Int) - 0).toNat) F N ⟨0, ns.length, t0, t1, m₀ (Str.ofString "mid"), ?_, rfl, ⟨Int.le_refl _, by omega, Int.le_refl _, fun k hk => by omega, fun k h1 h2 => by omega⟩, rfl⟩ ?_ hE
  · funext z
    unfold brM
    split
    · next h => rw [h, hlo]
    · split
      · next h => rw [h, hhi]
      · split
        · next h => rw [h]
        · rfl
  · rintro n m₁ news₁ h₁ tk₁ F₁ N₁ ⟨lo, hi, tl, th, vm, rfl, rfl, I, rfl⟩
    refine wpAny_mono (turn lo hi tl th vm h₁ tk₁ I F₁ N₁) (fun b s₂ h₂ => ?_) fun _ _ e => e
    cases b with
    | false => exact h₂
    | true =>
      simp only [if_true] at h₂ ⊢
      refine wpAny_mono h₂ (fun f s₃ h₃ => ?_) fun _ _ e => e
      obtain ⟨rfl, h', tk, lo', hi', tl', th', vm', rfl, I', hk, F', N'⟩ := h₃
      exact ⟨h', tk, _, _, (hi' - lo').toNat, rfl, F', N', by have := I'.b; have := I.b; omega, lo', hi', tl', th', vm', rfl, rfl, I', rfl⟩
end
local macro_rules | `(tactic| walk_at "exec While") => `(tactic| (k_here; (with_reducible refine comp_hold ?_)))
set_option maxHeartbeats 4000000 in
theorem sum_br (l : Addr) (vs : List Value) (ns : List Int) (k : Nat) (hv : IntsAre vs ns) (hso : sortedZ ns = true) (x : Int) (t : Tok) (hz : ns.length ≤ 100) : SumT w mean mg mb (.ref 47) [.ref l, .int x t] [] 1 8 [(l, listOf vs.toArray k)] (fun v new => (∃ r t, v = .int r t ∧ brPost ns x r) ∧ new = [(l, listOf vs.toArray k)]) := by
  intro news dp un gd cn cs a ccd cl outer A₀ base h₀ L m s Q E B F X N hoff T hk hdp hun hret
  simp only [List.nil_append, List.cons_append] at N
  simp only [List.map_cons, List.map_nil] at hoff
  refine wpAny_call ?_
  k_dflt (refine' code_def ?k1 ?k2 ?k3 ?k4 ?k5 ?kA ?kF ?kK ?k6 ?k7 ?k8 ?k9 ?kB ?_ ?c2 ?c3 ?c4 ?c5; (case kA => exact rfl); (case kF => exact rfl); (case kK => assumption); (case k1 => k_asm); (case k2 => k_asm); (case k3 => k_asm); (case k4 => k_asm); (case k5 => k_asm); (case k6 => k_is); (case k7 => k_is); (case k8 => ktr_room); (case k9 => (refine' kp_binds ?kx ?ke; (case kx => k_in); (case ke => exact fun _ => rfl))); (case c5 => decide); (case kB => exact locs rfl); (case c2 => exact rfl); (case c3 => exact rfl); (case c4 => exact rfl); k_whole; intro g' L' h' FG' F' N' B' X' T'; (try dsimp only); (try k_lift B'); (try k_fold))
  (repeat' (first | with_reducible ((show wpAny _ _ (subscriptTail _ _ (Value.ref _) _) _ _ _); ((with_reducible show wpAny _ _ (subscriptTail _ _ (Value.ref _) (Value.int _ _)) _ _ _); (rename BrI _ _ _ _ => hI9); (rename @LT.lt Int _ _ _ => hl9); (have q9 := BrI.mid hI9 hl9); k_dflt (refine' ksa_sub ?zza ?zzb ?zzc ?zzd ?zze ?zzf ?_ ?zzg; (case zza => k_asm); (case zzb => k_mem); (case zzc => assumption); (case zzd => omega); (case zze => omega); (case zzf => omega); (case zzg => with_unfolding_all rfl)); intro tzz)) | walk_at "st"))
  unfold CompHold
  k_dflt (refine' while_br (ns := ns) (x := x) ?jF ?jN ?j1 ?j2 ?jturn ?jE)
  case jF => k_asm
  case jN => k_asm
  case j1 => exact rfl
  case j2 => exact rfl
  case jE => passes_own
  case jturn =>
    intro lo hi tl th vm h tk I F1 N1
    (repeat' (first | with_reducible ((show wpAny _ _ (subscriptTail _ _ (Value.ref _) _) _ _ _); ((with_reducible show wpAny _ _ (subscriptTail _ _ (Value.ref _) (Value.int _ _)) _ _ _); (rename BrI _ _ _ _ => hI9); (rename @LT.lt Int _ _ _ => hl9); (have q9 := BrI.mid hI9 hl9); k_dflt (refine' ksa_sub ?zza ?zzb ?zzc ?zzd ?zze ?zzf ?_ ?zzg; (case zza => k_asm); (case zzb => k_mem); (case zzc => assumption); (case zzd => omega); (case zze => omega); (case zzf => omega); (case zzg => with_unfolding_all rfl)); intro tzz)) | walk_at "st"))
    · rename BrI _ _ _ _ => I
      have q9 := BrI.mid I (by assumption)
      exact BrEnd.mk (by k_asm) (by k_asm) (I.down hso (by assumption) (by assumption)) (by omega) rfl rfl (fun z h1 h2 h3 => by simp [brM, h1, h2, h3])
    · rename BrI _ _ _ _ => I
      have q9 := BrI.mid I (by assumption)
      exact BrEnd.mk (by k_asm) (by k_asm) (I.up hso (by assumption) (by assumption)) (by omega) rfl rfl (fun z h1 h2 h3 => by simp [brM, h1, h2, h3])
    · obtain ⟨i1, i2, i3, i4, i5⟩ := I
      exact hret _ [(l, listOf vs.toArray k)] _ _ ⟨⟨_, _, rfl, i1, by omega, i4, fun k h1 h2 => i5 k (by omega) h2⟩, rfl⟩ (by k_asm) (by k_asm) (fun q hq => .inl (List.mem_map_of_mem (f := (·.1)) hq))
end
section -- S16
local macro_rules | `(tactic| walk_at "z") => `(tactic| skip)
theorem fill16 : PySem.Challenge.rw_uq0027_01 = PySem.Challenge.rw_uq0027_01 ∧ KK = KK := by
  k_fill
  exact ⟨rfl, rfl⟩
variable {w : World} {mean : ExcName → Option Value} {mg mb : Str → Option Value}
/-- the first place behind which the sought words have been met in their order, or 0 -/
noncomputable def endGo (a : List Str) : Nat → Nat → List Str → Nat
  | _, _, [] => 0
  | met, k, x :: r => if x == a.getD met PySem.Str.empty then (if met + 1 = 3 then k + 1 else endGo a (met + 1) (k + 1) r) else endGo a met (k + 1) r
noncomputable def endS (ws : List Str) (b : Nat) : Nat := endGo (ws.take 3) 0 b (ws.drop b)

section
variable {prog : Program} {A : Around} {E : Value → Shared → Prop} {s : Shared} {env : Env} {h₀ : Heap} {Q : Flow → Shared → Prop}
noncomputable def metN : Str := Str.ofString "met"
noncomputable def kN : Str := Str.ofString "k"
noncomputable def endM (m₀ : Str → Option Value) (vk : Option Value) (met : Nat) (tm : Tok) : Str → Option Value := fun y => if y = kN then vk else if y = metN then some (.int (met : Int) tm) else m₀ y
noncomputable def EndJ (ws : List Str) (b : Nat) (m₀ : Str → Option Value) (news : List (Addr × Obj)) (i : Nat) (m₁ : Str → Option Value) (news₁ : List (Addr × Obj)) : Prop :=
  ∃ vk met tm, met ≤ 2 ∧ m₁ = endM m₀ vk met tm ∧ news₁ = news ∧ endGo (ws.take 3) met (b + i) (ws.drop (b + i)) = endS ws b
noncomputable def EndEnd (ws : List Str) (b : Nat) (m₀ : Str → Option Value) (h₀ : Heap) (L : Addr) (I : Addr) (oI : Obj) (news : List (Addr × Obj)) (i : Nat) (Q : Flow → Shared → Prop) (s₁ : Shared) (f : Flow) (s₂ : Shared) : Prop :=
  match f with
  | .ret v => Q (.ret v) s₂
  | .brk => False
  | _ => ∃ h' tk m₁ news₁, s₂ = { s₁ with heap := h', toks := tk } ∧ Fr h₀ L h' m₁ ∧ News h₀ L h' ((I, oI) :: news₁) ∧ EndJ ws b m₀ news i m₁ news₁
theorem EndEnd.mk {ws : List Str} {b : Nat} {m₀ m₂ : Str → Option Value} {L I : Addr} {oI : Obj} {news : List (Addr × Obj)} {i : Nat} {s₁ : Shared} {h' : Heap} {tk : Nat} {met : Nat} {tm : Tok} (F : Fr h₀ L h' m₂) (N : News h₀ L h' ((I, oI) :: news)) (hm : met ≤ 2)
    (e1 : m₂ metN = some (.int (met : Int) tm)) (e3 : ∀ z, z ≠ metN → z ≠ kN → m₂ z = m₀ z) (hg : endGo (ws.take 3) met (b + i) (ws.drop (b + i)) = endS ws b) : EndEnd ws b m₀ h₀ L I oI news i Q s₁ .next { s₁ with heap := h', toks := tk } := by
  have e : m₂ = endM m₀ (m₂ kN) met tm := by
    funext z
    unfold endM
    split
    · next h => rw [h]
    · split
      · next h => rw [h, e1]
      · next h1 h2 => exact e3 z h2 h1
  exact ⟨h', tk, m₂, news, rfl, F, N, _, met, tm, hm, e, rfl, hg⟩
theorem for_end {x : Str} {body : List Stmt} {r : Addr} {t u v : Tok} {ws : List Str} {b : Nat} {m₀ : Str → Option Value} {news : List (Addr × Obj)} {tm : Tok} (hxk : x = kN) (hr : IsRange s.heap r (b : Int) (ws.length : Int) 1 t u v) (hb : b ≤ ws.length) (hz : ws.length ≤ 100) (hh : A.handled = none)
    (F : Fr h₀ env.locals s.heap m₀) (N : News h₀ env.locals s.heap news) (hm : m₀ metN = some (.int 0 tm))
    (turn : ∀ i met tk tm I oI h tkk, b + i < ws.length → met ≤ 2 → (∀ p ∈ news, p.1 ≠ I) → Fr h₀ env.locals h (endM m₀ (some (.int ((b : Int) + (i : Int)) tk)) met tm) → News h₀ env.locals h ((I, oI) :: news) → endGo (ws.take 3) met (b + i) (ws.drop (b + i)) = endS ws b →
      wpAny (model prog w) A (execs body env) (EndEnd ws b m₀ h₀ env.locals I oI news (i + 1) Q { s with heap := h, toks := tkk }) E { s with heap := h, toks := tkk })
    (done : ∀ m₁ h tk, endS ws b = 0 → Fr h₀ env.locals h m₁ → News h₀ env.locals h news → Q .next { s with heap := h, toks := tk }) :
    wpAny (model prog w) A (pyIter (.ref r)) (fun it s₂ => LoopAtV prog w A h₀ env x body Q E it s₂) E s := by
  subst hxk
  refine iter_rng (n := ws.length - b) (EndJ ws b m₀ news) hr (small_one (by omega) (by omega) (by omega) (by omega)) ?_ hh F N ⟨m₀ kN, 0, tm, by omega, ?_, rfl, rfl⟩ ⟨?_, ?_⟩
  · rw [rangeSize_one]; split <;> omega
  · funext z
    unfold endM
    split
    · next h => rw [h]
    · split
      · next h => rw [h, hm]; rfl
      · rfl
  · rintro i v m₁ news₁ h tk I oI hi ⟨t', rfl⟩ ⟨vk, met, tm', hme, rfl, rfl, hg⟩ hI hsI F₁ N₁
    have e : (fun y => if y = kN then some (Value.int ((b : Int) + (i : Int)) t') else endM m₀ vk met tm' y) = endM m₀ (some (Value.int ((b : Int) + (i : Int)) t')) met tm' := by
      funext y; unfold endM; by_cases h : y = kN <;> simp [h]
    rw [e] at F₁
    refine wpAny_mono (turn i met t' tm' I oI h tk (by omega) hme hI F₁ N₁ hg) (fun f s₂ p => ?_) fun _ _ e => e
    cases f with
    | ret v => exact p
    | brk => exact p.elim
    | next =>
      obtain ⟨h', tk', m₁, news₁, e1, F', N', hJ⟩ := p
      refine ⟨h', tk', m₁, news₁, e1, F', N', ?_, hJ⟩
      obtain ⟨_, _, _, _, _, rfl, _⟩ := hJ
      exact hI
    | cont =>
      obtain ⟨h', tk', m₁, news₁, e1, F', N', hJ⟩ := p
      refine ⟨h', tk', m₁, news₁, e1, F', N', ?_, hJ⟩
      obtain ⟨_, _, _, _, _, rfl, _⟩ := hJ
      exact hI
  · rintro m₁ news₁ h tk ⟨vk, met, tm', hme, rfl, rfl, hg⟩ F₁ N₁
    refine done _ h tk ?_ F₁ N₁
    rw [← hg, show b + (ws.length - b) = ws.length by omega, List.drop_length]
    rfl
end
theorem drop_consS {ws : List Str} {k : Nat} (h : k < ws.length) : ws.drop k = ws.getD k PySem.Str.empty :: ws.drop (k + 1) := by
  rw [List.drop_eq_getElem_cons h, List.getD_eq_getElem?_getD, List.getElem?_eq_getElem h]; rfl
theorem end_skip {ws : List Str} {b i met : Nat} (h : b + i < ws.length) (hne : (ws.getD (b + i) PySem.Str.empty == (ws.take 3).getD met PySem.Str.empty) = false) (hg : endGo (ws.take 3) met (b + i) (ws.drop (b + i)) = endS ws b) : endGo (ws.take 3) met (b + (i + 1)) (ws.drop (b + (i + 1))) = endS ws b := by
  rw [← hg, drop_consS h]
  show _ = if _ then _ else _
  rw [if_neg (by rw [hne]; exact Bool.false_ne_true)]
  rfl
theorem end_met {ws : List Str} {b i met : Nat} (h : b + i < ws.length) (he : (ws.getD (b + i) PySem.Str.empty == (ws.take 3).getD met PySem.Str.empty) = true) (hne : met + 1 ≠ 3) (hg : endGo (ws.take 3) met (b + i) (ws.drop (b + i)) = endS ws b) : endGo (ws.take 3) (met + 1) (b + (i + 1)) (ws.drop (b + (i + 1))) = endS ws b := by
  rw [← hg, drop_consS h]
  show _ = if _ then _ else _
  rw [if_pos he, if_neg hne]
  rfl
theorem end_end {ws : List Str} {b i met : Nat} (h : b + i < ws.length) (he : (ws.getD (b + i) PySem.Str.empty == (ws.take 3).getD met PySem.Str.empty) = true) (hne : met + 1 = 3) (hg : endGo (ws.take 3) met (b + i) (ws.drop (b + i)) = endS ws b) : endS ws b = b + i + 1 := by
  rw [← hg, drop_consS h]
  show (if _ then _ else _) = _
  rw [if_pos he, if_pos hne]
theorem sub_strsG {prog : Program} {w : World} {A : Around} {E : Value → Shared → Prop} {s : Shared} {h₀ : Heap} {L D : Addr} {news : List (Addr × Obj)} {value slice : PySem.Expr} {vs : List Value} {ws : List Str} {n : Nat} {k : Int} {u : Tok} {Q : Value → Shared → Prop} (N : News h₀ L s.heap news) (hm : (D, listOf vs.toArray n) ∈ news) (hw : StrsAre vs ws) (h0 : 0 ≤ k) (h1 : k < ws.length) (hl : ws.length ≤ 1000)
    (h : ∀ t, Q (.str (ws.getD k.toNat PySem.Str.empty) t) s) (hs : subscripted slice false (.ref D) (.int k u) = operate [.ref D, .int k u] (getItem (.ref D) (.int k u)) := by with_unfolding_all rfl) :
    wpAny (model prog w) A (subscriptTail value slice (.ref D) (.int k u)) Q E s :=
  KTb.item_list (PySem.IsL.isList (n := n) (N _ hm).1) hw h0 (by omega) (by omega) (fun t _ => h t) hs
local macro_rules | `(tactic| walk_at "exec For") => `(tactic| (k_here; (with_reducible show wpAny _ _ (exec (Stmt.For (Expr.Name _ _) _ _ [] _) _) _ _ _); (with_reducible rename Fr _ _ _ _ => F'); (with_unfolding_all refine for_F F' (by rfl) (by rfl) ?_)))
local macro_rules | `(tactic| walk_at "pyIter ref") => `(tactic| (k_here; (with_reducible refine comp_hold ?_)))
set_option maxHeartbeats 4000000 in
theorem sum_end (l : Addr) (us : List Value) (ws : List Str) (n : Nat) (hu : StrsAre us ws) (b : Nat) (t : Tok) (hb : b ≤ ws.length) (h3 : 3 ≤ ws.length) (hz : ws.length ≤ 100) : SumT w mean mg mb (.ref 336) [.ref l, .int (b : Int) t] [] 1 8 [(l, listOf us.toArray n)] (fun v new => (∃ t, v = .int (endS ws b : Int) t) ∧ new = [(l, listOf us.toArray n)]) := by
  intro news dp un gd cn cs a ccd cl outer A₀ base h₀ L m s Q E B F X N hoff T hk hdp hun hret
  simp only [List.nil_append, List.cons_append] at N
  simp only [List.map_cons, List.map_nil] at hoff
  refine wpAny_call ?_
  k_dflt cell_enter
  (repeat' (first | with_reducible ((show wpAny _ _ (subscriptTail _ _ (Value.ref _) _) _ _ _); ((with_reducible show wpAny _ _ (subscriptTail _ _ (Value.ref _) (Value.int _ _)) _ _ _); k_dflt (refine' sub_strsG ?zza ?zzb ?zzc ?zzd ?zze ?zzf ?_ ?zzg; (case zza => k_asm); (case zzb => k_mem); (case zzc => with_reducible assumption); (case zzd => omega); (case zze => omega); (case zzf => omega); (case zzg => with_unfolding_all rfl)); intro tzz)) | walk_at "st"))
  unfold CompHold
  have es : slicePick us.toArray none (some 3) none = (us.take 3).toArray := slicePick_upto' us.toArray 3
  rename News _ _ _ _ => N1
  rw [es] at N1
  rename Fr _ _ _ _ => F1
  k_dflt (refine' for_end (ws := ws) (b := b) rfl (by assumption) hb hz ?jh ?jF ?jN ?jm ?jturn ?jdone)
  case jh => exact rfl
  case jF => k_asm
  case jN => k_asm
  case jm => exact rfl
  case jdone =>
    intro m1 h tk he F2 N2
    (repeat' (first | with_reducible ((show wpAny _ _ (subscriptTail _ _ (Value.ref _) _) _ _ _); ((with_reducible show wpAny _ _ (subscriptTail _ _ (Value.ref _) (Value.int _ _)) _ _ _); k_dflt (refine' sub_strsG ?zza ?zzb ?zzc ?zzd ?zze ?zzf ?_ ?zzg; (case zza => k_asm); (case zzb => k_mem); (case zzc => with_reducible assumption); (case zzd => omega); (case zze => omega); (case zzf => omega); (case zzg => with_unfolding_all rfl)); intro tzz)) | walk_at "st"))
    exact hret _ [(l, listOf us.toArray n)] _ _ ⟨⟨_, by rw [he]; rfl⟩, rfl⟩ (by k_asm) (nsub (by k_asm) fun q hq => by simp only [List.cons_append, List.nil_append, List.mem_cons] at hq ⊢; exact .inr hq) (fun q hq => .inl (List.mem_map_of_mem (f := (·.1)) hq))
  case jturn =>
    intro i met tk tm I oI h tkk hi hme hI F2 N2 hg
    have hs3 : StrsAre (us.take 3) (ws.take 3) := StrsAre.take' (by assumption) 3
    have hl3 : (ws.take 3).length = 3 := by rw [List.length_take]; omega
    have e9 : ((b : Int) + (i : Int)).toNat = b + i := by omega
    have e8 : ((met : Nat) : Int).toNat = met := by omega
    (repeat' (first | with_reducible ((show wpAny _ _ (subscriptTail _ _ (Value.ref _) _) _ _ _); ((with_reducible show wpAny _ _ (subscriptTail _ _ (Value.ref _) (Value.int _ _)) _ _ _); k_dflt (refine' sub_strsG ?zza ?zzb ?zzc ?zzd ?zze ?zzf ?_ ?zzg; (case zza => k_asm); (case zzb => k_mem); (case zzc => with_reducible assumption); (case zzd => omega); (case zze => omega); (case zzf => omega); (case zzg => with_unfolding_all rfl)); intro tzz)) | walk_at "st"))
    · rename (_ == _) = true => hq
      rw [e9, e8] at hq
      have he := end_end (i := i) hi hq (by omega) hg
      dsimp only
      unfold EndEnd
      dsimp only
      (repeat' (first | with_reducible ((show wpAny _ _ (subscriptTail _ _ (Value.ref _) _) _ _ _); ((with_reducible show wpAny _ _ (subscriptTail _ _ (Value.ref _) (Value.int _ _)) _ _ _); k_dflt (refine' sub_strsG ?zza ?zzb ?zzc ?zzd ?zze ?zzf ?_ ?zzg; (case zza => k_asm); (case zzb => k_mem); (case zzc => with_reducible assumption); (case zzd => omega); (case zze => omega); (case zzf => omega); (case zzg => with_unfolding_all rfl)); intro tzz)) | walk_at "st"))
      exact hret _ [(l, listOf us.toArray n)] _ _ ⟨⟨_, by rw [he, show ((b + i + 1 : Nat) : Int) = (b : Int) + (i : Int) + 1 from by omega]⟩, rfl⟩ (by k_asm) (nsub (by k_asm) fun q hq => by simp only [List.cons_append, List.nil_append, List.mem_cons] at hq ⊢; exact .inr (.inr hq)) (fun q hq => .inl (List.mem_map_of_mem (f := (·.1)) hq))
    · rename (_ == _) = true => hq
      rw [e9, e8] at hq
      exact EndEnd.mk (met := met + 1) (by k_asm) (by k_asm) (by omega) rfl (fun z h1 h2 => by simp [endM, metN, kN] at h1 h2 ⊢; simp [h1, h2]) (end_met hi hq (by omega) hg)
    · rename (_ == _) = false => hq
      rw [e9, e8] at hq
      exact EndEnd.mk (met := met) (by k_asm) (by k_asm) hme rfl (fun z h1 h2 => by simp [endM, h1, h2]) (end_skip hi hq hg)
end
section -- S2
theorem fill2 : PySem.Challenge.rw_uq0027_01 = PySem.Challenge.rw_uq0027_01 ∧ KK = KK := by
  k_fill
  exact ⟨rfl, rfl⟩
variable {w : World} {mean : ExcName → Option Value} {mg mb : Str → Option Value}
local macro_rules | `(tactic| walk_at "compareOp In int ref") => `(tactic| (k_here; refine in106 (by k_asm) (by k_asm) ?_))
local macro_rules | `(tactic| walk_at "getMethod ref") => `(tactic| (k_here; refine meth117 (by k_asm) (by k_asm) ?_))
local macro_rules | `(tactic| walk_at "call builtin:dict.get") => `(tactic| (k_here; refine get117 (by k_asm) (by k_asm) ?_))
theorem get117r {prog : Program} {w : World} {A : Around} {E : Value → Shared → Prop} {s : Shared} {h₀ : Heap} {k : Int} {t : Tok} {r : Option Value} {m : Str → Option Value} {L : Addr} {Q : Value → Shared → Prop} (hb : b3at k = r) (F : Fr h₀ L s.heap m) (X : (KK w.params).In h₀) (h : Q (r.getD .none) { s with toks := s.toks + 1 }) : wpAny (model prog w) A (call (.builtin "dict.get") [.ref 117, .int k t]) Q E s :=
  get117 F X (by rw [hb]; exact h)
local macro_rules | `(tactic| walk_at "call builtin:dict.get") => `(tactic| (k_here; refine get117r (by assumption) (by k_asm) (by k_asm) ?_; (try dsimp only [Option.getD])))
/-- the code point of a one-sign text -/
noncomputable abbrev cp0 (x : Str) : Int := ((x.cps.getD 0 0 : Nat) : Int)
noncomputable def isStrV (v : Value) : Bool := match v with | .str _ _ => true | _ => false
theorem b3_vals : (b3E.all fun e => isStrV e.val) = true := by kernel_rfl
noncomputable def strOf (v : Value) : Str := match v with | .str x _ => x | _ => default
noncomputable def tokOf (v : Value) : Tok := match v with | .str _ t => t | _ => 0
theorem b3at_str {k : Int} {v : Value} (h : b3at k = some v) : v = .str (strOf v) (tokOf v) := by
  unfold b3at findBy at h
  obtain ⟨e, he, rfl⟩ := Option.map_eq_some_iff.mp h
  have hm := Array.mem_of_find?_eq_some he
  have := List.all_eq_true.mp b3_vals e (by simpa using hm)
  cases hv : e.val with
  | str x t => rfl
  | _ => rw [hv] at this; cases this
set_option maxHeartbeats 4000000 in
theorem sum_b1 (x : Str) (hx : x.length = 1) (t : Tok) : SumT w mean mg mb (.ref 116) [.str x t] [] 1 8 [] (fun v new => v = .bool (inB1 (cp0 x)) ∧ new = []) := by
  intro news dp un gd cn cs a ccd cl outer A₀ base h₀ L m s Q E B F X N hoff T hk hdp hun hret
  refine wpAny_call ?_
  k_dflt cell_enter
  k_steps
  exact hret _ [] _ _ ⟨rfl, rfl⟩ (by k_asm) (by k_asm) (fun _ h => nomatch h)
/-- what map_table_b3 gives -/
noncomputable def foldB3 (x : Str) : Str := match b3at (cp0 x) with
  | some v => strOf v
  | none => Txt.lower x
set_option maxHeartbeats 4000000 in
theorem sum_b3 (x : Str) (hx : x.length = 1) (t : Tok) : SumT w mean mg mb (.ref 162) [.str x t] [] 1 8 [] (fun v new => (∃ u, v = .str (foldB3 x) u) ∧ new = []) := by
  intro news dp un gd cn cs a ccd cl outer A₀ base h₀ L m s Q E B F X N hoff T hk hdp hun hret
  unfold foldB3 at hret
  cases hb : b3at (cp0 x) with
  | some v =>
    rw [hb] at hret
    dsimp only at hret
    rw [b3at_str hb] at hb
    generalize strOf v = y at hb hret
    generalize tokOf v = ty at hb
    refine wpAny_call ?_
    k_dflt cell_enter
    k_steps
    exact hret _ [] _ _ ⟨⟨_, rfl⟩, rfl⟩ (by k_asm) (by k_asm) (fun _ h => nomatch h)
  | none =>
    rw [hb] at hret
    dsimp only at hret
    refine wpAny_call ?_
    k_dflt cell_enter
    k_steps
    exact hret _ [] _ _ ⟨⟨_, rfl⟩, rfl⟩ (by k_asm) (by k_asm) (fun _ h => nomatch h)
end
section -- S10
theorem fill10 : PySem.Challenge.rw_uq0027_01 = PySem.Challenge.rw_uq0027_01 ∧ KK = KK := by
  k_fill
  exact ⟨rfl, rfl⟩
variable {w : World} {mean : ExcName → Option Value} {mg mb : Str → Option Value}
/-- the prepared signs -/
noncomputable def prepL (l : List Nat) : List Str := (l.filter fun c => !inB1 ((c : Nat) : Int)).map fun c => foldB3 ⟨#[c]⟩
noncomputable def prepS (l : List Nat) : Str := PySem.Txt.join (PySem.Str.ofString "") (prepL l)
theorem prepL_skip {l : List Nat} {c : Nat} (h : inB1 ((c : Nat) : Int) = true) : prepL (l ++ [c]) = prepL l := by simp [prepL, h]
theorem prepL_take {l : List Nat} {c : Nat} (h : inB1 ((c : Nat) : Int) = false) : prepL (l ++ [c]) = prepL l ++ [foldB3 ⟨#[c]⟩] := by simp [prepL, h]
theorem prepL_len (l : List Nat) : (prepL l).length ≤ l.length := by unfold prepL; rw [List.length_map]; exact List.length_filter_le _ _
noncomputable def prepI (x : Str) (i : Nat) (ys : List Value) (ex : List (Addr × Obj)) : Prop := StrsAre ys (prepL (x.cps.toList.take i)) ∧ ex = [] ∧ i ≤ x.cps.size
theorem cp0_one (c : Nat) : cp0 ⟨#[c]⟩ = (c : Int) := rfl
theorem take_succ' {x : Str} {i c : Nat} (hc : x.cps[i]? = some c) : x.cps.toList.take (i + 1) = x.cps.toList.take i ++ [c] := by rw [List.take_add_one]; simp [hc]
theorem join_prep {prog : Program} {w : World} {A : Around} {E : Value → Shared → Prop} {s : Shared} {h₀ : Heap} {L D : Addr} {news : List (Addr × Obj)} {ys : List Value} {k : Nat} {x : Str} {t : Tok} {Q : Value → Shared → Prop} (N : News h₀ L s.heap news) (hm : (D, listOf ys.toArray k) ∈ news) (g : StrsAre ys (prepL x.cps.toList)) (hx : x.cps.size ≤ 60) (h8 : ∀ a ∈ prepL x.cps.toList, a.length ≤ 8)
    (h : ∀ t' k, Q (.str (prepS x.cps.toList) t') { s with toks := k }) : wpAny (model prog w) A (call (.builtin "str.join") [.str (PySem.Str.ofString "") t, .ref D]) Q E s := by
  have hl : s.heap.IsList D ys.toArray := PySem.IsL.isList (n := k) (N _ hm).1
  have h3 := prepL_len x.cps.toList
  rw [show x.cps.toList.length = x.cps.size from Array.length_toList] at h3
  refine KT.join_B 8 hl (carried_strs g) h8 (by omega) (by decide) fun t' k => ?_
  rw [List.map_id]
  exact h t' k
local macro_rules | `(tactic| walk_at "call builtin:str.join") => `(tactic| (k_here; k_dflt (refine' join_prep ?N ?m ?g ?hx ?h8 ?_; (case N => k_asm); (case m => k_mem); (case g => assumption); (case hx => assumption); (case h8 => assumption)); intro t' k'))
local macro_rules | `(tactic| walk_at "eval Name") => `(tactic| (k_here; k_inBlock; k_dflt (refine' wpAny_Name (wpAny_loadName_local ?ja ?jb ?jc ?jd ?_) ?je; (case jc => assumption); (case jd => assumption); (case ja => exact rfl); (case jb => exact rfl); (case je => decide))))
local macro_rules | `(tactic| walk_at "eval ListComp") => `(tactic| (k_here; (with_reducible refine comp_hold ?_)))
set_option maxHeartbeats 4000000 in
theorem sum_prep (x : Str) (t : Tok) (hx60 : x.cps.size ≤ 60) (h8 : ∀ a ∈ prepL x.cps.toList, a.length ≤ 8) : SumT w mean mg mb (.ref 329) [.str x t] [] 3 40 [] (fun v new => (∃ t, v = .str (prepS x.cps.toList) t) ∧ new = []) := by
  intro news dp un gd cn cs a ccd cl outer A₀ base h₀ L m s Q E B F X N hoff T hk hdp hun hret
  simp only [List.nil_append] at N
  refine wpAny_call ?_
  k_dflt cell_enter
  (repeat' (first | with_reducible ((show wpAny _ _ (call (Value.ref _) _) _ _ _); (k_dflt (first | (with_reducible show wpAny _ _ (call (Value.ref 116) _) _ _ _); (refine' SumT.use (sum_b1 _ rfl _) ?zzja ?zzjB ?zzjF ?zzjX ?zzjN ?zzjo ?zzjT ?zzjk ?zzjd ?zzju ?_; (case zzjF => k_asm); (case zzjN => exact (by k_asm)); (case zzja => exact rfl); (case zzjB => k_asm); (case zzjX => k_asm); (case zzjo => exact off_nil); (case zzjT => k_asm); (case zzjk => exact rfl); (case zzjd => ((try dsimp only); omega)); (case zzju => ((try dsimp only); omega))) | (with_reducible show wpAny _ _ (call (Value.ref 162) _) _ _ _); (refine' SumT.use (sum_b3 _ rfl _) ?zzja ?zzjB ?zzjF ?zzjX ?zzjN ?zzjo ?zzjT ?zzjk ?zzjd ?zzju ?_; (case zzjF => k_asm); (case zzjN => exact (by k_asm)); (case zzja => exact rfl); (case zzjB => k_asm); (case zzjX => k_asm); (case zzjo => exact off_nil); (case zzjT => k_asm); (case zzjk => exact rfl); (case zzjd => ((try dsimp only); omega)); (case zzju => ((try dsimp only); omega)))); intro vzz newzz hzz tkzz hPzz Fzz Nzz hfzz; clear hfzz; (obtain ⟨e1zz, e2zz⟩ := hPzz); (first | subst e1zz | (obtain ⟨uzz, e1zz⟩ := e1zz; subst e1zz)); subst e2zz; (rw [List.nil_append] at Nzz); (rename CT _ _ _ _ _ _ _ _ _ => ctzz); (have nCzz := ctzz.ns _ Nzz))) | walk_at "st"))
  unfold CompHold
  k_dflt (refine' comp_str (u := x) (t := t) ?hfree ?hcell ?hkind ?hnames ?hxx ?hh ?hit ?F ?N (prepI x) ⟨.nil, rfl, Nat.zero_le _⟩ ?hsz ?turn ?done ?hs)
  case hfree => decide
  case hcell => decide
  case hkind => exact rfl
  case hnames => decide
  case hxx => decide
  case hh => exact rfl
  case F => k_asm
  case N => k_asm
  case hs => intro x; rfl
  case hit => k_dflt (refine nameX_L (by k_asm) rfl ⟨rfl, rfl⟩ rfl rfl (by decide))
  case turn =>
    intro C i c tc ys ex s' own mC E' hC hc hI hm ct
    have F1 := ct.F
    have N1 := ct.N
    have nC := ct.ns _ ct.N
    unfold TurnGoal
    have hi2 := (Array.getElem?_eq_some_iff.mp hc).1
    (repeat' (first | with_reducible ((show wpAny _ _ (call (Value.ref _) _) _ _ _); (k_dflt (first | (with_reducible show wpAny _ _ (call (Value.ref 116) _) _ _ _); (refine' SumT.use (sum_b1 _ rfl _) ?zzja ?zzjB ?zzjF ?zzjX ?zzjN ?zzjo ?zzjT ?zzjk ?zzjd ?zzju ?_; (case zzjF => k_asm); (case zzjN => exact (by k_asm)); (case zzja => exact rfl); (case zzjB => k_asm); (case zzjX => k_asm); (case zzjo => exact off_nil); (case zzjT => k_asm); (case zzjk => exact rfl); (case zzjd => ((try dsimp only); omega)); (case zzju => ((try dsimp only); omega))) | (with_reducible show wpAny _ _ (call (Value.ref 162) _) _ _ _); (refine' SumT.use (sum_b3 _ rfl _) ?zzja ?zzjB ?zzjF ?zzjX ?zzjN ?zzjo ?zzjT ?zzjk ?zzjd ?zzju ?_; (case zzjF => k_asm); (case zzjN => exact (by k_asm)); (case zzja => exact rfl); (case zzjB => k_asm); (case zzjX => k_asm); (case zzjo => exact off_nil); (case zzjT => k_asm); (case zzjk => exact rfl); (case zzjd => ((try dsimp only); omega)); (case zzju => ((try dsimp only); omega)))); intro vzz newzz hzz tkzz hPzz Fzz Nzz hfzz; clear hfzz; (obtain ⟨e1zz, e2zz⟩ := hPzz); (first | subst e1zz | (obtain ⟨uzz, e1zz⟩ := e1zz; subst e1zz)); subst e2zz; (rw [List.nil_append] at Nzz); (rename CT _ _ _ _ _ _ _ _ _ => ctzz); (have nCzz := ctzz.ns _ Nzz))) | walk_at "st"))
    refine TestEnd.mk (by assumption) (by k_asm) (by k_asm) (fun hok ct2 => ?_) (fun hok => ?_)
    · have hb : inB1 (c : Int) = false := by simpa [cp0_one] using hok
      (repeat' (first | with_reducible ((show wpAny _ _ (call (Value.ref _) _) _ _ _); (k_dflt (first | (with_reducible show wpAny _ _ (call (Value.ref 116) _) _ _ _); (refine' SumT.use (sum_b1 _ rfl _) ?zzja ?zzjB ?zzjF ?zzjX ?zzjN ?zzjo ?zzjT ?zzjk ?zzjd ?zzju ?_; (case zzjF => k_asm); (case zzjN => exact (by k_asm)); (case zzja => exact rfl); (case zzjB => k_asm); (case zzjX => k_asm); (case zzjo => exact off_nil); (case zzjT => k_asm); (case zzjk => exact rfl); (case zzjd => ((try dsimp only); omega)); (case zzju => ((try dsimp only); omega))) | (with_reducible show wpAny _ _ (call (Value.ref 162) _) _ _ _); (refine' SumT.use (sum_b3 _ rfl _) ?zzja ?zzjB ?zzjF ?zzjX ?zzjN ?zzjo ?zzjT ?zzjk ?zzjd ?zzju ?_; (case zzjF => k_asm); (case zzjN => exact (by k_asm)); (case zzja => exact rfl); (case zzjB => k_asm); (case zzjX => k_asm); (case zzjo => exact off_nil); (case zzjT => k_asm); (case zzjk => exact rfl); (case zzjd => ((try dsimp only); omega)); (case zzju => ((try dsimp only); omega)))); intro vzz newzz hzz tkzz hPzz Fzz Nzz hfzz; clear hfzz; (obtain ⟨e1zz, e2zz⟩ := hPzz); (first | subst e1zz | (obtain ⟨uzz, e1zz⟩ := e1zz; subst e1zz)); subst e2zz; (rw [List.nil_append] at Nzz); (rename CT _ _ _ _ _ _ _ _ _ => ctzz); (have nCzz := ctzz.ns _ Nzz))) | walk_at "st"))
      refine EltEnd.mk (g := []) (by k_asm) (by k_asm) (fun _ h => nomatch h) ⟨?_, ?_, hi2⟩
      · rw [take_succ' hc, prepL_take hb]
        exact hI.1.append' (.cons _ _ .nil)
      · exact hI.2.1
    · have hb : inB1 (c : Int) = true := by simpa [cp0_one] using hok
      refine ⟨?_, hI.2.1, hi2⟩
      rw [take_succ' hc, prepL_skip hb]
      exact hI.1
  case hsz =>
    intro i ys ex hi hI
    have h1 := StrsAre_len hI.1
    have h2 := prepL_len (x.cps.toList.take i)
    rw [List.length_take, show x.cps.toList.length = x.cps.size from Array.length_toList] at h2
    rw [sizeLine_eq]
    omega
  case done =>
    intro D h' tk ys ex ep hI hD hex F1 N1
    obtain ⟨hI, rfl, _⟩ := hI
    rw [← (Array.length_toList : x.cps.toList.length = x.cps.size), List.take_length] at hI
    rw [List.nil_append] at N1
    (repeat' (first | with_reducible ((show wpAny _ _ (call (Value.ref _) _) _ _ _); (k_dflt (first | (with_reducible show wpAny _ _ (call (Value.ref 116) _) _ _ _); (refine' SumT.use (sum_b1 _ rfl _) ?zzja ?zzjB ?zzjF ?zzjX ?zzjN ?zzjo ?zzjT ?zzjk ?zzjd ?zzju ?_; (case zzjF => k_asm); (case zzjN => exact (by k_asm)); (case zzja => exact rfl); (case zzjB => k_asm); (case zzjX => k_asm); (case zzjo => exact off_nil); (case zzjT => k_asm); (case zzjk => exact rfl); (case zzjd => ((try dsimp only); omega)); (case zzju => ((try dsimp only); omega))) | (with_reducible show wpAny _ _ (call (Value.ref 162) _) _ _ _); (refine' SumT.use (sum_b3 _ rfl _) ?zzja ?zzjB ?zzjF ?zzjX ?zzjN ?zzjo ?zzjT ?zzjk ?zzjd ?zzju ?_; (case zzjF => k_asm); (case zzjN => exact (by k_asm)); (case zzja => exact rfl); (case zzjB => k_asm); (case zzjX => k_asm); (case zzjo => exact off_nil); (case zzjT => k_asm); (case zzjk => exact rfl); (case zzjd => ((try dsimp only); omega)); (case zzju => ((try dsimp only); omega)))); intro vzz newzz hzz tkzz hPzz Fzz Nzz hfzz; clear hfzz; (obtain ⟨e1zz, e2zz⟩ := hPzz); (first | subst e1zz | (obtain ⟨uzz, e1zz⟩ := e1zz; subst e1zz)); subst e2zz; (rw [List.nil_append] at Nzz); (rename CT _ _ _ _ _ _ _ _ _ => ctzz); (have nCzz := ctzz.ns _ Nzz))) | walk_at "st"))
    exact hret _ [] _ _ ⟨⟨_, rfl⟩, rfl⟩ (by k_asm) (nsub (by k_asm) fun q hq => List.mem_cons_of_mem _ hq) (fun _ h => nomatch h)
end
section -- Sen
theorem slot_ci_next : Slot "callable_iterator" "__next__" "callable_iterator.__next__" :=
  .of (owner := "callable_iterator") (n := "__next__") (by rw [typeLookup_type, builtinLookup_eq_fast]; kernel_rfl) (by decide +kernel) (by decide +kernel) (by decide +kernel)
    (by first | exact .inl (by decide +kernel) | exact .inr (by decide +kernel)) (by rw [isSubtype_type]; kernel_rfl)
theorem slot_ci_iter : Slot "callable_iterator" "__iter__" "callable_iterator.__iter__" :=
  .of (owner := "callable_iterator") (n := "__iter__") (by rw [typeLookup_type, builtinLookup_eq_fast]; kernel_rfl) (by decide +kernel) (by decide +kernel) (by decide +kernel)
    (by first | exact .inl (by decide +kernel) | exact .inr (by decide +kernel)) (by rw [isSubtype_type]; kernel_rfl)
theorem entry_ci_next : entryFor table "callable_iterator.__next__" = some Builtin.«callable_iterator.__next__» := entryFor_of_tree (by kernel_rfl)
theorem entry_ci_iter : entryFor table "callable_iterator.__iter__" = some Builtin.«dict_keyiterator.__iter__» :=
  entryFor_alias (id' := "dict_keyiterator.__iter__") (by kernel_rfl) rfl (by decide +kernel) (by kernel_rfl)
theorem args_ci_next (a : Value) : argsOk "callable_iterator.__next__" ⟨[a], []⟩ := by unfold argsOk; kernel_rfl
theorem args_ci_iter (a : Value) : argsOk "callable_iterator.__iter__" ⟨[a], []⟩ := by unfold argsOk; kernel_rfl
theorem entry_iter : entryFor table "iter" = some Builtin.«iter» := entryFor_of_tree (by kernel_rfl)
theorem args_iter (a b : Value) : argsOk "iter" ⟨[a, b], []⟩ := by unfold argsOk; kernel_rfl
noncomputable abbrev senO (bm : Addr) (t : Tok) : Obj := { cls := .type "callable_iterator", data := .fields #[.ref bm, .str (Str.ofString "") t, .bool false] }
noncomputable abbrev senE : Obj := { cls := .type "callable_iterator", data := .fields #[.none, .none, .bool true] }
section
variable {prog : Program} {w : World} {A : Around} {E : Value → Shared → Prop} {s : Shared}
theorem sen_iter {I bm : Addr} {t : Tok} {Q : Value → Shared → Prop} (hI : s.heap.get? I = some (senO bm t)) (h : Q (.ref I) s) : wpAny (model prog w) A (pyIter (.ref I)) Q E s := by
  have hT : s.TypeIs (.ref I) "callable_iterator" := ⟨_, hI, rfl⟩
  refine wpAny_pyIter_slot hT slot_ci_iter (wpAny_call_entry slot_ci_iter hT entry_ci_iter ?_ (args_ci_iter _))
  show wpAny _ _ (ret (.ref I)) _ _ s
  exact wpAny_pure ⟨_, rfl, "callable_iterator", _, hT, slot_ci_next.lookup, h⟩
/-- what stands of the iterator while it calls -/
structure SenAt (h : Heap) (I bm : Addr) (t : Tok) (f x : Addr) (fo : Obj) : Prop where
  it : h.get? I = some (senO bm t)
  me : h.get? bm = some (methodObj (.ref f) (.ref x))
  fn : h.get? f = some fo
  fd : ∃ d, fo.data = .func d
theorem sen_borrows {bm f x : Addr} {fo : Obj} {Q : Bool → Shared → Prop} (hb : s.heap.get? bm = some (methodObj (.ref f) (.ref x))) (hf : s.heap.get? f = some fo) (fd : ∃ d, fo.data = .func d)
    (h : Q true s) : wpAny (model prog w) A (borrowsExactly (.ref bm)) Q E s := by
  obtain ⟨d, hd⟩ := fd
  unfold borrowsExactly
  dsimp only
  refine wpAny_bind (wpAny_load hb ?_)
  show wpAny _ _ (load f >>= _) _ _ _
  refine wpAny_bind (wpAny_load hf ?_)
  rw [hd]
  exact wpAny_pure h
theorem callBorrowed_eq (f : Value) (pos : List Value) : callBorrowed f pos = (call f pos).keep [borrowed] := by
  refine congrArg (Sem.call (Code.call f ⟨pos, []⟩) none false [borrowed]) (funext fun r => ?_)
  match r with
  | .error e => rfl
  | .ok (.ret v) => rfl
  | .ok .next => rfl
  | .ok .brk => rfl
  | .ok .cont => rfl
theorem sen_call {bm f x : Addr} {Q : Value → Shared → Prop} (hb : s.heap.get? bm = some (methodObj (.ref f) (.ref x)))
    (h : codeAny (model prog w) A (.call (.ref f) ⟨[.ref x], []⟩) (fun r s' => match r with | .ok (.ret v) => Q v s' | .ok _ => False | .error e => E e s') s) : wpAny (model prog w) A (callBorrowed (.ref bm) []) Q E s :=
  callBorrowed_eq _ _ ▸ wpAny_keep (vs := [borrowed]) (wpAny_call (method_call hb h))
/-- the next sign of the iterator: what the method gives, unless it is the empty text -/
theorem sen_next {I bm f x : Addr} {t : Tok} {fo : Obj} {Q : Option Value → Shared → Prop} (S : SenAt s.heap I bm t f x fo) (hh : A.handled = none)
    (h : codeAny (model prog w) A.in1 (.call (.ref f) ⟨[.ref x], []⟩) (fun r s' => match r with
      | .ok (.ret v) => ∃ y ty, v = .str y ty ∧ SenAt s'.heap I bm t f x fo ∧ if y = Str.ofString "" then ∀ h', Heap.ExtBut I s'.heap h' → h'.get? I = some senE → Q none { s' with heap := h' } else Q (some (.str y ty)) s'
      | _ => False) s) : wpAny (model prog w) A (pyNext (.ref I)) Q E s := by
  have hT : s.TypeIs (.ref I) "callable_iterator" := ⟨_, S.it, rfl⟩
  unfold pyNext
  refine wpAny_bind (wpAny_attempt (wpAny_callSpecial?_slot (name := Str.ofString "__next__") hT slot_ci_next
    (wpAny_call_entry slot_ci_next hT entry_ci_next ?_ (args_ci_next _))))
  show wpAny _ _ (field (.ref I) 2 >>= _) _ _ s
  refine wpAny_bind (wpAny_field S.it rfl (x := .bool false) rfl ?_)
  show wpAny _ _ (field (.ref I) 0 >>= _) _ _ s
  refine wpAny_bind (wpAny_field S.it rfl (x := .ref bm) rfl ?_)
  refine wpAny_bind (wpAny_attempt ?_)
  unfold callOutOfASlot
  refine wpAny_bind (sen_borrows S.me S.fn S.fd ?_)
  show wpAny _ _ (callBorrowed (.ref bm) []) _ _ s
  refine sen_call S.me (codeAny_mono h fun r s' hr => ?_)
  match r with
  | .error e => exact hr.elim
  | .ok .next => exact hr.elim
  | .ok .brk => exact hr.elim
  | .ok .cont => exact hr.elim
  | .ok (.ret v) =>
    obtain ⟨y, ty, rfl, S', hq⟩ := hr
    show wpAny _ _ (field (.ref I) 2 >>= _) _ _ s'
    refine wpAny_bind (wpAny_field S'.it rfl (x := .bool false) rfl ?_)
    show wpAny _ _ (field (.ref I) 1 >>= _) _ _ s'
    refine wpAny_bind (wpAny_field S'.it rfl (x := .str (Str.ofString "") t) rfl ?_)
    refine wpAny_bind (wpAny_holding (eqBool_str ?_))
    by_cases hy : y = Str.ofString ""
    · rw [if_pos hy] at hq
      subst hy
      rw [show (Str.ofString "" == Str.ofString "") = true from by simp]
      show wpAny _ _ (rule _ >>= _) _ _ s'
      refine wpAny_bind (wpAny_rule ?_)
      refine wpAny_bind ?_
      show wpAny _ _ (field (.ref I) 0 >>= _) _ _ s'
      refine wpAny_bind (wpAny_field S'.it rfl (x := .ref bm) rfl ?_)
      refine wpAny_bind ?_
      unfold slotLetsGo
      dsimp only
      refine wpAny_bind (sen_borrows S'.me S'.fn S'.fd ?_)
      show wpAny _ _ (pure ()) _ _ s'
      refine wpAny_pure ?_
      refine wpAny_bind (wpAny_setField_rec S'.it (by simp) fun h1 e1 c1 => ?_)
      refine wpAny_bind (wpAny_setField_rec e1 (by simp) fun h2 e2 c2 => ?_)
      refine wpAny_setField_rec e2 (by simp) fun h3 e3 c3 => ?_
      have c : Heap.SameBut I s'.heap h3 := (c1.trans c2).trans c3
      show wpAny _ _ (newExc (.type "StopIteration") [] >>= _) _ _ _
      refine wpAny_bind ?_
      simp only [newExc, newTuple]
      refine wpAny_bind (wpAny_newObj_type ?_ (by size_fits))
      refine wpAny_bind (m := firstArgMember _ _) (wpAny_of_eq (a := Value.none) (by first | rfl | (simp only [firstArgMember]; rfl)) ?_)
      refine wpAny_newObj_type ?_ (by size_fits)
      simp only [raiseNew]
      refine wpAny_bind (wpAny_handled ?_)
      rw [show A.in1.handled = none from hh]
      refine wpAny_bind (wpAny_pure (wpAny_throw ?_))
      refine wpAny_bind (wpAny_isInstance (T := "StopIteration") (b := true) ⟨_, Heap.get?_push_size _ rfl, rfl⟩ isSubtype_stop ?_)
      refine wpAny_pure (hq _ ?_ ?_)
      · exact ((c.extBut).push _).push _
      · exact Heap.get?_push_of_some _ (Heap.get?_push_of_some _ e3)
    · rw [if_neg hy] at hq
      have e : (Str.ofString "" == y) = false := beq_false_of_ne (Ne.symm hy)
      rw [e]
      exact wpAny_pure ⟨_, rfl, wpAny_pure hq⟩
theorem slot_method_call : Slot "method" "__call__" "method.__call__" :=
  .of (owner := "method") (n := "__call__") (by rw [typeLookup_type, builtinLookup_eq_fast]; kernel_rfl) (by decide +kernel) (by decide +kernel) (by decide +kernel)
    (by first | exact .inl (by decide +kernel) | exact .inr (by decide +kernel)) (by rw [isSubtype_type]; kernel_rfl)
theorem plain_iter : plainId "iter" = true := by decide +kernel
theorem check_iter (a b : Value) : checkBuiltinCall "iter" ⟨[a, b], []⟩ = pure () := by kernel_rfl
theorem sen_make {bm : Addr} {f x : Value} {t : Tok} {Q : Value → Shared → Prop} (hb : s.heap.get? bm = some (methodObj f x)) (h : Q (.ref s.heap.objs.size) { s with heap := s.heap.push (senO bm t) }) :
    wpAny (model prog w) A (call (.builtin "iter") [.ref bm, .str (Str.ofString "") t]) Q E s := by
  have hT : s.TypeIs (.ref bm) "method" := ⟨_, hb, rfl⟩
  refine wpAny_call (codeAny_call_builtin plain_iter entry_iter ?_)
  rw [check_iter]
  refine wpAny_pure ?_
  show wpAny _ _ (specialOf (.ref bm) "__call__" >>= _) _ _ s
  refine wpAny_bind (wpAny_specialOf hT slot_method_call.lookup ?_)
  show wpAny _ _ (rule _ >>= _) _ _ s
  refine wpAny_bind (wpAny_rule ?_)
  show wpAny _ _ (newFields "callable_iterator" [.ref bm, .str (Str.ofString "") t, .bool false] >>= _) _ _ s
  refine wpAny_bind ?_
  unfold newFields
  refine wpAny_newObj_type ?_ (by size_fits)
  exact wpAny_pure h
end
end
section -- S5
theorem fill5 : PySem.Challenge.rw_uq0027_01 = PySem.Challenge.rw_uq0027_01 ∧ KK = KK := by
  k_fill
  exact ⟨rfl, rfl⟩
variable {w : World} {mean : ExcName → Option Value} {mg mb : Str → Option Value}
theorem K_316 (P : Params) : ∃ o, (KK P).lookup 316 = some o ∧ o.cls = .type "code" ∧ ∃ vs, o.data = .fields vs ∧ vs[11]? = some (.ref 312) ∧ vs.getD 11 .none = .ref 312 ∧ ∃ file tf flags tg inF text tt, vs.getD 18 .none = .str file tf ∧ vs.getD 7 .none = .int flags tg ∧ vs.getD 9 .none = .bool inF ∧ vs.getD 10 .none = .int text tt :=
  ⟨_, rfl, rfl, _, rfl, rfl, rfl, _, _, _, _, _, _, _, rfl, rfl, rfl, rfl⟩
theorem codeHd316 {h : Heap} (X : (KK w.params).In h) : CodeHd h 316 312 :=
  let ⟨o, e, ec, vs, ed, e1, e2, file, tf, flags, tg, inF, text, tt, e3, e4, e5, e6⟩ := K_316 w.params
  ⟨o, vs, file, tf, flags, tg, inF, text, tt, X _ _ e, ec, ed, e1, e2, e3, e4, e5, e6, by decide⟩
end
section -- S6L
/-- the sign at a place, or nothing -/
noncomputable def chAt (x : Str) (p : Nat) : Str := match x.cps[p]? with
  | some c => ⟨#[c]⟩
  | none => ⟨#[]⟩
theorem pick_in {n p : Nat} (h : p < n) : Builtin.Str.strSliceIndices (some (p : Int)) (some ((p : Int) + 1)) 1 n = [p] := by
  have := PySem.StrLaws.strSliceIndices_plain (a := p) (b := p + 1) (len := n) (by omega) (by omega)
  rw [show ((p : Int) + 1) = ((p + 1 : Nat) : Int) from by omega, this]
  simp
theorem pick_out {n p : Nat} (h : p = n) : Builtin.Str.strSliceIndices (some (p : Int)) (some ((p : Int) + 1)) 1 n = [] := by
  subst h
  have h0 : ¬ ((p : Int) < 0) := by omega
  have h1 : ¬ ((p : Int) + 1 < 0) := by omega
  have e1 : max (0 : Int) (min (p : Int) (p : Int)) = p := by omega
  have e2 : max (0 : Int) (min ((p : Int) + 1) (p : Int)) = p := by omega
  simp only [Builtin.Str.strSliceIndices, sliceRange, h0, h1, if_false, e1, e2, show ((1 : Int) > 0) = True from by simp, if_true, Int.lt_irrefl]
  rfl
section
variable {prog : Program} {w : World} {A : Around} {E : Value → Shared → Prop} {s : Shared} {env : Env}
noncomputable def ReadAt (Q : Value → Shared → Prop) (o vl vu : Value) (s₃ : Shared) : Prop :=
  ∃ x t l u, o = .str x t ∧ vl = partValue l ∧ vu = partValue u ∧ (sliceMade x t l u none).post Q { s₃ with heap := s₃.heap.push { cls := .type "slice", data := .fields #[vl, vu, .none] } }
theorem eval_read {Q : Value → Shared → Prop} {value : Expr} {lower upper : Option Expr} {p pos : Pos}
    (h : wpAny (model prog w) A (eval value env) (fun o s₁ => wpAny (model prog w) A (evalPart lower env) (fun vl s₂ => wpAny (model prog w) A (evalPart upper env) (fun vu s₃ => ReadAt Q o vl vu s₃) E s₂) E s₁) E s)
    (ht : ∀ o r, letTemporaryGo value o r = pure () := by intro _ _; rfl) : wpAny (model prog w) A (eval (.Subscript value (.Slice lower upper none p) pos) env) Q E s :=
  wpAny_Subscript_str_slice h ht
theorem readAt_at {h₀ : Heap} {L : Addr} {m : Str → Option Value} {news : List (Addr × Obj)} {Q : Value → Shared → Prop} {x : Str} {t tp tq : Tok} {p : Nat} (F : Fr h₀ L s.heap m) (N : News h₀ L s.heap news) (hp : p ≤ x.cps.size) (hx : 2 ≤ x.cps.size)
    (h : ∀ t' h' tk', Fr h₀ L h' m → News h₀ L h' news → Q (.str (chAt x p) t') { s with heap := h', toks := tk' }) : ReadAt Q (.str x t) (.int (p : Int) tp) (.int ((p : Int) + 1) tq) s := by
  refine ⟨x, t, some (p, tp), some (p + 1, tq), rfl, rfl, rfl, ?_⟩
  have up : ∀ (o : Obj) b o', s.heap.get? b = some o' → (s.heap.push o).get? b = some o' := fun o b o' e => Heap.get?_push_of_some _ e
  have e : slicePicked x (some (p, tp)) (some (p + 1, tq)) none = if p < x.cps.size then [p] else [] := by
    unfold slicePicked
    split
    · exact pick_in (by assumption)
    · exact pick_out (show p = x.cps.size by omega)
  have e2 : (⟨((slicePicked x (some (p, tp)) (some (p + 1, tq)) none).filterMap (x.cps[·]?)).toArray⟩ : Str) = chAt x p := by
    rw [e]
    unfold chAt
    split
    · rename_i h; simp [h]
    · rename_i h; simp [h]
  unfold sliceMade
  rw [if_neg]
  · rw [e2]
    exact ⟨Nat.le_trans (show (chAt x p).cps.size ≤ 1 by unfold chAt; split <;> exact Nat.le_of_ble_eq_true rfl) (by decide), h _ _ _ (F.keeps (up _)) (N.grown (up _))⟩
  · rw [e]
    simp only [Bool.and_eq_true, beq_iff_eq]
    rintro ⟨_, h2⟩
    split at h2
    · have : x.length = 1 := h2.symm
      have : x.cps.size = 1 := this
      omega
    · have : x.length = 0 := h2.symm
      have : x.cps.size = 0 := this
      omega
theorem set0 {D : Addr} {h₀ : Heap} {L : Addr} {m : Str → Option Value} {news news' : List (Addr × Obj)} {Q : Unit → Shared → Prop} {i v : Int} {t t0 u : Tok} {n : Nat} (F : Fr h₀ L s.heap m) (N : News h₀ L s.heap news) (U : Upd D (listOf #[.int i t] n) (listOf #[.int v u] n) news news')
    (h : ∀ h', Fr h₀ L h' m → News h₀ L h' news' → Q () { s with heap := h' }) : wpAny (model prog w) A (setItem (.ref D) (.int 0 t0) (.int v u)) Q E s :=
  ksa_set (vs := [.int i t]) (ns := [i]) (k := 0) F N U (by repeat' constructor) (by decide) (by simp) (by decide) fun h' F' N' _ _ _ => h h' F' N'
end
end
section -- S6
theorem fill6 : PySem.Challenge.rw_uq0027_01 = PySem.Challenge.rw_uq0027_01 ∧ KK = KK := by
  k_fill
  exact ⟨rfl, rfl⟩
noncomputable def stmtsOf (s : Stmt) : List Stmt := match s with | .FunctionDef _ _ b .. => b | _ => []
noncomputable def nestI : Stmt := (stmtsOf (stI 18))[1]?.getD (.Pass ⟨0, 0, 0, 0⟩)
/-- where the lexer's objects lie, and the marks of its values -/
structure LexA where
  (pb lx dx pb2 st dst f c pl Lc : Addr)
  (oPl oTx oc : Obj)
  (dc ct : Value)
  (k1 k2 k3 k4 k5 k6 k7 k8 k9 w1 w2 l2 tt qt : Tok)
  vs : Array Value
noncomputable def readQ : Str := qualnameIn (envOfC s423 (fS (stI 18)) 0 317 (Value.ref 316)) (Str.ofString "_law_read") (Str.ofString "_law_read")
noncomputable abbrev readFn (mg : Str → Option Value) (A : LexA) : Obj := fnMade (Str.ofString "_law_read") readQ (fA nestI) (stmtsOf nestI) (fS nestI) [(Str.ofString "text", A.Lc + 1), (Str.ofString "place", A.Lc + 1 + 1)] A.dc ((mg (Str.ofString "__name__")).getD Value.none) A.c A.ct
noncomputable abbrev ent (P : Params) (n : String) (k : Tok) (v : Value) : DictEntry := ⟨PyData.keyHash P (Str.ofString n), .str (Str.ofString n) k, v⟩
noncomputable abbrev lexD (P : Params) (A : LexA) (ln : Int) (tl : Tok) : Obj := dictOf [ent P "lineno" A.k1 (.int ln tl), ent P "instream" A.k2 (.ref A.st), ent P "whitespace" A.k3 (.str (Str.ofString "\n\t\r ") A.w1), ent P "pushback" A.k4 (.ref A.pb)] 4
noncomputable abbrev standD (P : Params) (A : LexA) : Obj := dictOf [ent P "lineno" A.k5 (.int 1 A.l2), ent P "instream" A.k6 .none, ent P "whitespace" A.k7 (.str (Str.ofString "\n\t\r ") A.w2), ent P "pushback" A.k8 (.ref A.pb2), ent P "read" A.k9 (.ref A.f)] 5
/-- the lexer's objects: the line, the place, the pushed words -/
noncomputable abbrev lexL (P : Params) (mg : Str → Option Value) (A : LexA) (ln : Int) (tl : Tok) (p : Nat) (tp : Tok) (n2 : Nat) (ps : Array Value) (n3 : Nat) : List (Addr × Obj) :=
  [(A.pb, listOf ps n3), (A.lx, instObj 94 A.dx), (A.dx, lexD P A ln tl), (A.pb2, listOf #[] 0), (A.st, instObj 94 A.dst), (A.dst, standD P A), (A.f, readFn mg A), (A.c, A.oc), (A.pl, listOf #[.int (p : Int) tp] n2), (A.Lc + 1 + 1, A.oPl), (A.Lc + 1, A.oTx)]
structure LexOk (A : LexA) (text : Str) : Prop where
  dPl : A.oPl.data = .cell (some (.ref A.pl))
  dTx : A.oTx.data = .cell (some (.str text A.tt))
  dC : A.oc.data = .fields A.vs
  dV : A.vs[1]? = some (.str readQ A.qt)
  o1 : @LT.lt Nat _ (A.Lc + 1 + 1) A.pl
  o2 : @LT.lt Nat _ (A.pl) A.c
  o3 : @LT.lt Nat _ (A.c) A.f
  o4 : @LT.lt Nat _ (A.f) A.dst
  o5 : @LT.lt Nat _ (A.dst) A.st
  o6 : @LT.lt Nat _ (A.st) A.pb2
  o7 : @LT.lt Nat _ (A.pb2) A.dx
  o8 : @LT.lt Nat _ (A.dx) A.lx
  o9 : @LT.lt Nat _ (A.lx) A.pb
theorem pw_cons {a b : Nat} {l : List Nat} (h : b < a) (t : List.Pairwise (fun x y : Nat => y < x) (b :: l)) : List.Pairwise (fun x y : Nat => y < x) (a :: b :: l) :=
  List.Pairwise.cons (fun y hy => by
    rcases List.mem_cons.mp hy with e | hy
    · exact e ▸ h
    · exact Nat.lt_trans (List.rel_of_pairwise_cons t hy) h) t
/-- the lexer's places go down -/
theorem lexDownZ {A : LexA} {text : Str} (ok : LexOk A text) {z : Nat} (h : @LT.lt Nat _ z (A.Lc + 1)) : List.Pairwise (fun x y : Nat => y < x) [A.pb, A.lx, A.dx, A.pb2, A.st, A.dst, A.f, A.c, A.pl, A.Lc + 1 + 1, A.Lc + 1, z] :=
  pw_cons ok.o9 (pw_cons ok.o8 (pw_cons ok.o7 (pw_cons ok.o6 (pw_cons ok.o5 (pw_cons ok.o4 (pw_cons ok.o3 (pw_cons ok.o2 (pw_cons ok.o1 (pw_cons (Nat.lt_succ_self _) (pw_cons h (List.pairwise_singleton _ _)))))))))))
theorem lexUp {A : LexA} {text : Str} (ok : LexOk A text) {z : Nat} (h : @LT.lt Nat _ z (A.Lc + 1)) : ∀ b ∈ [A.pb, A.lx, A.dx, A.pb2, A.st, A.dst, A.f, A.c, A.pl, A.Lc + 1 + 1, A.Lc + 1], @LT.lt Nat _ z b := fun b hb =>
  (List.pairwise_append.mp (show List.Pairwise _ ([A.pb, A.lx, A.dx, A.pb2, A.st, A.dst, A.f, A.c, A.pl, A.Lc + 1 + 1, A.Lc + 1] ++ [z]) from lexDownZ ok h)).2.2 b hb z (.head _)
theorem lexDown {A : LexA} {text : Str} (ok : LexOk A text) : List.Pairwise (fun x y : Nat => y < x) [A.pb, A.lx, A.dx, A.pb2, A.st, A.dst, A.f, A.c, A.pl, A.Lc + 1 + 1, A.Lc + 1] :=
  (List.pairwise_append.mp (show List.Pairwise _ ([A.pb, A.lx, A.dx, A.pb2, A.st, A.dst, A.f, A.c, A.pl, A.Lc + 1 + 1, A.Lc + 1] ++ [A.Lc]) from lexDownZ ok (Nat.lt_succ_self _))).1
theorem offI {A : LexA} {text : Str} (ok : LexOk A text) {D : Nat} (h : @LT.lt Nat _ A.pb D) : D ∉ [A.pb, A.lx, A.dx, A.pb2, A.st, A.dst, A.f, A.c, A.pl, A.Lc + 1 + 1, A.Lc + 1] := fun hm => by
  rcases List.mem_cons.mp hm with e | hm
  · exact Nat.lt_irrefl _ (e ▸ h)
  · exact Nat.lt_irrefl _ (Nat.lt_trans h (List.rel_of_pairwise_cons (lexDown ok) hm))
/-- what lies below the pushed words -/
theorem lexTail {A : LexA} {text : Str} (ok : LexOk A text) {news : List (Addr × Obj)} (hoff : OwnOff news [A.pb, A.lx, A.dx, A.pb2, A.st, A.dst, A.f, A.c, A.pl, A.Lc + 1 + 1, A.Lc + 1]) {o1 o2 o3 o4 o5 o6 o7 o8 o9 o10 : Obj} : ∀ p ∈ (A.lx, o1) :: (A.dx, o2) :: (A.pb2, o3) :: (A.st, o4) :: (A.dst, o5) :: (A.f, o6) :: (A.c, o7) :: (A.pl, o8) :: (A.Lc + 1 + 1, o9) :: (A.Lc + 1, o10) :: news, p.1 ≠ A.pb := fun p hp => by
  rcases List.mem_append.mp (show p ∈ [(A.lx, o1), (A.dx, o2), (A.pb2, o3), (A.st, o4), (A.dst, o5), (A.f, o6), (A.c, o7), (A.pl, o8), (A.Lc + 1 + 1, o9), (A.Lc + 1, o10)] ++ news from hp) with h | h
  · exact Nat.ne_of_lt (List.rel_of_pairwise_cons (lexDown ok) (List.mem_map_of_mem (f := (·.1)) h))
  · exact hoff p h A.pb (.head _)
/-- the line behind a sign -/
noncomputable def lnAt (text : Str) (p : Nat) (ln : Int) : Int := if (chAt text p == Str.ofString "\n") = true then ln + 1 else ln
theorem lnAt1 {text : Str} {p : Nat} {ln : Int} (h : (chAt text p == Str.ofString "\n") = true) : lnAt text p ln = ln + 1 := if_pos h
theorem lnAt0 {text : Str} {p : Nat} {ln : Int} (h : (chAt text p == Str.ofString "\n") = false) : lnAt text p ln = ln := if_neg (by rw [h]; exact Bool.false_ne_true)
noncomputable abbrev readPost (P : Params) (mg : Str → Option Value) (A : LexA) (text : Str) (ln : Int) (p : Nat) (ps : Array Value) (n3 : Nat) (v : Value) (new : List (Addr × Obj)) : Prop :=
  ∃ t tl tp n2, v = .str (chAt text p) t ∧ new = lexL P mg A (lnAt text p ln) tl (p + 1) tp n2 ps n3
local macro_rules | `(tactic| k_room) => `(tactic| ktr_room)
local macro_rules | `(tactic| walk_at "eval Subscript") => `(tactic| (k_here; (with_reducible show wpAny _ _ (eval (Expr.Subscript _ (Expr.Slice _ _ none _) _) _) _ _ _); k_dflt (refine' eval_read ?_ ?t; (case t => (intro _ _; rfl)))))
local macro_rules | `(tactic| walk_at "setItem ref int") => `(tactic| (k_here; k_dflt (refine' set0 ?jF ?jN ?jU ?_; (case jF => k_asm); (case jN => k_asm); (case jU => k_upd)); intro h' F' N'; (try k_sweep)))
set_option maxHeartbeats 4000000 in
theorem sumC_readch (A : LexA) (text : Str) (ok : LexOk A text) (ln : Int) (tl : Tok) (p : Nat) (tp : Tok) (n2 : Nat) (ps : Array Value) (n3 : Nat) (hp : p ≤ text.cps.size) (hx : 2 ≤ text.cps.size) : SumC w mean mg mb (.ref 77) [.ref A.lx] [] 2 24 (lexL w.params mg A ln tl p tp n2 ps n3) (readPost w.params mg A text ln p ps n3) := by
  intro news dp un gd cn cs a ccd cl outer A₀ base h₀ L m s Q E B F X N hoff T hk hdp hun hret
  obtain ⟨dPl, dTx, dC, dV, o1, o2, o3, o4, o5, o6, o7, o8, o9⟩ := ok
  simp only [lexL, lexD, standD, ent, List.nil_append, List.cons_append] at N
  simp only [lexL, List.map_cons, List.map_nil] at hoff
  k_dflt cell_enter
  have hC := codeHd316 X
  (repeat' (first | with_reducible ((k_dflt (refine' readAt_at ?zzjF ?zzjN ?zzjp ?zzjx ?_; (case zzjF => k_asm); (case zzjN => k_asm); (case zzjp => assumption); (case zzjx => assumption)); intro tzz hzz tkzz Fzz Nzz; (try k_sweep))) | with_reducible ((show wpAny _ _ (subscriptTail _ _ (Value.ref _) _) _ _ _); ((with_reducible show wpAny _ _ (subscriptTail _ _ (Value.ref _) (Value.int 0 _)) _ _ _); k_dflt (refine' sub_at (j := 0) ?zza ?zzb ?zzc ?zzd ?zze ?_ ?zzg; (case zza => k_asm); (case zzb => k_mem); (case zzc => rfl); (case zzd => decide); (case zze => rfl); (case zzg => with_unfolding_all rfl)))) | walk_at "st"))
  · have e := lnAt1 (ln := ln) (by assumption)
    exact hret _ (lexL w.params mg A (lnAt text p ln) _ (p + 1) _ _ ps n3) _ _ ⟨_, _, _, _, rfl, rfl⟩ (by k_asm) (by rw [e]; k_asm) (fun q hq => .inl (List.mem_map_of_mem (f := (·.1)) hq))
  · have e := lnAt0 (ln := ln) (by assumption)
    exact hret _ (lexL w.params mg A (lnAt text p ln) _ (p + 1) _ _ ps n3) _ _ ⟨_, _, _, _, rfl, rfl⟩ (by k_asm) (by rw [e]; k_asm) (fun q hq => .inl (List.mem_map_of_mem (f := (·.1)) hq))
theorem sum_readch (A : LexA) (text : Str) (ok : LexOk A text) (ln : Int) (tl : Tok) (p : Nat) (tp : Tok) (n2 : Nat) (ps : Array Value) (n3 : Nat) (hp : p ≤ text.cps.size) (hx : 2 ≤ text.cps.size) : SumT w mean mg mb (.ref 77) [.ref A.lx] [] 2 24 (lexL w.params mg A ln tl p tp n2 ps n3) (readPost w.params mg A text ln p ps n3) :=
  (sumC_readch A text ok ln tl p tp n2 ps n3 hp hx).toT
end
section -- S7
theorem fill7 : PySem.Challenge.rw_uq0027_01 = PySem.Challenge.rw_uq0027_01 ∧ KK = KK := by
  k_fill
  exact ⟨rfl, rfl⟩
variable {w : World} {mean : ExcName → Option Value} {mg mb : Str → Option Value}
theorem readQ_eq (L' : Addr) : qualnameIn (envOfC s423 (fS (stI 18)) L' 317 (Value.ref 316)) (Str.ofString "_law_read") (Str.ofString "_law_read") = readQ := rfl
noncomputable abbrev lexerPost (P : Params) (mg : Str → Option Value) (x : Str) (v : Value) (new : List (Addr × Obj)) : Prop :=
  ∃ A tl tp n2 n3 pt, v = .ref A.lx ∧ LexOk A x ∧ @LT.lt Nat _ 312 A.Lc ∧ new = lexL P mg A 1 tl 0 tp n2 #[] n3 ++ [(312, tabObj pt)]
theorem lexer_ret {Q : Value → Shared → Prop} {s : Shared} {h₀ h' : Heap} {L : Addr} {m : Str → Option Value} {news : List (Addr × Obj)} {tk : Nat} {P : Params} {x : Str} {pre : List (Addr × Obj)}
    {pb lx dx pb2 st dst f c pl Lc : Addr} {oPl oTx oc : Obj} {pt : Array Value} {dc ct : Value} {k1 k2 k3 k4 k5 k6 k7 k8 k9 w1 w2 l2 tt qt tl tp : Tok} {n2 n3 n4 : Nat} {vs : Array Value}
    (hret : ∀ v new h' tk, lexerPost P mg x v new → Fr h₀ L h' m → News h₀ L h' (new ++ news) → (∀ p ∈ new, p.1 ∈ pre.map (·.1) ∨ ∀ q ∈ pre ++ news, q.1 < p.1) → Q v { s with heap := h', toks := tk })
    (F : Fr h₀ L h' m)
    (N : News h₀ L h' ((pb, listOf #[] n3) :: (lx, instObj 94 dx) :: (dx, dictOf [ent P "lineno" k1 (.int 1 tl), ent P "instream" k2 (.ref st), ent P "whitespace" k3 (.str (Str.ofString "\n\t\r ") w1), ent P "pushback" k4 (.ref pb)] 4) ::
      (pb2, listOf #[] 0) :: (st, instObj 94 dst) :: (dst, dictOf [ent P "lineno" k5 (.int 1 l2), ent P "instream" k6 .none, ent P "whitespace" k7 (.str (Str.ofString "\n\t\r ") w2), ent P "pushback" k8 (.ref pb2), ent P "read" k9 (.ref f)] 5) ::
      (f, fnMade (Str.ofString "_law_read") readQ (fA nestI) (stmtsOf nestI) (fS nestI) [(Str.ofString "text", Lc + 1), (Str.ofString "place", Lc + 1 + 1)] dc ((mg (Str.ofString "__name__")).getD Value.none) c ct) :: (c, oc) :: (pl, listOf #[.int 0 tp] n2) :: (Lc + 1 + 1, oPl) :: (Lc + 1, oTx) :: (312, tabObj pt) :: news))
    (dPl : oPl.data = .cell (some (.ref pl))) (dTx : oTx.data = .cell (some (.str x tt))) (dC : oc.data = .fields vs) (dV : vs[1]? = some (.str readQ qt))
    (o1 : @LT.lt Nat _ (Lc + 1 + 1) pl) (o2 : @LT.lt Nat _ pl c) (o3 : @LT.lt Nat _ c f) (o4 : @LT.lt Nat _ f dst) (o5 : @LT.lt Nat _ dst st) (o6 : @LT.lt Nat _ st pb2) (o7 : @LT.lt Nat _ pb2 dx) (o8 : @LT.lt Nat _ dx lx) (o9 : @LT.lt Nat _ lx pb)
    (hpre : pre.map (·.1) = [312]) (o0 : @LT.lt Nat _ 312 Lc) (l0 : ∀ q ∈ news, @LT.lt Nat _ q.1 Lc) : Q (.ref lx) { s with heap := h', toks := tk } := by
  have ok : LexOk ⟨pb, lx, dx, pb2, st, dst, f, c, pl, Lc, oPl, oTx, oc, dc, ct, k1, k2, k3, k4, k5, k6, k7, k8, k9, w1, w2, l2, tt, qt, vs⟩ x := ⟨dPl, dTx, dC, dV, o1, o2, o3, o4, o5, o6, o7, o8, o9⟩
  refine hret _ (lexL P mg ⟨pb, lx, dx, pb2, st, dst, f, c, pl, Lc, oPl, oTx, oc, dc, ct, k1, k2, k3, k4, k5, k6, k7, k8, k9, w1, w2, l2, tt, qt, vs⟩ 1 tl 0 tp n2 #[] n3 ++ [(312, tabObj pt)]) _ _ ⟨_, tl, tp, n2, n3, pt, rfl, ok, o0, rfl⟩ F N fun p hp => ?_
  have big : (p.1 = 312) ∨ @LT.lt Nat _ Lc p.1 := by
    rcases List.mem_append.mp hp with h | h
    · exact .inr (lexUp ok (Nat.lt_succ_self _) p.1 (List.mem_map_of_mem (f := (·.1)) h))
    · exact .inl (by rw [List.mem_singleton.mp h])
  rcases big with h | h
  · exact .inl (by rw [hpre, h]; exact .head _)
  · refine .inr fun q hq => ?_
    rcases List.mem_append.mp hq with h1 | h1
    · have : q.1 ∈ pre.map (·.1) := List.mem_map_of_mem (f := (·.1)) h1
      rw [hpre] at this
      have e : q.1 = 312 := List.mem_singleton.mp this
      rw [e]
      exact Nat.lt_trans o0 h
    · exact Nat.lt_trans (l0 q h1) h
local macro_rules | `(tactic| k_room) => `(tactic| ktr_room)
set_option maxHeartbeats 4000000 in
theorem sum_lexer (x : Str) (t : Tok) : SumT w mean mg mb (.ref 317) [.str x t] [] 2 24 [(312, tabObj #[])] (lexerPost w.params mg x) := by
  intro news dp un gd cn cs a ccd cl outer A₀ base h₀ L m s Q E B F X N hoff T hk hdp hun hret
  simp only [List.nil_append, List.cons_append] at N
  refine wpAny_call ?_
  k_dflt (refine' code_defC ?k1 ?k2 ?k3 ?k4 ?k5 ?kA ?kF ?kK ?k6 ?k7 ?k8 ?k9 ?kB ?kD ?_ ?c2 ?c3 ?c4; (case kA => exact rfl); (case kF => exact rfl); (case kK => assumption); (case k1 => k_asm); (case k2 => k_asm); (case k3 => k_asm); (case k4 => k_asm); (case k5 => k_asm); (case k6 => k_is); (case k7 => k_is); (case k8 => ktr_room); (case k9 => exact BindsTo.of_eq rfl); (case kB => exact rfl); (case kD => decide +kernel); (case c2 => exact rfl); (case c3 => exact rfl); (case c4 => exact rfl); k_whole; intro g' L' h' tk' cells' FG' F' N' Y' B' X' T' l1; (have l0 := l1); (have a1 := fun p hp => Nat.lt_succ_of_lt (l1 p hp)); (have a2 := fun p hp => Nat.lt_succ_of_lt (a1 p hp)); (try k_lt l1); (try k_lt a1); (try k_lt a2); k_cells Y'; (try simp only [List.cons_append, List.nil_append] at N'); (try dsimp only); (try k_lift B'); (try k_fold))
  have hC := codeHd316 X'
  k_steps
  refine' lexer_ret hret ?jF ?jN ?d1 ?d2 ?d3 ?d4 ?o1 ?o2 ?o3 ?o4 ?o5 ?o6 ?o7 ?o8 ?o9 ?jp ?o0 ?l0
  case jF => k_asm
  case jN => k_asm
  case d1 => assumption
  case d2 => first | assumption | exact d2'.trans rfl
  case d3 => assumption
  case d4 => assumption
  case jp => rfl
  case l0 => exact fun q hq => l0 q (List.mem_cons_of_mem _ hq)
  all_goals omega
end
section -- S8L
section
variable {prog : Program} {w : World} {A : Around} {E : Value → Shared → Prop} {s : Shared} {env : Env} {h₀ : Heap} {L : Addr} {m : Str → Option Value} {news : List (Addr × Obj)}
theorem iter_K {bm : Addr} {f x : Value} {t : Tok} {Q : Value → Shared → Prop} (F : Fr h₀ L s.heap m) (N : News h₀ L s.heap news) (hm : (bm, methodObj f x) ∈ news)
    (h : ∀ D h', Fr h₀ L h' m → News h₀ L h' ((D, senO bm t) :: news) → (∀ p ∈ news, p.1 < D) → Q (.ref D) { s with heap := h' }) :
    wpAny (model prog w) A (call (.builtin "iter") [.ref bm, .str (Str.ofString "") t]) Q E s := by
  refine sen_make (N _ hm).1 ?_
  have up : ∀ b o', s.heap.get? b = some o' → (s.heap.push (senO bm t)).get? b = some o' := fun b o' e => Heap.get?_push_of_some _ e
  refine h _ _ (F.keeps up) (fun p hp => ?_) fun p hp => Heap.lt_size (N p hp).1
  rcases List.mem_cons.mp hp with rfl | hp
  · refine ⟨Heap.get?_push_size _ rfl, ?_, next_is_new F⟩
    exact Nat.ne_of_gt F.ns.lt
  · exact N.grown up p hp
/-- a for loop over the calling iterator, with an invariant -/
theorem for_sen {v y : Str} {px py pos : Pos} {body : List Stmt} {Q : Flow → Shared → Prop} {I bm : Addr} {t : Tok} (Inv : Nat → Shared → Prop) (k : Nat)
    (hy : wpAny (model prog w) A (eval (.Name y py) env) (fun xv s₁ => xv = .ref I ∧ s₁.heap.get? I = some (senO bm t) ∧ Inv k s₁) E s)
    (turn : ∀ k s', Inv k s' → wpAny (model prog w) A (pyNext (.ref I)) (fun r s₁ => match r with
      | none => Q .next s₁
      | some y => wpAny (model prog w) A (storeName env v y) (fun _ s₂ => wpAny (model prog w) A (execs body env) (fun f s₃ => match f with
        | .next | .cont => ∃ k', k' < k ∧ Inv k' s₃
        | .brk => Q .next s₃
        | .ret v => Q (.ret v) s₃) E s₂) E s₁) E s')
    (hs : ∀ x, foldedSetIterable (.Name y py) env x = pure x := by intro _; rfl) (hE : PassesOwn (model prog w) A env E := by passes_own) :
    wpAny (model prog w) A (exec (.For (.Name v px) (.Name y py) body [] pos) env) Q E s := by
  refine wpAny_For (wpAny_mono hy (fun xv s₁ h₁ => ?_) fun _ _ z => z) hs
  obtain ⟨rfl, hI, hInv⟩ := h₁
  refine sen_iter hI ?_
  refine codeAny_forLoop (R := fun r s' => match r with | .ok f => Q f s' | .error e => cameBackBy (model prog w) A env E e s') Inv (fun k s' hk => ?_) k hInv
  refine wpAny_passesOwn hE (wpAny_mono (turn k s' hk) (fun r s₁ hr => ?_) fun _ _ z => z)
  cases r with
  | none => exact wpAny_execs_nil hr
  | some y =>
    refine wpAny_passesOwn hE (wpAny_assign_Name (wpAny_mono hr (fun _ s₂ h₂ => ?_) fun _ _ z => z))
    refine wpAny_passesOwn hE (wpAny_mono h₂ (fun f s₃ h₃ => ?_) fun _ _ z => z)
    cases f with
    | next => exact h₃
    | cont => exact h₃
    | brk => exact h₃
    | ret _ => exact h₃
end
/-- where the lexer's objects lie -/
noncomputable abbrev lexAdr (A : LexA) : List Addr := [A.pb, A.lx, A.dx, A.pb2, A.st, A.dst, A.f, A.c, A.pl, A.Lc + 1 + 1, A.Lc + 1]
theorem lexL_adr (P : Params) (mg : Str → Option Value) (A : LexA) (ln : Int) (tl : Tok) (p : Nat) (tp : Tok) (n2 : Nat) (ps : Array Value) (n3 : Nat) : (lexL P mg A ln tl p tp n2 ps n3).map (·.1) = lexAdr A := rfl
section
variable {w : World} {mean : ExcName → Option Value} {mg mb : Str → Option Value} {dp un : Nat} {gd : Option (List Code)} {cn : Str} {cs : Scope} {a : Addr} {ccd : Value} {cl : List (Str × Addr)} {outer : List Env} {A₀ : Around} {base h₀ : Heap} {L : Addr} {m : Str → Option Value} {s : Shared} {news : List (Addr × Obj)}
  {A : LexA} {text : Str} {ln : Int} {tl : Tok} {p : Nat} {tp : Tok} {n2 : Nat} {ps : Array Value} {n3 : Nat} {I bm : Addr} {oI oB : Obj} {t : Tok} {E : Value → Shared → Prop}
theorem reord {h : Heap} {l : List (Addr × Obj)} : News h₀ L h ((I, oI) :: (bm, oB) :: (l ++ news)) ↔ News h₀ L h (l ++ ((I, oI) :: (bm, oB) :: news)) := by
  constructor <;> intro N <;> refine nsub N fun q hq => ?_ <;> simp only [List.mem_append, List.mem_cons] at hq ⊢ <;> rcases hq with h | h | h | h <;> simp [h]
theorem off2 (hI : I ∉ lexAdr A) (hb : bm ∉ lexAdr A) (hoff : OwnOff news (lexAdr A)) : OwnOff ((I, oI) :: (bm, oB) :: news) (lexAdr A) := by
  intro q hq b hb'
  rcases List.mem_cons.mp hq with rfl | hq
  · exact fun e => hI (by rw [show I = b from e]; exact hb')
  · rcases List.mem_cons.mp hq with rfl | hq
    · exact fun e => hb (by rw [show bm = b from e]; exact hb')
    · exact hoff q hq b hb'
theorem read_C {Q : Value → Shared → Prop} (ok : LexOk A text) (hp : p ≤ text.cps.size) (hx : 2 ≤ text.cps.size) (hI : I ∉ lexAdr A) (hb : bm ∉ lexAdr A) (hoff : OwnOff news (lexAdr A))
    (B : Below A₀ base outer h₀) (F : Fr h₀ L s.heap m) (X : (KK w.params).In h₀) (N : News h₀ L s.heap ((I, oI) :: (bm, oB) :: (lexL w.params mg A ln tl p tp n2 ps n3 ++ news))) (T : Top topProg LX mean mg mb h₀) (hk : cs.kind = .function) (hdp : dp + 2 < recursionLimit) (hun : un + 24 < cLine)
    (h : ∀ t' tl' tp' n2' h' tk', Fr h₀ L h' m → News h₀ L h' ((I, oI) :: (bm, oB) :: (lexL w.params mg A (lnAt text p ln) tl' (p + 1) tp' n2' ps n3 ++ news)) → Q (.str (chAt text p) t') { s with heap := h', toks := tk' }) :
    codeAny (model PW w) (ktrTop dp un gd cn cs L a ccd cl outer) (.call (.ref 77) ⟨[.ref A.lx], []⟩) (fun r s' => match r with | .ok (.ret v) => Q v s' | .ok _ => False | .error e => E e s') s :=
  sumC_readch A text ok ln tl p tp n2 ps n3 hp hx ((I, oI) :: (bm, oB) :: news) dp un gd cn cs a ccd cl outer A₀ base h₀ L m s Q E B F X (reord.mp N) (by rw [lexL_adr]; exact off2 hI hb hoff) T hk hdp hun
    fun v new h' tk hpost F' N' _ => by
      obtain ⟨t', tl', tp', n2', rfl, rfl⟩ := hpost
      exact h t' tl' tp' n2' h' tk F' (reord.mpr N')
theorem read_K {Q : Value → Shared → Prop} (ok : LexOk A text) (hp : p ≤ text.cps.size) (hx : 2 ≤ text.cps.size) (hI : I ∉ lexAdr A) (hb : bm ∉ lexAdr A) (hoff : OwnOff news (lexAdr A))
    (B : Below A₀ base outer h₀) (F : Fr h₀ L s.heap m) (X : (KK w.params).In h₀) (N : News h₀ L s.heap ((I, oI) :: (bm, oB) :: (lexL w.params mg A ln tl p tp n2 ps n3 ++ news))) (T : Top topProg LX mean mg mb h₀) (hk : cs.kind = .function) (hdp : dp + 2 < recursionLimit) (hun : un + 24 < cLine)
    (h : ∀ t' tl' tp' n2' h' tk', Fr h₀ L h' m → News h₀ L h' ((I, oI) :: (bm, oB) :: (lexL w.params mg A (lnAt text p ln) tl' (p + 1) tp' n2' ps n3 ++ news)) → Q (.str (chAt text p) t') { s with heap := h', toks := tk' }) :
    wpAny (model PW w) (ktrTop dp un gd cn cs L a ccd cl outer) (call (.ref 77) [.ref A.lx]) Q E s := wpAny_call (read_C ok hp hx hI hb hoff B F X N T hk hdp hun h)
theorem K_77 (P : Params) : ∃ o, (KK P).lookup 77 = some o ∧ ∃ d, o.data = .func d := ⟨_, rfl, _, rfl⟩
theorem chAt_empty : chAt text p = Str.ofString "" ↔ ¬ p < text.cps.size := by
  unfold chAt
  by_cases h : p < text.cps.size
  · rw [Array.getElem?_eq_getElem h]
    simp only [h, not_true, iff_false]
    intro e
    have := congrArg (fun z : Str => z.cps.size) e
    have h1 : (1 : Nat) = (Str.ofString "").cps.size := this
    have h0 : (Str.ofString "").cps.size = 0 := rfl
    omega
  · rw [Array.getElem?_eq_none (by omega)]
    simp only [h, not_false_eq_true, iff_true]
    rfl
theorem next_K {Q : Option Value → Shared → Prop} (ok : LexOk A text) (hp : p ≤ text.cps.size) (hx : 2 ≤ text.cps.size) (hI : I ∉ lexAdr A) (hb : bm ∉ lexAdr A) (hoff : OwnOff news (lexAdr A)) (hIb : I ≠ bm) (hIn : ∀ q ∈ news, q.1 ≠ I)
    (B : Below A₀ base outer h₀) (F : Fr h₀ L s.heap m) (X : (KK w.params).In h₀) (N : News h₀ L s.heap ((I, senO bm t) :: (bm, methodObj (.ref 77) (.ref A.lx)) :: (lexL w.params mg A ln tl p tp n2 ps n3 ++ news))) (T : Top topProg LX mean mg mb h₀) (hk : cs.kind = .function) (hdp : dp + 2 < recursionLimit) (hun : un + 25 < cLine)
    (h : p < text.cps.size → ∀ t' tl' tp' n2' h' tk', Fr h₀ L h' m → News h₀ L h' ((I, senO bm t) :: (bm, methodObj (.ref 77) (.ref A.lx)) :: (lexL w.params mg A (lnAt text p ln) tl' (p + 1) tp' n2' ps n3 ++ news)) → Q (some (.str (chAt text p) t')) { s with heap := h', toks := tk' })
    (he : ¬ p < text.cps.size → ∀ tl' tp' n2' h' tk', Fr h₀ L h' m → News h₀ L h' ((bm, methodObj (.ref 77) (.ref A.lx)) :: (lexL w.params mg A (lnAt text p ln) tl' (p + 1) tp' n2' ps n3 ++ news)) → Q none { s with heap := h', toks := tk' }) :
    wpAny (model PW w) (ktrTop dp un gd cn cs L a ccd cl outer) (pyNext (.ref I)) Q E s := by
  obtain ⟨fo, hfo, hfd⟩ := K_77 w.params
  have sen : ∀ h' : Heap, Fr h₀ L h' m → ∀ l, News h₀ L h' ((I, senO bm t) :: (bm, methodObj (.ref 77) (.ref A.lx)) :: l) → SenAt h' I bm t 77 A.lx fo := fun h' F' l N' =>
    ⟨(N' _ (.head _)).1, (N' _ (.tail _ (.head _))).1, F'.keep _ _ (X _ _ hfo), hfd⟩
  refine sen_next (sen _ F _ N) rfl ?_
  refine codeAny_mono (read_C (un := un + 1) (Q := fun v s' => ∃ y ty, v = .str y ty ∧ SenAt s'.heap I bm t 77 A.lx fo ∧ if y = Str.ofString "" then ∀ h', Heap.ExtBut I s'.heap h' → h'.get? I = some senE → Q none { s' with heap := h' } else Q (some (.str y ty)) s') (E := fun _ _ => False) ok hp hx hI hb hoff B F X N T hk hdp (by omega) ?_) fun r s' hr => ?_
  · intro t' tl' tp' n2' h' tk' F' N'
    refine ⟨_, _, rfl, sen _ F' _ N', ?_⟩
    split
    · rename_i hy
      intro h'' ex hI'
      have hn := chAt_empty.mp hy
      have hI0 : h₀.get? I = none := (N' _ (.head _)).2.2
      have hIL : I ≠ L := (N' _ (.head _)).2.1
      refine he hn tl' tp' n2' h'' tk' ⟨F'.ns.at' fun o e => ex _ _ (Ne.symm hIL) e, fun b o e => ex _ _ (fun q => by rw [q, hI0] at e; cases e) (F'.keep b o e), F'.above⟩ fun q hq => ?_
      have hq' := N' q (List.mem_cons_of_mem _ hq)
      refine ⟨ex _ _ (fun e => ?_) hq'.1, hq'.2⟩
      rcases List.mem_cons.mp hq with h1 | h1
      · rw [h1] at e; exact hIb e.symm
      · rcases List.mem_append.mp h1 with h2 | h2
        · exact hI (by have : q.1 ∈ lexAdr A := by rw [← lexL_adr w.params mg A (lnAt text p ln) tl' (p + 1) tp' n2' ps n3]; exact List.mem_map_of_mem (f := (·.1)) h2
                       exact e ▸ this)
        · exact hIn q h2 e
    · rename_i hy
      have hn : p < text.cps.size := by
        apply Decidable.byContradiction
        intro hc
        exact hy (chAt_empty.mpr hc)
      exact h hn t' tl' tp' n2' h' tk' F' N'
  · match r with
    | .error e => exact hr.elim
    | .ok .next => exact hr.elim
    | .ok .brk => exact hr.elim
    | .ok .cont => exact hr.elim
    | .ok (.ret v) => exact hr
end
end
section -- S8M
/-- the signs that part words -/
noncomputable def wsC (c : Nat) : Bool := c == 10 || c == 9 || c == 13 || c == 32
/-- a quoted word's rest -/
noncomputable def tokQ : List Nat → Option (List Nat × List Nat)
  | [] => none
  | [c] => if c = 34 then some ([], []) else none
  | c :: d :: r => if c = 34 then some ([], d :: r) else if c = 92 then (tokQ r).map fun x => (d :: x.1, x.2) else (tokQ (d :: r)).map fun x => (c :: x.1, x.2)
/-- a plain word's rest -/
noncomputable def tokP : List Nat → Option (List Nat × List Nat)
  | [] => none
  | [c] => if wsC c then some ([], []) else none
  | c :: d :: r => if wsC c then some ([], d :: r) else if c = 92 then (tokP r).map fun x => (d :: x.1, x.2) else (tokP (d :: r)).map fun x => (c :: x.1, x.2)
/-- a word -/
noncomputable def tokO : List Nat → Option (List Nat × List Nat)
  | [] => some ([], [])
  | [c] => if wsC c then some ([], []) else none
  | c :: d :: r => if wsC c then tokO (d :: r) else if c = 34 then tokQ (d :: r) else if c = 92 then (tokP r).map fun x => (d :: x.1, x.2) else (tokP (d :: r)).map fun x => (c :: x.1, x.2)
noncomputable def specO (n : Nat) (rest : List Nat) : Option (List Nat × List Nat) := match tokO rest with
  | some x => if x.1.length = n then some x else none
  | none => none
theorem specO_iff {n : Nat} {rest u r : List Nat} : specO n rest = some (u, r) ↔ tokO rest = some (u, r) ∧ u.length = n := by
  unfold specO
  cases tokO rest with
  | none => simp
  | some x =>
    dsimp only
    split
    · rename_i h
      constructor
      · intro e; cases e; exact ⟨rfl, h⟩
      · rintro ⟨e, _⟩; exact e
    · rename_i h
      constructor
      · intro e; cases e
      · rintro ⟨e, e2⟩; cases e; exact absurd e2 h
/-- the line feeds -/
noncomputable def nl : List Nat → Int
  | [] => 0
  | c :: r => (if c = 10 then 1 else 0) + nl r
noncomputable abbrev tokN : Str := Str.ofString "token"
noncomputable abbrev chN : Str := Str.ofString "ch"
theorem chAt_in {text : Str} {p c : Nat} (h : text.cps[p]? = some c) : chAt text p = ⟨#[c]⟩ := by unfold chAt; rw [h]
theorem nlStr : Str.ofString "\n" = ⟨#[10]⟩ := rfl
theorem lnAt_in {text : Str} {p c : Nat} {ln : Int} (h : text.cps[p]? = some c) : lnAt text p ln = (if c = 10 then 1 else 0) + ln := by
  unfold lnAt
  rw [chAt_in h, nlStr]
  by_cases hc : c = 10
  · subst hc
    rw [if_pos (by simp), if_pos rfl]
    omega
  · rw [if_neg (by simpa using hc), if_neg hc]
    omega
theorem drop_cons {text : Str} {p c : Nat} (h : text.cps[p]? = some c) : text.cps.toList.drop p = c :: text.cps.toList.drop (p + 1) := by
  have hp : p < text.cps.toList.length := by
    have := (Array.getElem?_eq_some_iff.mp h).1
    simpa using this
  rw [List.drop_eq_getElem_cons hp]
  congr 1
  have := (Array.getElem?_eq_some_iff.mp h).2
  simpa using this
section
variable {w : World} {mean : ExcName → Option Value} {mg mb : Str → Option Value} {dp un : Nat} {gd : Option (List Code)} {cn : Str} {cs : Scope} {a : Addr} {ccd : Value} {cl : List (Str × Addr)} {outer : List Env} {A₀ : Around} {base h₀ : Heap} {L : Addr} {m₁ : Str → Option Value} {s : Shared} {news : List (Addr × Obj)}
  {A : LexA} {text : Str} {ps : Array Value} {n3 : Nat} {I bm : Addr} {t : Tok} {E : Value → Shared → Prop}
/-- the frame within the loops -/
noncomputable abbrev tokM (m₁ : Str → Option Value) (acc : Str) (ta : Tok) (ch : Option Value) : Str → Option Value := fun y => if y = tokN then some (.str acc ta) else if y = chN then ch else m₁ y
/-- what stands between two signs -/
noncomputable def TokAt (w : World) (mg : Str → Option Value) (A : LexA) (text : Str) (I bm : Addr) (t : Tok) (ps : Array Value) (n3 : Nat) (h₀ : Heap) (L : Addr) (news : List (Addr × Obj)) (m₁ : Str → Option Value) (C : Int) (rest : List Nat) (acc : Str) (h : Heap) : Prop :=
  ∃ p ln tl tp n2 ta ch, p ≤ text.cps.size ∧ text.cps.toList.drop p = rest ∧ ln + nl rest = C ∧ Fr h₀ L h (tokM m₁ acc ta ch) ∧ News h₀ L h ((I, senO bm t) :: (bm, methodObj (.ref 77) (.ref A.lx)) :: (lexL w.params mg A ln tl p tp n2 ps n3 ++ news))
/-- a turn's end -/
noncomputable def TokEnd (w : World) (mg : Str → Option Value) (A : LexA) (text : Str) (I bm : Addr) (t : Tok) (ps : Array Value) (n3 : Nat) (h₀ : Heap) (L : Addr) (news : List (Addr × Obj)) (m₁ : Str → Option Value) (C : Int) (spec : List Nat → Option (List Nat × List Nat)) (tot r : List Nat) (k : Nat) (s : Shared) (f : Flow) (s₃ : Shared) : Prop :=
  match f with
  | .ret v => ∃ tv h' tk' acc, v = .str ⟨tot.toArray⟩ tv ∧ s₃ = { s with heap := h', toks := tk' } ∧ TokAt w mg A text I bm t ps n3 h₀ L news m₁ C r acc h'
  | .brk => False
  | _ => ∃ h' tk' rest acc u, s₃ = { s with heap := h', toks := tk' } ∧ rest.length < k ∧ spec rest = some (u, r) ∧ acc.cps.toList ++ u = tot ∧ TokAt w mg A text I bm t ps n3 h₀ L news m₁ C rest acc h'
theorem for_tok {v y : Str} {px py pos : Pos} {body : List Stmt} {Q : Flow → Shared → Prop} {AA : Around} {env : Env} {acc : Str} {m : Str → Option Value} {ta : Tok} {p : Nat} {ln C : Int} {tl tp : Tok} {n2 : Nat} {u : List Nat}
    (spec : List Nat → Option (List Nat × List Nat)) (tot r : List Nat)
    (hAA : AA = ktrTop dp un gd cn cs L a ccd cl outer) (henv : env = envX cn cs L a ccd cl) (hv : v = chN) (hfi : m y = some (.ref I)) (hyn : y ≠ tokN ∧ y ≠ chN)
    (hxk : env.kindOf chN = some .local) (hyk : env.kindOf y = some .local) (hyd : (y == ("__debug__" : Str)) = false)
    (ok : LexOk A text) (hp : p ≤ text.cps.size) (hx : 2 ≤ text.cps.size) (hI : I ∉ lexAdr A) (hb : bm ∉ lexAdr A) (hoff : OwnOff news (lexAdr A)) (hIb : I ≠ bm) (hIn : ∀ q ∈ news, q.1 ≠ I)
    (B : Below A₀ base outer h₀) (F : Fr h₀ L s.heap m) (hta : m tokN = some (.str acc ta)) (X : (KK w.params).In h₀) (N : News h₀ L s.heap ((I, senO bm t) :: (bm, methodObj (.ref 77) (.ref A.lx)) :: (lexL w.params mg A ln tl p tp n2 ps n3 ++ news))) (T : Top topProg LX mean mg mb h₀) (hk : cs.kind = .function) (hdp : dp + 2 < recursionLimit) (hun : un + 25 < cLine)
    (hC : ln + nl (text.cps.toList.drop p) = C) (hsp : spec (text.cps.toList.drop p) = some (u, r)) (htot : acc.cps.toList ++ u = tot)
    (turn : ∀ p c acc u ta tc ch ln tl tp n2 h tk, text.cps[p]? = some c → spec (c :: text.cps.toList.drop (p + 1)) = some (u, r) → acc.cps.toList ++ u = tot → (ln + nl (text.cps.toList.drop (p + 1)) = C) → p + 1 ≤ text.cps.size →
      Fr h₀ L h (fun z => if z = chN then some (.str ⟨#[c]⟩ tc) else if z = tokN then some (.str acc ta) else if z = chN then ch else m z) →
      News h₀ L h ((I, senO bm t) :: (bm, methodObj (.ref 77) (.ref A.lx)) :: (lexL w.params mg A ln tl (p + 1) tp n2 ps n3 ++ news)) →
      wpAny (model PW w) AA (execs body env) (TokEnd w mg A text I bm t ps n3 h₀ L news m C spec tot r (text.cps.toList.drop p).length { s with heap := h, toks := tk }) E { s with heap := h, toks := tk })
    (done : ∀ tv h tk acc, TokAt w mg A text I bm t ps n3 h₀ L news m C r acc h → Q (.ret (.str ⟨tot.toArray⟩ tv)) { s with heap := h, toks := tk })
    (stop : ∀ u acc ta ch h tk tl tp n2 p, text.cps.toList.drop p = [] → spec [] = some (u, r) → acc.cps.toList ++ u = tot → Fr h₀ L h (tokM m acc ta ch) → News h₀ L h ((bm, methodObj (.ref 77) (.ref A.lx)) :: (lexL w.params mg A C tl p tp n2 ps n3 ++ news)) → Q .next { s with heap := h, toks := tk })
    (hs : ∀ x, foldedSetIterable (.Name y py) env x = pure x := by intro _; rfl) (hE : PassesOwn (model PW w) AA env E := by passes_own) :
    wpAny (model PW w) AA (exec (.For (.Name v px) (.Name y py) body [] pos) env) Q E s := by
  subst hAA henv hv
  have m0 : m = tokM m acc ta (m chN) := by
    funext z
    by_cases h1 : z = tokN
    · simp [tokM, h1, hta]
    · by_cases h2 : z = chN
      · simp [tokM, h2, show ¬ chN = tokN from by decide]
      · simp [tokM, h1, h2]
  refine for_sen (I := I) (bm := bm) (t := t) (fun k s' => ∃ h' tk' rest acc u, s' = { s with heap := h', toks := tk' } ∧ k = rest.length ∧ spec rest = some (u, r) ∧ acc.cps.toList ++ u = tot ∧ TokAt w mg A text I bm t ps n3 h₀ L news m C rest acc h') (text.cps.toList.drop p).length ?_ ?_ hs hE
  · refine nameX_L F hfi ⟨rfl, (N _ (.head _)).1, s.heap, s.toks, _, acc, u, rfl, rfl, hsp, htot, p, ln, tl, tp, n2, ta, m chN, hp, rfl, hC, ?_, N⟩ hk hyk hyd
    rw [← m0]
    exact F
  · rintro k s' ⟨h', tk', rest, acc', u', rfl, rfl, hsp', htot', p', ln', tl', tp', n2', ta', ch', hp', rfl, hC', F', N'⟩
    refine next_K (s := ⟨h', _, _, tk', _⟩) ok hp' hx hI hb hoff hIb hIn B F' X N' T hk hdp hun (fun hlt t'' tl'' tp'' n2'' h'' tk'' F'' N'' => ?_) (fun hge tl'' tp'' n2'' h'' tk'' F'' N'' => ?_)
    · obtain ⟨c, hc⟩ : ∃ c, text.cps[p']? = some c := ⟨_, Array.getElem?_eq_getElem hlt⟩
      rw [chAt_in hc]
      rw [drop_cons hc] at hsp' hC'
      have hC'' : lnAt text p' ln' + nl (text.cps.toList.drop (p' + 1)) = C := by
        rw [lnAt_in hc]
        simp only [nl] at hC'
        omega
      refine storeX_L (s := ⟨h'', _, _, tk'', _⟩) F'' N'' (fun h3 F3 N3 => ?_) hk hxk
      refine wpAny_mono (turn p' c acc' u' ta' t'' ch' _ tl'' tp'' n2'' h3 (tk'' + 1) hc hsp' htot' hC'' (by omega) F3 N3) (fun f s₃ hf => ?_) fun _ _ z => z
      cases f with
      | next =>
        obtain ⟨h4, tk4, rest4, acc4, u4, rfl, hlt4, h5⟩ := hf
        exact ⟨_, hlt4, h4, tk4, rest4, acc4, u4, rfl, rfl, h5⟩
      | cont =>
        obtain ⟨h4, tk4, rest4, acc4, u4, rfl, hlt4, h5⟩ := hf
        exact ⟨_, hlt4, h4, tk4, rest4, acc4, u4, rfl, rfl, h5⟩
      | brk => exact hf.elim
      | ret v =>
        obtain ⟨tv, h4, tk4, acc4, rfl, rfl, h5⟩ := hf
        exact done tv h4 tk4 acc4 h5
    · have hn : text.cps.toList.drop p' = [] := List.drop_eq_nil_of_le (by simpa using Nat.le_of_not_lt hge)
      rw [hn] at hsp' hC'
      have hl : lnAt text p' ln' = C := by
        unfold lnAt
        rw [chAt_empty.mpr hge, if_neg (by decide)]
        simpa [nl] using hC'
      rw [hl] at N''
      exact stop u' acc' ta' ch' h'' tk'' tl'' tp'' n2'' (p' + 1) (List.drop_eq_nil_of_le (by have : text.cps.toList.length = text.cps.size := Array.length_toList; omega)) hsp' htot' F'' N''
theorem ch_len (text : Str) (p : Nat) : (chAt text p).length ≤ 1 := by unfold chAt; split <;> exact Nat.le_of_ble_eq_true rfl
theorem one_len (c : Nat) : (⟨#[c]⟩ : Str).length ≤ 1 := Nat.le_refl _
theorem acc_len {acc : Str} {u tot : List Nat} (h : acc.cps.toList ++ u = tot) (ht : tot.length ≤ 1000) : acc.length ≤ 1000 := by
  have h1 : (acc.cps.toList ++ u).length ≤ 1000 := by rw [h]; exact ht
  rw [List.length_append] at h1
  have h2 : acc.length = acc.cps.toList.length := by rw [Array.length_toList]; rfl
  omega
end
end
section -- S8N
theorem ws_iff (c : Nat) : (Builtin.Str.occurrences (Str.ofString "\n\t\r ") ⟨#[c]⟩ 0 (Str.ofString "\n\t\r ").length 1).isEmpty = !wsC c := by
  have h := StrLaws.found_one (Str.ofString "\n\t\r ") c
  have e : (Str.ofString "\n\t\r ").cps.toList = [10, 9, 13, 32] := rfl
  rw [e] at h
  have e2 : decide (c ∈ [10, 9, 13, 32]) = wsC c := by
    unfold wsC
    simp only [List.mem_cons, List.not_mem_nil, or_false]
    by_cases h1 : c = 10 <;> by_cases h2 : c = 9 <;> by_cases h3 : c = 13 <;> by_cases h4 : c = 32 <;> simp [h1, h2, h3, h4]
  rw [e2] at h
  rw [← h, Bool.not_not]
theorem ws_t {c : Nat} (h : (Builtin.Str.occurrences (Str.ofString "\n\t\r ") ⟨#[c]⟩ 0 (Str.ofString "\n\t\r ").length 1).isEmpty = false) : wsC c = true := by
  rw [ws_iff] at h; simpa using h
theorem ws_f {c : Nat} (h : (Builtin.Str.occurrences (Str.ofString "\n\t\r ") ⟨#[c]⟩ 0 (Str.ofString "\n\t\r ").length 1).isEmpty = true) : wsC c = false := by
  rw [ws_iff] at h; simpa using h
theorem eq_sign (c d : Nat) (x : Str) (hx : x = ⟨#[d]⟩) : ((⟨#[c]⟩ : Str) == x) = decide (c = d) := by
  subst hx
  by_cases h : c = d
  · subst h; simp
  · simp [h]
theorem qt_t {c : Nat} (h : ((⟨#[c]⟩ : Str) == Str.ofString "\"") = true) : c = 34 := by rw [eq_sign c 34 (Str.ofString "\"") rfl] at h; simpa using h
theorem qt_f {c : Nat} (h : ((⟨#[c]⟩ : Str) == Str.ofString "\"") = false) : c ≠ 34 := by rw [eq_sign c 34 (Str.ofString "\"") rfl] at h; simpa using h
theorem bs_t {c : Nat} (h : ((⟨#[c]⟩ : Str) == Str.ofString "\\") = true) : c = 92 := by rw [eq_sign c 92 (Str.ofString "\\") rfl] at h; simpa using h
theorem bs_f {c : Nat} (h : ((⟨#[c]⟩ : Str) == Str.ofString "\\") = false) : c ≠ 92 := by rw [eq_sign c 92 (Str.ofString "\\") rfl] at h; simpa using h
section
variable {c : Nat} {rest u r : List Nat}
theorem O_ws (h : tokO (c :: rest) = some (u, r)) (hw : wsC c = true) : tokO rest = some (u, r) := by
  cases rest with
  | nil => simpa [tokO, hw] using h
  | cons d l => simpa [tokO, hw] using h
theorem O_quote (h : tokO (c :: rest) = some (u, r)) (hw : wsC c = false) (hc : c = 34) : tokQ rest = some (u, r) := by
  subst hc
  cases rest with
  | nil => simp [tokO, hw] at h
  | cons d l => simpa [tokO, hw] using h
theorem O_esc (h : tokO (c :: rest) = some (u, r)) (hw : wsC c = false) (hc : c = 92) : ∃ d l v, rest = d :: l ∧ tokP l = some (v, r) ∧ u = d :: v := by
  subst hc
  cases rest with
  | nil => simp [tokO, hw] at h
  | cons d l =>
    simp only [tokO, hw] at h
    simp only [Bool.false_eq_true, if_false, show ¬ (92 : Nat) = 34 from by decide, if_true, Option.map_eq_some_iff, Prod.mk.injEq] at h
    obtain ⟨⟨v, r'⟩, h1, h2, h3⟩ := h
    exact ⟨d, l, v, rfl, by rw [h1]; simp at h3; rw [h3], h2.symm⟩
theorem O_plain (h : tokO (c :: rest) = some (u, r)) (hw : wsC c = false) (h1 : c ≠ 34) (h2 : c ≠ 92) : ∃ v, tokP rest = some (v, r) ∧ u = c :: v := by
  cases rest with
  | nil => simp [tokO, hw] at h
  | cons d l =>
    simp only [tokO, hw] at h
    simp only [Bool.false_eq_true, if_false, h1, h2, Option.map_eq_some_iff, Prod.mk.injEq] at h
    obtain ⟨⟨v, r'⟩, e1, e2, e3⟩ := h
    exact ⟨v, by rw [e1]; simp at e3; rw [e3], e2.symm⟩
theorem Q_end (h : tokQ (c :: rest) = some (u, r)) (hc : c = 34) : u = [] ∧ r = rest := by
  subst hc
  cases rest with
  | nil => simp [tokQ] at h; exact ⟨h.1, h.2⟩
  | cons d l => simp [tokQ] at h; exact ⟨h.1, h.2.symm⟩
theorem Q_esc (h : tokQ (c :: rest) = some (u, r)) (hc : c = 92) : ∃ d l v, rest = d :: l ∧ tokQ l = some (v, r) ∧ u = d :: v := by
  subst hc
  cases rest with
  | nil => simp [tokQ] at h
  | cons d l =>
    simp only [tokQ, show ¬ (92 : Nat) = 34 from by decide, if_false, if_true, Option.map_eq_some_iff, Prod.mk.injEq] at h
    obtain ⟨⟨v, r'⟩, h1, h2, h3⟩ := h
    exact ⟨d, l, v, rfl, by rw [h1]; simp at h3; rw [h3], h2.symm⟩
theorem Q_plain (h : tokQ (c :: rest) = some (u, r)) (h1 : c ≠ 34) (h2 : c ≠ 92) : ∃ v, tokQ rest = some (v, r) ∧ u = c :: v := by
  cases rest with
  | nil => simp [tokQ, h1] at h
  | cons d l =>
    simp only [tokQ, if_false, h1, h2, Option.map_eq_some_iff, Prod.mk.injEq] at h
    obtain ⟨⟨v, r'⟩, e1, e2, e3⟩ := h
    exact ⟨v, by rw [e1]; simp at e3; rw [e3], e2.symm⟩
theorem P_end (h : tokP (c :: rest) = some (u, r)) (hw : wsC c = true) : u = [] ∧ r = rest := by
  cases rest with
  | nil => simp [tokP, hw] at h; exact ⟨h.1, h.2⟩
  | cons d l => simp [tokP, hw] at h; exact ⟨h.1, h.2.symm⟩
theorem P_esc (h : tokP (c :: rest) = some (u, r)) (hw : wsC c = false) (hc : c = 92) : ∃ d l v, rest = d :: l ∧ tokP l = some (v, r) ∧ u = d :: v := by
  subst hc
  cases rest with
  | nil => simp [tokP, hw] at h
  | cons d l =>
    simp only [tokP, hw, Bool.false_eq_true, if_false, if_true, Option.map_eq_some_iff, Prod.mk.injEq] at h
    obtain ⟨⟨v, r'⟩, h1, h2, h3⟩ := h
    exact ⟨d, l, v, rfl, by rw [h1]; simp at h3; rw [h3], h2.symm⟩
theorem P_plain (h : tokP (c :: rest) = some (u, r)) (hw : wsC c = false) (h2 : c ≠ 92) : ∃ v, tokP rest = some (v, r) ∧ u = c :: v := by
  cases rest with
  | nil => simp [tokP, hw] at h
  | cons d l =>
    simp only [tokP, hw, Bool.false_eq_true, if_false, h2, Option.map_eq_some_iff, Prod.mk.injEq] at h
    obtain ⟨⟨v, r'⟩, e1, e2, e3⟩ := h
    exact ⟨v, by rw [e1]; simp at e3; rw [e3], e2.symm⟩
end
/-- the next sign, from the rest -/
theorem next_of {text : Str} {p d : Nat} {l : List Nat} (h : text.cps.toList.drop p = d :: l) : text.cps[p]? = some d ∧ text.cps.toList.drop (p + 1) = l := by
  have h1 : text.cps.toList[p]? = some d := by
    have := congrArg (·[0]?) h
    simpa [List.getElem?_drop] using this
  refine ⟨by simpa using h1, ?_⟩
  have := congrArg (List.drop 1) h
  simpa [List.drop_drop, Nat.add_comm] using this
section
variable {w : World} {mg : Str → Option Value} {h₀ : Heap} {L : Addr} {m₁ m₂ : Str → Option Value} {s : Shared} {news : List (Addr × Obj)} {h : Heap} {tk : Nat}
  {A : LexA} {text : Str} {ps : Array Value} {n3 : Nat} {I bm : Addr} {t : Tok} {p c : Nat} {ln C : Int} {tl tp ta : Tok} {n2 k : Nat} {rest u r tot : List Nat} {acc : Str} {spec : List Nat → Option (List Nat × List Nat)}
theorem tokAt_mk (hp : p ≤ text.cps.size) (hd : text.cps.toList.drop p = rest) (hC : ln + nl rest = C) (F : Fr h₀ L h m₂) (ht : m₂ tokN = some (.str acc ta)) (hm : ∀ z, z ≠ tokN → z ≠ chN → m₂ z = m₁ z)
    (N : News h₀ L h ((I, senO bm t) :: (bm, methodObj (.ref 77) (.ref A.lx)) :: (lexL w.params mg A ln tl p tp n2 ps n3 ++ news))) : TokAt w mg A text I bm t ps n3 h₀ L news m₁ C rest acc h := by
  have e : m₂ = tokM m₁ acc ta (m₂ chN) := by
    funext z
    by_cases h1 : z = tokN
    · simp [tokM, h1, ht]
    · by_cases h2 : z = chN
      · simp [tokM, h2, show ¬ chN = tokN from by decide]
      · simp [tokM, h1, h2, hm z h1 h2]
  exact ⟨p, ln, tl, tp, n2, ta, m₂ chN, hp, hd, hC, e ▸ F, N⟩
theorem TokAt.conv (hm : ∀ z, z ≠ tokN → z ≠ chN → m₂ z = m₁ z) (x : TokAt w mg A text I bm t ps n3 h₀ L news m₂ C rest acc h) : TokAt w mg A text I bm t ps n3 h₀ L news m₁ C rest acc h := by
  obtain ⟨p, ln, tl, tp, n2, ta, ch, hp, hd, hC, F, N⟩ := x
  refine tokAt_mk hp hd hC F (ta := ta) (by simp [tokM]) (fun z h1 h2 => ?_) N
  simp [tokM, h1, h2, hm z h1 h2]
theorem esc_ok {d : Nat} {l : List Nat} (hd : text.cps.toList.drop (p + 1) = d :: l) (hC : ln + nl (text.cps.toList.drop (p + 1)) = C) :
    chAt text (p + 1) = ⟨#[d]⟩ ∧ text.cps.toList.drop (p + 1 + 1) = l ∧ lnAt text (p + 1) ln + nl l = C ∧ p + 1 + 1 ≤ text.cps.size := by
  obtain ⟨h1, h2⟩ := next_of hd
  refine ⟨chAt_in h1, h2, ?_, (Array.getElem?_eq_some_iff.mp h1).1⟩
  rw [lnAt_in h1]
  rw [hd] at hC
  simp only [nl] at hC
  omega
theorem app1 {d : Nat} {v : List Nat} (h : acc.cps.toList ++ (d :: v) = tot) : (acc ++ ⟨#[d]⟩ : Str).cps.toList ++ v = tot := by
  rw [PySem.Str.cps_append]
  simpa using h
theorem drop_len {text : Str} {p c : Nat} (hc : text.cps[p]? = some c) : (text.cps.toList.drop (p + 1)).length < (text.cps.toList.drop p).length := by rw [drop_cons hc]; simp
/-- a turn that takes the sign -/
theorem end_plain (hc : text.cps[p]? = some c) (hsp : ∃ v, spec (text.cps.toList.drop (p + 1)) = some (v, r) ∧ u = c :: v) (htot : acc.cps.toList ++ u = tot) (hC : ln + nl (text.cps.toList.drop (p + 1)) = C) (hp : p + 1 ≤ text.cps.size)
    (F : Fr h₀ L h m₂) (ht : m₂ tokN = some (.str (acc ++ ⟨#[c]⟩) ta)) (hm : ∀ z, z ≠ tokN → z ≠ chN → m₂ z = m₁ z) (N : News h₀ L h ((I, senO bm t) :: (bm, methodObj (.ref 77) (.ref A.lx)) :: (lexL w.params mg A ln tl (p + 1) tp n2 ps n3 ++ news))) :
    TokEnd w mg A text I bm t ps n3 h₀ L news m₁ C spec tot r (text.cps.toList.drop p).length s .next { s with heap := h, toks := tk } := by
  obtain ⟨v, h1, rfl⟩ := hsp
  exact ⟨h, tk, _, _, v, rfl, drop_len hc, h1, app1 htot, tokAt_mk hp rfl hC F ht hm N⟩
/-- a turn that takes the sign behind a backslash -/
theorem end_esc (hc : text.cps[p]? = some c) (hsp : ∃ d l v, text.cps.toList.drop (p + 1) = d :: l ∧ spec l = some (v, r) ∧ u = d :: v) (htot : acc.cps.toList ++ u = tot) (hC : ln + nl (text.cps.toList.drop (p + 1)) = C)
    (F : Fr h₀ L h m₂) (ht : m₂ tokN = some (.str (acc ++ chAt text (p + 1)) ta)) (hm : ∀ z, z ≠ tokN → z ≠ chN → m₂ z = m₁ z) (N : News h₀ L h ((I, senO bm t) :: (bm, methodObj (.ref 77) (.ref A.lx)) :: (lexL w.params mg A (lnAt text (p + 1) ln) tl (p + 1 + 1) tp n2 ps n3 ++ news))) :
    TokEnd w mg A text I bm t ps n3 h₀ L news m₁ C spec tot r (text.cps.toList.drop p).length s .next { s with heap := h, toks := tk } := by
  obtain ⟨d, l, v, hd, h1, rfl⟩ := hsp
  obtain ⟨e1, e2, e3, e4⟩ := esc_ok hd hC
  rw [e1] at ht
  exact ⟨h, tk, _, _, v, rfl, by rw [drop_cons hc, hd]; simp only [List.length_cons]; omega, h1, app1 htot, tokAt_mk e4 e2 e3 F ht hm N⟩
/-- a word's end -/
theorem end_ret (hsp : u = [] ∧ r = text.cps.toList.drop (p + 1)) (htot : acc.cps.toList ++ u = tot) (hC : ln + nl (text.cps.toList.drop (p + 1)) = C) (hp : p + 1 ≤ text.cps.size)
    (F : Fr h₀ L h m₂) (ht : m₂ tokN = some (.str acc ta)) (hm : ∀ z, z ≠ tokN → z ≠ chN → m₂ z = m₁ z) (N : News h₀ L h ((I, senO bm t) :: (bm, methodObj (.ref 77) (.ref A.lx)) :: (lexL w.params mg A ln tl (p + 1) tp n2 ps n3 ++ news))) :
    TokEnd w mg A text I bm t ps n3 h₀ L news m₁ C spec tot r k s (.ret (.str acc ta)) { s with heap := h, toks := tk } := by
  obtain ⟨rfl, rfl⟩ := hsp
  rw [List.append_nil] at htot
  subst htot
  exact ⟨ta, h, tk, acc, by simp, rfl, tokAt_mk hp rfl hC F ht hm N⟩
/-- a white sign between words -/
theorem end_ws (hc : text.cps[p]? = some c) (hsp : spec (text.cps.toList.drop (p + 1)) = some (u, r)) (htot : acc.cps.toList ++ u = tot) (hC : ln + nl (text.cps.toList.drop (p + 1)) = C) (hp : p + 1 ≤ text.cps.size)
    (F : Fr h₀ L h m₂) (ht : m₂ tokN = some (.str acc ta)) (hm : ∀ z, z ≠ tokN → z ≠ chN → m₂ z = m₁ z) (N : News h₀ L h ((I, senO bm t) :: (bm, methodObj (.ref 77) (.ref A.lx)) :: (lexL w.params mg A ln tl (p + 1) tp n2 ps n3 ++ news))) :
    TokEnd w mg A text I bm t ps n3 h₀ L news m₁ C spec tot r (text.cps.toList.drop p).length s .cont { s with heap := h, toks := tk } :=
  ⟨h, tk, _, _, u, rfl, drop_len hc, hsp, htot, tokAt_mk hp rfl hC F ht hm N⟩
theorem end_done {tv : Tok} (hm : ∀ z, z ≠ tokN → z ≠ chN → m₂ z = m₁ z) (x : TokAt w mg A text I bm t ps n3 h₀ L news m₂ C r acc h) : TokEnd w mg A text I bm t ps n3 h₀ L news m₁ C spec tot r k s (.ret (.str ⟨tot.toArray⟩ tv)) { s with heap := h, toks := tk } :=
  ⟨tv, h, tk, acc, rfl, rfl, x.conv hm⟩
end
theorem iadd_ch {prog : Program} {w : World} {A : Around} {E : Value → Shared → Prop} {s : Shared} {x y : Str} {t u : Tok} {Q : Value → Shared → Prop} (hx : x.length ≤ 1000) (hy : y.length ≤ 1) (h : ∀ t' k, Q (.str (x ++ y) t') { s with toks := k }) : wpAny (model prog w) A (inplaceOp .Add (.str x t) (.str y u)) Q E s :=
  SBL.iadd (fun t' k _ => h t' k) (by rw [sizeLine_eq]; omega)
/-- what get_token gives -/
noncomputable abbrev tokPost (P : Params) (mg : Str → Option Value) (A : LexA) (text : Str) (n3 : Nat) (C : Int) (u r : List Nat) (v : Value) (new : List (Addr × Obj)) : Prop :=
  ∃ t ln tl p tp n2, v = .str ⟨u.toArray⟩ t ∧ new = lexL P mg A ln tl p tp n2 #[] n3 ∧ text.cps.toList.drop p = r ∧ ln + nl r = C ∧ (u ≠ [] → p ≤ text.cps.size)
end
section -- S9
theorem fill9 : PySem.Challenge.rw_uq0027_01 = PySem.Challenge.rw_uq0027_01 ∧ KK = KK := by
  k_fill
  exact ⟨rfl, rfl⟩
variable {w : World} {mean : ExcName → Option Value} {mg mb : Str → Option Value}
local macro_rules | `(tactic| k_room) => `(tactic| ktr_room)
theorem pop0 {prog : Program} {w : World} {A : Around} {E : Value → Shared → Prop} {s : Shared} {h₀ : Heap} {L D : Addr} {m : Str → Option Value} {news news' : List (Addr × Obj)} {Q : Value → Shared → Prop} {u : Tok} {v : Value} {ps : List Value} {n : Nat} (F : Fr h₀ L s.heap m) (N : News h₀ L s.heap news) (hz : ps.length ≤ 1000) (U : Upd D (listOf (v :: ps).toArray n) (listOf ps.toArray (n + 1)) news news')
    (h : ∀ h', Fr h₀ L h' m → News h₀ L h' news' → Q v { s with heap := h' }) : wpAny (model prog w) A (call (.builtin "list.pop") [.ref D, .int 0 u]) Q E s :=
  kl_popAt (k := 0) (p := []) (q := ps) F N rfl (by simp [seqIndex?]) (by simp [kl_cut]) U (by rw [sizeLine_eq]; simp; omega) h
local macro_rules | `(tactic| walk_at "call builtin:list.pop") => `(tactic| (k_here; k_dflt (refine' pop0 ?F ?N ?z ?U ?_; (case F => k_asm); (case N => k_asm); (case z => assumption); (case U => exact Upd.head (lexTail (by assumption) (by assumption)))); intro h' F' N'))
local macro_rules | `(tactic| walk_at "call builtin:list.append") => `(tactic| (k_here; k_dflt (refine' append_K ?F ?N ?U ?_ ?z; (case F => k_asm); (case N => k_asm); (case U => exact Upd.head (lexTail (by assumption) (by assumption))); (case z => assumption)); intro h' F' N'))
set_option maxHeartbeats 4000000 in
theorem sum_push (A : LexA) (text : Str) (ok : LexOk A text) (ln : Int) (tl : Tok) (p : Nat) (tp : Tok) (n2 : Nat) (ps : Array Value) (n3 : Nat) (v : Value) (hz : ps.size ≤ sizeLine) : SumT w mean mg mb (.ref 91) [.ref A.lx, v] [] 2 24 (lexL w.params mg A ln tl p tp n2 ps n3) (fun x new => x = .none ∧ ∃ n, new = lexL w.params mg A ln tl p tp n2 (ps.push v) n) := by
  intro news dp un gd cn cs a ccd cl outer A₀ base h₀ L m s Q E B F X N hoff T hk hdp hun hret
  have ok2 := ok
  obtain ⟨dPl, dTx, dC, dV, o1, o2, o3, o4, o5, o6, o7, o8, o9⟩ := ok
  simp only [lexL, lexD, standD, ent, List.nil_append, List.cons_append] at N
  simp only [lexL, List.map_cons, List.map_nil] at hoff
  refine wpAny_call ?_
  k_dflt cell_enter
  k_steps
  exact hret _ (lexL w.params mg A ln tl p tp n2 (ps.push v) (n3 + 1)) _ _ ⟨rfl, _, rfl⟩ (by k_asm) (by k_asm) (fun q hq => .inl (List.mem_map_of_mem (f := (·.1)) hq))
set_option maxHeartbeats 4000000 in
theorem sum_pop (A : LexA) (text : Str) (ok : LexOk A text) (ln : Int) (tl : Tok) (p : Nat) (tp : Tok) (n2 : Nat) (v : Value) (ps : List Value) (n3 : Nat) (hz : ps.length ≤ 1000) : SumT w mean mg mb (.ref 84) [.ref A.lx] [] 2 24 (lexL w.params mg A ln tl p tp n2 (v :: ps).toArray n3) (fun x new => x = v ∧ ∃ n, new = lexL w.params mg A ln tl p tp n2 ps.toArray n) := by
  intro news dp un gd cn cs a ccd cl outer A₀ base h₀ L m s Q E B F X N hoff T hk hdp hun hret
  have ok2 := ok
  obtain ⟨dPl, dTx, dC, dV, o1, o2, o3, o4, o5, o6, o7, o8, o9⟩ := ok
  simp only [lexL, lexD, standD, ent, List.nil_append, List.cons_append] at N
  simp only [lexL, List.map_cons, List.map_nil] at hoff
  refine wpAny_call ?_
  k_dflt cell_enter
  k_steps
  exact hret _ (lexL w.params mg A ln tl p tp n2 ps.toArray (n3 + 1)) _ _ ⟨rfl, _, rfl⟩ (by k_asm) (by k_asm) (fun q hq => .inl (List.mem_map_of_mem (f := (·.1)) hq))
end
section -- S8
local macro_rules | `(tactic| walk_at "z") => `(tactic| skip)
theorem fill8 : PySem.Challenge.rw_uq0027_01 = PySem.Challenge.rw_uq0027_01 ∧ KK = KK := by
  k_fill
  exact ⟨rfl, rfl⟩
variable {w : World} {mean : ExcName → Option Value} {mg mb : Str → Option Value}
local macro_rules | `(tactic| k_room) => `(tactic| ktr_room)
local macro_rules | `(tactic| walk_at "call builtin:iter") => `(tactic| (k_here; k_dflt (refine' iter_K ?jF ?jN ?jm ?_; (case jF => k_asm); (case jN => k_asm); (case jm => k_mem)); intro D' h' F' N' l1; (have l0 := l1); (try k_lt l1); (try k_sweep)))
local macro_rules | `(tactic| walk_at "inplaceOp Add str str") => `(tactic| (k_here; (k_dflt (refine' iadd_ch ?ja ?jb ?_; (case ja => with_reducible assumption); (case jb => first | (with_reducible exact one_len _) | (with_reducible exact ch_len _ _)))); intro t' k'))
set_option maxHeartbeats 8000000 in
theorem sum_token (A : LexA) (text : Str) (ok : LexOk A text) (ln : Int) (tl : Tok) (p : Nat) (tp : Tok) (n2 : Nat) (n3 : Nat) (hp : p ≤ text.cps.size) (hx : 2 ≤ text.cps.size) (C : Int) (u r : List Nat) (hC : ln + nl (text.cps.toList.drop p) = C) (hsp : tokO (text.cps.toList.drop p) = some (u, r)) (hu : u.length ≤ 1000) : SumT w mean mg mb (.ref 84) [.ref A.lx] [] 4 60 (lexL w.params mg A ln tl p tp n2 #[] n3) (tokPost w.params mg A text n3 C u r) := by
  intro news dp un gd cn cs a ccd cl outer A₀ base h₀ L m s Q E B F X N hoff T hk hdp hun hret
  have ok2 := ok
  obtain ⟨dPl, dTx, dC, dV, o1, o2, o3, o4, o5, o6, o7, o8, o9⟩ := ok
  simp only [lexL, lexD, standD, ent, List.nil_append, List.cons_append] at N
  simp only [lexL, List.map_cons, List.map_nil] at hoff
  refine wpAny_call ?_
  k_dflt cell_enter
  (repeat' (first | with_reducible ((show wpAny _ _ (call (Value.ref _) _) _ _ _); ((with_reducible show wpAny _ _ (call (Value.ref 77) _) _ _ _); (rename LexOk _ _ => hokzz); k_dflt (refine' read_K hokzz ?zzjp ?zzjx ?zzjI ?zzjb ?zzjo ?zzjB ?zzjF ?zzjX ?zzjN ?zzjT ?zzjk ?zzjd ?zzju ?_; (case zzjF => k_asm); (case zzjN => k_asm); (case zzjp => assumption); (case zzjx => assumption); (case zzjI => exact offI hokzz (by omega)); (case zzjb => exact offI hokzz (by omega)); (case zzjo => assumption); (case zzjB => k_asm); (case zzjX => k_asm); (case zzjT => k_asm); (case zzjk => exact rfl); (case zzjd => ((try dsimp only); omega)); (case zzju => ((try dsimp only); omega))); intro tzz tlzz tpzz n2zz hzz tkzz Fzz Nzz; (simp only [lexL, lexD, standD, ent, List.cons_append, List.nil_append] at Nzz); (try k_sweep))) | with_reducible ((show wpAny _ _ (binaryOp .Add (Value.str _ _) (Value.str _ _)) _ _ _); (k_dflt (refine' KXadd.add (K := 1000) (L := 1) ?zzja ?zzjb ?zzjc ?_; (case zzja => with_reducible assumption); (case zzjb => first | (with_reducible exact one_len _) | (with_reducible exact ch_len _ _)); (case zzjc => decide)); intro tzz kzz hlzz)) | walk_at "st"))
  refine' for_tok (A := A) (text := text) (ps := #[]) (n3 := n3) (p := p) (ln := ln) (acc := Str.ofString "") (specO u.length) u r ?hAAx1 ?henvx1 ?hvx1 ?hfix1 ?hynx1 ?hxkx1 ?hykx1 ?hydx1 (by assumption) hp hx ?hIx1 ?hbx1 ?hoffx1 ?hIbx1 ?hInx1 ?Bx1 ?Fx1 ?htax1 ?Xx1 ?Nx1 ?Tx1 ?hkx1 ?hdpx1 ?hunx1 hC (specO_iff.mpr ⟨hsp, rfl⟩) rfl ?turnx1 ?donex1 ?stopx1 ?hsx1 ?hEx1
  case hAAx1 => exact rfl
  case Fx1 => k_asm
  case Nx1 => k_asm
  case henvx1 => exact rfl
  case hvx1 => exact rfl
  case hfix1 => exact rfl
  case hynx1 => decide
  case hxkx1 => exact rfl
  case hykx1 => exact rfl
  case hydx1 => decide
  case hIx1 => exact offI (by assumption) (by omega)
  case hbx1 => exact offI (by assumption) (by omega)
  case hoffx1 => exact hoff
  case hIbx1 => k_ne
  case hInx1 => k_all
  case Bx1 => k_asm
  case htax1 => exact rfl
  case Xx1 => k_asm
  case Tx1 => k_asm
  case hkx1 => exact rfl
  case hdpx1 => (try dsimp only); omega
  case hunx1 => (try dsimp only); omega
  case hsx1 => intro x; rfl
  case hEx1 => passes_own
  case turnx1 =>
    intro p' c acc u' ta tc ch ln' tl' tp' n2' h tk hc hsp0 htot' hC' hp' F1 N1
    obtain ⟨hsp', hul⟩ := specO_iff.mp hsp0
    simp only [lexL, lexD, standD, ent, List.cons_append, List.nil_append] at N1
    have hal := acc_len htot' hu
    (repeat' (first | with_reducible ((show wpAny _ _ (call (Value.ref _) _) _ _ _); ((with_reducible show wpAny _ _ (call (Value.ref 77) _) _ _ _); (rename LexOk _ _ => hokzz); k_dflt (refine' read_K hokzz ?zzjp ?zzjx ?zzjI ?zzjb ?zzjo ?zzjB ?zzjF ?zzjX ?zzjN ?zzjT ?zzjk ?zzjd ?zzju ?_; (case zzjF => k_asm); (case zzjN => k_asm); (case zzjp => assumption); (case zzjx => assumption); (case zzjI => exact offI hokzz (by omega)); (case zzjb => exact offI hokzz (by omega)); (case zzjo => assumption); (case zzjB => k_asm); (case zzjX => k_asm); (case zzjT => k_asm); (case zzjk => exact rfl); (case zzjd => ((try dsimp only); omega)); (case zzju => ((try dsimp only); omega))); intro tzz tlzz tpzz n2zz hzz tkzz Fzz Nzz; (simp only [lexL, lexD, standD, ent, List.cons_append, List.nil_append] at Nzz); (try k_sweep))) | with_reducible ((show wpAny _ _ (binaryOp .Add (Value.str _ _) (Value.str _ _)) _ _ _); (k_dflt (refine' KXadd.add (K := 1000) (L := 1) ?zzja ?zzjb ?zzjc ?_; (case zzja => with_reducible assumption); (case zzjb => first | (with_reducible exact one_len _) | (with_reducible exact ch_len _ _)); (case zzjc => decide)); intro tzz kzz hlzz)) | walk_at "st"))
    · have hq := O_quote hsp' (ws_f (by assumption)) (qt_t (by assumption))
      refine' for_tok (A := A) (text := text) (ps := #[]) (n3 := n3) (p := p' + 1) (ln := ln') (acc := acc) tokQ u r ?hAAx2 ?henvx2 ?hvx2 ?hfix2 ?hynx2 ?hxkx2 ?hykx2 ?hydx2 (by assumption) hp' hx ?hIx2 ?hbx2 ?hoffx2 ?hIbx2 ?hInx2 ?Bx2 ?Fx2 ?htax2 ?Xx2 ?Nx2 ?Tx2 ?hkx2 ?hdpx2 ?hunx2 hC' hq htot' ?turnx2 ?donex2 ?stopx2 ?hsx2 ?hEx2
      case hAAx2 => exact rfl
      case Fx2 => k_asm
      case Nx2 => k_asm
      case henvx2 => exact rfl
      case hvx2 => exact rfl
      case hfix2 => exact rfl
      case hynx2 => decide
      case hxkx2 => exact rfl
      case hykx2 => exact rfl
      case hydx2 => decide
      case hIx2 => exact offI (by assumption) (by omega)
      case hbx2 => exact offI (by assumption) (by omega)
      case hoffx2 => exact hoff
      case hIbx2 => k_ne
      case hInx2 => k_all
      case Bx2 => k_asm
      case htax2 => exact rfl
      case Xx2 => k_asm
      case Tx2 => k_asm
      case hkx2 => exact rfl
      case hdpx2 => (try dsimp only); omega
      case hunx2 => (try dsimp only); omega
      case hsx2 => intro x; rfl
      case hEx2 => passes_own
      case stopx2 => intro _ _ _ _ _ _ _ _ _ _ _ hs0; cases hs0
      case donex2 =>
        intro tv h4 tk4 acc4 x4
        try dsimp only
        exact end_done (fun z h1 h2 => by simp [h1, h2]) x4
      case turnx2 =>
        intro p2 c2 acc2 u2 ta2 tc2 ch2 ln2 tl2 tp2 n22 h2 tk2 hc2 hsp2 htot2 hC2 hp2 F2 N2
        simp only [lexL, lexD, standD, ent, List.cons_append, List.nil_append] at N2
        have hal2 := acc_len htot2 hu
        (repeat' (first | with_reducible ((show wpAny _ _ (call (Value.ref _) _) _ _ _); ((with_reducible show wpAny _ _ (call (Value.ref 77) _) _ _ _); (rename LexOk _ _ => hokzz); k_dflt (refine' read_K hokzz ?zzjp ?zzjx ?zzjI ?zzjb ?zzjo ?zzjB ?zzjF ?zzjX ?zzjN ?zzjT ?zzjk ?zzjd ?zzju ?_; (case zzjF => k_asm); (case zzjN => k_asm); (case zzjp => assumption); (case zzjx => assumption); (case zzjI => exact offI hokzz (by omega)); (case zzjb => exact offI hokzz (by omega)); (case zzjo => assumption); (case zzjB => k_asm); (case zzjX => k_asm); (case zzjT => k_asm); (case zzjk => exact rfl); (case zzjd => ((try dsimp only); omega)); (case zzju => ((try dsimp only); omega))); intro tzz tlzz tpzz n2zz hzz tkzz Fzz Nzz; (simp only [lexL, lexD, standD, ent, List.cons_append, List.nil_append] at Nzz); (try k_sweep))) | with_reducible ((show wpAny _ _ (binaryOp .Add (Value.str _ _) (Value.str _ _)) _ _ _); (k_dflt (refine' KXadd.add (K := 1000) (L := 1) ?zzja ?zzjb ?zzjc ?_; (case zzja => with_reducible assumption); (case zzjb => first | (with_reducible exact one_len _) | (with_reducible exact ch_len _ _)); (case zzjc => decide)); intro tzz kzz hlzz)) | walk_at "st"))
        all_goals (try dsimp only)
        all_goals first
          | exact end_ret (Q_end hsp2 (qt_t (by assumption))) htot2 hC2 hp2 (by k_asm) rfl (fun z h1 h2 => by simp [h1, h2]) (by k_asm)
          | exact end_esc hc2 (Q_esc hsp2 (bs_t (by assumption))) htot2 hC2 (by k_asm) rfl (fun z h1 h2 => by simp [h1, h2]) (by k_asm)
          | exact end_plain hc2 (Q_plain hsp2 (qt_f (by assumption)) (bs_f (by assumption))) htot2 hC2 hp2 (by k_asm) rfl (fun z h1 h2 => by simp [h1, h2]) (by k_asm)
          | (fail "open")
    · obtain ⟨d, l, v, hd, hl, rfl⟩ := O_esc hsp' (ws_f (by assumption)) (bs_t (by assumption))
      obtain ⟨e1, e2, e3, e4⟩ := esc_ok hd hC'
      have hl' : tokP (text.cps.toList.drop (p' + 1 + 1)) = some (v, r) := by rw [e2]; exact hl
      have hC3 : lnAt text (p' + 1) ln' + nl (text.cps.toList.drop (p' + 1 + 1)) = C := by rw [e2]; exact e3
      have ht3 : (acc ++ chAt text (p' + 1) : Str).cps.toList ++ v = u := by rw [e1]; exact app1 htot'
      refine' for_tok (A := A) (text := text) (ps := #[]) (n3 := n3) (p := p' + 1 + 1) (ln := lnAt text (p' + 1) ln') (acc := acc ++ chAt text (p' + 1)) tokP u r ?hAAx3 ?henvx3 ?hvx3 ?hfix3 ?hynx3 ?hxkx3 ?hykx3 ?hydx3 (by assumption) e4 hx ?hIx3 ?hbx3 ?hoffx3 ?hIbx3 ?hInx3 ?Bx3 ?Fx3 ?htax3 ?Xx3 ?Nx3 ?Tx3 ?hkx3 ?hdpx3 ?hunx3 hC3 hl' ht3 ?turnx3 ?donex3 ?stopx3 ?hsx3 ?hEx3
      case hAAx3 => exact rfl
      case Fx3 => k_asm
      case Nx3 => k_asm
      case henvx3 => exact rfl
      case hvx3 => exact rfl
      case hfix3 => exact rfl
      case hynx3 => decide
      case hxkx3 => exact rfl
      case hykx3 => exact rfl
      case hydx3 => decide
      case hIx3 => exact offI (by assumption) (by omega)
      case hbx3 => exact offI (by assumption) (by omega)
      case hoffx3 => exact hoff
      case hIbx3 => k_ne
      case hInx3 => k_all
      case Bx3 => k_asm
      case htax3 => exact rfl
      case Xx3 => k_asm
      case Tx3 => k_asm
      case hkx3 => exact rfl
      case hdpx3 => (try dsimp only); omega
      case hunx3 => (try dsimp only); omega
      case hsx3 => intro x; rfl
      case hEx3 => passes_own
      case stopx3 => intro _ _ _ _ _ _ _ _ _ _ _ hs0; cases hs0
      case donex3 =>
        intro tv h4 tk4 acc4 x4
        try dsimp only
        exact end_done (fun z h1 h2 => by simp [h1, h2]) x4
      case turnx3 =>
        intro p2 c2 acc2 u2 ta2 tc2 ch2 ln2 tl2 tp2 n22 h2 tk2 hc2 hsp2 htot2 hC2 hp2 F2 N2
        simp only [lexL, lexD, standD, ent, List.cons_append, List.nil_append] at N2
        have hal2 := acc_len htot2 hu
        (repeat' (first | with_reducible ((show wpAny _ _ (call (Value.ref _) _) _ _ _); ((with_reducible show wpAny _ _ (call (Value.ref 77) _) _ _ _); (rename LexOk _ _ => hokzz); k_dflt (refine' read_K hokzz ?zzjp ?zzjx ?zzjI ?zzjb ?zzjo ?zzjB ?zzjF ?zzjX ?zzjN ?zzjT ?zzjk ?zzjd ?zzju ?_; (case zzjF => k_asm); (case zzjN => k_asm); (case zzjp => assumption); (case zzjx => assumption); (case zzjI => exact offI hokzz (by omega)); (case zzjb => exact offI hokzz (by omega)); (case zzjo => assumption); (case zzjB => k_asm); (case zzjX => k_asm); (case zzjT => k_asm); (case zzjk => exact rfl); (case zzjd => ((try dsimp only); omega)); (case zzju => ((try dsimp only); omega))); intro tzz tlzz tpzz n2zz hzz tkzz Fzz Nzz; (simp only [lexL, lexD, standD, ent, List.cons_append, List.nil_append] at Nzz); (try k_sweep))) | with_reducible ((show wpAny _ _ (binaryOp .Add (Value.str _ _) (Value.str _ _)) _ _ _); (k_dflt (refine' KXadd.add (K := 1000) (L := 1) ?zzja ?zzjb ?zzjc ?_; (case zzja => with_reducible assumption); (case zzjb => first | (with_reducible exact one_len _) | (with_reducible exact ch_len _ _)); (case zzjc => decide)); intro tzz kzz hlzz)) | walk_at "st"))
        all_goals (try dsimp only)
        all_goals first
          | exact end_ret (P_end hsp2 (ws_t (by assumption))) htot2 hC2 hp2 (by k_asm) rfl (fun z h1 h2 => by simp [h1, h2]) (by k_asm)
          | exact end_esc hc2 (P_esc hsp2 (ws_f (by assumption)) (bs_t (by assumption))) htot2 hC2 (by k_asm) rfl (fun z h1 h2 => by simp [h1, h2]) (by k_asm)
          | exact end_plain hc2 (P_plain hsp2 (ws_f (by assumption)) (bs_f (by assumption))) htot2 hC2 hp2 (by k_asm) rfl (fun z h1 h2 => by simp [h1, h2]) (by k_asm)
          | (fail "open")
    · obtain ⟨v, hl', rfl⟩ := O_plain hsp' (ws_f (by assumption)) (qt_f (by assumption)) (bs_f (by assumption))
      have ht3 : (acc ++ ⟨#[c]⟩ : Str).cps.toList ++ v = u := app1 htot'
      refine' for_tok (A := A) (text := text) (ps := #[]) (n3 := n3) (p := p' + 1) (ln := ln') (acc := acc ++ ⟨#[c]⟩) tokP u r ?hAAx4 ?henvx4 ?hvx4 ?hfix4 ?hynx4 ?hxkx4 ?hykx4 ?hydx4 (by assumption) hp' hx ?hIx4 ?hbx4 ?hoffx4 ?hIbx4 ?hInx4 ?Bx4 ?Fx4 ?htax4 ?Xx4 ?Nx4 ?Tx4 ?hkx4 ?hdpx4 ?hunx4 hC' hl' ht3 ?turnx4 ?donex4 ?stopx4 ?hsx4 ?hEx4
      case hAAx4 => exact rfl
      case Fx4 => k_asm
      case Nx4 => k_asm
      case henvx4 => exact rfl
      case hvx4 => exact rfl
      case hfix4 => exact rfl
      case hynx4 => decide
      case hxkx4 => exact rfl
      case hykx4 => exact rfl
      case hydx4 => decide
      case hIx4 => exact offI (by assumption) (by omega)
      case hbx4 => exact offI (by assumption) (by omega)
      case hoffx4 => exact hoff
      case hIbx4 => k_ne
      case hInx4 => k_all
      case Bx4 => k_asm
      case htax4 => exact rfl
      case Xx4 => k_asm
      case Tx4 => k_asm
      case hkx4 => exact rfl
      case hdpx4 => (try dsimp only); omega
      case hunx4 => (try dsimp only); omega
      case hsx4 => intro x; rfl
      case hEx4 => passes_own
      case stopx4 => intro _ _ _ _ _ _ _ _ _ _ _ hs0; cases hs0
      case donex4 =>
        intro tv h4 tk4 acc4 x4
        try dsimp only
        exact end_done (fun z h1 h2 => by simp [h1, h2]) x4
      case turnx4 =>
        intro p2 c2 acc2 u2 ta2 tc2 ch2 ln2 tl2 tp2 n22 h2 tk2 hc2 hsp2 htot2 hC2 hp2 F2 N2
        simp only [lexL, lexD, standD, ent, List.cons_append, List.nil_append] at N2
        have hal2 := acc_len htot2 hu
        (repeat' (first | with_reducible ((show wpAny _ _ (call (Value.ref _) _) _ _ _); ((with_reducible show wpAny _ _ (call (Value.ref 77) _) _ _ _); (rename LexOk _ _ => hokzz); k_dflt (refine' read_K hokzz ?zzjp ?zzjx ?zzjI ?zzjb ?zzjo ?zzjB ?zzjF ?zzjX ?zzjN ?zzjT ?zzjk ?zzjd ?zzju ?_; (case zzjF => k_asm); (case zzjN => k_asm); (case zzjp => assumption); (case zzjx => assumption); (case zzjI => exact offI hokzz (by omega)); (case zzjb => exact offI hokzz (by omega)); (case zzjo => assumption); (case zzjB => k_asm); (case zzjX => k_asm); (case zzjT => k_asm); (case zzjk => exact rfl); (case zzjd => ((try dsimp only); omega)); (case zzju => ((try dsimp only); omega))); intro tzz tlzz tpzz n2zz hzz tkzz Fzz Nzz; (simp only [lexL, lexD, standD, ent, List.cons_append, List.nil_append] at Nzz); (try k_sweep))) | with_reducible ((show wpAny _ _ (binaryOp .Add (Value.str _ _) (Value.str _ _)) _ _ _); (k_dflt (refine' KXadd.add (K := 1000) (L := 1) ?zzja ?zzjb ?zzjc ?_; (case zzja => with_reducible assumption); (case zzjb => first | (with_reducible exact one_len _) | (with_reducible exact ch_len _ _)); (case zzjc => decide)); intro tzz kzz hlzz)) | walk_at "st"))
        all_goals (try dsimp only)
        all_goals first
          | exact end_ret (P_end hsp2 (ws_t (by assumption))) htot2 hC2 hp2 (by k_asm) rfl (fun z h1 h2 => by simp [h1, h2]) (by k_asm)
          | exact end_esc hc2 (P_esc hsp2 (ws_f (by assumption)) (bs_t (by assumption))) htot2 hC2 (by k_asm) rfl (fun z h1 h2 => by simp [h1, h2]) (by k_asm)
          | exact end_plain hc2 (P_plain hsp2 (ws_f (by assumption)) (bs_f (by assumption))) htot2 hC2 hp2 (by k_asm) rfl (fun z h1 h2 => by simp [h1, h2]) (by k_asm)
          | (fail "open")
    · try dsimp only
      exact end_ws hc (specO_iff.mpr ⟨O_ws hsp' (ws_t (by assumption)), hul⟩) htot' hC' hp' (by k_asm) rfl (fun z h1 h2 => by simp [h1, h2]) (by k_asm)
  case donex1 =>
    intro tv h4 tk4 acc4 x4
    obtain ⟨p4, ln4, tl4, tp4, n4, ta4, ch4, hp4, hd4, hC4, F4, N4⟩ := x4
    try dsimp only
    simp only [lexL, lexD, standD, ent, List.cons_append, List.nil_append] at N4
    (repeat' (first | with_reducible ((show wpAny _ _ (call (Value.ref _) _) _ _ _); ((with_reducible show wpAny _ _ (call (Value.ref 77) _) _ _ _); (rename LexOk _ _ => hokzz); k_dflt (refine' read_K hokzz ?zzjp ?zzjx ?zzjI ?zzjb ?zzjo ?zzjB ?zzjF ?zzjX ?zzjN ?zzjT ?zzjk ?zzjd ?zzju ?_; (case zzjF => k_asm); (case zzjN => k_asm); (case zzjp => assumption); (case zzjx => assumption); (case zzjI => exact offI hokzz (by omega)); (case zzjb => exact offI hokzz (by omega)); (case zzjo => assumption); (case zzjB => k_asm); (case zzjX => k_asm); (case zzjT => k_asm); (case zzjk => exact rfl); (case zzjd => ((try dsimp only); omega)); (case zzju => ((try dsimp only); omega))); intro tzz tlzz tpzz n2zz hzz tkzz Fzz Nzz; (simp only [lexL, lexD, standD, ent, List.cons_append, List.nil_append] at Nzz); (try k_sweep))) | with_reducible ((show wpAny _ _ (binaryOp .Add (Value.str _ _) (Value.str _ _)) _ _ _); (k_dflt (refine' KXadd.add (K := 1000) (L := 1) ?zzja ?zzjb ?zzjc ?_; (case zzja => with_reducible assumption); (case zzjb => first | (with_reducible exact one_len _) | (with_reducible exact ch_len _ _)); (case zzjc => decide)); intro tzz kzz hlzz)) | walk_at "st"))
    exact hret _ (lexL w.params mg A ln4 tl4 p4 tp4 n4 #[] n3) _ _ ⟨_, ln4, tl4, p4, tp4, n4, rfl, rfl, hd4, hC4, fun _ => hp4⟩ (by k_asm) (nsub (by k_asm) fun q hq => List.mem_cons_of_mem _ (List.mem_cons_of_mem _ hq)) (fun q hq => .inl (List.mem_map_of_mem (f := (·.1)) hq))
  case stopx1 =>
    intro u4 acc4 ta4 ch4 h4 tk4 tl4 tp4 n4 p4 hd4 hs4 ht4 F4 N4
    obtain ⟨hs5, hu5⟩ := specO_iff.mp hs4
    cases hs5
    have hu6 : u = [] := List.length_eq_zero_iff.mp hu5.symm
    subst hu6
    simp only [List.append_nil] at ht4
    have e4 : acc4 = ⟨#[]⟩ := PySem.Str.ext' (Array.toList_inj.mp ht4)
    subst e4
    try dsimp only
    simp only [lexL, lexD, standD, ent, List.cons_append, List.nil_append] at N4
    (repeat' (first | with_reducible ((show wpAny _ _ (call (Value.ref _) _) _ _ _); ((with_reducible show wpAny _ _ (call (Value.ref 77) _) _ _ _); (rename LexOk _ _ => hokzz); k_dflt (refine' read_K hokzz ?zzjp ?zzjx ?zzjI ?zzjb ?zzjo ?zzjB ?zzjF ?zzjX ?zzjN ?zzjT ?zzjk ?zzjd ?zzju ?_; (case zzjF => k_asm); (case zzjN => k_asm); (case zzjp => assumption); (case zzjx => assumption); (case zzjI => exact offI hokzz (by omega)); (case zzjb => exact offI hokzz (by omega)); (case zzjo => assumption); (case zzjB => k_asm); (case zzjX => k_asm); (case zzjT => k_asm); (case zzjk => exact rfl); (case zzjd => ((try dsimp only); omega)); (case zzju => ((try dsimp only); omega))); intro tzz tlzz tpzz n2zz hzz tkzz Fzz Nzz; (simp only [lexL, lexD, standD, ent, List.cons_append, List.nil_append] at Nzz); (try k_sweep))) | with_reducible ((show wpAny _ _ (binaryOp .Add (Value.str _ _) (Value.str _ _)) _ _ _); (k_dflt (refine' KXadd.add (K := 1000) (L := 1) ?zzja ?zzjb ?zzjc ?_; (case zzja => with_reducible assumption); (case zzjb => first | (with_reducible exact one_len _) | (with_reducible exact ch_len _ _)); (case zzjc => decide)); intro tzz kzz hlzz)) | walk_at "st"))
    exact hret _ (lexL w.params mg A C tl4 p4 tp4 n4 #[] n3) _ _ ⟨_, C, tl4, p4, tp4, n4, rfl, rfl, hd4, by simp [nl], fun h => absurd rfl h⟩ (by k_asm) (nsub (by k_asm) fun q hq => List.mem_cons_of_mem _ hq) (fun q hq => .inl (List.mem_map_of_mem (f := (·.1)) hq))
end
section -- S3M
theorem fill3M : PySem.Challenge.rw_uq0027_01 = PySem.Challenge.rw_uq0027_01 ∧ KK = KK := by
  k_fill
  exact ⟨rfl, rfl⟩
section
variable {prog : Program} {w : World} {A : Around} {E : Value → Shared → Prop} {s : Shared} {h₀ : Heap} {L : Addr} {Q : Value → Shared → Prop} {x : Int} {t u : Tok}
/-- the sign behind a word -/
noncomputable def wsN (x : Int) : Nat := [32, 10, 9, 13].getD ((x.fdiv 2560).fmod 4).toNat 0
noncomputable def wsS (x : Int) : Str := ⟨#[wsN x]⟩
noncomputable abbrev plainS (x : Int) : Str := [Str.ofString "ss", Str.ofString "st", Str.ofString "t\"", Str.ofString "s \\"].getD (x.fmod 4).toNat PySem.Str.empty
noncomputable abbrev shutS (x : Int) : Str := Str.ofString "\"" ++ innerS x ++ Str.ofString "\""
theorem f4 (y : Int) : 0 ≤ y.fmod 4 ∧ y.fmod 4 < 4 := ⟨Int.fmod_nonneg_of_pos _ (by decide), Int.fmod_lt_of_pos _ (by decide)⟩
theorem f4n (y : Int) : ∃ j : Nat, j < 4 ∧ y.fmod 4 = (j : Int) := ⟨(y.fmod 4).toNat, by have := f4 y; omega, by have := f4 y; omega⟩
theorem sub_ws {value slice : PySem.Expr} (h : ∀ t, Q (.str (wsS x) t) { s with toks := s.toks + 1 })
    (hs : subscripted slice false (.str (Str.ofString " \n\t\r") t) (.int ((x.fdiv 2560).fmod 4) u) = operate [.str (Str.ofString " \n\t\r") t, .int ((x.fdiv 2560).fmod 4) u] (getItem (.str (Str.ofString " \n\t\r") t) (.int ((x.fdiv 2560).fmod 4) u)) := by with_unfolding_all rfl) :
    wpAny (model prog w) A (subscriptTail value slice (.str (Str.ofString " \n\t\r") t) (.int ((x.fdiv 2560).fmod 4) u)) Q E s := by
  obtain ⟨j, hj, e⟩ := f4n (x.fdiv 2560)
  have hw : wsS x = ⟨#[[32, 10, 9, 13].getD j 0]⟩ := by unfold wsS wsN; rw [e]; rfl
  refine tail_any (T := "str") (typeIs_str s _ t) PySem.F.slot_str_getitem.lookup ?_ hs
  refine P.getItem_str (c := [32, 10, 9, 13].getD j 0) ?_ ?_ (by rw [← hw]; exact h _)
  · have := f4 (x.fdiv 2560)
    simp only [Bool.or_eq_false_iff, decide_eq_false_iff_not]
    omega
  · rw [e]
    rcases lt4 hj with r | r | r | r <;> subst r <;> kernel_rfl
theorem q_len : (Str.ofString "\"").length ≤ 1000 := Nat.le_of_ble_eq_true (by kernel_rfl)
theorem plain_len (x : Int) : (plainS x).length ≤ 2 * 8 := by
  obtain ⟨j, hj, e⟩ := f4n x
  show ([Str.ofString "ss", Str.ofString "st", Str.ofString "t\"", Str.ofString "s \\"].getD (x.fmod 4).toNat PySem.Str.empty).length ≤ 16
  rw [e]
  rcases lt4 hj with r | r | r | r <;> subst r <;> exact Nat.le_of_ble_eq_true (by kernel_rfl)
theorem add_am (h : ∀ t' k, Q (.str (aheadS x ++ menuS x) t') { s with toks := k }) : wpAny (model prog w) A (binaryOp .Add (.str (aheadS x) t) (.str (menuS x) u)) Q E s :=
  KXadd.add (K := 1) (L := 3) (ahead_len x) (menu_len x) (by decide) fun t' k _ => h t' k
theorem add_kp (h : ∀ t' k, Q (.str (keptS x ++ plainS x) t') { s with toks := k }) : wpAny (model prog w) A (binaryOp .Add (.str (keptS x) t) (.str (plainS x) u)) Q E s :=
  KXadd.add (K := 1) (L := 16) (kept_len x) (plain_len x) (by decide) fun t' k _ => h t' k
theorem add_q1 (h : ∀ t' k, Q (.str (Str.ofString "\"" ++ innerS x) t') { s with toks := k }) : wpAny (model prog w) A (binaryOp .Add (.str (Str.ofString "\"") t) (.str (innerS x) u)) Q E s :=
  KXadd.add (K := 1000) (L := 8) q_len (inner_len x) (by decide) fun t' k _ => h t' k
theorem add_q2 (h : ∀ t' k, Q (.str (shutS x) t') { s with toks := k }) : wpAny (model prog w) A (binaryOp .Add (.str (Str.ofString "\"" ++ innerS x) t) (.str (Str.ofString "\"") u)) Q E s :=
  KXadd.add (K := 1008) (L := 1000) (by rw [PySem.Str.length_append]; have := q_len; have := inner_len x; omega) q_len (by decide) fun t' k _ => h t' k
theorem add_b1 (h : ∀ t' k, Q (.str (innerS x ++ wsS x) t') { s with toks := k }) : wpAny (model prog w) A (binaryOp .Add (.str (innerS x) t) (.str (wsS x) u)) Q E s :=
  KXadd.add (K := 8) (L := 1) (inner_len x) (Nat.le_refl _) (by decide) fun t' k _ => h t' k
theorem add_b2 (h : ∀ t' k, Q (.str (shutS x ++ wsS x) t') { s with toks := k }) : wpAny (model prog w) A (binaryOp .Add (.str (shutS x) t) (.str (wsS x) u)) Q E s :=
  KXadd.add (K := 2008) (L := 1) (by rw [PySem.Str.length_append, PySem.Str.length_append]; have := q_len; have := inner_len x; omega) (Nat.le_refl _) (by decide) fun t' k _ => h t' k
theorem menu_row {j : Nat} (hj : (x.fdiv 4).fmod 4 = (j : Int)) (h4 : j < 4) : ((menuL.getD j []).map Str.ofString).getD (x.fmod 4).toNat PySem.Str.empty = menuS x := by
  unfold menuS
  rw [hj]
  obtain ⟨i, hi, e⟩ := f4n x
  rw [e]
  rcases lt4 h4 with r | r | r | r <;> subst r <;> rcases lt4 hi with r | r | r | r <;> subst r <;> rfl
theorem ahead1 {c : Nat} (h : codesN[((x.fdiv 16).fmod 40).toNat]? = some c) (hl : (x.fdiv 16).fmod 40 < 32) : (⟨#[((c : Nat) : Int).toNat]⟩ : Str) = aheadS x := by
  unfold aheadS
  rw [if_pos hl, List.getD_eq_getElem?_getD, h]
  rfl
theorem ahead0 (hl : ¬(x.fdiv 16).fmod 40 < 32) : Str.ofString "" = aheadS x := by
  unfold aheadS
  rw [if_neg hl]
  rfl
theorem kept1 (hl : 26 < (x.fdiv 16).fmod 40) : aheadS x = keptS x := by
  unfold keptS
  rw [if_pos hl]
theorem kept0 (hl : ¬26 < (x.fdiv 16).fmod 40) : Str.ofString "" = keptS x := by
  unfold keptS
  rw [if_neg hl]
  rfl
theorem wg_two {v : Str} {i c : Nat} {us : Array Value} {t1 t2 : Tok} (hc : v.cps[i]? = some c) (g : wordG x v i us)
    (h : (x.fdiv 1280).fmod 2 = 1 ∨ ((⟨#[c]⟩ : Str) == Str.ofString "\\") = true ∨ (((⟨#[c]⟩ : Str) == Str.ofString "\"") = true ∧ (x.fdiv 640).fmod 2 = 1) ∨ (((⟨#[c]⟩ : Str) == Str.ofString " ") = true ∧ (x.fdiv 640).fmod 2 ≠ 1)) :
    wordG x v (i + 1) ((us.push (.str (Str.ofString "\\") t1)).push (.str ⟨#[c]⟩ t2)) := by
  refine wordG_next hc g ⟨#[.str (Str.ofString "\\") t1, .str ⟨#[c]⟩ t2], rfl, ?_⟩
  have e : markOf (quotedB x) (hiddenB x) c = [Str.ofString "\\", ⟨#[c]⟩] := by
    unfold markOf
    rw [if_pos]
    rcases h with h | h | ⟨h, h2⟩ | ⟨h, h2⟩
    · simp [hiddenB, h]
    · simp only [h, Bool.or_true, Bool.true_or]
    · simp [quotedB, h, h2]
    · simp [quotedB, h, h2]
  rw [e]
  exact .cons _ _ (.cons _ _ .nil)
theorem wg_one {v : Str} {i c : Nat} {us : Array Value} {t2 : Tok} (hc : v.cps[i]? = some c) (g : wordG x v i us)
    (h1 : (x.fdiv 1280).fmod 2 ≠ 1) (h2 : ((⟨#[c]⟩ : Str) == Str.ofString "\\") = false) (h3 : ((⟨#[c]⟩ : Str) == Str.ofString "\"") = false ∨ (x.fdiv 640).fmod 2 ≠ 1) (h4 : ((⟨#[c]⟩ : Str) == Str.ofString " ") = false ∨ (x.fdiv 640).fmod 2 = 1) :
    wordG x v (i + 1) (us.push (.str ⟨#[c]⟩ t2)) := by
  refine wordG_next hc g ⟨#[.str ⟨#[c]⟩ t2], by simp, ?_⟩
  have e : markOf (quotedB x) (hiddenB x) c = [⟨#[c]⟩] := by
    unfold markOf
    rw [if_neg]
    have e1 : hiddenB x = false := decide_eq_false h1
    by_cases hq : (x.fdiv 640).fmod 2 = 1
    · have h5 : ((⟨#[c]⟩ : Str) == Str.ofString "\"") = false := h3.elim id fun h => absurd hq h
      simp [quotedB, e1, h2, h5, hq]
    · have h5 : ((⟨#[c]⟩ : Str) == Str.ofString " ") = false := h4.elim id fun h => absurd h hq
      simp [quotedB, e1, h2, h5, hq]
  rw [e]
  exact .cons _ _ .nil
/-- the meaning of a number, and its text -/
noncomputable def wordS (x : Int) : Str := keptS x ++ plainS x
noncomputable def bodyS (x : Int) : Str := if quotedB x then shutS x else innerS x
noncomputable def textS (x : Int) : Str := bodyS x ++ wsS x
theorem text1 (h : (x.fdiv 640).fmod 2 = 1) : shutS x ++ wsS x = textS x := by unfold textS bodyS; rw [if_pos (by simp [quotedB, h])]
theorem text0 (h : (x.fdiv 640).fmod 2 ≠ 1) : innerS x ++ wsS x = textS x := by unfold textS bodyS; rw [if_neg (by simp [quotedB, h])]
noncomputable def tupO (its : Array Value) : Obj := { cls := .type "tuple", data := .seq its }
theorem word_ret {D : Addr} {vt : Str} {t1 t2 : Tok} {news rest : List (Addr × Obj)} {m : Str → Option Value} {pre : List (Addr × Obj)} {h' : Heap} {tk : Nat}
    (hret : ∀ v new h' tk, (∃ D t1 t2, v = .ref D ∧ new = [(D, tupO #[.str (wordS x) t1, .str (textS x) t2])]) → Fr h₀ L h' m → News h₀ L h' (new ++ news) → (∀ p ∈ new, p.1 ∈ pre.map (·.1) ∨ ∀ q ∈ pre ++ news, q.1 < p.1) → Q v { s with heap := h', toks := tk })
    (e : vt = textS x) (F : Fr h₀ L h' m) (N : News h₀ L h' ((D, { cls := .type "tuple", data := .seq [Value.str (keptS x ++ plainS x) t1, .str vt t2].toArray }) :: rest)) (l0 : ∀ p ∈ rest, p.1 < D) (hs : ∀ p ∈ news, p ∈ rest) (hl : pre = []) : Q (.ref D) { s with heap := h', toks := tk } := by
  subst e
  exact hret _ _ _ _ ⟨D, t1, t2, rfl, rfl⟩ F (nsub N fun p hp => (List.mem_cons.mp hp).elim (fun e => e ▸ .head _) fun h => List.mem_cons_of_mem _ (hs p h)) fun p hp => by subst hl; rw [List.mem_singleton.mp hp]; exact .inr fun q hq => l0 q (hs q hq)
end
end
local macro_rules | `(tactic| walk_at "m1") => `(tactic| (k_here; (with_reducible show wpAny _ _ (exec (Stmt.For (Expr.Name _ _) _ _ [] _) _) _ _ _); (with_reducible rename Fr _ _ _ _ => F'); (with_unfolding_all refine for_F F' (by rfl) (by rfl) ?_)))
local macro_rules | `(tactic| walk_at "m2") => `(tactic| (k_here; k_dflt (refine' kup_newTuple ?F ?N ?_ ?z; (case F => k_asm); (case N => k_asm); (case z => kmk_size)); intro D' h' F' N' l1; (have l0 := l1); (try k_lt l1); (try k_sweep)))
section -- S3
theorem fill3 : PySem.Challenge.rw_uq0027_01 = PySem.Challenge.rw_uq0027_01 ∧ KK = KK := by
  k_fill
  exact ⟨rfl, rfl⟩
variable {w : World} {mean : ExcName → Option Value} {mg mb : Str → Option Value}
noncomputable abbrev wordOf {x : Int} (_ : WordMark x) : Int := x
local macro_rules | `(tactic| l_ints) => `(tactic| exact IntsAre.ofCarried (by assumption))
local macro_rules | `(tactic| walk_at "execs cons Assign cons") => `(tactic| ((with_reducible refine wpAny_execs_cons ?_); try dsimp only))
local macro_rules | `(tactic| walk_at "call builtin:str.join") => `(tactic| (k_here; k_dflt (refine' join_word ?N ?m ?g ?_; (case N => k_asm); (case m => k_mem); (case g => assumption)); intro t' k'))
local macro_rules | `(tactic| walk_at "eval IfExp") => `(tactic| (k_here; (rename Cuts _ => hc'); (k_dflt (refine' cut_str hc' ?F ?N ?_ (fun hc2 t' h' tk' F' N' => ?_); (case F => k_asm); (case N => k_asm))); all_goals (clear hc'; (try k_sweep))))
local macro_rules | `(tactic| walk_at "exec For") => `(tactic| walk_at "m1")
local macro_rules | `(tactic| walk_at "subscriptTail") => `(tactic| (k_here; refine sub_ws ?_; intro t'))
local macro_rules | `(tactic| walk_at "newTuple") => `(tactic| walk_at "m2")
set_option maxHeartbeats 0 in
theorem sum_word (x : Int) (t : Tok) (hx : 0 ≤ x) (hx2 : x < 10240) : SumT w mean mg mb (.ref 324) [.int x t] [] 1 8 [] (fun v new => ∃ D t1 t2, v = .ref D ∧ new = [(D, tupO #[.str (wordS x) t1, .str (textS x) t2])]) := by
  intro news dp un gd cn cs a ccd cl outer A₀ base h₀ L m s Q E B F X N hoff T hk hdp hun hret
  simp only [List.nil_append] at N
  refine wpAny_call ?_
  k_dflt cell_enter
  have hcut : Cuts [aheadS x, keptS x, menuS x] := ⟨⟩
  have hwm : WordMark x := ⟨⟩
  (repeat' (first | with_reducible ((show wpAny _ _ (pyIter (Value.str _ _)) _ _ _); ((with_reducible show wpAny _ _ (pyIter (Value.str _ _)) _ _ _); (rename WordMark _ => hwzz); k_dflt (refine' for_word hwzz ?zzh ?zzF ?zzN ?zzo ?zzu ?_ ?_; (case zzh => rfl); (case zzF => k_asm); (case zzN => k_asm); (case zzo => k_all); (case zzu => exact Nat.le_trans (am_len _) (by decide)))); (rotate_left; intro uszz kzz vzz hzz tkzz gzz zzz Fzz Nzz; rotate_left; intro izz czz tuzz uszz kzz hzz tkzz Izz ozz hczz gzz zzz offzz Fzz Nzz)) | with_reducible ((show wpAny _ _ (binaryOp .Add (Value.str _ _) (Value.str _ _)) _ _ _); (first | (refine add_am ?_; intro tzz kzz) | (refine add_kp ?_; intro tzz kzz) | (refine add_q1 ?_; intro tzz kzz) | (refine add_q2 ?_; intro tzz kzz) | (refine add_b1 ?_; intro tzz kzz) | (refine add_b2 ?_; intro tzz kzz))) | with_reducible ((show wpAny _ _ (eval (Expr.Subscript _ _ _) _) _ _ _); ((with_reducible show wpAny _ _ (eval (Expr.Subscript (Expr.Subscript _ _ _) _ _) _) _ _ _); (rename Cuts _ => hczz); (rename WordMark _ => hwzz); (k_dflt (refine' cut_str hczz ?zzF ?zzN (split4 (x := wordOf hwzz) fun j hj ej => ?_) (fun hc2 tzz hzz tkzz Fzz Nzz => ?_); (case zzF => k_asm); (case zzN => k_asm))); all_goals (clear hczz; (try k_sweep)); (try (rcases lt4 hj with e | e | e | e <;> subst e)))) | with_reducible ((show wpAny _ _ (call (Value.builtin "list.append") _) _ _ _); (k_dflt (refine' append_K ?zzF ?zzN ?zzU ?_ ?zzz; (case zzF => k_asm); (case zzN => k_asm); (case zzU => exact Upd.head (by assumption)); (case zzz => ((simp only [sizeLine_eq, Array.size_push]); omega))); intro hzz Fzz Nzz)) | with_reducible ((show wpAny _ _ (subscriptTail _ _ (Value.ref _) _) _ _ _); ((with_reducible show wpAny _ _ (subscriptTail _ _ (Value.ref _) (Value.int _ _)) _ _ _); k_dflt (refine' sub_at ?zza ?zzb ?zzc ?zzd ?zze ?_ ?zzg; (case zza => k_asm); (case zzb => k_mem); (case zzc => assumption); (case zzd => decide); (case zze => rfl); (case zzg => with_unfolding_all rfl)))) | with_reducible ((show wpAny _ _ (subscriptTail _ _ (Value.ref _) _) _ _ _); ((with_reducible show wpAny _ _ (subscriptTail _ _ (Value.ref _) (Value.int _ _)) _ _ _); k_dflt (refine' sub_strs ?zza ?zzb ?zzc ?zzd ?zze ?zzf ?_ ?zzg; (case zza => k_asm); (case zzb => k_mem); (case zzc => (repeat' constructor)); (case zzd => exact Int.fmod_nonneg_of_pos _ (by decide)); (case zze => exact Int.fmod_lt_of_pos _ (by decide)); (case zzf => rfl); (case zzg => with_unfolding_all rfl)); intro tzz)) | with_reducible ((show wpAny _ _ (subscriptTail _ _ (Value.ref _) _) _ _ _); ((with_reducible show wpAny _ _ (subscriptTail _ _ (Value.ref _) (Value.int _ _)) _ _ _); k_dflt (refine' codes_sub ?zza ?zzb ?zzc ?zzd ?zze ?zzf ?_ ?zzg; (case zza => k_asm); (case zzb => k_mem); (case zzc => assumption); (case zzd => exact Int.fmod_nonneg_of_pos _ (by decide)); (case zze => (simp only [decide_eq_true_eq] at *; assumption)); (case zzf => rfl); (case zzg => with_unfolding_all rfl)); intro czz tzz hczz hlzz)) | with_reducible ((show wpAny _ _ (binaryOp .Add (Value.ref _) (Value.ref _)) _ _ _); (k_dflt (refine' kmk_add_ints ?zzF ?zzN ?zza ?zzb ?zzi ?zzj ?_ ?zzz; (case zzF => k_asm); (case zzN => k_asm); (case zza => exact News.isList (by k_asm) (by k_mem)); (case zzb => first | assumption | exact News.isList (by k_asm) (by k_mem)); (case zzi => first | with_reducible assumption | l_ints); (case zzj => first | with_reducible assumption | l_ints); (case zzz => decide +kernel)); intro Dzz wszz hzz Fzz Nzz l1 hIzz; k_lt l1; (try k_sweep))) | walk_at "st"))
  all_goals first
    | exact StrEnd.intro (ahead1 (by assumption) (by assumption)) (by k_asm) (by k_asm) (fun _ h => h)
    | exact StrEnd.intro (ahead0 (by assumption)) (by k_asm) (by k_asm) (fun _ h => h)
    | exact StrEnd.intro (kept1 (by assumption)) (by k_asm) (by k_asm) (fun _ h => h)
    | exact StrEnd.intro (kept0 (by assumption)) (by k_asm) (by k_asm) (fun _ h => h)
    | (have e0 := menu_row (x := x) (j := 0) (by assumption) (by decide); exact StrEnd.intro e0 (by k_asm) (by k_asm) (fun _ h => List.mem_cons_of_mem _ h))
    | (have e0 := menu_row (x := x) (j := 1) (by assumption) (by decide); exact StrEnd.intro e0 (by k_asm) (by k_asm) (fun _ h => List.mem_cons_of_mem _ h))
    | (have e0 := menu_row (x := x) (j := 2) (by assumption) (by decide); exact StrEnd.intro e0 (by k_asm) (by k_asm) (fun _ h => List.mem_cons_of_mem _ h))
    | (have e0 := menu_row (x := x) (j := 3) (by assumption) (by decide); exact StrEnd.intro e0 (by k_asm) (by k_asm) (fun _ h => List.mem_cons_of_mem _ h))
    | exact AccEnd.intro (.inl rfl) (by k_asm) (by k_asm) (fun _ h => h) (wg_two (by assumption) (by assumption) (by first | exact .inl (by assumption) | exact .inr (.inl (by assumption)) | exact .inr (.inr (.inl ⟨by assumption, by assumption⟩)) | exact .inr (.inr (.inr ⟨by assumption, by assumption⟩))))
    | exact AccEnd.intro (.inl rfl) (by k_asm) (by k_asm) (fun _ h => h) (wg_one (by assumption) (by assumption) (by assumption) (by assumption) (by first | exact .inl (by assumption) | exact .inr (by assumption)) (by first | exact .inl (by assumption) | exact .inr (by assumption)))
    | exact word_ret hret (by first | exact text1 (by assumption) | exact text0 (by assumption)) (by k_asm) (by k_asm) (fun p h => by (repeat' first | exact h | apply List.mem_cons_of_mem)) (by k_all)
    | (refine word_ret hret ?_ (by k_asm) (by k_asm) (by assumption) ?_ rfl
       · first | (have h0 : (x.fdiv 640).fmod 2 = 1 := (by assumption); exact text1 h0) | (have h0 : (x.fdiv 640).fmod 2 ≠ 1 := (by assumption); exact text0 h0)
       · exact (fun p h => by (repeat' first | exact h | apply List.mem_cons_of_mem)))
end
section -- LB
theorem fillB : PySem.Challenge.rw_uq0027_01 = PySem.Challenge.rw_uq0027_01 ∧ KK = KK := by
  k_fill
  exact ⟨rfl, rfl⟩
noncomputable def lawSc : Scope := fS (stI 22)
noncomputable def lawSt : List Stmt := match fB (stI 22) with | .stmts b => b | _ => []
noncomputable abbrev lawE (L a : Addr) (ccd : Value) : Env := envOfC (Str.ofString "law") lawSc L a ccd
noncomputable abbrev lawA (L a : Addr) (ccd : Value) : Around := callerA.deeper (lawE L a ccd)
/-- a statement of the law, its rest hidden -/
theorem cut0 {P : List Stmt → Prop} {a0 : Stmt} {r : List Stmt} (h : lawSt = a0 :: r) (k : ∀ r', r' = lawSt.drop 1 → P (a0 :: r')) : P (lawSt.drop 0) := by
  have e : lawSt.drop 1 = r := by rw [h]; rfl
  have := k _ rfl
  rw [e] at this
  rw [h]
  exact this
theorem cut1 {P : List Stmt → Prop} {a0 a1 : Stmt} {r : List Stmt} (h : lawSt = a0 :: a1 :: r) (k : ∀ r', r' = lawSt.drop 2 → P (a1 :: r')) : P (lawSt.drop 1) := by
  have e : lawSt.drop 2 = r := by rw [h]; rfl
  have := k _ rfl
  rw [e] at this
  rw [h]
  exact this
theorem cut2 {P : List Stmt → Prop} {a0 a1 a2 : Stmt} {r : List Stmt} (h : lawSt = a0 :: a1 :: a2 :: r) (k : ∀ r', r' = lawSt.drop 3 → P (a2 :: r')) : P (lawSt.drop 2) := by
  have e : lawSt.drop 3 = r := by rw [h]; rfl
  have := k _ rfl
  rw [e] at this
  rw [h]
  exact this
theorem cut3 {P : List Stmt → Prop} {a0 a1 a2 a3 : Stmt} {r : List Stmt} (h : lawSt = a0 :: a1 :: a2 :: a3 :: r) (k : ∀ r', r' = lawSt.drop 4 → P (a3 :: r')) : P (lawSt.drop 3) := by
  have e : lawSt.drop 4 = r := by rw [h]; rfl
  have := k _ rfl
  rw [e] at this
  rw [h]
  exact this
theorem cut4 {P : List Stmt → Prop} {a0 a1 a2 a3 a4 : Stmt} {r : List Stmt} (h : lawSt = a0 :: a1 :: a2 :: a3 :: a4 :: r) (k : ∀ r', r' = lawSt.drop 5 → P (a4 :: r')) : P (lawSt.drop 4) := by
  have e : lawSt.drop 5 = r := by rw [h]; rfl
  have := k _ rfl
  rw [e] at this
  rw [h]
  exact this
theorem cut5 {P : List Stmt → Prop} {a0 a1 a2 a3 a4 a5 : Stmt} {r : List Stmt} (h : lawSt = a0 :: a1 :: a2 :: a3 :: a4 :: a5 :: r) (k : ∀ r', r' = lawSt.drop 6 → P (a5 :: r')) : P (lawSt.drop 5) := by
  have e : lawSt.drop 6 = r := by rw [h]; rfl
  have := k _ rfl
  rw [e] at this
  rw [h]
  exact this
theorem cut6 {P : List Stmt → Prop} {a0 a1 a2 a3 a4 a5 a6 : Stmt} {r : List Stmt} (h : lawSt = a0 :: a1 :: a2 :: a3 :: a4 :: a5 :: a6 :: r) (k : ∀ r', r' = lawSt.drop 7 → P (a6 :: r')) : P (lawSt.drop 6) := by
  have e : lawSt.drop 7 = r := by rw [h]; rfl
  have := k _ rfl
  rw [e] at this
  rw [h]
  exact this
theorem cut7 {P : List Stmt → Prop} {a0 a1 a2 a3 a4 a5 a6 a7 : Stmt} {r : List Stmt} (h : lawSt = a0 :: a1 :: a2 :: a3 :: a4 :: a5 :: a6 :: a7 :: r) (k : ∀ r', r' = lawSt.drop 8 → P (a7 :: r')) : P (lawSt.drop 7) := by
  have e : lawSt.drop 8 = r := by rw [h]; rfl
  have := k _ rfl
  rw [e] at this
  rw [h]
  exact this
theorem cut8 {P : List Stmt → Prop} {a0 a1 a2 a3 a4 a5 a6 a7 a8 : Stmt} {r : List Stmt} (h : lawSt = a0 :: a1 :: a2 :: a3 :: a4 :: a5 :: a6 :: a7 :: a8 :: r) (k : ∀ r', r' = lawSt.drop 9 → P (a8 :: r')) : P (lawSt.drop 8) := by
  have e : lawSt.drop 9 = r := by rw [h]; rfl
  have := k _ rfl
  rw [e] at this
  rw [h]
  exact this
theorem cut9 {P : List Stmt → Prop} {a0 a1 a2 a3 a4 a5 a6 a7 a8 a9 : Stmt} {r : List Stmt} (h : lawSt = a0 :: a1 :: a2 :: a3 :: a4 :: a5 :: a6 :: a7 :: a8 :: a9 :: r) (k : ∀ r', r' = lawSt.drop 10 → P (a9 :: r')) : P (lawSt.drop 9) := by
  have e : lawSt.drop 10 = r := by rw [h]; rfl
  have := k _ rfl
  rw [e] at this
  rw [h]
  exact this
theorem cut10 {P : List Stmt → Prop} {a0 a1 a2 a3 a4 a5 a6 a7 a8 a9 a10 : Stmt} {r : List Stmt} (h : lawSt = a0 :: a1 :: a2 :: a3 :: a4 :: a5 :: a6 :: a7 :: a8 :: a9 :: a10 :: r) (k : ∀ r', r' = lawSt.drop 11 → P (a10 :: r')) : P (lawSt.drop 10) := by
  have e : lawSt.drop 11 = r := by rw [h]; rfl
  have := k _ rfl
  rw [e] at this
  rw [h]
  exact this
theorem cut11 {P : List Stmt → Prop} {a0 a1 a2 a3 a4 a5 a6 a7 a8 a9 a10 a11 : Stmt} {r : List Stmt} (h : lawSt = a0 :: a1 :: a2 :: a3 :: a4 :: a5 :: a6 :: a7 :: a8 :: a9 :: a10 :: a11 :: r) (k : ∀ r', r' = lawSt.drop 12 → P (a11 :: r')) : P (lawSt.drop 11) := by
  have e : lawSt.drop 12 = r := by rw [h]; rfl
  have := k _ rfl
  rw [e] at this
  rw [h]
  exact this
theorem cut12 {P : List Stmt → Prop} {a0 a1 a2 a3 a4 a5 a6 a7 a8 a9 a10 a11 a12 : Stmt} {r : List Stmt} (h : lawSt = a0 :: a1 :: a2 :: a3 :: a4 :: a5 :: a6 :: a7 :: a8 :: a9 :: a10 :: a11 :: a12 :: r) (k : ∀ r', r' = lawSt.drop 13 → P (a12 :: r')) : P (lawSt.drop 12) := by
  have e : lawSt.drop 13 = r := by rw [h]; rfl
  have := k _ rfl
  rw [e] at this
  rw [h]
  exact this
theorem cut13 {P : List Stmt → Prop} {a0 a1 a2 a3 a4 a5 a6 a7 a8 a9 a10 a11 a12 a13 : Stmt} {r : List Stmt} (h : lawSt = a0 :: a1 :: a2 :: a3 :: a4 :: a5 :: a6 :: a7 :: a8 :: a9 :: a10 :: a11 :: a12 :: a13 :: r) (k : ∀ r', r' = lawSt.drop 14 → P (a13 :: r')) : P (lawSt.drop 13) := by
  have e : lawSt.drop 14 = r := by rw [h]; rfl
  have := k _ rfl
  rw [e] at this
  rw [h]
  exact this
theorem cut14 {P : List Stmt → Prop} {a0 a1 a2 a3 a4 a5 a6 a7 a8 a9 a10 a11 a12 a13 a14 : Stmt} {r : List Stmt} (h : lawSt = a0 :: a1 :: a2 :: a3 :: a4 :: a5 :: a6 :: a7 :: a8 :: a9 :: a10 :: a11 :: a12 :: a13 :: a14 :: r) (k : ∀ r', r' = lawSt.drop 15 → P (a14 :: r')) : P (lawSt.drop 14) := by
  have e : lawSt.drop 15 = r := by rw [h]; rfl
  have := k _ rfl
  rw [e] at this
  rw [h]
  exact this
theorem cut15 {P : List Stmt → Prop} {a0 a1 a2 a3 a4 a5 a6 a7 a8 a9 a10 a11 a12 a13 a14 a15 : Stmt} {r : List Stmt} (h : lawSt = a0 :: a1 :: a2 :: a3 :: a4 :: a5 :: a6 :: a7 :: a8 :: a9 :: a10 :: a11 :: a12 :: a13 :: a14 :: a15 :: r) (k : ∀ r', r' = lawSt.drop 16 → P (a15 :: r')) : P (lawSt.drop 15) := by
  have e : lawSt.drop 16 = r := by rw [h]; rfl
  have := k _ rfl
  rw [e] at this
  rw [h]
  exact this
theorem cut16 {P : List Stmt → Prop} {a0 a1 a2 a3 a4 a5 a6 a7 a8 a9 a10 a11 a12 a13 a14 a15 a16 : Stmt} {r : List Stmt} (h : lawSt = a0 :: a1 :: a2 :: a3 :: a4 :: a5 :: a6 :: a7 :: a8 :: a9 :: a10 :: a11 :: a12 :: a13 :: a14 :: a15 :: a16 :: r) (k : ∀ r', r' = lawSt.drop 17 → P (a16 :: r')) : P (lawSt.drop 16) := by
  have e : lawSt.drop 17 = r := by rw [h]; rfl
  have := k _ rfl
  rw [e] at this
  rw [h]
  exact this
theorem cut17 {P : List Stmt → Prop} {a0 a1 a2 a3 a4 a5 a6 a7 a8 a9 a10 a11 a12 a13 a14 a15 a16 a17 : Stmt} {r : List Stmt} (h : lawSt = a0 :: a1 :: a2 :: a3 :: a4 :: a5 :: a6 :: a7 :: a8 :: a9 :: a10 :: a11 :: a12 :: a13 :: a14 :: a15 :: a16 :: a17 :: r) (k : ∀ r', r' = lawSt.drop 18 → P (a17 :: r')) : P (lawSt.drop 17) := by
  have e : lawSt.drop 18 = r := by rw [h]; rfl
  have := k _ rfl
  rw [e] at this
  rw [h]
  exact this
theorem cut18 {P : List Stmt → Prop} {a0 a1 a2 a3 a4 a5 a6 a7 a8 a9 a10 a11 a12 a13 a14 a15 a16 a17 a18 : Stmt} {r : List Stmt} (h : lawSt = a0 :: a1 :: a2 :: a3 :: a4 :: a5 :: a6 :: a7 :: a8 :: a9 :: a10 :: a11 :: a12 :: a13 :: a14 :: a15 :: a16 :: a17 :: a18 :: r) (k : ∀ r', r' = lawSt.drop 19 → P (a18 :: r')) : P (lawSt.drop 18) := by
  have e : lawSt.drop 19 = r := by rw [h]; rfl
  have := k _ rfl
  rw [e] at this
  rw [h]
  exact this
variable {w : World} {mean : ExcName → Option Value} {mg mb : Str → Option Value}
end
local macro_rules | `(tactic| walk_at "m3") => `(tactic| (k_here; (with_reducible show wpAny _ _ (eval (Expr.Name _ _) (compEnvC _ _ _ _)) _ _ _); k_dflt (refine' wpAny_Name (wpAny_loadName_local ?ja ?jb ?jc ?jd ?_) ?je; (case jc => assumption); (case jd => assumption); (case ja => exact rfl); (case jb => exact rfl); (case je => decide))))
section -- L1
theorem fillL1 : PySem.Challenge.rw_uq0027_01 = PySem.Challenge.rw_uq0027_01 ∧ KK = KK := by
  k_fill
  exact ⟨rfl, rfl⟩
variable {w : World} {mean : ExcName → Option Value} {mg mb : Str → Option Value} {A₀ : Around} {base h₀ : Heap} {L a : Addr} {ccd : Value} {m : Str → Option Value} {s : Shared} {Q : Flow → Shared → Prop} {E : Value → Shared → Prop}
local macro_rules | `(tactic| walk_at "eval ListComp") => `(tactic| (k_here; (with_reducible refine comp_hold ?_)))
local macro_rules | `(tactic| walk_at "exec Assign cons ListComp") => `(tactic| (k_here; (with_reducible refine comp_hold ?_)))

/-- a word's meaning and its text -/
noncomputable def rowS (z : Int) : Str × Str := (wordS z, textS z)
noncomputable def drawnI (zs : List Int) (i : Nat) (ys : List Value) (ex : List (Addr × Obj)) : Prop := TupsAt ex ys ((zs.take i).map rowS) ∧ i ≤ zs.length
theorem drawnI_sz {zs : List Int} (hz : zs.length ≤ 1000) {n : Nat} : ∀ i ys ex, i ≤ n → drawnI zs i ys ex → ys.length ≤ sizeLine := by
  intro i ys ex _ hI
  have h1 := hI.1.1
  rw [List.length_map, List.length_take] at h1
  have h2 := hI.2
  rw [sizeLine_eq]
  omega
theorem drawnI_next {zs : List Int} {i : Nat} {ys : List Value} {ex : List (Addr × Obj)} {z : Int} {D : Addr} {t1 t2 : Tok} (hz : zs[i]? = some z) (hI : drawnI zs i ys ex) : drawnI zs (i + 1) (ys ++ [.ref D]) ([(D, tup2 (wordS z) (textS z) t1 t2)] ++ ex) := by
  refine ⟨?_, (List.getElem?_eq_some_iff.mp hz).1⟩
  have e : (zs.take (i + 1)).map rowS = (zs.take i).map rowS ++ [rowS z] := by rw [List.take_add_one, hz]; simp
  rw [e]
  exact (hI.1.mono fun p hp => List.mem_append_right _ hp).append (TupsAt.one (List.mem_append_left _ (List.mem_singleton.mpr rfl)))
theorem drawnI_end {zs : List Int} {n : Nat} {ys : List Value} {ex : List (Addr × Obj)} (hn : n = zs.length) (hI : drawnI zs n ys ex) : TupsAt ex ys (zs.map rowS) := by
  have := hI.1
  rwa [hn, List.take_length] at this
theorem fresh1 {D : Addr} {o : Obj} {l : List (Addr × Obj)} (hf : ∀ p ∈ [(D, o)], p.1 ∈ ([] : List (Addr × Obj)).map (·.1) ∨ ∀ q ∈ [] ++ l, q.1 < p.1) : ∀ q ∈ l, q.1 < D := (hf _ (List.mem_singleton.mpr rfl)).elim (fun h => nomatch h) id
theorem mem_skip {a c q : Addr × Obj} {l r : List (Addr × Obj)} (h : q ∈ a :: (l ++ r)) : q ∈ a :: (l ++ c :: r) := by
  simp only [List.mem_cons, List.mem_append] at h ⊢
  rcases h with h | h | h
  · exact .inl h
  · exact .inr (.inl h)
  · exact .inr (.inr (.inr h))
theorem sum_wordT (x : Int) (t : Tok) (hx : 0 ≤ x) (hx2 : x < 10240) : SumT w mean mg mb (.ref 324) [.int x t] [] 1 8 [] (fun v new => ∃ D t1 t2, v = .ref D ∧ new = [(D, tup2 (wordS x) (textS x) t1 t2)]) := sum_word x t hx hx2
theorem ints_at {vs : List Value} {ns : List Int} (h : IntsAre vs ns) {i : Nat} {v : Value} (e : vs.toArray[i]? = some v) : ∃ x t, ns[i]? = some x ∧ v = .int x t := by
  induction h generalizing i with
  | nil => simp at e
  | cons n t h ih =>
    cases i with
    | zero => simp at e; exact ⟨n, t, rfl, e.symm⟩
    | succ i => exact ih (by simpa using e)
local macro_rules | `(tactic| walk_at "eval Name") => `(tactic| (k_here; k_dflt (refine' nameX_L ?j1 ?j2 ?_ rfl rfl ?j3; (case j1 => k_asm); (case j2 => assumption); (case j3 => decide))))
local macro_rules | `(tactic| walk_at "eval Name") => `(tactic| walk_at "m3")
set_option maxHeartbeats 4000000 in
theorem seg0 (B : Below A₀ base [] h₀) (X : (KK w.params).In h₀) (T : Top topProg LX mean mg mb h₀) (sl : Addr) (vs : List Value) (xs : List Int) (hsl : h₀.IsList sl vs.toArray) (hv : IntsAre vs xs) (hxs : xs.length ≤ 63)
    (hm : m (Str.ofString "script") = some (.ref sl)) (news : List (Addr × Obj)) (F : Fr h₀ L s.heap m) (N : News h₀ L s.heap news)
    (next : ∀ D ys ex k h tk, TupsAt ex ys (((xs.take 8).map (Int.fmod · 10240)).map rowS) → Fr h₀ L h (fun y => if y = Str.ofString "drawn" then some (.ref D) else m y) → News h₀ L h ((D, listOf ys.toArray k) :: (ex ++ news)) → (∀ p ∈ news, p.1 < D) → (∀ p ∈ ex, D < p.1) → wpAny (model PW w) (lawA L a ccd) (execs (lawSt.drop 1) (lawE L a ccd)) Q E { s with heap := h, toks := tk }) :
    wpAny (model PW w) (lawA L a ccd) (execs (lawSt.drop 0) (lawE L a ccd)) Q E s := by
  refine cut0 (P := fun b => wpAny (model PW w) (lawA L a ccd) (execs b (lawE L a ccd)) Q E s) (by with_unfolding_all exact rfl) fun rest hrest => ?_
  rw [← hrest] at next
  (repeat' (first | with_reducible ((show wpAny _ _ (call (Value.ref _) _) _ _ _); (k_dflt ( (with_reducible show wpAny _ _ (call (Value.ref 324) _) _ _ _); (refine' SumT.use (sum_wordT _ _ ?zzj0 ?zzj1) ?zzja ?zzjB ?zzjF ?zzjX ?zzjN ?zzjo ?zzjT ?zzjk ?zzjd ?zzju ?_; (case zzjF => k_asm); (case zzjN => exact (by k_asm)); (case zzja => exact rfl); (case zzjB => k_asm); (case zzjX => k_asm); (case zzjo => exact off_nil); (case zzjT => k_asm); (case zzjk => exact rfl); (case zzjd => decide +kernel); (case zzju => decide +kernel); (case zzj0 => omega); (case zzj1 => omega)); intro vzz newzz hzz tkzz hPzz Fzz Nzz hfzz; (obtain ⟨Dzz, tazz, tbzz, e1zz, e2zz⟩ := hPzz); subst e1zz; subst e2zz))) | walk_at "st"))
  unfold CompHold
  k_dflt (refine' comp_assignC ?jF0 ?hLe ?hsw ?hclos ?hcell ?hkind ?hnames ?hxx ?hy ?hp ?hit ?hs)
  case jF0 => k_asm
  case hLe => exact rfl
  case hsw => with_unfolding_all rfl
  case hclos => with_unfolding_all rfl
  case hcell => decide
  case hkind => exact rfl
  case hnames => decide
  case hxx => decide
  case hy => with_unfolding_all rfl
  case hp => with_unfolding_all rfl
  case hs => intro x; rfl
  case hit =>
    (repeat' (first | with_reducible ((show wpAny _ _ (call (Value.ref _) _) _ _ _); (k_dflt ( (with_reducible show wpAny _ _ (call (Value.ref 324) _) _ _ _); (refine' SumT.use (sum_wordT _ _ ?zzj0 ?zzj1) ?zzja ?zzjB ?zzjF ?zzjX ?zzjN ?zzjo ?zzjT ?zzjk ?zzjd ?zzju ?_; (case zzjF => k_asm); (case zzjN => exact (by k_asm)); (case zzja => exact rfl); (case zzjB => k_asm); (case zzjX => k_asm); (case zzjo => exact off_nil); (case zzjT => k_asm); (case zzjk => exact rfl); (case zzjd => decide +kernel); (case zzju => decide +kernel); (case zzj0 => omega); (case zzj1 => omega)); intro vzz newzz hzz tkzz hPzz Fzz Nzz hfzz; (obtain ⟨Dzz, tazz, tbzz, e1zz, e2zz⟩ := hPzz); subst e1zz; subst e2zz))) | walk_at "st"))
    rename IntsAre _ (List.take 8 xs) => hI8
    rename ∀ p ∈ news, @LT.lt Nat _ p.1 _ => l1
    have hl8 : (xs.take 8).length ≤ 8 := by rw [List.length_take]; exact Nat.min_le_left _ _
    have hsz8 := hI8.length
    refine' iterC_list (drawnI ((xs.take 8).map (Int.fmod · 10240))) ?jh ?jF ?jN ?jm ⟨by exact TupsAt.nil, Nat.zero_le _⟩ ?hsz ?turn ?fin
    case jh => exact rfl
    case jF => k_asm
    case jN => k_asm
    case jm => k_mem
    case hsz => exact drawnI_sz (by rw [List.length_map]; omega)
    case turn =>
      intro C i v ys ex s' own mC E' hC hv hI hm ct
      obtain ⟨x, t, hx, rfl⟩ := ints_at hI8 hv
      have F1 := ct.F
      have N1 := ct.N
      have nC := ct.ns _ ct.N
      have b1 := Int.fmod_nonneg_of_pos x (b := 10240) (by decide)
      have b2 := Int.fmod_lt_of_pos x (b := 10240) (by decide)
      refine TurnGoal.plain ct ?_
      (repeat' (first | with_reducible ((show wpAny _ _ (call (Value.ref _) _) _ _ _); (k_dflt ( (with_reducible show wpAny _ _ (call (Value.ref 324) _) _ _ _); (refine' SumT.use (sum_wordT _ _ ?zzj0 ?zzj1) ?zzja ?zzjB ?zzjF ?zzjX ?zzjN ?zzjo ?zzjT ?zzjk ?zzjd ?zzju ?_; (case zzjF => k_asm); (case zzjN => exact (by k_asm)); (case zzja => exact rfl); (case zzjB => k_asm); (case zzjX => k_asm); (case zzjo => exact off_nil); (case zzjT => k_asm); (case zzjk => exact rfl); (case zzjd => decide +kernel); (case zzju => decide +kernel); (case zzj0 => omega); (case zzj1 => omega)); intro vzz newzz hzz tkzz hPzz Fzz Nzz hfzz; (obtain ⟨Dzz, tazz, tbzz, e1zz, e2zz⟩ := hPzz); subst e1zz; subst e2zz))) | walk_at "st"))
      exact EltEnd.new ct (by k_asm) (by k_asm) (fresh1 (by assumption)) (drawnI_next (z := x.fmod 10240) (by rw [List.getElem?_map, hx]; rfl) hI)
    case fin =>
      intro h D ys ex ep hI hD hex h2 tk F2 N2
      exact next D ys ex ep h2 tk (drawnI_end (by rw [List.length_map]; simpa using hsz8) hI) F2 (nsub N2 fun q hq => mem_skip hq) (fun p hp => hD p (List.mem_cons_of_mem _ hp)) hex
end
local macro_rules | `(tactic| walk_at "m4") => `(tactic| (k_here; k_dflt (refine' nameX_L ?j1 ?j2 ?_ rfl rfl ?j3; (case j1 => k_asm); (case j2 => assumption); (case j3 => decide))))
section -- L2
theorem fillL2 : PySem.Challenge.rw_uq0027_01 = PySem.Challenge.rw_uq0027_01 ∧ KK = KK := by
  k_fill
  exact ⟨rfl, rfl⟩
variable {w : World} {mean : ExcName → Option Value} {mg mb : Str → Option Value} {A₀ : Around} {base h₀ : Heap} {L a : Addr} {ccd : Value} {m : Str → Option Value} {s : Shared} {Q : Flow → Shared → Prop} {E : Value → Shared → Prop}
local macro_rules | `(tactic| walk_at "eval Name") => `(tactic| walk_at "m4")
local macro_rules | `(tactic| walk_at "eval Name") => `(tactic| walk_at "m3")
local macro_rules | `(tactic| walk_at "eval ListComp") => `(tactic| (k_here; (with_reducible refine comp_hold ?_)))
local macro_rules | `(tactic| walk_at "exec Assign cons ListComp") => `(tactic| (k_here; (with_reducible refine comp_hold ?_)))

noncomputable def six : List Int := [515, 3212, 5927, 9503, 328, 4667]
theorem lt_of_all {D : Addr} {l : List (Addr × Obj)} {q : Addr × Obj} (h : ∀ p ∈ l, p.1 < D) (hq : q ∈ l) : q.1 < D := h q hq
theorem six_lo : ∀ x ∈ six, 0 ≤ x ∧ x < 10240 := by decide
theorem mem_skip4 {a b c d q : Addr × Obj} {l r : List (Addr × Obj)} (h : q ∈ a :: (l ++ r)) : q ∈ a :: b :: (l ++ c :: d :: r) := by
  simp only [List.mem_cons, List.mem_append] at h ⊢
  rcases h with h | h | h
  · exact .inl h
  · exact .inr (.inr (.inl h))
  · exact .inr (.inr (.inr (.inr (.inr h))))
set_option maxHeartbeats 4000000 in
theorem seg1 (B : Below A₀ base [] h₀) (X : (KK w.params).In h₀) (T : Top topProg LX mean mg mb h₀) (dl : Addr) (ys : List Value) (k : Nat) (zs : List Int) (news : List (Addr × Obj)) (htup : TupsAt news ys (zs.map rowS)) (hzs : zs.length ≤ 8)
    (hm : m (Str.ofString "drawn") = some (.ref dl)) (F : Fr h₀ L s.heap m) (N : News h₀ L s.heap ((dl, listOf ys.toArray k) :: news))
    (next : ∀ D ys' ex h tk, TupsAt (ex ++ news) ys' ((zs ++ six).map rowS) → Fr h₀ L h (fun y => if y = Str.ofString "drawn" then some (.ref D) else m y) → News h₀ L h ((D, listOf ys'.toArray 0) :: (ex ++ news)) → (∀ p ∈ news, p.1 < D) → (∀ p ∈ ex, dl < p.1) → wpAny (model PW w) (lawA L a ccd) (execs (lawSt.drop 2) (lawE L a ccd)) Q E { s with heap := h, toks := tk }) :
    wpAny (model PW w) (lawA L a ccd) (execs (lawSt.drop 1) (lawE L a ccd)) Q E s := by
  refine cut1 (P := fun b => wpAny (model PW w) (lawA L a ccd) (execs b (lawE L a ccd)) Q E s) (by with_unfolding_all exact rfl) fun rest hrest => ?_
  rw [← hrest] at next
  (repeat' (first | with_reducible ((show wpAny _ _ (binaryOp .Add (Value.ref _) (Value.ref _)) _ _ _); (k_dflt (refine' kmk_add_lit ?zzjF ?zzjN ?zzja ?zzjb rfl ?_ ?zzjz; (case zzjF => k_asm); (case zzjN => k_asm); (case zzja => exact News.isList (by k_asm) (by first | exact List.mem_cons_of_mem _ (List.mem_append_right _ (by k_mem)) | k_mem)); (case zzjb => exact News.isList (by k_asm) (by k_mem)); (case zzjz => ((simp only [sizeLine_eq]); omega))); intro Dzz hzz Fzz Nzz l1zz)) | with_reducible ((show wpAny _ _ (call (Value.ref _) _) _ _ _); (k_dflt ( (with_reducible show wpAny _ _ (call (Value.ref 324) _) _ _ _); (refine' SumT.use (sum_wordT _ _ ?zzj0 ?zzj1) ?zzja ?zzjB ?zzjF ?zzjX ?zzjN ?zzjo ?zzjT ?zzjk ?zzjd ?zzju ?_; (case zzjF => k_asm); (case zzjN => exact (by k_asm)); (case zzja => exact rfl); (case zzjB => k_asm); (case zzjX => k_asm); (case zzjo => exact off_nil); (case zzjT => k_asm); (case zzjk => exact rfl); (case zzjd => decide +kernel); (case zzju => decide +kernel); (case zzj0 => omega); (case zzj1 => omega)); intro vzz newzz hzz tkzz hPzz Fzz Nzz hfzz; (obtain ⟨Dzz, tazz, tbzz, e1zz, e2zz⟩ := hPzz); subst e1zz; subst e2zz))) | walk_at "st"))
  unfold CompHold
  k_dflt (refine' comp_evalC ?jF0 ?hclos ?hcell ?hkind ?hnames ?hxx ?hit ?hs)
  case jF0 => k_asm
  case hclos => with_unfolding_all rfl
  case hcell => decide
  case hkind => exact rfl
  case hnames => decide
  case hxx => decide
  case hs => intro x; rfl
  case hit =>
    (repeat' (first | with_reducible ((show wpAny _ _ (binaryOp .Add (Value.ref _) (Value.ref _)) _ _ _); (k_dflt (refine' kmk_add_lit ?zzjF ?zzjN ?zzja ?zzjb rfl ?_ ?zzjz; (case zzjF => k_asm); (case zzjN => k_asm); (case zzja => exact News.isList (by k_asm) (by first | exact List.mem_cons_of_mem _ (List.mem_append_right _ (by k_mem)) | k_mem)); (case zzjb => exact News.isList (by k_asm) (by k_mem)); (case zzjz => ((simp only [sizeLine_eq]); omega))); intro Dzz hzz Fzz Nzz l1zz)) | with_reducible ((show wpAny _ _ (call (Value.ref _) _) _ _ _); (k_dflt ( (with_reducible show wpAny _ _ (call (Value.ref 324) _) _ _ _); (refine' SumT.use (sum_wordT _ _ ?zzj0 ?zzj1) ?zzja ?zzjB ?zzjF ?zzjX ?zzjN ?zzjo ?zzjT ?zzjk ?zzjd ?zzju ?_; (case zzjF => k_asm); (case zzjN => exact (by k_asm)); (case zzja => exact rfl); (case zzjB => k_asm); (case zzjX => k_asm); (case zzjo => exact off_nil); (case zzjT => k_asm); (case zzjk => exact rfl); (case zzjd => decide +kernel); (case zzju => decide +kernel); (case zzj0 => omega); (case zzj1 => omega)); intro vzz newzz hzz tkzz hPzz Fzz Nzz hfzz; (obtain ⟨Dzz, tazz, tbzz, e1zz, e2zz⟩ := hPzz); subst e1zz; subst e2zz))) | walk_at "st"))
    rename News _ _ _ _ => N6
    refine' iterC_list (drawnI six) ?jh ?jF ?jN ?jm ⟨by exact TupsAt.nil, Nat.zero_le _⟩ ?hsz ?turn ?fin
    case jh => exact rfl
    case jF => k_asm
    case jN => k_asm
    case jm => k_mem
    case hsz => exact drawnI_sz (by decide)
    case turn =>
      intro C i v ys2 ex s' own mC E' hC hv hI hm ct
      obtain ⟨x, t, hx, rfl⟩ := ints_at (ns := six) (by repeat' constructor) hv
      have F1 := ct.F
      have N1 := ct.N
      have nC := ct.ns _ ct.N
      have b1 := (six_lo x (List.mem_of_getElem? hx)).1
      have b2 := (six_lo x (List.mem_of_getElem? hx)).2
      refine TurnGoal.plain ct ?_
      (repeat' (first | with_reducible ((show wpAny _ _ (binaryOp .Add (Value.ref _) (Value.ref _)) _ _ _); (k_dflt (refine' kmk_add_lit ?zzjF ?zzjN ?zzja ?zzjb rfl ?_ ?zzjz; (case zzjF => k_asm); (case zzjN => k_asm); (case zzja => exact News.isList (by k_asm) (by first | exact List.mem_cons_of_mem _ (List.mem_append_right _ (by k_mem)) | k_mem)); (case zzjb => exact News.isList (by k_asm) (by k_mem)); (case zzjz => ((simp only [sizeLine_eq]); omega))); intro Dzz hzz Fzz Nzz l1zz)) | with_reducible ((show wpAny _ _ (call (Value.ref _) _) _ _ _); (k_dflt ( (with_reducible show wpAny _ _ (call (Value.ref 324) _) _ _ _); (refine' SumT.use (sum_wordT _ _ ?zzj0 ?zzj1) ?zzja ?zzjB ?zzjF ?zzjX ?zzjN ?zzjo ?zzjT ?zzjk ?zzjd ?zzju ?_; (case zzjF => k_asm); (case zzjN => exact (by k_asm)); (case zzja => exact rfl); (case zzjB => k_asm); (case zzjX => k_asm); (case zzjo => exact off_nil); (case zzjT => k_asm); (case zzjk => exact rfl); (case zzjd => decide +kernel); (case zzju => decide +kernel); (case zzj0 => omega); (case zzj1 => omega)); intro vzz newzz hzz tkzz hPzz Fzz Nzz hfzz; (obtain ⟨Dzz, tazz, tbzz, e1zz, e2zz⟩ := hPzz); subst e1zz; subst e2zz))) | walk_at "st"))
      exact EltEnd.new ct (by k_asm) (by k_asm) (fresh1 (by assumption)) (drawnI_next hx hI)
    case fin =>
      intro h D ys2 ex ep hI hD hex h2 tk F2 N2
      have e6 := drawnI_end rfl hI
      have hl1 := htup.1
      have hl2 := e6.1
      rw [List.length_map] at hl1 hl2
      have hl6 : six.length = 6 := rfl
      dsimp only
      (repeat' (first | with_reducible ((show wpAny _ _ (binaryOp .Add (Value.ref _) (Value.ref _)) _ _ _); (k_dflt (refine' kmk_add_lit ?zzjF ?zzjN ?zzja ?zzjb rfl ?_ ?zzjz; (case zzjF => k_asm); (case zzjN => k_asm); (case zzja => exact News.isList (by k_asm) (by first | exact List.mem_cons_of_mem _ (List.mem_append_right _ (by k_mem)) | k_mem)); (case zzjb => exact News.isList (by k_asm) (by k_mem)); (case zzjz => ((simp only [sizeLine_eq]); omega))); intro Dzz hzz Fzz Nzz l1zz)) | with_reducible ((show wpAny _ _ (call (Value.ref _) _) _ _ _); (k_dflt ( (with_reducible show wpAny _ _ (call (Value.ref 324) _) _ _ _); (refine' SumT.use (sum_wordT _ _ ?zzj0 ?zzj1) ?zzja ?zzjB ?zzjF ?zzjX ?zzjN ?zzjo ?zzjT ?zzjk ?zzjd ?zzju ?_; (case zzjF => k_asm); (case zzjN => exact (by k_asm)); (case zzja => exact rfl); (case zzjB => k_asm); (case zzjX => k_asm); (case zzjo => exact off_nil); (case zzjT => k_asm); (case zzjk => exact rfl); (case zzjd => decide +kernel); (case zzju => decide +kernel); (case zzj0 => omega); (case zzj1 => omega)); intro vzz newzz hzz tkzz hPzz Fzz Nzz hfzz; (obtain ⟨Dzz, tazz, tbzz, e1zz, e2zz⟩ := hPzz); subst e1zz; subst e2zz))) | walk_at "st"))
      refine next _ (ys ++ ys2) ex _ _ ?_ (by k_asm) (nsub (by k_asm) fun q hq => mem_skip4 hq) (fun p hp => ?_) (fun p hp => ?_)
      · rw [List.map_append]
        exact (htup.mono fun p hp => List.mem_append_right _ hp).append (e6.mono fun p hp => List.mem_append_left _ hp)
      · exact lt_of_all (l := _ :: (_ ++ _ :: _ :: news)) (by assumption) (.tail _ (List.mem_append_right _ (.tail _ (.tail _ hp))))
      · exact Nat.lt_trans (hD _ (.tail _ (.head _))) (hex p hp)
end
section -- L3
theorem fillL3 : PySem.Challenge.rw_uq0027_01 = PySem.Challenge.rw_uq0027_01 ∧ KK = KK := by
  k_fill
  exact ⟨rfl, rfl⟩
variable {w : World} {mean : ExcName → Option Value} {mg mb : Str → Option Value} {A₀ : Around} {base h₀ : Heap} {L a : Addr} {ccd : Value} {m : Str → Option Value} {s : Shared} {Q : Flow → Shared → Prop} {E : Value → Shared → Prop}
local macro_rules | `(tactic| walk_at "eval Name") => `(tactic| walk_at "m4")
local macro_rules | `(tactic| walk_at "eval Name") => `(tactic| walk_at "m3")
local macro_rules | `(tactic| walk_at "eval ListComp") => `(tactic| (k_here; (with_reducible refine comp_hold ?_)))

noncomputable def colI (f : Str × Str → Str) (ps : List (Str × Str)) (i : Nat) (ys : List Value) (ex : List (Addr × Obj)) : Prop := StrsAre ys ((ps.take i).map f) ∧ ex = [] ∧ i ≤ ps.length
theorem colI_sz {f : Str × Str → Str} {ps : List (Str × Str)} (hz : ps.length ≤ 1000) {n : Nat} : ∀ i ys ex, i ≤ n → colI f ps i ys ex → ys.length ≤ sizeLine := by
  intro i ys ex _ hI
  have h1 := hI.1.length
  rw [List.length_map, List.length_take] at h1
  rw [sizeLine_eq]
  omega
theorem colI_next {f : Str × Str → Str} {ps : List (Str × Str)} {i : Nat} {ys : List Value} {ex : List (Addr × Obj)} {p : Str × Str} {t : Tok} (hp : ps[i]? = some p) (hI : colI f ps i ys ex) : colI f ps (i + 1) (ys ++ [.str (f p) t]) ([] ++ ex) := by
  refine ⟨?_, hI.2.1, (List.getElem?_eq_some_iff.mp hp).1⟩
  have e : (ps.take (i + 1)).map f = (ps.take i).map f ++ [f p] := by rw [List.take_add_one, hp]; simp
  rw [e]
  exact hI.1.append' (.cons _ _ .nil)
theorem colI_end {f : Str × Str → Str} {ps : List (Str × Str)} {n : Nat} {ys : List Value} {ex : List (Addr × Obj)} (hn : n = ps.length) (hI : colI f ps n ys ex) : StrsAre ys (ps.map f) ∧ ex = [] := by
  have := hI.1
  rw [hn, List.take_length] at this
  exact ⟨this, hI.2.1⟩
set_option maxHeartbeats 4000000 in
theorem seg2 (B : Below A₀ base [] h₀) (X : (KK w.params).In h₀) (T : Top topProg LX mean mg mb h₀) (dl : Addr) (ys : List Value) (k : Nat) (ps : List (Str × Str)) (oW : Obj) (v₀ : Option Value) (tail : List (Addr × Obj)) (htup : TupsAt tail ys ps) (hps : ps.length ≤ 100)
    (hoff : OwnOff tail [L + 1]) (hdl : @LT.lt Nat _ (L + 1) dl) (dW : oW.data = .cell v₀)
    (hm : m (Str.ofString "drawn") = some (.ref dl)) (F : Fr h₀ L s.heap m) (N : News h₀ L s.heap ((dl, listOf ys.toArray k) :: (L + 1, oW) :: tail))
    (next : ∀ D us ep oW' h tk, StrsAre us (ps.map (·.1)) → oW'.data = .cell (some (.ref D)) → Fr h₀ L h m → News h₀ L h ((D, listOf us.toArray ep) :: (dl, listOf ys.toArray k) :: (L + 1, oW') :: tail) → (∀ p ∈ (dl, listOf ys.toArray k) :: (L + 1, oW) :: tail, p.1 < D) → wpAny (model PW w) (lawA L a ccd) (execs (lawSt.drop 3) (lawE L a ccd)) Q E { s with heap := h, toks := tk }) :
    wpAny (model PW w) (lawA L a ccd) (execs (lawSt.drop 2) (lawE L a ccd)) Q E s := by
  refine cut2 (P := fun b => wpAny (model PW w) (lawA L a ccd) (execs b (lawE L a ccd)) Q E s) (by with_unfolding_all exact rfl) fun rest hrest => ?_
  rw [← hrest] at next
  (repeat' (first | with_reducible ((show wpAny _ _ (subscriptTail _ _ (Value.ref _) _) _ _ _); ((with_reducible show wpAny _ _ (subscriptTail _ _ (Value.ref _) (Value.int 1 _)) _ _ _); k_dflt (refine' sub_tup1 ?zza ?zzb ?_ ?zzg; (case zza => k_asm); (case zzb => exact List.mem_append_right _ (List.mem_append_right _ (by assumption))); (case zzg => with_unfolding_all rfl)))) | with_reducible ((show wpAny _ _ (subscriptTail _ _ (Value.ref _) _) _ _ _); ((with_reducible show wpAny _ _ (subscriptTail _ _ (Value.ref _) (Value.int 0 _)) _ _ _); k_dflt (refine' sub_tup0 ?zza ?zzb ?_ ?zzg; (case zza => k_asm); (case zzb => exact List.mem_append_right _ (List.mem_append_right _ (by assumption))); (case zzg => with_unfolding_all rfl)))) | walk_at "st"))
  unfold CompHold
  k_dflt (refine' comp_evalC ?jF0 ?hclos ?hcell ?hkind ?hnames ?hxx ?hit ?hs)
  case jF0 => k_asm
  case hclos => with_unfolding_all rfl
  case hcell => decide
  case hkind => exact rfl
  case hnames => decide
  case hxx => decide
  case hs => intro x; rfl
  case hit =>
    (repeat' (first | with_reducible ((show wpAny _ _ (subscriptTail _ _ (Value.ref _) _) _ _ _); ((with_reducible show wpAny _ _ (subscriptTail _ _ (Value.ref _) (Value.int 1 _)) _ _ _); k_dflt (refine' sub_tup1 ?zza ?zzb ?_ ?zzg; (case zza => k_asm); (case zzb => exact List.mem_append_right _ (List.mem_append_right _ (by assumption))); (case zzg => with_unfolding_all rfl)))) | with_reducible ((show wpAny _ _ (subscriptTail _ _ (Value.ref _) _) _ _ _); ((with_reducible show wpAny _ _ (subscriptTail _ _ (Value.ref _) (Value.int 0 _)) _ _ _); k_dflt (refine' sub_tup0 ?zza ?zzb ?_ ?zzg; (case zza => k_asm); (case zzb => exact List.mem_append_right _ (List.mem_append_right _ (by assumption))); (case zzg => with_unfolding_all rfl)))) | walk_at "st"))
    refine' iterC_list (colI (·.1) ps) ?jh ?jF ?jN ?jm ⟨.nil, rfl, Nat.zero_le _⟩ ?hsz ?turn ?fin
    case jh => exact rfl
    case jF => k_asm
    case jN => k_asm
    case jm => k_mem
    case hsz => exact colI_sz (by omega)
    case turn =>
      intro C i v ys2 ex s' own mC E' hC hv hI hm ct
      obtain ⟨p, D, ta, tb, hp, rfl, hmem⟩ := htup.get (i := i) (v := v) (by simpa using hv)
      have hmem2 := List.mem_cons_of_mem (dl, listOf ys.toArray k) (List.mem_cons_of_mem (L + 1, oW) hmem)
      have F1 := ct.F
      have N1 := ct.N
      have nC := ct.ns _ ct.N
      refine TurnGoal.plain ct ?_
      (repeat' (first | with_reducible ((show wpAny _ _ (subscriptTail _ _ (Value.ref _) _) _ _ _); ((with_reducible show wpAny _ _ (subscriptTail _ _ (Value.ref _) (Value.int 1 _)) _ _ _); k_dflt (refine' sub_tup1 ?zza ?zzb ?_ ?zzg; (case zza => k_asm); (case zzb => exact List.mem_append_right _ (List.mem_append_right _ (by assumption))); (case zzg => with_unfolding_all rfl)))) | with_reducible ((show wpAny _ _ (subscriptTail _ _ (Value.ref _) _) _ _ _); ((with_reducible show wpAny _ _ (subscriptTail _ _ (Value.ref _) (Value.int 0 _)) _ _ _); k_dflt (refine' sub_tup0 ?zza ?zzb ?_ ?zzg; (case zza => k_asm); (case zzb => exact List.mem_append_right _ (List.mem_append_right _ (by assumption))); (case zzg => with_unfolding_all rfl)))) | walk_at "st"))
      exact EltEnd.mk (g := []) (by k_asm) (by k_asm) (fun _ h => nomatch h) (colI_next hp hI)
    case fin =>
      intro h D us ex ep hI hD hex h2 tk F2 N2
      obtain ⟨hus, rfl⟩ := colI_end (by simpa using htup.1) hI
      rw [List.nil_append] at N2
      have l2 := allLt_of hD
      have l3 : @LT.lt Nat _ (L + 1) D := hD (L + 1, oW) (.tail _ (.head _))
      dsimp only
      (repeat' (first | with_reducible ((show wpAny _ _ (subscriptTail _ _ (Value.ref _) _) _ _ _); ((with_reducible show wpAny _ _ (subscriptTail _ _ (Value.ref _) (Value.int 1 _)) _ _ _); k_dflt (refine' sub_tup1 ?zza ?zzb ?_ ?zzg; (case zza => k_asm); (case zzb => exact List.mem_append_right _ (List.mem_append_right _ (by assumption))); (case zzg => with_unfolding_all rfl)))) | with_reducible ((show wpAny _ _ (subscriptTail _ _ (Value.ref _) _) _ _ _); ((with_reducible show wpAny _ _ (subscriptTail _ _ (Value.ref _) (Value.int 0 _)) _ _ _); k_dflt (refine' sub_tup0 ?zza ?zzb ?_ ?zzg; (case zza => k_asm); (case zzb => exact List.mem_append_right _ (List.mem_append_right _ (by assumption))); (case zzg => with_unfolding_all rfl)))) | walk_at "st"))
      exact next _ us ep _ _ _ hus (by assumption) (by k_asm) (by k_asm) hD
theorem join_txt {prog : Program} {w : World} {A : Around} {E : Value → Shared → Prop} {s : Shared} {h₀ : Heap} {L D : Addr} {news : List (Addr × Obj)} {us : List Value} {k : Nat} {t : Tok} {ws : List Str} {Q : Value → Shared → Prop} (N : News h₀ L s.heap news) (hm : (D, listOf us.toArray k) ∈ news) (g : StrsAre us ws) (h16 : ∀ a ∈ ws, a.length ≤ 16) (hn : ws.length ≤ 1000)
    (h : ∀ t' k, Q (.str (PySem.Txt.join (PySem.Str.ofString "") ws) t') { s with toks := k }) : wpAny (model prog w) A (call (.builtin "str.join") [.str (PySem.Str.ofString "") t, .ref D]) Q E s := by
  refine KT.join_B 16 (PySem.IsL.isList (n := k) (N _ hm).1) (carried_strs g) h16 (by omega) (by decide) fun t' k => ?_
  rw [List.map_id]
  exact h t' k
local macro_rules | `(tactic| walk_at "call builtin:str.join") => `(tactic| (k_here; k_dflt (refine' join_txt ?jN ?jm ?jg ?j16 ?jn ?_; (case jN => k_asm); (case jm => k_mem); (case jg => assumption); (case j16 => assumption); (case jn => assumption)); intro t' k'))
set_option maxHeartbeats 4000000 in
theorem seg3 (B : Below A₀ base [] h₀) (X : (KK w.params).In h₀) (T : Top topProg LX mean mg mb h₀) (dl : Addr) (ys : List Value) (k : Nat) (ps : List (Str × Str)) (news : List (Addr × Obj)) (htup : TupsAt news ys ps) (hps : ps.length ≤ 100) (hpl : ∀ p ∈ ps, p.2.length ≤ 16)
    (hm : m (Str.ofString "drawn") = some (.ref dl)) (F : Fr h₀ L s.heap m) (N : News h₀ L s.heap news) (hdl : (dl, listOf ys.toArray k) ∈ news)
    (next : ∀ t h tk, Fr h₀ L h (fun y => if y = Str.ofString "text" then some (.str (PySem.Txt.join (PySem.Str.ofString "") (ps.map (·.2))) t) else m y) → News h₀ L h news → wpAny (model PW w) (lawA L a ccd) (execs (lawSt.drop 4) (lawE L a ccd)) Q E { s with heap := h, toks := tk }) :
    wpAny (model PW w) (lawA L a ccd) (execs (lawSt.drop 3) (lawE L a ccd)) Q E s := by
  refine cut3 (P := fun b => wpAny (model PW w) (lawA L a ccd) (execs b (lawE L a ccd)) Q E s) (by with_unfolding_all exact rfl) fun rest hrest => ?_
  rw [← hrest] at next
  (repeat' (first | with_reducible ((show wpAny _ _ (subscriptTail _ _ (Value.ref _) _) _ _ _); ((with_reducible show wpAny _ _ (subscriptTail _ _ (Value.ref _) (Value.int 1 _)) _ _ _); k_dflt (refine' sub_tup1 ?zza ?zzb ?_ ?zzg; (case zza => k_asm); (case zzb => exact List.mem_append_right _ (List.mem_append_right _ (by assumption))); (case zzg => with_unfolding_all rfl)))) | with_reducible ((show wpAny _ _ (subscriptTail _ _ (Value.ref _) _) _ _ _); ((with_reducible show wpAny _ _ (subscriptTail _ _ (Value.ref _) (Value.int 0 _)) _ _ _); k_dflt (refine' sub_tup0 ?zza ?zzb ?_ ?zzg; (case zza => k_asm); (case zzb => exact List.mem_append_right _ (List.mem_append_right _ (by assumption))); (case zzg => with_unfolding_all rfl)))) | walk_at "st"))
  unfold CompHold
  k_dflt (refine' comp_evalC ?jF0 ?hclos ?hcell ?hkind ?hnames ?hxx ?hit ?hs)
  case jF0 => k_asm
  case hclos => with_unfolding_all rfl
  case hcell => decide
  case hkind => exact rfl
  case hnames => decide
  case hxx => decide
  case hs => intro x; rfl
  case hit =>
    (repeat' (first | with_reducible ((show wpAny _ _ (subscriptTail _ _ (Value.ref _) _) _ _ _); ((with_reducible show wpAny _ _ (subscriptTail _ _ (Value.ref _) (Value.int 1 _)) _ _ _); k_dflt (refine' sub_tup1 ?zza ?zzb ?_ ?zzg; (case zza => k_asm); (case zzb => exact List.mem_append_right _ (List.mem_append_right _ (by assumption))); (case zzg => with_unfolding_all rfl)))) | with_reducible ((show wpAny _ _ (subscriptTail _ _ (Value.ref _) _) _ _ _); ((with_reducible show wpAny _ _ (subscriptTail _ _ (Value.ref _) (Value.int 0 _)) _ _ _); k_dflt (refine' sub_tup0 ?zza ?zzb ?_ ?zzg; (case zza => k_asm); (case zzb => exact List.mem_append_right _ (List.mem_append_right _ (by assumption))); (case zzg => with_unfolding_all rfl)))) | walk_at "st"))
    refine' iterC_list (colI (·.2) ps) ?jh ?jF ?jN ?jm ⟨.nil, rfl, Nat.zero_le _⟩ ?hsz ?turn ?fin
    case jh => exact rfl
    case jF => k_asm
    case jN => k_asm
    case jm => exact hdl
    case hsz => exact colI_sz (by omega)
    case turn =>
      intro C i v ys2 ex s' own mC E' hC hv hI hm ct
      obtain ⟨p, D, ta, tb, hp, rfl, hmem⟩ := htup.get (i := i) (v := v) (by simpa using hv)
      have F1 := ct.F
      have N1 := ct.N
      have nC := ct.ns _ ct.N
      refine TurnGoal.plain ct ?_
      (repeat' (first | with_reducible ((show wpAny _ _ (subscriptTail _ _ (Value.ref _) _) _ _ _); ((with_reducible show wpAny _ _ (subscriptTail _ _ (Value.ref _) (Value.int 1 _)) _ _ _); k_dflt (refine' sub_tup1 ?zza ?zzb ?_ ?zzg; (case zza => k_asm); (case zzb => exact List.mem_append_right _ (List.mem_append_right _ (by assumption))); (case zzg => with_unfolding_all rfl)))) | with_reducible ((show wpAny _ _ (subscriptTail _ _ (Value.ref _) _) _ _ _); ((with_reducible show wpAny _ _ (subscriptTail _ _ (Value.ref _) (Value.int 0 _)) _ _ _); k_dflt (refine' sub_tup0 ?zza ?zzb ?_ ?zzg; (case zza => k_asm); (case zzb => exact List.mem_append_right _ (List.mem_append_right _ (by assumption))); (case zzg => with_unfolding_all rfl)))) | walk_at "st"))
      exact EltEnd.mk (g := []) (by k_asm) (by k_asm) (fun _ h => nomatch h) (colI_next hp hI)
    case fin =>
      intro h D us ex ep hI hD hex h2 tk F2 N2
      obtain ⟨hus, rfl⟩ := colI_end (by simpa using htup.1) hI
      rw [List.nil_append] at N2
      have hpl2 : ∀ a ∈ ps.map (·.2), a.length ≤ 16 := fun a ha => by
        obtain ⟨p, hp, rfl⟩ := List.mem_map.mp ha
        exact hpl p hp
      have hpn : (ps.map (·.2)).length ≤ 1000 := by rw [List.length_map]; omega
      dsimp only
      (repeat' (first | with_reducible ((show wpAny _ _ (subscriptTail _ _ (Value.ref _) _) _ _ _); ((with_reducible show wpAny _ _ (subscriptTail _ _ (Value.ref _) (Value.int 1 _)) _ _ _); k_dflt (refine' sub_tup1 ?zza ?zzb ?_ ?zzg; (case zza => k_asm); (case zzb => exact List.mem_append_right _ (List.mem_append_right _ (by assumption))); (case zzg => with_unfolding_all rfl)))) | with_reducible ((show wpAny _ _ (subscriptTail _ _ (Value.ref _) _) _ _ _); ((with_reducible show wpAny _ _ (subscriptTail _ _ (Value.ref _) (Value.int 0 _)) _ _ _); k_dflt (refine' sub_tup0 ?zza ?zzb ?_ ?zzg; (case zza => k_asm); (case zzb => exact List.mem_append_right _ (List.mem_append_right _ (by assumption))); (case zzg => with_unfolding_all rfl)))) | walk_at "st"))
      exact next _ _ _ (by k_asm) (nsub (by k_asm) fun q hq => List.mem_cons_of_mem _ hq)
end
section -- L4
theorem fillL4 : PySem.Challenge.rw_uq0027_01 = PySem.Challenge.rw_uq0027_01 ∧ KK = KK := by
  k_fill
  exact ⟨rfl, rfl⟩
variable {w : World} {mean : ExcName → Option Value} {mg mb : Str → Option Value} {A₀ : Around} {base h₀ : Heap} {L a : Addr} {ccd : Value} {m : Str → Option Value} {s : Shared} {Q : Flow → Shared → Prop} {E : Value → Shared → Prop}
local macro_rules | `(tactic| walk_at "eval Name") => `(tactic| walk_at "m4")
local macro_rules | `(tactic| walk_at "eval Name") => `(tactic| walk_at "m3")

noncomputable abbrev lexAd (A : LexA) : List Addr := [A.pb, A.lx, A.dx, A.pb2, A.st, A.dst, A.f, A.c, A.pl, A.Lc + 1 + 1, A.Lc + 1]
theorem off312 {P : Params} {mg : Str → Option Value} {A : LexA} {tl tp : Tok} {n2 n3 : Nat} {tab o : Obj} {news : List (Addr × Obj)} (hoff : OwnOff news [312])
    (hf : ∀ p ∈ lexL P mg A 1 tl 0 tp n2 #[] n3 ++ [(312, tab)], p.1 ∈ [(312, o)].map (·.1) ∨ ∀ q ∈ [(312, o)] ++ news, q.1 < p.1) : OwnOff news (lexAd A) := by
  intro q hq b hb
  have key : ∃ p ∈ lexL P mg A 1 tl 0 tp n2 #[] n3, p.1 = b := by
    have e : lexAd A = (lexL P mg A 1 tl 0 tp n2 #[] n3).map (·.1) := rfl
    rw [e] at hb
    obtain ⟨p, h1, h2⟩ := List.mem_map.mp hb
    exact ⟨p, h1, h2⟩
  obtain ⟨p, hp, rfl⟩ := key
  rcases hf p (List.mem_append_left _ hp) with h | h
  · have e : p.1 = 312 := List.mem_singleton.mp h
    rw [e]
    exact hoff q hq 312 (.head _)
  · exact Nat.ne_of_lt (h q (List.mem_append_right _ hq))
theorem of_allLt {d : Addr} : ∀ {l : List (Addr × Obj)}, AllLt d l → ∀ p ∈ l, p.1 < d
  | [], _, _, h => nomatch h
  | _ :: _, x, p, h => (List.mem_cons.mp h).elim (fun e => e ▸ x.1) fun h => of_allLt x.2 p h
theorem last312 {h₀ h : Heap} {L : Addr} {a b : List (Addr × Obj)} {c : Addr × Obj} (N : News h₀ L h (a ++ [c] ++ b)) : News h₀ L h (a ++ (b ++ [c])) := nsub N fun q hq => by
  simp only [List.mem_append] at hq ⊢
  exact hq.elim (fun h => .inl (.inl h)) fun h => h.elim .inr fun h => .inl (.inr h)
theorem offTab {A : LexA} {text : Str} {o : Obj} {news : List (Addr × Obj)} (ok : LexOk A text) (l : @LT.lt Nat _ 312 A.Lc) (h : OwnOff news (lexAd A)) : OwnOff (news ++ [(312, o)]) (lexAd A) := by
  intro q hq b hb
  rcases List.mem_append.mp hq with hq | hq
  · exact h q hq b hb
  rw [List.mem_singleton.mp hq]
  have key : @LT.lt Nat _ 312 b := lexUp ok (Nat.lt_succ_of_lt l) b hb
  exact Nat.ne_of_lt key

set_option maxHeartbeats 4000000 in
theorem seg4 (B : Below A₀ base [] h₀) (X : (KK w.params).In h₀) (T : Top topProg LX mean mg mb h₀) (text : Str) (tt : Tok) (news : List (Addr × Obj)) (hoff : OwnOff news [312])
    (hm : m (Str.ofString "text") = some (.str text tt)) (F : Fr h₀ L s.heap m) (N : News h₀ L s.heap ((312, tabObj #[]) :: news))
    (next : ∀ A tl tp n2 n3 pt h tk, LexOk A text → Fr h₀ L h (fun y => if y = Str.ofString "lexer" then some (.ref A.lx) else m y) → News h₀ L h (lexL w.params mg A 1 tl 0 tp n2 #[] n3 ++ (news ++ [(312, tabObj pt)])) → OwnOff (news ++ [(312, tabObj pt)]) (lexAd A) → wpAny (model PW w) (lawA L a ccd) (execs (lawSt.drop 5) (lawE L a ccd)) Q E { s with heap := h, toks := tk }) :
    wpAny (model PW w) (lawA L a ccd) (execs (lawSt.drop 4) (lawE L a ccd)) Q E s := by
  refine cut4 (P := fun b => wpAny (model PW w) (lawA L a ccd) (execs b (lawE L a ccd)) Q E s) (by with_unfolding_all exact rfl) fun rest hrest => ?_
  rw [← hrest] at next
  (repeat' (first | with_reducible ((show wpAny _ _ (call (Value.ref _) _) _ _ _); (k_dflt ( (with_reducible show wpAny _ _ (call (Value.ref 317) _) _ _ _); (refine' SumT.use (sum_lexer _ _) ?zzja ?zzjB ?zzjF ?zzjX ?zzjN ?zzjo ?zzjT ?zzjk ?zzjd ?zzju ?_; (case zzjF => k_asm); (case zzjN => exact (by k_asm)); (case zzja => exact rfl); (case zzjB => k_asm); (case zzjX => k_asm); (case zzjT => k_asm); (case zzjk => exact rfl); (case zzjd => decide +kernel); (case zzju => decide +kernel); (case zzjo => assumption)); intro vzz newzz hzz tkzz hPzz Fzz Nzz hfzz; (obtain ⟨Azz, tlzz, tpzz, n2zz, n3zz, ptzz, e1zz, hokzz, hlczz, e2zz⟩ := hPzz); subst e1zz; subst e2zz))) | walk_at "st"))
  exact next _ _ _ _ _ _ _ _ (by assumption) (by k_asm) (last312 (by k_asm)) (offTab (by assumption) (by assumption) (off312 hoff (by assumption)))
local macro_rules | `(tactic| k_room) => `(tactic| ktr_room)

set_option maxHeartbeats 4000000 in
theorem seg5 (B : Below A₀ base [] h₀) (X : (KK w.params).In h₀) (T : Top topProg LX mean mg mb h₀) (text : Str) (A : LexA) (ok : LexOk A text) (tl tp : Tok) (n2 n3 : Nat) (news : List (Addr × Obj)) (hoff : OwnOff news (lexAd A)) (hx : 2 ≤ text.cps.size)
    (C : Int) (u0 u1 u2 r0 r1 r2 : List Nat) (hC : 1 + nl (text.cps.toList.drop 0) = C) (hs0 : tokO (text.cps.toList.drop 0) = some (u0, r0)) (hs1 : tokO r0 = some (u1, r1)) (hs2 : tokO r1 = some (u2, r2)) (hu0 : u0.length ≤ 1000) (hu1 : u1.length ≤ 1000) (hu2 : u2.length ≤ 1000) (hn0 : u0 ≠ []) (hn1 : u1 ≠ []) (hn2 : u2 ≠ [])
    (hm : m (Str.ofString "lexer") = some (.ref A.lx)) (F : Fr h₀ L s.heap m) (N : News h₀ L s.heap (lexL w.params mg A 1 tl 0 tp n2 #[] n3 ++ news))
    (next : ∀ D t0 t1 t2 ln tl p tp n2 h tk, Fr h₀ L h (fun y => if y = Str.ofString "first" then some (.ref D) else m y) → News h₀ L h ((D, listOf #[.str ⟨u0.toArray⟩ t0, .str ⟨u1.toArray⟩ t1, .str ⟨u2.toArray⟩ t2] 0) :: (lexL w.params mg A ln tl p tp n2 #[] n3 ++ news)) → text.cps.toList.drop p = r2 → ln + nl r2 = C → p ≤ text.cps.size → (∀ q ∈ lexL w.params mg A ln tl p tp n2 #[] n3 ++ news, q.1 < D) → wpAny (model PW w) (lawA L a ccd) (execs (lawSt.drop 6) (lawE L a ccd)) Q E { s with heap := h, toks := tk }) :
    wpAny (model PW w) (lawA L a ccd) (execs (lawSt.drop 5) (lawE L a ccd)) Q E s := by
  refine cut5 (P := fun b => wpAny (model PW w) (lawA L a ccd) (execs b (lawE L a ccd)) Q E s) (by with_unfolding_all exact rfl) fun rest hrest => ?_
  rw [← hrest] at next
  simp only [lexL, lexD, standD, ent, List.cons_append, List.nil_append] at N
  have hp0 : 0 ≤ text.cps.size := Nat.zero_le _
  (repeat' (first | with_reducible ((show wpAny _ _ (call (Value.ref _) _) _ _ _); (k_dflt ( (with_reducible show wpAny _ _ (call (Value.ref 84) _) _ _ _); (rename LexOk _ _ => hokzz); (refine' SumT.use (sum_token _ _ hokzz _ _ _ _ _ _ ?zzj1 ?zzj2 _ _ _ ?zzj3 ?zzj4 ?zzj5) ?zzja ?zzjB ?zzjF ?zzjX ?zzjN ?zzjo ?zzjT ?zzjk ?zzjd ?zzju ?_; (case zzjF => k_asm); (case zzjN => exact (by k_asm)); (case zzja => exact rfl); (case zzjB => k_asm); (case zzjX => k_asm); (case zzjT => k_asm); (case zzjk => exact rfl); (case zzjd => decide +kernel); (case zzju => decide +kernel); (case zzjo => assumption); (case zzj1 => assumption); (case zzj2 => assumption); (case zzj4 => assumption); (case zzj3 => assumption); (case zzj5 => assumption)); intro vzz newzz hzz tkzz hPzz Fzz Nzz hfzz; clear hfzz; (obtain ⟨tzz, lnzz, tlzz, pzz, tpzz, n2zz, e1zz, e2zz, e3zz, e4zz, e5zz⟩ := hPzz); subst e1zz; subst e2zz; subst e3zz; (have e6zz := e5zz (by assumption)); (simp only [lexL, lexD, standD, ent, List.cons_append, List.nil_append] at Nzz); (try k_sweep)))) | with_reducible ((show wpAny _ _ (call (Value.ref _) _) _ _ _); (k_dflt ( (with_reducible show wpAny _ _ (call (Value.ref 317) _) _ _ _); (refine' SumT.use (sum_lexer _ _) ?zzja ?zzjB ?zzjF ?zzjX ?zzjN ?zzjo ?zzjT ?zzjk ?zzjd ?zzju ?_; (case zzjF => k_asm); (case zzjN => exact (by k_asm)); (case zzja => exact rfl); (case zzjB => k_asm); (case zzjX => k_asm); (case zzjT => k_asm); (case zzjk => exact rfl); (case zzjd => decide +kernel); (case zzju => decide +kernel); (case zzjo => assumption)); intro vzz newzz hzz tkzz hPzz Fzz Nzz hfzz; (obtain ⟨Azz, tlzz, tpzz, n2zz, n3zz, ptzz, e1zz, hokzz, hlczz, e2zz⟩ := hPzz); subst e1zz; subst e2zz))) | walk_at "st"))
  exact next _ _ _ _ _ _ _ _ _ _ _ (by k_asm) (by k_asm) rfl (by assumption) (by assumption) (of_allLt (l := lexL w.params mg A _ _ _ _ _ _ _ ++ news) (by assumption))
end
section -- L6
theorem fillL6 : PySem.Challenge.rw_uq0027_01 = PySem.Challenge.rw_uq0027_01 ∧ KK = KK := by
  k_fill
  exact ⟨rfl, rfl⟩
variable {w : World} {mean : ExcName → Option Value} {mg mb : Str → Option Value} {A₀ : Around} {base h₀ : Heap} {L a : Addr} {ccd : Value} {m : Str → Option Value} {s : Shared} {Q : Flow → Shared → Prop} {E : Value → Shared → Prop}
local macro_rules | `(tactic| walk_at "eval Name") => `(tactic| walk_at "m4")
local macro_rules | `(tactic| walk_at "eval Name") => `(tactic| walk_at "m3")
local macro_rules | `(tactic| walk_at "pyIter ref") => `(tactic| (k_here; (with_reducible refine comp_hold ?_)))

/-- the places of a ledger, apart -/
noncomputable def ND (l : List (Addr × Obj)) : Prop := (l.map (·.1)).Nodup
theorem ND.off {pre news : List (Addr × Obj)} (h : ND (pre ++ news)) : OwnOff news (pre.map (·.1)) := by
  unfold ND at h
  rw [List.map_append, List.nodup_append] at h
  intro p hp b hb e
  exact h.2.2 b hb p.1 (List.mem_map_of_mem (f := (·.1)) hp) e.symm
theorem ND.same {l l' : List (Addr × Obj)} (h : ND l) (e : l'.map (·.1) = l.map (·.1)) : ND l' := by unfold ND at h ⊢; rw [e]; exact h
theorem ND.perm {l l' : List (Addr × Obj)} (h : ND l) (e : l.Perm l') : ND l' := (List.Perm.nodup_iff (List.Perm.map Prod.fst e)).mp h
theorem ND.cons {l : List (Addr × Obj)} {D : Addr} {o : Obj} (h : ND l) (hD : ∀ p ∈ l, p.1 ≠ D) : ND ((D, o) :: l) := by
  unfold ND at h ⊢
  rw [List.map_cons, List.nodup_cons]
  refine ⟨fun hm => ?_, h⟩
  obtain ⟨p, hp, e⟩ := List.mem_map.mp hm
  exact hD p hp e
theorem ND.right {a b : List (Addr × Obj)} (h : ND (a ++ b)) : ND b := by
  unfold ND at h ⊢
  rw [List.map_append, List.nodup_append] at h
  exact h.2.1
theorem ND.tail {a : Addr × Obj} {b : List (Addr × Obj)} (h : ND (a :: b)) : ND b := ND.right (a := [a]) h
theorem ND.sub {l l' : List (Addr × Obj)} (h : ND l) (e : l'.Sublist l) : ND l' := List.Sublist.nodup (List.Sublist.map Prod.fst e) h
theorem mid_perm {a : Addr × Obj} {b c : List (Addr × Obj)} : (a :: (b ++ c)).Perm (b ++ a :: c) := List.perm_middle.symm
noncomputable def wordN : Str := Str.ofString "word"
theorem setW {m₀ : Str → Option Value} {v v' : Option Value} : (fun y => if y = wordN then v else if y = wordN then v' else m₀ y) = fun y => if y = wordN then v else m₀ y := by
  funext y; by_cases h : y = wordN <;> simp [h]
theorem eq_setW (m : Str → Option Value) : (fun y => if y = wordN then m wordN else m y) = m := by
  funext y; by_cases h : y = wordN <;> simp [h]
noncomputable def pushJ (P : Params) (mg : Str → Option Value) (A : LexA) (ln : Int) (tl : Tok) (p : Nat) (tp : Tok) (n2 : Nat) (its : List Value) (rest : List (Addr × Obj)) (m₀ : Str → Option Value) (i : Nat) (m₁ : Str → Option Value) (news₁ : List (Addr × Obj)) : Prop :=
  ∃ v n3, m₁ = (fun y => if y = wordN then v else m₀ y) ∧ news₁ = lexL P mg A ln tl p tp n2 (its.take i).toArray n3 ++ rest
theorem push_end {P : Params} {mg : Str → Option Value} {A : LexA} {ln : Int} {tl : Tok} {p : Nat} {tp : Tok} {n2 : Nat} {its : List Value} {rest : List (Addr × Obj)} {m₀ : Str → Option Value} {i : Nat} {v : Value} {vw : Option Value} {I : Addr} {oI : Obj} {h h' : Heap} {tk tk' n3 n3' : Nat} (hv : its.toArray[i]? = some v)
    (hI : ∀ q ∈ lexL P mg A ln tl p tp n2 (its.take i).toArray n3' ++ rest, q.1 ≠ I) (F : Fr h₀ L h' (fun y => if y = wordN then vw else m₀ y)) (N : News h₀ L h' (lexL P mg A ln tl p tp n2 ((its.take i).toArray.push v) n3 ++ ((I, oI) :: rest))) :
    InvPostL h₀ L (pushJ P mg A ln tl p tp n2 its rest m₀ (i + 1)) I oI { s with heap := h, toks := tk } Q .next { s with heap := h', toks := tk' } := by
  have e : ((its.take i).toArray.push v) = (its.take (i + 1)).toArray := by
    have hv' : its[i]? = some v := by simpa using hv
    rw [List.take_add_one, hv']
    simp
  rw [e] at N
  refine ⟨h', tk', _, lexL P mg A ln tl p tp n2 (its.take (i + 1)).toArray n3 ++ rest, rfl, F, nsub N fun q hq => (mid_perm.mem_iff).mp hq, fun q hq => ?_, vw, n3, rfl, rfl⟩
  rcases List.mem_append.mp hq with h1 | h1
  · have h2 : q.1 ∈ (lexL P mg A ln tl p tp n2 (its.take (i + 1)).toArray n3).map (·.1) := List.mem_map_of_mem (f := (·.1)) h1
    have h3 : q.1 ∈ (lexL P mg A ln tl p tp n2 (its.take i).toArray n3').map (·.1) := h2
    obtain ⟨r, hr, e2⟩ := List.mem_map.mp h3
    rw [← e2]
    exact hI r (List.mem_append_left _ hr)
  · exact hI q (List.mem_append_right _ h1)
set_option maxHeartbeats 4000000 in
theorem seg6 (hE : PassesOwn (model PW w) (lawA L a ccd) (lawE L a ccd) E) (B : Below A₀ base [] h₀) (X : (KK w.params).In h₀) (T : Top topProg LX mean mg mb h₀) (text : Str) (A : LexA) (ok : LexOk A text) (ln : Int) (tl : Tok) (p : Nat) (tp : Tok) (n2 n3 : Nat) (fl : Addr) (its : List Value) (hits : its.length ≤ 10) (k : Nat) (news : List (Addr × Obj)) (nd : ND (lexL w.params mg A ln tl p tp n2 #[] n3 ++ ((fl, listOf its.toArray k) :: news)))
    (hm : m (Str.ofString "lexer") = some (.ref A.lx)) (hf : m (Str.ofString "first") = some (.ref fl)) (F : Fr h₀ L s.heap m) (N : News h₀ L s.heap (lexL w.params mg A ln tl p tp n2 #[] n3 ++ ((fl, listOf its.toArray k) :: news)))
    (next : ∀ v n3 h tk, Fr h₀ L h (fun y => if y = wordN then v else m y) → News h₀ L h (lexL w.params mg A ln tl p tp n2 its.toArray n3 ++ ((fl, listOf its.toArray k) :: news)) → wpAny (model PW w) (lawA L a ccd) (execs (lawSt.drop 7) (lawE L a ccd)) Q E { s with heap := h, toks := tk }) :
    wpAny (model PW w) (lawA L a ccd) (execs (lawSt.drop 6) (lawE L a ccd)) Q E s := by
  refine cut6 (P := fun b => wpAny (model PW w) (lawA L a ccd) (execs b (lawE L a ccd)) Q E s) (by with_unfolding_all exact rfl) fun rest hrest => ?_
  rw [← hrest] at next
  (repeat' (first | with_reducible ((show wpAny _ _ (exec (Stmt.For _ _ _ _ _) _) _ _ _); ((with_reducible show wpAny _ _ (exec (Stmt.For (Expr.Name _ _) _ _ [] _) _) _ _ _); (with_reducible rename Fr _ _ _ _ => Fzz); (with_unfolding_all refine for_F Fzz (by rfl) (by rfl) ?_ (by intro _; rfl) (by assumption)))) | with_reducible ((show wpAny _ _ (call (Value.ref _) _) _ _ _); (k_dflt ( (with_reducible show wpAny _ _ (call (Value.ref 91) _) _ _ _); (rename LexOk _ _ => hokzz); (refine' SumT.use (sum_push _ _ hokzz _ _ _ _ _ _ _ _ ?zzj1) ?zzja ?zzjB ?zzjF ?zzjX ?zzjN ?zzjo ?zzjT ?zzjk ?zzjd ?zzju ?_; (case zzjF => k_asm); (case zzja => exact rfl); (case zzjB => k_asm); (case zzjX => k_asm); (case zzjT => k_asm); (case zzjk => exact rfl); (case zzjd => decide +kernel); (case zzju => decide +kernel); (case zzjN => exact (by k_asm)); (case zzjo => assumption); (case zzj1 => assumption)); intro vzz newzz hzz tkzz hPzz Fzz Nzz hfzz; clear hfzz; (obtain ⟨e1zz, n3zz, e2zz⟩ := hPzz); subst e1zz; subst e2zz))) | walk_at "st"))
  unfold CompHold
  k_dflt (refine' iter_ledL (pushJ w.params mg A ln tl p tp n2 its ((fl, listOf its.toArray k) :: news) m) ?jh ?jF ?jN ⟨_, n3, ?j0, rfl⟩ ?jl ⟨?jturn, ?jdone⟩)
  case jh => exact rfl
  case jF => k_asm
  case jN => k_asm
  case j0 => exact (eq_setW m).symm
  case jl => 
    rintro i m₁ news₁ ⟨v, n3, rfl, rfl⟩
    exact List.mem_append_right _ (.head _)
  case jdone =>
    rintro m₁ news₁ h tk ⟨v, n3', rfl, rfl⟩ F1 N1
    rw [show its.toArray.size = its.length from rfl, List.take_length] at N1
    exact next v n3' h tk F1 N1
  case jturn =>
    rintro i v m₁ news₁ h tk I oI hi hv ⟨v', n3', rfl, rfl⟩ hI hsI F1 N1
    have F2 : Fr h₀ L h (fun y => if y = wordN then some v else m y) := by rw [← setW (v' := v')]; exact F1
    clear F1
    have nd2 : ND (lexL w.params mg A ln tl p tp n2 (its.take i).toArray n3' ++ ((I, oI) :: (fl, listOf its.toArray k) :: news)) := ND.perm (ND.cons (l := lexL w.params mg A ln tl p tp n2 (its.take i).toArray n3' ++ ((fl, listOf its.toArray k) :: news)) (ND.same nd rfl) hI) mid_perm
    have N2 : News h₀ L h (lexL w.params mg A ln tl p tp n2 (its.take i).toArray n3' ++ ((I, oI) :: (fl, listOf its.toArray k) :: news)) := nsub N1 fun q hq => (mid_perm.mem_iff).mpr hq
    have ho2 := nd2.off
    have hz : (its.take i).toArray.size ≤ sizeLine := by rw [sizeLine_eq, List.size_toArray, List.length_take]; omega
    clear N1
    (repeat' (first | with_reducible ((show wpAny _ _ (exec (Stmt.For _ _ _ _ _) _) _ _ _); ((with_reducible show wpAny _ _ (exec (Stmt.For (Expr.Name _ _) _ _ [] _) _) _ _ _); (with_reducible rename Fr _ _ _ _ => Fzz); (with_unfolding_all refine for_F Fzz (by rfl) (by rfl) ?_ (by intro _; rfl) (by assumption)))) | with_reducible ((show wpAny _ _ (call (Value.ref _) _) _ _ _); (k_dflt ( (with_reducible show wpAny _ _ (call (Value.ref 91) _) _ _ _); (rename LexOk _ _ => hokzz); (refine' SumT.use (sum_push _ _ hokzz _ _ _ _ _ _ _ _ ?zzj1) ?zzja ?zzjB ?zzjF ?zzjX ?zzjN ?zzjo ?zzjT ?zzjk ?zzjd ?zzju ?_; (case zzjF => k_asm); (case zzja => exact rfl); (case zzjB => k_asm); (case zzjX => k_asm); (case zzjT => k_asm); (case zzjk => exact rfl); (case zzjd => decide +kernel); (case zzju => decide +kernel); (case zzjN => exact (by k_asm)); (case zzjo => assumption); (case zzj1 => assumption)); intro vzz newzz hzz tkzz hPzz Fzz Nzz hfzz; clear hfzz; (obtain ⟨e1zz, n3zz, e2zz⟩ := hPzz); subst e1zz; subst e2zz))) | walk_at "st"))
    exact push_end hv hI (by k_asm) (by k_asm)
end
section -- L7
theorem fillL7 : PySem.Challenge.rw_uq0027_01 = PySem.Challenge.rw_uq0027_01 ∧ KK = KK := by
  k_fill
  exact ⟨rfl, rfl⟩
variable {w : World} {mean : ExcName → Option Value} {mg mb : Str → Option Value} {A₀ : Around} {base h₀ : Heap} {L a : Addr} {ccd : Value} {m : Str → Option Value} {s : Shared} {Q : Flow → Shared → Prop} {E : Value → Shared → Prop}
local macro_rules | `(tactic| walk_at "eval Name") => `(tactic| walk_at "m4")
local macro_rules | `(tactic| walk_at "eval Name") => `(tactic| walk_at "m3")

theorem hdr_fresh {P : Params} {hx hd hl : Addr} {k1 : Tok} {n : Nat} {news : List (Addr × Obj)} (nd : ND news) (o1 : @LT.lt Nat _ hd hx) (o2 : @LT.lt Nat _ hx hl)
    (hf : ∀ p ∈ hdrL P hx hd hl k1 #[] n, p.1 ∈ ([] : List (Addr × Obj)).map (·.1) ∨ ∀ q ∈ [] ++ news, q.1 < p.1) : ND (hdrL P hx hd hl k1 #[] n ++ news) := by
  have key : ∀ p ∈ hdrL P hx hd hl k1 #[] n, ∀ q ∈ news, @LT.lt Nat _ q.1 p.1 := fun p hp q hq => (hf p hp).elim (fun h => nomatch h) fun h => h q hq
  refine ND.cons (l := (hx, _) :: (hd, _) :: news) (ND.cons (l := (hd, _) :: news) (ND.cons (l := news) nd fun q hq => ?_) fun q hq => ?_) fun q hq => ?_
  · exact Nat.ne_of_lt (key (hd, _) (.tail _ (.tail _ (.head _))) q hq)
  · rcases List.mem_cons.mp hq with e | hq
    · rw [e]; exact Nat.ne_of_lt o1
    · exact Nat.ne_of_lt (key (hx, _) (.tail _ (.head _)) q hq)
  · rcases List.mem_cons.mp hq with e | hq
    · rw [e]; exact Nat.ne_of_lt o2
    · rcases List.mem_cons.mp hq with e | hq
      · rw [e]; exact Nat.ne_of_lt (Nat.lt_trans o1 o2)
      · exact Nat.ne_of_lt (key (hl, _) (.head _) q hq)
set_option maxHeartbeats 4000000 in
theorem seg7 (B : Below A₀ base [] h₀) (X : (KK w.params).In h₀) (T : Top topProg LX mean mg mb h₀) (news : List (Addr × Obj)) (nd : ND news)
    (F : Fr h₀ L s.heap m) (N : News h₀ L s.heap news)
    (next : ∀ hx hd hl k1 n h tk, @LT.lt Nat _ hd hx → @LT.lt Nat _ hx hl → Fr h₀ L h (fun y => if y = Str.ofString "table" then some (.ref hx) else m y) → News h₀ L h (hdrL w.params hx hd hl k1 #[] n ++ news) → ND (hdrL w.params hx hd hl k1 #[] n ++ news) → wpAny (model PW w) (lawA L a ccd) (execs (lawSt.drop 8) (lawE L a ccd)) Q E { s with heap := h, toks := tk }) :
    wpAny (model PW w) (lawA L a ccd) (execs (lawSt.drop 7) (lawE L a ccd)) Q E s := by
  refine cut7 (P := fun b => wpAny (model PW w) (lawA L a ccd) (execs b (lawE L a ccd)) Q E s) (by with_unfolding_all exact rfl) fun rest hrest => ?_
  rw [← hrest] at next
  (repeat' (first | with_reducible ((show wpAny _ _ (call (Value.ref _) _) _ _ _); (k_dflt ( (with_reducible show wpAny _ _ (call (Value.ref 306) _) _ _ _); (refine' SumT.use sum_headers ?zzja ?zzjB ?zzjF ?zzjX ?zzjN ?zzjo ?zzjT ?zzjk ?zzjd ?zzju ?_; (case zzjF => k_asm); (case zzja => exact rfl); (case zzjB => k_asm); (case zzjX => k_asm); (case zzjT => k_asm); (case zzjk => exact rfl); (case zzjd => decide +kernel); (case zzju => decide +kernel); (case zzjN => exact (by k_asm)); (case zzjo => exact off_nil)); intro vzz newzz hzz tkzz hPzz Fzz Nzz hfzz; (obtain ⟨hxzz, hdzz, hlzz, khzz, nhzz, e1zz, o1zz, o2zz, e2zz⟩ := hPzz); subst e1zz; subst e2zz))) | walk_at "st"))
  rename @LT.lt Nat _ _ _ => o2
  refine next _ _ _ _ _ _ _ ?_ o2 (by k_asm) (by k_asm) (hdr_fresh nd ?_ o2 (by assumption)) <;> assumption
end
section -- L8
theorem fillL8 : PySem.Challenge.rw_uq0027_01 = PySem.Challenge.rw_uq0027_01 ∧ KK = KK := by
  k_fill
  exact ⟨rfl, rfl⟩
variable {w : World} {mean : ExcName → Option Value} {mg mb : Str → Option Value} {A₀ : Around} {base h₀ : Heap} {L a : Addr} {ccd : Value} {m : Str → Option Value} {s : Shared} {Q : Flow → Shared → Prop} {E : Value → Shared → Prop}

/-- the next word: a pushed one, or one of the text -/
noncomputable def nextTok (q : List (List Nat)) (r : List Nat) : Option (List Nat × List (List Nat) × List Nat) := match q with
  | u :: q' => some (u, q', r)
  | [] => (tokO r).map fun x => (x.1, [], x.2)
noncomputable def sOf (u : List Nat) : Str := ⟨u.toArray⟩
/-- the lexer's state: the pushed words, the rest of the text -/
noncomputable def LexS (text : Str) (C : Int) (q : List (List Nat)) (r : List Nat) (ln : Int) (p : Nat) (ps : List Value) : Prop :=
  text.cps.toList.drop p = r ∧ ln + nl r = C ∧ p ≤ text.cps.size ∧ StrsAre ps (q.map sOf)
structure GetOk (text : Str) (C : Int) (q : List (List Nat)) (r : List Nat) (ln : Int) (p : Nat) (ps : List Value) (y : List Nat × List (List Nat) × List Nat) : Prop where
  S : LexS text C q r ln p ps
  hx : 2 ≤ text.cps.size
  n : nextTok q r = some y
  u : y.1.length ≤ 1000
  ne : y.1 ≠ []
  ql : q.length ≤ 10
theorem sum_get (A : LexA) (text : Str) (ok : LexOk A text) (C : Int) (q : List (List Nat)) (r : List Nat) (ln : Int) (tl : Tok) (p : Nat) (tp : Tok) (n2 : Nat) (ps : List Value) (n3 : Nat) (y : List Nat × List (List Nat) × List Nat) (g : GetOk text C q r ln p ps y) :
    SumT w mean mg mb (.ref 84) [.ref A.lx] [] 4 60 (lexL w.params mg A ln tl p tp n2 ps.toArray n3) (fun v new => ∃ t, v = .str (sOf y.1) t ∧ ∃ ln tl p tp n2 ps n3, new = lexL w.params mg A ln tl p tp n2 (List.toArray ps) n3 ∧ LexS text C y.2.1 y.2.2 ln p ps) := by
  intro news dp un gd cn cs a ccd cl outer A₀ base h₀ L m s Q E B F X N hoff T hk hdp hun hret
  obtain ⟨⟨e1, e2, e3, e4⟩, hx, hn, hu, hne, hql⟩ := g
  cases q with
  | cons u q' =>
    cases e4 with
    | cons _ t e4 =>
      cases hn
      refine sum_pop A text ok ln tl p tp n2 (.str (sOf u) t) _ n3 (by have := e4.length; rw [List.length_map] at this; simp only [List.length_cons] at hql; omega) news dp un gd cn cs a ccd cl outer A₀ base h₀ L m s Q E B F X N hoff T hk (by omega) (by omega) ?_
      rintro v new h' tk ⟨rfl, n, rfl⟩ F' N' hf'
      exact hret _ _ h' tk ⟨t, rfl, ln, tl, p, tp, n2, _, n, rfl, e1, e2, e3, e4⟩ F' N' hf'
  | nil =>
    cases e4
    obtain ⟨⟨u, r'⟩, ht, rfl⟩ := Option.map_eq_some_iff.mp hn
    subst e1
    refine sum_token A text ok ln tl p tp n2 n3 e3 hx C u r' e2 ht hu news dp un gd cn cs a ccd cl outer A₀ base h₀ L m s Q E B F X N hoff T hk hdp hun ?_
    rintro v new h' tk ⟨t, ln', tl', p', tp', n2', rfl, rfl, f1, f2, f3⟩ F' N' hf'
    exact hret _ _ h' tk ⟨t, rfl, ln', tl', p', tp', n2', [], n3, rfl, f1, f2, f3 hne, .nil⟩ F' N' hf'
theorem News.nil {h₀ h : Heap} {L : Addr} {a : List (Addr × Obj)} (N : News h₀ L h ([] ++ a)) : News h₀ L h a := N
theorem News.toNil {h₀ h : Heap} {L : Addr} {a : List (Addr × Obj)} (N : News h₀ L h a) : News h₀ L h ([] ++ a) := N
theorem News.swap {h₀ h : Heap} {L : Addr} {a b c : List (Addr × Obj)} (N : News h₀ L h (a ++ (b ++ c))) : News h₀ L h (b ++ (a ++ c)) := nsub N fun q hq => by
  simp only [List.mem_append] at hq ⊢
  rcases hq with h | h | h
  · exact .inr (.inl h)
  · exact .inl h
  · exact .inr (.inr h)
theorem swap_perm {a b c : List (Addr × Obj)} : (a ++ (b ++ c)).Perm (b ++ (a ++ c)) := by
  rw [← List.append_assoc, ← List.append_assoc]
  exact List.Perm.append_right c List.perm_append_comm
local macro_rules | `(tactic| walk_at "eval Name") => `(tactic| walk_at "m4")
local macro_rules | `(tactic| walk_at "eval Name") => `(tactic| walk_at "m3")
local macro_rules | `(tactic| walk_at "call ref") => `(tactic| (k_here; (with_reducible show wpAny _ _ (call (Value.ref 303) _) _ _ _); (with_reducible refine comp_hold ?_)))
local macro_rules | `(tactic| walk_at "pyIter ref") => `(tactic| (k_here; (with_reducible refine comp_hold ?_)))

/-- what the loop over the words leaves -/
noncomputable def hdrJ (P : Params) (mg : Str → Option Value) (A : LexA) (text : Str) (C : Int) (st : Nat → List (List Nat) × List Nat) (hx hd hl : Addr) (k1 : Tok) (ps : List (Str × Str)) (rest : List (Addr × Obj)) (m₀ : Str → Option Value) (i : Nat) (m₁ : Str → Option Value) (news₁ : List (Addr × Obj)) : Prop :=
  ∃ v ln tl p tp n2 qs n3 its n tups, m₁ = (fun y => if y = kN then v else m₀ y) ∧ news₁ = lexL P mg A ln tl p tp n2 (List.toArray qs) n3 ++ (hdrL P hx hd hl k1 its n ++ (rest ++ tups)) ∧ LexS text C (st i).1 (st i).2 ln p qs ∧ TupsAt tups its.toList (ps.take i) ∧ ND news₁
theorem mid_perm2 {a : Addr × Obj} {b c d : List (Addr × Obj)} : (a :: (b ++ (c ++ d))).Perm (b ++ (c ++ a :: d)) := mid_perm.trans (List.Perm.append_left b mid_perm)
theorem getD_mem {ws : List Str} {i : Nat} (h : i < ws.length) : ws.getD i PySem.Str.empty ∈ ws := by
  rw [List.getD_eq_getElem?_getD, List.getElem?_eq_getElem h]
  exact List.getElem_mem h
noncomputable def strK (i : Nat) : Str := Str.ofString (toString (i : Int))
theorem strK_all : ∀ i < 20, (Str.ofString (toString ((i : Nat) : Int))).cps.toList.all okC = true ∧ (Str.ofString (toString ((i : Nat) : Int))).length ≤ 8 := by decide +kernel
theorem strK_ok {i : Nat} (h : i < 20) : (Str.ofString (toString ((i : Nat) : Int))).cps.toList.all okC = true ∧ (Str.ofString (toString ((i : Nat) : Int))).length ≤ 8 := strK_all i h
theorem setK {m₀ : Str → Option Value} {v v' : Option Value} : (fun y => if y = kN then v else if y = kN then v' else m₀ y) = fun y => if y = kN then v else m₀ y := by
  funext y; by_cases h : y = kN <;> simp [h]
theorem eq_setK (m : Str → Option Value) : (fun y => if y = kN then m kN else m y) = m := by
  funext y; by_cases h : y = kN <;> simp [h]
theorem perm3 {a b c t : List (Addr × Obj)} {x y : Addr × Obj} : (x :: (a ++ (b ++ y :: (c ++ t)))).Perm (y :: (a ++ (b ++ (c ++ x :: t)))) :=
  ((List.Perm.cons x mid_perm2.symm).trans (List.Perm.swap y x _)).trans (List.Perm.cons y (mid_perm2.trans (List.Perm.append_left a (List.Perm.append_left b mid_perm))))
theorem hdr_end {P : Params} {mg : Str → Option Value} {A : LexA} {text : Str} {C : Int} {st : Nat → List (List Nat) × List Nat} {hx hd hl : Addr} {k1 : Tok} {ps : List (Str × Str)} {base : List (Addr × Obj)} {m₀ : Str → Option Value} {i : Nat} {vk : Option Value} {I D : Addr} {oI : Obj} {h h' : Heap} {tk tk' : Nat} {x y : Str} {tx ty : Tok}
    {ln ln0 : Int} {tl tl0 : Tok} {p p0 : Nat} {tp tp0 : Tok} {n2 n20 : Nat} {qs qs0 : List Value} {n3 n30 : Nat} {its : Array Value} {n n' : Nat} {tups : List (Addr × Obj)}
    (hp : ps[i]? = some (x, y)) (htup : TupsAt tups its.toList (ps.take i)) (nd : ND (lexL P mg A ln0 tl0 p0 tp0 n20 qs0.toArray n30 ++ (hdrL P hx hd hl k1 its n ++ ((I, oI) :: (base ++ tups)))))
    (hS : LexS text C (st (i + 1)).1 (st (i + 1)).2 ln p qs) (F : Fr h₀ L h' (fun z => if z = kN then vk else m₀ z))
    (N : News h₀ L h' (((D, tup2 x y tx ty) :: hdrL P hx hd hl k1 (its.push (.ref D)) n') ++ (lexL P mg A ln tl p tp n2 qs.toArray n3 ++ ((I, oI) :: (base ++ tups)))))
    (hf : ∀ q ∈ (D, tup2 x y tx ty) :: hdrL P hx hd hl k1 (its.push (.ref D)) n', q.1 ∈ (hdrL P hx hd hl k1 its n).map (·.1) ∨ ∀ r ∈ hdrL P hx hd hl k1 its n ++ (lexL P mg A ln tl p tp n2 qs.toArray n3 ++ ((I, oI) :: (base ++ tups))), r.1 < q.1) :
    InvPostL h₀ L (hdrJ P mg A text C st hx hd hl k1 ps base m₀ (i + 1)) I oI { s with heap := h, toks := tk } Q .next { s with heap := h', toks := tk' } := by
  have hD : ∀ r ∈ lexL P mg A ln tl p tp n2 qs.toArray n3 ++ (hdrL P hx hd hl k1 (its.push (.ref D)) n' ++ ((I, oI) :: (base ++ tups))), r.1 ≠ D := by
    rcases hf _ (.head _) with hm | hm
    · exfalso
      have e0 := (N _ (.head _)).1
      simp only [hdrL, List.map_cons, List.map_nil, List.mem_cons, List.not_mem_nil, or_false] at hm
      rcases hm with e | e | e
      · have e1 := (N _ (.tail _ (.head _))).1
        dsimp only at e e0 e1
        rw [e] at e0; rw [e0] at e1; exact absurd (congrArg Obj.cls (Option.some.inj e1)) (by simp [W.listOf, dictOf, instObj])
      · have e1 := (N _ (.tail _ (.tail _ (.head _)))).1
        dsimp only at e e0 e1
        rw [e] at e0; rw [e0] at e1; exact absurd (congrArg Obj.cls (Option.some.inj e1)) (by simp [W.listOf, dictOf, instObj])
      · have e1 := (N _ (.tail _ (.tail _ (.tail _ (.head _))))).1
        dsimp only at e e0 e1
        rw [e] at e0; rw [e0] at e1; exact absurd (congrArg Obj.cls (Option.some.inj e1)) (by simp [W.listOf, dictOf, instObj])
    · intro r hr
      rcases List.mem_append.mp hr with h1 | h1
      · exact Nat.ne_of_lt (hm r (List.mem_append_right _ (List.mem_append_left _ h1)))
      · rcases List.mem_append.mp h1 with h1 | h1
        · have h2 : r.1 ∈ (hdrL P hx hd hl k1 its n).map (·.1) := List.mem_map_of_mem (f := (·.1)) h1
          obtain ⟨r', hr', e⟩ := List.mem_map.mp h2
          rw [← e]
          exact Nat.ne_of_lt (hm r' (List.mem_append_left _ hr'))
        · exact Nat.ne_of_lt (hm r (List.mem_append_right _ (List.mem_append_right _ h1)))
  have nd1 : ND (lexL P mg A ln tl p tp n2 qs.toArray n3 ++ (hdrL P hx hd hl k1 (its.push (.ref D)) n' ++ ((I, oI) :: (base ++ tups)))) := ND.same nd rfl
  have nd3 : ND ((I, oI) :: (lexL P mg A ln tl p tp n2 qs.toArray n3 ++ (hdrL P hx hd hl k1 (its.push (.ref D)) n' ++ (base ++ ((D, tup2 x y tx ty) :: tups))))) := ND.perm (ND.cons nd1 hD) perm3
  have N3 : News h₀ L h' ((I, oI) :: (lexL P mg A ln tl p tp n2 qs.toArray n3 ++ (hdrL P hx hd hl k1 (its.push (.ref D)) n' ++ (base ++ ((D, tup2 x y tx ty) :: tups))))) := nsub N fun q hq => by
    have h1 := perm3.mem_iff.mpr hq
    rcases List.mem_cons.mp h1 with h1 | h1
    · exact List.mem_append_left _ (h1 ▸ .head _)
    · rcases List.mem_append.mp h1 with h1 | h1
      · exact List.mem_append_right _ (List.mem_append_left _ h1)
      · rcases List.mem_append.mp h1 with h1 | h1
        · exact List.mem_append_left _ (.tail _ h1)
        · exact List.mem_append_right _ (List.mem_append_right _ h1)
  refine ⟨h', tk', _, _, rfl, F, N3, fun q hq e => ?_, vk, ln, tl, p, tp, n2, qs, n3, its.push (.ref D), n', (D, tup2 x y tx ty) :: tups, rfl, rfl, hS, ?_, nd3.tail⟩
  · have := (List.nodup_cons.mp nd3).1
    exact this (e ▸ List.mem_map_of_mem (f := (·.1)) hq)
  · rw [Array.toList_push, List.take_add_one, hp]
    exact (htup.mono fun q hq => .tail _ hq).append (TupsAt.one (.head _))
set_option maxHeartbeats 4000000 in
theorem seg8 (hE : PassesOwn (model PW w) (lawA L a ccd) (lawE L a ccd) E) (B : Below A₀ base [] h₀) (X : (KK w.params).In h₀) (T : Top topProg LX mean mg mb h₀) (text : Str) (htx : 2 ≤ text.cps.size) (A : LexA) (ok : LexOk A text) (C : Int) (st : Nat → List (List Nat) × List Nat) (raw : Nat → List Nat) (ws : List Str) (hws : ws.length ≤ 20) (ps : List (Str × Str)) (hps : ∀ i, i < ws.length → ps[i]? = some (ws.getD i PySem.Str.empty, strK i))
    (hst : ∀ i, i < ws.length → nextTok (st i).1 (st i).2 = some (raw i, st (i + 1))) (hraw : ∀ i, i < ws.length → (raw i).length ≤ 60 ∧ raw i ≠ [] ∧ (st i).1.length ≤ 10 ∧ (∀ x ∈ prepL (raw i), x.length ≤ 8) ∧ prepS (raw i) = ws.getD i PySem.Str.empty) (hok : ∀ x ∈ ws, x.cps.toList.all okC = true)
    (ln : Int) (tl : Tok) (p : Nat) (tp : Tok) (n2 : Nat) (qs : List Value) (n3 : Nat) (S0 : LexS text C (st 0).1 (st 0).2 ln p qs) (hx hd hl : Addr) (o1 : @LT.lt Nat _ hd hx) (o2 : @LT.lt Nat _ hx hl) (k1 : Tok) (n : Nat) (wl : Addr) (us : List Value) (ep : Nat) (hus : StrsAre us ws) (oW : Obj) (dW : oW.data = .cell (some (.ref wl))) (nw : List (Addr × Obj))
    (nd : ND (lexL w.params mg A ln tl p tp n2 qs.toArray n3 ++ (hdrL w.params hx hd hl k1 #[] n ++ ((wl, listOf us.toArray ep) :: (L + 1, oW) :: nw))))
    (hm : m (Str.ofString "lexer") = some (.ref A.lx)) (hf : m (Str.ofString "table") = some (.ref hx)) (F : Fr h₀ L s.heap m) (N : News h₀ L s.heap (lexL w.params mg A ln tl p tp n2 qs.toArray n3 ++ (hdrL w.params hx hd hl k1 #[] n ++ ((wl, listOf us.toArray ep) :: (L + 1, oW) :: nw))))
    (next : ∀ m₁ news₁ h tk, hdrJ w.params mg A text C st hx hd hl k1 ps ((wl, listOf us.toArray ep) :: (L + 1, oW) :: nw) m ws.length m₁ news₁ → Fr h₀ L h m₁ → News h₀ L h news₁ → wpAny (model PW w) (lawA L a ccd) (execs (lawSt.drop 9) (lawE L a ccd)) Q E { s with heap := h, toks := tk }) :
    wpAny (model PW w) (lawA L a ccd) (execs (lawSt.drop 8) (lawE L a ccd)) Q E s := by
  refine cut8 (P := fun b => wpAny (model PW w) (lawA L a ccd) (execs b (lawE L a ccd)) Q E s) (by with_unfolding_all exact rfl) fun rest hrest => ?_
  rw [← hrest] at next
  (repeat' (first | with_reducible ((show wpAny _ _ (exec (Stmt.For _ _ _ _ _) _) _ _ _); ((with_reducible show wpAny _ _ (exec (Stmt.For (Expr.Name _ _) _ _ [] _) _) _ _ _); (with_reducible rename Fr _ _ _ _ => Fzz); (with_unfolding_all refine for_F Fzz (by rfl) (by rfl) ?_ (by intro _; rfl) (by assumption)))) | with_reducible ((show wpAny _ _ (call (Value.builtin "len") _) _ _ _); ((with_reducible show wpAny _ _ (call (Value.builtin "len") [Value.ref _]) _ _ _); k_dflt (refine' len_strsA ?zzk1 ?zzk2 ?zzk3 ?_; (case zzk1 => exact News.isList (by k_asm) (by k_mem)); (case zzk2 => assumption); (case zzk3 => omega)))) | with_reducible ((show wpAny _ _ (call (Value.ref _) _) _ _ _); (k_dflt ( (with_reducible show wpAny _ _ (call (Value.ref 303) _) _ _ _); (refine' SumT.use (sum_add _ _ _ ?zzj1 ?zzj2 _ _ _ _ _ _ _ ?zzj3 ?zzj4 ?zzj5 ?zzj6) ?zzja ?zzjB ?zzjF ?zzjX ?zzjN ?zzjo ?zzjT ?zzjk ?zzjd ?zzju ?_; (case zzjF => k_asm); (case zzja => exact rfl); (case zzjB => k_asm); (case zzjX => k_asm); (case zzjT => k_asm); (case zzjk => exact rfl); (case zzjd => decide +kernel); (case zzju => decide +kernel); (case zzjN => exact News.swap (by k_asm)); (case zzjo => (rename ND _ => nd9; exact ND.off (ND.same (ND.perm nd9 swap_perm) rfl))); (case zzj1 => assumption); (case zzj2 => assumption); (case zzj3 => assumption); (case zzj4 => assumption); (case zzj5 => assumption); (case zzj6 => assumption)); intro vzz newzz hzz tkzz hPzz Fzz Nzz hfzz; (obtain ⟨e1zz, Dzz, tazz, tbzz, nzz, e2zz⟩ := hPzz); subst e1zz; subst e2zz))) | with_reducible ((show wpAny _ _ (call (Value.ref _) _) _ _ _); (k_dflt ( (with_reducible show wpAny _ _ (call (Value.ref 329) _) _ _ _); (refine' SumT.use (sum_prep _ _ ?zzj1 ?zzj2) ?zzja ?zzjB ?zzjF ?zzjX ?zzjN ?zzjo ?zzjT ?zzjk ?zzjd ?zzju ?_; (case zzjF => k_asm); (case zzja => exact rfl); (case zzjB => k_asm); (case zzjX => k_asm); (case zzjT => k_asm); (case zzjk => exact rfl); (case zzjd => decide +kernel); (case zzju => decide +kernel); (case zzjN => exact News.toNil (by k_asm)); (case zzjo => exact off_nil); (case zzj1 => assumption); (case zzj2 => assumption)); intro vzz newzz hzz tkzz hPzz Fzz Nzz hfzz; clear hfzz; (obtain ⟨e1zz, e2zz⟩ := hPzz); (obtain ⟨tzz, e1zz⟩ := e1zz); subst e1zz; subst e2zz; (replace Nzz := News.nil Nzz)))) | with_reducible ((show wpAny _ _ (call (Value.ref _) _) _ _ _); (k_dflt ( (with_reducible show wpAny _ _ (call (Value.ref 84) _) _ _ _); (rename LexOk _ _ => hokzz); (rename GetOk _ _ _ _ _ _ _ _ => hgzz); (refine' SumT.use (sum_get _ _ hokzz _ _ _ _ _ _ _ _ _ _ _ hgzz) ?zzja ?zzjB ?zzjF ?zzjX ?zzjN ?zzjo ?zzjT ?zzjk ?zzjd ?zzju ?_; (case zzjF => k_asm); (case zzja => exact rfl); (case zzjB => k_asm); (case zzjX => k_asm); (case zzjT => k_asm); (case zzjk => exact rfl); (case zzjd => decide +kernel); (case zzju => decide +kernel); (case zzjN => exact (by k_asm)); (case zzjo => (rename ND _ => nd9; exact ND.off nd9))); clear hgzz; intro vzz newzz hzz tkzz hPzz Fzz Nzz hfzz; clear hfzz; (obtain ⟨tzz, e1zz, lnzz, tlzz, pzz, tpzz, n2zz, pszz, n3zz, e2zz, hSzz⟩ := hPzz); subst e1zz; subst e2zz))) | walk_at "st"))
  unfold CompHold
  have hlen : ws.length = ws.length - 0 := rfl
  k_dflt (refine' iter_rng (n := ws.length) (hdrJ w.params mg A text C st hx hd hl k1 ps ((wl, listOf us.toArray ep) :: (L + 1, oW) :: nw) m) (by assumption) (small_one (by omega) (by omega) (by omega) (by omega)) ?jn ?jh ?jF ?jN ?j0 ⟨?jturn, ?jdone⟩)
  case jh => exact rfl
  case jF => k_asm
  case jN => k_asm
  case jn => rw [rangeSize_one]; split <;> omega
  case j0 => exact ⟨_, ln, tl, p, tp, n2, qs, n3, #[], n, [], (eq_setK m).symm, by rw [List.append_nil], S0, TupsAt.nil, nd⟩
  case jdone =>
    rintro m₁ news₁ h tk hJ F1 N1
    exact next m₁ news₁ h tk hJ F1 N1
  case jturn =>
    clear nd S0
    rintro i v m₁ news₁ h tk I oI hi ⟨t0, rfl⟩ ⟨v', ln, tl, p, tp, n2, qs, n3, its, n, tups, rfl, rfl, hS, htup, nd⟩ hI hsI F1 N1
    have F2 : Fr h₀ L h (fun y => if y = kN then some (.int (i : Int) t0) else m y) := by rw [← setK (v' := v')]; rw [Int.zero_add] at F1; exact F1
    clear F1
    obtain ⟨g1, g2, g3, g4, g5⟩ := hraw i hi
    have hg : GetOk text C (st i).1 (st i).2 ln p qs (raw i, st (i + 1)) := ⟨hS, htx, hst i hi, by show (raw i).length ≤ 1000; omega, g2, g3⟩
    have nd2 : ND (lexL w.params mg A ln tl p tp n2 qs.toArray n3 ++ (hdrL w.params hx hd hl k1 its n ++ ((I, oI) :: ((wl, listOf us.toArray ep) :: (L + 1, oW) :: nw ++ tups)))) := ND.perm (ND.cons nd hI) (mid_perm2)
    have N2 : News h₀ L h (lexL w.params mg A ln tl p tp n2 qs.toArray n3 ++ (hdrL w.params hx hd hl k1 its n ++ ((I, oI) :: ((wl, listOf us.toArray ep) :: (L + 1, oW) :: nw ++ tups)))) := nsub N1 fun q hq => (mid_perm2.mem_iff).mpr hq
    clear N1
    have hj1 : (sOf (raw i)).cps.size ≤ 60 := by show (raw i).toArray.size ≤ 60; rw [List.size_toArray]; exact g1
    have hj2 : ∀ a ∈ prepL (sOf (raw i)).cps.toList, a.length ≤ 8 := g4
    have hj3 : (prepS (sOf (raw i)).cps.toList).cps.toList.all okC = true := by
      show (prepS (raw i)).cps.toList.all okC = true
      rw [g5]
      exact hok _ (getD_mem hi)
    have hj5 : its.size ≤ 1000 := by
      have := htup.1
      rw [List.length_take, Array.length_toList] at this
      have h3 : its.size ≤ i := by omega
      omega
    obtain ⟨hj4, hj6⟩ := strK_ok (show i < 20 by omega)
    (repeat' (first | with_reducible ((show wpAny _ _ (exec (Stmt.For _ _ _ _ _) _) _ _ _); ((with_reducible show wpAny _ _ (exec (Stmt.For (Expr.Name _ _) _ _ [] _) _) _ _ _); (with_reducible rename Fr _ _ _ _ => Fzz); (with_unfolding_all refine for_F Fzz (by rfl) (by rfl) ?_ (by intro _; rfl) (by assumption)))) | with_reducible ((show wpAny _ _ (call (Value.builtin "len") _) _ _ _); ((with_reducible show wpAny _ _ (call (Value.builtin "len") [Value.ref _]) _ _ _); k_dflt (refine' len_strsA ?zzk1 ?zzk2 ?zzk3 ?_; (case zzk1 => exact News.isList (by k_asm) (by k_mem)); (case zzk2 => assumption); (case zzk3 => omega)))) | with_reducible ((show wpAny _ _ (call (Value.ref _) _) _ _ _); (k_dflt ( (with_reducible show wpAny _ _ (call (Value.ref 303) _) _ _ _); (refine' SumT.use (sum_add _ _ _ ?zzj1 ?zzj2 _ _ _ _ _ _ _ ?zzj3 ?zzj4 ?zzj5 ?zzj6) ?zzja ?zzjB ?zzjF ?zzjX ?zzjN ?zzjo ?zzjT ?zzjk ?zzjd ?zzju ?_; (case zzjF => k_asm); (case zzja => exact rfl); (case zzjB => k_asm); (case zzjX => k_asm); (case zzjT => k_asm); (case zzjk => exact rfl); (case zzjd => decide +kernel); (case zzju => decide +kernel); (case zzjN => exact News.swap (by k_asm)); (case zzjo => (rename ND _ => nd9; exact ND.off (ND.same (ND.perm nd9 swap_perm) rfl))); (case zzj1 => assumption); (case zzj2 => assumption); (case zzj3 => assumption); (case zzj4 => assumption); (case zzj5 => assumption); (case zzj6 => assumption)); intro vzz newzz hzz tkzz hPzz Fzz Nzz hfzz; (obtain ⟨e1zz, Dzz, tazz, tbzz, nzz, e2zz⟩ := hPzz); subst e1zz; subst e2zz))) | with_reducible ((show wpAny _ _ (call (Value.ref _) _) _ _ _); (k_dflt ( (with_reducible show wpAny _ _ (call (Value.ref 329) _) _ _ _); (refine' SumT.use (sum_prep _ _ ?zzj1 ?zzj2) ?zzja ?zzjB ?zzjF ?zzjX ?zzjN ?zzjo ?zzjT ?zzjk ?zzjd ?zzju ?_; (case zzjF => k_asm); (case zzja => exact rfl); (case zzjB => k_asm); (case zzjX => k_asm); (case zzjT => k_asm); (case zzjk => exact rfl); (case zzjd => decide +kernel); (case zzju => decide +kernel); (case zzjN => exact News.toNil (by k_asm)); (case zzjo => exact off_nil); (case zzj1 => assumption); (case zzj2 => assumption)); intro vzz newzz hzz tkzz hPzz Fzz Nzz hfzz; clear hfzz; (obtain ⟨e1zz, e2zz⟩ := hPzz); (obtain ⟨tzz, e1zz⟩ := e1zz); subst e1zz; subst e2zz; (replace Nzz := News.nil Nzz)))) | with_reducible ((show wpAny _ _ (call (Value.ref _) _) _ _ _); (k_dflt ( (with_reducible show wpAny _ _ (call (Value.ref 84) _) _ _ _); (rename LexOk _ _ => hokzz); (rename GetOk _ _ _ _ _ _ _ _ => hgzz); (refine' SumT.use (sum_get _ _ hokzz _ _ _ _ _ _ _ _ _ _ _ hgzz) ?zzja ?zzjB ?zzjF ?zzjX ?zzjN ?zzjo ?zzjT ?zzjk ?zzjd ?zzju ?_; (case zzjF => k_asm); (case zzja => exact rfl); (case zzjB => k_asm); (case zzjX => k_asm); (case zzjT => k_asm); (case zzjk => exact rfl); (case zzjd => decide +kernel); (case zzju => decide +kernel); (case zzjN => exact (by k_asm)); (case zzjo => (rename ND _ => nd9; exact ND.off nd9))); clear hgzz; intro vzz newzz hzz tkzz hPzz Fzz Nzz hfzz; clear hfzz; (obtain ⟨tzz, e1zz, lnzz, tlzz, pzz, tpzz, n2zz, pszz, n3zz, e2zz, hSzz⟩ := hPzz); subst e1zz; subst e2zz))) | walk_at "st"))
    exact hdr_end (x := prepS (sOf (raw i)).cps.toList) (y := Str.ofString (toString (i : Int))) (by rw [hps i hi]; exact congrArg (fun z => some (z, strK i)) g5.symm) htup nd2 (by assumption) (by k_asm) (by k_asm) (by assumption)
end
section -- PairL
noncomputable def pairD (p : Str × Str) : PyData := .tuple [.str p.1, .str p.2]
noncomputable def pairI (p : Int × Int) : PyData := .tuple [.int p.1, .int p.2]
noncomputable abbrev tupI (a b : Int) (ta tb : Tok) : Obj := { cls := .type "tuple", data := .seq [Value.int a ta, .int b tb].toArray }
/-- a list of pairs of ints: each a tuple that stands in N -/
noncomputable def IntsAt (N : List (Addr × Obj)) (ys : List Value) (ps : List (Int × Int)) : Prop := ys.length = ps.length ∧ ∀ (i : Nat) (p : Int × Int), ps[i]? = some p → ∃ (D : Addr) (ta tb : Tok), ys[i]? = some (Value.ref D) ∧ (D, tupI p.1 p.2 ta tb) ∈ N
theorem IntsAt.nil {N : List (Addr × Obj)} : IntsAt N [] [] := ⟨rfl, fun i p h => nomatch h⟩
theorem IntsAt.mono {N N' : List (Addr × Obj)} {ys : List Value} {ps : List (Int × Int)} (h : IntsAt N ys ps) (s : ∀ p ∈ N, p ∈ N') : IntsAt N' ys ps :=
  ⟨h.1, fun i p e => let ⟨D, ta, tb, e1, e2⟩ := h.2 i p e; ⟨D, ta, tb, e1, s _ e2⟩⟩
theorem IntsAt.snoc {N : List (Addr × Obj)} {ys : List Value} {ps : List (Int × Int)} {D : Addr} {a b : Int} {ta tb : Tok} (h : IntsAt N ys ps) (hm : (D, tupI a b ta tb) ∈ N) : IntsAt N (ys ++ [.ref D]) (ps ++ [(a, b)]) := by
  refine ⟨by rw [List.length_append, List.length_append, h.1]; rfl, fun i p e => ?_⟩
  by_cases hi : i < ps.length
  · rw [List.getElem?_append_left hi] at e
    obtain ⟨D, ta, tb, e1, e2⟩ := h.2 i p e
    exact ⟨D, ta, tb, by rw [List.getElem?_append_left (by rw [h.1]; exact hi)]; exact e1, e2⟩
  · rw [List.getElem?_append_right (by omega)] at e
    have h0 : i - ps.length = 0 := by
      have := (List.getElem?_eq_some_iff.mp e).1
      rw [List.length_singleton] at this
      omega
    rw [h0] at e
    cases e
    exact ⟨D, ta, tb, by rw [List.getElem?_append_right (by rw [h.1]; omega), h.1, h0]; rfl, hm⟩
theorem readsAll_of {h : Heap} : ∀ {ys : List Value} {ds : List PyData}, ys.length = ds.length → (∀ (i : Nat) (d : PyData), ds[i]? = some d → ∃ v, ys[i]? = some v ∧ Reads h v d []) → ReadsAll h ys ds []
  | [], [], _, _ => .nil
  | v :: ys, d :: ds, e, f => by
    obtain ⟨v', e1, r⟩ := f 0 d rfl
    cases e1
    exact readsAll_cons_val r (readsAll_of (Nat.succ.inj e) fun i d hd => f (i + 1) d hd)
theorem TupsAt.reads {h₀ h : Heap} {L : Addr} {news : List (Addr × Obj)} {ys : List Value} {ps : List (Str × Str)} (N : News h₀ L h news) (t : TupsAt news ys ps) : ReadsAll h ys (ps.map pairD) [] := by
  refine readsAll_of (by rw [t.1, List.length_map]) fun i d hd => ?_
  rw [List.getElem?_map] at hd
  obtain ⟨p, hp, rfl⟩ := Option.map_eq_some_iff.mp hd
  obtain ⟨D, ta, tb, e1, e2⟩ := t.2 i p hp
  exact ⟨_, e1, reads_tuple_at (N _ e2).1 rfl rfl (readsAll_cons_val (.str _ _) (readsAll_cons_val (.str _ _) .nil))⟩
theorem IntsAt.reads {h₀ h : Heap} {L : Addr} {news : List (Addr × Obj)} {ys : List Value} {ps : List (Int × Int)} (N : News h₀ L h news) (t : IntsAt news ys ps) : ReadsAll h ys (ps.map pairI) [] := by
  refine readsAll_of (by rw [t.1, List.length_map]) fun i d hd => ?_
  rw [List.getElem?_map] at hd
  obtain ⟨p, hp, rfl⟩ := Option.map_eq_some_iff.mp hd
  obtain ⟨D, ta, tb, e1, e2⟩ := t.2 i p hp
  exact ⟨_, e1, reads_tuple_at (N _ e2).1 rfl rfl (readsAll_cons_val (.int _ _) (readsAll_cons_val (.int _ _) .nil))⟩
theorem pairD_lay : ∀ ps : List (Str × Str), (∀ p ∈ ps, PyData.strOk p.1 = true ∧ PyData.strOk p.2 = true) → PyData.canLayAll0 (ps.map pairD) = true ∧ PyData.depthAll (ps.map pairD) ≤ 4
  | [], _ => ⟨rfl, Nat.zero_le _⟩
  | p :: ps, hs => by
    obtain ⟨h1, h2⟩ := pairD_lay ps fun q hq => hs q (.tail _ hq)
    obtain ⟨e1, e2⟩ := hs p (.head _)
    constructor
    · simp [PyData.canLayAll0, pairD, PyData.canLay0, h1, e1, e2]
    · simp only [PyData.depthAll, pairD, PyData.depth, List.map_cons]; omega
theorem pairI_lay : ∀ ps : List (Int × Int), PyData.canLayAll0 (ps.map pairI) = true ∧ PyData.depthAll (ps.map pairI) ≤ 4
  | [] => ⟨rfl, Nat.zero_le _⟩
  | p :: ps => by
    obtain ⟨h1, h2⟩ := pairI_lay ps
    constructor
    · simp [PyData.canLayAll0, pairI, PyData.canLay0, h1]
    · simp only [PyData.depthAll, pairI, PyData.depth, List.map_cons]; omega
theorem shaped_list {ds : List PyData} (h1 : PyData.canLayAll0 ds = true) (h2 : PyData.depthAll ds ≤ 4) : SeqAt.shaped (.list ds) = true := by
  simp only [SeqAt.shaped, PyData.canLay0, PyData.depth, h1, Bool.true_and, decide_eq_true_eq]
  exact decide_eq_true (by omega)
section
variable {prog : Program} {w : World} {A : Around} {E : Value → Shared → Prop} {s : Shared} {h₀ : Heap} {L a b : Addr} {news : List (Addr × Obj)} {ys zs : List Value} {k k' : Nat} {Q : Value → Shared → Prop}
theorem ne_pairs {ps : List (Str × Str)} (hso : ∀ p ∈ ps, PyData.strOk p.1 = true ∧ PyData.strOk p.2 = true) (N : News h₀ L s.heap news) (ha : (a, listOf ys.toArray k) ∈ news) (hb : (b, listOf zs.toArray k') ∈ news) (ta : TupsAt news ys ps) (tb : TupsAt news zs ps) (hu : A.units + 64 < cLine) (h : Q (.bool false) s) :
    wpAny (model prog w) A (compareOp .NotEq (.ref a) (.ref b)) Q E s := by
  have hl := pairD_lay ps hso
  refine ne_dataH (reads_list_at (N _ ha).1 rfl rfl (ta.reads N)) (reads_list_at (N _ hb).1 rfl rfl (tb.reads N)) (shaped_list hl.1 hl.2) (shaped_list hl.1 hl.2) hu ?_
  rw [SeqAt.eqv_refl _ (by rw [PyData.canLay0]; exact hl.1)]
  exact h
theorem ne_ints {ps : List (Int × Int)} (N : News h₀ L s.heap news) (ha : (a, listOf ys.toArray k) ∈ news) (hb : (b, listOf zs.toArray k') ∈ news) (ta : IntsAt news ys ps) (tb : IntsAt news zs ps) (hu : A.units + 64 < cLine) (h : Q (.bool false) s) :
    wpAny (model prog w) A (compareOp .NotEq (.ref a) (.ref b)) Q E s := by
  have hl := pairI_lay ps
  refine ne_dataH (reads_list_at (N _ ha).1 rfl rfl (ta.reads N)) (reads_list_at (N _ hb).1 rfl rfl (tb.reads N)) (shaped_list hl.1 hl.2) (shaped_list hl.1 hl.2) hu ?_
  rw [SeqAt.eqv_refl _ (by rw [PyData.canLay0]; exact hl.1)]
  exact h
end
end
section -- L9
theorem fillL9 : PySem.Challenge.rw_uq0027_01 = PySem.Challenge.rw_uq0027_01 ∧ KK = KK := by
  k_fill
  exact ⟨rfl, rfl⟩
variable {w : World} {mean : ExcName → Option Value} {mg mb : Str → Option Value} {A₀ : Around} {base h₀ : Heap} {L a : Addr} {ccd : Value} {m : Str → Option Value} {s : Shared} {Q : Flow → Shared → Prop} {E : Value → Shared → Prop}
local macro_rules | `(tactic| walk_at "eval Name") => `(tactic| walk_at "m4")
local macro_rules | `(tactic| walk_at "eval Name") => `(tactic| walk_at "m3")
local macro_rules | `(tactic| walk_at "eval ListComp") => `(tactic| (k_here; (with_reducible refine comp_hold ?_)))
local macro_rules | `(tactic| walk_at "newTuple") => `(tactic| walk_at "m2")
local macro_rules | `(tactic| walk_at "pyIter ref") => `(tactic| (k_here; (with_reducible refine comp_hold ?_)))
local macro_rules | `(tactic| walk_at "compareOp NotEq ref ref") => `(tactic| (k_here; (with_reducible refine comp_hold ?_)))
local macro_rules | `(tactic| k_mem) => `(tactic| ((with_reducible apply List.mem_append_right); (with_reducible apply List.mem_append_right); k_mem))

noncomputable def pairJ (ps : List (Str × Str)) (i : Nat) (ys : List Value) (ex : List (Addr × Obj)) : Prop := TupsAt ex ys (ps.take i) ∧ i ≤ ps.length
theorem pairJ_sz {ps : List (Str × Str)} (hz : ps.length ≤ 1000) {n : Nat} : ∀ i ys ex, i ≤ n → pairJ ps i ys ex → ys.length ≤ sizeLine := by
  intro i ys ex _ hI
  have h1 := hI.1.1
  rw [List.length_take] at h1
  rw [sizeLine_eq]
  omega
theorem pairJ_next {ps : List (Str × Str)} {i : Nat} {ys : List Value} {ex : List (Addr × Obj)} {x y : Str} {tx ty : Tok} {D : Addr} (hp : ps[i]? = some (x, y)) (hI : pairJ ps i ys ex) : pairJ ps (i + 1) (ys ++ [.ref D]) ([(D, tup2 x y tx ty)] ++ ex) := by
  refine ⟨?_, (List.getElem?_eq_some_iff.mp hp).1⟩
  rw [List.take_add_one, hp]
  exact (hI.1.mono fun q hq => List.mem_append_right _ hq).append (TupsAt.one (.head _))
theorem back_mem {q x y : Addr × Obj} {ex hdr lex r : List (Addr × Obj)} (h : q ∈ lex ++ (hdr ++ r)) : q ∈ x :: (ex ++ ((y :: hdr) ++ (lex ++ r))) := by
  simp only [List.mem_cons, List.mem_append, List.cons_append] at h ⊢
  rcases h with h | h | h
  · exact .inr (.inr (.inr (.inr (.inl h))))
  · exact .inr (.inr (.inr (.inl h)))
  · exact .inr (.inr (.inr (.inr (.inr h))))
set_option maxHeartbeats 4000000 in
theorem seg9 (B : Below A₀ base [] h₀) (X : (KK w.params).In h₀) (T : Top topProg LX mean mg mb h₀) (A : LexA) (ws : List Str) (hws : ws.length ≤ 20) (ps : List (Str × Str)) (hps : ∀ i, i < ws.length → ps[i]? = some (ws.getD i PySem.Str.empty, strK i)) (hpl : ps.length = ws.length) (hso : ∀ p ∈ ps, PyData.strOk p.1 = true ∧ PyData.strOk p.2 = true)
    (ln : Int) (tl : Tok) (p : Nat) (tp : Tok) (n2 : Nat) (qs : List Value) (n3 : Nat) (hx hd hl : Addr) (o1 : @LT.lt Nat _ hd hx) (o2 : @LT.lt Nat _ hx hl) (k1 : Tok) (its : Array Value) (n : Nat) (wl : Addr) (us : List Value) (ep : Nat) (hus : StrsAre us ws) (oW : Obj) (dW : oW.data = .cell (some (.ref wl))) (nw tups : List (Addr × Obj)) (htup : TupsAt tups its.toList ps)
    (nd : ND (lexL w.params mg A ln tl p tp n2 qs.toArray n3 ++ (hdrL w.params hx hd hl k1 its n ++ ((wl, listOf us.toArray ep) :: (L + 1, oW) :: (nw ++ tups)))))
    (hf : m (Str.ofString "table") = some (.ref hx)) (F : Fr h₀ L s.heap m) (N : News h₀ L s.heap (lexL w.params mg A ln tl p tp n2 qs.toArray n3 ++ (hdrL w.params hx hd hl k1 its n ++ ((wl, listOf us.toArray ep) :: (L + 1, oW) :: (nw ++ tups)))))
    (next : ∀ h tk, Fr h₀ L h m → News h₀ L h (lexL w.params mg A ln tl p tp n2 qs.toArray n3 ++ (hdrL w.params hx hd hl k1 its n ++ ((wl, listOf us.toArray ep) :: (L + 1, oW) :: (nw ++ tups)))) → wpAny (model PW w) (lawA L a ccd) (execs (lawSt.drop 10) (lawE L a ccd)) Q E { s with heap := h, toks := tk }) :
    wpAny (model PW w) (lawA L a ccd) (execs (lawSt.drop 9) (lawE L a ccd)) Q E s := by
  refine cut9 (P := fun b => wpAny (model PW w) (lawA L a ccd) (execs b (lawE L a ccd)) Q E s) (by with_unfolding_all exact rfl) fun rest hrest => ?_
  rw [← hrest] at next
  have hz : its.size ≤ 1000 := by have := htup.1; rw [Array.length_toList] at this; omega
  (repeat' (first | with_reducible ((show wpAny _ _ (subscriptTail _ _ (Value.ref _) _) _ _ _); ((with_reducible show wpAny _ _ (subscriptTail _ _ (Value.ref _) (Value.int _ _)) _ _ _); k_dflt (refine' sub_strsG ?zza ?zzb ?zzc ?zzd ?zze ?zzf ?_ ?zzg; (case zza => k_asm); (case zzb => k_mem); (case zzc => with_reducible assumption); (case zzd => omega); (case zze => omega); (case zzf => omega); (case zzg => with_unfolding_all rfl)); intro tzz)) | with_reducible ((show wpAny _ _ (call (Value.builtin "len") _) _ _ _); ((with_reducible show wpAny _ _ (call (Value.builtin "len") [Value.ref _]) _ _ _); k_dflt (refine' len_strsA ?zzk1 ?zzk2 ?zzk3 ?_; (case zzk1 => exact News.isList (by k_asm) (by k_mem)); (case zzk2 => assumption); (case zzk3 => omega)))) | with_reducible ((show wpAny _ _ (call (Value.ref _) _) _ _ _); (k_dflt ( (with_reducible show wpAny _ _ (call (Value.ref 270) _) _ _ _); (refine' SumT.use (sum_items _ _ _ ?zzj1 ?zzj2 _ _ _ ?zzj3) ?zzja ?zzjB ?zzjF ?zzjX ?zzjN ?zzjo ?zzjT ?zzjk ?zzjd ?zzju ?_; (case zzjF => k_asm); (case zzja => exact rfl); (case zzjB => k_asm); (case zzjX => k_asm); (case zzjT => k_asm); (case zzjk => exact rfl); (case zzjd => decide +kernel); (case zzju => decide +kernel); (case zzjN => exact News.swap (by k_asm)); (case zzjo => (rename ND _ => nd9; exact ND.off (ND.perm nd9 swap_perm))); (case zzj1 => assumption); (case zzj2 => assumption); (case zzj3 => assumption)); intro vzz newzz hzz tkzz hPzz Fzz Nzz hfzz; (obtain ⟨Dzz, e1zz, e2zz⟩ := hPzz); subst e1zz; subst e2zz))) | walk_at "st"))
  unfold CompHold
  k_dflt (refine' comp_evalC ?jF0 ?hclos ?hcell ?hkind ?hnames ?hxx ?hit ?hs)
  case jF0 => k_asm
  case hclos => with_unfolding_all rfl
  case hcell => decide
  case hkind => exact rfl
  case hnames => decide
  case hxx => decide
  case hs => intro x; rfl
  case hit =>
    (repeat' (first | with_reducible ((show wpAny _ _ (subscriptTail _ _ (Value.ref _) _) _ _ _); ((with_reducible show wpAny _ _ (subscriptTail _ _ (Value.ref _) (Value.int _ _)) _ _ _); k_dflt (refine' sub_strsG ?zza ?zzb ?zzc ?zzd ?zze ?zzf ?_ ?zzg; (case zza => k_asm); (case zzb => k_mem); (case zzc => with_reducible assumption); (case zzd => omega); (case zze => omega); (case zzf => omega); (case zzg => with_unfolding_all rfl)); intro tzz)) | with_reducible ((show wpAny _ _ (call (Value.builtin "len") _) _ _ _); ((with_reducible show wpAny _ _ (call (Value.builtin "len") [Value.ref _]) _ _ _); k_dflt (refine' len_strsA ?zzk1 ?zzk2 ?zzk3 ?_; (case zzk1 => exact News.isList (by k_asm) (by k_mem)); (case zzk2 => assumption); (case zzk3 => omega)))) | with_reducible ((show wpAny _ _ (call (Value.ref _) _) _ _ _); (k_dflt ( (with_reducible show wpAny _ _ (call (Value.ref 270) _) _ _ _); (refine' SumT.use (sum_items _ _ _ ?zzj1 ?zzj2 _ _ _ ?zzj3) ?zzja ?zzjB ?zzjF ?zzjX ?zzjN ?zzjo ?zzjT ?zzjk ?zzjd ?zzju ?_; (case zzjF => k_asm); (case zzja => exact rfl); (case zzjB => k_asm); (case zzjX => k_asm); (case zzjT => k_asm); (case zzjk => exact rfl); (case zzjd => decide +kernel); (case zzju => decide +kernel); (case zzjN => exact News.swap (by k_asm)); (case zzjo => (rename ND _ => nd9; exact ND.off (ND.perm nd9 swap_perm))); (case zzj1 => assumption); (case zzj2 => assumption); (case zzj3 => assumption)); intro vzz newzz hzz tkzz hPzz Fzz Nzz hfzz; (obtain ⟨Dzz, e1zz, e2zz⟩ := hPzz); subst e1zz; subst e2zz))) | walk_at "st"))
    unfold CompHold
    refine' iterC_rng (n := ws.length) (pairJ ps) (by assumption) (small_one (by omega) (by omega) (by omega) (by omega)) ?jn ?jh ?jF ?jN ⟨by exact TupsAt.nil, Nat.zero_le _⟩ ?hsz ?turn ?fin
    case jh => exact rfl
    case jF => k_asm
    case jN => k_asm
    case jn => rw [rangeSize_one]; split <;> omega
    case hsz => exact pairJ_sz (by omega)
    case turn =>
      intro C i t ys ex s' own mC E' hC hi hI hm ct
      rw [Int.zero_add] at hm
      have F1 := ct.F
      have N1 := ct.N
      have nC := ct.ns _ ct.N
      have hp := hps i hi
      refine TurnGoal.plain ct ?_
      (repeat' (first | with_reducible ((show wpAny _ _ (subscriptTail _ _ (Value.ref _) _) _ _ _); ((with_reducible show wpAny _ _ (subscriptTail _ _ (Value.ref _) (Value.int _ _)) _ _ _); k_dflt (refine' sub_strsG ?zza ?zzb ?zzc ?zzd ?zze ?zzf ?_ ?zzg; (case zza => k_asm); (case zzb => k_mem); (case zzc => with_reducible assumption); (case zzd => omega); (case zze => omega); (case zzf => omega); (case zzg => with_unfolding_all rfl)); intro tzz)) | with_reducible ((show wpAny _ _ (call (Value.builtin "len") _) _ _ _); ((with_reducible show wpAny _ _ (call (Value.builtin "len") [Value.ref _]) _ _ _); k_dflt (refine' len_strsA ?zzk1 ?zzk2 ?zzk3 ?_; (case zzk1 => exact News.isList (by k_asm) (by k_mem)); (case zzk2 => assumption); (case zzk3 => omega)))) | with_reducible ((show wpAny _ _ (call (Value.ref _) _) _ _ _); (k_dflt ( (with_reducible show wpAny _ _ (call (Value.ref 270) _) _ _ _); (refine' SumT.use (sum_items _ _ _ ?zzj1 ?zzj2 _ _ _ ?zzj3) ?zzja ?zzjB ?zzjF ?zzjX ?zzjN ?zzjo ?zzjT ?zzjk ?zzjd ?zzju ?_; (case zzjF => k_asm); (case zzja => exact rfl); (case zzjB => k_asm); (case zzjX => k_asm); (case zzjT => k_asm); (case zzjk => exact rfl); (case zzjd => decide +kernel); (case zzju => decide +kernel); (case zzjN => exact News.swap (by k_asm)); (case zzjo => (rename ND _ => nd9; exact ND.off (ND.perm nd9 swap_perm))); (case zzj1 => assumption); (case zzj2 => assumption); (case zzj3 => assumption)); intro vzz newzz hzz tkzz hPzz Fzz Nzz hfzz; (obtain ⟨Dzz, e1zz, e2zz⟩ := hPzz); subst e1zz; subst e2zz))) | walk_at "st"))
      exact EltEnd.new ct (by k_asm) (by k_asm) (by assumption) (pairJ_next (by rw [hp]; rfl) hI)
    case fin =>
      intro h D ys ex ep hI hD hex h2 tk F2 N2
      have hI2 : TupsAt ex ys ps := by have := hI.1; rwa [← hpl, List.take_length] at this
      dsimp only
      (repeat' (first | with_reducible ((show wpAny _ _ (subscriptTail _ _ (Value.ref _) _) _ _ _); ((with_reducible show wpAny _ _ (subscriptTail _ _ (Value.ref _) (Value.int _ _)) _ _ _); k_dflt (refine' sub_strsG ?zza ?zzb ?zzc ?zzd ?zze ?zzf ?_ ?zzg; (case zza => k_asm); (case zzb => k_mem); (case zzc => with_reducible assumption); (case zzd => omega); (case zze => omega); (case zzf => omega); (case zzg => with_unfolding_all rfl)); intro tzz)) | with_reducible ((show wpAny _ _ (call (Value.builtin "len") _) _ _ _); ((with_reducible show wpAny _ _ (call (Value.builtin "len") [Value.ref _]) _ _ _); k_dflt (refine' len_strsA ?zzk1 ?zzk2 ?zzk3 ?_; (case zzk1 => exact News.isList (by k_asm) (by k_mem)); (case zzk2 => assumption); (case zzk3 => omega)))) | with_reducible ((show wpAny _ _ (call (Value.ref _) _) _ _ _); (k_dflt ( (with_reducible show wpAny _ _ (call (Value.ref 270) _) _ _ _); (refine' SumT.use (sum_items _ _ _ ?zzj1 ?zzj2 _ _ _ ?zzj3) ?zzja ?zzjB ?zzjF ?zzjX ?zzjN ?zzjo ?zzjT ?zzjk ?zzjd ?zzju ?_; (case zzjF => k_asm); (case zzja => exact rfl); (case zzjB => k_asm); (case zzjX => k_asm); (case zzjT => k_asm); (case zzjk => exact rfl); (case zzjd => decide +kernel); (case zzju => decide +kernel); (case zzjN => exact News.swap (by k_asm)); (case zzjo => (rename ND _ => nd9; exact ND.off (ND.perm nd9 swap_perm))); (case zzj1 => assumption); (case zzj2 => assumption); (case zzj3 => assumption)); intro vzz newzz hzz tkzz hPzz Fzz Nzz hfzz; (obtain ⟨Dzz, e1zz, e2zz⟩ := hPzz); subst e1zz; subst e2zz))) | walk_at "st"))
      unfold CompHold
      refine ne_pairs (zs := ys) (ys := its.toList) hso N2 (.tail _ (List.mem_append_right _ (.head _))) (.head _) (htup.mono fun q hq => .tail _ (List.mem_append_right _ (List.mem_append_right _ (List.mem_append_right _ (.tail _ (.tail _ (List.mem_append_right _ hq))))))) (hI2.mono fun q hq => .tail _ (List.mem_append_left _ hq)) (Nat.le_of_ble_eq_true rfl) ?_
      (repeat' (first | with_reducible ((show wpAny _ _ (subscriptTail _ _ (Value.ref _) _) _ _ _); ((with_reducible show wpAny _ _ (subscriptTail _ _ (Value.ref _) (Value.int _ _)) _ _ _); k_dflt (refine' sub_strsG ?zza ?zzb ?zzc ?zzd ?zze ?zzf ?_ ?zzg; (case zza => k_asm); (case zzb => k_mem); (case zzc => with_reducible assumption); (case zzd => omega); (case zze => omega); (case zzf => omega); (case zzg => with_unfolding_all rfl)); intro tzz)) | with_reducible ((show wpAny _ _ (call (Value.builtin "len") _) _ _ _); ((with_reducible show wpAny _ _ (call (Value.builtin "len") [Value.ref _]) _ _ _); k_dflt (refine' len_strsA ?zzk1 ?zzk2 ?zzk3 ?_; (case zzk1 => exact News.isList (by k_asm) (by k_mem)); (case zzk2 => assumption); (case zzk3 => omega)))) | with_reducible ((show wpAny _ _ (call (Value.ref _) _) _ _ _); (k_dflt ( (with_reducible show wpAny _ _ (call (Value.ref 270) _) _ _ _); (refine' SumT.use (sum_items _ _ _ ?zzj1 ?zzj2 _ _ _ ?zzj3) ?zzja ?zzjB ?zzjF ?zzjX ?zzjN ?zzjo ?zzjT ?zzjk ?zzjd ?zzju ?_; (case zzjF => k_asm); (case zzja => exact rfl); (case zzjB => k_asm); (case zzjX => k_asm); (case zzjT => k_asm); (case zzjk => exact rfl); (case zzjd => decide +kernel); (case zzju => decide +kernel); (case zzjN => exact News.swap (by k_asm)); (case zzjo => (rename ND _ => nd9; exact ND.off (ND.perm nd9 swap_perm))); (case zzj1 => assumption); (case zzj2 => assumption); (case zzj3 => assumption)); intro vzz newzz hzz tkzz hPzz Fzz Nzz hfzz; (obtain ⟨Dzz, e1zz, e2zz⟩ := hPzz); subst e1zz; subst e2zz))) | walk_at "st"))
      exact next _ _ (by k_asm) (nsub N2 fun q hq => back_mem hq)
end
section -- L10
theorem fillL10 : PySem.Challenge.rw_uq0027_01 = PySem.Challenge.rw_uq0027_01 ∧ KK = KK := by
  k_fill
  exact ⟨rfl, rfl⟩
variable {w : World} {mean : ExcName → Option Value} {mg mb : Str → Option Value} {A₀ : Around} {base h₀ : Heap} {L a : Addr} {ccd : Value} {m : Str → Option Value} {s : Shared} {Q : Flow → Shared → Prop} {E : Value → Shared → Prop}
local macro_rules | `(tactic| walk_at "eval Name") => `(tactic| walk_at "m4")
local macro_rules | `(tactic| walk_at "eval Name") => `(tactic| walk_at "m3")
local macro_rules | `(tactic| walk_at "eval ListComp") => `(tactic| (k_here; (with_reducible refine comp_hold ?_)))
local macro_rules | `(tactic| walk_at "call builtin:list.append") => `(tactic| (k_here; k_dflt (refine' append_K ?jF ?jN ?jU ?_ ?jz; (case jF => k_asm); (case jN => k_asm); (case jU => exact Upd.head (by assumption)); (case jz => assumption)); intro h' F' N'))
local macro_rules | `(tactic| walk_at "pyIter ref") => `(tactic| (k_here; (with_reducible refine comp_hold ?_)))

/-- rows: lists of ints that stand in N -/
noncomputable def RowsAt (N : List (Addr × Obj)) (rs : List Value) (nss : List (List Int)) : Prop := rs.length = nss.length ∧ ∀ (i : Nat) (ns : List Int), nss[i]? = some ns → ∃ (D : Addr) (vs : List Value) (e : Nat), rs[i]? = some (Value.ref D) ∧ (D, listOf vs.toArray e) ∈ N ∧ IntsAre vs ns
theorem RowsAt.nil {N : List (Addr × Obj)} : RowsAt N [] [] := ⟨rfl, fun i p h => nomatch h⟩
theorem RowsAt.mono {N N' : List (Addr × Obj)} {rs : List Value} {nss : List (List Int)} (h : RowsAt N rs nss) (s : ∀ p ∈ N, p ∈ N') : RowsAt N' rs nss :=
  ⟨h.1, fun i p e => let ⟨D, vs, e', e1, e2, e3⟩ := h.2 i p e; ⟨D, vs, e', e1, s _ e2, e3⟩⟩
theorem RowsAt.snoc {N : List (Addr × Obj)} {rs : List Value} {nss : List (List Int)} {D : Addr} {vs : List Value} {e : Nat} {ns : List Int} (h : RowsAt N rs nss) (hm : (D, listOf vs.toArray e) ∈ N) (hi : IntsAre vs ns) : RowsAt N (rs ++ [.ref D]) (nss ++ [ns]) := by
  refine ⟨by rw [List.length_append, List.length_append, h.1]; rfl, fun i p e => ?_⟩
  by_cases hi' : i < nss.length
  · rw [List.getElem?_append_left hi'] at e
    obtain ⟨D, vs, e', e1, e2, e3⟩ := h.2 i p e
    exact ⟨D, vs, e', by rw [List.getElem?_append_left (by rw [h.1]; exact hi')]; exact e1, e2, e3⟩
  · rw [List.getElem?_append_right (by omega)] at e
    have h0 : i - nss.length = 0 := by
      have := (List.getElem?_eq_some_iff.mp e).1
      rw [List.length_singleton] at this
      omega
    rw [h0] at e
    cases e
    exact ⟨D, vs, _, by rw [List.getElem?_append_right (by rw [h.1]; omega), h.1, h0]; rfl, hm, hi⟩
set_option maxHeartbeats 4000000 in
theorem seg10 (B : Below A₀ base [] h₀) (X : (KK w.params).In h₀) (T : Top topProg LX mean mg mb h₀) (news : List (Addr × Obj)) (nd : ND news)
    (F : Fr h₀ L s.heap m) (N : News h₀ L s.heap news)
    (next : ∀ rl h tk, Fr h₀ L h (fun y => if y = Str.ofString "rows" then some (.ref rl) else m y) → News h₀ L h ((rl, listOf #[] 0) :: news) → ND ((rl, listOf #[] 0) :: news) → wpAny (model PW w) (lawA L a ccd) (execs (lawSt.drop 11) (lawE L a ccd)) Q E { s with heap := h, toks := tk }) :
    wpAny (model PW w) (lawA L a ccd) (execs (lawSt.drop 10) (lawE L a ccd)) Q E s := by
  refine cut10 (P := fun b => wpAny (model PW w) (lawA L a ccd) (execs b (lawE L a ccd)) Q E s) (by with_unfolding_all exact rfl) fun rest hrest => ?_
  rw [← hrest] at next
  (repeat' (first | with_reducible ((show wpAny _ _ (exec (Stmt.For _ _ _ _ _) _) _ _ _); ((with_reducible show wpAny _ _ (exec (Stmt.For (Expr.Name _ _) _ _ [] _) _) _ _ _); (with_reducible rename Fr _ _ _ _ => Fzz); (with_unfolding_all refine for_F Fzz (by rfl) (by rfl) ?_ (by intro _; rfl) (by assumption)))) | with_reducible ((show wpAny _ _ (call (Value.ref _) _) _ _ _); (k_dflt ( (with_reducible show wpAny _ _ (call (Value.ref 245) _) _ _ _); (refine' SumT.use (sum_getall _ _ _ ?zzj1 ?zzj2 _ _ _ ?zzj3 _ _ ?zzj4 _ _ ?zzj5 ?zzj6 ?zzj7) ?zzja ?zzjB ?zzjF ?zzjX ?zzjN ?zzjo ?zzjT ?zzjk ?zzjd ?zzju ?_; (case zzjF => k_asm); (case zzja => exact rfl); (case zzjB => k_asm); (case zzjX => k_asm); (case zzjT => k_asm); (case zzjk => exact rfl); (case zzjd => decide +kernel); (case zzju => decide +kernel); (case zzjN => exact (by k_asm)); (case zzj4 => assumption); (case zzjo => (rename ND _ => nd9; exact ND.off nd9)); (case zzj1 => assumption); (case zzj2 => assumption); (case zzj3 => assumption); (case zzj5 => assumption); (case zzj6 => assumption); (case zzj7 => assumption)); intro vzz newzz hzz tkzz hPzz Fzz Nzz hfzz; (obtain ⟨Dzz, uszz, ezz, e1zz, huszz, e2zz⟩ := hPzz); subst e1zz; subst e2zz))) | with_reducible ((show wpAny _ _ (call (Value.ref _) _) _ _ _); (k_dflt ( (with_reducible show wpAny _ _ (call (Value.ref 329) _) _ _ _); (refine' SumT.use (sum_prep _ _ ?zzj1 ?zzj2) ?zzja ?zzjB ?zzjF ?zzjX ?zzjN ?zzjo ?zzjT ?zzjk ?zzjd ?zzju ?_; (case zzjF => k_asm); (case zzja => exact rfl); (case zzjB => k_asm); (case zzjX => k_asm); (case zzjT => k_asm); (case zzjk => exact rfl); (case zzjd => decide +kernel); (case zzju => decide +kernel); (case zzjN => exact News.toNil (by k_asm)); (case zzjo => exact off_nil); (case zzj1 => assumption); (case zzj2 => assumption)); intro vzz newzz hzz tkzz hPzz Fzz Nzz hfzz; clear hfzz; (obtain ⟨e1zz, e2zz⟩ := hPzz); (obtain ⟨tzz, e1zz⟩ := e1zz); subst e1zz; subst e2zz; (replace Nzz := News.nil Nzz)))) | walk_at "st"))
  exact next _ _ _ (by k_asm) (by k_asm) (ND.cons nd fun p hp => Nat.ne_of_lt (lt_of_all (l := news) (by assumption) hp))
theorem strK_ints {vs : List Value} {ks : List Nat} (h : StrsAre vs (ks.map strK)) {i : Nat} {v : Value} (e : vs.toArray[i]? = some v) : ∃ k t, ks[i]? = some k ∧ v = .str (Str.ofString (toString ((k : Nat) : Int))) t := by
  obtain ⟨y, t, e1, e2⟩ := h.item i v (by simpa using e)
  rw [List.getElem?_map] at e2
  obtain ⟨k, hk, rfl⟩ := Option.map_eq_some_iff.mp e2
  exact ⟨k, t, hk, e1⟩
noncomputable def rowI (ks : List Nat) (i : Nat) (ys : List Value) (ex : List (Addr × Obj)) : Prop := IntsAre ys ((ks.take i).map fun (k : Nat) => (k : Int)) ∧ ex = [] ∧ i ≤ ks.length
theorem rowI_sz {ks : List Nat} (hz : ks.length ≤ 1000) {n : Nat} : ∀ i ys ex, i ≤ n → rowI ks i ys ex → ys.length ≤ sizeLine := by
  intro i ys ex _ hI
  have h1 := hI.1.length
  rw [List.length_map, List.length_take] at h1
  rw [sizeLine_eq]
  omega
theorem ints_append {vs ws : List Value} {ns ms : List Int} (h : IntsAre vs ns) (g : IntsAre ws ms) : IntsAre (vs ++ ws) (ns ++ ms) := by
  induction h with
  | nil => exact g
  | cons n t _ ih => exact .cons n t ih
theorem rowI_next {ks : List Nat} {i : Nat} {ys : List Value} {ex : List (Addr × Obj)} {k : Nat} {t : Tok} (hk : ks[i]? = some k) (hI : rowI ks i ys ex) : rowI ks (i + 1) (ys ++ [.int (k : Int) t]) ([] ++ ex) := by
  refine ⟨?_, hI.2.1, (List.getElem?_eq_some_iff.mp hk).1⟩
  have e : (ks.take (i + 1)).map (fun (k : Nat) => (k : Int)) = (ks.take i).map (fun (k : Nat) => (k : Int)) ++ [(k : Int)] := by rw [List.take_add_one, hk]; simp
  rw [e]
  exact ints_append hI.1 (.cons _ _ .nil)
theorem rowI_end {ks : List Nat} {n : Nat} {ys : List Value} {ex : List (Addr × Obj)} (hn : n = ks.length) (hI : rowI ks n ys ex) : IntsAre ys (ks.map fun (k : Nat) => (k : Int)) ∧ ex = [] := by
  have := hI.1
  rw [hn, List.take_length] at this
  exact ⟨this, hI.2.1⟩
noncomputable def intsOf (ks : List Nat) : List Int := ks.map fun (k : Nat) => (k : Int)
noncomputable def rowJ (P : Params) (hx hd hl : Addr) (k1 : Tok) (its : Array Value) (n : Nat) (tups bs : List (Addr × Obj)) (rl : Addr) (rows : List (List Nat)) (m₀ : Str → Option Value) (i : Nat) (m₁ : Str → Option Value) (news₁ : List (Addr × Obj)) : Prop :=
  ∃ v rs kk objs, m₁ = (fun y => if y = wordN then v else m₀ y) ∧ news₁ = (rl, listOf (List.toArray rs) kk) :: ((hdrL P hx hd hl k1 its n ++ tups) ++ (bs ++ objs)) ∧ RowsAt objs rs ((rows.take i).map intsOf) ∧ ND news₁
theorem perm4 {a b c : List (Addr × Obj)} {x y : Addr × Obj} : (y :: x :: (a ++ (b ++ c))).Perm (a ++ (x :: y :: (b ++ c))) :=
  (List.Perm.swap x y _).trans ((List.Perm.cons x mid_perm).trans mid_perm)
theorem perm5 {a b c : List (Addr × Obj)} {x y z : Addr × Obj} : (x :: z :: (a ++ (y :: (b ++ c)))).Perm (y :: x :: (a ++ (b ++ z :: c))) := by
  refine (List.Perm.cons x ((List.Perm.cons z mid_perm.symm).trans ((List.Perm.swap y z _).trans (List.Perm.cons y ?_)))).trans (List.Perm.swap y x _)
  exact mid_perm2
theorem perm6 {a b c : List (Addr × Obj)} {x y z : Addr × Obj} : (z :: x :: y :: (a ++ (b ++ c))).Perm (y :: x :: (a ++ (b ++ z :: c))) :=
  ((List.Perm.swap x z _).trans (List.Perm.cons x ((List.Perm.swap y z _).trans (List.Perm.cons y mid_perm2)))).trans (List.Perm.swap y x _)
theorem row_perm_mem {q rl I d g : Addr × Obj} {a bs objs : List (Addr × Obj)} (h : q ∈ rl :: I :: (a ++ (bs ++ d :: objs))) : q = d ∨ q ∈ (g :: a) ++ (rl :: I :: (bs ++ objs)) := by
  simp only [List.mem_cons, List.mem_append, List.cons_append] at h ⊢
  rcases h with h | h | h | h | h | h
  · exact .inr (.inr (.inr (.inl h)))
  · exact .inr (.inr (.inr (.inr (.inl h))))
  · exact .inr (.inr (.inl h))
  · exact .inr (.inr (.inr (.inr (.inr (.inl h)))))
  · exact .inl h
  · exact .inr (.inr (.inr (.inr (.inr (.inr h)))))
theorem row_mem2 {q rl I g : Addr × Obj} {a bs objs : List (Addr × Obj)} (h : q ∈ I :: rl :: (a ++ (bs ++ objs))) : q ∈ (g :: a) ++ (rl :: I :: (bs ++ objs)) := by
  simp only [List.mem_cons, List.mem_append, List.cons_append] at h ⊢
  rcases h with h | h | h | h | h
  · exact .inr (.inr (.inr (.inl h)))
  · exact .inr (.inr (.inl h))
  · exact .inr (.inl h)
  · exact .inr (.inr (.inr (.inr (.inl h))))
  · exact .inr (.inr (.inr (.inr (.inr h))))
theorem row_mid {P : Params} {hx hd hl : Addr} {k1 : Tok} {its : Array Value} {n : Nat} {tups bs objs : List (Addr × Obj)} {rl I D Dg : Addr} {oI oD oG orl : Obj} {h : Heap}
    (nd : ND ((I, oI) :: (rl, orl) :: ((hdrL P hx hd hl k1 its n ++ tups) ++ (bs ++ objs))))
    (N : News h₀ L h ((D, oD) :: ([] ++ (((Dg, oG) :: (hdrL P hx hd hl k1 its n ++ tups)) ++ ((rl, orl) :: (I, oI) :: (bs ++ objs)))))) (hD : ∀ p ∈ ((Dg, oG) :: (hdrL P hx hd hl k1 its n ++ tups)) ++ ((rl, orl) :: (I, oI) :: (bs ++ objs)), p.1 < D) :
    News h₀ L h ((rl, orl) :: (I, oI) :: ((hdrL P hx hd hl k1 its n ++ tups) ++ (bs ++ (D, oD) :: objs))) ∧ ND ((rl, orl) :: (I, oI) :: ((hdrL P hx hd hl k1 its n ++ tups) ++ (bs ++ (D, oD) :: objs))) ∧ ∀ p ∈ (I, oI) :: ((hdrL P hx hd hl k1 its n ++ tups) ++ (bs ++ (D, oD) :: objs)), p.1 ≠ rl := by
  have hmem : ∀ q, q ∈ (rl, orl) :: (I, oI) :: ((hdrL P hx hd hl k1 its n ++ tups) ++ (bs ++ (D, oD) :: objs)) → q = (D, oD) ∨ q ∈ ((Dg, oG) :: (hdrL P hx hd hl k1 its n ++ tups)) ++ ((rl, orl) :: (I, oI) :: (bs ++ objs)) := fun q hq => row_perm_mem hq
  have nd1 : ND ((D, oD) :: (I, oI) :: (rl, orl) :: ((hdrL P hx hd hl k1 its n ++ tups) ++ (bs ++ objs))) := ND.cons nd fun p hp => Nat.ne_of_lt (hD p (row_mem2 hp))
  have nd2 : ND ((rl, orl) :: (I, oI) :: ((hdrL P hx hd hl k1 its n ++ tups) ++ (bs ++ (D, oD) :: objs))) := ND.perm nd1 perm6
  refine ⟨nsub N fun q hq => ?_, nd2, fun p hp e => ?_⟩
  · rcases hmem q hq with e | e
    · rw [e]; exact .head _
    · exact .tail _ e
  · have := (List.nodup_cons.mp nd2).1
    exact this (e ▸ List.mem_map_of_mem (f := (·.1)) hp)
theorem row_end {P : Params} {hx hd hl : Addr} {k1 : Tok} {its : Array Value} {n : Nat} {tups bs objs : List (Addr × Obj)} {rl I D : Addr} {oI : Obj} {ys : List Value} {ep kk kk' : Nat} {rs : List Value} {rows : List (List Nat)} {ks : List Nat} {m₀ : Str → Option Value} {i : Nat} {vw : Option Value} {h h' : Heap} {tk tk' : Nat}
    (hk : rows[i]? = some ks) (hR : RowsAt objs rs ((rows.take i).map intsOf)) (hys : IntsAre ys (ks.map fun (k : Nat) => (k : Int)))
    (nd : ND ((rl, listOf rs.toArray kk) :: (I, oI) :: ((hdrL P hx hd hl k1 its n ++ tups) ++ (bs ++ (D, listOf ys.toArray ep) :: objs))))
    (F : Fr h₀ L h' (fun y => if y = wordN then vw else m₀ y)) (N : News h₀ L h' ((rl, listOf (rs.toArray.push (.ref D)) kk') :: (I, oI) :: ((hdrL P hx hd hl k1 its n ++ tups) ++ (bs ++ (D, listOf ys.toArray ep) :: objs)))) :
    InvPostL h₀ L (rowJ P hx hd hl k1 its n tups bs rl rows m₀ (i + 1)) I oI { s with heap := h, toks := tk } Q .next { s with heap := h', toks := tk' } := by
  have e : rs.toArray.push (Value.ref D) = (rs ++ [Value.ref D]).toArray := by simp
  rw [e] at N
  have nd1 : ND ((I, oI) :: (rl, listOf (rs ++ [Value.ref D]).toArray kk') :: ((hdrL P hx hd hl k1 its n ++ tups) ++ (bs ++ (D, listOf ys.toArray ep) :: objs))) := ND.perm (ND.same (l' := (rl, listOf (rs ++ [Value.ref D]).toArray kk') :: (I, oI) :: ((hdrL P hx hd hl k1 its n ++ tups) ++ (bs ++ (D, listOf ys.toArray ep) :: objs))) nd rfl) (List.Perm.swap _ _ _)
  refine ⟨h', tk', _, (rl, listOf (rs ++ [Value.ref D]).toArray kk') :: ((hdrL P hx hd hl k1 its n ++ tups) ++ (bs ++ (D, listOf ys.toArray ep) :: objs)), rfl, F, nsub N fun q hq => (List.Perm.swap _ _ _).mem_iff.mp hq, fun q hq e => ?_, vw, rs ++ [Value.ref D], kk', (D, listOf ys.toArray ep) :: objs, rfl, rfl, ?_, nd1.tail⟩
  · have := (List.nodup_cons.mp nd1).1
    exact this (e ▸ List.mem_map_of_mem (f := (·.1)) hq)
  · rw [List.take_add_one, hk]
    simp only [Option.toList_some, List.map_append, List.map_cons, List.map_nil]
    exact (hR.mono fun q hq => .tail _ hq).snoc (.head _) hys
set_option maxHeartbeats 4000000 in
theorem seg11 (hE : PassesOwn (model PW w) (lawA L a ccd) (lawE L a ccd) E) (B : Below A₀ base [] h₀) (X : (KK w.params).In h₀) (T : Top topProg LX mean mg mb h₀) (ps : List (Str × Str)) (hpn : ps.length ≤ 20) (hpl : ∀ p ∈ ps, p.1.length ≤ 100)
    (hx hd hl : Addr) (o1 : @LT.lt Nat _ hd hx) (o2 : @LT.lt Nat _ hx hl) (k1 : Tok) (its : Array Value) (n : Nat) (tups bs : List (Addr × Obj)) (htup : TupsAt tups its.toList ps) (rl fl : Addr)
    (raws : List (List Nat)) (rows : List (List Nat)) (hrr : rows.length = raws.length) (hrl : raws.length ≤ 3) (fs : List Value) (fk : Nat) (hfs : StrsAre fs (raws.map sOf)) (hfl : (fl, listOf fs.toArray fk) ∈ bs)
    (hraw : ∀ (i : Nat) (r : List Nat), raws[i]? = some r → r.length ≤ 60 ∧ (∀ x ∈ prepL r, x.length ≤ 8) ∧ (prepS r).length ≤ 100 ∧ (Txt.upper (prepS r)).length ≤ 100 ∧ (Txt.lower (Txt.upper (prepS r))).cps.toList.all okC = true ∧ ∃ ks : List Nat, rows[i]? = some ks ∧ getP ps (Txt.upper (prepS r)) = ks.map strK ∧ ∀ k ∈ ks, k < 20)
    (nd : ND ((rl, listOf #[] 0) :: ((hdrL w.params hx hd hl k1 its n ++ tups) ++ bs)))
    (hf : m (Str.ofString "table") = some (.ref hx)) (hm : m (Str.ofString "first") = some (.ref fl)) (hmr : m (Str.ofString "rows") = some (.ref rl)) (F : Fr h₀ L s.heap m) (N : News h₀ L s.heap ((rl, listOf #[] 0) :: ((hdrL w.params hx hd hl k1 its n ++ tups) ++ bs)))
    (next : ∀ m₁ news₁ h tk, rowJ w.params hx hd hl k1 its n tups bs rl rows m rows.length m₁ news₁ → Fr h₀ L h m₁ → News h₀ L h news₁ → wpAny (model PW w) (lawA L a ccd) (execs (lawSt.drop 12) (lawE L a ccd)) Q E { s with heap := h, toks := tk }) :
    wpAny (model PW w) (lawA L a ccd) (execs (lawSt.drop 11) (lawE L a ccd)) Q E s := by
  refine cut11 (P := fun b => wpAny (model PW w) (lawA L a ccd) (execs b (lawE L a ccd)) Q E s) (by with_unfolding_all exact rfl) fun rest hrest => ?_
  rw [← hrest] at next
  have hfsl := hfs.length
  rw [List.length_map] at hfsl
  have hzi : its.size ≤ 1000 := by have := htup.1; rw [Array.length_toList] at this; omega
  (repeat' (first | with_reducible ((show wpAny _ _ (exec (Stmt.For _ _ _ _ _) _) _ _ _); ((with_reducible show wpAny _ _ (exec (Stmt.For (Expr.Name _ _) _ _ [] _) _) _ _ _); (with_reducible rename Fr _ _ _ _ => Fzz); (with_unfolding_all refine for_F Fzz (by rfl) (by rfl) ?_ (by intro _; rfl) (by assumption)))) | with_reducible ((show wpAny _ _ (call (Value.ref _) _) _ _ _); (k_dflt ( (with_reducible show wpAny _ _ (call (Value.ref 245) _) _ _ _); (refine' SumT.use (sum_getall _ _ _ ?zzj1 ?zzj2 _ _ _ ?zzj3 _ _ ?zzj4 _ _ ?zzj5 ?zzj6 ?zzj7) ?zzja ?zzjB ?zzjF ?zzjX ?zzjN ?zzjo ?zzjT ?zzjk ?zzjd ?zzju ?_; (case zzjF => k_asm); (case zzja => exact rfl); (case zzjB => k_asm); (case zzjX => k_asm); (case zzjT => k_asm); (case zzjk => exact rfl); (case zzjd => decide +kernel); (case zzju => decide +kernel); (case zzjN => exact (by k_asm)); (case zzj4 => assumption); (case zzjo => (rename ND _ => nd9; exact ND.off nd9)); (case zzj1 => assumption); (case zzj2 => assumption); (case zzj3 => assumption); (case zzj5 => assumption); (case zzj6 => assumption); (case zzj7 => assumption)); intro vzz newzz hzz tkzz hPzz Fzz Nzz hfzz; (obtain ⟨Dzz, uszz, ezz, e1zz, huszz, e2zz⟩ := hPzz); subst e1zz; subst e2zz))) | with_reducible ((show wpAny _ _ (call (Value.ref _) _) _ _ _); (k_dflt ( (with_reducible show wpAny _ _ (call (Value.ref 329) _) _ _ _); (refine' SumT.use (sum_prep _ _ ?zzj1 ?zzj2) ?zzja ?zzjB ?zzjF ?zzjX ?zzjN ?zzjo ?zzjT ?zzjk ?zzjd ?zzju ?_; (case zzjF => k_asm); (case zzja => exact rfl); (case zzjB => k_asm); (case zzjX => k_asm); (case zzjT => k_asm); (case zzjk => exact rfl); (case zzjd => decide +kernel); (case zzju => decide +kernel); (case zzjN => exact News.toNil (by k_asm)); (case zzjo => exact off_nil); (case zzj1 => assumption); (case zzj2 => assumption)); intro vzz newzz hzz tkzz hPzz Fzz Nzz hfzz; clear hfzz; (obtain ⟨e1zz, e2zz⟩ := hPzz); (obtain ⟨tzz, e1zz⟩ := e1zz); subst e1zz; subst e2zz; (replace Nzz := News.nil Nzz)))) | walk_at "st"))
  unfold CompHold
  k_dflt (refine' iter_ledL (l := fl) (its := fs.toArray) (k := fk) (rowJ w.params hx hd hl k1 its n tups bs rl rows m) ?jh ?jF ?jN ⟨_, [], 0, [], ?j0, ?jn, RowsAt.nil, nd⟩ ?jl ⟨?jturn, ?jdone⟩)
  case jh => exact rfl
  case jF => k_asm
  case jN => exact N
  case j0 => exact (eq_setW m).symm
  case jn => rw [List.append_nil]
  case jl =>
    rintro i m₁ news₁ ⟨v, rs, kk, objs, rfl, rfl, hR, nd⟩
    exact .tail _ (List.mem_append_right _ (List.mem_append_left _ hfl))
  case jdone =>
    rintro m₁ news₁ h tk hJ F1 N1
    rw [show fs.toArray.size = rows.length from by rw [List.size_toArray, hfsl, hrr]] at hJ
    exact next m₁ news₁ h tk hJ F1 N1
  case jturn =>
    clear nd
    rintro i v m₁ news₁ h tk I oI hi hv ⟨v', rs, kk, objs, rfl, rfl, hR, nd⟩ hI hsI F1 N1
    have F2 : Fr h₀ L h (fun y => if y = wordN then some v else m y) := by rw [← setW (v' := v')]; exact F1
    clear F1
    obtain ⟨y, ty, hv1, hv2⟩ := hfs.item i v (by simpa using hv)
    rw [List.getElem?_map] at hv2
    obtain ⟨r, hr, rfl⟩ := Option.map_eq_some_iff.mp hv2
    subst hv1
    obtain ⟨g1, g2, g3, g4, g5, ks, g6, g7, g8⟩ := hraw i r hr
    have nd0 : ND ((I, oI) :: (rl, listOf rs.toArray kk) :: ((hdrL w.params hx hd hl k1 its n ++ tups) ++ (bs ++ objs))) := ND.cons nd hI
    have nd2 : ND ((hdrL w.params hx hd hl k1 its n ++ tups) ++ ((rl, listOf rs.toArray kk) :: (I, oI) :: (bs ++ objs))) := ND.perm nd0 perm4
    have N2 : News h₀ L h ((hdrL w.params hx hd hl k1 its n ++ tups) ++ ((rl, listOf rs.toArray kk) :: (I, oI) :: (bs ++ objs))) := nsub N1 fun q hq => (perm4.mem_iff).mpr hq
    clear N1
    have hj1 : (sOf r).cps.size ≤ 60 := by show r.toArray.size ≤ 60; rw [List.size_toArray]; exact g1
    have hj2 : ∀ a ∈ prepL (sOf r).cps.toList, a.length ≤ 8 := g2
    have hj3 : (prepS (sOf r).cps.toList).length ≤ 100 := g3
    have hj4 : (Txt.upper (prepS (sOf r).cps.toList)).length ≤ 100 := g4
    have hj5 : (Txt.lower (Txt.upper (prepS (sOf r).cps.toList))).cps.toList.all okC = true := g5
    (repeat' (first | with_reducible ((show wpAny _ _ (exec (Stmt.For _ _ _ _ _) _) _ _ _); ((with_reducible show wpAny _ _ (exec (Stmt.For (Expr.Name _ _) _ _ [] _) _) _ _ _); (with_reducible rename Fr _ _ _ _ => Fzz); (with_unfolding_all refine for_F Fzz (by rfl) (by rfl) ?_ (by intro _; rfl) (by assumption)))) | with_reducible ((show wpAny _ _ (call (Value.ref _) _) _ _ _); (k_dflt ( (with_reducible show wpAny _ _ (call (Value.ref 245) _) _ _ _); (refine' SumT.use (sum_getall _ _ _ ?zzj1 ?zzj2 _ _ _ ?zzj3 _ _ ?zzj4 _ _ ?zzj5 ?zzj6 ?zzj7) ?zzja ?zzjB ?zzjF ?zzjX ?zzjN ?zzjo ?zzjT ?zzjk ?zzjd ?zzju ?_; (case zzjF => k_asm); (case zzja => exact rfl); (case zzjB => k_asm); (case zzjX => k_asm); (case zzjT => k_asm); (case zzjk => exact rfl); (case zzjd => decide +kernel); (case zzju => decide +kernel); (case zzjN => exact (by k_asm)); (case zzj4 => assumption); (case zzjo => (rename ND _ => nd9; exact ND.off nd9)); (case zzj1 => assumption); (case zzj2 => assumption); (case zzj3 => assumption); (case zzj5 => assumption); (case zzj6 => assumption); (case zzj7 => assumption)); intro vzz newzz hzz tkzz hPzz Fzz Nzz hfzz; (obtain ⟨Dzz, uszz, ezz, e1zz, huszz, e2zz⟩ := hPzz); subst e1zz; subst e2zz))) | with_reducible ((show wpAny _ _ (call (Value.ref _) _) _ _ _); (k_dflt ( (with_reducible show wpAny _ _ (call (Value.ref 329) _) _ _ _); (refine' SumT.use (sum_prep _ _ ?zzj1 ?zzj2) ?zzja ?zzjB ?zzjF ?zzjX ?zzjN ?zzjo ?zzjT ?zzjk ?zzjd ?zzju ?_; (case zzjF => k_asm); (case zzja => exact rfl); (case zzjB => k_asm); (case zzjX => k_asm); (case zzjT => k_asm); (case zzjk => exact rfl); (case zzjd => decide +kernel); (case zzju => decide +kernel); (case zzjN => exact News.toNil (by k_asm)); (case zzjo => exact off_nil); (case zzj1 => assumption); (case zzj2 => assumption)); intro vzz newzz hzz tkzz hPzz Fzz Nzz hfzz; clear hfzz; (obtain ⟨e1zz, e2zz⟩ := hPzz); (obtain ⟨tzz, e1zz⟩ := e1zz); subst e1zz; subst e2zz; (replace Nzz := News.nil Nzz)))) | walk_at "st"))
    unfold CompHold
    k_dflt (refine' comp_evalC ?jF0 ?hclos ?hcell ?hkind ?hnames ?hxx ?hit ?hs)
    case jF0 => k_asm
    case hclos => with_unfolding_all rfl
    case hcell => decide
    case hkind => exact rfl
    case hnames => decide
    case hxx => decide
    case hs => intro x; rfl
    case hit =>
      (repeat' (first | with_reducible ((show wpAny _ _ (exec (Stmt.For _ _ _ _ _) _) _ _ _); ((with_reducible show wpAny _ _ (exec (Stmt.For (Expr.Name _ _) _ _ [] _) _) _ _ _); (with_reducible rename Fr _ _ _ _ => Fzz); (with_unfolding_all refine for_F Fzz (by rfl) (by rfl) ?_ (by intro _; rfl) (by assumption)))) | with_reducible ((show wpAny _ _ (call (Value.ref _) _) _ _ _); (k_dflt ( (with_reducible show wpAny _ _ (call (Value.ref 245) _) _ _ _); (refine' SumT.use (sum_getall _ _ _ ?zzj1 ?zzj2 _ _ _ ?zzj3 _ _ ?zzj4 _ _ ?zzj5 ?zzj6 ?zzj7) ?zzja ?zzjB ?zzjF ?zzjX ?zzjN ?zzjo ?zzjT ?zzjk ?zzjd ?zzju ?_; (case zzjF => k_asm); (case zzja => exact rfl); (case zzjB => k_asm); (case zzjX => k_asm); (case zzjT => k_asm); (case zzjk => exact rfl); (case zzjd => decide +kernel); (case zzju => decide +kernel); (case zzjN => exact (by k_asm)); (case zzj4 => assumption); (case zzjo => (rename ND _ => nd9; exact ND.off nd9)); (case zzj1 => assumption); (case zzj2 => assumption); (case zzj3 => assumption); (case zzj5 => assumption); (case zzj6 => assumption); (case zzj7 => assumption)); intro vzz newzz hzz tkzz hPzz Fzz Nzz hfzz; (obtain ⟨Dzz, uszz, ezz, e1zz, huszz, e2zz⟩ := hPzz); subst e1zz; subst e2zz))) | with_reducible ((show wpAny _ _ (call (Value.ref _) _) _ _ _); (k_dflt ( (with_reducible show wpAny _ _ (call (Value.ref 329) _) _ _ _); (refine' SumT.use (sum_prep _ _ ?zzj1 ?zzj2) ?zzja ?zzjB ?zzjF ?zzjX ?zzjN ?zzjo ?zzjT ?zzjk ?zzjd ?zzju ?_; (case zzjF => k_asm); (case zzja => exact rfl); (case zzjB => k_asm); (case zzjX => k_asm); (case zzjT => k_asm); (case zzjk => exact rfl); (case zzjd => decide +kernel); (case zzju => decide +kernel); (case zzjN => exact News.toNil (by k_asm)); (case zzjo => exact off_nil); (case zzj1 => assumption); (case zzj2 => assumption)); intro vzz newzz hzz tkzz hPzz Fzz Nzz hfzz; clear hfzz; (obtain ⟨e1zz, e2zz⟩ := hPzz); (obtain ⟨tzz, e1zz⟩ := e1zz); subst e1zz; subst e2zz; (replace Nzz := News.nil Nzz)))) | walk_at "st"))
      unfold CompHold
      rename StrsAre _ (getP _ _) => hus2
      rw [show getP ps (Txt.upper (prepS (sOf r).cps.toList)) = ks.map strK from g7] at hus2
      have hul := hus2.length
      rw [List.length_map] at hul
      have hks : ks.length ≤ 100 := by
        have h2 : (getP ps (Txt.upper (prepS r))).length ≤ ps.length := by unfold getP; rw [List.length_map]; exact List.length_filter_le _ _
        rw [g7, List.length_map] at h2
        omega
      refine' iterC_list (rowI ks) ?jh ?jF ?jN ?jm ⟨.nil, rfl, Nat.zero_le _⟩ ?hsz ?turn ?fin
      case jh => exact rfl
      case jF => k_asm
      case jN => k_asm
      case jm => exact .head _
      case hsz => exact rowI_sz (by omega)
      case turn =>
        intro C j v ys ex s' own mC E' hC hv hI hm ct
        obtain ⟨k, tk2, hk, rfl⟩ := strK_ints hus2 hv
        have hk20 := g8 k (List.mem_of_getElem? hk)
        have F1 := ct.F
        have N1 := ct.N
        have nC := ct.ns _ ct.N
        refine TurnGoal.plain ct ?_
        (repeat' (first | with_reducible ((show wpAny _ _ (exec (Stmt.For _ _ _ _ _) _) _ _ _); ((with_reducible show wpAny _ _ (exec (Stmt.For (Expr.Name _ _) _ _ [] _) _) _ _ _); (with_reducible rename Fr _ _ _ _ => Fzz); (with_unfolding_all refine for_F Fzz (by rfl) (by rfl) ?_ (by intro _; rfl) (by assumption)))) | with_reducible ((show wpAny _ _ (call (Value.ref _) _) _ _ _); (k_dflt ( (with_reducible show wpAny _ _ (call (Value.ref 245) _) _ _ _); (refine' SumT.use (sum_getall _ _ _ ?zzj1 ?zzj2 _ _ _ ?zzj3 _ _ ?zzj4 _ _ ?zzj5 ?zzj6 ?zzj7) ?zzja ?zzjB ?zzjF ?zzjX ?zzjN ?zzjo ?zzjT ?zzjk ?zzjd ?zzju ?_; (case zzjF => k_asm); (case zzja => exact rfl); (case zzjB => k_asm); (case zzjX => k_asm); (case zzjT => k_asm); (case zzjk => exact rfl); (case zzjd => decide +kernel); (case zzju => decide +kernel); (case zzjN => exact (by k_asm)); (case zzj4 => assumption); (case zzjo => (rename ND _ => nd9; exact ND.off nd9)); (case zzj1 => assumption); (case zzj2 => assumption); (case zzj3 => assumption); (case zzj5 => assumption); (case zzj6 => assumption); (case zzj7 => assumption)); intro vzz newzz hzz tkzz hPzz Fzz Nzz hfzz; (obtain ⟨Dzz, uszz, ezz, e1zz, huszz, e2zz⟩ := hPzz); subst e1zz; subst e2zz))) | with_reducible ((show wpAny _ _ (call (Value.ref _) _) _ _ _); (k_dflt ( (with_reducible show wpAny _ _ (call (Value.ref 329) _) _ _ _); (refine' SumT.use (sum_prep _ _ ?zzj1 ?zzj2) ?zzja ?zzjB ?zzjF ?zzjX ?zzjN ?zzjo ?zzjT ?zzjk ?zzjd ?zzju ?_; (case zzjF => k_asm); (case zzja => exact rfl); (case zzjB => k_asm); (case zzjX => k_asm); (case zzjT => k_asm); (case zzjk => exact rfl); (case zzjd => decide +kernel); (case zzju => decide +kernel); (case zzjN => exact News.toNil (by k_asm)); (case zzjo => exact off_nil); (case zzj1 => assumption); (case zzj2 => assumption)); intro vzz newzz hzz tkzz hPzz Fzz Nzz hfzz; clear hfzz; (obtain ⟨e1zz, e2zz⟩ := hPzz); (obtain ⟨tzz, e1zz⟩ := e1zz); subst e1zz; subst e2zz; (replace Nzz := News.nil Nzz)))) | walk_at "st"))
        exact EltEnd.mk (g := []) (by k_asm) (by k_asm) (fun _ h => nomatch h) (rowI_next hk hI)
      case fin =>
        intro h D ys ex ep hI2 hD hex h2 tk F3 N3
        obtain ⟨hys, rfl⟩ := rowI_end (by rw [List.size_toArray]; exact hul) hI2
        obtain ⟨N4, nd4, ho4⟩ := row_mid nd0 N3 hD
        clear N3
        have hz4 : rs.toArray.size ≤ sizeLine := by
          have h5 := hR.1
          rw [List.length_map, List.length_take] at h5
          have h6 : rs.length ≤ i := by omega
          have h7 : fs.toArray.size = fs.length := rfl
          rw [sizeLine_eq, List.size_toArray]
          omega
        dsimp only
        (repeat' (first | with_reducible ((show wpAny _ _ (exec (Stmt.For _ _ _ _ _) _) _ _ _); ((with_reducible show wpAny _ _ (exec (Stmt.For (Expr.Name _ _) _ _ [] _) _) _ _ _); (with_reducible rename Fr _ _ _ _ => Fzz); (with_unfolding_all refine for_F Fzz (by rfl) (by rfl) ?_ (by intro _; rfl) (by assumption)))) | with_reducible ((show wpAny _ _ (call (Value.ref _) _) _ _ _); (k_dflt ( (with_reducible show wpAny _ _ (call (Value.ref 245) _) _ _ _); (refine' SumT.use (sum_getall _ _ _ ?zzj1 ?zzj2 _ _ _ ?zzj3 _ _ ?zzj4 _ _ ?zzj5 ?zzj6 ?zzj7) ?zzja ?zzjB ?zzjF ?zzjX ?zzjN ?zzjo ?zzjT ?zzjk ?zzjd ?zzju ?_; (case zzjF => k_asm); (case zzja => exact rfl); (case zzjB => k_asm); (case zzjX => k_asm); (case zzjT => k_asm); (case zzjk => exact rfl); (case zzjd => decide +kernel); (case zzju => decide +kernel); (case zzjN => exact (by k_asm)); (case zzj4 => assumption); (case zzjo => (rename ND _ => nd9; exact ND.off nd9)); (case zzj1 => assumption); (case zzj2 => assumption); (case zzj3 => assumption); (case zzj5 => assumption); (case zzj6 => assumption); (case zzj7 => assumption)); intro vzz newzz hzz tkzz hPzz Fzz Nzz hfzz; (obtain ⟨Dzz, uszz, ezz, e1zz, huszz, e2zz⟩ := hPzz); subst e1zz; subst e2zz))) | with_reducible ((show wpAny _ _ (call (Value.ref _) _) _ _ _); (k_dflt ( (with_reducible show wpAny _ _ (call (Value.ref 329) _) _ _ _); (refine' SumT.use (sum_prep _ _ ?zzj1 ?zzj2) ?zzja ?zzjB ?zzjF ?zzjX ?zzjN ?zzjo ?zzjT ?zzjk ?zzjd ?zzju ?_; (case zzjF => k_asm); (case zzja => exact rfl); (case zzjB => k_asm); (case zzjX => k_asm); (case zzjT => k_asm); (case zzjk => exact rfl); (case zzjd => decide +kernel); (case zzju => decide +kernel); (case zzjN => exact News.toNil (by k_asm)); (case zzjo => exact off_nil); (case zzj1 => assumption); (case zzj2 => assumption)); intro vzz newzz hzz tkzz hPzz Fzz Nzz hfzz; clear hfzz; (obtain ⟨e1zz, e2zz⟩ := hPzz); (obtain ⟨tzz, e1zz⟩ := e1zz); subst e1zz; subst e2zz; (replace Nzz := News.nil Nzz)))) | walk_at "st"))
        exact row_end g6 hR hys nd4 (by k_asm) (by k_asm)
end
section -- L14
local macro_rules | `(tactic| walk_at "z") => `(tactic| skip)
theorem fillL14 : PySem.Challenge.rw_uq0027_01 = PySem.Challenge.rw_uq0027_01 ∧ KK = KK := by
  k_fill
  exact ⟨rfl, rfl⟩
variable {w : World} {mean : ExcName → Option Value} {mg mb : Str → Option Value} {A₀ : Around} {base h₀ : Heap} {L a : Addr} {ccd : Value} {m : Str → Option Value} {s : Shared} {Q : Flow → Shared → Prop} {E : Value → Shared → Prop}
structure BackOk (ns : List Int) (x : Int) : Prop where
  h : ∀ r, brPost ns x r → 1 ≤ r
theorem len_intsL {prog : Program} {w : World} {A : Around} {E : Value → Shared → Prop} {s : Shared} {a : Addr} {l : List Value} {ns : List Int} {Q : Value → Shared → Prop} (hl : s.heap.IsList a l.toArray) (hi : IntsAre l ns) (hfit : ns.length ≤ 1000)
    (h : Q (.int ns.length (s.toks + 1)) { s with toks := s.toks + 1 + 1 }) : wpAny (model prog w) A (call (.builtin "len") [.ref a]) Q E s := by
  have e : l.toArray.size = ns.length := by rw [List.size_toArray]; exact hi.length
  refine len_list hl (by rw [e]; omega) ?_
  rw [e]
  exact h
theorem SumT.ro {w : World} {mean : ExcName → Option Value} {mg mb : Str → Option Value} {f : Value} {vs : List Value} {kw : List (Str × Value)} {dpn unn : Nat} {l : Addr} {o : Obj} {P : Value → Prop} {Post : Value → List (Addr × Obj) → Prop} (S : SumT w mean mg mb f vs kw dpn unn [(l, o)] Post) (hPost : ∀ v new, Post v new → P v ∧ new = [(l, o)])
    {news : List (Addr × Obj)} {dp un : Nat} {gd : Option (List Code)} {cn : Str} {cs : Scope} {a : Addr} {ccd : Value} {cl : List (Str × Addr)} {outer : List Env} {A₀ AA : Around} {base h₀ : Heap} {L : Addr} {m : Str → Option Value} {s : Shared} {Q E : Value → Shared → Prop} (hm : (l, o) ∈ news)
    (hAA : AA = ktrTop dp un gd cn cs L a ccd cl outer) (B : Below A₀ base outer h₀) (F : Fr h₀ L s.heap m) (X : (KK w.params).In h₀) (N : News h₀ L s.heap news) (T : Top topProg LX mean mg mb h₀) (hk : cs.kind = .function) (hdp : dp + dpn < recursionLimit) (hun : un + unn < cLine)
    (hret : ∀ v h' tk, P v → Fr h₀ L h' m → News h₀ L h' news → Q v { s with heap := h', toks := tk }) : wpAny (model PW w) AA (call f vs kw) Q E s := by
  refine S.use (news := news.filter fun p => decide (p.1 ≠ l)) hAA B F X (fun p hp => ?_) (fun p hp b hb => ?_) T hk hdp hun ?_
  · rcases List.mem_append.mp hp with h | h
    · rw [List.mem_singleton.mp h]; exact N _ hm
    · exact N _ (List.mem_filter.mp h).1
  · rw [List.mem_singleton.mp hb]
    exact of_decide_eq_true (List.mem_filter.mp hp).2
  · intro v new h' tk hP F' N' _
    obtain ⟨hv, rfl⟩ := hPost v new hP
    refine hret v h' tk hv F' fun p hp => ?_
    by_cases e : p.1 = l
    · have e2 : p = (l, o) := by
        have h1 := (N p hp).1
        rw [e, (N _ hm).1] at h1
        exact Prod.ext e (Option.some.inj h1).symm
      rw [e2]
      exact N' _ (.head _)
    · exact N' p (List.mem_append_right _ (List.mem_filter.mpr ⟨hp, decide_eq_true e⟩))
local macro_rules | `(tactic| walk_at "eval Name") => `(tactic| walk_at "m4")
local macro_rules | `(tactic| walk_at "eval Name") => `(tactic| walk_at "m3")
local macro_rules | `(tactic| k_mem) => `(tactic| ((with_reducible_and_instances apply List.mem_append_left); assumption))
local macro_rules | `(tactic| walk_at "call builtin:list.append") => `(tactic| (k_here; (with_reducible refine comp_hold ?_)))
local macro_rules | `(tactic| walk_at "newTuple") => `(tactic| walk_at "m2")
local macro_rules | `(tactic| walk_at "pyIter ref") => `(tactic| (k_here; (with_reducible refine comp_hold ?_)))

set_option maxHeartbeats 4000000 in
theorem seg12 (B : Below A₀ base [] h₀) (X : (KK w.params).In h₀) (T : Top topProg LX mean mg mb h₀) (news : List (Addr × Obj))
    (F : Fr h₀ L s.heap m) (N : News h₀ L s.heap news)
    (next : ∀ tl h tk t, Fr h₀ L h (fun y => if y = Str.ofString "start" then some (.int 0 t) else if y = Str.ofString "told" then some (.ref tl) else m y) → News h₀ L h ((tl, listOf #[] 0) :: news) → (∀ p ∈ news, p.1 < tl) → wpAny (model PW w) (lawA L a ccd) (execs (lawSt.drop 14) (lawE L a ccd)) Q E { s with heap := h, toks := tk }) :
    wpAny (model PW w) (lawA L a ccd) (execs (lawSt.drop 12) (lawE L a ccd)) Q E s := by
  refine cut12 (P := fun b => wpAny (model PW w) (lawA L a ccd) (execs b (lawE L a ccd)) Q E s) (by with_unfolding_all exact rfl) fun rest hrest => ?_
  (repeat' (first | with_reducible ((show wpAny _ _ (exec (Stmt.For _ _ _ _ _) _) _ _ _); ((with_reducible show wpAny _ _ (exec (Stmt.For (Expr.Name _ _) _ _ [] _) _) _ _ _); (with_reducible rename Fr _ _ _ _ => Fzz); (with_unfolding_all refine for_F Fzz (by rfl) (by rfl) ?_ (by intro _; rfl) (by assumption)))) | with_reducible ((show wpAny _ _ (call (Value.builtin "len") _) _ _ _); ((with_reducible show wpAny _ _ (call (Value.builtin "len") [Value.ref _]) _ _ _); k_dflt (refine' len_intsL ?zzk1 ?zzk2 ?zzk3 ?_; (case zzk1 => exact News.isList (by k_asm) (by k_mem)); (case zzk2 => assumption); (case zzk3 => omega)))) | with_reducible ((show wpAny _ _ (subscriptTail _ _ (Value.ref _) _) _ _ _); ((with_reducible show wpAny _ _ (subscriptTail _ _ (Value.ref _) (Value.int _ _)) _ _ _); k_dflt (refine' ksa_sub ?zza ?zzb ?zzc ?zzd ?zze ?zzf ?_ ?zzg; (case zza => k_asm); (case zzb => k_mem); (case zzc => assumption); (case zzd => omega); (case zze => omega); (case zzf => omega); (case zzg => with_unfolding_all rfl)); intro tzz)) | with_reducible ((show wpAny _ _ (subscriptTail _ _ (Value.ref _) _) _ _ _); ((with_reducible show wpAny _ _ (subscriptTail _ _ (Value.ref _) (Value.int _ _)) _ _ _); (rename BackOk _ _ => hb9); (rename brPost _ _ _ => hr9); (have q9 := hb9.h _ hr9); k_dflt (refine' ksa_sub ?zza ?zzb ?zzc ?zzd ?zze ?zzf ?_ ?zzg; (case zza => k_asm); (case zzb => k_mem); (case zzc => assumption); (case zzd => omega); (case zze => omega); (case zzf => omega); (case zzg => with_unfolding_all rfl)); intro tzz)) | with_reducible ((show wpAny _ _ (call (Value.ref _) _) _ _ _); (k_dflt ( (with_reducible show wpAny _ _ (call (Value.ref 47) _) _ _ _); (refine' SumT.ro (sum_br _ _ _ _ ?zzj1 ?zzj2 _ _ ?zzj3) (fun _ _ h => h) ?zzjm ?zzja ?zzjB ?zzjF ?zzjX ?zzjN ?zzjT ?zzjk ?zzjd ?zzju ?_; (case zzjF => k_asm); (case zzja => exact rfl); (case zzjB => k_asm); (case zzjX => k_asm); (case zzjT => k_asm); (case zzjk => exact rfl); (case zzjd => decide +kernel); (case zzju => decide +kernel); (case zzjN => k_asm); (case zzjm => k_mem); (case zzj1 => assumption); (case zzj2 => assumption); (case zzj3 => assumption)); intro vzz hzz tkzz hPzz Fzz Nzz; (obtain ⟨rzz, tzz, e1zz, hrzz⟩ := hPzz); subst e1zz; (have hlozz := hrzz.1); (have hhizz := hrzz.2.1)))) | with_reducible ((show wpAny _ _ (call (Value.ref _) _) _ _ _); (k_dflt ( (with_reducible show wpAny _ _ (call (Value.ref 56) _) _ _ _); (refine' SumT.ro (sum_bl _ _ _ _ ?zzj1 ?zzj2 _ _ ?zzj3) (fun _ _ h => h) ?zzjm ?zzja ?zzjB ?zzjF ?zzjX ?zzjN ?zzjT ?zzjk ?zzjd ?zzju ?_; (case zzjF => k_asm); (case zzja => exact rfl); (case zzjB => k_asm); (case zzjX => k_asm); (case zzjT => k_asm); (case zzjk => exact rfl); (case zzjd => decide +kernel); (case zzju => decide +kernel); (case zzjN => k_asm); (case zzjm => k_mem); (case zzj1 => assumption); (case zzj2 => assumption); (case zzj3 => assumption)); intro vzz hzz tkzz hPzz Fzz Nzz; (obtain ⟨rzz, tzz, e1zz, hrzz⟩ := hPzz); subst e1zz; (have hlozz := hrzz.1); (have hhizz := hrzz.2.1)))) | walk_at "st"))
  subst hrest
  refine cut13 (P := fun b => wpAny (model PW w) (lawA L a ccd) (execs b (lawE L a ccd)) Q E _) (by with_unfolding_all exact rfl) fun rest hrest => ?_
  rw [← hrest] at next
  (repeat' (first | with_reducible ((show wpAny _ _ (exec (Stmt.For _ _ _ _ _) _) _ _ _); ((with_reducible show wpAny _ _ (exec (Stmt.For (Expr.Name _ _) _ _ [] _) _) _ _ _); (with_reducible rename Fr _ _ _ _ => Fzz); (with_unfolding_all refine for_F Fzz (by rfl) (by rfl) ?_ (by intro _; rfl) (by assumption)))) | with_reducible ((show wpAny _ _ (call (Value.builtin "len") _) _ _ _); ((with_reducible show wpAny _ _ (call (Value.builtin "len") [Value.ref _]) _ _ _); k_dflt (refine' len_intsL ?zzk1 ?zzk2 ?zzk3 ?_; (case zzk1 => exact News.isList (by k_asm) (by k_mem)); (case zzk2 => assumption); (case zzk3 => omega)))) | with_reducible ((show wpAny _ _ (subscriptTail _ _ (Value.ref _) _) _ _ _); ((with_reducible show wpAny _ _ (subscriptTail _ _ (Value.ref _) (Value.int _ _)) _ _ _); k_dflt (refine' ksa_sub ?zza ?zzb ?zzc ?zzd ?zze ?zzf ?_ ?zzg; (case zza => k_asm); (case zzb => k_mem); (case zzc => assumption); (case zzd => omega); (case zze => omega); (case zzf => omega); (case zzg => with_unfolding_all rfl)); intro tzz)) | with_reducible ((show wpAny _ _ (subscriptTail _ _ (Value.ref _) _) _ _ _); ((with_reducible show wpAny _ _ (subscriptTail _ _ (Value.ref _) (Value.int _ _)) _ _ _); (rename BackOk _ _ => hb9); (rename brPost _ _ _ => hr9); (have q9 := hb9.h _ hr9); k_dflt (refine' ksa_sub ?zza ?zzb ?zzc ?zzd ?zze ?zzf ?_ ?zzg; (case zza => k_asm); (case zzb => k_mem); (case zzc => assumption); (case zzd => omega); (case zze => omega); (case zzf => omega); (case zzg => with_unfolding_all rfl)); intro tzz)) | with_reducible ((show wpAny _ _ (call (Value.ref _) _) _ _ _); (k_dflt ( (with_reducible show wpAny _ _ (call (Value.ref 47) _) _ _ _); (refine' SumT.ro (sum_br _ _ _ _ ?zzj1 ?zzj2 _ _ ?zzj3) (fun _ _ h => h) ?zzjm ?zzja ?zzjB ?zzjF ?zzjX ?zzjN ?zzjT ?zzjk ?zzjd ?zzju ?_; (case zzjF => k_asm); (case zzja => exact rfl); (case zzjB => k_asm); (case zzjX => k_asm); (case zzjT => k_asm); (case zzjk => exact rfl); (case zzjd => decide +kernel); (case zzju => decide +kernel); (case zzjN => k_asm); (case zzjm => k_mem); (case zzj1 => assumption); (case zzj2 => assumption); (case zzj3 => assumption)); intro vzz hzz tkzz hPzz Fzz Nzz; (obtain ⟨rzz, tzz, e1zz, hrzz⟩ := hPzz); subst e1zz; (have hlozz := hrzz.1); (have hhizz := hrzz.2.1)))) | with_reducible ((show wpAny _ _ (call (Value.ref _) _) _ _ _); (k_dflt ( (with_reducible show wpAny _ _ (call (Value.ref 56) _) _ _ _); (refine' SumT.ro (sum_bl _ _ _ _ ?zzj1 ?zzj2 _ _ ?zzj3) (fun _ _ h => h) ?zzjm ?zzja ?zzjB ?zzjF ?zzjX ?zzjN ?zzjT ?zzjk ?zzjd ?zzju ?_; (case zzjF => k_asm); (case zzja => exact rfl); (case zzjB => k_asm); (case zzjX => k_asm); (case zzjT => k_asm); (case zzjk => exact rfl); (case zzjd => decide +kernel); (case zzju => decide +kernel); (case zzjN => k_asm); (case zzjm => k_mem); (case zzj1 => assumption); (case zzj2 => assumption); (case zzj3 => assumption)); intro vzz hzz tkzz hPzz Fzz Nzz; (obtain ⟨rzz, tzz, e1zz, hrzz⟩ := hPzz); subst e1zz; (have hlozz := hrzz.1); (have hhizz := hrzz.2.1)))) | walk_at "st"))
  exact next _ _ _ _ (by k_asm) (by k_asm) (by assumption)
noncomputable def Keep (m₀ m₁ : Str → Option Value) : Prop := ∀ z, z ≠ Str.ofString "at" → z ≠ Str.ofString "missing" → z ≠ Str.ofString "row" → z ≠ Str.ofString "k" → z ≠ Str.ofString "behind" → z ≠ Str.ofString "start" → m₁ z = m₀ z
/-- what the search asks of numbers alone -/
structure ToldSpec (n : Nat) (nss : List (List Int)) (Inv : Nat → List (Int × Int) → Prop) (Gr : Nat → Nat → Int → Prop) (Miss : Nat → Prop) (Bk : Nat → Int → Nat → Int → Prop) : Prop where
  g0 : ∀ st tp, Inv st tp → st ≤ n → Gr st 0 st
  g1 : ∀ st i at' r ns, Gr st i at' → nss[i]? = some ns → blPost ns at' r → r < ns.length → Gr st (i + 1) (ns.getD r.toNat 0 + 1)
  gm : ∀ st i at' r ns, Gr st i at' → nss[i]? = some ns → blPost ns at' r → r = ns.length → Miss st
  b0 : ∀ st e, Gr st 3 e → Bk st e 0 e
  b1 : ∀ st e i at' r ns, Bk st e i at' → nss.reverse[i]? = some ns → brPost ns (at' - 1) r → 1 ≤ r ∧ Bk st e (i + 1) (ns.getD (r - 1).toNat 0)
  fin : ∀ st tp e b, Inv st tp → st ≤ n → Bk st e 3 b → ∃ b' : Nat, b = b' ∧ st ≤ b' ∧ b' < n ∧ Inv (b' + 1) (tp ++ [(b, e)])
noncomputable def WhileJ (tl : Addr) (bs : List (Addr × Obj)) (Inv : Nat → List (Int × Int) → Prop) (n : Nat) (m₀ : Str → Option Value) (k : Nat) (m₁ : Str → Option Value) (news₁ : List (Addr × Obj)) : Prop :=
  ∃ st t ts kk objs tp, Keep m₀ m₁ ∧ m₁ (Str.ofString "start") = some (.int ((st : Nat) : Int) t) ∧ news₁ = (tl, listOf (List.toArray ts) kk) :: (bs ++ objs) ∧ (∀ p ∈ bs ++ objs, p.1 ≠ tl) ∧ IntsAt objs ts tp ∧ Inv st tp ∧ st ≤ n ∧ k = n + 1 - st ∧ tp.length ≤ st
noncomputable def GoJ (m₀ : Str → Option Value) (led : List (Addr × Obj)) (Gr : Nat → Int → Prop) (i : Nat) (m₁ : Str → Option Value) (news₁ : List (Addr × Obj)) : Prop :=
  ∃ at' t, Keep m₀ m₁ ∧ m₁ (Str.ofString "at") = some (.int at' t) ∧ m₁ (Str.ofString "missing") = some (.bool false) ∧ news₁ = led ∧ Gr i at'
noncomputable def BackJ (m₀ : Str → Option Value) (e : Int) (led : List (Addr × Obj)) (Bk : Nat → Int → Prop) (i : Nat) (m₁ : Str → Option Value) (news₁ : List (Addr × Obj)) : Prop :=
  ∃ at' t t', Keep m₀ m₁ ∧ m₁ (Str.ofString "at") = some (.int at' t) ∧ m₁ (Str.ofString "behind") = some (.int e t') ∧ news₁ = led ∧ Bk i at'
theorem RowsAt.get {N : List (Addr × Obj)} {rs : List Value} {nss : List (List Int)} (h : RowsAt N rs nss) {i : Nat} {v : Value} (e : rs[i]? = some v) : ∃ ns D vs e', nss[i]? = some ns ∧ v = .ref D ∧ (D, listOf (List.toArray vs) e') ∈ N ∧ IntsAre vs ns := by
  have hi : i < nss.length := by rw [← h.1]; exact (List.getElem?_eq_some_iff.mp e).1
  obtain ⟨D, vs, e', e1, e2, e3⟩ := h.2 i _ (List.getElem?_eq_getElem hi)
  exact ⟨_, D, vs, e', List.getElem?_eq_getElem hi, by rw [e] at e1; exact Option.some.inj e1, e2, e3⟩
theorem RowsAt.rev {N : List (Addr × Obj)} {rs : List Value} {nss : List (List Int)} (h : RowsAt N rs nss) : RowsAt N rs.reverse nss.reverse := by
  refine ⟨by rw [List.length_reverse, List.length_reverse]; exact h.1, fun i ns e => ?_⟩
  have hi : i < nss.length := by have := (List.getElem?_eq_some_iff.mp e).1; rwa [List.length_reverse] at this
  rw [List.getElem?_reverse hi] at e
  obtain ⟨D, vs, e', e1, e2, e3⟩ := h.2 _ ns e
  exact ⟨D, vs, e', by rw [List.getElem?_reverse (by rw [h.1]; exact hi), h.1]; exact e1, e2, e3⟩
theorem go_end {m₀ m₂ : Str → Option Value} {led : List (Addr × Obj)} {Gr : Nat → Int → Prop} {i : Nat} {I : Addr} {oI : Obj} {h h' : Heap} {tk tk' : Nat} {at' : Int} {t : Tok} (hI : ∀ q ∈ led, q.1 ≠ I) (F : Fr h₀ L h' m₂) (N : News h₀ L h' ((I, oI) :: led)) (e1 : m₂ (Str.ofString "at") = some (.int at' t)) (e2 : m₂ (Str.ofString "missing") = some (.bool false)) (hk : Keep m₀ m₂) (hg : Gr (i + 1) at') :
    InvPostL h₀ L (GoJ m₀ led Gr (i + 1)) I oI { s with heap := h, toks := tk } Q .next { s with heap := h', toks := tk' } :=
  ⟨h', tk', m₂, led, rfl, F, N, hI, at', t, hk, e1, e2, rfl, hg⟩
theorem back_end {m₀ m₂ : Str → Option Value} {e : Int} {led : List (Addr × Obj)} {Bk : Nat → Int → Prop} {i : Nat} {I : Addr} {oI : Obj} {h h' : Heap} {tk tk' : Nat} {at' : Int} {t t' : Tok} (hI : ∀ q ∈ led, q.1 ≠ I) (F : Fr h₀ L h' m₂) (N : News h₀ L h' ((I, oI) :: led)) (e1 : m₂ (Str.ofString "at") = some (.int at' t)) (e2 : m₂ (Str.ofString "behind") = some (.int e t')) (hk : Keep m₀ m₂) (hg : Bk (i + 1) at') :
    InvPostL h₀ L (BackJ m₀ e led Bk (i + 1)) I oI { s with heap := h, toks := tk } Q .next { s with heap := h', toks := tk' } :=
  ⟨h', tk', m₂, led, rfl, F, N, hI, at', t, t', hk, e1, e2, rfl, hg⟩
theorem told_mid {h : Heap} {D D2 tl : Addr} {o o2 ot : Obj} {bs objs : List (Addr × Obj)} (N : News h₀ L h ((D, o) :: (D2, o2) :: (tl, ot) :: (bs ++ objs))) (hD : tl < D) (hne : ∀ p ∈ bs ++ objs, p.1 ≠ tl) :
    News h₀ L h ((tl, ot) :: (bs ++ (D, o) :: objs)) ∧ ∀ p ∈ bs ++ (D, o) :: objs, p.1 ≠ tl := by
  refine ⟨nsub N fun q hq => ?_, fun p hp => ?_⟩
  · simp only [List.mem_cons, List.mem_append] at hq ⊢
    rcases hq with h | h | h | h
    · exact .inr (.inr (.inl h))
    · exact .inr (.inr (.inr (.inl h)))
    · exact .inl h
    · exact .inr (.inr (.inr (.inr h)))
  · rcases List.mem_append.mp hp with h | h
    · exact hne p (List.mem_append_left _ h)
    · rcases List.mem_cons.mp h with h | h
      · rw [h]; exact Nat.ne_of_gt hD
      · exact hne p (List.mem_append_right _ h)
theorem told_end {n : Nat} {tl : Addr} {bs objs : List (Addr × Obj)} {Inv : Nat → List (Int × Int) → Prop} {m₀ m₂ : Str → Option Value} {st b : Nat} {e : Int} {tp : List (Int × Int)} {ts : List Value} {D : Addr} {ta tb t : Tok} {h' : Heap} {tk kk : Nat} (hI : IntsAt objs ts tp) (hinv : Inv (b + 1) (tp ++ [((b : Int), e)])) (h1 : st ≤ b) (h2 : b < n) (h3 : st ≤ n) (hne : ∀ p ∈ bs ++ (D, tupI (b : Int) e ta tb) :: objs, p.1 ≠ tl) (htp : tp.length ≤ st)
    (F : Fr h₀ L h' m₂) (N : News h₀ L h' ((tl, listOf (ts.toArray.push (.ref D)) kk) :: (bs ++ (D, tupI (b : Int) e ta tb) :: objs))) (e1 : m₂ (Str.ofString "start") = some (.int ((b : Int) + 1) t)) (hk : Keep m₀ m₂) :
    WhileStep2 h₀ L s (WhileJ tl bs Inv n m₀) Q (n + 1 - st) .next { s with heap := h', toks := tk } := by
  have e9 : ts.toArray.push (Value.ref D) = (ts ++ [Value.ref D]).toArray := by simp
  rw [e9] at N
  refine ⟨h', tk, m₂, _, n + 1 - (b + 1), rfl, F, N, by omega, b + 1, t, ts ++ [Value.ref D], kk, (D, tupI (b : Int) e ta tb) :: objs, tp ++ [((b : Int), e)], hk, ?_, rfl, hne, (hI.mono fun q hq => .tail _ hq).snoc (.head _), hinv, h2, rfl, by rw [List.length_append, List.length_singleton]; omega⟩
  rw [e1]; rfl
set_option maxHeartbeats 4000000 in
theorem seg14 (hE : PassesOwn (model PW w) (lawA L a ccd) (lawE L a ccd) E) (B : Below A₀ base [] h₀) (X : (KK w.params).In h₀) (T : Top topProg LX mean mg mb h₀) (tl rl : Addr) (ke : Nat) (n : Nat) (hn : n ≤ 20) (nss : List (List Int)) (hns : ∀ ns ∈ nss, sortedZ ns = true ∧ ns.length ≤ 100 ∧ ∀ x ∈ ns, 0 ≤ x ∧ x < (n : Int)) (R0 R1 R2 : Addr) (bs : List (Addr × Obj)) (hR : RowsAt bs [.ref R0, .ref R1, .ref R2] nss) (hrl : (rl, listOf [Value.ref R0, .ref R1, .ref R2].toArray ke) ∈ bs)
    (Inv : Nat → List (Int × Int) → Prop) (Gr : Nat → Nat → Int → Prop) (Miss : Nat → Prop) (Bk : Nat → Int → Nat → Int → Prop) (sp : ToldSpec n nss Inv Gr Miss Bk) (h0 : Inv 0 [])
    (hmr : m (Str.ofString "rows") = some (.ref rl)) (hmt : m (Str.ofString "told") = some (.ref tl)) (t0 : Tok) (hms : m (Str.ofString "start") = some (.int 0 t0)) (F : Fr h₀ L s.heap m) (hne : ∀ p ∈ bs, p.1 ≠ tl) (N : News h₀ L s.heap ((tl, listOf #[] 0) :: bs))
    (next : ∀ m₁ ts kk objs tp st h tk, Keep m m₁ → IntsAt objs ts tp → Inv st tp → Miss st → Fr h₀ L h m₁ → News h₀ L h ((tl, listOf (List.toArray ts) kk) :: (bs ++ objs)) → wpAny (model PW w) (lawA L a ccd) (execs (lawSt.drop 15) (lawE L a ccd)) Q E { s with heap := h, toks := tk }) :
    wpAny (model PW w) (lawA L a ccd) (execs (lawSt.drop 14) (lawE L a ccd)) Q E s := by
  refine cut14 (P := fun b => wpAny (model PW w) (lawA L a ccd) (execs b (lawE L a ccd)) Q E s) (by with_unfolding_all exact rfl) fun rest hrest => ?_
  rw [← hrest] at next
  refine wpAny_execs_cons ?_
  k_dflt (refine' While_inv2 (J := WhileJ tl bs Inv n m) (n₀ := n + 1) F N ⟨0, t0, [], 0, [], [], (fun _ _ _ _ _ _ _ => rfl), hms, ?j1, ?j2, IntsAt.nil, h0, Nat.zero_le _, rfl, Nat.zero_le _⟩ ?turn hE)
  case j1 => rw [List.append_nil]
  case j2 => rw [List.append_nil]; exact hne
  case turn =>
    rintro k m₁ news₁ h₁ tk₁ F1 N1 ⟨st, t, ts, kk, objs, tp, hK, hst, rfl, hne2, hI, hinv, hstn, rfl, htp⟩
    have hmr1 : m₁ (Str.ofString "rows") = some (.ref rl) := (hK _ (by decide) (by decide) (by decide) (by decide) (by decide) (by decide)).trans hmr
    (repeat' (first | with_reducible ((show wpAny _ _ (exec (Stmt.For _ _ _ _ _) _) _ _ _); ((with_reducible show wpAny _ _ (exec (Stmt.For (Expr.Name _ _) _ _ [] _) _) _ _ _); (with_reducible rename Fr _ _ _ _ => Fzz); (with_unfolding_all refine for_F Fzz (by rfl) (by rfl) ?_ (by intro _; rfl) (by assumption)))) | with_reducible ((show wpAny _ _ (call (Value.builtin "len") _) _ _ _); ((with_reducible show wpAny _ _ (call (Value.builtin "len") [Value.ref _]) _ _ _); k_dflt (refine' len_intsL ?zzk1 ?zzk2 ?zzk3 ?_; (case zzk1 => exact News.isList (by k_asm) (by k_mem)); (case zzk2 => assumption); (case zzk3 => omega)))) | with_reducible ((show wpAny _ _ (subscriptTail _ _ (Value.ref _) _) _ _ _); ((with_reducible show wpAny _ _ (subscriptTail _ _ (Value.ref _) (Value.int _ _)) _ _ _); k_dflt (refine' ksa_sub ?zza ?zzb ?zzc ?zzd ?zze ?zzf ?_ ?zzg; (case zza => k_asm); (case zzb => k_mem); (case zzc => assumption); (case zzd => omega); (case zze => omega); (case zzf => omega); (case zzg => with_unfolding_all rfl)); intro tzz)) | with_reducible ((show wpAny _ _ (subscriptTail _ _ (Value.ref _) _) _ _ _); ((with_reducible show wpAny _ _ (subscriptTail _ _ (Value.ref _) (Value.int _ _)) _ _ _); (rename BackOk _ _ => hb9); (rename brPost _ _ _ => hr9); (have q9 := hb9.h _ hr9); k_dflt (refine' ksa_sub ?zza ?zzb ?zzc ?zzd ?zze ?zzf ?_ ?zzg; (case zza => k_asm); (case zzb => k_mem); (case zzc => assumption); (case zzd => omega); (case zze => omega); (case zzf => omega); (case zzg => with_unfolding_all rfl)); intro tzz)) | with_reducible ((show wpAny _ _ (call (Value.ref _) _) _ _ _); (k_dflt ( (with_reducible show wpAny _ _ (call (Value.ref 47) _) _ _ _); (refine' SumT.ro (sum_br _ _ _ _ ?zzj1 ?zzj2 _ _ ?zzj3) (fun _ _ h => h) ?zzjm ?zzja ?zzjB ?zzjF ?zzjX ?zzjN ?zzjT ?zzjk ?zzjd ?zzju ?_; (case zzjF => k_asm); (case zzja => exact rfl); (case zzjB => k_asm); (case zzjX => k_asm); (case zzjT => k_asm); (case zzjk => exact rfl); (case zzjd => decide +kernel); (case zzju => decide +kernel); (case zzjN => k_asm); (case zzjm => k_mem); (case zzj1 => assumption); (case zzj2 => assumption); (case zzj3 => assumption)); intro vzz hzz tkzz hPzz Fzz Nzz; (obtain ⟨rzz, tzz, e1zz, hrzz⟩ := hPzz); subst e1zz; (have hlozz := hrzz.1); (have hhizz := hrzz.2.1)))) | with_reducible ((show wpAny _ _ (call (Value.ref _) _) _ _ _); (k_dflt ( (with_reducible show wpAny _ _ (call (Value.ref 56) _) _ _ _); (refine' SumT.ro (sum_bl _ _ _ _ ?zzj1 ?zzj2 _ _ ?zzj3) (fun _ _ h => h) ?zzjm ?zzja ?zzjB ?zzjF ?zzjX ?zzjN ?zzjT ?zzjk ?zzjd ?zzju ?_; (case zzjF => k_asm); (case zzja => exact rfl); (case zzjB => k_asm); (case zzjX => k_asm); (case zzjT => k_asm); (case zzjk => exact rfl); (case zzjd => decide +kernel); (case zzju => decide +kernel); (case zzjN => k_asm); (case zzjm => k_mem); (case zzj1 => assumption); (case zzj2 => assumption); (case zzj3 => assumption)); intro vzz hzz tkzz hPzz Fzz Nzz; (obtain ⟨rzz, tzz, e1zz, hrzz⟩ := hPzz); subst e1zz; (have hlozz := hrzz.1); (have hhizz := hrzz.2.1)))) | walk_at "st"))
    unfold CompHold
    k_dflt (refine' iter_ledL (l := rl) (its := [Value.ref R0, .ref R1, .ref R2].toArray) (k := ke) (GoJ m ((tl, listOf ts.toArray kk) :: (bs ++ objs)) (Gr st)) ?jh ?jF ?jN ⟨(st : Int), t, ?j0, ?j4, ?j5, rfl, sp.g0 st tp hinv hstn⟩ ?jl ⟨?jturn, ?jdone⟩)
    case jh => exact rfl
    case jF => k_asm
    case jN => k_asm
    case j4 => exact rfl
    case j5 => exact rfl
    case j0 => exact fun z h1 h2 h3 h4 h5 h6 => by simpa [h1, h2, h3, h4, h5, h6] using hK z h1 h2 h3 h4 h5 h6
    case jl =>
      rintro i m₂ news₂ ⟨at', t', hK2, e1, e2, rfl, hg⟩
      exact .tail _ (List.mem_append_left _ hrl)
    case jturn =>
      rintro i v m₂ news₂ h tk I oI hi hv ⟨at', t', hK2, e1, e2, rfl, hg⟩ hI2 hsI F2 N2
      obtain ⟨ns, D, vs, e', hns1, rfl, hmem, hints⟩ := hR.get (i := i) (v := v) (by simpa using hv)
      obtain ⟨q1, q2, q3⟩ := hns ns (List.mem_of_getElem? hns1)
      have hbl : ∀ r, blPost ns at' r → 0 ≤ r ∧ r ≤ ns.length := fun r h => ⟨h.1, h.2.1⟩

      (repeat' (first | with_reducible ((show wpAny _ _ (exec (Stmt.For _ _ _ _ _) _) _ _ _); ((with_reducible show wpAny _ _ (exec (Stmt.For (Expr.Name _ _) _ _ [] _) _) _ _ _); (with_reducible rename Fr _ _ _ _ => Fzz); (with_unfolding_all refine for_F Fzz (by rfl) (by rfl) ?_ (by intro _; rfl) (by assumption)))) | with_reducible ((show wpAny _ _ (call (Value.builtin "len") _) _ _ _); ((with_reducible show wpAny _ _ (call (Value.builtin "len") [Value.ref _]) _ _ _); k_dflt (refine' len_intsL ?zzk1 ?zzk2 ?zzk3 ?_; (case zzk1 => exact News.isList (by k_asm) (by k_mem)); (case zzk2 => assumption); (case zzk3 => omega)))) | with_reducible ((show wpAny _ _ (subscriptTail _ _ (Value.ref _) _) _ _ _); ((with_reducible show wpAny _ _ (subscriptTail _ _ (Value.ref _) (Value.int _ _)) _ _ _); k_dflt (refine' ksa_sub ?zza ?zzb ?zzc ?zzd ?zze ?zzf ?_ ?zzg; (case zza => k_asm); (case zzb => k_mem); (case zzc => assumption); (case zzd => omega); (case zze => omega); (case zzf => omega); (case zzg => with_unfolding_all rfl)); intro tzz)) | with_reducible ((show wpAny _ _ (subscriptTail _ _ (Value.ref _) _) _ _ _); ((with_reducible show wpAny _ _ (subscriptTail _ _ (Value.ref _) (Value.int _ _)) _ _ _); (rename BackOk _ _ => hb9); (rename brPost _ _ _ => hr9); (have q9 := hb9.h _ hr9); k_dflt (refine' ksa_sub ?zza ?zzb ?zzc ?zzd ?zze ?zzf ?_ ?zzg; (case zza => k_asm); (case zzb => k_mem); (case zzc => assumption); (case zzd => omega); (case zze => omega); (case zzf => omega); (case zzg => with_unfolding_all rfl)); intro tzz)) | with_reducible ((show wpAny _ _ (call (Value.ref _) _) _ _ _); (k_dflt ( (with_reducible show wpAny _ _ (call (Value.ref 47) _) _ _ _); (refine' SumT.ro (sum_br _ _ _ _ ?zzj1 ?zzj2 _ _ ?zzj3) (fun _ _ h => h) ?zzjm ?zzja ?zzjB ?zzjF ?zzjX ?zzjN ?zzjT ?zzjk ?zzjd ?zzju ?_; (case zzjF => k_asm); (case zzja => exact rfl); (case zzjB => k_asm); (case zzjX => k_asm); (case zzjT => k_asm); (case zzjk => exact rfl); (case zzjd => decide +kernel); (case zzju => decide +kernel); (case zzjN => k_asm); (case zzjm => k_mem); (case zzj1 => assumption); (case zzj2 => assumption); (case zzj3 => assumption)); intro vzz hzz tkzz hPzz Fzz Nzz; (obtain ⟨rzz, tzz, e1zz, hrzz⟩ := hPzz); subst e1zz; (have hlozz := hrzz.1); (have hhizz := hrzz.2.1)))) | with_reducible ((show wpAny _ _ (call (Value.ref _) _) _ _ _); (k_dflt ( (with_reducible show wpAny _ _ (call (Value.ref 56) _) _ _ _); (refine' SumT.ro (sum_bl _ _ _ _ ?zzj1 ?zzj2 _ _ ?zzj3) (fun _ _ h => h) ?zzjm ?zzja ?zzjB ?zzjF ?zzjX ?zzjN ?zzjT ?zzjk ?zzjd ?zzju ?_; (case zzjF => k_asm); (case zzja => exact rfl); (case zzjB => k_asm); (case zzjX => k_asm); (case zzjT => k_asm); (case zzjk => exact rfl); (case zzjd => decide +kernel); (case zzju => decide +kernel); (case zzjN => k_asm); (case zzjm => k_mem); (case zzj1 => assumption); (case zzj2 => assumption); (case zzj3 => assumption)); intro vzz hzz tkzz hPzz Fzz Nzz; (obtain ⟨rzz, tzz, e1zz, hrzz⟩ := hPzz); subst e1zz; (have hlozz := hrzz.1); (have hhizz := hrzz.2.1)))) | walk_at "st"))
      · rename blPost _ _ _ => hr9
        have hmiss := sp.gm st i at' _ ns hg hns1 hr9 (by assumption)
        dsimp only
        unfold InvPostL
        dsimp only
        (repeat' (first | with_reducible ((show wpAny _ _ (exec (Stmt.For _ _ _ _ _) _) _ _ _); ((with_reducible show wpAny _ _ (exec (Stmt.For (Expr.Name _ _) _ _ [] _) _) _ _ _); (with_reducible rename Fr _ _ _ _ => Fzz); (with_unfolding_all refine for_F Fzz (by rfl) (by rfl) ?_ (by intro _; rfl) (by assumption)))) | with_reducible ((show wpAny _ _ (call (Value.builtin "len") _) _ _ _); ((with_reducible show wpAny _ _ (call (Value.builtin "len") [Value.ref _]) _ _ _); k_dflt (refine' len_intsL ?zzk1 ?zzk2 ?zzk3 ?_; (case zzk1 => exact News.isList (by k_asm) (by k_mem)); (case zzk2 => assumption); (case zzk3 => omega)))) | with_reducible ((show wpAny _ _ (subscriptTail _ _ (Value.ref _) _) _ _ _); ((with_reducible show wpAny _ _ (subscriptTail _ _ (Value.ref _) (Value.int _ _)) _ _ _); k_dflt (refine' ksa_sub ?zza ?zzb ?zzc ?zzd ?zze ?zzf ?_ ?zzg; (case zza => k_asm); (case zzb => k_mem); (case zzc => assumption); (case zzd => omega); (case zze => omega); (case zzf => omega); (case zzg => with_unfolding_all rfl)); intro tzz)) | with_reducible ((show wpAny _ _ (subscriptTail _ _ (Value.ref _) _) _ _ _); ((with_reducible show wpAny _ _ (subscriptTail _ _ (Value.ref _) (Value.int _ _)) _ _ _); (rename BackOk _ _ => hb9); (rename brPost _ _ _ => hr9); (have q9 := hb9.h _ hr9); k_dflt (refine' ksa_sub ?zza ?zzb ?zzc ?zzd ?zze ?zzf ?_ ?zzg; (case zza => k_asm); (case zzb => k_mem); (case zzc => assumption); (case zzd => omega); (case zze => omega); (case zzf => omega); (case zzg => with_unfolding_all rfl)); intro tzz)) | with_reducible ((show wpAny _ _ (call (Value.ref _) _) _ _ _); (k_dflt ( (with_reducible show wpAny _ _ (call (Value.ref 47) _) _ _ _); (refine' SumT.ro (sum_br _ _ _ _ ?zzj1 ?zzj2 _ _ ?zzj3) (fun _ _ h => h) ?zzjm ?zzja ?zzjB ?zzjF ?zzjX ?zzjN ?zzjT ?zzjk ?zzjd ?zzju ?_; (case zzjF => k_asm); (case zzja => exact rfl); (case zzjB => k_asm); (case zzjX => k_asm); (case zzjT => k_asm); (case zzjk => exact rfl); (case zzjd => decide +kernel); (case zzju => decide +kernel); (case zzjN => k_asm); (case zzjm => k_mem); (case zzj1 => assumption); (case zzj2 => assumption); (case zzj3 => assumption)); intro vzz hzz tkzz hPzz Fzz Nzz; (obtain ⟨rzz, tzz, e1zz, hrzz⟩ := hPzz); subst e1zz; (have hlozz := hrzz.1); (have hhizz := hrzz.2.1)))) | with_reducible ((show wpAny _ _ (call (Value.ref _) _) _ _ _); (k_dflt ( (with_reducible show wpAny _ _ (call (Value.ref 56) _) _ _ _); (refine' SumT.ro (sum_bl _ _ _ _ ?zzj1 ?zzj2 _ _ ?zzj3) (fun _ _ h => h) ?zzjm ?zzja ?zzjB ?zzjF ?zzjX ?zzjN ?zzjT ?zzjk ?zzjd ?zzju ?_; (case zzjF => k_asm); (case zzja => exact rfl); (case zzjB => k_asm); (case zzjX => k_asm); (case zzjT => k_asm); (case zzjk => exact rfl); (case zzjd => decide +kernel); (case zzju => decide +kernel); (case zzjN => k_asm); (case zzjm => k_mem); (case zzj1 => assumption); (case zzj2 => assumption); (case zzj3 => assumption)); intro vzz hzz tkzz hPzz Fzz Nzz; (obtain ⟨rzz, tzz, e1zz, hrzz⟩ := hPzz); subst e1zz; (have hlozz := hrzz.1); (have hhizz := hrzz.2.1)))) | walk_at "st"))
        refine' next _ ts kk objs tp st _ _ ?jK hI hinv hmiss ?jF1 ?jN1
        case jF1 => k_asm
        case jN1 => first | k_asm | exact nsub (by k_asm) fun q hq => .tail _ hq
        case jK => exact fun z h1 h2 h3 h4 h5 h6 => by simpa [h1, h2, h3, h4, h5, h6] using hK2 z h1 h2 h3 h4 h5 h6
      · rename blPost _ _ _ => hr9
        exact go_end hI2 (by k_asm) (by k_asm) (by exact rfl) (by exact e2) (fun z h1 h2 h3 h4 h5 h6 => by simpa [h1, h2, h3, h4, h5, h6] using hK2 z h1 h2 h3 h4 h5 h6) (sp.g1 st i at' _ ns hg hns1 hr9 (by omega))
    case jdone =>
      rintro m₂ news₂ h tk ⟨e, te, hK2, e1, e2, rfl, hg⟩ F2 N2
      have hmr2 : m₂ (Str.ofString "rows") = some (.ref rl) := (hK2 _ (by decide) (by decide) (by decide) (by decide) (by decide) (by decide)).trans hmr
      have hmt2 : m₂ (Str.ofString "told") = some (.ref tl) := (hK2 _ (by decide) (by decide) (by decide) (by decide) (by decide) (by decide)).trans hmt
      dsimp only
      (repeat' (first | with_reducible ((show wpAny _ _ (exec (Stmt.For _ _ _ _ _) _) _ _ _); ((with_reducible show wpAny _ _ (exec (Stmt.For (Expr.Name _ _) _ _ [] _) _) _ _ _); (with_reducible rename Fr _ _ _ _ => Fzz); (with_unfolding_all refine for_F Fzz (by rfl) (by rfl) ?_ (by intro _; rfl) (by assumption)))) | with_reducible ((show wpAny _ _ (call (Value.builtin "len") _) _ _ _); ((with_reducible show wpAny _ _ (call (Value.builtin "len") [Value.ref _]) _ _ _); k_dflt (refine' len_intsL ?zzk1 ?zzk2 ?zzk3 ?_; (case zzk1 => exact News.isList (by k_asm) (by k_mem)); (case zzk2 => assumption); (case zzk3 => omega)))) | with_reducible ((show wpAny _ _ (subscriptTail _ _ (Value.ref _) _) _ _ _); ((with_reducible show wpAny _ _ (subscriptTail _ _ (Value.ref _) (Value.int _ _)) _ _ _); k_dflt (refine' ksa_sub ?zza ?zzb ?zzc ?zzd ?zze ?zzf ?_ ?zzg; (case zza => k_asm); (case zzb => k_mem); (case zzc => assumption); (case zzd => omega); (case zze => omega); (case zzf => omega); (case zzg => with_unfolding_all rfl)); intro tzz)) | with_reducible ((show wpAny _ _ (subscriptTail _ _ (Value.ref _) _) _ _ _); ((with_reducible show wpAny _ _ (subscriptTail _ _ (Value.ref _) (Value.int _ _)) _ _ _); (rename BackOk _ _ => hb9); (rename brPost _ _ _ => hr9); (have q9 := hb9.h _ hr9); k_dflt (refine' ksa_sub ?zza ?zzb ?zzc ?zzd ?zze ?zzf ?_ ?zzg; (case zza => k_asm); (case zzb => k_mem); (case zzc => assumption); (case zzd => omega); (case zze => omega); (case zzf => omega); (case zzg => with_unfolding_all rfl)); intro tzz)) | with_reducible ((show wpAny _ _ (call (Value.ref _) _) _ _ _); (k_dflt ( (with_reducible show wpAny _ _ (call (Value.ref 47) _) _ _ _); (refine' SumT.ro (sum_br _ _ _ _ ?zzj1 ?zzj2 _ _ ?zzj3) (fun _ _ h => h) ?zzjm ?zzja ?zzjB ?zzjF ?zzjX ?zzjN ?zzjT ?zzjk ?zzjd ?zzju ?_; (case zzjF => k_asm); (case zzja => exact rfl); (case zzjB => k_asm); (case zzjX => k_asm); (case zzjT => k_asm); (case zzjk => exact rfl); (case zzjd => decide +kernel); (case zzju => decide +kernel); (case zzjN => k_asm); (case zzjm => k_mem); (case zzj1 => assumption); (case zzj2 => assumption); (case zzj3 => assumption)); intro vzz hzz tkzz hPzz Fzz Nzz; (obtain ⟨rzz, tzz, e1zz, hrzz⟩ := hPzz); subst e1zz; (have hlozz := hrzz.1); (have hhizz := hrzz.2.1)))) | with_reducible ((show wpAny _ _ (call (Value.ref _) _) _ _ _); (k_dflt ( (with_reducible show wpAny _ _ (call (Value.ref 56) _) _ _ _); (refine' SumT.ro (sum_bl _ _ _ _ ?zzj1 ?zzj2 _ _ ?zzj3) (fun _ _ h => h) ?zzjm ?zzja ?zzjB ?zzjF ?zzjX ?zzjN ?zzjT ?zzjk ?zzjd ?zzju ?_; (case zzjF => k_asm); (case zzja => exact rfl); (case zzjB => k_asm); (case zzjX => k_asm); (case zzjT => k_asm); (case zzjk => exact rfl); (case zzjd => decide +kernel); (case zzju => decide +kernel); (case zzjN => k_asm); (case zzjm => k_mem); (case zzj1 => assumption); (case zzj2 => assumption); (case zzj3 => assumption)); intro vzz hzz tkzz hPzz Fzz Nzz; (obtain ⟨rzz, tzz, e1zz, hrzz⟩ := hPzz); subst e1zz; (have hlozz := hrzz.1); (have hhizz := hrzz.2.1)))) | walk_at "st"))
      unfold CompHold
      rename News _ _ _ _ => N3
      k_dflt (refine' iter_ledL (its := [Value.ref R2, .ref R1, .ref R0].toArray) (k := 0) (BackJ m e _ (Bk st e)) ?jh ?jF ?jN ⟨e, te, te, ?j0, ?j4, ?j5, rfl, sp.b0 st e hg⟩ ?jl ⟨?jturn, ?jdone⟩)
      case jh => exact rfl
      case jF => k_asm
      case jN => exact N3
      case j4 => exact e1
      case j5 => exact rfl
      case j0 => exact fun z h1 h2 h3 h4 h5 h6 => by simpa [h1, h2, h3, h4, h5, h6] using hK2 z h1 h2 h3 h4 h5 h6
      case jl =>
        rintro i m₃ news₃ ⟨at', t', tq, hK3, f1, f2, rfl, hg⟩
        exact .head _
      case jturn =>
        rintro i v m₃ news₃ h tk I oI hi hv ⟨at', t', tq, hK3, f1, f2, rfl, hg3⟩ hI2 hsI F4 N4
        obtain ⟨ns, D, vs, e', hns1, rfl, hmem, hints⟩ := hR.rev.get (i := i) (v := v) (by simpa using hv)
        obtain ⟨q1, q2, q3⟩ := hns ns (List.mem_reverse.mp (List.mem_of_getElem? hns1))
        have hbk : BackOk ns (at' - 1) := ⟨fun r hr => (sp.b1 st e i at' r ns hg3 hns1 hr).1⟩
        (repeat' (first | with_reducible ((show wpAny _ _ (exec (Stmt.For _ _ _ _ _) _) _ _ _); ((with_reducible show wpAny _ _ (exec (Stmt.For (Expr.Name _ _) _ _ [] _) _) _ _ _); (with_reducible rename Fr _ _ _ _ => Fzz); (with_unfolding_all refine for_F Fzz (by rfl) (by rfl) ?_ (by intro _; rfl) (by assumption)))) | with_reducible ((show wpAny _ _ (call (Value.builtin "len") _) _ _ _); ((with_reducible show wpAny _ _ (call (Value.builtin "len") [Value.ref _]) _ _ _); k_dflt (refine' len_intsL ?zzk1 ?zzk2 ?zzk3 ?_; (case zzk1 => exact News.isList (by k_asm) (by k_mem)); (case zzk2 => assumption); (case zzk3 => omega)))) | with_reducible ((show wpAny _ _ (subscriptTail _ _ (Value.ref _) _) _ _ _); ((with_reducible show wpAny _ _ (subscriptTail _ _ (Value.ref _) (Value.int _ _)) _ _ _); k_dflt (refine' ksa_sub ?zza ?zzb ?zzc ?zzd ?zze ?zzf ?_ ?zzg; (case zza => k_asm); (case zzb => k_mem); (case zzc => assumption); (case zzd => omega); (case zze => omega); (case zzf => omega); (case zzg => with_unfolding_all rfl)); intro tzz)) | with_reducible ((show wpAny _ _ (subscriptTail _ _ (Value.ref _) _) _ _ _); ((with_reducible show wpAny _ _ (subscriptTail _ _ (Value.ref _) (Value.int _ _)) _ _ _); (rename BackOk _ _ => hb9); (rename brPost _ _ _ => hr9); (have q9 := hb9.h _ hr9); k_dflt (refine' ksa_sub ?zza ?zzb ?zzc ?zzd ?zze ?zzf ?_ ?zzg; (case zza => k_asm); (case zzb => k_mem); (case zzc => assumption); (case zzd => omega); (case zze => omega); (case zzf => omega); (case zzg => with_unfolding_all rfl)); intro tzz)) | with_reducible ((show wpAny _ _ (call (Value.ref _) _) _ _ _); (k_dflt ( (with_reducible show wpAny _ _ (call (Value.ref 47) _) _ _ _); (refine' SumT.ro (sum_br _ _ _ _ ?zzj1 ?zzj2 _ _ ?zzj3) (fun _ _ h => h) ?zzjm ?zzja ?zzjB ?zzjF ?zzjX ?zzjN ?zzjT ?zzjk ?zzjd ?zzju ?_; (case zzjF => k_asm); (case zzja => exact rfl); (case zzjB => k_asm); (case zzjX => k_asm); (case zzjT => k_asm); (case zzjk => exact rfl); (case zzjd => decide +kernel); (case zzju => decide +kernel); (case zzjN => k_asm); (case zzjm => k_mem); (case zzj1 => assumption); (case zzj2 => assumption); (case zzj3 => assumption)); intro vzz hzz tkzz hPzz Fzz Nzz; (obtain ⟨rzz, tzz, e1zz, hrzz⟩ := hPzz); subst e1zz; (have hlozz := hrzz.1); (have hhizz := hrzz.2.1)))) | with_reducible ((show wpAny _ _ (call (Value.ref _) _) _ _ _); (k_dflt ( (with_reducible show wpAny _ _ (call (Value.ref 56) _) _ _ _); (refine' SumT.ro (sum_bl _ _ _ _ ?zzj1 ?zzj2 _ _ ?zzj3) (fun _ _ h => h) ?zzjm ?zzja ?zzjB ?zzjF ?zzjX ?zzjN ?zzjT ?zzjk ?zzjd ?zzju ?_; (case zzjF => k_asm); (case zzja => exact rfl); (case zzjB => k_asm); (case zzjX => k_asm); (case zzjT => k_asm); (case zzjk => exact rfl); (case zzjd => decide +kernel); (case zzju => decide +kernel); (case zzjN => k_asm); (case zzjm => k_mem); (case zzj1 => assumption); (case zzj2 => assumption); (case zzj3 => assumption)); intro vzz hzz tkzz hPzz Fzz Nzz; (obtain ⟨rzz, tzz, e1zz, hrzz⟩ := hPzz); subst e1zz; (have hlozz := hrzz.1); (have hhizz := hrzz.2.1)))) | walk_at "st"))
        rename brPost _ _ _ => hr9
        exact back_end hI2 (by k_asm) (by k_asm) (by exact rfl) (by exact f2) (fun z h1 h2 h3 h4 h5 h6 => by simpa [h1, h2, h3, h4, h5, h6] using hK3 z h1 h2 h3 h4 h5 h6) (sp.b1 st e i at' _ ns hg3 hns1 hr9).2
      case jdone =>
        rintro m₃ news₃ h tk ⟨b, tb, tq, hK3, f1, f2, rfl, hg3⟩ F4 N4
        obtain ⟨b', hb, hb1, hb2, hinv2⟩ := sp.fin st tp e b hinv hstn hg3
        subst hb
        have hmt3 : m₃ (Str.ofString "told") = some (.ref tl) := (hK3 _ (by decide) (by decide) (by decide) (by decide) (by decide) (by decide)).trans hmt
        dsimp only
        (repeat' (first | with_reducible ((show wpAny _ _ (exec (Stmt.For _ _ _ _ _) _) _ _ _); ((with_reducible show wpAny _ _ (exec (Stmt.For (Expr.Name _ _) _ _ [] _) _) _ _ _); (with_reducible rename Fr _ _ _ _ => Fzz); (with_unfolding_all refine for_F Fzz (by rfl) (by rfl) ?_ (by intro _; rfl) (by assumption)))) | with_reducible ((show wpAny _ _ (call (Value.builtin "len") _) _ _ _); ((with_reducible show wpAny _ _ (call (Value.builtin "len") [Value.ref _]) _ _ _); k_dflt (refine' len_intsL ?zzk1 ?zzk2 ?zzk3 ?_; (case zzk1 => exact News.isList (by k_asm) (by k_mem)); (case zzk2 => assumption); (case zzk3 => omega)))) | with_reducible ((show wpAny _ _ (subscriptTail _ _ (Value.ref _) _) _ _ _); ((with_reducible show wpAny _ _ (subscriptTail _ _ (Value.ref _) (Value.int _ _)) _ _ _); k_dflt (refine' ksa_sub ?zza ?zzb ?zzc ?zzd ?zze ?zzf ?_ ?zzg; (case zza => k_asm); (case zzb => k_mem); (case zzc => assumption); (case zzd => omega); (case zze => omega); (case zzf => omega); (case zzg => with_unfolding_all rfl)); intro tzz)) | with_reducible ((show wpAny _ _ (subscriptTail _ _ (Value.ref _) _) _ _ _); ((with_reducible show wpAny _ _ (subscriptTail _ _ (Value.ref _) (Value.int _ _)) _ _ _); (rename BackOk _ _ => hb9); (rename brPost _ _ _ => hr9); (have q9 := hb9.h _ hr9); k_dflt (refine' ksa_sub ?zza ?zzb ?zzc ?zzd ?zze ?zzf ?_ ?zzg; (case zza => k_asm); (case zzb => k_mem); (case zzc => assumption); (case zzd => omega); (case zze => omega); (case zzf => omega); (case zzg => with_unfolding_all rfl)); intro tzz)) | with_reducible ((show wpAny _ _ (call (Value.ref _) _) _ _ _); (k_dflt ( (with_reducible show wpAny _ _ (call (Value.ref 47) _) _ _ _); (refine' SumT.ro (sum_br _ _ _ _ ?zzj1 ?zzj2 _ _ ?zzj3) (fun _ _ h => h) ?zzjm ?zzja ?zzjB ?zzjF ?zzjX ?zzjN ?zzjT ?zzjk ?zzjd ?zzju ?_; (case zzjF => k_asm); (case zzja => exact rfl); (case zzjB => k_asm); (case zzjX => k_asm); (case zzjT => k_asm); (case zzjk => exact rfl); (case zzjd => decide +kernel); (case zzju => decide +kernel); (case zzjN => k_asm); (case zzjm => k_mem); (case zzj1 => assumption); (case zzj2 => assumption); (case zzj3 => assumption)); intro vzz hzz tkzz hPzz Fzz Nzz; (obtain ⟨rzz, tzz, e1zz, hrzz⟩ := hPzz); subst e1zz; (have hlozz := hrzz.1); (have hhizz := hrzz.2.1)))) | with_reducible ((show wpAny _ _ (call (Value.ref _) _) _ _ _); (k_dflt ( (with_reducible show wpAny _ _ (call (Value.ref 56) _) _ _ _); (refine' SumT.ro (sum_bl _ _ _ _ ?zzj1 ?zzj2 _ _ ?zzj3) (fun _ _ h => h) ?zzjm ?zzja ?zzjB ?zzjF ?zzjX ?zzjN ?zzjT ?zzjk ?zzjd ?zzju ?_; (case zzjF => k_asm); (case zzja => exact rfl); (case zzjB => k_asm); (case zzjX => k_asm); (case zzjT => k_asm); (case zzjk => exact rfl); (case zzjd => decide +kernel); (case zzju => decide +kernel); (case zzjN => k_asm); (case zzjm => k_mem); (case zzj1 => assumption); (case zzj2 => assumption); (case zzj3 => assumption)); intro vzz hzz tkzz hPzz Fzz Nzz; (obtain ⟨rzz, tzz, e1zz, hrzz⟩ := hPzz); subst e1zz; (have hlozz := hrzz.1); (have hhizz := hrzz.2.1)))) | walk_at "st"))
        unfold CompHold
        rename Fr _ _ _ _ => F5
        rename News _ _ _ _ => N5
        obtain ⟨N6, hne6⟩ := told_mid N5 (lt_of_all (l := _ :: _ :: (bs ++ objs)) (by assumption) (.tail _ (.head _))) hne2
        clear N5
        k_dflt (refine' append_K F5 N6 (Upd.head hne6) ?_ ?jz)
        case jz =>
          have h7 := hI.1
          rw [sizeLine_eq, List.size_toArray]
          omega
        intro h6 F6 N6
        (repeat' (first | with_reducible ((show wpAny _ _ (exec (Stmt.For _ _ _ _ _) _) _ _ _); ((with_reducible show wpAny _ _ (exec (Stmt.For (Expr.Name _ _) _ _ [] _) _) _ _ _); (with_reducible rename Fr _ _ _ _ => Fzz); (with_unfolding_all refine for_F Fzz (by rfl) (by rfl) ?_ (by intro _; rfl) (by assumption)))) | with_reducible ((show wpAny _ _ (call (Value.builtin "len") _) _ _ _); ((with_reducible show wpAny _ _ (call (Value.builtin "len") [Value.ref _]) _ _ _); k_dflt (refine' len_intsL ?zzk1 ?zzk2 ?zzk3 ?_; (case zzk1 => exact News.isList (by k_asm) (by k_mem)); (case zzk2 => assumption); (case zzk3 => omega)))) | with_reducible ((show wpAny _ _ (subscriptTail _ _ (Value.ref _) _) _ _ _); ((with_reducible show wpAny _ _ (subscriptTail _ _ (Value.ref _) (Value.int _ _)) _ _ _); k_dflt (refine' ksa_sub ?zza ?zzb ?zzc ?zzd ?zze ?zzf ?_ ?zzg; (case zza => k_asm); (case zzb => k_mem); (case zzc => assumption); (case zzd => omega); (case zze => omega); (case zzf => omega); (case zzg => with_unfolding_all rfl)); intro tzz)) | with_reducible ((show wpAny _ _ (subscriptTail _ _ (Value.ref _) _) _ _ _); ((with_reducible show wpAny _ _ (subscriptTail _ _ (Value.ref _) (Value.int _ _)) _ _ _); (rename BackOk _ _ => hb9); (rename brPost _ _ _ => hr9); (have q9 := hb9.h _ hr9); k_dflt (refine' ksa_sub ?zza ?zzb ?zzc ?zzd ?zze ?zzf ?_ ?zzg; (case zza => k_asm); (case zzb => k_mem); (case zzc => assumption); (case zzd => omega); (case zze => omega); (case zzf => omega); (case zzg => with_unfolding_all rfl)); intro tzz)) | with_reducible ((show wpAny _ _ (call (Value.ref _) _) _ _ _); (k_dflt ( (with_reducible show wpAny _ _ (call (Value.ref 47) _) _ _ _); (refine' SumT.ro (sum_br _ _ _ _ ?zzj1 ?zzj2 _ _ ?zzj3) (fun _ _ h => h) ?zzjm ?zzja ?zzjB ?zzjF ?zzjX ?zzjN ?zzjT ?zzjk ?zzjd ?zzju ?_; (case zzjF => k_asm); (case zzja => exact rfl); (case zzjB => k_asm); (case zzjX => k_asm); (case zzjT => k_asm); (case zzjk => exact rfl); (case zzjd => decide +kernel); (case zzju => decide +kernel); (case zzjN => k_asm); (case zzjm => k_mem); (case zzj1 => assumption); (case zzj2 => assumption); (case zzj3 => assumption)); intro vzz hzz tkzz hPzz Fzz Nzz; (obtain ⟨rzz, tzz, e1zz, hrzz⟩ := hPzz); subst e1zz; (have hlozz := hrzz.1); (have hhizz := hrzz.2.1)))) | with_reducible ((show wpAny _ _ (call (Value.ref _) _) _ _ _); (k_dflt ( (with_reducible show wpAny _ _ (call (Value.ref 56) _) _ _ _); (refine' SumT.ro (sum_bl _ _ _ _ ?zzj1 ?zzj2 _ _ ?zzj3) (fun _ _ h => h) ?zzjm ?zzja ?zzjB ?zzjF ?zzjX ?zzjN ?zzjT ?zzjk ?zzjd ?zzju ?_; (case zzjF => k_asm); (case zzja => exact rfl); (case zzjB => k_asm); (case zzjX => k_asm); (case zzjT => k_asm); (case zzjk => exact rfl); (case zzjd => decide +kernel); (case zzju => decide +kernel); (case zzjN => k_asm); (case zzjm => k_mem); (case zzj1 => assumption); (case zzj2 => assumption); (case zzj3 => assumption)); intro vzz hzz tkzz hPzz Fzz Nzz; (obtain ⟨rzz, tzz, e1zz, hrzz⟩ := hPzz); subst e1zz; (have hlozz := hrzz.1); (have hhizz := hrzz.2.1)))) | walk_at "st"))
        exact told_end hI hinv2 hb1 hb2 (by omega) hne6 htp (by k_asm) (by k_asm) (by exact rfl) (fun z h1 h2 h3 h4 h5 h6 => by simpa [h1, h2, h3, h4, h5, h6] using hK3 z h1 h2 h3 h4 h5 h6)
end
local macro_rules | `(tactic| walk_at "m5") => `(tactic| ((with_reducible apply List.mem_append_right); (with_reducible apply List.mem_append_right); k_mem))
section -- L15
theorem fillL15 : PySem.Challenge.rw_uq0027_01 = PySem.Challenge.rw_uq0027_01 ∧ KK = KK := by
  k_fill
  exact ⟨rfl, rfl⟩
variable {w : World} {mean : ExcName → Option Value} {mg mb : Str → Option Value} {A₀ : Around} {base h₀ : Heap} {L a : Addr} {ccd : Value} {m : Str → Option Value} {s : Shared} {Q : Flow → Shared → Prop} {E : Value → Shared → Prop}
local macro_rules | `(tactic| walk_at "eval Name") => `(tactic| walk_at "m4")
local macro_rules | `(tactic| walk_at "eval Name") => `(tactic| walk_at "m3")
local macro_rules | `(tactic| walk_at "eval ListComp") => `(tactic| (k_here; (with_reducible refine comp_hold ?_)))
local macro_rules | `(tactic| walk_at "pyIter ref") => `(tactic| (k_here; (with_reducible refine comp_hold ?_)))
local macro_rules | `(tactic| k_mem) => `(tactic| walk_at "m5")
local macro_rules | `(tactic| k_mem) => `(tactic| assumption)

noncomputable def endsL (ws : List Str) (n : Nat) : List Int := (List.range n).map fun k => ((endS ws k : Nat) : Int)
noncomputable def endI (ws : List Str) (i : Nat) (ys : List Value) (ex : List (Addr × Obj)) : Prop := IntsAre ys (endsL ws i) ∧ ex = []
theorem endI_sz {ws : List Str} {n : Nat} (hz : n ≤ 1000) : ∀ i ys ex, i ≤ n → endI ws i ys ex → ys.length ≤ sizeLine := by
  intro i ys ex hi hI
  have h1 := hI.1.length
  rw [endsL, List.length_map, List.length_range] at h1
  rw [sizeLine_eq]
  omega
theorem endI_next {ws : List Str} {i : Nat} {ys : List Value} {ex : List (Addr × Obj)} {t : Tok} (hI : endI ws i ys ex) : endI ws (i + 1) (ys ++ [.int ((endS ws i : Nat) : Int) t]) ([] ++ ex) := by
  refine ⟨?_, hI.2⟩
  have e : endsL ws (i + 1) = endsL ws i ++ [((endS ws i : Nat) : Int)] := by simp [endsL, List.range_succ]
  rw [e]
  exact ints_append hI.1 (.cons _ _ .nil)
set_option maxHeartbeats 4000000 in
theorem seg15 (B : Below A₀ base [] h₀) (X : (KK w.params).In h₀) (T : Top topProg LX mean mg mb h₀) (ws : List Str) (hws : ws.length ≤ 20) (hw3 : 3 ≤ ws.length) (wl : Addr) (us : List Value) (ep : Nat) (hus : StrsAre us ws) (oW oE : Obj) (dW : oW.data = .cell (some (.ref wl))) (v₀ : Option Value) (dE : oE.data = .cell v₀) (news : List (Addr × Obj)) (hwl : (wl, listOf us.toArray ep) ∈ news) (hcw : (L + 1, oW) ∈ news)
    (hoff : OwnOff news [L + 1 + 1]) (F : Fr h₀ L s.heap m) (N : News h₀ L s.heap ((L + 1 + 1, oE) :: news))
    (next : ∀ D vs e oE' h tk, IntsAre vs (endsL ws (ws.length + 1)) → oE'.data = .cell (some (.ref D)) → Fr h₀ L h m → News h₀ L h ((D, listOf vs.toArray e) :: (L + 1 + 1, oE') :: news) → wpAny (model PW w) (lawA L a ccd) (execs (lawSt.drop 16) (lawE L a ccd)) Q E { s with heap := h, toks := tk }) :
    wpAny (model PW w) (lawA L a ccd) (execs (lawSt.drop 15) (lawE L a ccd)) Q E s := by
  refine cut15 (P := fun b => wpAny (model PW w) (lawA L a ccd) (execs b (lawE L a ccd)) Q E s) (by with_unfolding_all exact rfl) fun rest hrest => ?_
  rw [← hrest] at next
  (repeat' (first | with_reducible ((show wpAny _ _ (call (Value.builtin "len") _) _ _ _); ((with_reducible show wpAny _ _ (call (Value.builtin "len") [Value.ref _]) _ _ _); k_dflt (refine' len_strsA ?zzk1 ?zzk2 ?zzk3 ?_; (case zzk1 => exact News.isList (by k_asm) (by k_mem)); (case zzk2 => assumption); (case zzk3 => omega)))) | with_reducible ((show wpAny _ _ (call (Value.ref _) _) _ _ _); (k_dflt ( (with_reducible show wpAny _ _ (call (Value.ref 336) _) _ _ _); (refine' SumT.ro (sum_end _ _ _ _ ?zzj0 _ _ ?zzj1 ?zzj2 ?zzj3) (fun _ _ h => h) ?zzjm ?zzja ?zzjB ?zzjF ?zzjX ?zzjN ?zzjT ?zzjk ?zzjd ?zzju ?_; (case zzjF => k_asm); (case zzja => exact rfl); (case zzjB => k_asm); (case zzjX => k_asm); (case zzjT => k_asm); (case zzjk => exact rfl); (case zzjd => decide +kernel); (case zzju => decide +kernel); (case zzjN => k_asm); (case zzjm => k_mem); (case zzj0 => assumption); (case zzj1 => omega); (case zzj2 => assumption); (case zzj3 => omega)); intro vzz hzz tkzz hPzz Fzz Nzz; (obtain ⟨tzz, e1zz⟩ := hPzz); subst e1zz))) | walk_at "st"))
  unfold CompHold
  k_dflt (refine' comp_evalC ?jF0 ?hclos ?hcell ?hkind ?hnames ?hxx ?hit ?hs)
  case jF0 => k_asm
  case hclos => with_unfolding_all rfl
  case hcell => decide
  case hkind => exact rfl
  case hnames => decide
  case hxx => decide
  case hs => intro x; rfl
  case hit =>
    (repeat' (first | with_reducible ((show wpAny _ _ (call (Value.builtin "len") _) _ _ _); ((with_reducible show wpAny _ _ (call (Value.builtin "len") [Value.ref _]) _ _ _); k_dflt (refine' len_strsA ?zzk1 ?zzk2 ?zzk3 ?_; (case zzk1 => exact News.isList (by k_asm) (by k_mem)); (case zzk2 => assumption); (case zzk3 => omega)))) | with_reducible ((show wpAny _ _ (call (Value.ref _) _) _ _ _); (k_dflt ( (with_reducible show wpAny _ _ (call (Value.ref 336) _) _ _ _); (refine' SumT.ro (sum_end _ _ _ _ ?zzj0 _ _ ?zzj1 ?zzj2 ?zzj3) (fun _ _ h => h) ?zzjm ?zzja ?zzjB ?zzjF ?zzjX ?zzjN ?zzjT ?zzjk ?zzjd ?zzju ?_; (case zzjF => k_asm); (case zzja => exact rfl); (case zzjB => k_asm); (case zzjX => k_asm); (case zzjT => k_asm); (case zzjk => exact rfl); (case zzjd => decide +kernel); (case zzju => decide +kernel); (case zzjN => k_asm); (case zzjm => k_mem); (case zzj0 => assumption); (case zzj1 => omega); (case zzj2 => assumption); (case zzj3 => omega)); intro vzz hzz tkzz hPzz Fzz Nzz; (obtain ⟨tzz, e1zz⟩ := hPzz); subst e1zz))) | walk_at "st"))
    unfold CompHold
    refine' iterC_rng (n := ws.length + 1) (endI ws) (by assumption) (small_one (by omega) (by omega) (by omega) (by omega)) ?jn ?jh ?jF ?jN ⟨.nil, rfl⟩ ?hsz ?turn ?fin
    case jh => exact rfl
    case jF => k_asm
    case jN => k_asm
    case jn => rw [rangeSize_one]; split <;> omega
    case hsz => exact endI_sz (by omega)
    case turn =>
      intro C i t ys ex s' own mC E' hC hi hI hm ct
      rw [Int.zero_add] at hm
      have F1 := ct.F
      have N1 := ct.N
      have nC := ct.ns _ ct.N
      refine TurnGoal.plain ct ?_
      (repeat' (first | with_reducible ((show wpAny _ _ (call (Value.builtin "len") _) _ _ _); ((with_reducible show wpAny _ _ (call (Value.builtin "len") [Value.ref _]) _ _ _); k_dflt (refine' len_strsA ?zzk1 ?zzk2 ?zzk3 ?_; (case zzk1 => exact News.isList (by k_asm) (by k_mem)); (case zzk2 => assumption); (case zzk3 => omega)))) | with_reducible ((show wpAny _ _ (call (Value.ref _) _) _ _ _); (k_dflt ( (with_reducible show wpAny _ _ (call (Value.ref 336) _) _ _ _); (refine' SumT.ro (sum_end _ _ _ _ ?zzj0 _ _ ?zzj1 ?zzj2 ?zzj3) (fun _ _ h => h) ?zzjm ?zzja ?zzjB ?zzjF ?zzjX ?zzjN ?zzjT ?zzjk ?zzjd ?zzju ?_; (case zzjF => k_asm); (case zzja => exact rfl); (case zzjB => k_asm); (case zzjX => k_asm); (case zzjT => k_asm); (case zzjk => exact rfl); (case zzjd => decide +kernel); (case zzju => decide +kernel); (case zzjN => k_asm); (case zzjm => k_mem); (case zzj0 => assumption); (case zzj1 => omega); (case zzj2 => assumption); (case zzj3 => omega)); intro vzz hzz tkzz hPzz Fzz Nzz; (obtain ⟨tzz, e1zz⟩ := hPzz); subst e1zz))) | walk_at "st"))
      exact EltEnd.mk (g := []) (by k_asm) (by k_asm) (fun _ h => nomatch h) (endI_next hI)
    case fin =>
      intro h D vs ex e hI hD hex h2 tk F2 N2
      obtain ⟨hvs, rfl⟩ := hI
      rw [List.nil_append] at N2
      have l3 : @LT.lt Nat _ (L + 1 + 1) D := hD (L + 1 + 1, oE) (.head _)
      dsimp only
      (repeat' (first | with_reducible ((show wpAny _ _ (call (Value.builtin "len") _) _ _ _); ((with_reducible show wpAny _ _ (call (Value.builtin "len") [Value.ref _]) _ _ _); k_dflt (refine' len_strsA ?zzk1 ?zzk2 ?zzk3 ?_; (case zzk1 => exact News.isList (by k_asm) (by k_mem)); (case zzk2 => assumption); (case zzk3 => omega)))) | with_reducible ((show wpAny _ _ (call (Value.ref _) _) _ _ _); (k_dflt ( (with_reducible show wpAny _ _ (call (Value.ref 336) _) _ _ _); (refine' SumT.ro (sum_end _ _ _ _ ?zzj0 _ _ ?zzj1 ?zzj2 ?zzj3) (fun _ _ h => h) ?zzjm ?zzja ?zzjB ?zzjF ?zzjX ?zzjN ?zzjT ?zzjk ?zzjd ?zzju ?_; (case zzjF => k_asm); (case zzja => exact rfl); (case zzjB => k_asm); (case zzjX => k_asm); (case zzjT => k_asm); (case zzjk => exact rfl); (case zzjd => decide +kernel); (case zzju => decide +kernel); (case zzjN => k_asm); (case zzjm => k_mem); (case zzj0 => assumption); (case zzj1 => omega); (case zzj2 => assumption); (case zzj3 => omega)); intro vzz hzz tkzz hPzz Fzz Nzz; (obtain ⟨tzz, e1zz⟩ := hPzz); subst e1zz))) | walk_at "st"))
      exact next _ vs e _ _ _ hvs (by assumption) (by k_asm) (by k_asm)
end
section -- L16
theorem fillL16 : PySem.Challenge.rw_uq0027_01 = PySem.Challenge.rw_uq0027_01 ∧ KK = KK := by
  k_fill
  exact ⟨rfl, rfl⟩
variable {w : World} {mean : ExcName → Option Value} {mg mb : Str → Option Value} {A₀ : Around} {base h₀ : Heap} {L a : Addr} {ccd : Value} {m : Str → Option Value} {s : Shared} {Q : Flow → Shared → Prop} {E : Value → Shared → Prop}
local macro_rules | `(tactic| walk_at "eval Name") => `(tactic| walk_at "m4")
local macro_rules | `(tactic| walk_at "eval Name") => `(tactic| walk_at "m3")
local macro_rules | `(tactic| walk_at "eval ListComp") => `(tactic| (k_here; (with_reducible refine comp_hold ?_)))
local macro_rules | `(tactic| walk_at "exec Assign cons ListComp") => `(tactic| (k_here; (with_reducible refine comp_hold ?_)))
local macro_rules | `(tactic| walk_at "pyIter ref") => `(tactic| (k_here; (with_reducible refine comp_hold ?_)))
local macro_rules | `(tactic| k_mem) => `(tactic| walk_at "m5")
local macro_rules | `(tactic| k_mem) => `(tactic| assumption)
local macro_rules | `(tactic| walk_at "compareOp NotEq ref ref") => `(tactic| (k_here; (with_reducible refine comp_hold ?_)))
local macro_rules | `(tactic| walk_at "newTuple") => `(tactic| walk_at "m2")

theorem ends_sub {prog : Program} {w : World} {A : Around} {E : Value → Shared → Prop} {s : Shared} {h₀ : Heap} {L D : Addr} {news : List (Addr × Obj)} {value slice : PySem.Expr} {vs : List Value} {ws : List Str} {n e : Nat} {k : Int} {u : Tok} {Q : Value → Shared → Prop} (N : News h₀ L s.heap news) (hm : (D, listOf vs.toArray e) ∈ news) (hi : IntsAre vs (endsL ws n)) (h0 : 0 ≤ k ∧ n ≤ 1000) (h1 : k < n)
    (h : ∀ t, Q (.int ((endS ws k.toNat : Nat) : Int) t) s) (hs : subscripted slice false (.ref D) (.int k u) = operate [.ref D, .int k u] (getItem (.ref D) (.int k u)) := by with_unfolding_all rfl) :
    wpAny (model prog w) A (subscriptTail value slice (.ref D) (.int k u)) Q E s := by
  have hl : (endsL ws n).length = n := by simp [endsL]
  refine ksa_sub N hm hi h0.1 (by rw [hl]; exact h1) (by omega) (fun t => ?_) hs
  have e1 : (endsL ws n).getD k.toNat 0 = ((endS ws k.toNat : Nat) : Int) := by
    have hk : k.toNat < n := by omega
    simp [endsL, List.getD, hk]
  rw [e1]
  exact h t

noncomputable def dueP (ws : List Str) (k : Nat) : Bool := endS ws k != 0 && endS ws (k + 1) != endS ws k
noncomputable def dueL (ws : List Str) (n : Nat) : List (Int × Int) := ((List.range n).filter (dueP ws)).map fun k => (((k : Nat) : Int), ((endS ws k : Nat) : Int))
noncomputable def dueI (ws : List Str) (i : Nat) (ys : List Value) (ex : List (Addr × Obj)) : Prop := IntsAt ex ys (dueL ws i)
theorem dueL_len (ws : List Str) (n : Nat) : (dueL ws n).length ≤ n := by
  unfold dueL
  rw [List.length_map]
  exact Nat.le_trans (List.length_filter_le _ _) (by rw [List.length_range]; exact Nat.le_refl _)
theorem dueI_sz {ws : List Str} {n : Nat} (hz : n ≤ 1000) : ∀ i ys ex, i ≤ n → dueI ws i ys ex → ys.length ≤ sizeLine := by
  intro i ys ex hi hI
  have h1 := hI.1
  have h2 := dueL_len ws i
  rw [sizeLine_eq]
  omega
theorem dueI_take {ws : List Str} {i : Nat} {ys : List Value} {ex : List (Addr × Obj)} {D : Addr} {ta tb : Tok} (h1 : endS ws i ≠ 0) (h2 : endS ws (i + 1) ≠ endS ws i) (hI : dueI ws i ys ex) : dueI ws (i + 1) (ys ++ [.ref D]) ([(D, tupI ((i : Nat) : Int) ((endS ws i : Nat) : Int) ta tb)] ++ ex) := by
  have e : dueL ws (i + 1) = dueL ws i ++ [(((i : Nat) : Int), ((endS ws i : Nat) : Int))] := by
    have hp : dueP ws i = true := by simp [dueP, h1, h2]
    simp [dueL, List.range_succ, List.filter_append, hp]
  unfold dueI
  rw [e]
  exact (hI.mono fun q hq => List.mem_append_right _ hq).snoc (.head _)
theorem dueI_skip {ws : List Str} {i : Nat} {ys : List Value} {ex : List (Addr × Obj)} (h : endS ws i = 0 ∨ endS ws (i + 1) = endS ws i) (hI : dueI ws i ys ex) : dueI ws (i + 1) ys ex := by
  have e : dueL ws (i + 1) = dueL ws i := by
    have hp : dueP ws i = false := by rcases h with h | h <;> simp [dueP, h]
    simp [dueL, List.range_succ, List.filter_append, hp]
  unfold dueI
  rw [e]
  exact hI
set_option maxHeartbeats 4000000 in
theorem seg16 (B : Below A₀ base [] h₀) (X : (KK w.params).In h₀) (T : Top topProg LX mean mg mb h₀) (ws : List Str) (hws : ws.length ≤ 20) (wl : Addr) (us : List Value) (ep : Nat) (hus : StrsAre us ws) (oW oE : Obj) (dW : oW.data = .cell (some (.ref wl))) (el tl : Addr) (vs : List Value) (e : Nat) (hvs : IntsAre vs (endsL ws (ws.length + 1))) (dE : oE.data = .cell (some (.ref el))) (ts : List Value) (kk : Nat) (news : List (Addr × Obj)) (hwl : (wl, listOf us.toArray ep) ∈ news) (hcw : (L + 1, oW) ∈ news) (hel : (el, listOf vs.toArray e) ∈ news) (hce : (L + 1 + 1, oE) ∈ news) (htl : (tl, listOf ts.toArray kk) ∈ news) (hts : IntsAt news ts (dueL ws ws.length))
    (hmt : m (Str.ofString "told") = some (.ref tl)) (F : Fr h₀ L s.heap m) (N : News h₀ L s.heap news)
    (next : ∀ v h tk, Fr h₀ L h (fun y => if y = Str.ofString "due" then v else m y) → News h₀ L h news → wpAny (model PW w) (lawA L a ccd) (execs (lawSt.drop 18) (lawE L a ccd)) Q E { s with heap := h, toks := tk }) :
    wpAny (model PW w) (lawA L a ccd) (execs (lawSt.drop 16) (lawE L a ccd)) Q E s := by
  refine cut16 (P := fun b => wpAny (model PW w) (lawA L a ccd) (execs b (lawE L a ccd)) Q E s) (by with_unfolding_all exact rfl) fun rest hrest => ?_
  (repeat' (first | with_reducible ((show wpAny _ _ (subscriptTail _ _ (Value.ref _) _) _ _ _); ((with_reducible show wpAny _ _ (subscriptTail _ _ (Value.ref _) (Value.int _ _)) _ _ _); k_dflt (refine' ends_sub ?zza ?zzb ?zzc ?zzd ?zze ?_ ?zzg; (case zza => k_asm); (case zzb => k_mem); (case zzc => assumption); (case zzd => omega); (case zze => omega); (case zzg => with_unfolding_all rfl)); intro tzz)) | with_reducible ((show wpAny _ _ (call (Value.builtin "len") _) _ _ _); ((with_reducible show wpAny _ _ (call (Value.builtin "len") [Value.ref _]) _ _ _); k_dflt (refine' len_strsA ?zzk1 ?zzk2 ?zzk3 ?_; (case zzk1 => exact News.isList (by k_asm) (by k_mem)); (case zzk2 => assumption); (case zzk3 => omega)))) | walk_at "st"))
  unfold CompHold
  k_dflt (refine' comp_assignC ?jF0 ?hLe ?hsw ?hclos ?hcell ?hkind ?hnames ?hxx ?hy ?hp ?hit ?hs)
  case jF0 => k_asm
  case hLe => exact rfl
  case hsw => with_unfolding_all rfl
  case hclos => with_unfolding_all rfl
  case hcell => decide
  case hkind => exact rfl
  case hnames => decide
  case hxx => decide
  case hy => with_unfolding_all rfl
  case hp => with_unfolding_all rfl
  case hs => intro x; rfl
  case hit =>
    (repeat' (first | with_reducible ((show wpAny _ _ (subscriptTail _ _ (Value.ref _) _) _ _ _); ((with_reducible show wpAny _ _ (subscriptTail _ _ (Value.ref _) (Value.int _ _)) _ _ _); k_dflt (refine' ends_sub ?zza ?zzb ?zzc ?zzd ?zze ?_ ?zzg; (case zza => k_asm); (case zzb => k_mem); (case zzc => assumption); (case zzd => omega); (case zze => omega); (case zzg => with_unfolding_all rfl)); intro tzz)) | with_reducible ((show wpAny _ _ (call (Value.builtin "len") _) _ _ _); ((with_reducible show wpAny _ _ (call (Value.builtin "len") [Value.ref _]) _ _ _); k_dflt (refine' len_strsA ?zzk1 ?zzk2 ?zzk3 ?_; (case zzk1 => exact News.isList (by k_asm) (by k_mem)); (case zzk2 => assumption); (case zzk3 => omega)))) | walk_at "st"))
    unfold CompHold
    refine' iterC_rng (n := ws.length) (dueI ws) (by assumption) (small_one (by omega) (by omega) (by omega) (by omega)) ?jn ?jh ?jF ?jN IntsAt.nil ?hsz ?turn ?fin
    case jh => exact rfl
    case jF => k_asm
    case jN => k_asm
    case jn => rw [rangeSize_one]; split <;> omega
    case hsz => exact dueI_sz (by omega)
    case turn =>
      intro C i t ys ex s' own mC E' hC hi hI hm ct
      rw [Int.zero_add] at hm
      have F1 := ct.F
      have N1 := ct.N
      have nC := ct.ns _ ct.N
      have e1 : ((i : Nat) : Int).toNat = i := by omega
      have e2 : (((i : Nat) : Int) + 1).toNat = i + 1 := by omega
      unfold TurnGoal
      (repeat' (first | with_reducible ((show wpAny _ _ (subscriptTail _ _ (Value.ref _) _) _ _ _); ((with_reducible show wpAny _ _ (subscriptTail _ _ (Value.ref _) (Value.int _ _)) _ _ _); k_dflt (refine' ends_sub ?zza ?zzb ?zzc ?zzd ?zze ?_ ?zzg; (case zza => k_asm); (case zzb => k_mem); (case zzc => assumption); (case zzd => omega); (case zze => omega); (case zzg => with_unfolding_all rfl)); intro tzz)) | with_reducible ((show wpAny _ _ (call (Value.builtin "len") _) _ _ _); ((with_reducible show wpAny _ _ (call (Value.builtin "len") [Value.ref _]) _ _ _); k_dflt (refine' len_strsA ?zzk1 ?zzk2 ?zzk3 ?_; (case zzk1 => exact News.isList (by k_asm) (by k_mem)); (case zzk2 => assumption); (case zzk3 => omega)))) | walk_at "st"))
      · have hq1 : ((endS ws ((i : Nat) : Int).toNat : Nat) : Int) ≠ 0 := by assumption
        have hq2 : ((endS ws (((i : Nat) : Int) + 1).toNat : Nat) : Int) ≠ ((endS ws ((i : Nat) : Int).toNat : Nat) : Int) := by assumption
        rw [e2, e1] at hq2
        rw [e1] at hq1
        refine TestEnd.mk ct (by k_asm) (by k_asm) (fun hok2 ct2 => ?_) (fun hok2 => nomatch hok2)
        have F2 := ct2.F
        have N2 := ct2.N
        have nC2 := ct2.ns _ ct2.N
        (repeat' (first | with_reducible ((show wpAny _ _ (subscriptTail _ _ (Value.ref _) _) _ _ _); ((with_reducible show wpAny _ _ (subscriptTail _ _ (Value.ref _) (Value.int _ _)) _ _ _); k_dflt (refine' ends_sub ?zza ?zzb ?zzc ?zzd ?zze ?_ ?zzg; (case zza => k_asm); (case zzb => k_mem); (case zzc => assumption); (case zzd => omega); (case zze => omega); (case zzg => with_unfolding_all rfl)); intro tzz)) | with_reducible ((show wpAny _ _ (call (Value.builtin "len") _) _ _ _); ((with_reducible show wpAny _ _ (call (Value.builtin "len") [Value.ref _]) _ _ _); k_dflt (refine' len_strsA ?zzk1 ?zzk2 ?zzk3 ?_; (case zzk1 => exact News.isList (by k_asm) (by k_mem)); (case zzk2 => assumption); (case zzk3 => omega)))) | walk_at "st"))
        exact EltEnd.new ct (by k_asm) (by k_asm) (by assumption) (dueI_take (by omega) (by omega) hI)
      · have hq2 : ((endS ws (((i : Nat) : Int) + 1).toNat : Nat) : Int) = ((endS ws ((i : Nat) : Int).toNat : Nat) : Int) := by assumption
        rw [e2, e1] at hq2
        exact TestEnd.mk ct (by k_asm) (by k_asm) (fun hok2 => nomatch hok2) (fun _ => dueI_skip (.inr (by omega)) hI)
      · have hq1 : ((endS ws ((i : Nat) : Int).toNat : Nat) : Int) = 0 := by assumption
        rw [e1] at hq1
        exact TestEnd.mk ct (by k_asm) (by k_asm) (fun hok2 => nomatch hok2) (fun _ => dueI_skip (.inl (by omega)) hI)
    case fin =>
      intro h D ys ex ep2 hI hD hex h2 tk F2 N2
      subst hrest
      refine cut17 (P := fun b => wpAny (model PW w) (lawA L a ccd) (execs b (lawE L a ccd)) Q E _) (by with_unfolding_all exact rfl) fun rest hrest => ?_
      rw [← hrest] at next
      (repeat' (first | with_reducible ((show wpAny _ _ (subscriptTail _ _ (Value.ref _) _) _ _ _); ((with_reducible show wpAny _ _ (subscriptTail _ _ (Value.ref _) (Value.int _ _)) _ _ _); k_dflt (refine' ends_sub ?zza ?zzb ?zzc ?zzd ?zze ?_ ?zzg; (case zza => k_asm); (case zzb => k_mem); (case zzc => assumption); (case zzd => omega); (case zze => omega); (case zzg => with_unfolding_all rfl)); intro tzz)) | with_reducible ((show wpAny _ _ (call (Value.builtin "len") _) _ _ _); ((with_reducible show wpAny _ _ (call (Value.builtin "len") [Value.ref _]) _ _ _); k_dflt (refine' len_strsA ?zzk1 ?zzk2 ?zzk3 ?_; (case zzk1 => exact News.isList (by k_asm) (by k_mem)); (case zzk2 => assumption); (case zzk3 => omega)))) | walk_at "st"))
      unfold CompHold
      refine ne_ints (ys := ts) (zs := ys) N2 (.tail _ (List.mem_append_right _ htl)) (.head _) (hts.mono fun q hq => .tail _ (List.mem_append_right _ hq)) (IntsAt.mono hI fun q hq => .tail _ (List.mem_append_left _ hq)) (Nat.le_of_ble_eq_true rfl) ?_
      (repeat' (first | with_reducible ((show wpAny _ _ (subscriptTail _ _ (Value.ref _) _) _ _ _); ((with_reducible show wpAny _ _ (subscriptTail _ _ (Value.ref _) (Value.int _ _)) _ _ _); k_dflt (refine' ends_sub ?zza ?zzb ?zzc ?zzd ?zze ?_ ?zzg; (case zza => k_asm); (case zzb => k_mem); (case zzc => assumption); (case zzd => omega); (case zze => omega); (case zzg => with_unfolding_all rfl)); intro tzz)) | with_reducible ((show wpAny _ _ (call (Value.builtin "len") _) _ _ _); ((with_reducible show wpAny _ _ (call (Value.builtin "len") [Value.ref _]) _ _ _); k_dflt (refine' len_strsA ?zzk1 ?zzk2 ?zzk3 ?_; (case zzk1 => exact News.isList (by k_asm) (by k_mem)); (case zzk2 => assumption); (case zzk3 => omega)))) | walk_at "st"))
      exact next _ _ _ (by k_asm) (nsub N2 fun q hq => .tail _ (List.mem_append_right _ hq))
end
section -- L18
theorem fillL18 : PySem.Challenge.rw_uq0027_01 = PySem.Challenge.rw_uq0027_01 ∧ KK = KK := by
  k_fill
  exact ⟨rfl, rfl⟩
variable {w : World} {mean : ExcName → Option Value} {mg mb : Str → Option Value} {A₀ : Around} {base h₀ : Heap} {L a : Addr} {ccd : Value} {m : Str → Option Value} {s : Shared} {Q : Flow → Shared → Prop} {E : Value → Shared → Prop}
local macro_rules | `(tactic| walk_at "eval Name") => `(tactic| walk_at "m4")
local macro_rules | `(tactic| walk_at "eval Name") => `(tactic| walk_at "m3")
local macro_rules | `(tactic| k_room) => `(tactic| ktr_room)

theorem count_nl (text : Str) : Txt.count text (Str.ofString "
") = nl text.cps.toList := by
  have e : Str.ofString "
" = ⟨#[10]⟩ := rfl
  rw [e]
  refine (count_is text 10).trans ?_
  generalize text.cps.toList = l
  induction l with
  | nil => rfl
  | cons c r ih => exact (cnt_cons 10 c r).trans (congrArg (fun z => (if c = 10 then 1 else 0) + z) ih)
set_option maxHeartbeats 4000000 in
theorem seg18 (B : Below A₀ base [] h₀) (X : (KK w.params).In h₀) (T : Top topProg LX mean mg mb h₀) (text : Str) (tt : Tok) (A : LexA) (ok : LexOk A text) (ln : Int) (tl : Tok) (p : Nat) (tp : Tok) (n2 n3 : Nat) (news : List (Addr × Obj)) (hoff : OwnOff news ((lexL w.params mg A ln tl p tp n2 #[] n3).map (·.1))) (hx : 2 ≤ text.cps.size) (hx2 : text.length ≤ 1000) (hp : p ≤ text.cps.size)
    (hC : ln + nl (text.cps.toList.drop p) = 1 + nl text.cps.toList) (hs : tokO (text.cps.toList.drop p) = some ([], [])) (hu : ([] : List Nat).length ≤ 1000)
    (hm : m (Str.ofString "lexer") = some (.ref A.lx)) (hmt : m (Str.ofString "text") = some (.str text tt)) (F : Fr h₀ L s.heap m) (N : News h₀ L s.heap (lexL w.params mg A ln tl p tp n2 #[] n3 ++ news))
    (next : ∀ h tk m', Fr h₀ L h m' → (∀ q ∈ news, h.get? q.1 = some q.2) → Q (.ret (.bool true)) { s with heap := h, toks := tk }) :
    wpAny (model PW w) (lawA L a ccd) (execs (lawSt.drop 18) (lawE L a ccd)) Q E s := by
  refine cut18 (P := fun b => wpAny (model PW w) (lawA L a ccd) (execs b (lawE L a ccd)) Q E s) (by with_unfolding_all exact rfl) fun rest hrest => ?_
  simp only [lexL, List.map_cons, List.map_nil] at hoff
  simp only [lexL, lexD, standD, ent, List.cons_append, List.nil_append] at N
  (repeat' (first | with_reducible ((show wpAny _ _ (call (Value.ref _) _) _ _ _); (k_dflt ( (with_reducible show wpAny _ _ (call (Value.ref 84) _) _ _ _); (rename LexOk _ _ => hokzz); (refine' SumT.use (sum_token _ _ hokzz _ _ _ _ _ _ ?zzj1 ?zzj2 _ _ _ ?zzj3 ?zzj4 ?zzj5) ?zzja ?zzjB ?zzjF ?zzjX ?zzjN ?zzjo ?zzjT ?zzjk ?zzjd ?zzju ?_; (case zzjF => k_asm); (case zzjN => exact (by k_asm)); (case zzja => exact rfl); (case zzjB => k_asm); (case zzjX => k_asm); (case zzjT => k_asm); (case zzjk => exact rfl); (case zzjd => decide +kernel); (case zzju => decide +kernel); (case zzjo => assumption); (case zzj1 => assumption); (case zzj2 => assumption); (case zzj4 => assumption); (case zzj3 => assumption); (case zzj5 => assumption)); intro vzz newzz hzz tkzz hPzz Fzz Nzz hfzz; clear hfzz; (obtain ⟨tzz, lnzz, tlzz, pzz, tpzz, n2zz, e1zz, e2zz, e3zz, e4zz, e5zz⟩ := hPzz); subst e1zz; subst e2zz; (simp only [lexL, lexD, standD, ent, List.cons_append, List.nil_append] at Nzz); (try k_sweep)))) | walk_at "st"))
  rename _ + nl [] = _ => e9
  rename Fr _ _ _ _ => F9
  have e8 := count_nl text
  have e7 : nl [] = 0 := rfl
  have hb : ∀ x : Int, x = 1 + Txt.count text (Str.ofString "
") → (x == 1 + Txt.count text (Str.ofString "
")) = true := fun x h => by rw [h]; simp
  rw [hb _ (by omega)]
  rename News _ _ _ _ => N9
  exact next _ _ _ F9 fun q hq => (N9 _ (List.mem_append_right (lexL w.params mg A _ _ _ _ _ _ _) hq)).1
end
section -- P1
theorem join_c (a : Str) (r : List Str) : PySem.Txt.join (PySem.Str.ofString "") (a :: r) = a ++ PySem.Txt.join (PySem.Str.ofString "") r := by
  have e : ∀ l, PySem.Txt.join (PySem.Str.ofString "") l = Str.join ⟨#[]⟩ l := fun l => StrLaws.glued_eq_join _ l
  rw [e, e]; exact join_nil_cons a r
theorem toL_app (a b : Str) : (a ++ b).cps.toList = a.cps.toList ++ b.cps.toList := by rw [PySem.Str.cps_append, Array.toList_append]
theorem join_toL : ∀ l : List Str, (PySem.Txt.join (PySem.Str.ofString "") l).cps.toList = l.flatMap fun a => a.cps.toList
  | [] => rfl
  | a :: r => by rw [join_c, toL_app, join_toL r]; rfl
theorem str_ext {a b : Str} (h : a.cps.toList = b.cps.toList) : a = b := PySem.Str.ext' (Array.toList_inj.mp h)
theorem join_app (l r : List Str) : PySem.Txt.join (PySem.Str.ofString "") (l ++ r) = PySem.Txt.join (PySem.Str.ofString "") l ++ PySem.Txt.join (PySem.Str.ofString "") r := by
  apply str_ext
  rw [toL_app, join_toL, join_toL, join_toL, List.flatMap_append]
/-- a sign with its mark -/
noncomputable def markC (q hd : Bool) (c : Nat) : List Nat := if hd || c == 92 || (c == 34 && q) || (c == 32 && !q) then [92, c] else [c]
theorem markOf_toL (q hd : Bool) (c : Nat) : (markOf q hd c).flatMap (fun a => a.cps.toList) = markC q hd c := by
  unfold markOf markC
  rw [eq_sign c 92 (Str.ofString "\\") rfl, eq_sign c 34 (Str.ofString "\"") rfl, eq_sign c 32 (Str.ofString " ") rfl]
  simp only [show (c == 92) = decide (c = 92) from rfl, show (c == 34) = decide (c = 34) from rfl, show (c == 32) = decide (c = 32) from rfl]
  split <;> rfl
theorem marks_toL (q hd : Bool) (l : List Nat) : (marksL q hd l).flatMap (fun a => a.cps.toList) = l.flatMap (markC q hd) := by
  unfold marksL
  rw [List.flatMap_assoc]
  congr 1
  funext c
  exact markOf_toL q hd c
/-- no sign that parts words but the blank -/
noncomputable def freeC (c : Nat) : Bool := c != 10 && c != 9 && c != 13
theorem freeC_ws {c : Nat} (h : freeC c = true) (hn : c ≠ 32) : wsC c = false := by
  unfold freeC at h
  unfold wsC
  simp only [Bool.and_eq_true, bne_iff_ne] at h
  simp [h.1.1, h.1.2, h.2, hn]
theorem app_ne {l : List Nat} {w : Nat} {rest : List Nat} : ∃ d r, l ++ w :: rest = d :: r := by
  cases l with
  | nil => exact ⟨w, rest, rfl⟩
  | cons a l => exact ⟨a, l ++ w :: rest, rfl⟩
theorem tokP_marks (hd : Bool) {w : Nat} (hw : wsC w = true) (rest : List Nat) : ∀ l : List Nat, (∀ c ∈ l, freeC c = true) → tokP (l.flatMap (markC false hd) ++ w :: rest) = some (l, rest)
  | [], _ => by
    cases rest with
    | nil => simp [tokP, hw]
    | cons d r => simp [tokP, hw]
  | c :: l, h => by
    have ih := tokP_marks hd hw rest l fun x hx => h x (.tail _ hx)
    have hc := h c (.head _)
    rw [List.flatMap_cons, List.append_assoc]
    obtain ⟨d, r, e⟩ := app_ne (l := l.flatMap (markC false hd)) (w := w) (rest := rest)
    by_cases hm : (hd || c == 92 || (c == 34 && false) || (c == 32 && !false)) = true
    · have e1 : markC false hd c = [92, c] := if_pos hm
      rw [e1]
      show tokP (92 :: c :: (l.flatMap (markC false hd) ++ w :: rest)) = _
      have h92 : wsC 92 = false := rfl
      simp only [tokP, h92, Bool.false_eq_true, if_false, if_true, ih, Option.map_some]
    · have e1 : markC false hd c = [c] := if_neg hm
      rw [e1]
      simp only [Bool.or_eq_true, not_or, beq_iff_eq, Bool.and_false, Bool.not_false, Bool.and_true, Bool.false_eq_true, not_false_eq_true, and_true] at hm
      have hws := freeC_ws hc hm.2
      show tokP (c :: (l.flatMap (markC false hd) ++ w :: rest)) = _
      rw [e] at ih ⊢
      simp only [tokP, hws, Bool.false_eq_true, if_false, hm.1.2, ih, Option.map_some]
theorem tokQ_marks (hd : Bool) (rest : List Nat) : ∀ l : List Nat, tokQ (l.flatMap (markC true hd) ++ 34 :: rest) = some (l, rest)
  | [] => by
    cases rest with
    | nil => simp [tokQ]
    | cons d r => simp [tokQ]
  | c :: l => by
    have ih := tokQ_marks hd rest l
    rw [List.flatMap_cons, List.append_assoc]
    obtain ⟨d, r, e⟩ := app_ne (l := l.flatMap (markC true hd)) (w := 34) (rest := rest)
    by_cases hm : (hd || c == 92 || (c == 34 && true) || (c == 32 && !true)) = true
    · have e1 : markC true hd c = [92, c] := if_pos hm
      rw [e1]
      show tokQ (92 :: c :: (l.flatMap (markC true hd) ++ 34 :: rest)) = _
      simp only [tokQ, show ¬ (92 : Nat) = 34 from by decide, if_false, if_true, ih, Option.map_some]
    · have e1 : markC true hd c = [c] := if_neg hm
      rw [e1]
      simp only [Bool.or_eq_true, not_or, beq_iff_eq, Bool.and_true, Bool.not_true, Bool.and_false, Bool.false_eq_true, not_false_eq_true, and_true] at hm
      show tokQ (c :: (l.flatMap (markC true hd) ++ 34 :: rest)) = _
      rw [e] at ih ⊢
      simp only [tokQ, hm.1.2, hm.2, if_false, ih, Option.map_some]
theorem tokO_plain (hd : Bool) {w : Nat} (hw : wsC w = true) (rest : List Nat) (c : Nat) (l : List Nat) (h : ∀ x ∈ c :: l, freeC x = true) (h34 : c ≠ 34) : tokO ((c :: l).flatMap (markC false hd) ++ w :: rest) = some (c :: l, rest) := by
  have ih := tokP_marks hd hw rest l fun x hx => h x (.tail _ hx)
  have hc := h c (.head _)
  rw [List.flatMap_cons, List.append_assoc]
  obtain ⟨d, r, e⟩ := app_ne (l := l.flatMap (markC false hd)) (w := w) (rest := rest)
  by_cases hm : (hd || c == 92 || (c == 34 && false) || (c == 32 && !false)) = true
  · have e1 : markC false hd c = [92, c] := if_pos hm
    rw [e1]
    show tokO (92 :: c :: (l.flatMap (markC false hd) ++ w :: rest)) = _
    have h92 : wsC 92 = false := rfl
    simp only [tokO, h92, Bool.false_eq_true, if_false, if_true, show ¬ (92 : Nat) = 34 from by decide, ih, Option.map_some]
  · have e1 : markC false hd c = [c] := if_neg hm
    rw [e1]
    simp only [Bool.or_eq_true, not_or, beq_iff_eq, Bool.and_false, Bool.not_false, Bool.and_true, Bool.false_eq_true, not_false_eq_true, and_true] at hm
    have hws := freeC_ws hc hm.2
    show tokO (c :: (l.flatMap (markC false hd) ++ w :: rest)) = _
    rw [e] at ih ⊢
    simp only [tokO, hws, Bool.false_eq_true, if_false, hm.1.2, h34, ih, Option.map_some]
theorem tokO_quoted (hd : Bool) (rest : List Nat) (l : List Nat) : tokO (34 :: (l.flatMap (markC true hd) ++ 34 :: rest)) = some (l, rest) := by
  have ih := tokQ_marks hd rest l
  obtain ⟨d, r, e⟩ := app_ne (l := l.flatMap (markC true hd)) (w := 34) (rest := rest)
  rw [e] at ih ⊢
  have h34 : wsC 34 = false := rfl
  simp only [tokO, h34, Bool.false_eq_true, if_false, if_true, ih]
theorem tokO_ws {w : Nat} (hw : wsC w = true) (rest : List Nat) : tokO (w :: rest) = tokO rest := by
  cases rest with
  | nil => simp [tokO, hw]
  | cons d r => simp [tokO, hw]
/-- a word's signs as the lexer gives them, and its text's -/
noncomputable def rawL (z : Int) : List Nat := (aheadS z ++ menuS z).cps.toList
noncomputable def textL (z : Int) : List Nat := (textS z).cps.toList
theorem inner_toL (z : Int) : (innerS z).cps.toList = (rawL z).flatMap (markC (quotedB z) (hiddenB z)) := by
  unfold innerS
  rw [join_toL, marks_toL]
  rfl
theorem ws_toL (z : Int) : (wsS z).cps.toList = [wsN z] := rfl
theorem wsN_ws (z : Int) : wsC (wsN z) = true := by
  unfold wsN
  have h := f4 (z.fdiv 2560)
  obtain ⟨j, hj, e⟩ := f4n (z.fdiv 2560)
  rw [e]
  rcases lt4 hj with r | r | r | r <;> subst r <;> rfl
/-- the signs that stand ahead, and the menu's -/
noncomputable def aheadO : List Nat → Prop := fun l => l = [] ∨ ∃ c ∈ codesN, l = [c]
theorem ahead_cases (z : Int) : (aheadS z).cps.toList = [] ∨ ∃ c ∈ codesN, (aheadS z).cps.toList = [c] := by
  unfold aheadS
  split
  · right
    rename_i h
    have h0 : 0 ≤ nW z := Int.fmod_nonneg_of_pos _ (by decide)
    obtain ⟨c, hc, _⟩ := codesN_get (k := (nW z).toNat) (by omega)
    exact ⟨c, List.mem_of_getElem? hc, by rw [List.getD_eq_getElem?_getD, hc]; rfl⟩
  · left; rfl
theorem menu_cases (z : Int) : ∃ a b : Nat, a < 4 ∧ b < 4 ∧ (z.fdiv 4).fmod 4 = (a : Int) ∧ z.fmod 4 = (b : Int) ∧ menuS z = Str.ofString ((menuL.getD a []).getD b "") := by
  obtain ⟨a, ha, ea⟩ := f4n (z.fdiv 4)
  obtain ⟨b, hb, eb⟩ := f4n z
  refine ⟨a, b, ha, hb, ea, eb, ?_⟩
  unfold menuS
  rw [ea, eb]
  rfl
noncomputable def menuT (a b : Nat) : List Nat := (Str.ofString ((menuL.getD a []).getD b "")).cps.toList
theorem menuT_ok : ∀ a < 4, ∀ b < 4, (menuT a b).all freeC = true ∧ (menuT a b).head? ≠ some 34 ∧ (menuT a b).head? ≠ none ∧ (menuT a b).length ≤ 3 := by decide +kernel
theorem codes_ok : ∀ c ∈ codesN, freeC c = true ∧ c ≠ 34 := by decide +kernel
theorem raw_app (z : Int) : rawL z = (aheadS z).cps.toList ++ (menuS z).cps.toList := toL_app _ _
theorem raw_ok (z : Int) : ∃ c l, rawL z = c :: l ∧ (∀ x ∈ c :: l, freeC x = true) ∧ c ≠ 34 ∧ (c :: l).length ≤ 4 := by
  obtain ⟨a, b, ha, hb, _, _, em⟩ := menu_cases z
  obtain ⟨m1, m2, m3, m4⟩ := menuT_ok a ha b hb
  have e2 : (menuS z).cps.toList = menuT a b := by rw [em]; rfl
  have hr := raw_app z
  rw [e2] at hr
  cases hm : menuT a b with
  | nil => rw [hm] at m3; exact absurd rfl m3
  | cons c l =>
    rw [hm] at m1 m2 m4 hr
    have m2' : c ≠ 34 := fun e => m2 (by rw [e]; rfl)
    rcases ahead_cases z with h | ⟨d, hd, h⟩
    · rw [h] at hr
      exact ⟨c, l, hr, List.all_eq_true.mp m1, m2', Nat.le_trans m4 (by decide)⟩
    · rw [h] at hr
      obtain ⟨d1, d2⟩ := codes_ok d hd
      refine ⟨d, c :: l, hr, fun x hx => ?_, d2, Nat.succ_le_succ m4⟩
      rcases List.mem_cons.mp hx with e | hx
      · rw [e]; exact d1
      · exact List.all_eq_true.mp m1 x hx
theorem tok_text (z : Int) (rest : List Nat) : ∃ r, tokO (textL z ++ rest) = some (rawL z, r) ∧ (r = rest ∨ ∃ c, wsC c = true ∧ r = c :: rest) := by
  obtain ⟨c, l, hr, hfree, h34, _⟩ := raw_ok z
  have hw := wsN_ws z
  unfold textL textS bodyS
  by_cases hq : quotedB z = true
  · rw [if_pos hq]
    refine ⟨wsN z :: rest, ?_, .inr ⟨wsN z, hw, rfl⟩⟩
    have e : ((shutS z ++ wsS z).cps.toList ++ rest) = 34 :: ((rawL z).flatMap (markC true (hiddenB z)) ++ 34 :: (wsN z :: rest)) := by
      unfold shutS
      rw [toL_app, toL_app, toL_app, inner_toL, hq, ws_toL]
      simp [show (Str.ofString "\"").cps.toList = [34] from rfl]
    rw [e]
    exact tokO_quoted _ _ _
  · rw [if_neg hq]
    have hq' : quotedB z = false := by simpa using hq
    refine ⟨rest, ?_, .inl rfl⟩
    have e : ((innerS z ++ wsS z).cps.toList ++ rest) = (rawL z).flatMap (markC false (hiddenB z)) ++ wsN z :: rest := by
      rw [toL_app, inner_toL, hq', ws_toL]
      simp
    rw [e, hr]
    exact tokO_plain _ hw rest c l hfree h34
end
section -- P2
theorem prepL_app (a b : List Nat) : prepL (a ++ b) = prepL a ++ prepL b := by simp [prepL]
theorem prepS_app (a b : List Nat) : prepS (a ++ b) = prepS a ++ prepS b := by unfold prepS; rw [prepL_app, join_app]
theorem b3at_eq (k : Int) : b3at k = (b3E.find? fun e => Value.isInt k e.key).map (·.val) := by
  unfold b3at findBy
  simp
noncomputable def foldF (c : Nat) : Str := match (b3E.find? fun e => Value.isInt ((c : Nat) : Int) e.key).map (·.val) with
  | some v => strOf v
  | none => Txt.lower ⟨#[c]⟩
theorem foldF_eq (c : Nat) : foldB3 ⟨#[c]⟩ = foldF c := by
  unfold foldB3 foldF
  rw [b3at_eq]
  rfl
/-- the signs of the words, folded -/
noncomputable def foldTab : List (Nat × List Nat) := [(115, [115]), (116, [116]), (34, [34]), (32, [32]), (92, [92]), (83, [115]), (84, [116]), (119826, [115]), (119827, [116]), (223, [115, 115]), (64262, [115, 116]), (120191, [116]), (383, [115]), (172, [172]), (846, [846]), (6149, [6149]), (8206, [8206]), (65040, [65040])]
theorem fold_tab : foldTab.all (fun p => (foldF p.1).cps.toList == p.2) = true := by decide +kernel
noncomputable def foldT (c : Nat) : List Nat := (foldTab.lookup c).getD []
noncomputable def inTab (c : Nat) : Bool := inB1 ((c : Nat) : Int) || foldTab.any (fun p => p.1 == c)
theorem lookup_mem {c : Nat} : ∀ {l : List (Nat × List Nat)}, l.any (fun p => p.1 == c) = true → (c, (l.lookup c).getD []) ∈ l
  | [], h => by simp at h
  | (a, v) :: r, h => by
    by_cases e : a = c
    · subst e; simp [List.lookup]
    · have h' : r.any (fun p => p.1 == c) = true := by simpa [e] using h
      have ih := lookup_mem h'
      have e2 : (c == a) = false := by simpa using fun h => e h.symm
      simp only [List.lookup, e2]
      exact .tail _ ih
theorem foldT_eq {c : Nat} (h : foldTab.any (fun p => p.1 == c) = true) : (foldB3 ⟨#[c]⟩).cps.toList = foldT c := by
  rw [foldF_eq]
  exact beq_iff_eq.mp (List.all_eq_true.mp fold_tab _ (lookup_mem h))
noncomputable def prepF (l : List Nat) : List Nat := (l.filter fun c => !inB1 ((c : Nat) : Int)).flatMap foldT
theorem prepF_eq : ∀ l : List Nat, l.all inTab = true → (prepS l).cps.toList = prepF l
  | [], _ => rfl
  | c :: l, h => by
    simp only [List.all_cons, Bool.and_eq_true] at h
    have ih := prepF_eq l h.2
    unfold prepS at ih ⊢
    unfold prepF
    cases hb : inB1 ((c : Nat) : Int) with
    | true =>
      have e1 : prepL (c :: l) = prepL l := by simp [prepL, hb]
      rw [e1, ih]
      simp [prepF, hb]
    | false =>
      have e1 : prepL (c :: l) = foldB3 ⟨#[c]⟩ :: prepL l := by simp [prepL, hb]
      have hm : foldTab.any (fun p => p.1 == c) = true := by
        have := h.1
        unfold inTab at this
        rw [hb] at this
        simpa using this
      rw [e1, join_c, toL_app, ih, foldT_eq hm]
      simp [prepF, hb]
theorem prepL_short {l : List Nat} (h : l.all inTab = true) (h2 : l.all (fun c => (foldT c).length ≤ 8) = true) : ∀ a ∈ prepL l, a.length ≤ 8 := by
  intro a ha
  unfold prepL at ha
  obtain ⟨c, hc, rfl⟩ := List.mem_map.mp ha
  obtain ⟨hc1, hc2⟩ := List.mem_filter.mp hc
  have h1 := List.all_eq_true.mp h c hc1
  have h3 := of_decide_eq_true (List.all_eq_true.mp h2 c hc1)
  have hm : foldTab.any (fun p => p.1 == c) = true := by
    unfold inTab at h1
    simp only [Bool.not_eq_true'] at hc2
    rw [hc2] at h1
    simpa using h1
  have e := foldT_eq hm
  have e2 : (foldB3 ⟨#[c]⟩).length = (foldT c).length := by
    rw [← e]
    exact Array.length_toList.symm
  rw [e2]
  exact h3
noncomputable def plainT (b : Nat) : Str := [Str.ofString "ss", Str.ofString "st", Str.ofString "t\"", Str.ofString "s \\"].getD b PySem.Str.empty
noncomputable def keptT (n : Nat) : Str := if 26 < n then ⟨#[codesN.getD n 0]⟩ else ⟨#[]⟩
theorem prep_ahead : ∀ n < 32, [codesN.getD n 0].all inTab = true ∧ [codesN.getD n 0].all (fun c => (foldT c).length ≤ 8) = true ∧ prepF [codesN.getD n 0] = (keptT n).cps.toList := by decide +kernel
theorem prep_menu : ∀ a < 4, ∀ b < 4, (menuT a b).all inTab = true ∧ (menuT a b).all (fun c => (foldT c).length ≤ 8) = true ∧ prepF (menuT a b) = (plainT b).cps.toList := by decide +kernel
/-- the sign that is kept: of five, or none -/
noncomputable def keptO (n : Nat) : Str := if n < 5 then keptT (27 + n) else ⟨#[]⟩
noncomputable def wordT (n b : Nat) : Str := keptO n ++ plainT b
noncomputable def eqS (a b : Str) : Bool := a.cps.toList == b.cps.toList
theorem eqS_eq {a b : Str} (h : eqS a b = true) : a = b := str_ext (beq_iff_eq.mp h)
structure WordOk (x : Str) : Prop where
  low : Txt.lower x = x
  up : Txt.lower (Txt.upper x) = x
  ok : x.cps.toList.all okC = true
  len : x.length ≤ 100
  ulen : (Txt.upper x).length ≤ 100
  str : PyData.strOk x = true
theorem word_facts : ∀ n < 6, ∀ b < 4, eqS (Txt.lower (wordT n b)) (wordT n b) = true ∧ eqS (Txt.lower (Txt.upper (wordT n b))) (wordT n b) = true ∧ (wordT n b).cps.toList.all okC = true ∧ (wordT n b).length ≤ 100 ∧ (Txt.upper (wordT n b)).length ≤ 100 ∧ PyData.strOk (wordT n b) = true := by decide +kernel
theorem keptS_cases (z : Int) : ∃ n, n < 6 ∧ keptS z = keptO n := by
  unfold keptS
  by_cases h : 26 < nW z
  · rw [if_pos h]
    unfold aheadS
    by_cases h2 : nW z < 32
    · rw [if_pos h2]
      refine ⟨(nW z).toNat - 27, by omega, ?_⟩
      unfold keptO keptT
      rw [if_pos (by omega), if_pos (by omega), show 27 + ((nW z).toNat - 27) = (nW z).toNat by omega]
    · rw [if_neg h2]; exact ⟨5, by decide, rfl⟩
  · rw [if_neg h]; exact ⟨5, by decide, rfl⟩
theorem plainS_cases (z : Int) : ∃ b, b < 4 ∧ plainS z = plainT b := by
  obtain ⟨j, hj, e⟩ := f4n z
  refine ⟨j, hj, ?_⟩
  show ([Str.ofString "ss", Str.ofString "st", Str.ofString "t\"", Str.ofString "s \\"].getD (z.fmod 4).toNat PySem.Str.empty) = _
  rw [e]
  rfl
theorem wordOk (z : Int) : WordOk (wordS z) := by
  obtain ⟨n, hn, e1⟩ := keptS_cases z
  obtain ⟨b, hb, e2⟩ := plainS_cases z
  have e : wordS z = wordT n b := by unfold wordS wordT; rw [e1, e2]
  rw [e]
  obtain ⟨f1, f2, f3, f4, f5, f6⟩ := word_facts n hn b hb
  exact ⟨eqS_eq f1, eqS_eq f2, f3, f4, f5, f6⟩
theorem prep_raw (z : Int) : prepS (rawL z) = wordS z ∧ ∀ a ∈ prepL (rawL z), a.length ≤ 8 := by
  obtain ⟨a, b, ha, hb, _, eb, em⟩ := menu_cases z
  have e2 : (menuS z).cps.toList = menuT a b := by rw [em]; rfl
  obtain ⟨m1, m2, m3⟩ := prep_menu a ha b hb
  have hp : plainS z = plainT b := by
    show ([Str.ofString "ss", Str.ofString "st", Str.ofString "t\"", Str.ofString "s \\"].getD (z.fmod 4).toNat PySem.Str.empty) = _
    rw [eb]
    rfl
  have hm : prepS (menuT a b) = plainS z := by rw [hp]; exact str_ext ((prepF_eq _ m1).trans m3)
  have h0 : 0 ≤ nW z := Int.fmod_nonneg_of_pos _ (by decide)
  have key : prepS (aheadS z).cps.toList = keptS z ∧ ∀ x ∈ prepL (aheadS z).cps.toList, x.length ≤ 8 := by
    unfold keptS aheadS
    by_cases h : nW z < 32
    · rw [if_pos h]
      obtain ⟨p1, p2, p3⟩ := prep_ahead (nW z).toNat (by omega)
      refine ⟨?_, prepL_short p1 p2⟩
      refine (str_ext ((prepF_eq _ p1).trans p3)).trans ?_
      unfold keptT
      by_cases h26 : 26 < nW z
      · rw [if_pos h26, if_pos (by omega)]
      · rw [if_neg h26, if_neg (by omega)]
    · rw [if_neg h]
      refine ⟨?_, fun x hx => nomatch hx⟩
      split <;> rfl
  rw [raw_app, e2]
  refine ⟨?_, fun x hx => ?_⟩
  · rw [prepS_app, key.1, hm]; rfl
  · rw [prepL_app] at hx
    exact (List.mem_append.mp hx).elim (key.2 x) (prepL_short m1 m2 x)
end
section -- P4
/-- the place i holds the sought word t -/
noncomputable def At (ws : List Str) (i t : Nat) : Prop := i < ws.length ∧ (ws.getD i PySem.Str.empty == (ws.take 3).getD t PySem.Str.empty) = true
/-- the last r sought words are met in their order from k on, the last one just ahead of e -/
noncomputable def Mr (ws : List Str) : Nat → Nat → Nat → Prop
  | 0, k, e => e = k
  | r + 1, k, e => ∃ i, k ≤ i ∧ At ws i (2 - r) ∧ Mr ws r (i + 1) e
/-- the first r sought words are met in their order from p on, ahead of q -/
noncomputable def Fr' (ws : List Str) : Nat → Nat → Nat → Prop
  | 0, p, q => p ≤ q
  | r + 1, p, q => ∃ i, i < q ∧ At ws i r ∧ Fr' ws r p i
theorem Mr.mono {ws : List Str} {r k q e : Nat} (h : Mr ws (r + 1) k e) (hq : q ≤ k) : Mr ws (r + 1) q e :=
  let ⟨i, h1, h2, h3⟩ := h; ⟨i, Nat.le_trans hq h1, h2, h3⟩
theorem Fr'.mono {ws : List Str} {r p q q' : Nat} (h : Fr' ws r p q) (hq : q ≤ q') : Fr' ws r p q' := by
  cases r with
  | zero => exact Nat.le_trans h hq
  | succ r => obtain ⟨i, h1, h2, h3⟩ := h; exact ⟨i, Nat.lt_of_lt_of_le h1 hq, h2, h3⟩
theorem Mr3_iff {ws : List Str} {p e : Nat} : Mr ws 3 p e ↔ ∃ i j l, p ≤ i ∧ i < j ∧ j < l ∧ At ws i 0 ∧ At ws j 1 ∧ At ws l 2 ∧ e = l + 1 := by
  constructor
  · rintro ⟨i, h1, h2, j, h3, h4, l, h5, h6, rfl⟩
    exact ⟨i, j, l, h1, h3, h5, h2, h4, h6, rfl⟩
  · rintro ⟨i, j, l, h1, h2, h3, h4, h5, h6, rfl⟩
    exact ⟨i, h1, h4, j, h2, h5, l, h3, h6, rfl⟩
theorem Mr3_Fr {ws : List Str} {p e : Nat} (h : Mr ws 3 p e) : Fr' ws 3 p e := by
  obtain ⟨i, j, l, h1, h2, h3, h4, h5, h6, rfl⟩ := Mr3_iff.mp h
  exact ⟨l, Nat.lt_succ_self _, h6, j, h3, h5, i, h2, h4, h1⟩
theorem Mr3_last {ws : List Str} {p e : Nat} (h : Mr ws 3 p e) : ∃ l, At ws l 2 ∧ e = l + 1 := by
  obtain ⟨i, j, l, h1, h2, h3, h4, h5, h6, e⟩ := Mr3_iff.mp h
  exact ⟨l, h6, e⟩
noncomputable def EndSpec (ws : List Str) (r k v : Nat) : Prop := (v = 0 ∧ ∀ e, ¬ Mr ws r k e) ∨ (v ≠ 0 ∧ Mr ws r k v ∧ ∀ e, Mr ws r k e → v ≤ e)
theorem endGo_spec (ws : List Str) : ∀ (l : List Str) (r k : Nat), r < 3 → k ≤ ws.length → l = ws.drop k → EndSpec ws (r + 1) k (endGo (ws.take 3) (2 - r) k l)
  | [], r, k, _, hk, hl => by
    left
    refine ⟨rfl, fun e h => ?_⟩
    obtain ⟨i, h1, h2, _⟩ := h
    have : ws.length ≤ k := by
      have := congrArg List.length hl
      rw [List.length_drop] at this
      simp at this
      omega
    exact absurd h2.1 (by omega)
  | x :: l, r, k, hr, hk, hl => by
    have hlt : k < ws.length := by
      have := congrArg List.length hl
      rw [List.length_drop] at this
      simp at this
      omega
    have hx : x = ws.getD k PySem.Str.empty ∧ l = ws.drop (k + 1) := by
      rw [drop_consS hlt] at hl
      exact ⟨(List.cons.inj hl).1, (List.cons.inj hl).2⟩
    obtain ⟨hx, hl'⟩ := hx
    by_cases hm : (x == (ws.take 3).getD (2 - r) PySem.Str.empty) = true
    · have hat : At ws k (2 - r) := ⟨hlt, by rw [← hx]; exact hm⟩
      cases r with
      | zero =>
        right
        have e : endGo (ws.take 3) (2 - 0) k (x :: l) = k + 1 := by
          show (if _ then _ else _) = _
          rw [if_pos hm, if_pos rfl]
        rw [e]
        refine ⟨Nat.succ_ne_zero _, ⟨k, Nat.le_refl _, hat, rfl⟩, fun e' h => ?_⟩
        obtain ⟨i, h1, _, rfl⟩ := h
        omega
      | succ r =>
        have e : endGo (ws.take 3) (2 - (r + 1)) k (x :: l) = endGo (ws.take 3) (2 - r) (k + 1) l := by
          show (if _ then _ else _) = _
          rw [if_pos hm, if_neg (by omega), show 2 - (r + 1) + 1 = 2 - r by omega]
        rw [e]
        rcases endGo_spec ws l r (k + 1) (by omega) hlt hl' with ⟨h0, h1⟩ | ⟨h0, h1, h2⟩
        · left
          refine ⟨h0, fun e' h => ?_⟩
          obtain ⟨i, g1, _, g3⟩ := h
          exact h1 e' (Mr.mono g3 (by omega))
        · right
          refine ⟨h0, ⟨k, Nat.le_refl _, hat, h1⟩, fun e' h => ?_⟩
          obtain ⟨i, g1, _, g3⟩ := h
          exact h2 e' (Mr.mono g3 (by omega))
    · have e : endGo (ws.take 3) (2 - r) k (x :: l) = endGo (ws.take 3) (2 - r) (k + 1) l := by
        show (if _ then _ else _) = _
        rw [if_neg hm]
      rw [e]
      have key : ∀ e', Mr ws (r + 1) k e' → Mr ws (r + 1) (k + 1) e' := fun e' h => by
        obtain ⟨i, g1, g2, g3⟩ := h
        refine ⟨i, ?_, g2, g3⟩
        rcases Nat.lt_or_eq_of_le g1 with h | h
        · exact h
        · subst h
          exact absurd (by rw [hx]; exact g2.2) hm
      rcases endGo_spec ws l r (k + 1) hr hlt hl' with ⟨h0, h1⟩ | ⟨h0, h1, h2⟩
      · left; exact ⟨h0, fun e' h => h1 e' (key e' h)⟩
      · right; exact ⟨h0, Mr.mono h1 (Nat.le_succ _), fun e' h => h2 e' (key e' h)⟩
theorem endS_spec (ws : List Str) (k : Nat) (hk : k ≤ ws.length) : EndSpec ws 3 k (endS ws k) := endGo_spec ws (ws.drop k) 2 k (by decide) hk rfl
theorem endS_eq {ws : List Str} {k v : Nat} (hk : k ≤ ws.length) (h : Mr ws 3 k v) (hmin : ∀ e, Mr ws 3 k e → v ≤ e) : endS ws k = v := by
  rcases endS_spec ws k hk with ⟨_, h1⟩ | ⟨_, h1, h2⟩
  · exact absurd h (h1 v)
  · exact Nat.le_antisymm (h2 v h) (hmin _ h1)
theorem endS_zero {ws : List Str} {k : Nat} (hk : k ≤ ws.length) (h : ∀ e, ¬ Mr ws 3 k e) : endS ws k = 0 := by
  rcases endS_spec ws k hk with ⟨h0, _⟩ | ⟨_, h1, _⟩
  · exact h0
  · exact absurd h1 (h _)
/-- the places of the sought word t -/
noncomputable def rowK (ws : List Str) (t : Nat) : List Nat := (List.range ws.length).filter fun k => ws.getD k PySem.Str.empty == (ws.take 3).getD t PySem.Str.empty
theorem rowK_mem {ws : List Str} {t c : Nat} : c ∈ rowK ws t ↔ At ws c t := by
  unfold rowK At
  rw [List.mem_filter, List.mem_range]
theorem rowK_sorted (ws : List Str) (t : Nat) : (rowK ws t).Pairwise (· < ·) := List.Pairwise.filter _ List.pairwise_lt_range
theorem intsOf_sorted {ks : List Nat} (h : ks.Pairwise (· < ·)) : sortedZ (intsOf ks) = true := by
  rw [sortedZ_iff]
  unfold intsOf
  rw [List.pairwise_map]
  exact h.imp fun h => by omega
theorem intsOf_len (ks : List Nat) : (intsOf ks).length = ks.length := List.length_map ..
theorem intsOf_getD {ks : List Nat} {j : Nat} (h : j < ks.length) : (intsOf ks).getD j 0 = ((ks[j] : Nat) : Int) := by
  unfold intsOf
  rw [List.getD_eq_getElem?_getD, List.getElem?_map, List.getElem?_eq_getElem h]
  rfl
theorem sorted_le {ks : List Nat} (h : ks.Pairwise (· < ·)) {i j : Nat} (hi : i < ks.length) (hj : j < ks.length) (hij : i ≤ j) : ks[i] ≤ ks[j] := by
  rcases Nat.lt_or_eq_of_le hij with e | e
  · exact Nat.le_of_lt (List.pairwise_iff_getElem.mp h i j hi hj e)
  · subst e; exact Nat.le_refl _
theorem bl_least {ws : List Str} {t k : Nat} {r : Int} (h : blPost (intsOf (rowK ws t)) (k : Int) r) (hr : r < (intsOf (rowK ws t)).length) : ∃ c : Nat, (intsOf (rowK ws t)).getD r.toNat 0 = (c : Int) ∧ k ≤ c ∧ At ws c t ∧ ∀ c', At ws c' t → k ≤ c' → c ≤ c' := by
  obtain ⟨h0, h1, h2, h3⟩ := h
  have hl := intsOf_len (rowK ws t)
  have hlt : r.toNat < (rowK ws t).length := by omega
  have hs := rowK_sorted ws t
  refine ⟨(rowK ws t)[r.toNat], intsOf_getD hlt, ?_, rowK_mem.mp (List.getElem_mem hlt), fun c' hc hk => ?_⟩
  · have := h3 r.toNat (by omega) (by omega)
    rw [intsOf_getD hlt] at this
    omega
  · obtain ⟨j, hj, e⟩ := List.mem_iff_getElem.mp (rowK_mem.mpr hc)
    by_cases hjr : (j : Int) < r
    · have := h2 j hjr
      rw [intsOf_getD hj, e] at this
      omega
    · have := sorted_le hs hlt hj (by omega)
      rw [e] at this
      exact this
theorem bl_none {ws : List Str} {t k : Nat} {r : Int} (h : blPost (intsOf (rowK ws t)) (k : Int) r) (hr : r = (intsOf (rowK ws t)).length) : ∀ c', At ws c' t → ¬ k ≤ c' := by
  intro c' hc hk
  obtain ⟨h0, h1, h2, h3⟩ := h
  obtain ⟨j, hj, e⟩ := List.mem_iff_getElem.mp (rowK_mem.mpr hc)
  have hl := intsOf_len (rowK ws t)
  have := h2 j (by omega)
  rw [intsOf_getD hj, e] at this
  omega
theorem br_greatest {ws : List Str} {t k : Nat} {r : Int} (h : brPost (intsOf (rowK ws t)) ((k : Int) - 1) r) (hex : ∃ c', At ws c' t ∧ c' < k) : 1 ≤ r ∧ ∃ c : Nat, (intsOf (rowK ws t)).getD (r - 1).toNat 0 = (c : Int) ∧ c < k ∧ At ws c t ∧ ∀ c', At ws c' t → c' < k → c' ≤ c := by
  obtain ⟨h0, h1, h2, h3⟩ := h
  have hl := intsOf_len (rowK ws t)
  have hs := rowK_sorted ws t
  have idx : ∀ c', At ws c' t → c' < k → ∃ j : Nat, ∃ hj : j < (rowK ws t).length, (rowK ws t)[j] = c' ∧ (j : Int) < r := fun c' hc hk => by
    obtain ⟨j, hj, e⟩ := List.mem_iff_getElem.mp (rowK_mem.mpr hc)
    refine ⟨j, hj, e, ?_⟩
    by_cases hjr : (j : Int) < r
    · exact hjr
    · have := h3 j (by omega) (by omega)
      rw [intsOf_getD hj, e] at this
      omega
  obtain ⟨c0, hc0, hk0⟩ := hex
  obtain ⟨j0, hj0, e0, hr0⟩ := idx c0 hc0 hk0
  have h1r : 1 ≤ r := by omega
  have hlt : (r - 1).toNat < (rowK ws t).length := by omega
  refine ⟨h1r, (rowK ws t)[(r - 1).toNat], intsOf_getD hlt, ?_, rowK_mem.mp (List.getElem_mem hlt), fun c' hc hk => ?_⟩
  · have := h2 (r - 1).toNat (by omega)
    rw [intsOf_getD hlt] at this
    omega
  · obtain ⟨j, hj, e, hjr⟩ := idx c' hc hk
    have := sorted_le hs hj hlt (by omega)
    rw [e] at this
    exact this
noncomputable def nssOf (ws : List Str) : List (List Int) := [rowK ws 0, rowK ws 1, rowK ws 2].map intsOf
theorem nss_at {ws : List Str} {i : Nat} {ns : List Int} (h : (nssOf ws)[i]? = some ns) : i < 3 ∧ ns = intsOf (rowK ws i) := by
  match i, h with
  | 0, h => exact ⟨by decide, (Option.some.inj h).symm⟩
  | 1, h => exact ⟨by decide, (Option.some.inj h).symm⟩
  | 2, h => exact ⟨by decide, (Option.some.inj h).symm⟩
  | i + 3, h => exact nomatch h
theorem nss_rev {ws : List Str} {i : Nat} {ns : List Int} (h : (nssOf ws).reverse[i]? = some ns) : i < 3 ∧ ns = intsOf (rowK ws (2 - i)) := by
  match i, h with
  | 0, h => exact ⟨by decide, (Option.some.inj h).symm⟩
  | 1, h => exact ⟨by decide, (Option.some.inj h).symm⟩
  | 2, h => exact ⟨by decide, (Option.some.inj h).symm⟩
  | i + 3, h => exact nomatch h
noncomputable def InvT (ws : List Str) (st : Nat) (tp : List (Int × Int)) : Prop := st ≤ ws.length ∧ tp = dueL ws st
noncomputable def GrT (ws : List Str) (st i : Nat) (x : Int) : Prop := ∃ k : Nat, x = (k : Int) ∧ st ≤ ws.length ∧ (∀ e, Mr ws (3 - i) k e → Mr ws 3 st e) ∧ ∀ e, Mr ws 3 st e → ∃ e', e' ≤ e ∧ Mr ws (3 - i) k e'
noncomputable def MissT (ws : List Str) (st : Nat) : Prop := ∀ e, ¬ Mr ws 3 st e
noncomputable def BkT (ws : List Str) (st : Nat) (e : Int) (i : Nat) (x : Int) : Prop := ∃ E k : Nat, e = (E : Int) ∧ x = (k : Int) ∧ Mr ws 3 st E ∧ (∀ e', Mr ws 3 st e' → E ≤ e') ∧ (∀ p, Fr' ws 3 p E → Fr' ws (3 - i) p k) ∧ Mr ws i k E
theorem dueL_succ (ws : List Str) (k : Nat) : dueL ws (k + 1) = dueL ws k ++ (if dueP ws k = true then [(((k : Nat) : Int), ((endS ws k : Nat) : Int))] else []) := by
  unfold dueL
  rw [List.range_succ, List.filter_append, List.map_append]
  congr 1
  by_cases h : dueP ws k = true <;> simp [h]
theorem dueL_skip {ws : List Str} {a : Nat} : ∀ d : Nat, (∀ k, a ≤ k → k < a + d → dueP ws k = false) → dueL ws (a + d) = dueL ws a
  | 0, _ => rfl
  | d + 1, h => by
    have e := dueL_succ ws (a + d)
    rw [h (a + d) (by omega) (by omega)] at e
    rw [show a + (d + 1) = a + d + 1 by omega, e, dueL_skip d fun k h1 h2 => h k h1 (by omega)]
    simp
theorem toldSpec (ws : List Str) : ToldSpec ws.length (nssOf ws) (InvT ws) (GrT ws) (MissT ws) (BkT ws) where
  g0 := fun st tp hI _ => ⟨st, rfl, hI.1, fun e h => h, fun e h => ⟨e, Nat.le_refl _, h⟩⟩
  g1 := by
    rintro st i at' r ns ⟨k, rfl, hst, hA, hB⟩ hns hbl hr
    obtain ⟨hi, rfl⟩ := nss_at hns
    obtain ⟨c, hc, hk, hat, hmin⟩ := bl_least hbl hr
    have e3 : 3 - i = (3 - (i + 1)) + 1 := by omega
    have e4 : 2 - (3 - (i + 1)) = i := by omega
    refine ⟨c + 1, by rw [hc]; omega, hst, fun e h => hA e ?_, fun e h => ?_⟩
    · rw [e3]
      exact ⟨c, hk, by rw [e4]; exact hat, h⟩
    · obtain ⟨e', h1, h2⟩ := hB e h
      rw [e3] at h2
      obtain ⟨i', g1, g2, g3⟩ := h2
      rw [e4] at g2
      have hci := hmin i' g2 g1
      cases h0 : 3 - (i + 1) with
      | zero =>
        rw [h0] at g3
        have g4 : e' = i' + 1 := g3
        exact ⟨c + 1, by omega, rfl⟩
      | succ r =>
        rw [h0] at g3
        exact ⟨e', h1, Mr.mono g3 (by omega)⟩
  gm := by
    rintro st i at' r ns ⟨k, rfl, hst, hA, hB⟩ hns hbl hr e he
    obtain ⟨hi, rfl⟩ := nss_at hns
    obtain ⟨e', h1, h2⟩ := hB e he
    have e3 : 3 - i = (3 - (i + 1)) + 1 := by omega
    have e4 : 2 - (3 - (i + 1)) = i := by omega
    rw [e3] at h2
    obtain ⟨i', g1, g2, g3⟩ := h2
    rw [e4] at g2
    exact bl_none hbl hr i' g2 g1
  b0 := by
    rintro st e ⟨k, rfl, hst, hA, hB⟩
    refine ⟨k, k, rfl, rfl, hA k rfl, fun e' h => ?_, fun p h => h, rfl⟩
    obtain ⟨e'', h1, h2⟩ := hB e' h
    have : e'' = k := h2
    omega
  b1 := by
    rintro st e i at' r ns ⟨E, k, rfl, rfl, hM, hmin, hF, hS⟩ hns hbr
    obtain ⟨hi, rfl⟩ := nss_rev hns
    have e3 : 3 - i = (2 - i) + 1 := by omega
    have hf := hF st (Mr3_Fr hM)
    rw [e3] at hf
    obtain ⟨c0, f1, f2, f3⟩ := hf
    obtain ⟨h1r, c, hc, hck, hat, hmax⟩ := br_greatest hbr ⟨c0, f2, f1⟩
    refine ⟨h1r, E, c, rfl, hc, hM, hmin, fun p hp => ?_, ?_⟩
    · have hf := hF p hp
      rw [e3] at hf
      obtain ⟨i', g1, g2, g3⟩ := hf
      rw [show 3 - (i + 1) = 2 - i by omega]
      exact Fr'.mono g3 (hmax i' g2 g1)
    · refine ⟨c, Nat.le_refl _, hat, ?_⟩
      cases i with
      | zero =>
        have hk : E = k := hS
        obtain ⟨l, g1, g2⟩ := Mr3_last hM
        have := hmax l g1 (by omega)
        show E = c + 1
        omega
      | succ i => exact Mr.mono hS (by omega)
  fin := by
    rintro st tp e b ⟨hst, rfl⟩ _ ⟨E, k, rfl, rfl, hM, hmin, hF, hS⟩
    have hle : st ≤ k := hF st (Mr3_Fr hM)
    have hkn : k < ws.length := by
      obtain ⟨i, g1, g2, _⟩ := hS
      exact Nat.lt_of_le_of_lt g1 g2.1
    have hend : ∀ j, st ≤ j → j ≤ k → endS ws j = E := fun j h1 h2 => endS_eq (by omega) (Mr.mono hS h2) fun e' h => hmin e' (Mr.mono h h1)
    refine ⟨k, rfl, hle, hkn, hkn, ?_⟩
    rw [dueL_succ]
    have e1 : dueL ws k = dueL ws st := by
      have := dueL_skip (ws := ws) (a := st) (k - st) fun j h1 h2 => by
        unfold dueP
        rw [hend j h1 (by omega), hend (j + 1) (by omega) (by omega)]
        simp
      rwa [show st + (k - st) = k by omega] at this
    have hp : dueP ws k = true := by
      unfold dueP
      rw [hend k hle (Nat.le_refl _)]
      obtain ⟨l, _, g2⟩ := Mr3_last hM
      have h2 : endS ws (k + 1) ≠ E := fun he => by
        have : Mr ws 3 (k + 1) E := by
          rcases endS_spec ws (k + 1) hkn with ⟨h0, _⟩ | ⟨_, h1, _⟩
          · omega
          · rw [he] at h1; exact h1
        have h3 : k + 1 ≤ k := hF (k + 1) (Mr3_Fr this)
        omega
      have h3 : E ≠ 0 := by omega
      simp [h2, h3]
    rw [e1, if_pos hp, hend k hle (Nat.le_refl _)]
theorem told_due {ws : List Str} {st : Nat} {tp : List (Int × Int)} (h : InvT ws st tp) (hm : MissT ws st) : tp = dueL ws ws.length := by
  obtain ⟨hst, rfl⟩ := h
  have := dueL_skip (ws := ws) (a := st) (ws.length - st) fun k h1 h2 => by
    unfold dueP
    rw [endS_zero (by omega) fun e he => hm e (Mr.mono he h1)]
    rfl
  rw [show st + (ws.length - st) = ws.length by omega] at this
  exact this.symm
end
section -- P3
noncomputable def flatT (zs : List Int) : List Nat := zs.flatMap textL
noncomputable def rkS (zs : List Int) : Nat → List Nat
  | 0 => flatT zs
  | i + 1 => match tokO (rkS zs i) with
    | some x => x.2
    | none => []
theorem drop_consI {zs : List Int} {i : Nat} (h : i < zs.length) : zs.drop i = zs.getD i 0 :: zs.drop (i + 1) := by
  rw [List.drop_eq_getElem_cons h, List.getD_eq_getElem?_getD, List.getElem?_eq_getElem h]; rfl
noncomputable def RestOk (r R : List Nat) : Prop := r = R ∨ ∃ c, wsC c = true ∧ r = c :: R
theorem RestOk.tok {r R : List Nat} (h : RestOk r R) : tokO r = tokO R := by
  rcases h with rfl | ⟨c, hc, rfl⟩
  · rfl
  · exact tokO_ws hc R
theorem rk_ok (zs : List Int) : ∀ i, i ≤ zs.length → RestOk (rkS zs i) (flatT (zs.drop i))
  | 0, _ => .inl rfl
  | i + 1, h => by
    have ih := rk_ok zs i (by omega)
    have e1 : flatT (zs.drop i) = textL (zs.getD i 0) ++ flatT (zs.drop (i + 1)) := by
      rw [drop_consI (show i < zs.length by omega)]; rfl
    obtain ⟨r, h1, h2⟩ := tok_text (zs.getD i 0) (flatT (zs.drop (i + 1)))
    have e2 : tokO (rkS zs i) = some (rawL (zs.getD i 0), r) := by rw [ih.tok, e1]; exact h1
    have e3 : rkS zs (i + 1) = r := by
      show (match tokO (rkS zs i) with | some x => x.2 | none => []) = r
      rw [e2]
    rw [e3]
    exact h2
theorem rk_tok (zs : List Int) {i : Nat} (h : i < zs.length) : tokO (rkS zs i) = some (rawL (zs.getD i 0), rkS zs (i + 1)) := by
  have ih := rk_ok zs i (by omega)
  have e1 : flatT (zs.drop i) = textL (zs.getD i 0) ++ flatT (zs.drop (i + 1)) := by
    rw [drop_consI h]; rfl
  obtain ⟨r, h1, h2⟩ := tok_text (zs.getD i 0) (flatT (zs.drop (i + 1)))
  have e2 : tokO (rkS zs i) = some (rawL (zs.getD i 0), r) := by rw [ih.tok, e1]; exact h1
  have e3 : rkS zs (i + 1) = r := by
    show (match tokO (rkS zs i) with | some x => x.2 | none => []) = r
    rw [e2]
  rw [e3]
  exact e2
theorem rk_end (zs : List Int) : tokO (rkS zs zs.length) = some ([], []) := by
  rw [(rk_ok zs zs.length (Nat.le_refl _)).tok, List.drop_length]
  rfl
theorem raw_len (z : Int) : (rawL z).length ≤ 4 ∧ rawL z ≠ [] := by
  obtain ⟨c, l, e, _, _, h⟩ := raw_ok z
  rw [e]
  exact ⟨h, List.cons_ne_nil _ _⟩
noncomputable def rawAt (zs : List Int) (i : Nat) : List Nat := rawL (zs.getD i 0)
noncomputable def stS (zs : List Int) (i : Nat) : List (List Nat) × List Nat := if i < 3 then (([0, 1, 2].drop i).map (rawAt zs), rkS zs 3) else ([], rkS zs i)
theorem st_next (zs : List Int) (i : Nat) (h : i < zs.length) : nextTok (stS zs i).1 (stS zs i).2 = some (rawAt zs i, stS zs (i + 1)) := by
  match i, h with
  | 0, _ => rfl
  | 1, _ => rfl
  | 2, _ => rfl
  | i + 3, h =>
    have e1 : stS zs (i + 3) = ([], rkS zs (i + 3)) := if_neg (by omega)
    have e2 : stS zs (i + 3 + 1) = ([], rkS zs (i + 3 + 1)) := if_neg (by omega)
    rw [e1, e2]
    show (tokO (rkS zs (i + 3))).map _ = _
    rw [rk_tok zs h]
    rfl
theorem st_len (zs : List Int) (i : Nat) : (stS zs i).1.length ≤ 10 := by
  unfold stS
  split
  · rw [List.length_map, List.length_drop]; simp only [List.length_cons, List.length_nil]; omega
  · exact Nat.zero_le _
theorem text_len (z : Int) : (textS z).length ≤ 16 := by
  unfold textS bodyS
  have h1 := inner_len z
  have h2 : (wsS z).length = 1 := rfl
  have h3 : (Str.ofString "\"").length = 1 := rfl
  rw [PySem.Str.length_append]
  split
  · unfold shutS
    rw [PySem.Str.length_append, PySem.Str.length_append]
    omega
  · omega
theorem text_ne (z : Int) : 1 ≤ (textL z).length := by
  unfold textL textS
  rw [toL_app, List.length_append, ws_toL]
  simp
noncomputable def wordsZ (zs : List Int) : List Str := zs.map wordS
noncomputable def textZ (zs : List Int) : Str := PySem.Txt.join (PySem.Str.ofString "") (zs.map textS)
theorem textZ_toL (zs : List Int) : (textZ zs).cps.toList = flatT zs := by
  unfold textZ flatT
  rw [join_toL, List.flatMap_map]
  rfl
theorem flat_len : ∀ zs : List Int, zs.length ≤ (flatT zs).length ∧ (flatT zs).length ≤ 16 * zs.length
  | [] => ⟨Nat.le_refl _, Nat.le_refl _⟩
  | z :: zs => by
    obtain ⟨h1, h2⟩ := flat_len zs
    have h3 := text_ne z
    have h4 : (textL z).length ≤ 16 := by have := text_len z; rwa [← show (textL z).length = (textS z).length from Array.length_toList] at this
    have e : flatT (z :: zs) = textL z ++ flatT zs := rfl
    rw [e, List.length_append, List.length_cons]
    omega
theorem wordsZ_getD (zs : List Int) {i : Nat} (h : i < zs.length) : (wordsZ zs).getD i PySem.Str.empty = wordS (zs.getD i 0) := by
  unfold wordsZ
  rw [List.getD_eq_getElem?_getD, List.getD_eq_getElem?_getD, List.getElem?_map, List.getElem?_eq_getElem h]
  rfl
noncomputable def psZ (zs : List Int) : List (Str × Str) := (List.range zs.length).map fun i => ((wordsZ zs).getD i PySem.Str.empty, strK i)
theorem psZ_len (zs : List Int) : (psZ zs).length = zs.length := by simp [psZ]
theorem psZ_at (zs : List Int) {i : Nat} (h : i < zs.length) : (psZ zs)[i]? = some ((wordsZ zs).getD i PySem.Str.empty, strK i) := by
  unfold psZ
  rw [List.getElem?_map, List.getElem?_range h]
  rfl
theorem psZ_mem {zs : List Int} {p : Str × Str} (h : p ∈ psZ zs) : ∃ i, i < zs.length ∧ p = (wordS (zs.getD i 0), strK i) := by
  unfold psZ at h
  obtain ⟨i, hi, rfl⟩ := List.mem_map.mp h
  rw [List.mem_range] at hi
  exact ⟨i, hi, by rw [wordsZ_getD zs hi]⟩
theorem strK_str : ∀ i < 20, PyData.strOk (strK i) = true := by decide +kernel
/-- the rows of the table, by the words themselves -/
theorem getP_rows (zs : List Int) {j : Nat} (hj : j < zs.length) (hj3 : j < 3) : getP (psZ zs) (Txt.upper (wordS (zs.getD j 0))) = (rowK (wordsZ zs) j).map strK := by
  have hl : (wordsZ zs).length = zs.length := List.length_map ..
  unfold getP psZ rowK
  rw [List.filter_map, List.map_map, hl]
  have e : ((fun p : Str × Str => Txt.lower p.1 == Txt.lower (Txt.upper (wordS (zs.getD j 0)))) ∘ fun i => ((wordsZ zs).getD i PySem.Str.empty, strK i)) = fun i => Txt.lower ((wordsZ zs).getD i PySem.Str.empty) == Txt.lower (Txt.upper (wordS (zs.getD j 0))) := rfl
  rw [e]
  have e2 : (List.range zs.length).filter (fun i => Txt.lower ((wordsZ zs).getD i PySem.Str.empty) == Txt.lower (Txt.upper (wordS (zs.getD j 0)))) = (List.range zs.length).filter (fun k => (wordsZ zs).getD k PySem.Str.empty == ((wordsZ zs).take 3).getD j PySem.Str.empty) := by
    apply List.filter_congr
    intro i hi
    rw [List.mem_range] at hi
    have e3 : ((wordsZ zs).take 3).getD j PySem.Str.empty = wordS (zs.getD j 0) := by
      rw [← wordsZ_getD zs hj, List.getD_eq_getElem?_getD, List.getElem?_take_of_lt hj3, ← List.getD_eq_getElem?_getD]
    rw [e3, wordsZ_getD zs hi, (wordOk _).low, (wordOk _).up]
  rw [e2]
  rfl
end
section -- LZ
variable {w : World} {mean : ExcName → Option Value} {mg mb : Str → Option Value} {A₀ : Around} {base h₀ : Heap} {L a : Addr} {ccd : Value} {m : Str → Option Value} {s : Shared} {Q : Flow → Shared → Prop} {E : Value → Shared → Prop}
/-- a ledger less one place -/
noncomputable def Less (c : Addr) (l : List (Addr × Obj)) : List (Addr × Obj) := l.filter fun p => decide (p.1 ≠ c)
theorem Less.mem {c : Addr} {l : List (Addr × Obj)} {p : Addr × Obj} (h : p ∈ l) (hne : p.1 ≠ c) : p ∈ Less c l := List.mem_filter.mpr ⟨h, decide_eq_true hne⟩
theorem Less.sub {c : Addr} {l : List (Addr × Obj)} {p : Addr × Obj} (h : p ∈ Less c l) : p ∈ l := (List.mem_filter.mp h).1
theorem Less.off {c : Addr} {l : List (Addr × Obj)} : OwnOff (Less c l) [c] := fun p hp b hb => by
  rw [List.mem_singleton.mp hb]
  exact of_decide_eq_true (List.mem_filter.mp hp).2
theorem tup_less {h : Heap} {c : Addr} {oC : Obj} {v : Option Value} {news : List (Addr × Obj)} {ys : List Value} {ps : List (Str × Str)} (N : News h₀ L h news) (hc : (c, oC) ∈ news) (dC : oC.data = .cell v) (t : TupsAt news ys ps) : TupsAt (Less c news) ys ps :=
  ⟨t.1, fun i p e => by
    obtain ⟨D, ta, tb, e1, e2⟩ := t.2 i p e
    refine ⟨D, ta, tb, e1, Less.mem e2 fun hD => ?_⟩
    have h1 := (N _ e2).1
    have h2 := (N _ hc).1
    dsimp only at hD h1 h2
    rw [hD, h2] at h1
    have h3 := congrArg Obj.data (Option.some.inj h1)
    rw [dC] at h3
    cases h3⟩
theorem int_less {h : Heap} {c : Addr} {oC : Obj} {v : Option Value} {news objs : List (Addr × Obj)} {ys : List Value} {ps : List (Int × Int)} (N : News h₀ L h news) (hc : (c, oC) ∈ news) (dC : oC.data = .cell v) (t : IntsAt news ys ps) : IntsAt (Less c news) ys ps :=
  ⟨t.1, fun i p e => by
    obtain ⟨D, ta, tb, e1, e2⟩ := t.2 i p e
    refine ⟨D, ta, tb, e1, Less.mem e2 fun hD => ?_⟩
    have h1 := (N _ e2).1
    have h2 := (N _ hc).1
    dsimp only at hD h1 h2
    rw [hD, h2] at h1
    have h3 := congrArg Obj.data (Option.some.inj h1)
    rw [dC] at h3
    cases h3⟩
theorem lexAd_nodup {A : LexA} {text : Str} (ok : LexOk A text) : (lexAd A).Nodup := by
  exact (lexDown ok).imp Nat.ne_of_gt
theorem nd_lex {P : Params} {A : LexA} {text : Str} (ok : LexOk A text) {ln : Int} {tl : Tok} {p : Nat} {tp : Tok} {n2 : Nat} {ps : Array Value} {n3 : Nat} {news : List (Addr × Obj)} (nd : ND news) (hoff : OwnOff news (lexAd A)) : ND (lexL P mg A ln tl p tp n2 ps n3 ++ news) := by
  unfold ND at nd ⊢
  rw [List.map_append, List.nodup_append]
  refine ⟨lexAd_nodup ok, nd, fun x hx y hy e => ?_⟩
  obtain ⟨q, hq, rfl⟩ := List.mem_map.mp hy
  exact hoff q hq x hx e.symm
theorem nd_mid {x : Addr × Obj} {a b : List (Addr × Obj)} (nd : ND (a ++ b)) (hx : ∀ q ∈ a ++ b, q.1 ≠ x.1) : ND (a ++ x :: b) := ND.perm (ND.cons (D := x.1) (o := x.2) nd hx) mid_perm
theorem fmod_ok (x : Int) : 0 ≤ x.fmod 10240 ∧ x.fmod 10240 < 10240 := ⟨Int.fmod_nonneg_of_pos _ (by decide), Int.fmod_lt_of_pos _ (by decide)⟩
end
section -- LZ2
variable {w : World} {mean : ExcName → Option Value} {mg mb : Str → Option Value} {A₀ : Around} {base h₀ : Heap} {L a : Addr} {ccd : Value} {m : Str → Option Value} {s : Shared} {Q : Flow → Shared → Prop} {E : Value → Shared → Prop}
noncomputable def lawZ (xs : List Int) : List Int := (xs.take 8).map (Int.fmod · 10240) ++ six
theorem lawZ_len (xs : List Int) : 6 ≤ (lawZ xs).length ∧ (lawZ xs).length ≤ 14 := by
  unfold lawZ
  rw [List.length_append, List.length_map, List.length_take]
  have : six.length = 6 := rfl
  omega
set_option maxHeartbeats 4000000 in
theorem walkA (B : Below A₀ base [] h₀) (X : (KK w.params).In h₀) (T : Top topProg LX mean mg mb h₀) (sl : Addr) (vs : List Value) (xs : List Int) (hsl : h₀.IsList sl vs.toArray) (hv : IntsAre vs xs) (hxs : xs.length ≤ 63)
    (oE oW : Obj) (vE vW : Option Value) (dE : oE.data = .cell vE) (dW : oW.data = .cell vW) (l0 : @LT.lt Nat _ 312 L)
    (hm : m (Str.ofString "script") = some (.ref sl)) (F : Fr h₀ L s.heap m) (N : News h₀ L s.heap [(L + 1 + 1, oE), (L + 1, oW), (312, tabObj #[])])
    (next : ∀ wl us ep oW' t m' h tk, StrsAre us (wordsZ (lawZ xs)) → oW'.data = .cell (some (.ref wl)) → @LT.lt Nat _ (L + 1 + 1) wl → m' (Str.ofString "text") = some (.str (textZ (lawZ xs)) t) → Fr h₀ L h m' → News h₀ L h ((312, tabObj #[]) :: [(wl, listOf us.toArray ep), (L + 1, oW'), (L + 1 + 1, oE)]) → wpAny (model PW w) (lawA L a ccd) (execs (lawSt.drop 4) (lawE L a ccd)) Q E { s with heap := h, toks := tk }) :
    wpAny (model PW w) (lawA L a ccd) (execs (lawSt.drop 0) (lawE L a ccd)) Q E s := by
  have hn := lawZ_len xs
  refine seg0 B X T sl vs xs hsl hv hxs hm _ F N ?_
  intro D0 ys0 ex0 k0 h0 tk0 htup0 F0 N0 hD0 hex0
  refine seg1 B X T D0 ys0 k0 ((xs.take 8).map (Int.fmod · 10240)) (ex0 ++ [(L + 1 + 1, oE), (L + 1, oW), (312, tabObj #[])]) (htup0.mono fun p hp => List.mem_append_left _ hp) (by rw [List.length_map, List.length_take]; omega) rfl F0 N0 ?_
  intro D1 ys1 ex1 h1 tk1 htup1 F1 N1 hD1 hex1
  have hcW : (L + 1, oW) ∈ ex1 ++ (ex0 ++ [(L + 1 + 1, oE), (L + 1, oW), (312, tabObj #[])]) := List.mem_append_right _ (List.mem_append_right _ (.tail _ (.head _)))
  have hcE : (L + 1 + 1, oE) ∈ ex1 ++ (ex0 ++ [(L + 1 + 1, oE), (L + 1, oW), (312, tabObj #[])]) := List.mem_append_right _ (List.mem_append_right _ (.head _))
  have hcT : (312, tabObj #[]) ∈ ex1 ++ (ex0 ++ [(L + 1 + 1, oE), (L + 1, oW), (312, tabObj #[])]) := List.mem_append_right _ (List.mem_append_right _ (.tail _ (.tail _ (.head _))))
  have hlW : @LT.lt Nat _ (L + 1) D1 := hD1 (L + 1, oW) (List.mem_append_right _ (.tail _ (.head _)))
  have hps : ((lawZ xs).map rowS).length ≤ 100 := by rw [List.length_map]; omega
  have N1' : News h₀ L h1 (ex1 ++ (ex0 ++ [(L + 1 + 1, oE), (L + 1, oW), (312, tabObj #[])])) := nsub N1 fun q hq => .tail _ hq
  refine seg2 B X T D1 ys1 0 ((lawZ xs).map rowS) oW vW (Less (L + 1) (ex1 ++ (ex0 ++ [(L + 1 + 1, oE), (L + 1, oW), (312, tabObj #[])]))) (tup_less N1' hcW dW htup1) hps Less.off hlW dW rfl F1 (nsub N1 fun q hq => ?_) ?_
  · rcases List.mem_cons.mp hq with h | hq
    · rw [h]; exact .head _
    · rcases List.mem_cons.mp hq with h | hq
      · rw [h]; exact .tail _ hcW
      · exact .tail _ (Less.sub hq)
  intro D2 us ep oW' h2 tk2 hus dW' F2 N2 hD2
  have hwz : ((lawZ xs).map rowS).map (·.1) = wordsZ (lawZ xs) := by rw [List.map_map]; rfl
  have htz : PySem.Txt.join (PySem.Str.ofString "") (((lawZ xs).map rowS).map (·.2)) = textZ (lawZ xs) := by rw [List.map_map]; rfl
  rw [hwz] at hus
  have htail : TupsAt ((D2, listOf us.toArray ep) :: (D1, listOf ys1.toArray 0) :: (L + 1, oW') :: Less (L + 1) (ex1 ++ (ex0 ++ [(L + 1 + 1, oE), (L + 1, oW), (312, tabObj #[])]))) ys1 ((lawZ xs).map rowS) := (tup_less N1' hcW dW htup1).mono fun q hq => .tail _ (.tail _ (.tail _ hq))
  refine seg3 B X T D1 ys1 0 ((lawZ xs).map rowS) _ htail hps (fun p hp => ?_) rfl F2 N2 (.tail _ (.head _)) ?_
  · obtain ⟨z, _, rfl⟩ := List.mem_map.mp hp
    exact text_len z
  intro t h3 tk3 F3 N3
  rw [htz] at F3
  have hlE : (L + 1 + 1, oE) ∈ Less (L + 1) (ex1 ++ (ex0 ++ [(L + 1 + 1, oE), (L + 1, oW), (312, tabObj #[])])) := Less.mem hcE (Nat.ne_of_gt (Nat.lt_succ_self _))
  have hlT : (312, tabObj #[]) ∈ Less (L + 1) (ex1 ++ (ex0 ++ [(L + 1 + 1, oE), (L + 1, oW), (312, tabObj #[])])) := Less.mem hcT (Nat.ne_of_lt (Nat.lt_succ_of_lt l0))
  refine next D2 us ep oW' t _ h3 tk3 hus dW' (hD2 _ (.tail _ (.tail _ hlE))) rfl F3 (nsub N3 fun q hq => ?_)
  rcases List.mem_cons.mp hq with h | hq
  · rw [h]; exact .tail _ (.tail _ (.tail _ hlT))
  rcases List.mem_cons.mp hq with h | hq
  · rw [h]; exact .head _
  rcases List.mem_cons.mp hq with h | hq
  · rw [h]; exact .tail _ (.tail _ (.head _))
  rw [List.mem_singleton.mp hq]
  exact .tail _ (.tail _ (.tail _ hlE))
end
section -- LZ3
variable {w : World} {mean : ExcName → Option Value} {mg mb : Str → Option Value} {A₀ : Around} {base h₀ : Heap} {L a : Addr} {ccd : Value} {m : Str → Option Value} {s : Shared} {Q : Flow → Shared → Prop} {E : Value → Shared → Prop}
noncomputable def textC (zs : List Int) : Int := 1 + nl (textZ zs).cps.toList
set_option maxHeartbeats 4000000 in
theorem walkB (zs : List Int) (hn : 6 ≤ zs.length ∧ zs.length ≤ 14) (hE : PassesOwn (model PW w) (lawA L a ccd) (lawE L a ccd) E) (B : Below A₀ base [] h₀) (X : (KK w.params).In h₀) (T : Top topProg LX mean mg mb h₀)
    (wl : Addr) (us : List Value) (ep : Nat) (oW oE : Obj) (tt : Tok) (hus : StrsAre us (wordsZ zs)) (dW : oW.data = .cell (some (.ref wl))) (hwl : @LT.lt Nat _ (L + 1 + 1) wl) (l0 : @LT.lt Nat _ 312 L)
    (hm : m (Str.ofString "text") = some (.str (textZ zs) tt)) (F : Fr h₀ L s.heap m) (N : News h₀ L s.heap ((312, tabObj #[]) :: [(wl, listOf us.toArray ep), (L + 1, oW), (L + 1 + 1, oE)]))
    (next : ∀ A ln tl p tp n2 n3 hx hd hl k1 its n fl fs tups pt m' h tk, LexOk A (textZ zs) → @LT.lt Nat _ hd hx → @LT.lt Nat _ hx hl → TupsAt tups (Array.toList its) (psZ zs) → StrsAre fs ([0, 1, 2].map fun i => sOf (rawAt zs i)) →
      (textZ zs).cps.toList.drop p = rkS zs zs.length → ln + nl (rkS zs zs.length) = textC zs → p ≤ (textZ zs).cps.size →
      m' (Str.ofString "text") = some (.str (textZ zs) tt) → m' (Str.ofString "lexer") = some (.ref A.lx) → m' (Str.ofString "first") = some (.ref fl) → m' (Str.ofString "table") = some (.ref hx) →
      ND (lexL w.params mg A ln tl p tp n2 #[] n3 ++ (hdrL w.params hx hd hl k1 its n ++ ((wl, listOf us.toArray ep) :: (L + 1, oW) :: ([(L + 1 + 1, oE), (fl, listOf (List.toArray fs) 0), (312, tabObj pt)] ++ tups)))) → Fr h₀ L h m' →
      News h₀ L h (lexL w.params mg A ln tl p tp n2 #[] n3 ++ (hdrL w.params hx hd hl k1 its n ++ ((wl, listOf us.toArray ep) :: (L + 1, oW) :: ([(L + 1 + 1, oE), (fl, listOf (List.toArray fs) 0), (312, tabObj pt)] ++ tups)))) →
      wpAny (model PW w) (lawA L a ccd) (execs (lawSt.drop 9) (lawE L a ccd)) Q E { s with heap := h, toks := tk }) :
    wpAny (model PW w) (lawA L a ccd) (execs (lawSt.drop 4) (lawE L a ccd)) Q E s := by
  have hfl := flat_len zs
  have htl : (textZ zs).cps.toList.length = (textZ zs).cps.size := Array.length_toList
  rw [textZ_toL] at htl
  have hx2 : 2 ≤ (textZ zs).cps.size := by omega
  have l1 : @LT.lt Nat _ 312 (L + 1) := Nat.lt_succ_of_lt l0
  have l2 : @LT.lt Nat _ 312 (L + 1 + 1) := Nat.lt_succ_of_lt l1
  refine seg4 B X T (textZ zs) tt [(wl, listOf us.toArray ep), (L + 1, oW), (L + 1 + 1, oE)] (fun p hp b hb => ?_) hm F N ?_
  · rw [List.mem_singleton.mp hb]
    simp only [List.mem_cons, List.not_mem_nil, or_false] at hp
    have l1 : @LT.lt Nat _ 312 (L + 1) := Nat.lt_succ_of_lt l0
    rcases hp with h | h | h <;> rw [h]
    · exact Nat.ne_of_gt (Nat.lt_trans (Nat.lt_succ_of_lt l1) hwl)
    · exact Nat.ne_of_gt l1
    · exact Nat.ne_of_gt (Nat.lt_succ_of_lt l1)
  intro A tl0 tp0 n20 n30 pt h1 tk1 ok F1 N1 hoff
  have hr : ∀ i, i < 3 → rawAt zs i ≠ [] ∧ (rawAt zs i).length ≤ 1000 := fun i _ => by have := raw_len (zs.getD i 0); exact ⟨this.2, Nat.le_trans this.1 (by decide)⟩
  refine seg5 B X T (textZ zs) A ok tl0 tp0 n20 n30 _ hoff hx2 (textC zs) (rawAt zs 0) (rawAt zs 1) (rawAt zs 2) (rkS zs 1) (rkS zs 2) (rkS zs 3) rfl (by rw [List.drop_zero, textZ_toL]; exact rk_tok zs (i := 0) (by omega)) (rk_tok zs (by omega)) (rk_tok zs (by omega)) (hr 0 (by decide)).2 (hr 1 (by decide)).2 (hr 2 (by decide)).2 (hr 0 (by decide)).1 (hr 1 (by decide)).1 (hr 2 (by decide)).1 rfl F1 N1 ?_
  intro fl t0 t1 t2 ln tl p tp n2 h2 tk2 F2 N2 hdrop hln hp hD
  have nd0 : ND [(wl, listOf us.toArray ep), (L + 1, oW), (L + 1 + 1, oE), (312, tabObj pt)] := by
    refine ND.cons (l := [(L + 1, oW), (L + 1 + 1, oE), (312, tabObj pt)]) (ND.cons (l := [(L + 1 + 1, oE), (312, tabObj pt)]) (ND.cons (l := [(312, tabObj pt)]) (ND.cons (l := []) (List.nodup_nil) fun q hq => nomatch hq) fun q hq => ?_) fun q hq => ?_) fun q hq => ?_
    · rw [List.mem_singleton.mp hq]; exact Nat.ne_of_lt l2
    · simp only [List.mem_cons, List.not_mem_nil, or_false] at hq
      rcases hq with h | h <;> rw [h]
      · exact Nat.ne_of_gt (Nat.lt_succ_self _)
      · exact Nat.ne_of_lt l1
    · simp only [List.mem_cons, List.not_mem_nil, or_false] at hq
      rcases hq with h | h | h <;> rw [h]
      · exact Nat.ne_of_lt (Nat.lt_trans (Nat.lt_succ_self _) hwl)
      · exact Nat.ne_of_lt hwl
      · exact Nat.ne_of_lt (Nat.lt_trans l2 hwl)
  have nd1 : ND (lexL w.params mg A ln tl p tp n2 #[] n30 ++ [(wl, listOf us.toArray ep), (L + 1, oW), (L + 1 + 1, oE), (312, tabObj pt)]) := nd_lex ok nd0 hoff
  have nd2 : ND (lexL w.params mg A ln tl p tp n2 #[] n30 ++ ((fl, listOf [Value.str (sOf (rawAt zs 0)) t0, .str (sOf (rawAt zs 1)) t1, .str (sOf (rawAt zs 2)) t2].toArray 0) :: [(wl, listOf us.toArray ep), (L + 1, oW), (L + 1 + 1, oE), (312, tabObj pt)])) := nd_mid nd1 fun q hq => Nat.ne_of_lt (hD q hq)
  refine seg6 hE B X T (textZ zs) A ok ln tl p tp n2 n30 fl [Value.str (sOf (rawAt zs 0)) t0, .str (sOf (rawAt zs 1)) t1, .str (sOf (rawAt zs 2)) t2] (Nat.le_of_ble_eq_true rfl) 0 _ nd2 rfl rfl F2 (nsub N2 fun q hq => mid_perm.mem_iff.mpr hq) ?_
  intro v n3 h3 tk3 F3 N3
  have nd3 : ND (lexL w.params mg A ln tl p tp n2 [Value.str (sOf (rawAt zs 0)) t0, .str (sOf (rawAt zs 1)) t1, .str (sOf (rawAt zs 2)) t2].toArray n3 ++ ((fl, listOf [Value.str (sOf (rawAt zs 0)) t0, .str (sOf (rawAt zs 1)) t1, .str (sOf (rawAt zs 2)) t2].toArray 0) :: [(wl, listOf us.toArray ep), (L + 1, oW), (L + 1 + 1, oE), (312, tabObj pt)])) := ND.same nd2 rfl
  refine seg7 B X T _ nd3 F3 N3 ?_
  intro hx hd hl k1 n h4 tk4 o1 o2 F4 N4 nd4
  have hwsl : (wordsZ zs).length = zs.length := List.length_map ..
  have perm8 : (hdrL w.params hx hd hl k1 #[] n ++ (lexL w.params mg A ln tl p tp n2 [Value.str (sOf (rawAt zs 0)) t0, .str (sOf (rawAt zs 1)) t1, .str (sOf (rawAt zs 2)) t2].toArray n3 ++ ((fl, listOf [Value.str (sOf (rawAt zs 0)) t0, .str (sOf (rawAt zs 1)) t1, .str (sOf (rawAt zs 2)) t2].toArray 0) :: [(wl, listOf us.toArray ep), (L + 1, oW), (L + 1 + 1, oE), (312, tabObj pt)]))).Perm
      (lexL w.params mg A ln tl p tp n2 [Value.str (sOf (rawAt zs 0)) t0, .str (sOf (rawAt zs 1)) t1, .str (sOf (rawAt zs 2)) t2].toArray n3 ++ (hdrL w.params hx hd hl k1 #[] n ++ ((wl, listOf us.toArray ep) :: (L + 1, oW) :: [(L + 1 + 1, oE), (fl, listOf [Value.str (sOf (rawAt zs 0)) t0, .str (sOf (rawAt zs 1)) t1, .str (sOf (rawAt zs 2)) t2].toArray 0), (312, tabObj pt)]))) :=
    swap_perm.trans (List.Perm.append_left _ (List.Perm.append_left _ (mid_perm (b := [(wl, listOf us.toArray ep), (L + 1, oW), (L + 1 + 1, oE)]) (c := [(312, tabObj pt)]))))
  refine seg8 hE B X T (textZ zs) hx2 A ok (textC zs) (stS zs) (rawAt zs) (wordsZ zs) (by omega) (psZ zs) (fun i hi => psZ_at zs (by omega)) (fun i hi => st_next zs i (by omega)) (fun i hi => ?_) (fun x hx => ?_) ln tl p tp n2 _ n3 ⟨hdrop, hln, hp, .cons _ _ (.cons _ _ (.cons _ _ .nil))⟩ hx hd hl o1 o2 k1 n wl us ep hus oW dW _ (ND.perm nd4 perm8) rfl rfl F4 (nsub N4 fun q hq => perm8.mem_iff.mpr hq) ?_
  · have h1 := raw_len (zs.getD i 0)
    have h2 := prep_raw (zs.getD i 0)
    exact ⟨Nat.le_trans h1.1 (by decide), h1.2, st_len zs i, h2.2, by rw [wordsZ_getD zs (by omega)]; exact h2.1⟩
  · obtain ⟨z, _, rfl⟩ := List.mem_map.mp hx
    exact (wordOk z).ok
  rintro m₁ news₁ h5 tk5 ⟨vk, ln5, tl5, p5, tp5, n25, qs5, n35, its, n5, tups, rfl, rfl, hS5, htup5, nd5⟩ F5 N5
  have est : stS zs (wordsZ zs).length = ([], rkS zs zs.length) := by rw [hwsl]; exact if_neg (by omega)
  rw [est] at hS5
  obtain ⟨s1, s2, s3, s4⟩ := hS5
  cases s4
  rw [hwsl, ← psZ_len zs, List.take_length] at htup5
  exact next A ln5 tl5 p5 tp5 n25 n35 hx hd hl k1 its n5 fl [Value.str (sOf (rawAt zs 0)) t0, .str (sOf (rawAt zs 1)) t1, .str (sOf (rawAt zs 2)) t2] tups pt _ h5 tk5 ok o1 o2 htup5 (.cons _ _ (.cons _ _ (.cons _ _ .nil))) s1 s2 s3 (by exact hm) (by exact rfl) (by exact rfl) (by exact rfl) nd5 F5 N5
end
section -- LZ4
variable {w : World} {mean : ExcName → Option Value} {mg mb : Str → Option Value} {A₀ : Around} {base h₀ : Heap} {L a : Addr} {ccd : Value} {m : Str → Option Value} {s : Shared} {Q : Flow → Shared → Prop} {E : Value → Shared → Prop}
theorem permC {a b c d : List (Addr × Obj)} : (a ++ (b ++ (c ++ d))).Perm ((b ++ d) ++ (a ++ c)) := by
  refine swap_perm.trans ?_
  rw [List.append_assoc]
  refine List.Perm.append_left b ?_
  rw [← List.append_assoc]
  exact List.perm_append_comm
theorem rs3 {N : List (Addr × Obj)} {rs : List Value} {n0 n1 n2 : List Int} (h : RowsAt N rs [n0, n1, n2]) : ∃ R0 R1 R2 : Addr, rs = [.ref R0, .ref R1, .ref R2] := by
  obtain ⟨hl, hR⟩ := h
  match rs, hl, hR with
  | [a, b, c], _, hR =>
    obtain ⟨D0, _, _, e0, _⟩ := hR 0 n0 rfl
    obtain ⟨D1, _, _, e1, _⟩ := hR 1 n1 rfl
    obtain ⟨D2, _, _, e2, _⟩ := hR 2 n2 rfl
    cases e0; cases e1; cases e2
    exact ⟨D0, D1, D2, rfl⟩
theorem rowK_lt {ws : List Str} {t c : Nat} (h : c ∈ rowK ws t) : c < ws.length := (rowK_mem.mp h).1
theorem rowK_len (ws : List Str) (t : Nat) : (rowK ws t).length ≤ ws.length := by
  unfold rowK
  exact Nat.le_trans (List.length_filter_le _ _) (by rw [List.length_range]; exact Nat.le_refl _)
theorem nss_ok (ws : List Str) (hw : ws.length ≤ 20) : ∀ ns ∈ nssOf ws, sortedZ ns = true ∧ ns.length ≤ 100 ∧ ∀ x ∈ ns, 0 ≤ x ∧ x < (ws.length : Int) := by
  intro ns hns
  unfold nssOf at hns
  obtain ⟨ks, hks, rfl⟩ := List.mem_map.mp hns
  have key : ∀ t, sortedZ (intsOf (rowK ws t)) = true ∧ (intsOf (rowK ws t)).length ≤ 100 ∧ ∀ x ∈ intsOf (rowK ws t), 0 ≤ x ∧ x < (ws.length : Int) := fun t => by
    refine ⟨intsOf_sorted (rowK_sorted ws t), by have := rowK_len ws t; rw [intsOf_len]; omega, fun x hx => ?_⟩
    obtain ⟨k, hk, rfl⟩ := List.mem_map.mp hx
    have := rowK_lt hk
    omega
  simp only [List.mem_cons, List.not_mem_nil, or_false] at hks
  rcases hks with h | h | h <;> rw [h] <;> exact key _
theorem raws_at {zs : List Int} {i : Nat} {r : List Nat} (h : ([0, 1, 2].map (rawAt zs))[i]? = some r) : i < 3 ∧ r = rawAt zs i := by
  match i, h with
  | 0, h => exact ⟨by decide, (Option.some.inj h).symm⟩
  | 1, h => exact ⟨by decide, (Option.some.inj h).symm⟩
  | 2, h => exact ⟨by decide, (Option.some.inj h).symm⟩
  | i + 3, h => exact nomatch h
theorem rows_at (ws : List Str) {i : Nat} (h : i < 3) : ([rowK ws 0, rowK ws 1, rowK ws 2])[i]? = some (rowK ws i) := by
  match i, h with
  | 0, _ => rfl
  | 1, _ => rfl
  | 2, _ => rfl
theorem Keep.at {m₀ m₁ : Str → Option Value} (h : Keep m₀ m₁) {x : String} {v : Option Value} (e : m₀ (Str.ofString x) = v) (h1 : Str.ofString x ≠ Str.ofString "at" := by decide) (h2 : Str.ofString x ≠ Str.ofString "missing" := by decide) (h3 : Str.ofString x ≠ Str.ofString "row" := by decide) (h4 : Str.ofString x ≠ Str.ofString "k" := by decide) (h5 : Str.ofString x ≠ Str.ofString "behind" := by decide) (h6 : Str.ofString x ≠ Str.ofString "start" := by decide) : m₁ (Str.ofString x) = v := (h _ h1 h2 h3 h4 h5 h6).trans e
set_option maxHeartbeats 4000000 in
theorem walkC (zs : List Int) (hn : 6 ≤ zs.length ∧ zs.length ≤ 14) (hE : PassesOwn (model PW w) (lawA L a ccd) (lawE L a ccd) E) (B : Below A₀ base [] h₀) (X : (KK w.params).In h₀) (T : Top topProg LX mean mg mb h₀)
    (wl : Addr) (us : List Value) (ep : Nat) (oW oE : Obj) (vE : Option Value) (tt : Tok) (hus : StrsAre us (wordsZ zs)) (dW : oW.data = .cell (some (.ref wl))) (dE : oE.data = .cell vE)
    (A : LexA) (ln : Int) (tl : Tok) (p : Nat) (tp : Tok) (n2 n3 : Nat) (hx hd hl : Addr) (k1 : Tok) (its : Array Value) (n : Nat) (fl : Addr) (fs : List Value) (tups : List (Addr × Obj)) (pt : Array Value) (l0 : @LT.lt Nat _ 312 L)
    (ok : LexOk A (textZ zs)) (o1 : @LT.lt Nat _ hd hx) (o2 : @LT.lt Nat _ hx hl) (htup : TupsAt tups its.toList (psZ zs)) (hfs : StrsAre fs ([0, 1, 2].map fun i => sOf (rawAt zs i)))
    (hdrop : (textZ zs).cps.toList.drop p = rkS zs zs.length) (hln : ln + nl (rkS zs zs.length) = textC zs) (hp : p ≤ (textZ zs).cps.size)
    (hmt : m (Str.ofString "text") = some (.str (textZ zs) tt)) (hml : m (Str.ofString "lexer") = some (.ref A.lx)) (hmf : m (Str.ofString "first") = some (.ref fl)) (hmh : m (Str.ofString "table") = some (.ref hx))
    (nd : ND (lexL w.params mg A ln tl p tp n2 #[] n3 ++ (hdrL w.params hx hd hl k1 its n ++ ((wl, listOf us.toArray ep) :: (L + 1, oW) :: ([(L + 1 + 1, oE), (fl, listOf fs.toArray 0), (312, tabObj pt)] ++ tups)))))
    (F : Fr h₀ L s.heap m) (N : News h₀ L s.heap (lexL w.params mg A ln tl p tp n2 #[] n3 ++ (hdrL w.params hx hd hl k1 its n ++ ((wl, listOf us.toArray ep) :: (L + 1, oW) :: ([(L + 1 + 1, oE), (fl, listOf fs.toArray 0), (312, tabObj pt)] ++ tups)))))
    (next : ∀ h tk m', Fr h₀ L h m' → GrownAt 312 h → Q (.ret (.bool true)) { s with heap := h, toks := tk }) :
    wpAny (model PW w) (lawA L a ccd) (execs (lawSt.drop 9) (lawE L a ccd)) Q E s := by
  have hwsl : (wordsZ zs).length = zs.length := List.length_map ..
  have hpsl := psZ_len zs
  refine seg9 B X T A (wordsZ zs) (by omega) (psZ zs) (fun i hi => psZ_at zs (by omega)) (by omega) (fun q hq => ?_) ln tl p tp n2 [] n3 hx hd hl o1 o2 k1 its n wl us ep hus oW dW [(L + 1 + 1, oE), (fl, listOf fs.toArray 0), (312, tabObj pt)] tups htup nd hmh F N ?_
  · obtain ⟨i, hi, rfl⟩ := psZ_mem hq
    exact ⟨(wordOk _).str, strK_str i (by omega)⟩
  intro h1 tk1 F1 N1
  refine seg10 B X T _ nd F1 N1 ?_
  intro rl h2 tk2 F2 N2 nd2
  have perm : ((rl, listOf #[] 0) :: (lexL w.params mg A ln tl p tp n2 ([] : List Value).toArray n3 ++ (hdrL w.params hx hd hl k1 its n ++ ((wl, listOf us.toArray ep) :: (L + 1, oW) :: ([(L + 1 + 1, oE), (fl, listOf fs.toArray 0), (312, tabObj pt)] ++ tups))))).Perm ((rl, listOf #[] 0) :: ((hdrL w.params hx hd hl k1 its n ++ tups) ++ (lexL w.params mg A ln tl p tp n2 ([] : List Value).toArray n3 ++ ((wl, listOf us.toArray ep) :: (L + 1, oW) :: [(L + 1 + 1, oE), (fl, listOf fs.toArray 0), (312, tabObj pt)])))) :=
    List.Perm.cons _ (permC (c := (wl, listOf us.toArray ep) :: (L + 1, oW) :: [(L + 1 + 1, oE), (fl, listOf fs.toArray 0), (312, tabObj pt)]))
  refine seg11 hE B X T (psZ zs) (by omega) (fun q hq => ?_) hx hd hl o1 o2 k1 its n tups _ htup rl fl ([0, 1, 2].map (rawAt zs)) [rowK (wordsZ zs) 0, rowK (wordsZ zs) 1, rowK (wordsZ zs) 2] rfl (Nat.le_refl 3) fs 0 (by rw [List.map_map]; exact hfs) (List.mem_append_right _ (.tail _ (.tail _ (.tail _ (.head _))))) (fun i r hr => ?_) (ND.perm nd2 perm) (by exact hmh) (by exact hmf) (by exact rfl) F2 (nsub N2 fun q hq => perm.mem_iff.mpr hq) ?_
  · obtain ⟨i, hi, rfl⟩ := psZ_mem hq
    exact (wordOk _).len
  · obtain ⟨hi, rfl⟩ := raws_at hr
    have hiz : i < zs.length := by omega
    have hr1 := raw_len (zs.getD i 0)
    obtain ⟨hr2, hr3⟩ := prep_raw (zs.getD i 0)
    have hw := wordOk (zs.getD i 0)
    unfold rawAt
    rw [hr2]
    refine ⟨Nat.le_trans hr1.1 (by decide), hr3, hw.len, hw.ulen, by rw [hw.up]; exact hw.ok, rowK (wordsZ zs) i, rows_at _ hi, getP_rows zs hiz hi, fun k hk => ?_⟩
    have := rowK_lt hk
    omega
  rintro m3 news3 h3 tk3 ⟨v3, rs, kk, objs, rfl, rfl, hR, nd3⟩ F3 N3
  have hR3 : RowsAt objs rs (nssOf (wordsZ zs)) := hR
  obtain ⟨R0, R1, R2, rfl⟩ := rs3 hR3
  refine seg12 B X T _ F3 N3 ?_
  intro tl4 h4 tk4 t4 F4 N4 hfr
  refine seg14 hE B X T tl4 rl kk (wordsZ zs).length (by omega) (nssOf (wordsZ zs)) (nss_ok _ (by omega)) R0 R1 R2 _ (hR3.mono fun q hq => .tail _ (List.mem_append_right _ (List.mem_append_right _ hq))) (.head _) _ _ _ _ (toldSpec (wordsZ zs)) ⟨Nat.zero_le _, rfl⟩ (by exact rfl) (by exact rfl) t4 (by exact rfl) F4 (fun q hq => Nat.ne_of_lt (hfr q hq)) N4 ?_
  intro m5 ts kk5 objs5 tp5 st5 h5 tk5 hK hI hinv hmiss F5 N5
  have htp := told_due hinv hmiss
  subst htp
  have hlE : (L + 1 + 1, oE) ∈ (tl4, listOf (List.toArray ts) kk5) :: (((rl, listOf [Value.ref R0, .ref R1, .ref R2].toArray kk) :: ((hdrL w.params hx hd hl k1 its n ++ tups) ++ ((lexL w.params mg A ln tl p tp n2 ([] : List Value).toArray n3 ++ ((wl, listOf us.toArray ep) :: (L + 1, oW) :: [(L + 1 + 1, oE), (fl, listOf fs.toArray 0), (312, tabObj pt)])) ++ objs))) ++ objs5) :=
    .tail _ (List.mem_append_left _ (.tail _ (List.mem_append_right _ (List.mem_append_left _ (List.mem_append_right _ (.tail _ (.tail _ (.head _))))))))
  have inL : ∀ q, q ∈ lexL w.params mg A ln tl p tp n2 ([] : List Value).toArray n3 ++ ((wl, listOf us.toArray ep) :: (L + 1, oW) :: [(L + 1 + 1, oE), (fl, listOf fs.toArray 0), (312, tabObj pt)]) → q ∈ (tl4, listOf (List.toArray ts) kk5) :: (((rl, listOf [Value.ref R0, .ref R1, .ref R2].toArray kk) :: ((hdrL w.params hx hd hl k1 its n ++ tups) ++ ((lexL w.params mg A ln tl p tp n2 ([] : List Value).toArray n3 ++ ((wl, listOf us.toArray ep) :: (L + 1, oW) :: [(L + 1 + 1, oE), (fl, listOf fs.toArray 0), (312, tabObj pt)])) ++ objs))) ++ objs5) :=
    fun q hq => .tail _ (List.mem_append_left _ (.tail _ (List.mem_append_right _ (List.mem_append_left _ hq))))
  have ndE : ∀ q, q ∈ lexL w.params mg A ln tl p tp n2 ([] : List Value).toArray n3 ++ [(wl, listOf us.toArray ep), (L + 1, oW)] → q.1 ≠ L + 1 + 1 := by
    intro q hq e
    have nd6 : ND ((lexL w.params mg A ln tl p tp n2 ([] : List Value).toArray n3 ++ [(wl, listOf us.toArray ep), (L + 1, oW)]) ++ [(L + 1 + 1, oE), (fl, listOf fs.toArray 0), (312, tabObj pt)]) := by
      rw [List.append_assoc]
      exact ND.right (ND.tail (ND.perm nd2 perm))
    exact nd6.off (L + 1 + 1, oE) (.head _) q.1 (List.mem_map_of_mem (f := (·.1)) hq) e.symm
  have htlE : tl4 ≠ L + 1 + 1 := by
    have : @LT.lt Nat _ (L + 1 + 1) tl4 := hfr (L + 1 + 1, oE) (.tail _ (List.mem_append_right _ (List.mem_append_left _ (List.mem_append_right _ (.tail _ (.tail _ (.head _)))))))
    exact Nat.ne_of_gt this
  have hI5 := int_less (objs := []) N5 hlE dE (hI.mono fun q hq => .tail _ (List.mem_append_right _ hq))
  refine seg15 B X T (wordsZ zs) (by omega) (by omega) wl us ep hus oW oE dW vE dE (Less (L + 1 + 1) _) (Less.mem (inL _ (List.mem_append_right _ (.head _))) (ndE _ (List.mem_append_right _ (.head _)))) (Less.mem (inL _ (List.mem_append_right _ (.tail _ (.head _)))) (ndE _ (List.mem_append_right _ (.tail _ (.head _))))) Less.off F5 (nsub N5 fun q hq => ?_) ?_
  · rcases List.mem_cons.mp hq with h | h
    · rw [h]; exact hlE
    · exact Less.sub h
  intro el vs6 e6 oE6 h6 tk6 hvs6 dE6 F6 N6
  refine seg16 B X T (wordsZ zs) (by omega) wl us ep hus oW oE6 dW el tl4 vs6 e6 hvs6 dE6 ts kk5 _ (.tail _ (.tail _ (Less.mem (inL _ (List.mem_append_right _ (.head _))) (ndE _ (List.mem_append_right _ (.head _)))))) (.tail _ (.tail _ (Less.mem (inL _ (List.mem_append_right _ (.tail _ (.head _)))) (ndE _ (List.mem_append_right _ (.tail _ (.head _))))))) (.head _) (.tail _ (.head _)) (.tail _ (.tail _ (Less.mem (.head _) htlE))) (hI5.mono fun q hq => .tail _ (.tail _ hq)) (by exact hK.at rfl) F6 N6 ?_
  intro v7 h7 tk7 F7 N7
  have htl2 : (textZ zs).cps.toList.length = (textZ zs).cps.size := Array.length_toList
  rw [textZ_toL] at htl2
  have hfl := flat_len zs
  have nd9 : ND (lexL w.params mg A ln tl p tp n2 ([] : List Value).toArray n3 ++ ((wl, listOf us.toArray ep) :: (L + 1, oW) :: [(L + 1 + 1, oE), (fl, listOf fs.toArray 0), (312, tabObj pt)])) := ND.right (ND.tail (ND.perm nd2 perm))
  have hoff9 : OwnOff [(312, tabObj pt)] ((lexL w.params mg A ln tl p tp n2 #[] n3).map (·.1)) := fun q hq => ND.off nd9 q (by rw [List.mem_singleton.mp hq]; exact .tail _ (.tail _ (.tail _ (.tail _ (.head _)))))
  refine seg18 B X T (textZ zs) tt A ok ln tl p tp n2 n3 [(312, tabObj pt)] hoff9 (by omega) (by show (textZ zs).cps.size ≤ 1000; omega) hp (by rw [hdrop]; exact hln) (by rw [hdrop]; exact rk_end zs) (Nat.zero_le _) (by exact hK.at hml) (by exact hK.at hmt) F7 (nsub N7 fun q hq => ?_) (fun h tk m' k1 k2 => next h tk m' k1 ⟨pt, k2 (312, tabObj pt) (.head _)⟩)
  rcases List.mem_append.mp hq with hq | hq
  · exact .tail _ (.tail _ (Less.mem (inL _ (List.mem_append_left _ hq)) (ndE _ (List.mem_append_left _ hq))))
  · rw [List.mem_singleton.mp hq]
    exact .tail _ (.tail _ (Less.mem (inL _ (List.mem_append_right _ (.tail _ (.tail _ (.tail _ (.tail _ (.head _))))))) (Nat.ne_of_lt (Nat.lt_succ_of_lt (Nat.lt_succ_of_lt l0)))))
end
section -- LZ5
variable {w : World} {mean : ExcName → Option Value} {mg mb : Str → Option Value} {A₀ : Around} {base h₀ : Heap} {L a : Addr} {ccd : Value} {m : Str → Option Value} {s : Shared} {Q : Flow → Shared → Prop} {E : Value → Shared → Prop}
/-- the law's walk, whole -/
theorem law_walk (hE : PassesOwn (model PW w) (lawA L a ccd) (lawE L a ccd) E) (B : Below A₀ base [] h₀) (X : (KK w.params).In h₀) (T : Top topProg LX mean mg mb h₀) (sl : Addr) (vs : List Value) (xs : List Int) (hsl : h₀.IsList sl vs.toArray) (hv : IntsAre vs xs) (hxs : xs.length ≤ 63)
    (oE oW : Obj) (vE vW : Option Value) (dE : oE.data = .cell vE) (dW : oW.data = .cell vW) (l0 : @LT.lt Nat _ 312 L)
    (hm : m (Str.ofString "script") = some (.ref sl)) (F : Fr h₀ L s.heap m) (N : News h₀ L s.heap [(L + 1 + 1, oE), (L + 1, oW), (312, tabObj #[])])
    (next : ∀ h tk m', Fr h₀ L h m' → GrownAt 312 h → Q (.ret (.bool true)) { s with heap := h, toks := tk }) :
    wpAny (model PW w) (lawA L a ccd) (execs (lawSt.drop 0) (lawE L a ccd)) Q E s := by
  refine walkA B X T sl vs xs hsl hv hxs oE oW vE vW dE dW l0 hm F N ?_
  intro wl us ep oW' t m' h tk hus dW' hwl hmt F1 N1
  refine walkB (lawZ xs) (lawZ_len xs) hE B X T wl us ep oW' oE t hus dW' hwl l0 hmt F1 N1 ?_
  intro A ln tl p tp n2 n3 hx hd hl k1 its n fl fs tups pt m2 h2 tk2 ok o1 o2 htup hfs hdrop hln hp hmt2 hml hmf hmh nd F2 N2
  exact walkC (lawZ xs) (lawZ_len xs) hE B X T wl us ep oW' oE vE t hus dW' dE A ln tl p tp n2 n3 hx hd hl k1 its n fl fs tups pt l0 ok o1 o2 htup hfs hdrop hln hp hmt2 hml hmf hmh nd F2 N2 next
end
section -- OkL
set_option maxHeartbeats 8000000 in
theorem okL : OpenLaw.wellSaid PySem.Challenge.rw_uq0027_01 = true := by
  unfold OpenLaw.wellSaid OpenRow.wellSaid OpenRow.partSaid looksOpen
  repeat' (with_reducible refine look_both ?_ ?_)
  all_goals decide +kernel
end
section -- LF
theorem fill20 : PySem.Challenge.rw_uq0027_01 = PySem.Challenge.rw_uq0027_01 ∧ KK = KK := by
  k_fill
  exact ⟨rfl, rfl⟩
set_option maxHeartbeats 8000000 in


theorem hdT : PySem.Challenge.rw_uq0027_01.Holds := by
  w_on
  refine holds_law okL fun said => ?_
  refine holds_open (q := VW) (loose := LS) (Xt := XtT) (XP := XL VW []) (Yf := HK.obs) (Ya := HK.val) (YP := HK.says) (N := 40000) leftT HK.of HK.keeps (fun s e => xl_of s (Bool.and_eq_true_iff.mp e).1) XL.keeps (by rfl) (by rfl) (by rfl) (fun s e => recFacts_of (Bool.and_eq_true_iff.mp e).2) (by rfl) (by first | assumption | decide +kernel) (by decide +kernel) ⟨rfl, rfl, rfl, rfl, rfl, by decide +kernel⟩ ?hw ?hc
  case hw => w_witness2
  case hc =>
    k_fill
    intro w s₀ s₁ mg mb G Y fa o pm cd doc dV kV ho hd hcd hD hmg hg args vals as hpre hlay hrd hwl hlo
    have KX := km_in_of Y
    km_tabs Y
    have X := (Ground.X G).1
    have V := (Ground.X G).2
    refine Ground.open G ?_
    intro T B D TE TW
    try (refine guard_noD D (by decide +kernel) ?_; clear D)
    have hT9 : TabsAt ([(316, 312)] : List (Addr × Addr)) _ := List.forall_mem_cons.mpr ⟨⟨codeHd_of_K (c := 316) (P := 312) KX (by kernel_rfl), hT8 312 (List.mem_singleton.mpr rfl)⟩, fun _ h => nomatch h⟩
    clear hmg
    wrow_args hpre hlay hrd hwl hlo
    first | refine callC_kw (enter_call ?_) | refine enter_call ?_
    w_top on
    kn_posts
    w_call any ho hd hcd hD T F
    clear hd
    kn_ghosts F T
    k_drop
    all_goals (try k_fold)
    rename Fr _ _ _ _ => F9
    rename News _ _ _ _ => N9
    rename Frag.In _ _ => X9
    rename Top _ _ _ _ _ _ => T9
    rename Below _ _ _ _ => B9
    have eL : looseW VW LS ++ List.map (fun x => x.name) (recsOf VW) ++ List.map (fun x => x.fst) (litsOf VW) ++ List.map (fun x => x.name) (clssOf VW (looseW VW LS)) = LX := by kernel_rfl
    rw [eL] at T9
    rename @LT.lt Nat _ 312 _ => l9
    have hx9 : w.params = w.params := rfl
    refine' law_walk ?hE B9 X9 T9 _ _ _ ?hsl ?hv ?hxs _ _ _ _ ?dE ?dW l9 ?hm F9 N9 ?next
    case hE => with_unfolding_all passes_own
    case hsl => assumption
    case hv => assumption
    case hxs => omega
    case dE => assumption
    case dW => assumption
    case hm => exact rfl
    case next =>
      intro h' tk' m' Fz gz
      refine And.intro ?_ ⟨gz, True.intro⟩
      kc_bool
      refine goodW_bool Fz (by first | with_reducible assumption | assumption) (raisesW_false ?_) ?_
      · wrow_none_raised
      · kc_post
end
end Mine
open PySem PySem.W PyProof.Rows
theorem PySem.Challenge.cw_uq0027_01_holds : PySem.Challenge.rw_uq0027_01.Holds :=
  Mine.hdT
