/-
  The tie of the ten tables that the rows list, paid by a walk of 'gosem.cut.vars'. Made by the kit's program great-walk3.mjs through great-tie.mjs, the list put into the rows' order and shown table by table. No condition.
-/
import Derived.Test.YtkfagcpboehjjaaDoorProg
import Derived.Great.CaseRows
import Derived.Great.LaidInts
import Derived.Great.ByCallsLater
import Derived.Lib.LaidU8
import Derived.Lib.LaidRTabT
import Derived.WalkKit
namespace Go.Proofs.YtkfagcpboehjjaaDoor.Great
open Go.Great Go.Lib
set_option linter.unusedVariables false

def z8 : List Int := [0, 1, 28, 2, 29, 14, 24, 3, 30, 22, 20, 15, 25, 17, 4, 8, 31, 27, 13, 23, 21, 19, 16, 7, 26, 12, 18, 6, 11, 5, 10, 9]
def z9 : List Int := [0, 1, 56, 2, 57, 49, 28, 3, 61, 58, 42, 50, 38, 29, 17, 4, 62, 47, 59, 36, 45, 43, 51, 22, 53, 39, 33, 30, 24, 18, 12, 5, 63, 55, 48, 27, 60, 41, 37, 16, 46, 35, 44, 21, 52, 32, 23, 11, 54, 26, 40, 15, 34, 20, 31, 10, 25, 14, 19, 9, 13, 8, 7, 6]
def z7 : List Int := [1, 10, 100, 1000, 10000, 100000, 1000000, 10000000, 100000000, 1000000000, 10000000000, 100000000000, 1000000000000, 10000000000000, 100000000000000, 1000000000000000, 10000000000000000, 100000000000000000, 1000000000000000000, 10000000000000000000]
def z0 : List Int := [2746333894, 1453994832, 1736282519, 2993693404]
def z1 : List Int := [462357, 472066609, 943670861, 1415275113, 1886879365, 2358483617, 2830087869, 3301692121, 3773296373, 4228057617, 404694573, 876298825, 1347903077, 1819507329, 2291111581, 2762715833, 3234320085, 3705924337, 4177462797, 337322537, 808926789, 1280531041, 1752135293, 2223739545, 2695343797, 3166948049, 3638552301, 4110090761, 269950501, 741554753, 1213159005, 1684763257]
def z6 : List Int := [214, 144, 233, 254, 204, 225, 61, 183, 22, 182, 20, 194, 40, 251, 44, 5, 43, 103, 154, 118, 42, 190, 4, 195, 170, 68, 19, 38, 73, 134, 6, 153, 156, 66, 80, 244, 145, 239, 152, 122, 51, 84, 11, 67, 237, 207, 172, 98, 228, 179, 28, 169, 201, 8, 232, 149, 128, 223, 148, 250, 117, 143, 63, 166, 71, 7, 167, 252, 243, 115, 23, 186, 131, 89, 60, 25, 230, 133, 79, 168, 104, 107, 129, 178, 113, 100, 218, 139, 248, 235, 15, 75, 112, 86, 157, 53, 30, 36, 14, 94, 99, 88, 209, 162, 37, 34, 124, 59, 1, 33, 120, 135, 212, 0, 70, 87, 159, 211, 39, 82, 76, 54, 2, 231, 160, 196, 200, 158, 234, 191, 138, 210, 64, 199, 56, 181, 163, 247, 242, 206, 249, 97, 21, 161, 224, 174, 93, 164, 155, 52, 26, 85, 173, 147, 50, 48, 245, 140, 177, 227, 29, 246, 226, 46, 130, 102, 202, 96, 192, 41, 35, 171, 13, 83, 78, 111, 213, 219, 55, 69, 222, 253, 142, 47, 3, 255, 106, 114, 109, 108, 91, 81, 141, 27, 175, 146, 187, 221, 188, 127, 17, 217, 92, 65, 31, 16, 90, 216, 10, 193, 49, 136, 165, 205, 123, 189, 45, 116, 208, 18, 184, 229, 180, 176, 137, 105, 151, 74, 12, 150, 119, 126, 101, 185, 241, 9, 197, 110, 198, 132, 24, 240, 125, 236, 58, 220, 77, 32, 121, 238, 95, 62, 215, 203, 57, 72]
def z2 : List Int := [3579534222, 2453816016, 3936855885, 4261149446, 3476239356, 3800532837, 1039463625, 3051282027, 374888526, 3034241646, 340807748, 3238726602, 681615496, 4176473879, 749777052, 85201937, 732736647, 1721605627, 2557111026, 2010765742, 715696258, 3170564678, 68161556, 3222212559, 2829756930, 1158746452, 323767391, 647534782, 1210393965, 2216303262, 102242334, 2607179517, 2658300652, 1124665674, 1363230992, 4157854500, 2470856405, 3971989331, 2590139128, 2078927250, 869059839, 1431392516, 187444263, 1108151631, 4005017433, 3426697203, 2930946588, 1669958122, 3885208436, 2983120511, 477130860, 2879825421, 3391563757, 136323112, 3953369928, 2539017921, 2181169792, 3699343267, 2521977540, 4192987922, 1960170913, 2369666739, 1073544387, 2761595454, 1176313179, 119282715, 2778635835, 4294177548, 4040150847, 1926090175, 391928907, 3102403154, 2165182095, 1483040061, 1022423244, 426009725, 3852180350, 2266371729, 1312636275, 2862785032, 1772200392, 1789767111, 2198210181, 2966080122, 1892009397, 1704038900, 3647695794, 2301505191, 4226016024, 3903827783, 255605811, 1244474727, 1908523440, 1465473294, 2675341033, 903140577, 511211622, 613454004, 238565430, 1601796390, 1653444079, 1499554104, 3527886741, 2693433898, 630494385, 579373226, 2113008012, 1005382871, 17040389, 562332837, 2044846488, 2233343643, 3612562308, 0, 1192827230, 1448959243, 2642312931, 3494858655, 664575163, 1397311770, 1295069564, 920180974, 34080778, 3835666299, 2726461984, 3339916244, 3408077800, 2625272550, 3920341826, 3187605059, 2284464802, 3511372698, 1090584896, 3290374107, 954261720, 3084310113, 2710474287, 4108312363, 4056664890, 3443211254, 4209501981, 1619363301, 357848129, 2743502373, 3817046880, 2897918486, 1551201577, 2794623540, 2574151415, 886100196, 443050098, 1414878465, 2947986969, 2437828319, 852019450, 817938672, 4141340449, 2385654460, 3016148597, 3767504751, 494171241, 4124826414, 3784018794, 783857814, 2148141706, 1738119678, 3375049698, 1635877344, 3271754688, 698655885, 596413615, 2846797319, 221525049, 1380797727, 1329150326, 1857928659, 3596048257, 3631181751, 937221355, 1142232401, 3715857318, 4277663497, 2352626358, 800898195, 51121167, 4244635395, 1806281154, 1942604218, 1823847897, 1840361948, 1517120823, 1346716949, 2402694841, 460090487, 2914958867, 2420787930, 3119443543, 3732371369, 3203592780, 2130574723, 289686613, 3664209853, 1567715628, 1074070853, 528252003, 272646224, 1533634866, 3680723896, 170403874, 3255240645, 834979061, 2317492904, 2811663921, 3459725305, 2062413207, 3220633161, 766817433, 1976684964, 3544400784, 306727002, 3135431256, 3868694385, 3067269732, 2999108208, 2334533293, 1755686349, 2505989835, 1260988770, 204484668, 2488949454, 1994251691, 2147088774, 1687524849, 3152471645, 4073178933, 153363501, 3323402193, 1874442710, 3306888158, 2249331348, 408969336, 4089692976, 2096493961, 4021531484, 988342482, 3748885420, 1278555513, 545292448, 2028332445, 3988503382, 1585282339, 1056504006, 3563020171, 3358535655, 971302109, 1226908008]
def z3 : List Int := [1532726997, 1111675026, 2812759530, 4227532541, 859045071, 2273797602, 4109683005, 3739118517, 1482182166, 3671748276, 1347437588, 185322177, 2694875176, 4025423864, 2964364332, 336859397, 2896987947, 2644376422, 1785393816, 3654921847, 2829615658, 4210706108, 269489156, 252694464, 2863268520, 286348357, 1280073491, 2560146982, 623209800, 437952132, 404233734, 1718025627, 1920134302, 151603779, 1094783057, 3553830135, 1179047315, 3216987116, 1650653338, 3924398715, 3435986739, 1364264021, 741091083, 218976066, 3082246638, 1061155788, 2998017198, 2307517027, 2475914471, 3469639601, 1886415900, 2795900331, 656928202, 538978312, 2745387243, 1448526231, 33718402, 2139071452, 1381155990, 3958051577, 3587547508, 1044296589, 4244423487, 2593799844, 488463174, 471603975, 2661170085, 4092792063, 3486466032, 3452813170, 1549552407, 3941225144, 235835265, 1701133656, 4042312764, 1684307225, 2610659045, 370577799, 1027437390, 2728528042, 2711734377, 2913847146, 101090691, 3402267312, 3318068592, 2442261605, 1802220249, 774809481, 3823311099, 2947500008, 1010578191, 757950282, 3250696305, 1499008599, 1987504543, 3570721077, 2021156382, 2425402404, 943207950, 2037982815, 2374889314, 1633761369, 1195873746, 2324310688, 2492772645, 2290657826, 4059139197, 3974944571, 67372289, 2223285537, 3789658233, 505322373, 1397982423, 0, 421092935, 1566378838, 2122245021, 1330618320, 2627517223, 1229527635, 825326669, 3638095414, 134744578, 2678029284, 2189566114, 320066759, 589555915, 2054874780, 2880127721, 4278076349, 707437192, 1263246033, 16859201, 522181572, 3772831800, 3604373943, 2391682977, 3755944948, 3419093745, 993785549, 3890683386, 2240144736, 1414807829, 2256938403, 2206425315, 3132757676, 1970612572, 2459055270, 1852766105, 3503350836, 1751675418, 1431634260, 3065387439, 1313791889, 3368614450, 3233869872, 3621200374, 842185870, 3334895027, 2408542176, 1953786141, 3688574709, 2341169889, 3099104814, 168462976, 2577006183, 724296393, 2172772449, 50577603, 2762247465, 2358030115, 2930640809, 875837709, 1296899922, 960067151, 3183334254, 1465352662, 1869592536, 3705465655, 353718596, 2071701213, 4160162302, 976926348, 3166475055, 202116867, 4294902780, 2846474859, 3385440883, 3048593772, 2981223533, 1835874138, 1162155344, 909556111, 1819047707, 3200127917, 1246419600, 4008597433, 2004330974, 4075965630, 4261249918, 1145328913, 1734852058, 1903242333, 84231488, 2088526623, 1077956624, 1768501851, 1667479771, 673718794, 117949890, 3301242161, 572696714, 2526425511, 926415310, 3991771002, 4143335871, 3031734573, 3520177269, 1128501459, 1212701202, 3806484666, 2543284710, 3537003702, 3267522738, 640069003, 2779106664, 1583270805, 690577995, 808467468, 1515900564, 3722292086, 4193879679, 2509631844, 3873856955, 3351721458, 606350601, 387436998, 3115964015, 454811333, 303207558, 1616934936, 3284349171, 4126509436, 3014876399, 3907572282, 1936960735, 892696908, 2155913248, 3857030520, 3149616877, 2105353054, 4177053246, 1600097236, 791668680, 3840204089, 555837513]
def z4 : List Int := [1536087387, 1120965186, 2806901415, 4211539451, 872206131, 2271601287, 4106829300, 3731600862, 1481512536, 3664688346, 1346638928, 197837067, 2693277856, 4011325679, 2963025072, 336659732, 2894539692, 2650498717, 1794283626, 3652089817, 2827102888, 4198939898, 269747216, 265273359, 2852300970, 290735377, 1281299276, 2562598552, 627918885, 446596122, 404620824, 1727896422, 1928109682, 155861769, 1091588417, 3542415315, 1188401990, 3209948351, 1660459618, 3918691305, 3439277004, 1359238481, 740756268, 223298061, 3076124343, 1072942143, 2988224178, 2313839497, 2473912211, 3464475086, 1886133360, 2785913766, 669895207, 539494432, 2739465123, 1455527766, 41976322, 2141445247, 1388615250, 3943889387, 3584128213, 1051954494, 4240654332, 2587796634, 492520989, 471533340, 2654709150, 4077715443, 3477074127, 3451876045, 1548425052, 3931289834, 244285710, 1698519141, 4039916784, 1685920100, 2608784795, 378636054, 1030966845, 2718476962, 2714266017, 2915527341, 109413126, 3397038282, 3317002437, 2448713105, 1806883179, 782731566, 3810065379, 2940725423, 1009979196, 761743917, 3249566145, 1494112089, 1995022198, 3571529172, 2019958392, 2427724944, 943066680, 2032557945, 2381275789, 1631082849, 1201001031, 2318049418, 2494637460, 2292851336, 4052516337, 3973528556, 67436804, 2225414532, 3784866273, 513508638, 1401214803, 0, 425608985, 1561024093, 2128846206, 1335873615, 2629511068, 1226462025, 830229809, 3639490264, 134873608, 2675696799, 2183176834, 332711699, 602458915, 2061933690, 2873289131, 4265852414, 715294762, 1268437323, 20988161, 534496287, 3772266720, 3596728278, 2385486222, 3744199903, 3409637835, 1006030139, 3877501671, 2246402181, 1413551444, 2250613638, 2204164995, 3122048186, 1965644917, 2452924050, 1861720430, 3504616656, 1752308328, 1426150485, 3055136694, 1323274574, 3371840200, 3236966592, 3609327319, 851217970, 3329602502, 2406473871, 1953045876, 3677287899, 2339037579, 3096850104, 176848906, 2583586713, 736282923, 2178965889, 62964483, 2760714660, 2360288140, 2919737774, 876154164, 1293898317, 964054841, 3184750269, 1468126807, 1874319471, 3706402780, 357647381, 2074533243, 4144627447, 985041978, 3163762620, 202310412, 4278451455, 2848091049, 3384439753, 3050925237, 2984013233, 1832344173, 1159024709, 918130486, 1819745132, 3188960702, 1255837770, 3998726638, 2007621239, 4065115890, 4253253373, 1146425668, 1740495463, 1898732913, 88424453, 2086870908, 1078988864, 1764907881, 1673059171, 673319464, 130400775, 3304403396, 581470754, 2519836566, 939118135, 3986127597, 4132028406, 3029937588, 3517216209, 1133564739, 1213862472, 3797465826, 2540824215, 3529815762, 3262165698, 648907558, 2781702309, 1590400350, 694307625, 809241648, 1523487834, 3719001821, 4186341369, 2515625109, 3864902630, 3342201543, 606931236, 399623703, 3117838265, 467584283, 311723538, 1618483296, 3274765251, 4119428341, 3009212339, 3906091752, 1940709235, 897141813, 2157977728, 3852302565, 3143036347, 2099469949, 4173741816, 1602999391, 803719215, 3839703524, 560482593]
def z5 : List Int := [2396347227, 3499246146, 1307223975, 117308411, 4241437491, 1709344647, 3376280820, 1807081182, 1310087256, 1857346266, 1142181968, 3401648907, 2284363936, 402190319, 2620174512, 285545492, 2267786412, 4217806237, 4070074986, 2927090137, 2183833768, 1186790138, 335810576, 3485470479, 44608170, 1413812497, 1595100236, 3190200472, 1833444645, 2659457562, 503715864, 4254819942, 3969806962, 1245907209, 273760577, 620221395, 3583198790, 1408024511, 4170867298, 2457594345, 4281584844, 72700241, 655043628, 1329728781, 1508816823, 4090249023, 481211058, 3932391817, 1961333651, 2142359246, 1813803120, 229353126, 3989448487, 671621152, 1223402403, 3247920726, 2156003842, 2749136767, 3298185810, 318368747, 2708788693, 3012378174, 3275750652, 1050974874, 1531321629, 453450780, 1000709790, 218100723, 1072746447, 3211972045, 1259822172, 1387850474, 2407599630, 1029203301, 3426545904, 2098816100, 2128976795, 2441549334, 1934507325, 145400482, 3362365857, 3345657261, 2239956486, 2058406602, 3044066757, 4100297105, 3000593259, 2810785326, 419161059, 1206431663, 856636476, 1732914477, 2960245185, 240605529, 3919541878, 3778401492, 1713272952, 3022295184, 906901560, 643791225, 4016213389, 945381729, 2513585991, 715164298, 2972030100, 2854389896, 2357064177, 3611028716, 83952644, 2770437252, 2558124513, 2609192478, 2228704083, 0, 1581717785, 190209373, 3818749566, 2681229135, 3139935388, 441665865, 2085433649, 3996571864, 167905288, 2078580639, 547521154, 3569816339, 3905626915, 3869014650, 1122610091, 1136525054, 2726832682, 2597407563, 1078001921, 3687063327, 3627606240, 1639438038, 799116942, 737468383, 988924875, 4140645179, 502982631, 3848308101, 1091916884, 631473798, 1625523075, 380418746, 693925237, 883331730, 4154027630, 3828666576, 1914333288, 22304085, 430945974, 3750841934, 4197632200, 4029726912, 569825239, 3163435570, 1974716102, 1876987791, 1763538036, 787864539, 1793166219, 2519644344, 2323646986, 4268202393, 3804834603, 3764486529, 3234005763, 2368316580, 2938342540, 128560814, 957166644, 525487437, 1984903481, 3547250109, 2178307927, 3084414831, 3946306780, 1363416341, 2799532923, 167704567, 3062643258, 2469379260, 251857932, 66912255, 3261835689, 3128150473, 3647780277, 3698176433, 928673133, 357582149, 3113170486, 1998285932, 330153662, 3666889290, 1471803118, 2849929079, 1287582450, 2206137853, 1427194948, 3185207143, 744321393, 1161823493, 1663007868, 1343242304, 844851561, 3101385571, 571090984, 3317827335, 4113679556, 2827624994, 833066646, 4191041335, 2541415917, 1237317366, 2569909428, 2759184849, 2429764419, 1511147592, 1488642786, 1910937495, 1689703122, 1890763458, 2911577638, 3446187429, 3415563870, 1649092905, 1007431728, 3465828954, 2876693981, 2256534009, 4049900949, 1572595430, 905103303, 755573796, 3519420183, 3597646265, 3737459483, 2491814418, 2014863456, 821281731, 2306668021, 1559212979, 3527076072, 2900325235, 2035037493, 2686484608, 2641946085, 1458420667, 593395069, 3326015736, 2345951071, 3888656175, 3711558884, 1749623073]



def accCells : Array Value := #[.int .u8 128, .int .u8 191, .int .u8 160, .int .u8 191, .int .u8 128, .int .u8 159, .int .u8 144, .int .u8 191, .int .u8 128, .int .u8 143, .int .u8 0, .int .u8 0, .int .u8 0, .int .u8 0, .int .u8 0, .int .u8 0, .int .u8 0, .int .u8 0, .int .u8 0, .int .u8 0, .int .u8 0, .int .u8 0, .int .u8 0, .int .u8 0, .int .u8 0, .int .u8 0, .int .u8 0, .int .u8 0, .int .u8 0, .int .u8 0, .int .u8 0, .int .u8 0]
def rowOf (w : World) (g : Nat) : Array Value := match w.heap[g]? with | some (.cells c _ _) => c | _ => #[]
def cellOf (w : World) (g : Nat) : Value := (rowOf w g).getD 0 undef
abbrev ints (k : IntKind) (zs : List Int) : DataW Unit := .slice (zs.map fun n => .lit (.int k n)) []
def laidAll : List (String × DataW Unit) := [("internal/strconv.uint64pow10", Lib.tabData .u64 z7), ("math/bits.deBruijn32tab", Lib.tabData .u8 z8), ("math/bits.deBruijn64tab", Lib.tabData .u8 z9), ("given.example/pub-waxwright/pub/gmsmt/sm4.fk", Lib.tabData .u32 z0), ("given.example/pub-waxwright/pub/gmsmt/sm4.ck", Lib.tabData .u32 z1), ("given.example/pub-waxwright/pub/gmsmt/sm4.sbox", Lib.tabData .u8 z6), ("given.example/pub-waxwright/pub/gmsmt/sm4.sbox0", Lib.tabData .u32 z2), ("given.example/pub-waxwright/pub/gmsmt/sm4.sbox1", Lib.tabData .u32 z3), ("given.example/pub-waxwright/pub/gmsmt/sm4.sbox2", Lib.tabData .u32 z4), ("given.example/pub-waxwright/pub/gmsmt/sm4.sbox3", Lib.tabData .u32 z5)]
/-- No handle stands in the list: 'laidMetH' is 'laidMet'. -/
theorem noHandle (w : World) (h : laidMet Tryd.prog laidAll w) : laidMetH Tryd.prog laidAll w := by
  have e : (laidAll.filter fun x => x.2.handleName?.isSome) = [] := by kernel_rfl
  unfold laidMetH
  rw [e]
  exact h
theorem fits (k : IntKind) (zs : List Int) (h : (zs.all fun n => (Lit.int k n).wf) = true) : ∀ n ∈ zs, (Lit.int k n).wf = true := fun n hn => List.all_eq_true.1 h n hn

attribute [local irreducible] wpList Code.wp varsStart rowOf cellOf accCells z8 z9 z7 z0 z1 z6 z2 z3 z4 z5

set_option linter.unusedSimpArgs false in
set_option maxRecDepth 1000000 in
set_option maxHeartbeats 4000000 in
theorem tie : Tryd.prog.laidByTextLater laidAll [.data, .data, .data, .data, .data, .data, .data, .data, .data, .data] true :=
  Program.laidByTextLater_by_calls (by as_aux_lemma => kernel_rfl) (by as_aux_lemma => kernel_rfl) (by as_aux_lemma => kernel_rfl) (by as_aux_lemma => kernel_rfl) (by as_aux_lemma => kernel_rfl) (by as_aux_lemma => kernel_rfl) (by as_aux_lemma => kernel_rfl) fun os tape => by
    have e : varsId Tryd.prog = 117 := by as_aux_lemma => kernel_rfl
    rw [e]
    refine calls_of_wp Tryd.func117 rfl ?_
    refine wp_anyFrame 10 (by as_aux_lemma => kernel_rfl) rfl fun a0 hs0 hd0 => ?_
    -- bits.go:44: math/bits.deBruijn32tab
    apply wp_seq_k; intro K0 hK0
    apply wp_region_lit
    refine wpList_buildFlatArrTo rfl 100 5 32 _ rfl .u8 z8 (some 0) rfl (by as_aux_lemma => kernel_rfl) (by as_aux_lemma => kernel_rfl) (by as_aux_lemma => kernel_rfl) (by as_aux_lemma => kernel_rfl) ?_
    refine wpList_store_rowTo rfl 100 _ _ rfl rfl 8 (z8.map (Value.int .u8)).toArray rfl (Act.eval_put_same _ 0 _ (by simp only [Act.size_put, hs0]; omega)) 100 (rowOf (varsStart Tryd.prog os tape) 8) (by as_aux_lemma => kernel_rfl) (by as_aux_lemma => kernel_rfl) (by as_aux_lemma => kernel_rfl) (by as_aux_lemma => kernel_rfl) ?_
    apply wpList_nil
    refine hK0 _ _ ?_
    refine wp_anyFrame 10 (by simp only [Act.size_put, hs0]) (by simp only [Act.defers_put', hd0]) fun a1 hs1 hd1 => ?_
    clear hK0 K0
    -- bits.go:51: math/bits.deBruijn64tab
    apply wp_seq_k; intro K1 hK1
    apply wp_region_lit
    refine wpList_buildFlatArrTo rfl 101 5 64 _ rfl .u8 z9 (some 1) rfl (by as_aux_lemma => kernel_rfl) (by as_aux_lemma => kernel_rfl) (by as_aux_lemma => kernel_rfl) (by as_aux_lemma => kernel_rfl) ?_
    refine wpList_store_rowTo rfl 101 _ _ rfl rfl 9 (z9.map (Value.int .u8)).toArray rfl (Act.eval_put_same _ 1 _ (by simp only [Act.size_put, hs1]; omega)) 101 (rowOf (varsStart Tryd.prog os tape) 9) (by as_aux_lemma => kernel_rfl) (by as_aux_lemma => kernel_rfl) (by as_aux_lemma => kernel_rfl) (by as_aux_lemma => kernel_rfl) ?_
    apply wpList_nil
    refine hK1 _ _ ?_
    refine wp_anyFrame 10 (by simp only [Act.size_put, hs1]) (by simp only [Act.defers_put', hd1]) fun a2 hs2 hd2 => ?_
    clear hK1 K1
    -- uscale.go:82: internal/strconv.uint64pow10
    apply wp_seq_k; intro K2 hK2
    apply wp_region_lit
    refine wpList_buildFlatArrTo rfl 95 69 20 _ rfl .u64 z7 (some 2) rfl (by as_aux_lemma => kernel_rfl) (by as_aux_lemma => kernel_rfl) (by as_aux_lemma => kernel_rfl) (by as_aux_lemma => kernel_rfl) ?_
    refine wpList_store_rowTo rfl 95 _ _ rfl rfl 7 (z7.map (Value.int .u64)).toArray rfl (Act.eval_put_same _ 2 _ (by simp only [Act.size_put, hs2]; omega)) 95 (rowOf (varsStart Tryd.prog os tape) 7) (by as_aux_lemma => kernel_rfl) (by as_aux_lemma => kernel_rfl) (by as_aux_lemma => kernel_rfl) (by as_aux_lemma => kernel_rfl) ?_
    apply wpList_nil
    refine hK2 _ _ ?_
    refine wp_anyFrame 10 (by simp only [Act.size_put, hs2]) (by simp only [Act.defers_put', hd2]) fun a3 hs3 hd3 => ?_
    clear hK2 K2
    -- sm4.go:38: given.example/pub-waxwright/pub/gmsmt/sm4.fk
    apply wp_seq_k; intro K3 hK3
    apply wp_region_lit
    refine wpList_buildFlatArrTo rfl 75 46 4 _ rfl .u32 z0 (some 3) rfl (by as_aux_lemma => kernel_rfl) (by as_aux_lemma => kernel_rfl) (by as_aux_lemma => kernel_rfl) (by as_aux_lemma => kernel_rfl) ?_
    refine wpList_store_rowTo rfl 75 _ _ rfl rfl 0 (z0.map (Value.int .u32)).toArray rfl (Act.eval_put_same _ 3 _ (by simp only [Act.size_put, hs3]; omega)) 75 (rowOf (varsStart Tryd.prog os tape) 0) (by as_aux_lemma => kernel_rfl) (by as_aux_lemma => kernel_rfl) (by as_aux_lemma => kernel_rfl) (by as_aux_lemma => kernel_rfl) ?_
    apply wpList_nil
    refine hK3 _ _ ?_
    refine wp_anyFrame 10 (by simp only [Act.size_put, hs3]) (by simp only [Act.defers_put', hd3]) fun a4 hs4 hd4 => ?_
    clear hK3 K3
    -- sm4.go:43: given.example/pub-waxwright/pub/gmsmt/sm4.ck
    apply wp_seq_k; intro K4 hK4
    apply wp_region_lit
    refine wpList_buildFlatArrTo rfl 47 46 32 _ rfl .u32 z1 (some 4) rfl (by as_aux_lemma => kernel_rfl) (by as_aux_lemma => kernel_rfl) (by as_aux_lemma => kernel_rfl) (by as_aux_lemma => kernel_rfl) ?_
    refine wpList_store_rowTo rfl 47 _ _ rfl rfl 1 (z1.map (Value.int .u32)).toArray rfl (Act.eval_put_same _ 4 _ (by simp only [Act.size_put, hs4]; omega)) 47 (rowOf (varsStart Tryd.prog os tape) 1) (by as_aux_lemma => kernel_rfl) (by as_aux_lemma => kernel_rfl) (by as_aux_lemma => kernel_rfl) (by as_aux_lemma => kernel_rfl) ?_
    apply wpList_nil
    refine hK4 _ _ ?_
    refine wp_anyFrame 10 (by simp only [Act.size_put, hs4]) (by simp only [Act.defers_put', hd4]) fun a5 hs5 hd5 => ?_
    clear hK4 K4
    -- sm4.go:55: given.example/pub-waxwright/pub/gmsmt/sm4.sbox
    apply wp_seq_k; intro K5 hK5
    apply wp_region_lit
    refine wpList_buildFlatArrTo rfl 84 5 256 _ rfl .u8 z6 (some 5) rfl (by as_aux_lemma => kernel_rfl) (by as_aux_lemma => kernel_rfl) (by as_aux_lemma => kernel_rfl) (by as_aux_lemma => kernel_rfl) ?_
    refine wpList_store_rowTo rfl 84 _ _ rfl rfl 6 (z6.map (Value.int .u8)).toArray rfl (Act.eval_put_same _ 5 _ (by simp only [Act.size_put, hs5]; omega)) 84 (rowOf (varsStart Tryd.prog os tape) 6) (by as_aux_lemma => kernel_rfl) (by as_aux_lemma => kernel_rfl) (by as_aux_lemma => kernel_rfl) (by as_aux_lemma => kernel_rfl) ?_
    apply wpList_nil
    refine hK5 _ _ ?_
    refine wp_anyFrame 10 (by simp only [Act.size_put, hs5]) (by simp only [Act.defers_put', hd5]) fun a6 hs6 hd6 => ?_
    clear hK5 K5
    -- sm4.go:74: given.example/pub-waxwright/pub/gmsmt/sm4.sbox0
    apply wp_seq_k; intro K6 hK6
    apply wp_region_lit
    refine wpList_buildFlatArrTo rfl 77 46 256 _ rfl .u32 z2 (some 6) rfl (by as_aux_lemma => kernel_rfl) (by as_aux_lemma => kernel_rfl) (by as_aux_lemma => kernel_rfl) (by as_aux_lemma => kernel_rfl) ?_
    refine wpList_store_rowTo rfl 77 _ _ rfl rfl 2 (z2.map (Value.int .u32)).toArray rfl (Act.eval_put_same _ 6 _ (by simp only [Act.size_put, hs6]; omega)) 77 (rowOf (varsStart Tryd.prog os tape) 2) (by as_aux_lemma => kernel_rfl) (by as_aux_lemma => kernel_rfl) (by as_aux_lemma => kernel_rfl) (by as_aux_lemma => kernel_rfl) ?_
    apply wpList_nil
    refine hK6 _ _ ?_
    refine wp_anyFrame 10 (by simp only [Act.size_put, hs6]) (by simp only [Act.defers_put', hd6]) fun a7 hs7 hd7 => ?_
    clear hK6 K6
    -- sm4.go:93: given.example/pub-waxwright/pub/gmsmt/sm4.sbox1
    apply wp_seq_k; intro K7 hK7
    apply wp_region_lit
    refine wpList_buildFlatArrTo rfl 77 46 256 _ rfl .u32 z3 (some 7) rfl (by as_aux_lemma => kernel_rfl) (by as_aux_lemma => kernel_rfl) (by as_aux_lemma => kernel_rfl) (by as_aux_lemma => kernel_rfl) ?_
    refine wpList_store_rowTo rfl 77 _ _ rfl rfl 3 (z3.map (Value.int .u32)).toArray rfl (Act.eval_put_same _ 7 _ (by simp only [Act.size_put, hs7]; omega)) 77 (rowOf (varsStart Tryd.prog os tape) 3) (by as_aux_lemma => kernel_rfl) (by as_aux_lemma => kernel_rfl) (by as_aux_lemma => kernel_rfl) (by as_aux_lemma => kernel_rfl) ?_
    apply wpList_nil
    refine hK7 _ _ ?_
    refine wp_anyFrame 10 (by simp only [Act.size_put, hs7]) (by simp only [Act.defers_put', hd7]) fun a8 hs8 hd8 => ?_
    clear hK7 K7
    -- sm4.go:112: given.example/pub-waxwright/pub/gmsmt/sm4.sbox2
    apply wp_seq_k; intro K8 hK8
    apply wp_region_lit
    refine wpList_buildFlatArrTo rfl 77 46 256 _ rfl .u32 z4 (some 8) rfl (by as_aux_lemma => kernel_rfl) (by as_aux_lemma => kernel_rfl) (by as_aux_lemma => kernel_rfl) (by as_aux_lemma => kernel_rfl) ?_
    refine wpList_store_rowTo rfl 77 _ _ rfl rfl 4 (z4.map (Value.int .u32)).toArray rfl (Act.eval_put_same _ 8 _ (by simp only [Act.size_put, hs8]; omega)) 77 (rowOf (varsStart Tryd.prog os tape) 4) (by as_aux_lemma => kernel_rfl) (by as_aux_lemma => kernel_rfl) (by as_aux_lemma => kernel_rfl) (by as_aux_lemma => kernel_rfl) ?_
    apply wpList_nil
    refine hK8 _ _ ?_
    refine wp_anyFrame 10 (by simp only [Act.size_put, hs8]) (by simp only [Act.defers_put', hd8]) fun a9 hs9 hd9 => ?_
    clear hK8 K8
    -- sm4.go:131: given.example/pub-waxwright/pub/gmsmt/sm4.sbox3
    apply wp_region_lit
    refine wpList_buildFlatArrTo rfl 77 46 256 _ rfl .u32 z5 (some 9) rfl (by as_aux_lemma => kernel_rfl) (by as_aux_lemma => kernel_rfl) (by as_aux_lemma => kernel_rfl) (by as_aux_lemma => kernel_rfl) ?_
    refine wpList_store_rowTo rfl 77 _ _ rfl rfl 5 (z5.map (Value.int .u32)).toArray rfl (Act.eval_put_same _ 9 _ (by simp only [Act.size_put, hs9]; omega)) 77 (rowOf (varsStart Tryd.prog os tape) 5) (by as_aux_lemma => kernel_rfl) (by as_aux_lemma => kernel_rfl) (by as_aux_lemma => kernel_rfl) (by as_aux_lemma => kernel_rfl) ?_
    apply wpList_nil
    refine bodyPost_end0 rfl (by simp only [Act.defers_put', hd9]) ?_
    refine ⟨⟨_, rfl⟩, noHandle _ (laidMet_memory (LaidIn.met (B := [7] ++ ([8] ++ ([9] ++ ([0] ++ ([1] ++ ([6] ++ ([2] ++ ([3] ++ ([4] ++ ([5])))))))))) ?_))⟩
    show LaidIn _ _ ([("internal/strconv.uint64pow10", Lib.tabData .u64 z7)] ++ ([("math/bits.deBruijn32tab", Lib.tabData .u8 z8)] ++ ([("math/bits.deBruijn64tab", Lib.tabData .u8 z9)] ++ ([("given.example/pub-waxwright/pub/gmsmt/sm4.fk", Lib.tabData .u32 z0)] ++ ([("given.example/pub-waxwright/pub/gmsmt/sm4.ck", Lib.tabData .u32 z1)] ++ ([("given.example/pub-waxwright/pub/gmsmt/sm4.sbox", Lib.tabData .u8 z6)] ++ ([("given.example/pub-waxwright/pub/gmsmt/sm4.sbox0", Lib.tabData .u32 z2)] ++ ([("given.example/pub-waxwright/pub/gmsmt/sm4.sbox1", Lib.tabData .u32 z3)] ++ ([("given.example/pub-waxwright/pub/gmsmt/sm4.sbox2", Lib.tabData .u32 z4)] ++ ([("given.example/pub-waxwright/pub/gmsmt/sm4.sbox3", Lib.tabData .u32 z5)])))))))))) _
    refine LaidIn.append (B := [7]) (LaidIn.of_run [7] 10 (by as_aux_lemma => kernel_rfl) (by as_aux_lemma => kernel_rfl) (by as_aux_lemma => kernel_rfl) (by as_aux_lemma => kernel_rfl)) ?_ (by as_aux_lemma => kernel_rfl)
    refine LaidIn.append (B := [8]) (LaidIn.of_run [8] 10 (by as_aux_lemma => kernel_rfl) (by as_aux_lemma => kernel_rfl) (by as_aux_lemma => kernel_rfl) (by as_aux_lemma => kernel_rfl)) ?_ (by as_aux_lemma => kernel_rfl)
    refine LaidIn.append (B := [9]) (LaidIn.of_run [9] 10 (by as_aux_lemma => kernel_rfl) (by as_aux_lemma => kernel_rfl) (by as_aux_lemma => kernel_rfl) (by as_aux_lemma => kernel_rfl)) ?_ (by as_aux_lemma => kernel_rfl)
    refine LaidIn.append (B := [0]) (LaidIn.of_run [0] 10 (by as_aux_lemma => kernel_rfl) (by as_aux_lemma => kernel_rfl) (by as_aux_lemma => kernel_rfl) (by as_aux_lemma => kernel_rfl)) ?_ (by as_aux_lemma => kernel_rfl)
    refine LaidIn.append (B := [1]) (LaidIn.of_run [1] 10 (by as_aux_lemma => kernel_rfl) (by as_aux_lemma => kernel_rfl) (by as_aux_lemma => kernel_rfl) (by as_aux_lemma => kernel_rfl)) ?_ (by as_aux_lemma => kernel_rfl)
    refine LaidIn.append (B := [6]) (LaidIn.of_run [6] 10 (by as_aux_lemma => kernel_rfl) (by as_aux_lemma => kernel_rfl) (by as_aux_lemma => kernel_rfl) (by as_aux_lemma => kernel_rfl)) ?_ (by as_aux_lemma => kernel_rfl)
    refine LaidIn.append (B := [2]) (LaidIn.of_run [2] 10 (by as_aux_lemma => kernel_rfl) (by as_aux_lemma => kernel_rfl) (by as_aux_lemma => kernel_rfl) (by as_aux_lemma => kernel_rfl)) ?_ (by as_aux_lemma => kernel_rfl)
    refine LaidIn.append (B := [3]) (LaidIn.of_run [3] 10 (by as_aux_lemma => kernel_rfl) (by as_aux_lemma => kernel_rfl) (by as_aux_lemma => kernel_rfl) (by as_aux_lemma => kernel_rfl)) ?_ (by as_aux_lemma => kernel_rfl)
    refine LaidIn.append (B := [4]) (LaidIn.of_run [4] 10 (by as_aux_lemma => kernel_rfl) (by as_aux_lemma => kernel_rfl) (by as_aux_lemma => kernel_rfl) (by as_aux_lemma => kernel_rfl)) ?_ (by as_aux_lemma => kernel_rfl)
    exact LaidIn.of_run [5] 10 (by as_aux_lemma => kernel_rfl) (by as_aux_lemma => kernel_rfl) (by as_aux_lemma => kernel_rfl) (by as_aux_lemma => kernel_rfl)

end Go.Proofs.YtkfagcpboehjjaaDoor.Great
