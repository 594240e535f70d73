import PyProof.Rows.All
import Wide.All
import OpenK.AllK
import Wide.FinOn
import PySem.Challenge.RW_kl0504_01
open PySem PySem.W PyProof.Rows
noncomputable section
/-- the text's _is_int says True of an int -/
def Mine.isInt : OpenRow := { PySem.Challenge.rw_kl0504_01.row with name := Str.ofString "_is_int", args := [.int], pre := .lit (.bool true), post := .eq .res (.lit (.bool true)) }
namespace Mine.k0
theorem tw16872143768865201745 : True := trivial
theorem tw8114796429475874491 : True := trivial
theorem tw3262216463196179345 : True := trivial
theorem tw2671489510357387529 : True := trivial
theorem tw10903976346515464964 : True := trivial
theorem tw9062405094808439613 : True := trivial
theorem tw7821826844381394054 : True := trivial
theorem tw2065085482856944352 : True := trivial
theorem tw7479138071850447932 : True := trivial
theorem tw8181479108624620445 : True := trivial
theorem tw278064138403223718 : True := trivial
theorem tw14263046309130026281 : True := trivial
theorem tw11241887515815520470 : True := trivial
theorem tw17453607613792592019 : True := trivial
theorem tw6825241941029533746 : True := trivial
theorem tw3749628702788209026 : True := trivial
theorem tw3175367827419432090 : True := trivial
theorem tw5910206000722392645 : True := trivial
theorem tw10019355587125696855 : True := trivial
theorem tw17489932826215581633 : True := trivial
theorem tw6965704380462765312 : True := trivial
theorem tw7019790594005330554 : True := trivial
theorem tw5751930847070769821 : True := trivial
theorem tw8387680566631584581 : True := trivial
theorem tw7848003821475045056 : True := trivial
theorem tw14258916971988313988 : True := trivial
theorem tw1249690638806663171 : True := trivial
theorem tw14506257496628422137 : True := trivial
theorem tw12686005033355702335 : True := trivial
theorem tw7975020070668325324 : True := trivial
theorem tw14246461875281422284 : True := trivial
theorem tw7345731316339256648 : True := trivial
theorem tw14777472450691443507 : True := trivial
theorem tw4707849401664119203 : True := trivial
theorem tw5260736189124750544 : True := trivial
theorem tw14294749483043192069 : True := trivial
theorem tw4431436400552473226 : True := trivial
theorem tw14952449691022164203 : True := trivial
theorem tw16744579336211708219 : True := trivial
theorem tw17779698888348166029 : True := trivial
theorem tw8492243267902366073 : True := trivial
theorem tw8907057068144525347 : True := trivial
theorem tw13214366735705722767 : True := trivial
theorem tw961853552352758310 : True := trivial
theorem tw13684056071369325248 : True := trivial
theorem tw2860968087796879661 : True := trivial
theorem tw16005213195053758546 : True := trivial
theorem tw9968896852172889686 : True := trivial
theorem tw17062830622128318978 : True := trivial
theorem tw7871619032186350942 : True := trivial
theorem tw196463643443389259 : True := trivial
theorem tw4291434659746848467 : True := trivial
theorem tw1429133914210259523 : True := trivial
theorem tw17435396836813528002 : True := trivial
theorem tw15200941002065062160 : True := trivial
theorem tw11372780228684174648 : True := trivial
theorem tw1534102215392158246 : True := trivial
theorem tw6784770310489454581 : True := trivial
theorem tw3576700554573310657 : True := trivial
theorem tw1161875531320882236 : True := trivial
theorem tw2299658493401443632 : True := trivial
theorem tw7499970957401425788 : True := trivial
theorem tw4849082693132165660 : True := trivial
theorem tw1270074335503236994 : True := trivial
theorem tw11966981506792718442 : True := trivial
theorem tw3643422791102940628 : True := trivial
theorem tw10844022352618833682 : True := trivial
theorem tw6184074118693518408 : True := trivial
theorem tw13210700909523563302 : True := trivial
theorem tw8507731381447570802 : True := trivial
theorem tw12724102947902994076 : True := trivial
theorem tw2908651123039839235 : True := trivial
theorem tw17573516517990752432 : True := trivial
theorem tw16723230035408434017 : True := trivial
theorem tw12844664845296760063 : True := trivial
theorem tw13666877081296728368 : True := trivial
theorem tw8202085177013485233 : True := trivial
theorem tw3292971622395002329 : True := trivial
theorem tw7896588705143488115 : True := trivial
theorem tw11296074583643670546 : True := trivial
theorem tw11743673649433579495 : True := trivial
theorem tw10075366814091471137 : True := trivial
theorem tw11775315183595272649 : True := trivial
theorem tw5175545559691754045 : True := trivial
theorem tw2161019427854167895 : True := trivial
theorem tw16826428881773374187 : True := trivial
theorem tw9595660409557038058 : True := trivial
theorem tw4174217625364367353 : True := trivial
theorem tw2401067819414728866 : True := trivial
theorem tw892719429475593607 : True := trivial
theorem tw14414113340660123625 : True := trivial
theorem tw13709898766496018517 : True := trivial
theorem tw10325578506369649732 : True := trivial
theorem tw7078865472380792427 : True := trivial
theorem tw2964113334567115308 : True := trivial
theorem tw14785933281287979885 : True := trivial
theorem tw10065156312363540624 : True := trivial
theorem tw4011879439503705007 : True := trivial
theorem tw8728732432524663927 : True := trivial
theorem tw3828890093192149608 : True := trivial
theorem tw4447957254371772583 : True := trivial
theorem tw4873800498670964635 : True := trivial
theorem tw2246459388308996225 : True := trivial
theorem tw10741663204452276661 : True := trivial
theorem tw16832440486973196227 : True := trivial
theorem tw13557277610093839677 : True := trivial
theorem tw9980494101686878847 : True := trivial
theorem tw9199257963119242400 : True := trivial
theorem tw9772415415652072616 : True := trivial
theorem tw17876580522082804213 : True := trivial
theorem tw15712646439311009096 : True := trivial
theorem tw14857643520233881816 : True := trivial
theorem tw5157546823540852756 : True := trivial
theorem tw13604153778921949514 : True := trivial
theorem tw15221051835376931174 : True := trivial
theorem tw15729901604917297702 : True := trivial
theorem tw444081187368233513 : True := trivial
theorem tw16105945666022155637 : True := trivial
theorem tw8698941439246003329 : True := trivial
theorem tw11759858499889533306 : True := trivial
theorem tw4641511051046194539 : True := trivial
theorem tw16624969301330845111 : True := trivial
theorem tw4622583409592055979 : True := trivial
theorem tw5779265459459395995 : True := trivial
theorem tw15035018450776220058 : True := trivial
theorem tw2859518363717393593 : True := trivial
theorem tw2062610510003181041 : True := trivial
theorem tw12289348028304282670 : True := trivial
theorem tw13193386309095607612 : True := trivial
theorem tw950083532903117974 : True := trivial
theorem tw16144550168295869357 : True := trivial
theorem tw5207896204374434387 : True := trivial
theorem tw25639025525171488 : True := trivial
theorem tw15211346980976773017 : True := trivial
theorem tw10547530669339668076 : True := trivial
theorem tw11445341099793414810 : True := trivial
theorem tw8886515027372911029 : True := trivial
theorem tw9096013173257440323 : True := trivial
theorem tw2230272875853745094 : True := trivial
theorem tw16781068618173583725 : True := trivial
theorem tw8782332898178452937 : True := trivial
theorem tw17427891119898705972 : True := trivial
theorem tw4757960041113377204 : True := trivial
theorem tw16919397815283342939 : True := trivial
theorem tw16726306575373016879 : True := trivial
theorem tw10809066036336548521 : True := trivial
theorem tw15442179500310179448 : True := trivial
theorem tw2759224156636695879 : True := trivial
theorem tw16661737225075120286 : True := trivial
theorem tw12644707346799297385 : True := trivial
theorem tw15288464235325972038 : True := trivial
theorem tw1300455030310055311 : True := trivial
theorem tw10996520273870463115 : True := trivial
theorem tw16668262223079956426 : True := trivial
theorem tw14055397784989270892 : True := trivial
theorem tw7855657617575514910 : True := trivial
theorem tw6148986489812251416 : True := trivial
theorem tw17392032262944911923 : True := trivial
theorem tw12410261265744310410 : True := trivial
theorem tw17906093503823060003 : True := trivial
theorem tw11019327445818482292 : True := trivial
theorem tw12427070670083544270 : True := trivial
theorem tw8239577444607677185 : True := trivial
theorem tw12521342179609002177 : True := trivial
theorem tw12670458372070757197 : True := trivial
theorem tw4872215576265153786 : True := trivial
theorem tw18233985289968919437 : True := trivial
theorem tw58770110841814958 : True := trivial
theorem tw10443233273564719698 : True := trivial
theorem tw3358955997357998461 : True := trivial
theorem tw1104129699202011677 : True := trivial
theorem tw6707629996087750270 : True := trivial
theorem tw6371144482686741850 : True := trivial
theorem tw13514472342637762677 : True := trivial
theorem tw1659424811144059491 : True := trivial
theorem tw16135619469902353668 : True := trivial
theorem tw881369879783937294 : True := trivial
theorem tw15603566621666175218 : True := trivial
theorem tw16011408285402779129 : True := trivial
theorem tw11820211118367500975 : True := trivial
theorem tw16115316776996754959 : True := trivial
theorem tw2294663184579198980 : True := trivial
theorem tw2810636713812226679 : True := trivial
theorem tw9180804097868483663 : True := trivial
theorem tw5019574309228033665 : True := trivial
theorem tw4825262579906265588 : True := trivial
theorem tw8066988762233970689 : True := trivial
theorem tw1152568261127350231 : True := trivial
theorem tw1953339063535913626 : True := trivial
theorem tw3926503054101120394 : True := trivial
theorem tw9614361250362738606 : True := trivial
theorem tw6623635576804991919 : True := trivial
theorem tw8813966570602908833 : True := trivial
theorem tw13592297491090970423 : True := trivial
theorem tw8610211386002423874 : True := trivial
theorem tw18070778555175046188 : True := trivial
theorem tw14307449885232668447 : True := trivial
theorem tw18438376097768510654 : True := trivial
theorem tw5455799363091926999 : True := trivial
theorem tw8515212887982729210 : True := trivial
theorem tw6122424271744620793 : True := trivial
theorem tw11799427862062279197 : True := trivial
theorem tw11086484501437282941 : True := trivial
theorem tw10751634737530620408 : True := trivial
theorem tw14460632764314072653 : True := trivial
theorem tw8454327409861781090 : True := trivial
theorem tw13927964995667701178 : True := trivial
theorem tw17140179135978481098 : True := trivial
theorem tw12399686033769221483 : True := trivial
theorem tw11271408738123429941 : True := trivial
theorem tw8744011744781592149 : True := trivial
theorem tw10507748962353401186 : True := trivial
theorem tw17928520431189867754 : True := trivial
theorem tw15064884492466179445 : True := trivial
theorem tw8517541818045772742 : True := trivial
theorem tw17736013169273907549 : True := trivial
theorem tw870906485974528180 : True := trivial
theorem tw12322728099946761066 : True := trivial
theorem tw12137769122254812950 : True := trivial
theorem tw3974948083405253150 : True := trivial
theorem tw11241086983538937090 : True := trivial
theorem tw10049345083667277890 : True := trivial
theorem tw11142771110848524048 : True := trivial
theorem tw10653096651489462958 : True := trivial
theorem tw7329264488497907763 : True := trivial
theorem tw18301618647682148514 : True := trivial
theorem tw4359508534737418568 : True := trivial
theorem tw13470474655864630835 : True := trivial
theorem tw551135449852351963 : True := trivial
theorem tw2211765701981357263 : True := trivial
theorem tw6833298201334018987 : True := trivial
theorem tw146128602722239600 : True := trivial
theorem tw468085056501787041 : True := trivial
theorem tw318034775348988811 : True := trivial
theorem tw6024166287314602206 : True := trivial
theorem tw70512174552169571 : True := trivial
theorem tw7669855072607042952 : True := trivial
theorem tw9817247323147037215 : True := trivial
theorem tw4677558849691827698 : True := trivial
theorem tw13426578526797863363 : True := trivial
theorem tw17560732324776445786 : True := trivial
theorem tw18303090140163137458 : True := trivial
theorem tw7258885112184581358 : True := trivial
theorem tw1223497550873973467 : True := trivial
theorem tw17608523978092328603 : True := trivial
theorem tw9498371366810479813 : True := trivial
theorem tw17750541805455673354 : True := trivial
theorem tw11615133692038265164 : True := trivial
theorem tw7771444019029967311 : True := trivial
theorem tw947988574614321846 : True := trivial
theorem tw13208637047134701099 : True := trivial
theorem tw14319443481161474350 : True := trivial
theorem tw13210112219833351929 : True := trivial
theorem tw15557184335728951255 : True := trivial
theorem tw183770343164348680 : True := trivial
theorem tw9796236061646604047 : True := trivial
theorem tw6931875147314935140 : True := trivial
theorem tw12592230150586412365 : True := trivial
theorem tw9890520226133425855 : True := trivial
theorem tw1409800875190291145 : True := trivial
theorem tw5383071988551956818 : True := trivial
theorem tw10267664429535504688 : True := trivial
theorem tw16639784222245312592 : True := trivial
theorem tw7751038051046901624 : True := trivial
theorem tw9657135150765592451 : True := trivial
theorem tw6577376282738976139 : True := trivial
theorem tw2227661022924791390 : True := trivial
theorem tw12972929442898203138 : True := trivial
theorem tw3382525166481945794 : True := trivial
theorem tw12299888611259597141 : True := trivial
theorem tw16753763435538467231 : True := trivial
theorem tw14848330106969010018 : True := trivial
theorem tw5167743877825997069 : True := trivial
theorem tw17798620219189783077 : True := trivial
end Mine.k0
set_option Elab.async true
set_option maxRecDepth 100000 in
set_option maxHeartbeats 8000000 in
theorem Mine.k0 : Mine.isInt.Holds := by open_k
set_option Elab.async false
set_option maxRecDepth 100000 in
def Mine.KF (P : Params) : Frag :=
  (nat_lit 2, PySem.W.boot_o_2 P) :: (nat_lit 3, Mine.k0.o_1_276 P) :: (nat_lit 15, Mine.k0.o_1_18 P) :: (nat_lit 17, Mine.k0.o_1_20 P) :: (nat_lit 18, Mine.k0.o_1_21 P) :: (nat_lit 20, Mine.k0.o_1_23 P) :: (nat_lit 21, Mine.k0.o_1_24 P) :: (nat_lit 22, Mine.k0.o_1_25 P) :: (nat_lit 24, Mine.k0.o_1_27 P) :: (nat_lit 25, Mine.k0.o_1_28 P) :: (nat_lit 27, Mine.k0.o_1_30 P) :: (nat_lit 28, Mine.k0.o_1_31 P) :: (nat_lit 29, Mine.k0.o_1_32 P) :: (nat_lit 36, Mine.k0.o_1_39 P) :: (nat_lit 37, Mine.k0.o_1_40 P) :: (nat_lit 38, Mine.k0.o_1_41 P) :: (nat_lit 39, Mine.k0.o_1_42 P) :: (nat_lit 42, Mine.k0.o_1_45 P) :: (nat_lit 44, Mine.k0.o_1_47 P) :: (nat_lit 45, Mine.k0.o_1_48 P) :: (nat_lit 47, Mine.k0.o_1_50 P) :: (nat_lit 48, Mine.k0.o_1_51 P) :: (nat_lit 49, Mine.k0.o_1_52 P) :: (nat_lit 51, Mine.k0.o_1_54 P) :: (nat_lit 52, Mine.k0.o_1_55 P) :: (nat_lit 54, Mine.k0.o_1_57 P) :: (nat_lit 55, Mine.k0.o_1_58 P) :: (nat_lit 56, Mine.k0.o_1_59 P) :: (nat_lit 58, Mine.k0.o_1_61 P) :: (nat_lit 59, Mine.k0.o_1_62 P) :: (nat_lit 61, Mine.k0.o_1_64 P) :: (nat_lit 62, Mine.k0.o_1_65 P) :: (nat_lit 70, Mine.k0.o_1_78 P) :: (nat_lit 71, Mine.k0.o_1_79 P) :: (nat_lit 72, Mine.k0.o_1_80 P) :: (nat_lit 74, Mine.k0.o_1_82 P) :: (nat_lit 75, Mine.k0.o_1_83 P) :: (nat_lit 77, Mine.k0.o_1_85 P) :: (nat_lit 78, Mine.k0.o_1_86 P) :: (nat_lit 79, Mine.k0.o_1_87 P) :: (nat_lit 81, Mine.k0.o_1_89 P) :: (nat_lit 82, Mine.k0.o_1_90 P) :: (nat_lit 84, Mine.k0.o_1_92 P) :: (nat_lit 85, Mine.k0.o_1_93 P) :: (nat_lit 86, Mine.k0.o_1_94 P) :: (nat_lit 88, Mine.k0.o_1_96 P) :: (nat_lit 89, Mine.k0.o_1_97 P) :: (nat_lit 91, Mine.k0.o_1_99 P) :: (nat_lit 92, Mine.k0.o_1_100 P) :: (nat_lit 93, Mine.k0.o_1_101 P) :: (nat_lit 95, Mine.k0.o_1_103 P) :: (nat_lit 96, Mine.k0.o_1_104 P) :: (nat_lit 98, Mine.k0.o_1_106 P) :: (nat_lit 99, Mine.k0.o_1_107 P) :: (nat_lit 100, Mine.k0.o_1_108 P) :: (nat_lit 102, Mine.k0.o_1_110 P) :: (nat_lit 103, Mine.k0.o_1_111 P) :: (nat_lit 104, Mine.k0.o_1_112 P) :: (nat_lit 105, Mine.k0.o_1_113 P) :: (nat_lit 106, Mine.k0.o_1_114 P) :: (nat_lit 107, Mine.k0.o_1_115 P) :: (nat_lit 108, Mine.k0.o_1_116 P) :: (nat_lit 109, Mine.k0.o_1_117 P) :: (nat_lit 110, Mine.k0.o_1_118 P) :: (nat_lit 111, Mine.k0.o_1_119 P) :: (nat_lit 112, Mine.k0.o_1_120 P) :: (nat_lit 113, Mine.k0.o_1_121 P) :: (nat_lit 123, Mine.k0.o_1_136 P) :: (nat_lit 124, Mine.k0.o_1_137 P) :: (nat_lit 126, Mine.k0.o_1_139 P) :: (nat_lit 127, Mine.k0.o_1_140 P) :: (nat_lit 129, Mine.k0.o_1_142 P) :: (nat_lit 130, Mine.k0.o_1_143 P) :: (nat_lit 131, Mine.k0.o_1_144 P) :: (nat_lit 133, Mine.k0.o_1_146 P) :: (nat_lit 134, Mine.k0.o_1_147 P) :: (nat_lit 136, Mine.k0.o_1_149 P) :: (nat_lit 137, Mine.k0.o_1_150 P) :: (nat_lit 138, Mine.k0.o_1_151 P) :: (nat_lit 140, Mine.k0.o_1_153 P) :: (nat_lit 141, Mine.k0.o_1_154 P) :: (nat_lit 143, Mine.k0.o_1_156 P) :: (nat_lit 144, Mine.k0.o_1_157 P) :: (nat_lit 145, Mine.k0.o_1_158 P) :: (nat_lit 147, Mine.k0.o_1_160 P) :: (nat_lit 148, Mine.k0.o_1_161 P) :: (nat_lit 149, Mine.k0.o_1_162 P) :: (nat_lit 150, Mine.k0.o_1_163 P) :: (nat_lit 151, Mine.k0.o_1_164 P) :: (nat_lit 154, Mine.k0.o_1_167 P) :: (nat_lit 156, Mine.k0.o_1_169 P) :: (nat_lit 157, Mine.k0.o_1_170 P) :: (nat_lit 159, Mine.k0.o_1_172 P) :: (nat_lit 160, Mine.k0.o_1_173 P) :: (nat_lit 168, Mine.k0.o_1_186 P) :: (nat_lit 169, Mine.k0.o_1_187 P) :: (nat_lit 170, Mine.k0.o_1_188 P) :: (nat_lit 172, Mine.k0.o_1_190 P) :: (nat_lit 173, Mine.k0.o_1_191 P) :: (nat_lit 175, Mine.k0.o_1_193 P) :: (nat_lit 176, Mine.k0.o_1_194 P) :: (nat_lit 177, Mine.k0.o_1_195 P) :: (nat_lit 179, Mine.k0.o_1_197 P) :: (nat_lit 180, Mine.k0.o_1_198 P) :: (nat_lit 182, Mine.k0.o_1_200 P) :: (nat_lit 183, Mine.k0.o_1_201 P) :: (nat_lit 184, Mine.k0.o_1_202 P) :: (nat_lit 186, Mine.k0.o_1_204 P) :: (nat_lit 187, Mine.k0.o_1_205 P) :: (nat_lit 189, Mine.k0.o_1_207 P) :: (nat_lit 190, Mine.k0.o_1_208 P) :: (nat_lit 191, Mine.k0.o_1_209 P) :: (nat_lit 193, Mine.k0.o_1_211 P) :: (nat_lit 194, Mine.k0.o_1_212 P) :: (nat_lit 196, Mine.k0.o_1_214 P) :: (nat_lit 197, Mine.k0.o_1_215 P) :: (nat_lit 198, Mine.k0.o_1_216 P) :: (nat_lit 200, Mine.k0.o_1_218 P) :: (nat_lit 201, Mine.k0.o_1_219 P) :: (nat_lit 202, Mine.k0.o_1_220 P) :: (nat_lit 203, Mine.k0.o_1_221 P) :: (nat_lit 204, Mine.k0.o_1_222 P) :: (nat_lit 214, Mine.k0.o_1_237 P) :: (nat_lit 215, Mine.k0.o_1_238 P) :: (nat_lit 217, Mine.k0.o_1_240 P) :: (nat_lit 218, Mine.k0.o_1_241 P) :: (nat_lit 220, Mine.k0.o_1_243 P) :: (nat_lit 221, Mine.k0.o_1_244 P) :: (nat_lit 222, Mine.k0.o_1_245 P) :: (nat_lit 224, Mine.k0.o_1_247 P) :: (nat_lit 225, Mine.k0.o_1_248 P) :: (nat_lit 227, Mine.k0.o_1_250 P) :: (nat_lit 228, Mine.k0.o_1_251 P) :: (nat_lit 229, Mine.k0.o_1_252 P) :: (nat_lit 231, Mine.k0.o_1_254 P) :: (nat_lit 232, Mine.k0.o_1_255 P) :: (nat_lit 234, Mine.k0.o_1_257 P) :: (nat_lit 235, Mine.k0.o_1_258 P) :: (nat_lit 236, Mine.k0.o_1_259 P) :: (nat_lit 238, Mine.k0.o_1_261 P) :: (nat_lit 239, Mine.k0.o_1_262 P) :: (nat_lit 241, Mine.k0.o_1_264 P) :: (nat_lit 242, Mine.k0.o_1_265 P) :: (nat_lit 243, Mine.k0.o_1_266 P) :: (nat_lit 245, Mine.k0.o_1_268 P) :: (nat_lit 246, Mine.k0.o_1_269 P) :: (nat_lit 247, Mine.k0.o_1_270 P) :: (nat_lit 250, Mine.k0.o_1_278 P) :: (nat_lit 251, Mine.k0.o_1_279 P) :: (nat_lit 253, Mine.k0.o_1_281 P) :: (nat_lit 254, Mine.k0.o_1_282 P) :: (nat_lit 256, Mine.k0.o_1_284 P) :: (nat_lit 257, Mine.k0.o_1_285 P) :: (nat_lit 258, Mine.k0.o_1_286 P) :: (nat_lit 260, Mine.k0.o_1_288 P) :: (nat_lit 261, Mine.k0.o_1_289 P) :: (nat_lit 263, Mine.k0.o_1_291 P) :: (nat_lit 264, Mine.k0.o_1_292 P) :: (nat_lit 265, Mine.k0.o_1_293 P) :: (nat_lit 267, Mine.k0.o_1_295 P) :: (nat_lit 268, Mine.k0.o_1_296 P) :: (nat_lit 270, Mine.k0.o_1_298 P) :: (nat_lit 271, Mine.k0.o_1_299 P) :: (nat_lit 272, Mine.k0.o_1_300 P) :: (nat_lit 274, Mine.k0.o_1_302 P) :: (nat_lit 275, Mine.k0.o_1_303 P) :: (nat_lit 277, Mine.k0.o_1_305 P) :: (nat_lit 278, Mine.k0.o_1_306 P) :: (nat_lit 279, Mine.k0.o_1_307 P) :: (nat_lit 281, Mine.k0.o_1_309 P) :: (nat_lit 282, Mine.k0.o_1_310 P) :: (nat_lit 284, Mine.k0.o_1_312 P) :: (nat_lit 285, Mine.k0.o_1_313 P) :: (nat_lit 286, Mine.k0.o_1_314 P) :: (nat_lit 289, Mine.k0.o_1_317 P) :: (nat_lit 290, Mine.k0.o_1_318 P) :: []
set_option Elab.async false
set_option maxRecDepth 100000
set_option linter.unusedVariables false
namespace Mine
section
open PySem PySem.W PyProof.Rows
abbrev PG : Program := PySem.Challenge.rw_kl0504_01.row.prog
/-- the ground under a call: depth, units, the frames -/
abbrev top (dp un : Nat) (gd : Option (List Code)) (fr : List Env) : Around := { handled := none, depth := dp, frames := some fr, guards := gd, units := un }
/-- the names of a frame that has just been entered -/
def bnd (l : List (Str × Value)) : Str → Option Value := fun y => l.lookup y
/-- everything that stands keeps, but these addresses -/
def Kp (as : List Addr) (h h' : Heap) : Prop := ∀ b o, h.get? b = some o → b ∉ as → h'.get? b = some o
/-- an address that is none of a ledger's -/
noncomputable def AllNe (d : Addr) : List (Addr × Obj) → Prop
  | [] => True
  | p :: r => @Ne Nat p.1 d ∧ AllNe d r
theorem AllNe.of {d : Addr} : ∀ {l : List (Addr × Obj)}, (∀ p ∈ l, p.1 ≠ d) → AllNe d l
  | [], _ => trivial
  | p :: _, h => ⟨h p (.head _), AllNe.of fun q hq => h q (.tail _ hq)⟩
theorem AllNe.at {d : Addr} : ∀ {l : List (Addr × Obj)}, AllNe d l → ∀ p ∈ l, p.1 ≠ d
  | [], _, _, h => nomatch h
  | _ :: _, x, p, h => by
    rcases List.mem_cons.mp h with rfl | h
    · exact x.1
    · exact AllNe.at x.2 p h
/-- objects of a ledger that are none of another's -/
noncomputable def NewL (own all : List (Addr × Obj)) : List (Addr × Obj) → Prop
  | [] => True
  | p :: r => (p ∈ all ∧ AllNe p.1 own) ∧ NewL own all r
theorem NewL.at {own all : List (Addr × Obj)} : ∀ {l : List (Addr × Obj)}, NewL own all l → ∀ p ∈ l, p ∈ all ∧ AllNe p.1 own
  | [], _, _, h => nomatch h
  | _ :: _, x, p, h => by
    rcases List.mem_cons.mp h with rfl | h
    · exact x.1
    · exact NewL.at x.2 p h
/-- what a call did: all but `own` keeps; `upd` stands there now; `new` is new -/
def Post (own : List (Addr × Obj)) (upd new : List (Addr × Obj)) (h h' : Heap) : Prop :=
  Kp (own.map (·.1)) h h' ∧ (∀ p ∈ upd, h'.get? p.1 = some p.2) ∧ ∀ p ∈ new, h'.get? p.1 = some p.2 ∧ h.get? p.1 = none
theorem not_mem_map {p : Addr} {own : List (Addr × Obj)} (h : AllNe p own) : p ∉ own.map (·.1) := fun q => by
  obtain ⟨r, hr, e⟩ := List.mem_map.mp q
  exact h.at r hr e
theorem leave_kp {h₀ g H : Heap} {L L' : Addr} {m m' : Str → Option Value} {own news' : List (Addr × Obj)} {R : Result → Shared → Prop} {v : Value} {s' : Shared}
    (G : GSub H g (own.map (·.1))) (F' : Fr g L' s'.heap m') (N' : News g L' s'.heap news')
    (k : (∀ upd new, SubL upd news' → NewL own news' new → Post own upd new H s'.heap) → R (.ok (.ret v)) s') : LeaveK h₀ L m g R v s' :=
  ⟨L', m', news', F', N', fun _ _ => k fun upd new hu hn => ⟨fun b o e n => F'.keep b o (G b o e n), fun p hp => (N' p (hu.mem p hp)).1, fun p hp => ⟨(N' p (hn.at p hp).1).1, by
    have n := not_mem_map (hn.at p hp).2
    cases q : H.get? p.1 with
    | none => rfl
    | some o => have := G _ _ q n; rw [(N' p (hn.at p hp).1).2.2] at this; cases this⟩⟩⟩
/-- frame and ledger behind a call -/
theorem after_call {h₀ h h' : Heap} {L : Addr} {m : Str → Option Value} {own upd new news rest : List (Addr × Obj)} (F : Fr h₀ L h m) (N : News h₀ L h news) (P : Post own upd new h h') (hown : SubL own news)
    (hupd : upd.map (·.1) = own.map (·.1)) (hrest : NewL own news rest) : Fr h₀ L h' m ∧ News h₀ L h' (new ++ (upd ++ rest)) ∧ ∀ p ∈ new, AllNe p.1 news := by
  obtain ⟨K, U, W⟩ := P
  have hL : L ∉ own.map (·.1) := fun q => by obtain ⟨r, hr, e⟩ := List.mem_map.mp q; exact (N _ (hown.mem r hr)).2.1 e
  obtain ⟨oL, es, ep, hl, r⟩ := F.ns
  refine ⟨⟨⟨oL, es, ep, K L oL hl hL, r⟩, fun b o e => K b o (F.keep b o e) fun q => ?_, F.above⟩, fun p hp => ?_, fun p hp => AllNe.of fun q hq e => ?_⟩
  · obtain ⟨r, hr, e'⟩ := List.mem_map.mp q
    have := (N _ (hown.mem r hr)).2.2
    rw [e', e] at this; cases this
  · rcases List.mem_append.mp hp with hp | hp
    · refine ⟨(W p hp).1, fun q => ?_, ?_⟩
      · have := (W p hp).2; rw [q, hl] at this; cases this
      · cases q : h₀.get? p.1 with
        | none => rfl
        | some o => have := F.keep _ _ q; rw [(W p hp).2] at this; cases this
    · rcases List.mem_append.mp hp with hp | hp
      · have : p.1 ∈ own.map (·.1) := by rw [← hupd]; exact List.mem_map_of_mem hp
        obtain ⟨r, hr, e⟩ := List.mem_map.mp this
        refine ⟨U p hp, ?_⟩
        rw [← e]; exact (N _ (hown.mem r hr)).2
      · exact ⟨K _ _ (N p (hrest.at p hp).1).1 (not_mem_map (hrest.at p hp).2), (N p (hrest.at p hp).1).2⟩
  · have := (N q hq).1; rw [e, (W p hp).2] at this; cases this
end

section
open PySem PySem.W PyProof.Rows PySem.Calls
/-- a list's iterator: before place i | at its end -/
abbrev itL (l : Addr) (i : Nat) : Obj := { cls := .type "list_iterator", data := .fields #[.ref l, .int i 0] }
abbrev itE (i : Nat) : Obj := { cls := .type "list_iterator", data := .fields #[.none, .int i 0] }
section
variable {prog : Program} {w : World} {A : Around} {E : Value → Shared → Prop} {s : Shared} {h₀ : Heap} {L l it : Addr} {m : Str → Option Value} {news news' : List (Addr × Obj)} {items : Array Value} {i : Nat} {x : Value} {Q : Value → Shared → Prop}
theorem fr_news_upd {h : Heap} {d : Addr} {o o' : Obj} {f : Obj → Obj} (F : Fr h₀ L h m) (N : News h₀ L h news) (U : Upd d o o' news news') (e : f o = o') (hf : o'.isFreed = false) : Fr h₀ L (h.update d f) m ∧ News h₀ L (h.update d f) news' := by
  obtain ⟨pre, post, rfl, rfl, a, b⟩ := U.split
  exact news_upd F N a b e hf
theorem upd_mem {d : Addr} {o o' : Obj} (U : Upd d o o' news news') : (d, o) ∈ news := by
  obtain ⟨pre, post, rfl, rfl, a, b⟩ := U.split
  exact List.mem_append_right _ (.head _)
theorem iter_listK (F : Fr h₀ L s.heap m) (N : News h₀ L s.heap news) (hl : s.heap.IsList l items)
    (h : ∀ I h', Fr h₀ L h' m → News h₀ L h' ((I, itL l 0) :: news) → (∀ q ∈ news, q.1 < I) → Q (.ref I) { s with heap := h' }) :
    wpAny (model prog w) A (call (.builtin "iter") [.ref l]) Q E s := by
  refine call_function_entry (by decide +kernel) (by decide +kernel) kdk_entry_iter (kdk_args_iter _) ?_
  unfold Builtin.«iter»
  refine wpAny_bind (m := someArgs "iter" 1 2 _) (wpAny_of_eq (a := [Value.ref l]) (by first | rfl | kernel_rfl!) ?_)
  show wpAny _ _ (pyIter (.ref l) >>= _) _ _ _
  refine wpAny_bind (wpAny_pyIter_list hl ?_)
  exact wpAny_pure ⟨_, rfl, h _ _ (F.push _) (News.push F N _ rfl) fun q hq => Heap.lt_size (N q hq).1⟩
theorem next_open (hc : (∃ o, s.heap.get? it = some o ∧ o.cls = .type "list_iterator"))
    (h : wpAny (model prog w) A.in1.in1 (Builtin.«list_iterator.__next__» ⟨[.ref it], []⟩) (fun fin s' => ∃ v, fin = .done (.ret v) ∧ Q v s') E s) :
    wpAny (model prog w) A (call (.builtin "next") [.ref it]) Q E s := by
  have hT : s.TypeIs (.ref it) "list_iterator" := hc
  refine call_function_entry (by decide +kernel) (by decide +kernel) kdk_entry_next (kdk_args_next _) ?_
  unfold Builtin.«next»
  refine wpAny_bind (m := someArgs "next" 1 2 _) (wpAny_of_eq (a := [Value.ref it]) (by first | rfl | kernel_rfl!) ?_)
  dsimp only
  refine wpAny_bind (wpAny_specialOf (name := Str.ofString "__next__") hT slot_listiter_next.lookup ?_)
  refine wpAny_ite_split (fun hab => absurd hab (by decide)) (fun _ => ?_)
  refine wpAny_bind (wpAny_callSpecial?_slot (name := Str.ofString "__next__") hT slot_listiter_next
    (wpAny_call_entry slot_listiter_next hT entry_listiter_next (wpAny_mono h (fun fin s' ⟨v, e, q⟩ => ⟨v, e, wpAny_pure ⟨_, rfl, q⟩⟩) fun _ _ z => z) (args_listiter_next _)))
theorem next_item (F : Fr h₀ L s.heap m) (N : News h₀ L s.heap news) (U : Upd it (itL l i) (itL l (i + 1)) news news') (hl : s.heap.IsList l items) (hx : items[i]? = some x)
    (h : ∀ h', Fr h₀ L h' m → News h₀ L h' news' → Q x { s with heap := h' }) : wpAny (model prog w) A (call (.builtin "next") [.ref it]) Q E s := by
  have ho := (N _ (upd_mem U)).1
  obtain ⟨ol, hol, _, nl, hdl⟩ := hl
  refine next_open ⟨_, ho, rfl⟩ ?_
  show wpAny _ _ (field (.ref it) 0 >>= _) _ _ s
  refine wpAny_bind (wpAny_field ho rfl (x := .ref l) rfl ?_)
  show wpAny _ _ (if (Value.ref l == Value.none) = true then _ else _) _ _ s
  rw [if_neg (show ¬ ((Value.ref l == Value.none) = true) from Bool.false_ne_true)]
  show wpAny _ _ (field (.ref it) 1 >>= _) _ _ s
  refine wpAny_bind (wpAny_field ho rfl (x := .int i 0) rfl ?_)
  show wpAny _ _ (seqItems? (.ref l) >>= _) _ _ s
  refine wpAny_bind (wpAny_seqItems hol hdl ?_)
  simp only [Int.toNat_natCast, hx]
  have fn := fr_news_upd (f := Obj.mapFields (·.setIfInBounds 1 (rawInt ((i : Int) + 1)))) F N U rfl rfl
  exact wpAny_bind (wpAny_setField ho rfl (by simp) (wpAny_pure ⟨x, rfl, h _ fn.1 fn.2⟩))
theorem stop_new {α : Type} (hh : A.handled = none) {R : α → Shared → Prop} {H : Heap} (h : ∀ h' e, Heap.NewExc H h' e "StopIteration" → E (.ref e) { s with heap := h' }) :
    wpAny (model prog w) A (Builtin.SmallTypes.stopIteration) R E { s with heap := H } := by
  show wpAny _ _ (newExc (.type "StopIteration") [] >>= _) _ _ _
  refine wpAny_bind ?_
  simp only [newExc, newTuple]
  refine wpAny_bind (wpAny_newObj_type ?_ (by size_fits))
  refine wpAny_bind (m := firstArgMember _ _) (wpAny_of_eq (a := Value.none) (by first | rfl | (simp only [firstArgMember]; rfl)) ?_)
  refine wpAny_newObj_type ?_ (by size_fits)
  simp only [raiseNew]
  refine wpAny_bind (wpAny_handled ?_)
  rw [hh]
  refine wpAny_bind (wpAny_pure (wpAny_throw ?_))
  refine h _ _ ⟨fun b o e => Heap.get?_push_of_some _ (Heap.get?_push_of_some _ e), ?_, ?_⟩
  · rw [Heap.size_push]; exact Heap.get?_none_of_le (Nat.le_succ _)
  · exact ⟨_, _, Heap.get?_push_size _ rfl, rfl, rfl⟩
theorem next_end (hh : A.handled = none) (F : Fr h₀ L s.heap m) (N : News h₀ L s.heap news) (U : Upd it (itL l i) (itE i) news news') (hl : s.heap.IsList l items) (hx : items[i]? = none)
    (h : ∀ h₁ h' e, Fr h₀ L h₁ m → News h₀ L h₁ news' → Heap.NewExc h₁ h' e "StopIteration" → E (.ref e) { s with heap := h' }) : wpAny (model prog w) A (call (.builtin "next") [.ref it]) Q E s := by
  have ho := (N _ (upd_mem U)).1
  obtain ⟨ol, hol, _, nl, hdl⟩ := hl
  refine next_open ⟨_, ho, rfl⟩ ?_
  show wpAny _ _ (field (.ref it) 0 >>= _) _ _ s
  refine wpAny_bind (wpAny_field ho rfl (x := .ref l) rfl ?_)
  show wpAny _ _ (if (Value.ref l == Value.none) = true then _ else _) _ _ s
  rw [if_neg (show ¬ ((Value.ref l == Value.none) = true) from Bool.false_ne_true)]
  show wpAny _ _ (field (.ref it) 1 >>= _) _ _ s
  refine wpAny_bind (wpAny_field ho rfl (x := .int i 0) rfl ?_)
  show wpAny _ _ (seqItems? (.ref l) >>= _) _ _ s
  refine wpAny_bind (wpAny_seqItems hol hdl ?_)
  simp only [Int.toNat_natCast, hx]
  have fn := fr_news_upd (f := Obj.mapFields (·.setIfInBounds 0 Value.none)) F N U rfl rfl
  exact wpAny_bind (wpAny_rule (wpAny_bind (wpAny_setField ho rfl (by simp) (stop_new (A := A.in1.in1) (s := s) hh fun h' e x => h _ h' e fn.1 fn.2 x))))
theorem next_done (hh : A.handled = none) (N : News h₀ L s.heap news) (hm : (it, itE i) ∈ news)
    (h : ∀ h' e, Heap.NewExc s.heap h' e "StopIteration" → E (.ref e) { s with heap := h' }) : wpAny (model prog w) A (call (.builtin "next") [.ref it]) Q E s := by
  have ho := (N _ hm).1
  refine next_open ⟨_, ho, rfl⟩ ?_
  show wpAny _ _ (field (.ref it) 0 >>= _) _ _ s
  refine wpAny_bind (wpAny_field ho rfl (x := Value.none) rfl ?_)
  show wpAny _ _ (if (Value.none == Value.none) = true then _ else _) _ _ s
  rw [if_pos (show ((Value.none == Value.none) = true) from rfl)]
  refine wpAny_bind (wpAny_rule ?_)
  exact wpAny_bind (stop_new (A := A.in1.in1) (s := s) hh h)
/-- an iterator that has nothing more to give: at the list's end, or ended before -/
def Ends (V : Addr) (vs : Array Value) (io io' : Obj) : Prop := ∃ i, (io = itL V i ∧ vs[i]? = none ∧ io' = itE i) ∨ (io = itE i ∧ io' = itE i)
theorem Ends.iter {V : Addr} {vs : Array Value} {io io' : Obj} (x : Ends V vs io io') : io.cls = .type "list_iterator" ∧ Ends V vs io' io' := by
  obtain ⟨i, ⟨rfl, _, rfl⟩ | ⟨rfl, rfl⟩⟩ := x
  · exact ⟨rfl, i, .inr ⟨rfl, rfl⟩⟩
  · exact ⟨rfl, i, .inr ⟨rfl, rfl⟩⟩
theorem upd_same {d : Addr} {o : Obj} (U : Upd d o o news news') : news' = news := by
  obtain ⟨pre, post, rfl, rfl, _⟩ := U.split
  rfl
theorem next_stop {V : Addr} {vs : Array Value} {io io' : Obj} (hh : A.handled = none) (F : Fr h₀ L s.heap m) (N : News h₀ L s.heap news) (U : Upd it io io' news news') (hl : s.heap.IsList V vs) (hx : Ends V vs io io')
    (h : ∀ h₁ h' e, Fr h₀ L h₁ m → News h₀ L h₁ news' → Heap.NewExc h₁ h' e "StopIteration" → E (.ref e) { s with heap := h' }) : wpAny (model prog w) A (call (.builtin "next") [.ref it]) Q E s := by
  obtain ⟨i, ⟨rfl, hx, rfl⟩ | ⟨rfl, rfl⟩⟩ := hx
  · exact next_end hh F N U hl hx h
  · have e := upd_same U
    exact next_done hh N (upd_mem U) fun h' e' x => h _ h' e' F (e ▸ N) x
end
end

section
open PySem PySem.W PyProof.Rows PySem.Calls PySem.Spec
abbrev frs (l : List Env) : List Addr := l.filterMap (·.frame)
/-- the ground g of a frame beside the heap H at its call: all but `own` stands there, the frames' dicts up to their slots -/
def Gs (fs : List Addr) (own : List (Addr × Obj)) (H g : Heap) : Prop :=
  (∀ b o, H.get? b = some o → b ∉ own.map (·.1) → b ∉ fs → g.get? b = some o) ∧ ∀ b o, H.get? b = some o → b ∈ fs → ∃ sl, g.get? b = some { o with slots := sl }
def PostS (fs : List Addr) (own upd new : List (Addr × Obj)) (h h' : Heap) : Prop :=
  Gs fs own h h' ∧ (∀ p ∈ upd, h'.get? p.1 = some p.2) ∧ ∀ p ∈ new, h'.get? p.1 = some p.2 ∧ h.get? p.1 = none
/-- a StopIteration flies -/
def Raised (own upd : List (Addr × Obj)) (l : List Env) (e : Addr) (H h' : Heap) : Prop :=
  ∃ B a0, (∀ b o, H.get? b = some o → b ∉ own.map (·.1) → b ∉ frs l → B.get? b = some o) ∧ (∀ p ∈ upd, B.get? p.1 = some p.2) ∧ Heap.FlyingW B l e (.type "StopIteration") a0 h' ∧
    ∀ b o, H.get? b = some o → b ∈ frs l → ∃ sl, h'.get? b = some { o with slots := sl }
theorem Raised.post {own upd : List (Addr × Obj)} {l : List Env} {e : Addr} {H h' : Heap} (R : Raised own upd l e H h') : PostS (frs l) own upd [] H h' := by
  obtain ⟨B, a0, h1, h2, h3, h4⟩ := R
  exact ⟨⟨fun b o e n m => h3.1 _ _ (h1 b o e n m), h4⟩, fun p hp => h3.1 _ _ (h2 p hp), fun _ hp => nomatch hp⟩
theorem Gs.turn {fs : List Addr} {own : List (Addr × Obj)} {H g g' : Heap} (x : Gs fs own H g) (T : KtsTurn fs g g') : Gs fs own H g' :=
  ⟨fun b o e n m => T.other b o (x.1 b o e n m) m, fun b o e m => by
    obtain ⟨s1, h1⟩ := x.2 b o e m
    obtain ⟨s2, h2⟩ := T.frame b _ h1 m
    exact ⟨s2, h2⟩⟩
theorem Gs.fresh {fs : List Addr} {own : List (Addr × Obj)} {H g : Heap} (x : Gs fs own H g) {b : Addr} (n : b ∉ own.map (·.1)) (e : g.get? b = none) : H.get? b = none := by
  cases q : H.get? b with
  | none => rfl
  | some o =>
    by_cases m : b ∈ fs
    · obtain ⟨sl, h⟩ := x.2 b o q m; rw [e] at h; cases h
    · have := x.1 b o q n m; rw [e] at this; cases this
theorem end_post {fs : List Addr} {own upd new news' : List (Addr × Obj)} {H g h' : Heap} {L : Addr} {m : Str → Option Value} (x : Gs fs own H g) (F : Fr g L h' m) (N : News g L h' news') (hu : SubL upd news') (hn : NewL own news' new) : PostS fs own upd new H h' :=
  ⟨⟨fun b o e n q => F.keep b o (x.1 b o e n q), fun b o e q => by obtain ⟨sl, h⟩ := x.2 b o e q; exact ⟨sl, F.keep _ _ h⟩⟩, fun p hp => (N p (hu.mem p hp)).1,
    fun p hp => ⟨(N p (hn.at p hp).1).1, x.fresh (not_mem_map (hn.at p hp).2) (N p (hn.at p hp).1).2.2⟩⟩
theorem Post.toS {own upd new : List (Addr × Obj)} {h h' : Heap} (x : Post own upd new h h') (fs : List Addr) : PostS fs own upd new h h' ∨ ∃ b ∈ fs, b ∈ own.map (·.1) := by
  by_cases q : ∃ b ∈ fs, b ∈ own.map (·.1)
  · exact .inr q
  · exact .inl ⟨⟨fun b o e n _ => x.1 b o e n, fun b o e m => ⟨o.slots, x.1 b o e fun z => q ⟨b, m, z⟩⟩⟩, x.2.1, x.2.2⟩

section
variable {prog : Program} {w : World} {A₀ A : Around} {E : Value → Shared → Prop} {s s' : Shared} {base h₀ g h G : Heap} {outer : List Env} {L a e : Addr} {m : Str → Option Value} {env : Env} {news news' own : List (Addr × Obj)} {K : Frag}
  {p : Program} {loose : List Str} {mean : ExcName → Option Value} {mg mb : Str → Option Value}
  {R : Result → Shared → Prop} {name qual : Str} {params : Arguments} {body : List Stmt} {scope : Scope} {dV kV doc pm cdv ct oc : Value} {an od : Option Addr} {osl : Array (Option Value)} {f : Addr} {args : Args} {binds : List (Str × Value)}

/-- a def of the text's is called: its own small ledger, what it ends with is what the call ends with -/
theorem enterT0 (B : Below A₀ base outer h₀) (F : Fr h₀ L s.heap m) (XB : K.In base) (N : News h₀ L s.heap own) (TB : Top p loose mean mg mb base) (hA : A.frames = some (env :: outer)) (hf : env.frame = some L) (hke : env.scope.kind = .function)
    (ho : K.lookup f = some ⟨oc, od, .func (fnOf name qual params body scope dV kV doc pm an cdv ct), osl⟩) (hcd : codeIn K cdv qual = true) (hroom : A.depth < recursionLimit)
    (hbind : BindsTo s (fnOf name qual params body scope dV kV doc pm an cdv ct) args binds) (hloc : ∀ y ∈ binds, scope.names.lookup y.1 = some .local)
    (h : ∀ g L' h₁, Fr g L' h₁ (fun y => binds.reverse.lookup y) → News g L' h₁ own → Below A base (env :: outer) g → K.In g → Top p loose mean mg mb g → Gs (frs (env :: outer)) own s.heap g → ∀ tk, s.toks + binds.length ≤ tk →
      wpAny (model prog w) (A.deeper (envOf qual scope L' f cdv)) (execs body (envOf qual scope L' f cdv))
        (fun fl s' => R (.ok (.ret (match fl with | .ret v => v | _ => .none))) s')
        (fun e s' => wpAny (model prog w) (A.deeper (envOf qual scope L' f cdv)) (leaving (envOf qual scope L' f cdv) e) (fun _ s'' => R (.error e) s'') (fun e' s'' => R (.error e') s'') s')
        { s with heap := h₁, toks := tk })
    (hco : scope.isCoroutine = false) (hgen : scope.isGenerator = false) (hk : scope.kind = .function)
    (hcell : ∀ x ∈ scope.names, x.2 ≠ .cell) : codeAny (model prog w) A (.call (.ref f) args) R s := by
  have X₀ : K.In h₀ := XB.keeps B.stays
  have T := TB.keeps B.stays
  obtain ⟨FG, BG, st, lv⟩ := groundX (R := R) B F N hA hf hke
  refine codeAny_call_def (fd := fnX name qual params body scope [] dV kV doc pm an cdv ct) (body := body) (binds := binds) hroom ((X₀.keeps F.keep) _ _ ho) rfl (T.nolimit.keeps F.keep) (codeRec_of (X₀.keeps F.keep) hcd) rfl hbind hcell hloc (fun h₁ hns hk₁ => ?_) hco hgen hk
  refine h _ s.heap.objs.size h₁ ⟨hns, fun b o e => hk₁ b o (of_hideAll _ e), Nat.le_of_eq (hideAll_size _ _)⟩
    (fun p hp => ⟨hk₁ _ _ (N p hp).1, Nat.ne_of_lt (Heap.lt_size (N p hp).1), hideAll_none _ (List.mem_map_of_mem hp)⟩) BG (X₀.keeps st) (T.keeps st) ⟨fun b o e n _ => hideAll_get _ e n, fun b o e hm => ⟨o.slots, ?_⟩⟩ _ (Nat.le_refl _)
  refine hideAll_get _ e fun q => ?_
  obtain ⟨o', ho', _⟩ := (BG.frames.mem hm).2
  rw [hideAll_none _ q] at ho'
  cases ho'

/-- the same, whatever the tokens -/
theorem enterT (B : Below A₀ base outer h₀) (F : Fr h₀ L s.heap m) (XB : K.In base) (N : News h₀ L s.heap own) (TB : Top p loose mean mg mb base) (hA : A.frames = some (env :: outer)) (hf : env.frame = some L) (hke : env.scope.kind = .function)
    (ho : K.lookup f = some ⟨oc, od, .func (fnOf name qual params body scope dV kV doc pm an cdv ct), osl⟩) (hcd : codeIn K cdv qual = true) (hroom : A.depth < recursionLimit)
    (hbind : BindsTo s (fnOf name qual params body scope dV kV doc pm an cdv ct) args binds) (hloc : ∀ y ∈ binds, scope.names.lookup y.1 = some .local)
    (h : ∀ g L' h₁, Fr g L' h₁ (fun y => binds.reverse.lookup y) → News g L' h₁ own → Below A base (env :: outer) g → K.In g → Top p loose mean mg mb g → Gs (frs (env :: outer)) own s.heap g → ∀ tk,
      wpAny (model prog w) (A.deeper (envOf qual scope L' f cdv)) (execs body (envOf qual scope L' f cdv))
        (fun fl s' => R (.ok (.ret (match fl with | .ret v => v | _ => .none))) s')
        (fun e s' => wpAny (model prog w) (A.deeper (envOf qual scope L' f cdv)) (leaving (envOf qual scope L' f cdv) e) (fun _ s'' => R (.error e) s'') (fun e' s'' => R (.error e') s'') s')
        { s with heap := h₁, toks := tk })
    (hco : scope.isCoroutine = false) (hgen : scope.isGenerator = false) (hk : scope.kind = .function)
    (hcell : ∀ x ∈ scope.names, x.2 ≠ .cell) : codeAny (model prog w) A (.call (.ref f) args) R s :=
  enterT0 B F XB N TB hA hf hke ho hcd hroom hbind hloc (fun g L' h₁ a1 a2 a3 a4 a5 a6 tk _ => h g L' h₁ a1 a2 a3 a4 a5 a6 tk) hco hgen hk hcell
/-- what the binder that allocates one tuple does -/
theorem peek1_push {α : Type} {K : Frag} {M : Model} {A : Around} {E : Value → Shared → Prop} {Q : α → Shared → Prop} {s : Shared} {o : Obj} {r : Addr → α} (X : K.In s.heap) (q : Q (r s.heap.objs.size) { s with heap := s.heap.push o }) :
    ∀ (t : Sem α) (g : Addr → Option α), peek1 K ⟨M.prog, M.w.params⟩ t = some (o, g) → (∀ D, g D = some (r D)) → wpAny M A t Q E s := by
  intro t
  induction t <;> intro g e hg
  case rule ih => exact fun Γ p hΓ => ih () g e hg Γ p hΓ
  case point ih => exact fun Γ p hΓ => ih () g e hg Γ p hΓ
  case ask ih => exact fun Γ p hΓ => ih _ g e hg Γ p hΓ
  case load a _ k ih =>
    unfold peek1 at e
    cases ha : K.lookup a with
    | none => rw [ha] at e; cases e
    | some ob => rw [ha] at e; exact fun Γ p hΓ => ⟨ob, X _ _ ha, ih ob g e hg Γ p hΓ⟩
  case alloc ob k _ =>
    cases Option.some.inj e
    exact wpAny_bind (m := alloc o) (wpAny_alloc ((Looks.of_peek (M := M) (h := s.heap.push o) (X.keeps fun _ _ y => Heap.get?_push_of_some _ y) (hg s.heap.objs.size)).here (s := { s with heap := s.heap.push o }) q))
  all_goals cases e
/-- a def that takes the rest of its arguments as a tuple -/
theorem enterS {vs : List Value} {g₁ : Addr → Option (List (Str × Value))} {bn : Addr → List (Str × Value)} (B : Below A₀ base outer h₀) (F : Fr h₀ L s.heap m) (XB : K.In base) (N : News h₀ L s.heap own) (TB : Top p loose mean mg mb base) (hA : A.frames = some (env :: outer)) (hf : env.frame = some L) (hke : env.scope.kind = .function)
    (ho : K.lookup f = some ⟨oc, od, .func (fnOf name qual params body scope dV kV doc pm an cdv ct), osl⟩) (hcd : codeIn K cdv qual = true) (hroom : A.depth < recursionLimit)
    (hp : peek1 K ⟨prog, w.params⟩ (bindArgs (fnOf name qual params body scope dV kV doc pm an cdv ct) args) = some (({ cls := .type "tuple", data := .seq vs.toArray } : Obj), g₁))
    (hg : ∀ D, g₁ D = some (bn D)) (hloc : ∀ D, ∀ y ∈ bn D, scope.names.lookup y.1 = some .local)
    (h : ∀ D g L' h₁, (∀ p ∈ own, p.1 < D) → Fr g L' h₁ (fun y => (bn D).reverse.lookup y) → News g L' h₁ ((D, ({ cls := .type "tuple", data := .seq vs.toArray } : Obj)) :: own) → Below A base (env :: outer) g → K.In g → Top p loose mean mg mb g → Gs (frs (env :: outer)) own s.heap g → ∀ tk,
      wpAny (model prog w) (A.deeper (envOf qual scope L' f cdv)) (execs body (envOf qual scope L' f cdv))
        (fun fl s' => R (.ok (.ret (match fl with | .ret v => v | _ => .none))) s')
        (fun e s' => wpAny (model prog w) (A.deeper (envOf qual scope L' f cdv)) (leaving (envOf qual scope L' f cdv) e) (fun _ s'' => R (.error e) s'') (fun e' s'' => R (.error e') s'') s')
        { s with heap := h₁, toks := tk })
    (hco : scope.isCoroutine = false) (hgen : scope.isGenerator = false) (hk : scope.kind = .function)
    (hcell : ∀ x ∈ scope.names, x.2 ≠ .cell) : codeAny (model prog w) A (.call (.ref f) args) R s := by
  have X₀ : K.In h₀ := XB.keeps B.stays
  have T := TB.keeps B.stays
  obtain ⟨FG, BG, st, lv⟩ := groundX (R := R) B F N hA hf hke
  refine codeAny_call_function (fd := fnX name qual params body scope [] dV kV doc pm an cdv ct) (body := body) hroom ((X₀.keeps F.keep) _ _ ho) rfl hco hgen rfl (codeRec_of (X₀.keeps F.keep) hcd) ?_
  refine peek1_push (o := ({ cls := .type "tuple", data := .seq vs.toArray } : Obj)) (X₀.keeps F.keep) (r := bn) ?_ _ g₁ hp hg
  have k₀ : ∀ b o, s.heap.get? b = some o → (s.heap.push ({ cls := .type "tuple", data := .seq vs.toArray } : Obj)).get? b = some o := fun b o e => Heap.get?_push_of_some _ e
  refine wpAny_newFunctionEnv hcell (hloc _) (fun h₁ hns hsb => ⟨(T.nolimit.keeps (fun b o e => k₀ b o (F.keep b o e))).fresh _ hsb, codeAny_func ?_⟩) hk
  have hk₁ : ∀ b o, (s.heap.push _).get? b = some o → h₁.get? b = some o := fun b o e => hsb.extBut b o (Nat.ne_of_lt (Heap.lt_size e)) (Heap.get?_push_of_some _ e)
  have z : s.heap.objs.size < (s.heap.push ({ cls := .type "tuple", data := .seq vs.toArray } : Obj)).objs.size := by rw [Heap.size_push]; exact Nat.lt_succ_self _
  refine h s.heap.objs.size _ (s.heap.push _).objs.size h₁ (fun p hp => Heap.lt_size (N p hp).1) ⟨hns, fun b o e => hk₁ b o (k₀ b o (of_hideAll _ e)), by rw [hideAll_size]; exact Nat.le_of_lt z⟩
    (fun p hp => ?_) BG (X₀.keeps st) (T.keeps st) ⟨fun b o e n _ => hideAll_get _ e n, fun b o e hm => ⟨o.slots, ?_⟩⟩ _
  · rcases List.mem_cons.mp hp with rfl | hp
    · refine ⟨hk₁ _ _ (Heap.get?_push_size _ rfl), Nat.ne_of_lt z, ?_⟩
      cases q : (hideAll s.heap (own.map (·.1))).get? s.heap.objs.size with
      | none => rfl
      | some o => exact absurd (Heap.lt_size (of_hideAll _ q)) (Nat.lt_irrefl _)
    · exact ⟨hk₁ _ _ (k₀ _ _ (N p hp).1), Nat.ne_of_lt (Nat.lt_trans (Heap.lt_size (N p hp).1) z), hideAll_none _ (List.mem_map_of_mem hp)⟩
  · refine hideAll_get _ e fun q => ?_
    obtain ⟨o', ho', _⟩ := (BG.frames.mem hm).2
    rw [hideAll_none _ q] at ho'
    cases ho'
/-- what a body's flow gives back -/
def flowVal : Flow → Value
  | .ret v => v
  | _ => .none
theorem enterC (B : Below A₀ base outer h₀) (F : Fr h₀ L s.heap m) (XB : K.In base) (N : News h₀ L s.heap own) (TB : Top p loose mean mg mb base) (hA : A.frames = some (env :: outer)) (hf : env.frame = some L) (hke : env.scope.kind = .function)
    (ho : K.lookup f = some ⟨oc, od, .func (fnOf name qual params body scope dV kV doc pm an cdv ct), osl⟩) (hcd : codeIn K cdv qual = true) (hroom : A.depth < recursionLimit)
    (hbind : BindsTo s (fnOf name qual params body scope dV kV doc pm an cdv ct) ⟨pos, kw⟩ binds) (hloc : ∀ y ∈ binds, scope.names.lookup y.1 = some .local)
    (h : ∀ g L' h₁, Fr g L' h₁ (fun y => binds.reverse.lookup y) → News g L' h₁ own → Below A base (env :: outer) g → K.In g → Top p loose mean mg mb g → Gs (frs (env :: outer)) own s.heap g → ∀ tk,
      wpAny (model prog w) (A.deeper (envOf qual scope L' f cdv)) (execs body (envOf qual scope L' f cdv))
        (fun fl s' => Q (flowVal fl) s')
        (fun e s' => wpAny (model prog w) (A.deeper (envOf qual scope L' f cdv)) (leaving (envOf qual scope L' f cdv) e) (fun _ => E e) E s')
        { s with heap := h₁, toks := tk })
    (hco : scope.isCoroutine = false) (hgen : scope.isGenerator = false) (hk : scope.kind = .function)
    (hcell : ∀ x ∈ scope.names, x.2 ≠ .cell) : wpAny (model prog w) A (call (.ref f) pos kw) Q E s :=
  wpAny_call (enterT B F XB N TB hA hf hke ho hcd hroom hbind hloc h hco hgen hk hcell)
theorem frs_mem {b : Addr} (hf : env.frame = some L) (hm : b ∈ frs (env :: outer)) : b = L ∨ b ∈ frs outer := by
  obtain ⟨env', he, hf'⟩ := List.mem_filterMap.mp hm
  rcases List.mem_cons.mp he with rfl | he
  · exact .inl (Option.some.inj (hf.symm.trans hf')).symm
  · exact .inr (List.mem_filterMap.mpr ⟨env', he, hf'⟩)
theorem frs_sub {b : Addr} (hm : b ∈ frs outer) : b ∈ frs (env :: outer) := by
  obtain ⟨env', he, hf'⟩ := List.mem_filterMap.mp hm
  exact List.mem_filterMap.mpr ⟨env', .tail _ he, hf'⟩
theorem frs_head (hf : env.frame = some L) : L ∈ frs (env :: outer) := List.mem_filterMap.mpr ⟨env, .head _, hf⟩

/-- the ground behind a call that may have marked the frames -/
theorem after_callS {own upd new rest : List (Addr × Obj)} {h h' : Heap} (K : Below A₀ base outer h₀) (F : Fr h₀ L h m) (N : News h₀ L h news) (hf : env.frame = some L) (P : PostS (frs (env :: outer)) own upd new h h') (hown : SubL own news)
    (hupd : upd.map (·.1) = own.map (·.1)) (hrest : NewL own news rest) :
    ∃ g', KtsTurn (frs outer) h₀ g' ∧ Fr g' L h' m ∧ News g' L h' (new ++ (rest ++ upd)) ∧ Below A₀ base outer g' ∧ ∀ p ∈ new, AllNe p.1 news := by
  obtain ⟨⟨P1, P2⟩, U, W⟩ := P
  have own0 : ∀ b, b ∈ own.map (·.1) → h₀.get? b = none ∧ b ≠ L := fun b q => by
    obtain ⟨r, hr, e⟩ := List.mem_map.mp q
    exact e ▸ ⟨(N _ (hown.mem r hr)).2.2, (N _ (hown.mem r hr)).2.1⟩
  have nL : h₀.get? L = none := kts_self F
  have dat : ∀ b o, b ∈ frs outer → h₀.get? b = some o → ∀ vs, o.data ≠ .fields vs := fun b o hm e => by
    obtain ⟨_, o', ho', hd⟩ := K.frames.mem hm
    rw [e] at ho'; cases ho'
    exact hd
  obtain ⟨T, S⟩ := kts_turn_at (h := h') (fs := frs outer) (g := h₀)
    (fun b hb => by obtain ⟨_, o, ho, _⟩ := K.frames.mem hb; exact ⟨o, ho⟩)
    (fun b o e nm => P1 b o (F.keep b o e) (fun q => by rw [(own0 b q).1] at e; cases e) fun hm => by
      rcases frs_mem hf hm with z | z
      · rw [z, nL] at e; cases e
      · exact nm z)
    (fun b o e hm => P2 b o (F.keep b o e) (frs_sub hm))
  obtain ⟨oL, es, ep, hl, r⟩ := F.ns
  obtain ⟨sL, hlL⟩ := P2 L oL hl (frs_head hf)
  have F' : Fr (ktsHeap h' (frs outer) h₀) L h' m := ⟨⟨_, es, ep, hlL, r⟩, S, by rw [T.size]; exact F.above⟩
  have stay : ∀ p ∈ rest, h'.get? p.1 = some p.2 := fun p hp => P1 _ _ (N p (hrest.at p hp).1).1 (not_mem_map (hrest.at p hp).2) fun hm => by
    rcases frs_mem hf hm with z | z
    · exact (N p (hrest.at p hp).1).2.1 z
    · obtain ⟨_, o, ho, _⟩ := K.frames.mem z
      rw [(N p (hrest.at p hp).1).2.2] at ho; cases ho
  refine ⟨_, T, F', fun p hp => ?_, ⟨K.stack, fun b o e => T.other b o (K.stays b o e) (fun hm => by rw [(K.frames.mem hm).1] at e; cases e), K.frames.of_keeps fun b o e _ => ?_⟩, fun p hp => AllNe.of fun q hq e => ?_⟩
  · rcases List.mem_append.mp hp with hp | hp
    · refine ⟨(W p hp).1, fun q => ?_, ?_⟩
      · have := (W p hp).2; rw [q, hl] at this; cases this
      · refine T.none_ _ ?_
        cases q : h₀.get? p.1 with
        | none => rfl
        | some o => have := F.keep _ _ q; rw [(W p hp).2] at this; cases this
    · rcases List.mem_append.mp hp with hp | hp
      · exact ⟨stay p hp, (N p (hrest.at p hp).1).2.1, T.none_ _ (N p (hrest.at p hp).1).2.2⟩
      · have : p.1 ∈ own.map (·.1) := by rw [← hupd]; exact List.mem_map_of_mem hp
        exact ⟨U p hp, (own0 _ this).2, T.none_ _ (own0 _ this).1⟩
  · obtain ⟨sl, hs⟩ := T.up e
    exact ⟨_, hs, rfl⟩
  · have := (N q hq).1; rw [e, (W p hp).2] at this; cases this
end
end

section
open PySem PySem.W PyProof.Rows PySem.Calls PySem.Spec
section
variable {M : Model} {prog : Program} {w : World} {A₀ A : Around} {E : Value → Shared → Prop} {s s' : Shared} {base h₀ g h G H : Heap} {outer : List Env} {L a e : Addr} {m : Str → Option Value} {env : Env} {news news' own upd own₁ upd₁ : List (Addr × Obj)} {K : Frag}
  {p : Program} {loose : List Str} {mean : ExcName → Option Value} {mg mb : Str → Option Value} {name : Str} {scope : Scope} {cd : Value}

/-- what a new exception flies over -/
theorem new_flies (B : Below A₀ base outer g) (F : Fr g L h m) (N : News g L h news) (hx : Heap.NewExc h s'.heap e "StopIteration") (hk : scope.kind = .function) :
    let B' := hideAll h (frs (envOf name scope L a cd :: outer))
    (A₀.deeper (envOf name scope L a cd)).frames = some (envOf name scope L a cd :: outer) ∧ s'.heap.FunFrames B' (envOf name scope L a cd :: outer) ∧ B'.StaysIn s'.heap ∧ B'.get? e = none ∧ (∀ p ∈ news, B'.get? p.1 = some p.2) ∧
      (∀ b o, h.get? b = some o → b ∉ frs (envOf name scope L a cd :: outer) → B'.get? b = some o) := by
  intro B'
  have K' := B.push (name := name) (a := a) (cd := cd) F hk
  have hin : ∀ env ∈ (envOf name scope L a cd :: outer), ∀ b, env.frame = some b → b ∈ frs (envOf name scope L a cd :: outer) := fun env he b hb => List.mem_filterMap.mpr ⟨env, he, hb⟩
  refine ⟨K'.stack, (funFrames_hide K'.frames hin).of_keeps fun b o hb _ => ⟨o, hx.keeps b o hb, rfl⟩, fun b o hb => hx.keeps b o (of_hideAll _ hb), ?_, fun q hq => hideAll_get _ (N q hq).1 fun hm => ?_, fun b o e n => hideAll_get _ e n⟩
  · cases q : B'.get? e with
    | none => rfl
    | some o => have := of_hideAll _ q; rw [hx.new] at this; cases this
  · rcases frs_mem (env := envOf name scope L a cd) rfl hm with z | z
    · exact (N q hq).2.1 z
    · obtain ⟨o, ho, _⟩ := (B.frames.mem z).2
      rw [(N q hq).2.2] at ho; cases ho

theorem ground_up (G : Gs (frs outer) own H g) (B : Below A₀ base outer g) (F : Fr g L h m) {b : Addr} {o : Obj} (e : H.get? b = some o) (n : b ∉ own.map (·.1)) (q : b ∉ frs outer) : h.get? b = some o ∧ b ∉ frs (envOf name scope L a cd :: outer) := by
  have z := G.1 b o e n q
  refine ⟨F.keep _ _ z, fun hm => ?_⟩
  rcases frs_mem (env := envOf name scope L a cd) rfl hm with y | y
  · rw [y, kts_self F] at z; cases z
  · exact q y

/-- a new StopIteration leaves its frame -/
theorem leave_newT (B : Below A₀ base outer g) (G : Gs (frs outer) own H g) (F : Fr g L h m) (N : News g L h news) (hx : Heap.NewExc h s'.heap e "StopIteration") (hu : SubL upd news) {Q : Unit → Shared → Prop}
    (hQ : ∀ h', Raised own upd outer e H h' → Q () { s' with heap := h' }) (hk : scope.kind = .function := by rfl) :
    wpAny M (A₀.deeper (envOf name scope L a cd)) (leaving (envOf name scope L a cd) (.ref e)) Q E s' := by
  obtain ⟨f1, f2, f3, f4, f5, f6⟩ := new_flies (name := name) (a := a) (cd := cd) B F N hx hk
  obtain ⟨ob, tp, he, hcls, hd⟩ := hx.there
  refine wpAny_leaving_firstW (a0 := tp) f1 f2 rfl he f3 f4 hd rfl rfl fun h' hL => ?_
  obtain ⟨k1, ⟨_, _, k2⟩, k3, k4⟩ := hL
  refine hQ h' ⟨_, tp, fun b o e n q => ?_, fun p hp => f5 p (hu.mem p hp), ⟨k1, f4, k2, by rw [← hcls]; exact k3⟩, fun b o e q => ?_⟩
  · obtain ⟨z1, z2⟩ := ground_up (name := name) (scope := scope) (a := a) (cd := cd) G B F e n q
    exact f6 b o z1 z2
  · obtain ⟨sl, hs⟩ := G.2 b o e q
    obtain ⟨o', ho', hd'⟩ := (B.frames.mem q).2
    rw [hs] at ho'; cases ho'
    exact (k4 b _ (hx.keeps _ _ (F.keep _ _ hs)) hd').imp fun sl h => h

/-- one that a callee raised passes a frame -/
theorem leave_onT (B : Below A₀ base outer g) (G : Gs (frs outer) own H g) (F : Fr g L h m) (N : News g L h news) (R : Raised own₁ upd₁ (envOf name scope L a cd :: outer) e h s'.heap) (ho : SubL own₁ news)
    (hu : ∀ p ∈ upd, p ∈ upd₁ ∨ (p ∈ news ∧ AllNe p.1 own₁)) {Q : Unit → Shared → Prop} (hQ : ∀ h', Raised own upd outer e H h' → Q () { s' with heap := h' }) :
    wpAny M (A₀.deeper (envOf name scope L a cd)) (leaving (envOf name scope L a cd) (.ref e)) Q E s' := by
  obtain ⟨B', a0, r1, r2, r3, r4⟩ := R
  refine wpAny_leaves_onW (Around.frames_deeper B.stack) rfl r3 fun h' x1 x2 => hQ h' ⟨B', a0, fun b o e n q => ?_, fun p hp => ?_, x1, fun b o e q => ?_⟩
  · obtain ⟨z1, z2⟩ := ground_up (name := name) (scope := scope) (a := a) (cd := cd) G B F e n q
    refine r1 b o z1 (fun y => ?_) z2
    obtain ⟨r, hr, er⟩ := List.mem_map.mp y
    have := (N _ (ho.mem r hr)).2.2
    rw [er, G.1 b o e n q] at this; cases this
  · rcases hu p hp with y | ⟨y, z⟩
    · exact r2 p y
    · refine r1 _ _ (N p y).1 (not_mem_map z) fun hm => ?_
      rcases frs_mem (env := envOf name scope L a cd) rfl hm with q | q
      · exact (N p y).2.1 q
      · obtain ⟨o, ho, _⟩ := (B.frames.mem q).2
        rw [(N p y).2.2] at ho; cases ho
  · obtain ⟨sl, hs⟩ := G.2 b o e q
    obtain ⟨o', ho', hd'⟩ := (B.frames.mem q).2
    rw [hs] at ho'; cases ho'
    obtain ⟨s2, h2⟩ := r4 b _ (F.keep _ _ hs) (frs_sub q)
    exact (x2 b _ h2 hd').imp fun sl h => h

/-- the machine's own look: is it a StopIteration -/
theorem stopT {l : List Env} {Q : Option Value → Shared → Prop} (R : Raised own upd l e H s'.heap) (k : PostS (frs l) own upd [] H s'.heap → Q none s') : OwitStop M A Q E (.ref e) s' := by
  obtain ⟨ob, hob, hc⟩ : ∃ ob, s'.heap.get? e = some ob ∧ ob.cls = .type "StopIteration" := by
    obtain ⟨B, a0, _, _, h3, _⟩ := R
    exact h3.there
  unfold OwitStop
  refine wpAny_isInstance (T := "StopIteration") ⟨ob, hob, hc⟩ isSubtype_stop ?_
  show (if true = true then Q none s' else E (.ref e) s')
  rw [if_pos rfl]
  exact k R.post

theorem noteFrame_firstW {oe : Obj} {vs : Array Value} {a0 : Value} {Q : Unit → Shared → Prop}
    (hfr : A.frames = some (env :: outer)) (hl : s.heap.FunFrames base (env :: outer)) (hf : env.frame = some L)
    (he : s.heap.get? e = some oe) (hkb : base.StaysIn s.heap) (hen : base.get? e = none) (hd : oe.data = .fields vs) (h1 : vs[1]? = some .none) (h0 : vs[0]? = some a0)
    (h : ∀ h', Heap.NotedW base (env :: outer) e oe.cls a0 (rawInt L) s.heap h' → Q () { s with heap := h' }) : wpAny M A (noteFrame (.ref e) env) Q E s := by
  unfold noteFrame
  simp only [hf]
  refine wpAny_bind (wpAny_field he hd h1 ?_)
  rw [if_neg (by decide)]
  exact wpAny_entryW hfr hl hf he hkb hen hd (Array.getElem?_eq_some_iff.mp h1).1 h0 h

theorem stop_isExc : isSubtype (.type "StopIteration") (.type "BaseException") = pure true := by rw [isSubtype_type]; kernel_rfl
theorem stop_notTuple : isSubtype (.type ((Manifest.find? "StopIteration").elim "type" fun y => y.metatype)) (.type "tuple") = pure false := by
  rw [show ((Manifest.find? "StopIteration").elim "type" fun x => x.metatype) = "type" from by kernel_rfl, isSubtype_type]; kernel_rfl

/-- a new StopIteration is caught by its own frame's try -/
theorem caught_newT {b₀ : Stmt} {suite : List Stmt} {pos np : Pos} {rest : List ExceptHandler} {Q : Flow → Shared → Prop}
    (B : Below A₀ base outer g) (F : Fr g L h m) (N : News g L h news) (hx : Heap.NewExc h s'.heap e "StopIteration") (XB : K.In base) (TB : Top p loose mean mg mb base)
    (ex : nsIn K mainGlobals "StopIteration" = some none)
    (k : ∀ h' g', KtsTurn (frs outer) g g' → Fr g' L h' m → News g' L h' news → Below A₀ base outer g' → K.In g' → Top p loose mean mg mb g' →
      wpAny (model prog w) ((A₀.deeper (envOf name scope L a cd)).mark (some (.ref e))) (execs (b₀ :: suite) (envOf name scope L a cd)) Q E { s' with heap := h' })
    (hk : scope.kind = .function := by rfl) (hx' : (envOf name scope L a cd).kindOf "StopIteration" = some .globalImplicit := by rfl)
    (hE : PassesOwnAt (model prog w) ((A₀.deeper (envOf name scope L a cd)).mark (some (.ref e))) (A₀.deeper (envOf name scope L a cd)) (envOf name scope L a cd) E := by passes_own) :
    wpAny (model prog w) (A₀.deeper (envOf name scope L a cd)) (noteFrame (.ref e) (envOf name scope L a cd))
      (fun _ s₂ => wpAny (model prog w) (A₀.deeper (envOf name scope L a cd)) (setFlight (.ref e) none) (fun _ s₃ =>
        wpAny (model prog w) (A₀.deeper (envOf name scope L a cd)) (handleBy (.ref e) (envOf name scope L a cd) (.ExceptHandler (some (.Name "StopIteration" np)) none (b₀ :: suite) pos :: rest)) Q E s₃) E s₂) E s' := by
  obtain ⟨f1, f2, f3, f4, f5, f6⟩ := new_flies (name := name) (a := a) (cd := cd) B F N hx hk
  obtain ⟨ob, tp, he, hcls, hd⟩ := hx.there
  refine noteFrame_firstW (a0 := tp) f1 f2 rfl he f3 f4 hd rfl rfl fun h₄ hN => ?_
  obtain ⟨n1, n2, n3, n4⟩ := hN
  rw [hcls] at n3
  refine wpAny_landsW ⟨n1, f4, n2, n3⟩ fun h₅ hheld hsm₅' => ?_
  have hsm₅ : h.UpToSlots h₅ := (Heap.UpToSlots.of_keeps hx.keeps).trans (Heap.UpToSlots.trans n4 hsm₅')
  obtain ⟨g₅, T₅, F₅, K₅⟩ := kts_ground B F f6 hheld.1 hsm₅
  obtain ⟨ob', hob, hobc⟩ := hheld.there
  refine wpAny_handleBy_builtin (X := "StopIteration") (T := "StopIteration") (b := true) stop_isExc stop_notTuple isSubtype_stop (name_B F₅ (XB.keeps K₅.stays) (topRead_of (TB.keeps K₅.stays)) ex PyProof.Rows.Boot.«StopIteration» (by decide +kernel) ⟨rfl, ⟨ob', hob, hobc⟩, ?_⟩ hk hx' (by decide))
  refine lands_againW hheld fun h₆ hfl₆ hsm₆ => ?_
  obtain ⟨g₆, T₆, F₆, K₆⟩ := kts_ground B F f6 hfl₆.1 (hsm₅.trans hsm₆)
  refine wpAny_passesOwnAt hE (k h₆ g₆ T₆ F₆ (fun q hq => ⟨hfl₆.1 _ _ (f5 q hq), (N q hq).2.1, T₆.none_ _ (N q hq).2.2⟩) K₆ (XB.keeps K₆.stays) (TB.keeps K₆.stays))
end
theorem sub_l {own all : List (Addr × Obj)} (h : ∀ p ∈ own, p ∈ all) : SubL own all := by
  induction own with
  | nil => exact trivial
  | cons a r ih => exact ⟨h _ (.head _), ih fun p hp => h p (.tail _ hp)⟩
theorem new_l {own all : List (Addr × Obj)} : ∀ {l : List (Addr × Obj)}, (∀ p ∈ l, p ∈ all ∧ AllNe p.1 own) → NewL own all l
  | [], _ => trivial
  | _ :: _, h => ⟨h _ (.head _), new_l fun p hp => h p (.tail _ hp)⟩
theorem end_one {fs : List Addr} {own upd news' : List (Addr × Obj)} {q : Addr × Obj} {H g h' : Heap} {L : Addr} {m : Str → Option Value} (x : Gs fs own H g) (F : Fr g L h' m) (N : News g L h' news') (hu : ∀ p ∈ upd, p ∈ news') (hn : q ∈ news') (ha : AllNe q.1 own) : PostS fs own upd [q] H h' :=
  end_post x F N (sub_l hu) ⟨⟨hn, ha⟩, trivial⟩
theorem end_none {fs : List Addr} {own upd news' : List (Addr × Obj)} {H g h' : Heap} {L : Addr} {m : Str → Option Value} (x : Gs fs own H g) (F : Fr g L h' m) (N : News g L h' news') (hu : ∀ p ∈ upd, p ∈ news') : PostS fs own upd [] H h' :=
  end_post x F N (sub_l hu) trivial
/-- behind a call that made nothing that is kept | one object -/
theorem behind0 {A₀ : Around} {base h₀ h h' : Heap} {outer : List Env} {env : Env} {L : Addr} {m : Str → Option Value} {own upd news rest : List (Addr × Obj)} (B : Below A₀ base outer h₀) (F : Fr h₀ L h m) (N : News h₀ L h news) (hf : env.frame = some L) (P : PostS (frs (env :: outer)) own upd [] h h') (hown : ∀ p ∈ own, p ∈ news)
    (hupd : upd.map (·.1) = own.map (·.1)) (hrest : ∀ p ∈ rest, p ∈ news ∧ AllNe p.1 own) : ∃ g', KtsTurn (frs outer) h₀ g' ∧ Fr g' L h' m ∧ News g' L h' (rest ++ upd) ∧ Below A₀ base outer g' := by
  obtain ⟨g', a, b, c, d, _⟩ := after_callS B F N hf P (sub_l hown) hupd (new_l hrest)
  exact ⟨g', a, b, c, d⟩
theorem behind1 {A₀ : Around} {base h₀ h h' : Heap} {outer : List Env} {env : Env} {L : Addr} {m : Str → Option Value} {own upd news rest : List (Addr × Obj)} {q : Addr × Obj} (B : Below A₀ base outer h₀) (F : Fr h₀ L h m) (N : News h₀ L h news) (hf : env.frame = some L) (P : PostS (frs (env :: outer)) own upd [q] h h') (hown : ∀ p ∈ own, p ∈ news)
    (hupd : upd.map (·.1) = own.map (·.1)) (hrest : ∀ p ∈ rest, p ∈ news ∧ AllNe p.1 own) : ∃ g', KtsTurn (frs outer) h₀ g' ∧ Fr g' L h' m ∧ News g' L h' (q :: (rest ++ upd)) ∧ Below A₀ base outer g' ∧ AllNe q.1 news := by
  obtain ⟨g', a, b, c, d, e⟩ := after_callS B F N hf P (sub_l hown) hupd (new_l hrest)
  exact ⟨g', a, b, c, d, e _ (.head _)⟩
theorem behindN {A₀ : Around} {base h₀ h h' : Heap} {outer : List Env} {env : Env} {L : Addr} {m : Str → Option Value} {own upd new news rest : List (Addr × Obj)} (B : Below A₀ base outer h₀) (F : Fr h₀ L h m) (N : News h₀ L h news) (hf : env.frame = some L) (P : PostS (frs (env :: outer)) own upd new h h') (hown : ∀ p ∈ own, p ∈ news)
    (hupd : upd.map (·.1) = own.map (·.1)) (hrest : ∀ p ∈ rest, p ∈ news ∧ AllNe p.1 own) : ∃ g', KtsTurn (frs outer) h₀ g' ∧ Fr g' L h' m ∧ News g' L h' (new ++ (rest ++ upd)) ∧ Below A₀ base outer g' ∧ ∀ p ∈ new, AllNe p.1 news :=
  after_callS B F N hf P (sub_l hown) hupd (new_l hrest)
theorem AllNe.sub {d : Addr} {l l' : List (Addr × Obj)} (h : AllNe d l) (k : ∀ p ∈ l', p ∈ l) : AllNe d l' := AllNe.of fun p hp => h.at p (k p hp)
theorem allNe_lt {d : Addr} : ∀ {l : List (Addr × Obj)}, AllLt d l → AllNe d l
  | [], _ => trivial
  | _ :: _, h => ⟨Nat.ne_of_lt h.1, allNe_lt h.2⟩
theorem made_new {h h' : Heap} {e : Addr} {cls : String} (x : Heap.MadeExc h h' e cls []) : Heap.NewExc h h' e cls :=
  ⟨x.keeps, x.new, by obtain ⟨t, ht, _⟩ := x.there; exact ⟨_, .ref t, ht, rfl, rfl⟩⟩
/-- an own class is called: the new object, its dict, then its __init__ -/
theorem call_clsP {prog : Program} {w : World} {A : Around} {E : Value → Shared → Prop} {s : Shared} {K : Frag} {C L fI : Addr} {h₀ : Heap} {m : Str → Option Value} {news : List (Addr × Obj)} {Q : Value → Shared → Prop} {pos : List Value} {kw : List (Str × Value)}
    (F : Fr h₀ L s.heap m) (X₀ : K.In h₀) (N : News h₀ L s.heap news) (hm : makesIn K C = true) (hi : findIn K (.ref C) "__init__" = some (some (.ref fI))) (hf : isFn K (.ref fI) = true)
    (h : ∀ x dx h', (∀ b o, s.heap.get? b = some o → h'.get? b = some o) → s.heap.get? x = none → s.heap.get? dx = none → Fr h₀ L h' m → News h₀ L h' ((x, instObj C dx) :: (dx, dictOf [] 0) :: news) → @Ne Nat dx x → AllNe x news → AllNe dx news →
      codeAny (model prog w) (A.under (.builtin "type.__call__" ⟨.ref C :: pos, kw⟩)) (.call (.ref fI) ⟨.ref x :: pos, kw⟩) (InitBack x fun r s' => match r with | .ok (.ret v) => Q v s' | .ok _ => False | .error e => E e s') { s with heap := h' }) :
    wpAny (model prog w) A (call (.ref C) pos kw) Q E s := wpAny_call (by
  have X := X₀.keeps F.keep
  obtain ⟨hh, g, d, t, os⟩ := s
  have N' := (N.push F emptyDict).push (F.push _) (instObj C hh.objs.size)
  rw [Heap.size_push] at N'
  refine make_core (makes_of X hm) (looks_findIn X hi) (fun self => bind_fn X self (beq_iff_eq.mp hf)) (.inl rfl) (h (hh.objs.size + 1) hh.objs.size _ (fun b o e => Heap.get?_push_of_some _ (Heap.get?_push_of_some _ e)) (Heap.get?_none_of_le (Nat.le_succ _)) (Heap.get?_none_of_le (Nat.le_refl _)) ((F.push _).push _) N' (Nat.ne_of_lt (Nat.lt_succ_self _))
    (AllNe.of fun p hp => Nat.ne_of_lt (Nat.lt_succ_of_lt (Heap.lt_size (N p hp).1))) (AllNe.of fun p hp => Nat.ne_of_lt (Heap.lt_size (N p hp).1))))
/-- a goal that the walk leaves to the hand -/
def Lv (P : Prop) : Prop := P
theorem Lv.in {P : Prop} (h : Lv P) : P := h
theorem news_sub {h₀ h : Heap} {L : Addr} {all own : List (Addr × Obj)} (N : News h₀ L h all) (hs : SubL own all) : News h₀ L h own := fun p hp => N p (hs.mem p hp)
/-- an object's address is none of those of another class -/
theorem off_cls {h₀ h : Heap} {L a : Addr} {o : Obj} {news rest : List (Addr × Obj)} (N : News h₀ L h news) (hm : (a, o) ∈ news) (hc : ClsOff o rest) (hs : SubL rest news) : AllNe a rest :=
  AllNe.of fun p hp e => by
    have h1 := (N _ hm).1
    have h2 := (N _ (hs.mem p hp)).1
    rw [e, h1] at h2
    exact hc.ne p hp (congrArg Obj.cls (Option.some.inj h2)).symm
/-- what a call did that first made an object -/
theorem PostS.of_new {fs : List Addr} {made own upd new upd' new' : List (Addr × Obj)} {h h1 h' : Heap} (k : ∀ b o, h.get? b = some o → h1.get? b = some o) (fx : ∀ p ∈ made, h.get? p.1 = none) (P : PostS fs (made ++ own) upd new h1 h')
    (hu : ∀ p ∈ upd', p ∈ upd ∨ p ∈ new) (hn : ∀ p ∈ new', (p ∈ upd ∧ h.get? p.1 = none) ∨ p ∈ new) : PostS fs own upd' new' h h' := by
  obtain ⟨⟨P1, P2⟩, U, W⟩ := P
  refine ⟨⟨fun b o e n m => P1 b o (k b o e) (fun q => ?_) m, fun b o e m => P2 b o (k b o e) m⟩, fun p hp => (hu p hp).elim (U p) fun z => (W p z).1, fun p hp => ?_⟩
  · rw [List.map_append] at q
    rcases List.mem_append.mp q with q | q
    · obtain ⟨r, hr, er⟩ := List.mem_map.mp q
      have := fx r hr; rw [er, e] at this; cases this
    · exact n q
  · rcases hn p hp with ⟨a, b⟩ | a
    · exact ⟨U p a, b⟩
    · refine ⟨(W p a).1, ?_⟩
      cases q : h.get? p.1 with
      | none => rfl
      | some o => have := k _ _ q; rw [(W p a).2] at this; cases this
/-- an own class was called: the object, its dict, and what its __init__ made -/
theorem PostS.of_obj {fs : List Addr} {x dx : Addr} {o1 o2 o3 o4 : Obj} {own upd new : List (Addr × Obj)} {h h1 h' : Heap} (k : ∀ b o, h.get? b = some o → h1.get? b = some o) (fx : h.get? x = none) (fd : h.get? dx = none)
    (P : PostS fs ((x, o1) :: (dx, o2) :: own) ((x, o3) :: (dx, o4) :: upd) new h1 h') : PostS fs own upd ((x, o3) :: (dx, o4) :: new) h h' :=
  PostS.of_new (made := [(x, o1), (dx, o2)]) k (List.forall_mem_cons.mpr ⟨fx, List.forall_mem_singleton.mpr fd⟩) P (fun p hp => .inl (.tail _ (.tail _ hp)))
    (List.forall_mem_cons.mpr ⟨.inl ⟨.head _, fx⟩, List.forall_mem_cons.mpr ⟨.inl ⟨.tail _ (.head _), fd⟩, fun p hp => .inr hp⟩⟩)
theorem method_slot {prog : Program} {w : World} {A : Around} {E : Value → Shared → Prop} {s : Shared} {K : Frag} {x C L p : Addr} {h₀ : Heap} {m : Str → Option Value} {ox od : Obj} {name : Str} {pl : Sem Bool} {Q : Value × List Value → Shared → Prop} (F : Fr h₀ L s.heap m) (X₀ : K.In h₀) (I : InstAt s.heap x ox C (some od)) (hg : plainGet K C name = true)
    (ha : findIn K (.ref C) name = some (some (.ref p))) (hT : typeIn K (.ref p) = some (.type "member_descriptor")) (h : wpAny (model prog w) A (getAttr (.ref x) name) (fun v => Q (v, [])) E s) : wpAny (model prog w) A (getMethod (.ref x) name pl) Q E s :=
  method_usual (X₀.keeps F.keep) I (plainGet_of hg).1 (plainGet_of hg).2 ha (by
    show ((typeIn K (.ref p)).any _) = true
    rw [hT]; decide +kernel) h
theorem ite_bne_self {P T : Prop} {x : Int} (h : T) : if (x != x) = true then P else T := by simpa using h
theorem room_of {dp j k R : Nat} (h : dp + k < R) (e : Nat.ble j k = true) : dp + j < R := Nat.lt_of_le_of_lt (Nat.add_le_add_left (Nat.le_of_ble_eq_true e) dp) h
abbrev tup2 (x y : Value) : Obj := { cls := .type "tuple", data := .seq #[x, y] }
abbrev tup1 (x : Value) : Obj := { cls := .type "tuple", data := .seq #[x] }
/-- a key of the walk at which it is to halt -/
inductive Halt : String → Prop
  | mk (s : String) : Halt s
end

section
open PySem PySem.W PyProof.Rows PySem.Calls PySem.Spec
/-- a source of values, drawn into the list `S`: `n` are left, `acc` are drawn -/
structure Src (prog : Program) (w : World) (A : Around) (I S : Addr) (St : Nat → List Value → Shared → Prop) (Fin : List Value → Shared → Prop) : Prop where
  step : ∀ n acc s o (Q : Option Value → Shared → Prop) E, St (n + 1) acc s → s.heap.get? S = some o → (∀ x s', St n (acc ++ [x]) s' → s'.heap.get? S = some o → Q (some x) s') → wpAny (model prog w) A (pyNext (.ref I)) Q E s
  fin : ∀ acc s o (Q : Option Value → Shared → Prop) E, St 0 acc s → s.heap.get? S = some o → (∀ s', Fin acc s' → s'.heap.get? S = some o → Q none s') → wpAny (model prog w) A (pyNext (.ref I)) Q E s
  upd : ∀ n acc s (f : Obj → Obj), St n acc s → St n acc { s with heap := s.heap.update S f }
  self : ∀ n acc s o (Q : Value → Shared → Prop) E, St n acc s → s.heap.get? S = some o → (∀ s', St n acc s' → s'.heap.get? S = some o → Q (.ref I) s') → wpAny (model prog w) A (pyIter (.ref I)) Q E s
  typ : ∃ tv, (tv == Value.type "list") = false ∧ (tv == Value.type "tuple") = false ∧ ∀ n acc s (Q : Value → Shared → Prop) E, St n acc s → Q tv s → wpAny (model prog w) A (typeOf (.ref I)) Q E s
  len : ∀ n acc s (Q : Option Value → Shared → Prop) E, St n acc s → Q none s → wpAny (model prog w) A (specialOf (.ref I) "__len__") Q E s
  hint : ∀ n acc s (Q : Option Value → Shared → Prop) E, St n acc s → Q none s → wpAny (model prog w) A (specialOf (.ref I) "__length_hint__") Q E s
  ne : S ≠ I
section
variable {prog : Program} {w : World} {A : Around} {E : Value → Shared → Prop} {s : Shared} {R : Result → Shared → Prop} {I S : Addr} {St : Nat → List Value → Shared → Prop} {Fin : List Value → Shared → Prop}
abbrev lsO (acc : Array Value) (c : Nat) : Obj := { cls := .type "list", data := .seq acc c }
theorem ext_loop (W : Src prog w A.in1 I S St Fin) (res : Value) : ∀ (n : Nat) (s : Shared) (acc : List Value) (c : Nat), St n acc s → s.heap.get? S = some (lsO acc.toArray c) → acc.length + n ≤ sizeLine →
    (∀ acc s' c', Fin acc s' → s'.heap.get? S = some (lsO acc.toArray c') → R (.ok (.ret res)) s') → codeAny (model prog w) A (.builtin "list.extend.loop" ⟨[.ref S, .ref I, res], []⟩) R s := by
  intro n
  induction n with
  | zero =>
    intro s acc c hst hS hz hR
    refine codeAny_builtin F.entry_extend_loop ?_
    rw [Around.under_plainId F.plain_extend_loop _]
    show wpAny _ A.in1 (pyNext (.ref I) >>= _) _ _ s
    exact wpAny_bind (W.fin acc s _ _ _ hst hS fun s' hf hs => wpAny_pure (hR acc s' c hf hs))
  | succ n ih =>
    intro s acc c hst hS hz hR
    refine codeAny_builtin F.entry_extend_loop ?_
    rw [Around.under_plainId F.plain_extend_loop _]
    show wpAny _ A.in1 (pyNext (.ref I) >>= _) _ _ s
    refine wpAny_bind (W.step n acc s _ _ _ hst hS fun x s' hst' hS' => ?_)
    show wpAny _ A.in1 (updateSeq S (·.push x) >>= _) _ _ _
    refine wpAny_bind (wpAny_updateSeq (hz := by rw [List.size_toArray]; exact Nat.le_trans (Nat.le_add_right _ _) hz) hS' rfl (wpAny_pure ⟨plainId_quiet F.plain_extend_loop _, ih _ (acc ++ [x]) _ (W.upd _ _ s' _ hst') ((Heap.get?_update_self _ hS' rfl).trans (by rw [Obj.mapSeq, List.push_toArray])) (by rw [List.length_append, List.length_singleton]; omega) hR⟩))
/-- `list(I)` and `collect` share this -/
theorem ext_with (W : Src prog w A.in1 I S St Fin) (res : Value) {n : Nat} {c : Nat} (hst : St n [] s) (hS : s.heap.get? S = some (lsO #[] c)) (hz : n ≤ sizeLine)
    (hR : ∀ xs s' c', Fin xs s' → s'.heap.get? S = some (lsO xs.toArray c') → R (.ok (.ret res)) s') :
    wpAny (model prog w) A.in1 (Builtin.List.listExtendWith (.ref S) (.ref I) res)
      (fun fin s' => match fin with | .done f => R (.ok f) s' | .again c' => c'.quiet = true ∧ codeAny (model prog w) A c' R s') (fun e s' => R (.error e) s') s := by
  obtain ⟨tv, t1, t2, ht⟩ := W.typ
  unfold Builtin.List.listExtendWith
  refine wpAny_bind (ht _ _ _ _ _ hst ?_)
  have h1 : Builtin.List.listSameRef (.ref S) (.ref I) = false := by simp [Builtin.List.listSameRef, W.ne]
  simp only [h1, t1, t2, Bool.or_false, Bool.false_eq_true, if_false]
  refine wpAny_bind (W.self _ _ _ _ _ _ hst hS fun s₁ hst₁ hS₁ => ?_)
  refine wpAny_bind (wpAny_holding ?_)
  unfold Builtin.List.listLengthHint
  refine wpAny_bind (W.len _ _ _ _ _ hst₁ ?_)
  show wpAny _ A.in1 (specialOf (Value.ref I) (Str.ofString "__length_hint__") >>= _) _ _ _
  refine wpAny_bind (W.hint _ _ _ _ _ hst₁ ?_)
  refine wpAny_pure ?_
  show wpAny _ A.in1 (rule "list.extend.makes-room" >>= fun _ => Builtin.List.listTouch (.ref S) >>= fun _ =>
    again (.builtin "list.extend.loop" ⟨[.ref S, .ref I, res], []⟩)) _ _ _
  refine wpAny_bind (wpAny_rule ?_)
  refine wpAny_bind ?_
  show wpAny _ A.in1 (updateSeq S (·.push .none) >>= fun _ => updateSeq S (·.pop)) _ _ _
  refine wpAny_bind (wpAny_updateSeq hS₁ rfl ?_)
  have hS₂ := Heap.get?_update_self (Obj.mapSeq (·.push Value.none)) hS₁ rfl
  refine wpAny_updateSeq (hz := by seq_fits) hS₂ rfl ?_
  have hS₃ := Heap.get?_update_self (Obj.mapSeq (·.pop)) hS₂ rfl
  exact wpAny_pure ⟨plainId_quiet F.plain_extend_loop _, ext_loop W res n _ [] _ (W.upd _ _ _ _ (W.upd _ _ _ _ hst₁)) hS₃ (by simpa using hz) hR⟩
theorem list_own {Q : Value → Shared → Prop} (W : Src prog w A.in1.in1 I s.heap.objs.size St Fin) {n : Nat} (hst : St n [] { s with heap := s.heap.push (lsO #[] 0) }) (hz : n ≤ sizeLine)
    (hQ : ∀ xs s' c', Fin xs s' → s'.heap.get? s.heap.objs.size = some (lsO xs.toArray c') → Q (.ref s.heap.objs.size) s') : wpAny (model prog w) A (call (.type "list") [.ref I]) Q E s := by
  refine callType_codes (Q₁ := fun obj s₁ => obj = .ref s.heap.objs.size ∧ s₁ = { s with heap := s.heap.push { cls := .type "list", data := .seq #[] } }) F.called_list (F.typeCall_list_1 _) F.entry_list_init
    (code_list_new _ ⟨rfl, rfl⟩) fun obj s₁ h₁ => ?_
  obtain ⟨rfl, rfl⟩ := h₁
  have hS : (s.heap.push (lsO #[] 0)).get? s.heap.objs.size = some (lsO #[] 0) := Heap.get?_push_size _ rfl
  refine ⟨⟨_, hS, rfl⟩, F.args_list_init_2 _ _, ?_⟩
  show wpAny _ A.in1.in1 (do let old ← Builtin.List.listItems (.ref s.heap.objs.size); Builtin.List.listUpdate (.ref s.heap.objs.size) (fun _ => #[]); letGo old.toList.reverse; Builtin.List.listExtendWith (.ref s.heap.objs.size) (.ref I) .none) _ _ _
  refine wpAny_bind ?_
  unfold Builtin.List.listItems
  refine wpAny_bind (wpAny_seqItems hS rfl (wpAny_pure ?_))
  show wpAny _ A.in1.in1 (updateSeq s.heap.objs.size (fun _ => #[]) >>= fun _ => letGo (#[] : Array Value).toList.reverse >>= fun _ => Builtin.List.listExtendWith (.ref s.heap.objs.size) (.ref I) .none) _ _ _
  refine wpAny_bind (wpAny_updateSeq hS rfl ?_)
  refine wpAny_bind (wpAny_letGo ?_)
  exact ext_with W .none (W.upd _ _ _ _ hst) (Heap.get?_update_self (Obj.mapSeq (fun _ => (#[] : Array Value))) hS rfl) hz fun xs s' c' hf h => ⟨rfl, hQ xs s' c' hf h⟩
theorem collect_own {Q : List Value → Shared → Prop} (W : Src prog w A.in1 I s.heap.objs.size St Fin) {n : Nat} (hst : St n [] { s with heap := s.heap.push (lsO #[] 0) }) (hz : n ≤ sizeLine)
    (hQ : ∀ xs s', Fin xs s' → Q xs s') : wpAny (model prog w) A (collect (.ref I)) Q E s := by
  unfold collect
  refine wpAny_bind (wpAny_runValue (codeAny_builtin F.entry_proto_collect ?_))
  rw [Around.under_plainId F.plain_proto_collect _]
  show wpAny _ A.in1 (newList [] >>= fun l => again (.builtin "list.__iadd__" ⟨[l, .ref I], []⟩)) _ _ s
  refine wpAny_bind (wpAny_newObj_type ?_)
  refine wpAny_pure ⟨plainId_quiet F.plain_list_iadd _, codeAny_builtin F.entry_list_iadd ?_⟩
  rw [Around.under_plainId F.plain_list_iadd _]
  show wpAny _ A.in1 (Builtin.List.listExtendWith (.ref s.heap.objs.size) (.ref I) (.ref s.heap.objs.size)) _ _ _
  refine ext_with (R := wants _ E) W (.ref s.heap.objs.size) hst (Heap.get?_push_size _ rfl) hz fun xs s' c' hf h => ?_
  show wpAny _ A (load s.heap.objs.size >>= _) _ _ s'
  refine wpAny_bind (wpAny_load h ?_)
  exact wpAny_pure (hQ xs s' hf)
end
end

section
open PySem PySem.W PyProof.Rows PySem.Calls PySem.Spec
/-- the zip's object -/
abbrev zpO (f0 : Value) (f1 : Bool) (TI TO : Addr) : Obj := { cls := .type "zip", dict := none, data := .fields #[f0, .bool f1, .bool false, .ref TI, .ref TO], slots := #[] }
/-- what the zip's making leaves behind the second iterator -/
abbrev zpH (h : Heap) (I C : Addr) : Heap :=
  ((h.push ({ cls := .type "tuple", data := .seq #[.ref I, .ref C] } : Obj)).push ({ cls := .type "tuple", data := .seq #[.none, .none] } : Obj)).push (zpO .none false h.objs.size (h.objs.size + 1))
section
variable {prog : Program} {w : World} {A : Around} {E : Value → Shared → Prop} {s : Shared}
theorem zip_new_code {D C : Addr} {vs : Array Value} {Q : Value → Shared → Prop} {PI : Heap → Prop} (hl : s.heap.IsList D vs)
    (hC : wpAny (model prog w) A.in1 (pyIter (.ref C)) (fun v s' => v = .ref C ∧ ∃ h' tk, s' = { s with heap := h', toks := tk } ∧ PI h') (fun _ _ => False) { s with heap := s.heap.push (itL D 0) })
    (hQ : ∀ h' tk, PI h' → Q (.ref (h'.objs.size + 2)) { s with heap := zpH h' s.heap.objs.size C, toks := tk }) :
    codeAny (model prog w) A (.call (.builtin "zip.__new__") ⟨[.type "zip", .ref D, .ref C], []⟩) (wants Q E) s := by
  refine codeAny_of_tree ?_
  show wpAny _ A.in1 (do checkBuiltinCall "zip.__new__" ⟨[.type "zip", .ref D, .ref C], []⟩; again (.builtin "zip.__new__" ⟨[.type "zip", .ref D, .ref C], []⟩)) _ _ s
  refine wpAny_bind (wpAny_of_eq (F.newCall_zip_2 _ _) (wpAny_pure ⟨plainId_quiet (by decide +kernel) _, codeAny_builtin F.entry_zip_new ?_⟩))
  rw [Around.under_plainId (by decide +kernel) _]
  have hsub := sub_zip
  obtain ⟨hp, g, d, tk, os⟩ := s
  have hL1 : Heap.IsList (Shared.heap ⟨hp, g, d, tk, os⟩) D vs := hl
  repeat ((fail_if_success (with_reducible show wpAny _ _ (pyIter (Value.ref C)) _ _ _)); first | (with_reducible refine wpAny_pyIter_list hL1 ?_) | wp_step)
  refine wpAny_mono hC (fun v s' hq => ?_) fun _ _ e => e.elim
  obtain ⟨rfl, h', tk', rfl, hP⟩ := hq
  have z1 : (h'.push ({ cls := .type "tuple", data := .seq #[.ref hp.objs.size, .ref C] } : Obj)).objs.size = h'.objs.size + 1 := Heap.size_push ..
  have z2 : ((h'.push ({ cls := .type "tuple", data := .seq #[.ref hp.objs.size, .ref C] } : Obj)).push ({ cls := .type "tuple", data := .seq #[.none, .none] } : Obj)).objs.size = h'.objs.size + 2 := by rw [Heap.size_push, z1]
  have := hQ h' tk' hP
  unfold zpH at this
  rw [← z1, ← z2] at this
  wp_walk
  exact this
theorem zip_new_raw {D C : Addr} {vs : Array Value} {Q : Value → Shared → Prop} {PI : Heap → Prop} (hl : s.heap.IsList D vs)
    (hC : wpAny (model prog w) A.in1.in1 (pyIter (.ref C)) (fun v s' => v = .ref C ∧ ∃ h' tk, s' = { s with heap := h', toks := tk } ∧ PI h') (fun _ _ => False) { s with heap := s.heap.push (itL D 0) })
    (hQ : ∀ h' tk, PI h' → Q (.ref (h'.objs.size + 2)) { s with heap := zpH h' s.heap.objs.size C, toks := tk }) : wpAny (model prog w) A (call (.type "zip") [.ref D, .ref C]) Q E s := by
  refine callType_codes (Q₁ := fun obj s₁ => ∃ h' tk, PI h' ∧ obj = .ref (h'.objs.size + 2) ∧ s₁ = { s with heap := zpH h' s.heap.objs.size C, toks := tk }) F.called_zip (F.typeCall_zip_2 _ _) F.entry_object_init
    (zip_new_code hl hC fun h' tk p => ⟨h', tk, p, rfl, rfl⟩) fun obj s₁ h₁ => ?_
  obtain ⟨h', tk, p, rfl, rfl⟩ := h₁
  have z2 : ((h'.push ({ cls := .type "tuple", data := .seq #[.ref s.heap.objs.size, .ref C] } : Obj)).push ({ cls := .type "tuple", data := .seq #[.none, .none] } : Obj)).objs.size = h'.objs.size + 2 := by rw [Heap.size_push, Heap.size_push]
  have hT : (Shared.mk (zpH h' s.heap.objs.size C) s.gens s.drawn tk s.os).TypeIs (.ref (h'.objs.size + 2)) "zip" := by
    rw [← z2]
    exact ⟨_, Heap.get?_push_size _ rfl, rfl⟩
  exact ⟨hT, F.args_object_init_3 _ _ _, object_init_meets F.called_zip.init.lookup F.called_zip.made (by decide) _ _ _ _ _ ⟨hT, rfl, hQ _ _ p⟩⟩
end
section
variable {fs : List Addr} {own upd upd' new pre post : List (Addr × Obj)} {H h h₁ h₂ : Heap} {d : Addr} {o o' : Obj}
theorem PostS.start (h1 : ∀ p ∈ own, H.get? p.1 = some p.2) : PostS fs own own [] H H := ⟨⟨fun _ _ e _ _ => e, fun _ o e _ => ⟨o.slots, e⟩⟩, h1, fun _ hp => nomatch hp⟩
/-- one object of the ledger is written -/
theorem PostS.same (P : PostS fs own (pre ++ (d, o) :: post) new H h) (hs : ∀ b x, b ≠ d → h.get? b = some x → h₁.get? b = some x) (h1 : h₁.get? d = some o') (hd : ∀ p ∈ pre ++ post, p.1 ≠ d) (hn : ∀ p ∈ new, p.1 ≠ d) (hown : d ∈ own.map (·.1)) (hfs : d ∉ fs) :
    PostS fs own (pre ++ (d, o') :: post) new H h₁ := by
  refine ⟨⟨fun b x e n m => hs b x (fun q => n (q ▸ hown)) (P.1.1 b x e n m), fun b x e m => (P.1.2 b x e m).imp fun sl z => hs b _ (fun q => hfs (q ▸ m)) z⟩, fun p hp => ?_, fun p hp => ⟨hs _ _ (hn p hp) (P.2.2 p hp).1, (P.2.2 p hp).2⟩⟩
  rcases List.mem_append.mp hp with hp | hp
  · exact hs _ _ (hd p (List.mem_append_left _ hp)) (P.2.1 p (List.mem_append_left _ hp))
  · rcases List.mem_cons.mp hp with rfl | hp
    · exact h1
    · exact hs _ _ (hd p (List.mem_append_right _ hp)) (P.2.1 p (List.mem_append_right _ (.tail _ hp)))
/-- what a heap has is there later too -/
theorem PostS.has (P : PostS fs own upd new H h) (e : upd.map (·.1) = own.map (·.1)) {b : Addr} {x : Obj} (hb : H.get? b = some x) : ∃ y, h.get? b = some y := by
  by_cases m : b ∈ fs
  · obtain ⟨sl, z⟩ := P.1.2 b x hb m
    exact ⟨_, z⟩
  · by_cases n : b ∈ own.map (·.1)
    · rw [← e] at n
      obtain ⟨r, hr, er⟩ := List.mem_map.mp n
      exact ⟨_, er ▸ P.2.1 r hr⟩
    · exact ⟨_, P.1.1 b x hb n m⟩
theorem PostS.lt (P : PostS fs own upd new H h) (e : upd.map (·.1) = own.map (·.1)) {b : Addr} {x : Obj} (hb : H.get? b = some x) : b < h.objs.size :=
  let ⟨_, z⟩ := P.has e hb; Heap.lt_size z
theorem frs_in {A₀ : Around} {base h₀ : Heap} {outer : List Env} {env : Env} {L : Addr} {m : Str → Option Value} (B : Below A₀ base outer h₀) (F : Fr h₀ L h m) (hf : env.frame = some L) : ∀ b ∈ frs (env :: outer), ∃ x, h.get? b = some x := fun b hb => by
  rcases frs_mem hf hb with rfl | hb
  · obtain ⟨o, _, _, e, _⟩ := F.ns
    exact ⟨o, e⟩
  · obtain ⟨o, ho, _⟩ := (B.frames.mem hb).2
    exact ⟨o, F.keep _ _ ho⟩
/-- an object is made -/
theorem PostS.made (P : PostS fs own upd new H h) (hf : o.isFreed = false) (e : upd.map (·.1) = own.map (·.1)) : PostS fs own upd ((h.objs.size, o) :: new) H (h.push o) :=
  ⟨⟨fun b x e n m => Heap.get?_push_of_some _ (P.1.1 b x e n m), fun b x e m => (P.1.2 b x e m).imp fun _ z => Heap.get?_push_of_some _ z⟩, fun p hp => Heap.get?_push_of_some _ (P.2.1 p hp),
    List.forall_mem_cons.mpr ⟨⟨Heap.get?_push_size _ hf, by
      cases q : H.get? h.objs.size with
      | none => rfl
      | some x => exact absurd (P.lt e q) (Nat.lt_irrefl _)⟩, fun p hp => ⟨Heap.get?_push_of_some _ (P.2.2 p hp).1, (P.2.2 p hp).2⟩⟩⟩
/-- a call on some of the ledger's objects -/
theorem PostS.widen {o1 u1 rest : List (Addr × Obj)} (P : PostS fs o1 u1 new h h₁) (hr : ∀ p ∈ rest, h.get? p.1 = some p.2 ∧ AllNe p.1 o1 ∧ p.1 ∉ fs) : PostS fs (rest ++ o1) (rest ++ u1) new h h₁ :=
  ⟨⟨fun b x e n m => P.1.1 b x e (fun q => n (by rw [List.map_append]; exact List.mem_append_right _ q)) m, P.1.2⟩, fun p hp => by
    rcases List.mem_append.mp hp with hp | hp
    · exact P.1.1 _ _ (hr p hp).1 (not_mem_map (hr p hp).2.1) (hr p hp).2.2
    · exact P.2.1 p hp, P.2.2⟩
/-- one call after another, with what is new -/
theorem PostS.trans2 {new₁ : List (Addr × Obj)} (P : PostS fs own upd new h h₁) (P' : PostS fs upd upd' new₁ h₁ h₂) (e : upd.map (·.1) = own.map (·.1)) (ho : ∀ p ∈ own, ∃ x, h.get? p.1 = some x) (hf : ∀ b ∈ fs, ∃ x, h.get? b = some x) : PostS fs own upd' (new₁ ++ new) h h₂ := by
  refine ⟨⟨fun b x q n m => P'.1.1 b x (P.1.1 b x q n m) (e ▸ n) m, fun b x q m => ?_⟩, P'.2.1, fun p hp => ?_⟩
  · obtain ⟨sl, z⟩ := P.1.2 b x q m
    exact (P'.1.2 b _ z m).imp fun _ z => z
  · rcases List.mem_append.mp hp with hp | hp
    · refine ⟨(P'.2.2 p hp).1, ?_⟩
      cases q : h.get? p.1 with
      | none => rfl
      | some x =>
        have z := (P'.2.2 p hp).2
        by_cases m : p.1 ∈ fs
        · obtain ⟨sl, y⟩ := P.1.2 _ x q m
          rw [z] at y; cases y
        · by_cases n : p.1 ∈ own.map (·.1)
          · rw [← e] at n
            obtain ⟨r, hr, er⟩ := List.mem_map.mp n
            have := P.2.1 r hr
            rw [er, z] at this; cases this
          · have := P.1.1 _ x q n m
            rw [z] at this; cases this
    · have y := (P.2.2 p hp).2
      refine ⟨P'.1.1 _ _ (P.2.2 p hp).1 (fun n => ?_) fun m => ?_, y⟩
      · rw [e] at n
        obtain ⟨r, hr, er⟩ := List.mem_map.mp n
        obtain ⟨x, hx⟩ := ho r hr
        rw [er, y] at hx; cases hx
      · obtain ⟨x, hx⟩ := hf _ m
        rw [y] at hx; cases hx
end
end

section
open PySem PySem.W PyProof.Rows PySem.Calls PySem.Spec
section
variable {n : Nat} {r : Nat → Int} {p : Array Nat} {s : Shared} {cmp : Nat → Nat → (Bool → Shared → Prop) → Shared → Prop}
def Rk (r : Nat → Int) (p : Array Nat) (k : Nat) : Int := r (p.getD k 0)
def Ascd (r : Nat → Int) (p : Array Nat) (m : Nat) : Prop := ∀ i j, i < j → j < m → Rk r p i < Rk r p j
def Desd (r : Nat → Int) (p : Array Nat) (m : Nat) : Prop := ∀ i j, i < j → j < m → Rk r p j < Rk r p i
/-- a rearrangement of the places below n -/
structure Prm (n : Nat) (p : Array Nat) : Prop where
  perm : p.toList.Perm (List.range n)
theorem Prm.size (x : Prm n p) : p.size = n := by have := x.perm.length_eq; simpa using this
theorem Prm.get (x : Prm n p) {k : Nat} (hk : k < n) : p.getD k 0 = p.toList[k]'(by rw [Array.length_toList, x.size]; exact hk) := by
  have : k < p.size := by rw [x.size]; exact hk
  simp [Array.getD, this]
theorem Prm.lt (x : Prm n p) {k : Nat} (hk : k < n) : p.getD k 0 < n := by
  rw [x.get hk]
  exact List.mem_range.mp (x.perm.mem_iff.mp (List.getElem_mem _))
theorem Prm.ne (x : Prm n p) (inj : ∀ i j, i < n → j < n → r i = r j → i = j) {i j : Nat} (hij : i < j) (hj : j < n) : Rk r p i ≠ Rk r p j := fun q => by
  have hi := Nat.lt_trans hij hj
  have e := inj _ _ (x.lt hi) (x.lt hj) q
  rw [x.get hi, x.get hj] at e
  have nd : p.toList.Nodup := x.perm.nodup_iff.mpr List.nodup_range
  exact absurd (List.getElem_inj nd |>.mp e) (Nat.ne_of_lt hij)
theorem Rk_eq (k : Nat) : Rk r p k = r ((p[k]?).getD 0) := by
  unfold Rk
  by_cases h : k < p.size
  · simp [Array.getD, h]
  · simp [Array.getD, h]
theorem Rk_rev {j : Nat} (hj : j ≤ p.size) (k : Nat) : Rk r (kas_rev p 0 j) k = if k < j then Rk r p (j - 1 - k) else Rk r p k := by
  unfold kas_rev
  rw [Rk_eq, getElem?_mirror_all hj]
  split
  · rw [if_pos (by omega), Rk_eq]
    congr 3; omega
  · rw [if_neg (by omega), Rk_eq]
theorem Rk_bubble {src d : Nat} (hs : src < p.size) (hd : d ≤ src) (k : Nat) : Rk r (bubble p src d) k = if k = src - d then Rk r p src else if src - d < k ∧ k ≤ src then Rk r p (k - 1) else Rk r p k := by
  rw [Rk_eq, getElem?_bubble hs d hd]
  split
  · rw [Rk_eq]
  · split
    · rw [Rk_eq]
    · rw [Rk_eq]
theorem Prm.of {p' : Array Nat} (x : Prm n p) (h : p'.Perm p) : Prm n p' := ⟨(Array.perm_iff_toList_perm.mp h).trans x.perm⟩
theorem Prm.rev (x : Prm n p) (j : Nat) : Prm n (kas_rev p 0 j) := x.of (mirror_perm _ _ _ _)
theorem Prm.bub (x : Prm n p) (a d : Nat) : Prm n (bubble p a d) := x.of (bubble_perm _ _ _)
theorem Desd.rev {m : Nat} (h : Desd r p m) (hm : m ≤ p.size) : Ascd r (kas_rev p 0 m) m := fun i j hij hj => by
  rw [Rk_rev hm, Rk_rev hm, if_pos (Nat.lt_trans hij hj), if_pos hj]
  exact h _ _ (by omega) (by omega)
variable (hc : ∀ i j C, i < n → j < n → C (decide (r i < r j)) s → cmp i j C s) (inj : ∀ i j, i < n → j < n → r i = r j → i = j)
include hc
theorem ask_yes {α : Type} {i j : Nat} {k : Bool → KasT α} {Q : α → Shared → Prop} (hi : i < n) (hj : j < n) (c : r i < r j) (h : (k true).kasWp cmp Q s) : (KasT.ask i j k).kasWp cmp Q s := hc i j _ hi hj (by rw [decide_eq_true c]; exact h)
theorem ask_no {α : Type} {i j : Nat} {k : Bool → KasT α} {Q : α → Shared → Prop} (hi : i < n) (hj : j < n) (c : ¬ r i < r j) (h : (k false).kasWp cmp Q s) : (KasT.ask i j k).kasWp cmp Q s := hc i j _ hi hj (by rw [decide_eq_false c]; exact h)
include inj
theorem asc_wp (x : Prm n p) {Q : Nat → Shared → Prop} (f : Nat) : ∀ m, 1 ≤ m → m + f = n → Ascd r p m → (∀ m', m ≤ m' → m' ≤ n → Ascd r p m' → (m' = n ∨ Rk r p m' < Rk r p (m' - 1)) → Q m' s) → (kas_asc p f m).kasWp cmp Q s := by
  induction f with
  | zero => intro m _ hf ha hq; exact hq m (Nat.le_refl _) (by omega) ha (.inl (by omega))
  | succ f ih =>
    intro m h1 hf ha hq
    have l1 := x.lt (show m < n by omega)
    have l2 := x.lt (show m - 1 < n by omega)
    by_cases c : Rk r p m < Rk r p (m - 1)
    · exact ask_yes hc l1 l2 c (hq m (Nat.le_refl _) (by omega) ha (.inr c))
    · refine ask_no hc l1 l2 c ?_
      show (kas_asc p f (m + 1)).kasWp cmp Q s
      refine ih (m + 1) (by omega) (by omega) (fun i j hij hj => ?_) fun m' a b => hq m' (by omega) b
      have n1 := x.ne inj (i := m - 1) (j := m) (by omega) (by omega)
      by_cases e : j < m
      · exact ha i j hij e
      · obtain rfl : j = m := by omega
        by_cases e2 : i = j - 1
        · rw [e2]; omega
        · have := ha i (j - 1) (by omega) (by omega); omega
theorem desc_wp (x : Prm n p) {Q : Array Nat × Nat × Nat → Shared → Prop} (f : Nat) : ∀ m, 1 ≤ m → m + f = n → Desd r p m → (∀ m', m ≤ m' → m' ≤ n → Desd r p m' → Q (p, m', 0) s) → (kas_desc f p m 0).kasWp cmp Q s := by
  induction f with
  | zero => intro m _ hf ha hq; exact hq m (Nat.le_refl _) (by omega) ha
  | succ f ih =>
    intro m h1 hf ha hq
    have l1 := x.lt (show m < n by omega)
    have l2 := x.lt (show m - 1 < n by omega)
    have n1 := x.ne inj (i := m - 1) (j := m) (by omega) (by omega)
    by_cases c : Rk r p m < Rk r p (m - 1)
    · refine ask_yes hc l1 l2 c ?_
      show (kas_desc f p (m + 1) 0).kasWp cmp Q s
      refine ih (m + 1) (by omega) (by omega) (fun i j hij hj => ?_) fun m' a b => hq m' (by omega) b
      by_cases e : j < m
      · exact ha i j hij e
      · obtain rfl : j = m := by omega
        by_cases e2 : i = j - 1
        · rw [e2]; exact c
        · have := ha i (j - 1) (by omega) (by omega); omega
    · refine ask_no hc l1 l2 c ?_
      exact ask_yes hc l2 l1 (show Rk r p (m - 1) < Rk r p m by omega) (hq m (Nat.le_refl _) (by omega) ha)
theorem count_wp (x : Prm n p) (h2 : 2 ≤ n) {Q : Nat × Array Nat → Shared → Prop} (hq : ∀ m p', Prm n p' → 1 ≤ m → m ≤ n → Ascd r p' m → Q (m, p') s) : (kas_count n p).kasWp cmp Q s := by
  unfold kas_count
  rw [KasT.kasWp_bind]
  refine asc_wp hc inj x (n - 1) 1 (Nat.le_refl _) (by omega) (fun i j hij hj => by omega) fun m h1 hm ha he => ?_
  by_cases e : m = n
  · rw [if_pos (by simpa using e)]
    exact hq m p x h1 hm ha
  · rw [if_neg (by simpa using e)]
    by_cases e1 : m > 1
    · rw [if_pos e1]
      exact ask_yes hc (x.lt (by omega)) (x.lt (by omega)) (ha 0 (m - 1) (by omega) (by omega)) (hq m p x h1 hm ha)
    · rw [if_neg e1]
      obtain rfl : m = 1 := by omega
      have hd := he.resolve_left e
      unfold kas_descPart
      rw [KasT.kasWp_bind]
      refine desc_wp hc inj x (n - (1 + 1)) (1 + 1) (by omega) (by omega) (fun i j hij hj => ?_) fun m' h1' hm' hd' => ?_
      · obtain rfl : i = 0 := by omega
        obtain rfl : j = 1 := by omega
        exact hd
      · rw [if_neg (Nat.lt_irrefl 0)]
        unfold kas_tail3
        rw [KasT.kasWp_bind]
        exact asc_wp hc inj (x.rev m') (n - m') m' (by omega) (by omega) (hd'.rev (by rw [x.size]; exact hm')) fun m'' a b c _ => hq m'' _ (x.rev m') (by omega) b c
theorem place_wp (x : Prm n p) {k : Nat} (hk : k < n) (ha : Ascd r p k) {Q : Nat → Shared → Prop} (hq : ∀ l', l' ≤ k → (∀ i, i < l' → Rk r p i < Rk r p k) → (∀ i, l' ≤ i → i < k → Rk r p k < Rk r p i) → Q l' s) (f : Nat) :
    ∀ l u, l ≤ u → u ≤ k → u - l ≤ f → (∀ i, i < l → Rk r p i < Rk r p k) → (∀ i, u ≤ i → i < k → Rk r p k < Rk r p i) → (kas_place p k f l u).kasWp cmp Q s := by
  induction f with
  | zero => intro l u hl hu hf h1 h2; exact hq l (by omega) h1 fun i a b => h2 i (by omega) b
  | succ f ih =>
    intro l u hl hu hf h1 h2
    unfold kas_place
    by_cases e : l ≥ u
    · rw [if_pos e]; exact hq l (by omega) h1 fun i a b => h2 i (by omega) b
    · rw [if_neg e]
      have hmid : (l + u) / 2 < k := by omega
      generalize hg : (l + u) / 2 = d at hmid
      have ld : l ≤ d := by omega
      have du : d < u := by omega
      have lk := x.lt hk
      have lm := x.lt (Nat.lt_trans hmid hk)
      by_cases c : Rk r p k < Rk r p d
      · refine ask_yes hc lk lm c ?_
        show (kas_place p k f l d).kasWp cmp Q s
        refine ih l d ld (by omega) (by omega) h1 fun i a b => ?_
        by_cases e2 : i = d
        · rw [e2]; exact c
        · have := ha d i (by omega) b; omega
      · refine ask_no hc lk lm c ?_
        show (kas_place p k f (d + 1) u).kasWp cmp Q s
        have n1 := x.ne inj hmid hk
        refine ih (d + 1) u (by omega) hu (by omega) (fun i a => ?_) h2
        by_cases e2 : i = d
        · rw [e2]; omega
        · have := ha i d (by omega) hmid; omega
omit hc inj in
theorem ins_asc (x : Prm n p) {k l : Nat} (hk : k < n) (hl : l ≤ k) (ha : Ascd r p k) (h1 : ∀ i, i < l → Rk r p i < Rk r p k) (h2 : ∀ i, l ≤ i → i < k → Rk r p k < Rk r p i) : Ascd r (bubble p k (k - l)) (k + 1) := fun i j hij hj => by
  have hs : k < p.size := by rw [x.size]; exact hk
  have hd : k - (k - l) = l := by omega
  have v : ∀ q, q ≤ k → Rk r (bubble p k (k - l)) q = if q = l then Rk r p k else if l < q then Rk r p (q - 1) else Rk r p q := fun q hq => by
    rw [Rk_bubble hs (Nat.sub_le _ _), hd]
    by_cases a : l < q
    · rw [if_pos (show l < q ∧ q ≤ k from ⟨a, hq⟩), if_pos a]
    · rw [if_neg (fun z : l < q ∧ q ≤ k => a z.1), if_neg a]
  rw [v i (by omega), v j (by omega)]
  by_cases ei : i = l
  · rw [if_pos ei, if_neg (by omega), if_pos (by omega)]
    exact h2 _ (by omega) (by omega)
  · rw [if_neg ei]
    by_cases ej : j = l
    · rw [if_pos ej, if_neg (by omega)]
      exact h1 i (by omega)
    · rw [if_neg ej]
      by_cases a : l < i
      · rw [if_pos a, if_pos (by omega)]; exact ha _ _ (by omega) (by omega)
      · rw [if_neg a]
        by_cases b : l < j
        · rw [if_pos b]; exact ha _ _ (by omega) (by omega)
        · rw [if_neg b]; exact ha _ _ hij (by omega)
theorem bin_wp {Q : Array Nat → Shared → Prop} (hq : ∀ p, Prm n p → Ascd r p n → Q p s) (f : Nat) : ∀ p k, k + f = n → Prm n p → Ascd r p k → (kas_bin f p k).kasWp cmp Q s := by
  induction f with
  | zero => intro p k hf x ha; obtain rfl : k = n := hf; exact hq p x ha
  | succ f ih =>
    intro p k hf x ha
    have hk : k < n := by omega
    unfold kas_bin
    rw [KasT.kasWp_bind]
    refine place_wp hc inj x hk ha (fun l hl h1 h2 => ?_) k 0 k (Nat.zero_le _) (Nat.le_refl _) (Nat.le_refl _) (fun i h => absurd h (Nat.not_lt_zero _)) (fun i a b => absurd a (Nat.not_le.mpr b))
    exact ih _ (k + 1) (by omega) (x.bub k (k - l)) (ins_asc x hk hl ha h1 h2)
theorem sort_wp (h2 : 2 ≤ n) {Q : Array Nat → Shared → Prop} (hq : ∀ p, Prm n p → Ascd r p n → Q p s) : (kas_sort n).kasWp cmp Q s := by
  unfold kas_sort
  rw [KasT.kasWp_bind]
  refine count_wp hc inj (p := List.toArray (List.range n)) ⟨by simp⟩ h2 fun m p x h1 hm ha => ?_
  by_cases e : m < n
  · rw [if_pos e]
    exact bin_wp hc inj hq _ _ _ (by omega) x (by rw [Nat.max_eq_left h1]; exact ha)
  · rw [if_neg e]
    obtain rfl : m = n := by omega
    exact hq p x ha
end
end

section
open PySem PySem.W PyProof.Rows PySem.Calls PySem.Spec
section
variable {prog : Program} {w : World} {A : Around} {E : Value → Shared → Prop} {s : Shared} {env : Env}
/-- one turn of a loop over any iterator, with any target -/
def TurnI (prog : Program) (w : World) (A : Around) (E : Value → Shared → Prop) (env : Env) (target : PySem.Expr) (body : List Stmt) (Q : Flow → Shared → Prop) (J : Shared → Prop) (r : Addr) (o : Option Value) (s₁ : Shared) : Prop := match o with
  | none => Q .next s₁
  | some v => wpAny (model prog w) A (letOwnedTupleGo target (.ref r) v) (fun _ s₂ => wpAny (model prog w) A (assign target env v) (fun _ s₃ => wpAny (model prog w) A (execs body env) (fun f s₄ => match f with
      | .next => J s₄
      | .cont => J s₄
      | .brk => Q .next s₄
      | .ret v => Q (.ret v) s₄) E s₃) E s₂) E s₁
theorem for_any {target iter : PySem.Expr} {pos : Pos} {body : List Stmt} {Q : Flow → Shared → Prop} (I : Addr → Nat → Shared → Prop)
    (h : wpAny (model prog w) A (eval iter env) (fun xv s₁ => wpAny (model prog w) A (pyIter xv) (fun it s₂ => ∃ r n, it = .ref r ∧ I r n s₂) E s₁) E s)
    (turn : ∀ r n s, I r n s → wpAny (model prog w) A (pyNext (.ref r)) (TurnI prog w A E env target body Q (fun s' => ∃ m, m < n ∧ I r m s') r) E s)
    (hs : ∀ x, foldedSetIterable iter env x = pure x := by intro _; rfl) (hE : PassesOwn (model prog w) A env E := by passes_own) :
    wpAny (model prog w) A (exec (.For target iter body [] pos) env) Q E s := by
  refine wpAny_For (wpAny_mono h (fun xv s₁ h₁ => wpAny_mono h₁ (fun it s₂ h₂ => ?_) fun _ _ z => z) fun _ _ z => z) hs
  obtain ⟨r, n, rfl, h₂⟩ := h₂
  refine codeAny_forLoop_any (R := fun r s' => match r with | .ok f => Q f s' | .error e => cameBackBy (model prog w) A env E e s') (I r) ?_ n h₂
  intro k s' hk
  refine wpAny_passesOwn hE (wpAny_mono (turn r k s' hk) (fun o s₁ hr => ?_) fun _ _ z => z)
  cases o with
  | none => exact wpAny_execs_nil hr
  | some y =>
    refine wpAny_passesOwn hE (wpAny_mono hr (fun _ s₂ h₂ => ?_) fun _ _ z => z)
    refine wpAny_passesOwn hE (wpAny_mono h₂ (fun _ s₃ h₃ => ?_) fun _ _ z => z)
    refine wpAny_passesOwn hE (wpAny_mono h₃ (fun f s₄ h₄ => ?_) fun _ _ z => z)
    cases f with
    | next => exact h₄
    | cont => exact h₄
    | brk => exact h₄
    | ret _ => exact h₄
/-- an own object has no tuple of its loop's -/
theorem own_let {elts : List PySem.Expr} {k : Nat} {pos : Pos} {x C dx T : Addr} {sl : Array (Option Value)} {Q : Unit → Shared → Prop} (hx : s.heap.get? x = some ⟨.ref C, some dx, .plain, sl⟩) (h : Q () s) :
    wpAny (model prog w) A (letOwnedTupleGo (.Tuple elts k pos) (.ref x) (.ref T)) Q E s := by
  unfold letOwnedTupleGo
  exact wpAny_bind (wpAny_load hx (wpAny_pure h))
end
section
variable {prog : Program} {w : World} {A : Around} {E : Value → Shared → Prop} {s : Shared} {h₀ : Heap} {L t a ccd : Addr} {m : Str → Option Value} {news : List (Addr × Obj)}
/-- two names take a pair -/
theorem pair_to {cn : Str} {cs : Scope} {L a : Addr} {ccd : Value} {xa xb : Str} {pa pb pos : Pos} {k : Nat} {v v' : Value} {Q : Unit → Shared → Prop} (hh : A.handled = none) (F : Fr h₀ L s.heap m) (N : News h₀ L s.heap news) (hm : (t, tup2 v v') ∈ news)
    (h : ∀ h' tk, Fr h₀ L h' (fun y => if y = xb then some v' else if y = xa then some v else m y) → News h₀ L h' news → Q () { s with heap := h', toks := tk })
    (hk : cs.kind = .function := by rfl) (hxa : (envOf cn cs L a ccd).kindOf xa = some .local := by rfl) (hxb : (envOf cn cs L a ccd).kindOf xb = some .local := by rfl) :
    wpAny (model prog w) A (assign (.Tuple [.Name xa pa, .Name xb pb] k pos) (envOf cn cs L a ccd) (.ref t)) Q E s := by
  refine assign_Tuple_tuple (items := #[v, v']) hh ⟨_, (N _ hm).1, rfl, 0, rfl⟩ rfl rfl fun h' he => ?_
  have F' : Fr h₀ L h' m := F.extBut he (Nat.le_refl _)
  have N' : News h₀ L h' news := fun p hp => ⟨he _ _ (Nat.ne_of_lt (Heap.lt_size (N p hp).1)) (N p hp).1, (N p hp).2⟩
  refine assignInOrder_cons (wpAny_assign_Name ?_)
  refine wpAny_storeName_local hxa F'.ns (fun h₁ hn hs => ?_) (by show (cs.kind == .class || (cs.kind == .module && L != mainGlobals)) = false; rw [hk]; rfl)
  refine assignInOrder_cons (wpAny_assign_Name ?_)
  refine wpAny_storeName_local hxb (F'.set hn hs).ns (fun h₂ hn₂ hs₂ => ?_) (by show (cs.kind == .class || (cs.kind == .module && L != mainGlobals)) = false; rw [hk]; rfl)
  exact assignInOrder_nil (h _ _ ((F'.set hn hs).set hn₂ hs₂) ((N'.set hs).set hs₂))
end
end

section
open PySem PySem.W PyProof.Rows PySem.Calls PySem.Spec
/-- half of one more | that, and so many before -/
def hfF (k : Nat) := Float64.ofFrac (decide (((k : Nat) : Int) + 1 < 0) != decide ((2 : Int) < 0)) (((k : Nat) : Int) + 1).natAbs (2 : Int).natAbs
def rkF (i k : Nat) := Float64.add (Float64.ofInt (i : Nat)) (hfF k)
theorem hfF_fin : ∀ k : Fin 9, Float64.isInf (hfF k) = false := by decide +kernel
theorem rkF_eq : ∀ i k : Fin 9, (Float64.cmp (rkF i k) (rkF i k) == some Ordering.eq) = true := by decide +kernel
section
variable {prog : Program} {w : World} {A : Around} {E : Value → Shared → Prop} {s : Shared} {Q : Value → Shared → Prop}
theorem div2 {k : Nat} {t u : Tok} (hk : k < 9) (h : ∀ t tk, 1 ≤ tk → Q (.float (hfF k) t) { s with toks := tk }) : wpAny (model prog w) A (binaryOp .Div (.int ((k : Nat) + 1) t) (.int 2 u)) Q E s :=
  AutoIntOps.truediv_2 (by decide) (by have := hfF_fin ⟨k, hk⟩; unfold hfF at this; rw [this]; exact Bool.false_ne_true) (h _ _ (Nat.le_add_left 1 _))
theorem add_rk {i k : Nat} {t u : Tok} (hi : i < 9) (h1 : 1 ≤ s.toks) (h : ∀ t tk, t ≠ 0 → Q (.float (rkF i k) t) { s with toks := tk }) : wpAny (model prog w) A (binaryOp .Add (.int (i : Nat) t) (.float (hfF k) u)) Q E s :=
  add_if_fits (by rw [Int.natAbs_natCast]; exact Nat.lt_trans hi (by decide)) (h _ _ (Nat.ne_of_gt h1))
end
end

section
open PySem PySem.W PyProof.Rows PySem.Calls PySem.Spec
/-- where the walk is to halt -/
inductive Stop (P : Prop) : Prop
  | mk (h : P) : Stop P
theorem Stop.out {P : Prop} : Stop P → P | .mk h => h
section
variable {prog : Program} {w : World} {A : Around} {E : Value → Shared → Prop} {s : Shared} {g : Heap} {L S it : Addr} {m : Str → Option Value} {news : List (Addr × Obj)} {items : Array Value} {i : Nat} {x : Value}
theorem nextL_item {Q : Option Value → Shared → Prop} (F : Fr g L s.heap m) (N : News g L s.heap ((it, itL S i) :: news)) (ha : AllNe it news) (hl : s.heap.IsList S items) (hx : items[i]? = some x)
    (h : ∀ h', Fr g L h' m → News g L h' ((it, itL S (i + 1)) :: news) → Q (some x) { s with heap := h' }) : wpAny (model prog w) A (pyNext (.ref it)) Q E s := by
  have ho := (N _ (.head _)).1
  have hit : s.heap.IsListIter it S i := ⟨_, ho, rfl, rfl⟩
  obtain ⟨ol, hol, _, nl, hdl⟩ := hl
  unfold pyNext
  refine wpAny_bind (wpAny_attempt (wpAny_callSpecial?_slot (name := Str.ofString "__next__") hit.typeIs slot_listiter_next
    (wpAny_call_entry slot_listiter_next hit.typeIs entry_listiter_next ?_ (args_listiter_next _))))
  show wpAny _ _ (field (.ref it) 0 >>= _) _ _ s
  refine wpAny_bind (wpAny_field ho rfl (x := .ref S) rfl ?_)
  show wpAny _ _ (if (Value.ref S == Value.none) = true then _ else _) _ _ s
  rw [if_neg (show ¬ ((Value.ref S == Value.none) = true) from Bool.false_ne_true)]
  show wpAny _ _ (field (.ref it) 1 >>= _) _ _ s
  refine wpAny_bind (wpAny_field ho rfl (x := .int i 0) rfl ?_)
  show wpAny _ _ (seqItems? (.ref S) >>= _) _ _ s
  refine wpAny_bind (wpAny_seqItems hol hdl ?_)
  simp only [Int.toNat_natCast, hx]
  refine wpAny_bind (wpAny_setField ho rfl (by simp) (wpAny_pure ⟨x, rfl, wpAny_pure ?_⟩))
  have hs : Heap.SameBut it s.heap (s.heap.update it (Obj.mapFields (·.setIfInBounds 1 (rawInt ((i : Int) + 1))))) := Heap.SameBut.update ..
  refine h _ (F.change hs (N _ (.head _)).2.1 (N _ (.head _)).2.2) (News.setHead N (fun p hp => ha.at p hp) hs (Heap.get?_update_self _ ho rfl))
theorem nextL_end {Q : Option Value → Shared → Prop} (hh : A.handled = none) (F : Fr g L s.heap m) (N : News g L s.heap ((it, itL S i) :: news)) (ha : AllNe it news) (hl : s.heap.IsList S items) (hx : items[i]? = none)
    (h : ∀ h', Fr g L h' m → News g L h' news → Q none { s with heap := h' }) : wpAny (model prog w) A (pyNext (.ref it)) Q E s := by
  have z := N _ (.head _)
  refine wpAny_pyNext_list_end hh ⟨_, z.1, rfl, rfl⟩ hl hx fun h' he => h h' (LCg.fr_but F (fun b o nb e => he b o (by simpa using nb) e) (fun q => z.2.1 q.symm) z.2.2)
    (fun p hp => ⟨he _ _ (ha.at p hp) (N p (.tail _ hp)).1, (N p (.tail _ hp)).2⟩)
/-- a For over a list of the ledger's: J holds of the number of items taken, the ground, the frame and the rest of the ledger -/
theorem for_list {env : Env} {target iter : PySem.Expr} {pos : Pos} {body : List Stmt} {Q : Flow → Shared → Prop} (J : Nat → Heap → (Str → Option Value) → List (Addr × Obj) → Prop) (hh : A.handled = none) (F : Fr g L s.heap m) (N : News g L s.heap news) (hJ : J 0 g m news)
    (hS : ∀ i g M nw h, J i g M nw → News g L h nw → h.IsList S items)
    (hi : wpAny (model prog w) A (eval iter env) (fun v s' => v = .ref S ∧ s' = s) E s)
    (turn : ∀ i x, items[i]? = some x → ∀ g M nw h tk I, J i g M nw → Fr g L h M → News g L h ((I, itL S (i + 1)) :: nw) → AllNe I nw →
      wpAny (model prog w) A (letOwnedTupleGo target (.ref I) x) (fun _ s₂ => wpAny (model prog w) A (assign target env x) (fun _ s₃ => wpAny (model prog w) A (execs body env) (fun f s₄ =>
        match (match f with | .cont => Flow.next | f => f) with
        | .next => Stop (∃ g' M' nw' h' tk', s₄ = { s with heap := h', toks := tk' } ∧ J (i + 1) g' M' nw' ∧ Fr g' L h' M' ∧ News g' L h' ((I, itL S (i + 1)) :: nw') ∧ AllNe I nw')
        | .brk => Q .next s₄
        | f => Q f s₄) E s₃) E s₂) E { s with heap := h, toks := tk })
    (fin : ∀ g M nw h tk, J items.size g M nw → Fr g L h M → News g L h nw → Q .next { s with heap := h, toks := tk })
    (hs : ∀ x, foldedSetIterable iter env x = pure x := by intro _; rfl) (hE : PassesOwn (model prog w) A env E := by passes_own) :
    wpAny (model prog w) A (exec (.For target iter body [] pos) env) Q E s := by
  refine for_any (I := fun r k s' => ∃ i g M nw h tk, k + i = items.size + 1 ∧ i ≤ items.size ∧ s' = { s with heap := h, toks := tk } ∧ J i g M nw ∧ Fr g L h M ∧ News g L h ((r, itL S i) :: nw) ∧ AllNe r nw) ?_ ?_ hs hE
  · refine wpAny_mono hi (fun v s' ⟨e1, e2⟩ => ?_) fun _ _ z => z
    subst e1; subst e2
    refine wpAny_pyIter_list (hS 0 g m news _ hJ N) ⟨_, items.size + 1, rfl, 0, g, m, news, _, _, rfl, Nat.zero_le _, rfl, hJ, F.push _, News.push F N _ rfl, AllNe.of fun p hp => Nat.ne_of_lt (Heap.lt_size (N p hp).1)⟩
  · rintro r k s' ⟨i, g, M, nw, h, tk, hk, hle, rfl, hJ, F, N, ha⟩
    have hl : ({ s with heap := h, toks := tk } : Shared).heap.IsList S items := hS i g M nw h hJ fun p hp => N p (.tail _ hp)
    rcases Nat.lt_or_ge i items.size with hlt | hge
    · refine nextL_item (s := { s with heap := h, toks := tk }) F N ha hl (Array.getElem?_eq_getElem hlt) fun h' F' N' => ?_
      refine wpAny_mono (turn i _ (Array.getElem?_eq_getElem hlt) g M nw h' tk r hJ F' N' ha) (fun _ s₂ h₂ => wpAny_mono h₂ (fun _ s₃ h₃ => wpAny_mono h₃ (fun f s₄ h₄ => ?_) fun _ _ z => z) fun _ _ z => z) fun _ _ z => z
      cases f with
      | next => obtain ⟨g', M', nw', h', tk', e, q1, q2, q3, q4⟩ := h₄.out; exact ⟨k - 1, by omega, i + 1, g', M', nw', h', tk', by omega, by omega, e, q1, q2, q3, q4⟩
      | cont => obtain ⟨g', M', nw', h', tk', e, q1, q2, q3, q4⟩ := h₄.out; exact ⟨k - 1, by omega, i + 1, g', M', nw', h', tk', by omega, by omega, e, q1, q2, q3, q4⟩
      | brk => exact h₄
      | ret v => exact h₄
    · obtain rfl : i = items.size := by omega
      exact nextL_end (s := { s with heap := h, toks := tk }) hh F N ha hl (by simp) fun h' F' N' => fin g M nw h' tk hJ F' N'
end
end

section
open PySem PySem.W PyProof.Rows PySem.Calls PySem.Spec
/-- a range's iterator before i, n left of it -/
abbrev rgO (i left : Int) : Obj := { cls := .type "range_iterator", data := .fields #[rawInt i, rawInt left, rawInt 1] }
section
variable {prog : Program} {w : World} {A : Around} {E : Value → Shared → Prop} {s : Shared} {g : Heap} {L S it : Addr} {m : Str → Option Value} {news : List (Addr × Obj)} {i left : Int}
theorem nextR_item {Q : Option Value → Shared → Prop} (F : Fr g L s.heap m) (N : News g L s.heap ((it, rgO i left) :: news)) (ha : AllNe it news) (hl : 0 < left)
    (h : ∀ h', Fr g L h' m → News g L h' ((it, rgO (i + 1) (left - 1)) :: news) → Q (some (.int i s.toks)) { s with heap := h', toks := s.toks + 1 }) : wpAny (model prog w) A (pyNext (.ref it)) Q E s := by
  have z := N _ (.head _)
  exact wpAny_pyNext_range_item z.1 hl fun h' hi hs => h h' (F.change hs z.2.1 z.2.2) (News.setHead N (fun p hp => ha.at p hp) hs hi)
theorem nextR_end {Q : Option Value → Shared → Prop} (hh : A.handled = none) (F : Fr g L s.heap m) (N : News g L s.heap ((it, rgO i left) :: news)) (ha : AllNe it news) (hl : left ≤ 0)
    (h : ∀ h', Fr g L h' m → News g L h' news → Q none { s with heap := h' }) : wpAny (model prog w) A (pyNext (.ref it)) Q E s := by
  have z := N _ (.head _)
  refine wpAny_pyNext_range_end hh z.1 hl fun h' he => h h' (LCg.fr_but F (fun b o nb e => he b o (by simpa using nb) e) (fun q => z.2.1 q.symm) z.2.2)
    (fun p hp => ⟨he _ _ (ha.at p hp) (N p (.tail _ hp)).1, (N p (.tail _ hp)).2⟩)
/-- a For over range(n), its target a local name -/
theorem for_range {cn : Str} {cs : Scope} {ccd : Value} {a : Addr} {x : Str} {px : Pos} {iter : PySem.Expr} {pos : Pos} {body : List Stmt} {Q : Flow → Shared → Prop} (n : Nat) (J : Nat → Heap → (Str → Option Value) → List (Addr × Obj) → Nat → Prop) (hh : A.handled = none)
    (hi : wpAny (model prog w) A (eval iter (envOf cn cs L a ccd)) (fun v s' => Stop (s.toks ≤ s'.toks → ∃ r t u v' h' tk' g' M nw, v = .ref r ∧ s' = { s with heap := h', toks := tk' } ∧ IsRange h' r 0 n 1 t u v' ∧ Builtin.Range.small 0 n 1 = true ∧ J 0 g' M nw tk' ∧ Fr g' L h' M ∧ News g' L h' nw)) E s)
    (turn : ∀ i : Nat, i < n → ∀ g M nw h tk I, J i g M nw tk → Fr g L h (fun y => if y = x then some (.int i tk) else M y) → News g L h ((I, rgO ((i + 1 : Nat) : Int) (n - (i + 1 : Nat) : Int)) :: nw) → AllNe I nw →
      wpAny (model prog w) A (execs body (envOf cn cs L a ccd)) (fun f s₄ =>
        match (match f with | .cont => Flow.next | f => f) with
        | .next => Stop (tk + 1 + 1 ≤ s₄.toks → ∃ g' M' nw' h' tk', s₄ = { s with heap := h', toks := tk' } ∧ J (i + 1) g' M' nw' tk' ∧ Fr g' L h' M' ∧ News g' L h' ((I, rgO ((i + 1 : Nat) : Int) (n - (i + 1 : Nat) : Int)) :: nw') ∧ AllNe I nw')
        | .brk => Q .next s₄
        | f => Q f s₄) E { s with heap := h, toks := tk + 1 + 1 })
    (fin : ∀ g M nw h tk, J n g M nw tk → Fr g L h M → News g L h nw → Q .next { s with heap := h, toks := tk })
    (hk : cs.kind = .function := by rfl) (hx : (envOf cn cs L a ccd).kindOf x = some .local := by rfl)
    (hs : ∀ x, foldedSetIterable iter (envOf cn cs L a ccd) x = pure x := by intro _; rfl) (hE : PassesOwn (model prog w) A (envOf cn cs L a ccd) E := by passes_own) :
    wpAny (model prog w) A (exec (.For (.Name x px) iter body [] pos) (envOf cn cs L a ccd)) Q E s := by
  refine for_any (I := fun r k s' => ∃ (i : Nat) (g : Heap) (M : Str → Option Value) (nw : List (Addr × Obj)) (h : Heap) (tk : Nat), k + i = n + 1 ∧ i ≤ n ∧ s' = { s with heap := h, toks := tk } ∧ J i g M nw tk ∧ Fr g L h M ∧ News g L h ((r, rgO i (n - i : Int)) :: nw) ∧ AllNe r nw) ?_ ?_ hs hE
  · refine wpAny_with_toks (Nat.le_refl _) (wpAny_mono hi (fun v s' hv htk => ?_) fun _ _ z _ => z)
    obtain ⟨r, t, u, v', h', tk', g', M, nw, e1, e2, hr, hsm, hJ, F, N⟩ := hv.out htk
    subst e1; subst e2
    have hz : Builtin.Range.rangeSize 0 n 1 = n := by
      unfold Builtin.Range.rangeSize
      simp
      omega
    refine wpAny_pyIter_range hr hsm ⟨_, n + 1, rfl, 0, g', M, nw, _, _, rfl, Nat.zero_le _, rfl, hJ, F.push _, ?_, AllNe.of fun p hp => Nat.ne_of_lt (Heap.lt_size (N p hp).1)⟩
    have := News.push F N (rgO 0 (Builtin.Range.rangeSize 0 n 1)) rfl
    rw [hz] at this
    simpa [hz] using this
  · rintro r k s' ⟨i, g, M, nw, h, tk, hkk, hle, rfl, hJ, F, N, ha⟩
    rcases Nat.lt_or_ge i n with hlt | hge
    · refine nextR_item (s := { s with heap := h, toks := tk }) F N ha (by omega) fun h' F' N' => ?_
      show wpAny (model prog w) A (letOwnedTupleGo (.Name x px) (.ref r) (.int i tk)) _ _ _
      refine wpAny_of_eq (a := ()) (by rfl) ?_
      refine wpAny_assign_Name ?_
      refine wpAny_storeName_local hx F'.ns (fun h₁ hn hs => ?_) (by show (cs.kind == .class || (cs.kind == .module && L != mainGlobals)) = false; rw [hk]; rfl)
      have e1 : ((i : Int) + 1) = ((i + 1 : Nat) : Int) := by omega
      have e2 : ((n : Int) - i - 1) = ((n : Int) - ((i + 1 : Nat) : Int)) := by omega
      rw [e1, e2] at N'
      refine wpAny_with_toks (n := tk + 1 + 1) (Nat.le_refl _) (wpAny_mono (turn i hlt g M nw h₁ tk r hJ (F'.set hn hs) (N'.set hs) ha) (fun f s₄ h₄ htk => ?_) fun _ _ z _ => z)
      cases f with
      | next => obtain ⟨g', M', nw', h', tk', e, q1, q2, q3, q4⟩ := h₄.out htk; exact ⟨k - 1, by omega, i + 1, g', M', nw', h', tk', by omega, by omega, e, q1, q2, q3, q4⟩
      | cont => obtain ⟨g', M', nw', h', tk', e, q1, q2, q3, q4⟩ := h₄.out htk; exact ⟨k - 1, by omega, i + 1, g', M', nw', h', tk', by omega, by omega, e, q1, q2, q3, q4⟩
      | brk => exact h₄
      | ret v => exact h₄
    · obtain rfl : i = n := by omega
      exact nextR_end (s := { s with heap := h, toks := tk }) hh F N ha (by omega) fun h' F' N' => fin g M nw h' tk hJ F' N'
end
end

theorem fillAll : KF = KF ∧ PySem.Challenge.rw_kl0504_01 = PySem.Challenge.rw_kl0504_01 := by k_fill; exact ⟨rfl, rfl⟩
section
local macro_rules | `(tactic| cell_enter) => `(tactic| ((first | refine' enterC ?k1 ?k2 ?k3 ?k4 ?k5 ?kA ?kF ?kK ?k6 ?k7 ?k8 ?k9 ?kB ?_ ?c2 ?c3 ?c4 ?c5 | refine' enterT ?k1 ?k2 ?k3 ?k4 ?k5 ?kA ?kF ?kK ?k6 ?k7 ?k8 ?k9 ?kB ?_ ?c2 ?c3 ?c4 ?c5); (case kA => exact rfl); (case kF => first | assumption | exact rfl); (case kK => first | assumption | exact rfl); (case k1 => k_asm); (case k2 => k_asm); (case k3 => k_asm); (case k4 => k_asm); (case k5 => k_asm); (case k6 => k_is); (case k7 => k_is); (case k8 => ktr_room); (case k9 => first | exact BindsTo.of_eq rfl | exact binds_K (by k_in) rfl (by k_is) rfl rfl rfl); (case c5 => decide); (case kB => exact locs rfl); (case c2 => exact rfl); (case c3 => exact rfl); (case c4 => exact rfl); k_whole))
local macro_rules | `(tactic| k_enter) => `(tactic| (cell_enter; intro g' L' h' F' N' B' X' T' kG' tk'))
local macro_rules | `(tactic| k_mem) => `(tactic| assumption)
local macro_rules | `(tactic| k_all) => `(tactic| (refine' AllNe.at ?ka; assumption))
local macro_rules | `(tactic| k_ne) => `(tactic| (refine neN ?_; (try dsimp only); first | assumption | (refine' Ne.symm ?ka; assumption) | omega | fail "k_ne"))
local macro_rules | `(tactic| ktr_units) => `(tactic| (dsimp only [top, Around.deeper]; omega))
local macro_rules | `(tactic| ktr_room) => `(tactic| (first | exact room_of (j := 1) (by assumption) rfl | exact room_of (j := 2) (by assumption) rfl | exact room_of (j := 0) (by assumption) rfl | exact room_of (j := 3) (by assumption) rfl | (dsimp only [top, Around.deeper]; omega)))
local macro_rules | `(tactic| walk_at "call builtin:next") => `(tactic| (k_here; k_dflt (refine' next_item ?F ?N ?U ?l ?x ?_; (case F => k_asm); (case N => k_asm); (case U => k_upd); (case l => first | is_list | (refine' News.isList ?nA ?nB; (case nA => k_asm); (case nB => k_mem)) | fail "l"); (case x => assumption); k_whole); intro h' F' N'))
local macro_rules | `(tactic| walk_at "call builtin:next") => `(tactic| (k_here; k_dflt (refine' next_stop ?hh ?F ?N ?U ?l ?x ?_; (case hh => rfl); (case F => k_asm); (case x => assumption); (case N => k_asm); (case U => k_upd); (case l => first | is_list | (refine' News.isList ?nA ?nB; (case nA => k_asm); (case nB => k_mem)) | fail "l"); k_whole); intro h1 h' e' F' N' x'))
local macro_rules | `(tactic| walk_at "call builtin:iter") => `(tactic| (k_here; k_dflt (refine' iter_listK ?F ?N ?l ?_; (case F => k_asm); (case N => k_asm); (case l => first | is_list | (refine' News.isList ?nA ?nB; (case nA => k_asm); (case nB => k_mem)) | fail "l"); k_whole); intro I' h' F' N' l1; (have l2 := allNe_lt (allLt_of l1)); (obtain ⟨_, l2⟩ := l2)))
local macro_rules | `(tactic| walk_at "noteFrame ref") => `(tactic| (k_here; k_dflt (refine' caught_newT ?B ?F ?N ?x ?XB ?TB ?ex ?_; (case B => k_asm); (case F => k_asm); (case N => k_asm); (case x => k_asm); (case XB => assumption); (case TB => assumption); (case ex => k_is); k_whole); intro h' g' T' F' N' B' X' T''))
local macro_rules | `(tactic| walk_at "leaving ref") => `(tactic| refine Lv.in ?_)
local macro_rules | `(tactic| walk_at "getMethod ref") => `(tactic| (k_here; k_dflt (refine' method_slot ?F ?X ?I ?g ?a ?t ?_; (case F => k_asm); (case X => k_asm); (case I => k_inst); (case g => k_is); (case a => k_is); (case t => k_is); k_whole)))
local macro_rules | `(tactic| tb_start) => `(tactic| first | exact trivial | assumption | (refine' allNe_lt ?kl; assumption) | (refine' And.intro ?a ?b; (case a => k_ne); (case b => tb_start)) | fail "tb_start")

section
open PySem PySem.W PyProof.Rows PySem.Calls PySem.Spec
section
variable {w : World} {p : Program} {loose : List Str} {mean : ExcName → Option Value} {mg mb : Str → Option Value} {dp un : Nat} {gd : Option (List Code)} {env : Env} {outer : List Env} {A₀ : Around} {base h₀ : Heap} {L : Addr} {m : Str → Option Value} {s : Shared} {Q E : Value → Shared → Prop} {V I : Addr} {vs : Array Value} {n i : Nat} {x : Value} {imm : List (Addr × Obj)}
set_option maxHeartbeats 4000000 in
theorem pull_item (B : Below A₀ base outer h₀) (F : Fr h₀ L s.heap m) (XB : (KF w.params).In base) (TB : Top p loose mean mg mb base) (hf : env.frame = some L) (hk : env.scope.kind = .function) (N : News h₀ L s.heap ((I, itL V i) :: imm)) (hdp : dp + 1 < recursionLimit) (aI : AllNe I imm) (hV : (V, listOf vs n) ∈ imm) (hx : vs[i]? = some x)
    (h : ∀ h' tk t, PostS (frs (env :: outer)) ((I, itL V i) :: imm) ((I, itL V (i + 1)) :: imm) [(t, tup2 (.bool true) x)] s.heap h' → Q (.ref t) { s with heap := h', toks := tk }) :
    wpAny (model PG w) (top dp un gd (env :: outer)) (call (.ref 55) [.ref I]) Q E s := by
  k_dflt cell_enter
  intro g L₁ h₁ F₁ N₁ B₁ X₁ T₁ G₁ k₁
  replace F₁ : Fr g L₁ h₁ (bnd [("it", .ref I)]) := F₁
  k_steps
  exact h _ _ _ (end_one G₁ (by assumption) (by assumption) (fun p hp => .tail _ hp) (.head _) (by tb_start))
set_option maxHeartbeats 4000000 in
theorem pull_stop (B : Below A₀ base outer h₀) (F : Fr h₀ L s.heap m) (XB : (KF w.params).In base) (TB : Top p loose mean mg mb base) (hf : env.frame = some L) (hk : env.scope.kind = .function) {io io' : Obj} (N : News h₀ L s.heap ((I, io) :: imm)) (hdp : dp + 1 < recursionLimit) (aI : AllNe I imm) (hV : (V, listOf vs n) ∈ imm) (hx : Ends V vs io io')
    (h : ∀ h' tk t, PostS (frs (env :: outer)) ((I, io) :: imm) ((I, io') :: imm) [(t, tup2 (.bool false) .none)] s.heap h' → Q (.ref t) { s with heap := h', toks := tk }) :
    wpAny (model PG w) (top dp un gd (env :: outer)) (call (.ref 55) [.ref I]) Q E s := by
  k_dflt cell_enter
  intro g L₁ h₁ F₁ N₁ B₁ X₁ T₁ G₁ k₁
  replace F₁ : Fr g L₁ h₁ (bnd [("it", .ref I)]) := F₁
  k_steps
  exact h _ _ _ (end_one (G₁.turn (by assumption)) (by assumption) (by assumption) (fun p hp => .tail _ hp) (.head _) (by tb_start))
end
end

section
open PySem PySem.W PyProof.Rows PySem.Calls PySem.Spec
theorem is_int {M : Model} {A : Around} {E : Value → Shared → Prop} {s : Shared} {Q : Value → Shared → Prop} {i j : Int} {t u : Tok} (ht : t ≠ 0) (hu : u ≠ 0) (hi : -5 ≤ i ∧ i ≤ 256) (he : t = u → i = j)
    (h : Q (.bool (decide (i = j))) s) : wpAny M A (compareOp .Is (.int i t) (.int j u)) Q E s := by
  have h0 : (t == 0 || u == 0) = false := by simp [ht, hu]
  show wpAny M A (do return .bool (← isSame (.int i t) (.int j u))) Q E s
  refine wpAny_bind ?_
  show wpAny M A (if i == j && smallInt i then isSame.cachedInt t u else isSame.created (i == j) t u) _ E s
  by_cases e : i = j
  · subst e
    have e1 : (i == i && smallInt i) = true := by simp [smallInt, hi.1, hi.2]
    rw [if_pos e1]
    unfold isSame.cachedInt
    rw [if_neg (by rw [h0]; exact Bool.false_ne_true)]
    refine wpAny_bind (wpAny_rule (wpAny_pure (wpAny_pure ?_)))
    simpa using h
  · have e1 : (i == j) = false := by simp [e]
    rw [e1]
    simp only [Bool.false_and, Bool.false_eq_true, if_false]
    unfold isSame.created
    rw [if_neg (by rw [h0]; exact Bool.false_ne_true)]
    have tu : (t == u) = false := by
      simp only [beq_eq_false_iff_ne, ne_eq]
      exact fun q => e (he q)
    simp only [tu, Bool.false_eq_true, if_false, Bool.not_false, if_true]
    refine wpAny_pure (wpAny_pure ?_)
    simpa [e] using h
set_option maxHeartbeats 4000000 in
theorem same_c {w : World} {p : Program} {loose : List Str} {mean : ExcName → Option Value} {mg mb : Str → Option Value} {dp un : Nat} {gd : Option (List Code)} {env : Env} {outer : List Env} {A₀ : Around} {base h₀ : Heap} {L : Addr} {m : Str → Option Value} {s : Shared} {Q E : Value → Shared → Prop}
    {i j : Int} {t u : Tok} (B : Below A₀ base outer h₀) (F : Fr h₀ L s.heap m) (XB : (KF w.params).In base) (TB : Top p loose mean mg mb base) (hf : env.frame = some L) (hk : env.scope.kind = .function) (N : News h₀ L s.heap []) (hdp : dp + 1 < recursionLimit)
    (ht : t ≠ 0) (hu0 : u ≠ 0) (hi : -5 ≤ i ∧ i ≤ 256) (he : t = u → i = j)
    (h : ∀ h' tk, PostS (frs (env :: outer)) [] [] [] s.heap h' → Q (.bool (decide (i = j))) { s with heap := h', toks := tk }) :
    wpAny (model PG w) (top dp un gd (env :: outer)) (call (.ref 62) [.int i t, .int j u]) Q E s := by
  k_dflt cell_enter
  intro g L₁ h₁ F₁ N₁ B₁ X₁ T₁ G₁ k₁
  replace F₁ : Fr g L₁ h₁ (bnd [("b", .int j u), ("a", .int i t)]) := F₁
  k_steps
  refine is_int ht hu0 hi he ?_
  by_cases e : i = j
  · simp only [e, decide_true] at h ⊢
    k_steps
    exact h _ _ (end_post G₁ (by assumption) (by assumption) trivial trivial)
  · simp only [e, decide_false] at h ⊢
    k_steps
    all_goals first | exact h _ _ (end_post G₁ (by assumption) (by assumption) trivial trivial) | (exfalso; omega)
end

section
open PySem PySem.W PyProof.Rows PySem.Calls PySem.Spec
/-- the itemgetter's object; a groupby's ground: what stands beside it and does not change -/
abbrev igO (d tp : Addr) : Obj := { cls := .ref 246, dict := some d, data := .plain, slots := #[some (.ref tp)] }
structure GbG (imm : List (Addr × Obj)) (d V : Addr) (vs : Array Value) (n : Nat) (IG dI tp : Addr) (u : Tok) : Prop where
  hd : (d, dictOf [] 0) ∈ imm
  hV : (V, listOf vs n) ∈ imm
  hIG : (IG, igO dI tp) ∈ imm
  hdI : (dI, dictOf [] 0) ∈ imm
  htp : (tp, tup1 (.int 0 u)) ∈ imm
section
variable {w : World} {p : Program} {loose : List Str} {mean : ExcName → Option Value} {mg mb : Str → Option Value} {dp un : Nat} {gd : Option (List Code)} {env : Env} {outer : List Env} {A₀ : Around} {base h₀ : Heap} {L : Addr} {m : Str → Option Value} {s : Shared} {Q E : Value → Shared → Prop} {IG dI tp tq : Addr} {u : Tok} {x y : Value} {imm : List (Addr × Obj)}
set_option maxHeartbeats 4000000 in
theorem ig_call (B : Below A₀ base outer h₀) (F : Fr h₀ L s.heap m) (XB : (KF w.params).In base) (TB : Top p loose mean mg mb base) (hf : env.frame = some L) (hk : env.scope.kind = .function) (N : News h₀ L s.heap imm) (hdp : dp + 5 < recursionLimit) (hu : un + 20 < cLine) (hIG : (IG, igO dI tp) ∈ imm) (hdI : (dI, dictOf [] 0) ∈ imm) (htp : (tp, tup1 (.int 0 u)) ∈ imm) (htq : (tq, tup2 x y) ∈ imm)
    (h : ∀ h' tk, PostS (frs (env :: outer)) imm imm [] s.heap h' → Q x { s with heap := h', toks := tk }) :
    wpAny (model PG w) (top dp un gd (env :: outer)) (call (.ref IG) [.ref tq]) Q E s := by
  have X : (KF w.params).In h₀ := XB.keeps B.stays
  have T := TB.keeps B.stays
  k_steps
  exact h _ _ (end_none (by assumption) (by assumption) (by assumption) (fun p hp => hp))
end
end

local macro_rules | `(tactic| walk_at $s:str) => `(tactic| (rename Halt $s => halt; k_here; refine Lv.in ?_))
local macro_rules | `(tactic| walk_at "call ref") => `(tactic| (k_here; refine Lv.in ?_))

section
open PySem PySem.W PyProof.Rows PySem.Calls PySem.Spec
/-- the groupby object -/
abbrev gbO (d : Addr) (grp ck cv : Value) (hck hcv htk : Bool) (it kf ser tk : Value) : Obj := { cls := .ref 103, dict := some d, data := .plain, slots := #[some grp, some ck, some cv, some (.bool hck), some (.bool hcv), some (.bool htk), some it, some kf, some ser, some tk] }
section
variable {w : World} {p : Program} {loose : List Str} {mean : ExcName → Option Value} {mg mb : Str → Option Value} {dp un : Nat} {gd : Option (List Code)} {env : Env} {outer : List Env} {A₀ : Around} {base h₀ : Heap} {L : Addr} {m : Str → Option Value} {s : Shared} {Q E : Value → Shared → Prop} {G d V I IG dI tp tq : Addr} {vs : Array Value} {n i : Nat} {u : Tok} {x y grp ck cv ser tk0 : Value} {hck hcv htk : Bool} {imm : List (Addr × Obj)}
set_option maxHeartbeats 4000000 in
theorem step_item (B : Below A₀ base outer h₀) (F : Fr h₀ L s.heap m) (XB : (KF w.params).In base) (TB : Top p loose mean mg mb base) (hf : env.frame = some L) (hk : env.scope.kind = .function) (N : News h₀ L s.heap ((G, gbO d grp ck cv hck hcv htk (.ref I) (.ref IG) ser tk0) :: (I, itL V i) :: imm)) (hdp : dp + 10 < recursionLimit) (hu : un + 40 < cLine)
    (hIG : @Ne Nat I G) (aG : AllNe G imm) (aI : AllNe I imm) (Z : GbG imm d V vs n IG dI tp u) (hq : (tq, tup2 x y) ∈ imm) (hx : vs[i]? = some (.ref tq))
    (h : ∀ h' tk, PostS (frs (env :: outer)) ((G, gbO d grp ck cv hck hcv htk (.ref I) (.ref IG) ser tk0) :: (I, itL V i) :: imm)
      ((G, gbO d grp x (.ref tq) true true htk (.ref I) (.ref IG) ser tk0) :: (I, itL V (i + 1)) :: imm) [] s.heap h' → Q .none { s with heap := h', toks := tk }) :
    wpAny (model PG w) (top dp un gd (env :: outer)) (call (.ref 92) [.ref G]) Q E s := by
  obtain ⟨hd, hV, hIG', hdI, htp⟩ := Z
  k_dflt cell_enter
  intro g L₁ h₁ F₁ N₁ B₁ X₁ T₁ G₁ k₁
  replace F₁ : Fr g L₁ h₁ (bnd [("self", .ref G)]) := F₁
  k_steps
  unfold Lv
  refine pull_item B₁ F₁ XB TB (by rfl) (by rfl) (fun p hp => N₁ p (.tail _ hp)) (by ktr_room) aI hV hx ?_
  intro h₂ k₂ t₂ P₂
  obtain ⟨g₂, T₂, F₂, N₂, B₂, a₂⟩ := behind1 B₁ F₁ N₁ rfl P₂ (fun p hp => .tail _ hp) rfl (rest := [(G, gbO d grp ck cv hck hcv htk (.ref I) (.ref IG) ser tk0)]) (List.forall_mem_singleton.mpr ⟨.head _, hIG, aG⟩)
  clear P₂
  simp only [List.cons_append, List.nil_append] at N₂
  have X₂ := XB.keeps B₂.stays
  have TT₂ := TB.keeps B₂.stays
  have G₂ := G₁.turn T₂
  clear F₁ N₁ B₁ X₁ T₁ G₁ T₂
  k_steps
  unfold Lv
  rename News g₂ _ _ _ => N₃
  rename Fr g₂ _ _ _ => F₃
  refine ig_call B₂ F₃ XB TB (by rfl) (by rfl) (fun p hp => N₃ p (.tail _ (.tail _ (.tail _ hp)))) (by ktr_room) (by ktr_units) hIG' hdI htp hq ?_
  intro h₃ k₃ P₃
  obtain ⟨g₃, T₃, F₄, N₄, B₃⟩ := behind0 B₂ F₃ N₃ rfl P₃ (fun p hp => .tail _ (.tail _ (.tail _ hp))) rfl (rest := [(G, gbO d grp ck cv hck hcv htk (.ref I) (.ref IG) ser tk0), (I, itL V (i + 1))]) (List.forall_mem_cons.mpr ⟨⟨.tail _ (.head _), aG⟩, List.forall_mem_singleton.mpr ⟨.tail _ (.tail _ (.head _)), aI⟩⟩)
  clear P₃
  simp only [List.cons_append, List.nil_append] at N₄
  have X₃ := XB.keeps B₃.stays
  have TT₃ := TB.keeps B₃.stays
  have G₃ := G₂.turn T₃
  clear F₃ N₃ B₂ X₂ TT₂ G₂ T₃
  k_steps
  exact h _ _ (end_none G₃ (by assumption) (by assumption) (fun p hp => hp))
set_option maxHeartbeats 4000000 in
theorem step_stop (B : Below A₀ base outer h₀) (F : Fr h₀ L s.heap m) (XB : (KF w.params).In base) (TB : Top p loose mean mg mb base) (hf : env.frame = some L) (hk : env.scope.kind = .function) {io io' : Obj} (N : News h₀ L s.heap ((G, gbO d grp ck cv hck hcv htk (.ref I) (.ref IG) ser tk0) :: (I, io) :: imm)) (hdp : dp + 10 < recursionLimit)
    (hIG : @Ne Nat I G) (aG : AllNe G imm) (aI : AllNe I imm) (hd : (d, dictOf [] 0) ∈ imm) (hV : (V, listOf vs n) ∈ imm) (hx : Ends V vs io io')
    (h : ∀ h' tk e, Raised ((G, gbO d grp ck cv hck hcv htk (.ref I) (.ref IG) ser tk0) :: (I, io) :: imm) ((G, gbO d grp ck cv hck hcv htk (.ref I) (.ref IG) ser tk0) :: (I, io') :: imm) (env :: outer) e s.heap h' → E (.ref e) { s with heap := h', toks := tk }) :
    wpAny (model PG w) (top dp un gd (env :: outer)) (call (.ref 92) [.ref G]) Q E s := by
  k_dflt cell_enter
  intro g L₁ h₁ F₁ N₁ B₁ X₁ T₁ G₁ k₁
  replace F₁ : Fr g L₁ h₁ (bnd [("self", .ref G)]) := F₁
  k_steps
  unfold Lv
  refine pull_stop B₁ F₁ XB TB (by rfl) (by rfl) (fun p hp => N₁ p (.tail _ hp)) (by ktr_room) aI hV hx ?_
  intro h₂ k₂ t₂ P₂
  obtain ⟨g₂, T₂, F₂, N₂, B₂, a₂⟩ := behind1 B₁ F₁ N₁ rfl P₂ (fun p hp => .tail _ hp) rfl (rest := [(G, gbO d grp ck cv hck hcv htk (.ref I) (.ref IG) ser tk0)]) (List.forall_mem_singleton.mpr ⟨.head _, hIG, aG⟩)
  clear P₂
  simp only [List.cons_append, List.nil_append] at N₂
  have X₂ := XB.keeps B₂.stays
  have TT₂ := TB.keeps B₂.stays
  have G₂ := G₁.turn T₂
  clear F₁ N₁ B₁ X₁ T₁ G₁ T₂
  k_steps
  unfold Lv
  rename News g₂ _ _ _ => N₃
  rename Fr g₂ _ _ _ => F₃
  rename Heap.MadeExc _ _ _ _ _ => x₃
  exact leave_newT B₂ G₂ F₃ N₃ x₃.newExc (sub_l fun p hp => .tail _ hp) fun h' R => h _ _ _ R
end
end

section
open PySem PySem.W PyProof.Rows PySem.Calls PySem.Spec
set_option maxHeartbeats 4000000 in
theorem gb_new {w : World} {p : Program} {loose : List Str} {mean : ExcName → Option Value} {mg mb : Str → Option Value} {dp un : Nat} {gd : Option (List Code)} {env : Env} {outer : List Env} {A₀ : Around} {base h₀ : Heap} {L : Addr} {m : Str → Option Value} {s : Shared} {Q E : Value → Shared → Prop}
    {V IG : Addr} {vs : Array Value} {n : Nat} {imm : List (Addr × Obj)} (B : Below A₀ base outer h₀) (F : Fr h₀ L s.heap m) (XB : (KF w.params).In base) (TB : Top p loose mean mg mb base) (hf : env.frame = some L) (hk : env.scope.kind = .function) (N : News h₀ L s.heap imm) (hdp : dp + 5 < recursionLimit) (hV : (V, listOf vs n) ∈ imm)
    (h : ∀ x dx I t u h' tk, PostS (frs (env :: outer)) imm imm [(x, gbO dx (.int 0 t) .none .none false false false (.ref I) (.ref IG) (.int 0 u) .none), (dx, dictOf [] 0), (I, itL V 0)] s.heap h' → @Ne Nat I x → Q (.ref x) { s with heap := h', toks := tk }) :
    wpAny (model PG w) (top dp un gd (env :: outer)) (call (.ref 103) [.ref V] [(Str.ofString "key", .ref IG)]) Q E s := by
  have X : (KF w.params).In h₀ := XB.keeps B.stays
  refine call_clsP F X N (by k_is) (by k_is) (by k_is) ?_
  intro x dx h₁ kx fx fdx F₁ N₁ e1 e2 e3
  k_dflt cell_enter
  intro g L₁ h₂ F₂ N₂ B₂ X₂ T₂ G₂ k₁
  replace F₂ : Fr g L₁ h₂ (bnd [("key", .ref IG), ("iterable", .ref V), ("self", .ref x)]) := F₂
  k_steps
  exact ⟨rfl, h _ _ _ _ _ _ _ (.of_obj kx fx fdx (end_one (upd := (x, gbO dx _ _ _ _ _ _ _ _ _ _) :: (dx, dictOf [] 0) :: imm) G₂ (by assumption) (by assumption) (fun p hp => .tail _ hp) (.head _) (by tb_start))) (by refine Ne.symm ?_; assumption)⟩
end

section
open PySem PySem.W PyProof.Rows PySem.Calls PySem.Spec
/-- the group's object -/
abbrev grO (d : Addr) (num : Value) (par tk : Value) : Obj := { cls := .ref 148, dict := some d, data := .plain, slots := #[some num, some par, some tk] }
set_option maxHeartbeats 4000000 in
theorem gr_new {w : World} {p : Program} {loose : List Str} {mean : ExcName → Option Value} {mg mb : Str → Option Value} {dp un : Nat} {gd : Option (List Code)} {env : Env} {outer : List Env} {A₀ : Around} {base h₀ : Heap} {L : Addr} {m : Str → Option Value} {s : Shared} {Q E : Value → Shared → Prop}
    {G d : Addr} {grp ck cv it kf tk0 k : Value} {hck hcv htk : Bool} {sn : Int} {t0 : Tok} {imm : List (Addr × Obj)} (B : Below A₀ base outer h₀) (F : Fr h₀ L s.heap m) (XB : (KF w.params).In base) (TB : Top p loose mean mg mb base) (hf : env.frame = some L) (hk : env.scope.kind = .function) (N : News h₀ L s.heap ((G, gbO d grp ck cv hck hcv htk it kf (.int sn t0) tk0) :: imm)) (hdp : dp + 5 < recursionLimit) (aG : AllNe G imm) (hdd : (d, dictOf [] 0) ∈ imm)
    (h : ∀ x dx t h' tk, PostS (frs (env :: outer)) ((G, gbO d grp ck cv hck hcv htk it kf (.int sn t0) tk0) :: imm) ((G, gbO d (.int (sn + 1) t) ck cv hck hcv htk it kf (.int (sn + 1) t) tk0) :: imm) [(x, grO dx (.int (sn + 1) t) (.ref G) k), (dx, dictOf [] 0)] s.heap h' → Q (.ref x) { s with heap := h', toks := tk }) :
    wpAny (model PG w) (top dp un gd (env :: outer)) (call (.ref 148) [.ref G, k]) Q E s := by
  have X := XB.keeps B.stays
  refine call_clsP F X N (by k_is) (by k_is) (by k_is) ?_
  intro x dx h₁ kx fx fdx F₁ N₁ e1 e2 e3
  obtain ⟨e4, e2⟩ := e2
  obtain ⟨e5, e3⟩ := e3
  k_dflt cell_enter
  intro g L₁ h₂ F₂ N₂ B₂ X₂ T₂ G₂ k₁
  replace F₂ : Fr g L₁ h₂ (bnd [("tgtkey", k), ("parent", .ref G), ("self", .ref x)]) := F₂
  k_steps
  exact ⟨rfl, h _ _ _ _ _ (.of_obj kx fx fdx (end_none (upd := (x, grO dx _ _ _) :: (dx, dictOf [] 0) :: (G, gbO d _ _ _ _ _ _ _ _ _ _) :: imm) G₂ (by assumption) (by assumption) (fun p hp => hp)))⟩
end

section
open PySem PySem.W PyProof.Rows PySem.Calls PySem.Spec
section
variable {w : World} {p : Program} {loose : List Str} {mean : ExcName → Option Value} {mg mb : Str → Option Value} {dp un : Nat} {gd : Option (List Code)} {env : Env} {outer : List Env} {A₀ : Around} {base h₀ : Heap} {L : Addr} {m : Str → Option Value} {s : Shared} {Q E : Value → Shared → Prop} {G d V I IG dI tp tq : Addr} {vs : Array Value} {n i i' : Nat} {u t0 : Tok} {y grp ck cv tk0 : Value} {sn b : Int} {tb : Tok} {hck hcv htk : Bool} {imm : List (Addr × Obj)}
/-- the two states from which a new group comes -/
inductive GbAt (vs : Array Value) (i i' : Nat) (tq : Addr) (b : Int) (tb : Tok) (ck cv : Value) (hck hcv htk : Bool) (tk0 : Value) : Prop
  | first (hx : vs[i]? = some (.ref tq)) (e1 : hck = false) (e2 : htk = false) (e3 : i' = i + 1)
  | next (e1 : hck = true) (e2 : htk = true) (e3 : hcv = true) (e4 : i' = i) (e5 : ck = .int b tb) (e6 : cv = .ref tq) (a : Int) (ta : Tok) (ea : tk0 = .int a ta) (ha : ta ≠ 0) (hb : tb ≠ 0) (hi : -5 ≤ a ∧ a ≤ 256) (hab : ta = tb → a = b) (ne : a ≠ b)
set_option maxHeartbeats 4000000 in
theorem gb_next (B : Below A₀ base outer h₀) (F : Fr h₀ L s.heap m) (XB : (KF w.params).In base) (TB : Top p loose mean mg mb base) (hf : env.frame = some L) (hk : env.scope.kind = .function) (N : News h₀ L s.heap ((G, gbO d grp ck cv hck hcv htk (.ref I) (.ref IG) (.int sn t0) tk0) :: (I, itL V i) :: imm)) (hdp : dp + 20 < recursionLimit) (hu : un + 60 < cLine)
    (hIG : @Ne Nat I G) (aG : AllNe G imm) (aI : AllNe I imm) (Z : GbG imm d V vs n IG dI tp u) (hq : (tq, tup2 (.int b tb) y) ∈ imm) (hat : GbAt vs i i' tq b tb ck cv hck hcv htk tk0)
    (h : ∀ h' tk t r dr o, PostS (frs (env :: outer)) ((G, gbO d grp ck cv hck hcv htk (.ref I) (.ref IG) (.int sn t0) tk0) :: (I, itL V i) :: imm)
      ((G, gbO d (.int (sn + 1) t) (.int b tb) (.ref tq) true true true (.ref I) (.ref IG) (.int (sn + 1) t) (.int b tb)) :: (I, itL V i') :: imm) [(o, tup2 (.int b tb) (.ref r)), (r, grO dr (.int (sn + 1) t) (.ref G) (.int b tb)), (dr, dictOf [] 0)] s.heap h' → Q (.ref o) { s with heap := h', toks := tk }) :
    wpAny (model PG w) (top dp un gd (env :: outer)) (call (.ref 99) [.ref G]) Q E s := by
  k_dflt cell_enter
  intro g L₁ h₁ F₁ N₁ B₁ X₁ T₁ G₁ k₁
  have hl1 : Halt "exec While" := .mk _
  replace F₁ : Fr g L₁ h₁ (bnd [("self", .ref G)]) := F₁
  have hdd := Z.hd
  k_steps
  unfold Lv
  rename News g _ _ _ => N₂
  rename Fr g _ _ _ => F₂
  obtain ⟨Qm, hQm⟩ : ∃ Qm : Flow → Shared → Prop, Qm = fun fl s' => fl = .next ∧ ∃ h' tk g' t, s' = { s with heap := h', toks := tk } ∧ Gs (frs (env :: outer)) ((G, gbO d grp ck cv hck hcv htk (.ref I) (.ref IG) (.int sn t0) tk0) :: (I, itL V i) :: imm) s.heap g' ∧ Fr g' L₁ h' (bnd [("self", .ref G)]) ∧
    News g' L₁ h' ((G, gbO d (.int 0 t) (.int b tb) (.ref tq) true true htk (.ref I) (.ref IG) (.int sn t0) tk0) :: (I, itL V i') :: imm) ∧ Below (top dp un gd (env :: outer)) base (env :: outer) g' := ⟨_, rfl⟩
  refine wpAny_mono (Q := Qm) ?_ ?_ fun _ _ e => e
  · refine whl_start 3 (whl_turn (by passes_own) ?_)
    rcases hat with ⟨hx, rfl, rfl, rfl⟩ | ⟨rfl, rfl, rfl, rfl, rfl, rfl, a, ta, rfl, ha, hb, hi, hab, ne⟩
    · k_steps
      unfold Lv
      rename News g _ _ _ => N₃
      rename Fr g _ _ _ => F₃
      refine step_item B₁ F₃ XB TB (by rfl) (by rfl) N₃ (by ktr_room) (by ktr_units) hIG aG aI Z hq hx ?_
      intro h₃ k₃ P₃
      obtain ⟨g₃, T₃, F₄, N₄, B₃⟩ := behind0 B₁ F₃ N₃ rfl P₃ (fun p hp => hp) rfl (rest := []) (fun p hp => nomatch hp)
      simp only [List.nil_append] at N₄
      have X₃ := XB.keeps B₃.stays
      have TT₃ := TB.keeps B₃.stays
      have G₃ := G₁.turn T₃
      clear P₃
      k_steps
      exact hQm ▸ ⟨rfl, _, _, _, _, rfl, G₃, by assumption, N₄, B₃⟩
    · k_steps
      unfold Lv
      rename News g _ _ _ => N₃
      rename Fr g _ _ _ => F₃
      refine same_c B₁ F₃ XB TB (by rfl) (by rfl) (fun p hp => nomatch hp) (by ktr_room) ha hb hi hab ?_
      intro h₃ k₃ P₃
      obtain ⟨g₃, T₃, F₄, N₄, B₃⟩ := behind0 B₁ F₃ N₃ rfl P₃ (fun p hp => nomatch hp) rfl (fun p hp => ⟨hp, trivial⟩)
      simp only [List.append_nil] at N₄
      have X₃ := XB.keeps B₃.stays
      have TT₃ := TB.keeps B₃.stays
      have G₃ := G₁.turn T₃
      clear P₃
      simp only [ne, decide_false]
      k_steps
      exact hQm ▸ ⟨rfl, _, _, _, _, rfl, G₃, by assumption, by assumption, B₃⟩
  · intro fl s' q
    rw [hQm] at q
    obtain ⟨rfl, h', tk, g', t, rfl, G₂, F₃, N₃, B₃⟩ := q
    clear hQm F₂ N₂ B₁ X₁ T₁ G₁
    have X₃ := XB.keeps B₃.stays
    have TT₃ := TB.keeps B₃.stays
    k_steps
    unfold Lv
    rename News g' _ _ _ => N₄
    rename Fr g' _ _ _ => F₄
    refine gr_new B₃ F₄ XB TB (by rfl) (by rfl) (fun p hp => N₄ p ((List.mem_cons.mp hp).elim (fun e => e ▸ .head _) fun q => .tail _ (.tail _ q))) (by ktr_room) aG hdd ?_
    intro r dr t₃ h₃ k₃ P₃
    obtain ⟨g₄, T₄, F₅, N₅, B₅, a₃⟩ := behindN B₃ F₄ N₄ rfl P₃ (fun p hp => (List.mem_cons.mp hp).elim (fun e => e ▸ .head _) fun q => .tail _ (.tail _ q)) rfl (rest := [(I, itL V i')]) (List.forall_mem_singleton.mpr ⟨.tail _ (.head _), Ne.symm hIG, aI⟩)
    clear P₃ N₄ F₄
    simp only [List.cons_append, List.nil_append] at N₅
    have X₄ := XB.keeps B₅.stays
    have TT₄ := TB.keeps B₅.stays
    have G₄ := G₂.turn T₄
    k_steps
    exact h _ _ _ _ _ _ (end_post G₄ (by assumption) (by assumption) ⟨.tail _ (.tail _ (.tail _ (.tail _ (.head _)))), .tail _ (.tail _ (.tail _ (.head _))), sub_l fun p hp => .tail _ (.tail _ (.tail _ (.tail _ (.tail _ hp))))⟩ ⟨⟨.head _, by rename_i l1; exact ⟨Nat.ne_of_lt l1.2.2.2.1, Nat.ne_of_lt l1.2.2.1, allNe_lt l1.2.2.2.2⟩⟩, ⟨.tail _ (.head _), a₃ _ (.head _)⟩, ⟨.tail _ (.tail _ (.head _)), a₃ _ (.tail _ (.head _))⟩, trivial⟩)
set_option maxHeartbeats 4000000 in
theorem gb_stop (B : Below A₀ base outer h₀) (F : Fr h₀ L s.heap m) (XB : (KF w.params).In base) (TB : Top p loose mean mg mb base) (hf : env.frame = some L) (hk : env.scope.kind = .function) {io io' : Obj} (N : News h₀ L s.heap ((G, gbO d grp ck cv false hcv htk (.ref I) (.ref IG) (.int sn t0) tk0) :: (I, io) :: imm)) (hdp : dp + 20 < recursionLimit)
    (hIG : @Ne Nat I G) (aG : AllNe G imm) (aI : AllNe I imm) (hdd : (d, dictOf [] 0) ∈ imm) (hV : (V, listOf vs n) ∈ imm) (hx : Ends V vs io io')
    (h : ∀ h' tk t e, Raised ((G, gbO d grp ck cv false hcv htk (.ref I) (.ref IG) (.int sn t0) tk0) :: (I, io) :: imm) ((G, gbO d (.int 0 t) ck cv false hcv htk (.ref I) (.ref IG) (.int sn t0) tk0) :: (I, io') :: imm) (env :: outer) e s.heap h' → E (.ref e) { s with heap := h', toks := tk }) :
    wpAny (model PG w) (top dp un gd (env :: outer)) (call (.ref 99) [.ref G]) Q E s := by
  k_dflt cell_enter
  intro g L₁ h₁ F₁ N₁ B₁ X₁ T₁ G₁ k₁
  have hl1 : Halt "exec While" := .mk _
  replace F₁ : Fr g L₁ h₁ (bnd [("self", .ref G)]) := F₁
  k_steps
  unfold Lv
  refine whl_start 1 (whl_turn (by passes_own) ?_)
  k_steps
  unfold Lv
  rename News g _ _ _ => N₂
  rename Fr g _ _ _ => F₂
  refine step_stop B₁ F₂ XB TB (by rfl) (by rfl) N₂ (by ktr_room) hIG aG aI hdd hV hx ?_
  intro h₃ k₃ e R₃
  exact leave_onT B₁ G₁ F₂ N₂ R₃ (sub_l fun p hp => hp) (fun p hp => .inl hp) fun h' R => h _ _ _ _ R
end
end

section
open PySem PySem.W PyProof.Rows PySem.Calls PySem.Spec
local macro_rules | `(tactic| walk_at "ite") => `(tactic| (with_reducible refine ite_bne_self ?_))
local macro_rules | `(tactic| walk_at "exec If") => `(tactic| (k_here; (with_reducible show wpAny _ _ (exec (Stmt.If (Expr.UnaryOp _ (Expr.Attribute _ _ _) _) _ _ _) _) _ _ _); refine Lv.in ?_))
section
variable {w : World} {p : Program} {loose : List Str} {mean : ExcName → Option Value} {mg mb : Str → Option Value} {dp un : Nat} {gd : Option (List Code)} {env : Env} {outer : List Env} {A₀ : Around} {base h₀ : Heap} {L : Addr} {m : Str → Option Value} {s : Shared} {Q E : Value → Shared → Prop} {R dR G d V I IG dI tp tq : Addr} {vs : Array Value} {n i i' : Nat} {u t0 t1 ta tb : Tok} {y grp ck cv tk0 : Value} {a b sn : Int} {hck hcv htk : Bool} {imm : List (Addr × Obj)}
/-- the two states in which a group looks at its next value -/
inductive GrAt (vs : Array Value) (i i' : Nat) (tq : Addr) (b : Int) (tb : Tok) (ck cv : Value) (hck hcv : Bool) : Prop
  | first (hx : vs[i]? = some (.ref tq)) (e1 : hcv = false) (e3 : i' = i + 1)
  | next (e1 : hck = true) (e3 : hcv = true) (e4 : i' = i) (e5 : ck = .int b tb) (e6 : cv = .ref tq)
set_option maxHeartbeats 4000000 in
theorem gr_next (B : Below A₀ base outer h₀) (F : Fr h₀ L s.heap m) (XB : (KF w.params).In base) (TB : Top p loose mean mg mb base) (hf : env.frame = some L) (hk : env.scope.kind = .function) (N : News h₀ L s.heap ((R, grO dR (.int sn t0) (.ref G) (.int a ta)) :: (G, gbO d (.int sn t0) ck cv hck hcv true (.ref I) (.ref IG) (.int sn t0) tk0) :: (I, itL V i) :: imm)) (hdp : dp + 20 < recursionLimit) (hu : un + 60 < cLine)
    (hIG : @Ne Nat I G) (hRG : @Ne Nat R G) (hRI : @Ne Nat R I) (aG : AllNe G imm) (aI : AllNe I imm) (aR : AllNe R imm) (Z : GbG imm d V vs n IG dI tp u) (hdR : (dR, dictOf [] 0) ∈ imm) (hq : (tq, tup2 (.int b tb) y) ∈ imm) (hat : GrAt vs i i' tq b tb ck cv hck hcv)
    (ha : ta ≠ 0) (hb : tb ≠ 0) (hi : -5 ≤ a ∧ a ≤ 256) (hab : ta = tb → a = b)
    (h : a = b → ∀ h' tk, PostS (frs (env :: outer)) ((R, grO dR (.int sn t0) (.ref G) (.int a ta)) :: (G, gbO d (.int sn t0) ck cv hck hcv true (.ref I) (.ref IG) (.int sn t0) tk0) :: (I, itL V i) :: imm)
      ((R, grO dR (.int sn t0) (.ref G) (.int a ta)) :: (G, gbO d (.int sn t0) .none .none false false true (.ref I) (.ref IG) (.int sn t0) tk0) :: (I, itL V i') :: imm) [] s.heap h' → Q (.ref tq) { s with heap := h', toks := tk })
    (h' : a ≠ b → ∀ h' tk e, Raised ((R, grO dR (.int sn t0) (.ref G) (.int a ta)) :: (G, gbO d (.int sn t0) ck cv hck hcv true (.ref I) (.ref IG) (.int sn t0) tk0) :: (I, itL V i) :: imm)
      ((R, grO dR (.int sn t0) (.ref G) (.int a ta)) :: (G, gbO d (.int sn t0) (.int b tb) (.ref tq) true true true (.ref I) (.ref IG) (.int sn t0) tk0) :: (I, itL V i') :: imm) (env :: outer) e s.heap h' → E (.ref e) { s with heap := h', toks := tk }) :
    wpAny (model PG w) (top dp un gd (env :: outer)) (call (.ref 144) [.ref R]) Q E s := by
  have hdd := Z.hd
  k_dflt cell_enter
  intro g L₁ h₁ F₁ N₁ B₁ X₁ T₁ G₁ k₁
  replace F₁ : Fr g L₁ h₁ (bnd [("self", .ref R)]) := F₁
  k_steps
  unfold Lv
  rename News g _ _ _ => N₂
  rename Fr g _ _ _ => F₂
  obtain ⟨Qm, hQm⟩ : ∃ Qm : Flow → Shared → Prop, Qm = fun fl s' => fl = .next ∧ ∃ h' tk g', s' = { s with heap := h', toks := tk } ∧ Gs (frs (env :: outer)) ((R, grO dR (.int sn t0) (.ref G) (.int a ta)) :: (G, gbO d (.int sn t0) ck cv hck hcv true (.ref I) (.ref IG) (.int sn t0) tk0) :: (I, itL V i) :: imm) s.heap g' ∧ Fr g' L₁ h' (fun y => if y = Str.ofString "gbo" then some (.ref G) else bnd [("self", .ref R)] y) ∧
    News g' L₁ h' ((R, grO dR (.int sn t0) (.ref G) (.int a ta)) :: (G, gbO d (.int sn t0) (.int b tb) (.ref tq) true true true (.ref I) (.ref IG) (.int sn t0) tk0) :: (I, itL V i') :: imm) ∧ Below (top dp un gd (env :: outer)) base (env :: outer) g' := ⟨_, rfl⟩
  refine wpAny_mono (Q := Qm) ?_ ?_ fun _ _ e => e
  · rcases hat with ⟨hx, rfl, rfl⟩ | ⟨rfl, rfl, rfl, rfl, rfl⟩
    · refine wpAny_If ?_
      k_steps
      unfold Lv
      refine step_item B₁ F₂ XB TB (by rfl) (by rfl) (fun p hp => N₂ p (.tail _ hp)) (by ktr_room) (by ktr_units) hIG aG aI Z hq hx ?_
      intro h₃ k₃ P₃
      obtain ⟨g₃, T₃, F₄, N₄, B₃⟩ := behind0 B₁ F₂ N₂ rfl P₃ (fun p hp => .tail _ hp) rfl (rest := [(R, grO dR (.int sn t0) (.ref G) (.int a ta))]) (List.forall_mem_singleton.mpr ⟨.head _, Ne.symm hRG, Ne.symm hRI, aR⟩)
      simp only [List.cons_append, List.nil_append] at N₄
      have X₃ := XB.keeps B₃.stays
      have TT₃ := TB.keeps B₃.stays
      have G₃ := G₁.turn T₃
      clear P₃
      k_steps
      exact hQm ▸ ⟨rfl, _, _, _, rfl, G₃, by assumption, N₄, B₃⟩
    · refine wpAny_If ?_
      k_steps
      exact hQm ▸ ⟨rfl, _, _, _, rfl, G₁, by assumption, by assumption, B₁⟩
  · intro fl s' q
    rw [hQm] at q
    obtain ⟨rfl, h₂, tk, g', rfl, G₂, F₃, N₃, B₃⟩ := q
    have X₃ := XB.keeps B₃.stays
    have TT₃ := TB.keeps B₃.stays
    clear hQm F₂ N₂ B₁ X₁ T₁ G₁
    k_steps
    unfold Lv
    refine same_c B₃ F₃ XB TB (by rfl) (by rfl) (fun p hp => nomatch hp) (by ktr_room) ha hb hi hab ?_
    intro h₃ k₃ P₃
    obtain ⟨g₄, T₄, F₄, N₄, B₄⟩ := behind0 B₃ F₃ N₃ rfl P₃ (fun p hp => nomatch hp) rfl (fun p hp => ⟨hp, trivial⟩)
    simp only [List.append_nil] at N₄
    have X₄ := XB.keeps B₄.stays
    have TT₄ := TB.keeps B₄.stays
    have G₄ := G₂.turn T₄
    clear P₃ F₃ N₃ B₃ G₂ X₃ TT₃
    by_cases e : a = b
    · simp only [e, decide_true]
      k_steps
      exact h e _ _ (end_none G₄ (by assumption) (by assumption) (fun p hp => hp))
    · simp only [e, decide_false]
      k_steps
      unfold Lv
      rename Heap.MadeExc _ _ _ _ _ => x₃
      rename News g₄ _ _ _ => N₅
      rename Fr g₄ _ _ _ => F₅
      exact leave_newT B₄ G₄ F₅ N₅ x₃.newExc (sub_l fun p hp => hp) fun _ R => h' e _ _ _ R
set_option maxHeartbeats 4000000 in
theorem gr_stop (B : Below A₀ base outer h₀) (F : Fr h₀ L s.heap m) (XB : (KF w.params).In base) (TB : Top p loose mean mg mb base) (hf : env.frame = some L) (hk : env.scope.kind = .function) {io io' : Obj} (N : News h₀ L s.heap ((R, grO dR (.int sn t0) (.ref G) (.int a ta)) :: (G, gbO d (.int sn t0) ck cv hck false htk (.ref I) (.ref IG) (.int sn t0) tk0) :: (I, io) :: imm)) (hdp : dp + 20 < recursionLimit)
    (hIG : @Ne Nat I G) (hRG : @Ne Nat R G) (hRI : @Ne Nat R I) (aG : AllNe G imm) (aI : AllNe I imm) (aR : AllNe R imm) (hdd : (d, dictOf [] 0) ∈ imm) (hdR : (dR, dictOf [] 0) ∈ imm) (hV : (V, listOf vs n) ∈ imm) (hx : Ends V vs io io')
    (h : ∀ h' tk e, Raised ((R, grO dR (.int sn t0) (.ref G) (.int a ta)) :: (G, gbO d (.int sn t0) ck cv hck false htk (.ref I) (.ref IG) (.int sn t0) tk0) :: (I, io) :: imm)
      ((R, grO dR (.int sn t0) (.ref G) (.int a ta)) :: (G, gbO d (.int sn t0) ck cv hck false htk (.ref I) (.ref IG) (.int sn t0) tk0) :: (I, io') :: imm) (env :: outer) e s.heap h' → E (.ref e) { s with heap := h', toks := tk }) :
    wpAny (model PG w) (top dp un gd (env :: outer)) (call (.ref 144) [.ref R]) Q E s := by
  k_dflt cell_enter
  intro g L₁ h₁ F₁ N₁ B₁ X₁ T₁ G₁ k₁
  replace F₁ : Fr g L₁ h₁ (bnd [("self", .ref R)]) := F₁
  k_steps
  unfold Lv
  refine wpAny_If ?_
  k_steps
  unfold Lv
  rename News g _ _ _ => N₂
  rename Fr g _ _ _ => F₂
  refine step_stop B₁ F₂ XB TB (by rfl) (by rfl) (fun p hp => N₂ p (.tail _ hp)) (by ktr_room) hIG aG aI hdd hV hx ?_
  intro h₃ k₃ e R₃
  exact leave_onT B₁ G₁ F₂ N₂ R₃ (sub_l fun p hp => .tail _ hp) (List.forall_mem_cons.mpr ⟨.inr ⟨.head _, Ne.symm hRG, Ne.symm hRI, aR⟩, fun p hp => .inl hp⟩) fun h' R => h _ _ _ R
end
end

section
open PySem PySem.W PyProof.Rows PySem.Calls PySem.Spec
section
variable {w : World} {p : Program} {loose : List Str} {mean : ExcName → Option Value} {mg mb : Str → Option Value} {dp un : Nat} {gd : Option (List Code)} {env : Env} {outer : List Env} {A₀ : Around} {base h₀ : Heap} {L : Addr} {m : Str → Option Value} {s : Shared} {Q E : Value → Shared → Prop} {i : Int} {t : Tok} {imm : List (Addr × Obj)}
set_option maxHeartbeats 4000000 in
theorem kind_int (B : Below A₀ base outer h₀) (F : Fr h₀ L s.heap m) (XB : (KF w.params).In base) (TB : Top p loose mean mg mb base) (hf : env.frame = some L) (hk : env.scope.kind = .function) (N : News h₀ L s.heap imm) (hdp : dp + 1 < recursionLimit) (h : ∀ h' tk u, PostS (frs (env :: outer)) imm imm [] s.heap h' → Q (.int 0 u) { s with heap := h', toks := tk }) :
    wpAny (model PG w) (top dp un gd (env :: outer)) (call (.ref 160) [.int i t]) Q E s := by
  k_dflt cell_enter
  intro g L₁ h₁ F₁ N₁ B₁ X₁ T₁ G₁ k₁
  replace F₁ : Fr g L₁ h₁ (bnd [("x", .int i t)]) := F₁
  k_steps
  exact h _ _ _ (end_none G₁ (by assumption) (by assumption) (fun p hp => hp))
/-- the count's object -/
abbrev ctO (d : Addr) (c : Value) (u : Tok) : Obj := { cls := .ref 201, dict := some d, data := .plain, slots := #[some c, some (.bool true), some (.int 1 u)] }
set_option maxHeartbeats 4000000 in
theorem ct_new (B : Below A₀ base outer h₀) (F : Fr h₀ L s.heap m) (XB : (KF w.params).In base) (TB : Top p loose mean mg mb base) (hf : env.frame = some L) (hk : env.scope.kind = .function) (N : News h₀ L s.heap imm) (hdp : dp + 10 < recursionLimit)
    (h : ∀ x dx t u h' tk, PostS (frs (env :: outer)) imm imm [(x, ctO dx (.int 0 t) u), (dx, dictOf [] 0)] s.heap h' → Q (.ref x) { s with heap := h', toks := tk }) :
    wpAny (model PG w) (top dp un gd (env :: outer)) (call (.ref 201) []) Q E s := by
  have X := XB.keeps B.stays
  refine call_clsP F X N (by k_is) (by k_is) (by k_is) ?_
  intro x dx h₁ kx fx fdx F₁ N₁ e1 e2 e3
  k_dflt cell_enter
  intro g L₁ h₂ F₂ N₂ B₂ X₂ T₂ G₂ k₁
  replace F₂ : Fr g L₁ h₂ (bnd [("step", .int 1 _), ("start", .int 0 _), ("self", .ref x)]) := F₂
  k_steps
  unfold Lv
  rename News g _ _ _ => N₃
  rename Fr g _ _ _ => F₃
  refine kind_int (imm := []) B₂ F₃ XB TB (by rfl) (by rfl) (fun p hp => nomatch hp) (by ktr_room) ?_
  intro h₃ k₃ u₃ P₃
  obtain ⟨g₄, T₃, F₄, N₄, B₄⟩ := behind0 B₂ F₃ N₃ rfl P₃ (fun p hp => nomatch hp) rfl (fun p hp => ⟨hp, trivial⟩)
  simp only [List.append_nil] at N₄
  have X₃ := XB.keeps B₄.stays
  have TT₃ := TB.keeps B₄.stays
  have G₄ := G₂.turn T₃
  clear P₃
  k_steps
  unfold Lv
  rename News g₄ _ _ _ => N₃
  rename Fr g₄ _ _ _ => F₃
  refine kind_int (imm := []) B₄ F₃ XB TB (by rfl) (by rfl) (fun p hp => nomatch hp) (by ktr_room) ?_
  intro h₃ k₃ u₃ P₃
  obtain ⟨g₅, T₃, F₄, N₄, B₅⟩ := behind0 B₄ F₃ N₃ rfl P₃ (fun p hp => nomatch hp) rfl (fun p hp => ⟨hp, trivial⟩)
  simp only [List.append_nil] at N₄
  have X₃ := XB.keeps B₅.stays
  have TT₃ := TB.keeps B₅.stays
  have G₅ := G₄.turn T₃
  clear P₃
  k_steps
  exact ⟨rfl, h _ _ _ _ _ _ (.of_obj kx fx fdx (end_none (upd := (x, ctO dx (.int 0 _) _) :: (dx, dictOf [] 0) :: imm) G₅ (by assumption) (by assumption) (fun p hp => hp)))⟩
set_option maxHeartbeats 4000000 in
theorem ct_next {C dC : Addr} {u : Tok} (B : Below A₀ base outer h₀) (F : Fr h₀ L s.heap m) (XB : (KF w.params).In base) (TB : Top p loose mean mg mb base) (hf : env.frame = some L) (hk : env.scope.kind = .function) (N : News h₀ L s.heap ((C, ctO dC (.int i t) u) :: imm)) (aC : AllNe C imm) (hdC : (dC, dictOf [] 0) ∈ imm) (hdp : dp + 5 < recursionLimit)
    (h : ∀ h' tk t', PostS (frs (env :: outer)) ((C, ctO dC (.int i t) u) :: imm) ((C, ctO dC (.int (i + 1) t') u) :: imm) [] s.heap h' → Q (.int i t) { s with heap := h', toks := tk }) :
    wpAny (model PG w) (top dp un gd (env :: outer)) (call (.ref 190) [.ref C]) Q E s := by
  k_dflt cell_enter
  intro g L₁ h₁ F₁ N₁ B₁ X₁ T₁ G₁ k₁
  replace F₁ : Fr g L₁ h₁ (bnd [("self", .ref C)]) := F₁
  k_steps
  exact h _ _ _ (end_none G₁ (by assumption) (by assumption) (fun p hp => hp))
end
end

section
open PySem PySem.W PyProof.Rows PySem.Calls PySem.Spec
set_option maxHeartbeats 4000000 in
theorem ig_new {w : World} {p : Program} {loose : List Str} {mean : ExcName → Option Value} {mg mb : Str → Option Value} {dp un : Nat} {gd : Option (List Code)} {env : Env} {outer : List Env} {A₀ : Around} {base h₀ : Heap} {L : Addr} {m : Str → Option Value} {s : Shared} {Q E : Value → Shared → Prop} {u : Tok} {imm : List (Addr × Obj)} (B : Below A₀ base outer h₀) (F : Fr h₀ L s.heap m) (XB : (KF w.params).In base) (TB : Top p loose mean mg mb base) (hf : env.frame = some L) (hk : env.scope.kind = .function) (N : News h₀ L s.heap imm) (hdp : dp + 10 < recursionLimit)
    (h : ∀ x dx tp h' tk, PostS (frs (env :: outer)) imm imm [(x, igO dx tp), (dx, dictOf [] 0), (tp, tup1 (.int 0 u))] s.heap h' → Q (.ref x) { s with heap := h', toks := tk }) :
    wpAny (model PG w) (top dp un gd (env :: outer)) (call (.ref 246) [.int 0 u]) Q E s := by
  have X := XB.keeps B.stays
  refine call_clsP F X N (by k_is) (by k_is) (by k_is) ?_
  intro x dx h₁ kx fx fdx F₁ N₁ e1 e2 e3
  k_dflt (refine' enterS ?k1 ?k2 ?k3 ?k4 ?k5 ?kA ?kF ?kK ?k6 ?k7 ?k8 ?kP ?kG ?kB ?_ ?c2 ?c3 ?c4 ?c5; (case kA => exact rfl); (case kF => exact hf); (case kK => exact hk); (case k1 => exact B); (case k2 => exact F₁); (case k3 => exact XB); (case k4 => exact N₁); (case k5 => exact TB); (case k6 => k_is); (case k7 => k_is); (case k8 => ktr_room); (case kP => exact rfl); (case kG => exact fun _ => rfl); (case kB => exact fun _ => locs rfl); (case c5 => decide); (case c2 => exact rfl); (case c3 => exact rfl); (case c4 => exact rfl))
  intro D g L₁ h₂ lD F₂ N₂ B₂ X₂ T₂ G₂ k₁
  replace F₂ : Fr g L₁ h₂ (bnd [("items", .ref D), ("item", .int 0 u), ("self", .ref x)]) := F₂
  replace N₂ : News g L₁ h₂ ((D, { cls := .type "tuple", data := .seq #[] }) :: (x, instObj 246 dx) :: (dx, dictOf [] 0) :: imm) := N₂
  obtain ⟨m1, m2, m3⟩ := allNe_lt (allLt_of lD)
  k_steps
  rename _ ∧ _ ∧ _ => l1
  exact ⟨rfl, h _ _ _ _ _ (.of_obj kx fx fdx (end_one (upd := (x, igO dx _) :: (dx, dictOf [] 0) :: imm) G₂ (by assumption) (by assumption) (fun p hp => .tail _ (.tail _ hp)) (.head _) ⟨Nat.ne_of_lt l1.2.1, Nat.ne_of_lt l1.2.2.1, allNe_lt l1.2.2.2⟩))⟩
end

section
open PySem PySem.W PyProof.Rows PySem.Calls PySem.Spec
theorem PostS.trans {fs : List Addr} {own upd upd' : List (Addr × Obj)} {h h1 h2 : Heap} (P : PostS fs own upd [] h h1) (P' : PostS fs upd upd' [] h1 h2) (e : upd.map (·.1) = own.map (·.1)) : PostS fs own upd' [] h h2 :=
  ⟨⟨fun b o x n m => P'.1.1 b o (P.1.1 b o x n m) (e ▸ n) m, fun b o x m => by
    obtain ⟨sl, z⟩ := P.1.2 b o x m
    exact (P'.1.2 b _ z m).imp fun _ z => z⟩, P'.2.1, fun _ hp => nomatch hp⟩
section
variable {w : World} {p : Program} {loose : List Str} {mean : ExcName → Option Value} {mg mb : Str → Option Value} {dp un : Nat} {gd : Option (List Code)} {env : Env} {outer : List Env} {A₀ : Around} {base h₀ : Heap} {L : Addr} {m : Str → Option Value} {s : Shared} {Q E : Value → Shared → Prop} {R G : Addr}
set_option maxHeartbeats 4000000 in
theorem gr_self (B : Below A₀ base outer h₀) (F : Fr h₀ L s.heap m) (XB : (KF w.params).In base) (TB : Top p loose mean mg mb base) (hf : env.frame = some L) (hk : env.scope.kind = .function) (hdp : dp + 1 < recursionLimit) (h : ∀ h' tk, PostS (frs (env :: outer)) [] [] [] s.heap h' → Q (.ref R) { s with heap := h', toks := tk }) :
    wpAny (model PG w) (top dp un gd (env :: outer)) (call (.ref 137) [.ref R]) Q E s := by
  have N : News h₀ L s.heap [] := fun p hp => nomatch hp
  k_dflt cell_enter
  intro g L₁ h₁ F₁ N₁ B₁ X₁ T₁ G₁ k₁
  replace F₁ : Fr g L₁ h₁ (bnd [("self", .ref R)]) := F₁
  k_steps
  exact h _ _ (end_none G₁ (by assumption) (by assumption) (fun p hp => hp))
set_option maxHeartbeats 4000000 in
theorem gb_self (B : Below A₀ base outer h₀) (F : Fr h₀ L s.heap m) (XB : (KF w.params).In base) (TB : Top p loose mean mg mb base) (hf : env.frame = some L) (hk : env.scope.kind = .function) (hdp : dp + 1 < recursionLimit) (h : ∀ h' tk, PostS (frs (env :: outer)) [] [] [] s.heap h' → Q (.ref G) { s with heap := h', toks := tk }) :
    wpAny (model PG w) (top dp un gd (env :: outer)) (call (.ref 85) [.ref G]) Q E s := by
  have N : News h₀ L s.heap [] := fun p hp => nomatch hp
  k_dflt cell_enter
  intro g L₁ h₁ F₁ N₁ B₁ X₁ T₁ G₁ k₁
  replace F₁ : Fr g L₁ h₁ (bnd [("self", .ref G)]) := F₁
  k_steps
  exact h _ _ (end_none G₁ (by assumption) (by assumption) (fun p hp => hp))
end
/-- an element of the sorted list -/
structure El where
  tq : Addr
  key : Int
  tok : Tok
  pos : Value
abbrev El.val (e : El) : Value := .ref e.tq
abbrev El.k (e : El) : Value := .int e.key e.tok
/-- what is known of the elements -/
structure Els (imm : List (Addr × Obj)) (its : List El) : Prop where
  mem : ∀ e ∈ its, (e.tq, tup2 e.k e.pos) ∈ imm
  tok : ∀ e ∈ its, e.tok ≠ 0
  key : ∀ e ∈ its, 0 ≤ e.key ∧ e.key ≤ 8
  inj : ∀ e ∈ its, ∀ f ∈ its, e.tok = f.tok → e.key = f.key
/-- the groupby's object while a group is drawn: nothing drawn ahead | one drawn ahead -/
def gS (d : Addr) (sn : Int) (t0 : Tok) (I IG : Addr) (tk0 : Value) : Option El → Obj
  | none => gbO d (.int sn t0) .none .none false false true (.ref I) (.ref IG) (.int sn t0) tk0
  | some e => gbO d (.int sn t0) e.k e.val true true true (.ref I) (.ref IG) (.int sn t0) tk0
/-- the group of a key -/
def grp (a : Int) (rs : List El) : List El := rs.takeWhile (·.key == a)
def rst (a : Int) (rs : List El) : List El := rs.dropWhile (·.key == a)
section
variable {w : World} {p : Program} {loose : List Str} {mean : ExcName → Option Value} {mg mb : Str → Option Value} {dp un : Nat} {gd : Option (List Code)} {env : Env} {outer : List Env} {A₀ : Around} {base h₀ : Heap} {L : Addr} {m : Str → Option Value} {s : Shared} {Q E : Value → Shared → Prop} {R dR G d V I IG dI tp : Addr} {its rs : List El} {n : Nat} {u t0 : Tok} {e0 : El} {sn : Int} {imm : List (Addr × Obj)}
abbrev vsOf (its : List El) : Array Value := (its.map El.val).toArray
/-- where a place stands while things are drawn into the list `S` -/
structure Rel (fs : List Addr) (own upd : List (Addr × Obj)) (s s' : Shared) : Prop where
  eq : s' = { s with heap := s'.heap, toks := s'.toks }
  post : PostS fs own upd [] s.heap s'.heap
theorem Rel.upd {fs : List Addr} {own upd : List (Addr × Obj)} {s s' : Shared} (x : Rel fs own upd s s') (e : upd.map (·.1) = own.map (·.1)) (ho : ∀ p ∈ own, p.1 < s.heap.objs.size) (f : Obj → Obj) :
    Rel fs own upd s { s' with heap := s'.heap.update s.heap.objs.size f } := by
  have k : ∀ b, b < s.heap.objs.size → (s'.heap.update s.heap.objs.size f).get? b = s'.heap.get? b := fun b hb => Heap.get?_update_other _ _ (Nat.ne_of_gt hb)
  refine ⟨by rw [x.eq], ⟨fun b o y n m => (k b (Heap.lt_size y)).trans (x.post.1.1 b o y n m), fun b o y m => (x.post.1.2 b o y m).imp fun sl z => (k b (Heap.lt_size y)).trans z⟩, fun p hp => ?_, fun _ hp => nomatch hp⟩
  have : p.1 ∈ own.map (·.1) := by rw [← e]; exact List.mem_map_of_mem hp
  obtain ⟨r, hr, er⟩ := List.mem_map.mp this
  exact (k _ (er ▸ ho r hr)).trans (x.post.2.1 p hp)
/-- one more call -/
theorem Rel.call {fs : List Addr} {own upd upd' : List (Addr × Obj)} {s s' : Shared} {h' : Heap} {tk : Nat} (x : Rel fs own upd s s') (P : PostS fs upd upd' [] s'.heap h') (e : upd.map (·.1) = own.map (·.1)) : Rel fs own upd' s { s' with heap := h', toks := tk } :=
  ⟨by rw [x.eq], x.post.trans P e⟩
theorem Rel.here {fs own upd s s'} {S : Addr} {o : Obj} {h' : Heap} {upd' : List (Addr × Obj)} (x : Rel fs own upd s s') (P : PostS fs upd upd' [] s'.heap h') (e : upd.map (·.1) = own.map (·.1)) (ho : ∀ p ∈ own, p.1 < S) (hf : ∀ b ∈ fs, b < S) (hS : s'.heap.get? S = some o) : h'.get? S = some o :=
  P.1.1 S o hS (fun q => by
    rw [e] at q
    obtain ⟨r, hr, er⟩ := List.mem_map.mp q
    exact Nat.lt_irrefl _ (er ▸ ho r hr)) fun q => Nat.lt_irrefl _ (hf S q)
theorem frs_lt {A₀ : Around} {base h₀ h : Heap} {outer : List Env} {env : Env} {L : Addr} {m : Str → Option Value} (B : Below A₀ base outer h₀) (F : Fr h₀ L h m) (hf : env.frame = some L) : ∀ b ∈ frs (env :: outer), b < h.objs.size := fun b hb => by
  rcases frs_mem hf hb with rfl | hb
  · exact F.ns.lt
  · obtain ⟨o, ho, _⟩ := (B.frames.mem hb).2
    exact Heap.lt_size (F.keep _ _ ho)
theorem PostS.weak {A₀ : Around} {base g h h' : Heap} {outer : List Env} {env : Env} {L : Addr} {news : List (Addr × Obj)} (B : Below A₀ base outer g) (hf : env.frame = some L) (N : News g L h news) (P : PostS (frs (env :: outer)) [] [] [] h h') : PostS (frs (env :: outer)) news news [] h h' := by
  refine ⟨⟨fun b o x _ m => P.1.1 b o x (fun q => nomatch q) m, P.1.2⟩, fun p hp => P.1.1 _ _ (N p hp).1 (fun q => nomatch q) fun q => ?_, fun _ hp => nomatch hp⟩
  rcases frs_mem hf q with q | q
  · exact (N p hp).2.1 q
  · obtain ⟨o, ho, _⟩ := (B.frames.mem q).2
    have := (N p hp).2.2
    rw [ho] at this; cases this
theorem suf_at {its : List El} {e : El} {q : List El} (h : e :: q <:+ its) : (vsOf its)[its.length - (e :: q).length]? = some (.ref e.tq) ∧ its.length - q.length = its.length - (e :: q).length + 1 := by
  obtain ⟨pre, rfl⟩ := h
  simp
  omega
theorem gr_list (B : Below A₀ base outer h₀) (F : Fr h₀ L s.heap m) (XB : (KF w.params).In base) (TB : Top p loose mean mg mb base) (hf : env.frame = some L) (hk : env.scope.kind = .function) (N : News h₀ L s.heap ((R, grO dR (.int sn t0) (.ref G) e0.k) :: (G, gS d sn t0 I IG e0.k (some e0)) :: (I, itL V (its.length - rs.length)) :: imm)) (hdp : dp + 20 < recursionLimit) (hu : un + 70 < cLine)
    (hIG : @Ne Nat I G) (hRG : @Ne Nat R G) (hRI : @Ne Nat R I) (aG : AllNe G imm) (aI : AllNe I imm) (aR : AllNe R imm) (Z : GbG imm d V (vsOf its) n IG dI tp u) (hdR : (dR, dictOf [] 0) ∈ imm) (Y : Els imm its) (he0 : e0 ∈ its) (hrs : rs <:+ its) (hz : its.length ≤ 8)
    (h : ∀ S c h' tk io', PostS (frs (env :: outer)) ((R, grO dR (.int sn t0) (.ref G) e0.k) :: (G, gS d sn t0 I IG e0.k (some e0)) :: (I, itL V (its.length - rs.length)) :: imm)
      ((R, grO dR (.int sn t0) (.ref G) e0.k) :: (G, gS d sn t0 I IG e0.k (rst e0.key rs).head?) :: (I, io') :: imm) [(S, lsO (vsOf (e0 :: grp e0.key rs)) c)] s.heap h' →
      (match (rst e0.key rs) with | [] => io' = itE its.length | _ :: r => io' = itL V (its.length - r.length)) → Q (.ref S) { s with heap := h', toks := tk }) :
    wpAny (model PG w) (top dp un gd (env :: outer)) (call (.type "list") [.ref R]) Q E s := by
  have hown : ∀ p ∈ (R, grO dR (.int sn t0) (.ref G) e0.k) :: (G, gS d sn t0 I IG e0.k (some e0)) :: (I, itL V (its.length - rs.length)) :: imm, p.1 < s.heap.objs.size := fun p hp => Heap.lt_size (N p hp).1
  have hfr := frs_lt B F hf
  let ow : Option El → Obj → List (Addr × Obj) := fun cur io => (R, grO dR (.int sn t0) (.ref G) e0.k) :: (G, gS d sn t0 I IG e0.k cur) :: (I, io) :: imm
  let St : Nat → List Value → Shared → Prop := fun k acc s' => ∃ (cur : Option El) (rs' : List El), Rel (frs (env :: outer)) (ow (some e0) (itL V (its.length - rs.length))) (ow cur (itL V (its.length - rs'.length))) s s' ∧ rs' <:+ its ∧ (∀ e, cur = some e → e = e0) ∧ (acc ++ (cur.toList ++ grp e0.key rs').map El.val = (e0 :: grp e0.key rs).map El.val ∧ k = (cur.toList ++ grp e0.key rs').length) ∧ rst e0.key rs' = rst e0.key rs
  let Fin : List Value → Shared → Prop := fun acc s' => acc = (e0 :: grp e0.key rs).map El.val ∧ ∃ io, Rel (frs (env :: outer)) (ow (some e0) (itL V (its.length - rs.length))) (ow (rst e0.key rs).head? io) s s' ∧ (match (rst e0.key rs) with | [] => io = itE its.length | _ :: r => io = itL V (its.length - r.length))
  have hL : ∀ k acc s', St k acc s' → ∃ (g' : Heap) (cur : Option El) (rs' : List El), Fr g' L s'.heap m ∧ (KF w.params).In g' ∧ News g' L s'.heap (ow cur (itL V (its.length - rs'.length))) := fun k acc s' ⟨cur, rs', r, _⟩ => by
    obtain ⟨g', T', F', N', B'⟩ := behind0 B F N hf r.post (fun p hp => hp) rfl (rest := []) (fun p hp => nomatch hp)
    exact ⟨g', cur, rs', F', XB.keeps B'.stays, N'⟩
  have hI : ∀ {g' s' : Heap} {cur : Option El} {io : Obj}, News g' L s' (ow cur io) → InstAt s' R (grO dR (.int sn t0) (.ref G) e0.k) 148 (some (dictOf [] 0)) := fun N' => InstAt.of_news N' (.head _) (.tail _ (.tail _ (.tail _ hdR)))
  have W : Src PG w (top dp un gd (env :: outer)).in1.in1 R s.heap.objs.size St Fin := {
    step := fun n' acc s' o Q E ⟨cur, rs', r, hsuf, hcur, ⟨hxs, hn⟩, hrst⟩ hS k => by
      obtain ⟨g', T', F', N', B'⟩ := behind0 B F N hf r.post (fun p hp => hp) rfl (rest := []) (fun p hp => nomatch hp)
      refine owit_next F' (XB.keeps B'.stays) (hI N') (f := 144) (by k_is) (by k_is) ?_
      cases cur with
      | some e =>
        obtain rfl := hcur e rfl
        replace hn : n' = (grp e.key rs').length := Nat.succ.inj hn
        exact gr_next (i' := its.length - rs'.length) B' F' XB TB hf hk N' (by ktr_room) (by ktr_units) hIG hRG hRI aG aI aR Z hdR (Y.mem e he0) (.next rfl rfl rfl rfl rfl) (Y.tok e he0) (Y.tok e he0) (by have := Y.key e he0; omega) (fun _ => rfl)
          (fun _ h' tk P => k _ _ ⟨none, rs', r.call P rfl, hsuf, (fun _ z => nomatch z), ⟨by simpa using hxs, hn⟩, hrst⟩ (r.here P rfl hown hfr hS)) (fun q => absurd rfl q)
      | none =>
        cases rs' with
        | nil => cases hn
        | cons e q =>
          have he : e ∈ its := hsuf.subset (.head _)
          by_cases hk' : e.key = e0.key
          · have hg : grp e0.key (e :: q) = e :: grp e0.key q := by simp [grp, hk']
            have hr : rst e0.key (e :: q) = rst e0.key q := by simp [rst, hk']
            replace hxs : acc ++ (grp e0.key (e :: q)).map El.val = _ := hxs
            replace hn : n' + 1 = (grp e0.key (e :: q)).length := hn
            rw [hg] at hxs hn
            replace hn : n' = (grp e0.key q).length := Nat.succ.inj hn
            obtain ⟨hx, hi⟩ := suf_at hsuf
            exact gr_next (i' := its.length - q.length) B' F' XB TB hf hk N' (by ktr_room) (by ktr_units) hIG hRG hRI aG aI aR Z hdR (Y.mem e he) (.first hx rfl hi) (Y.tok e0 he0) (Y.tok e he) (by have := Y.key e0 he0; omega) (Y.inj e0 he0 e he)
              (fun _ h' tk P => k _ _ ⟨none, q, r.call P rfl, (List.suffix_cons e q).trans hsuf, (fun _ z => nomatch z), ⟨by simpa using hxs, hn⟩, hr ▸ hrst⟩ (r.here P rfl hown hfr hS)) (fun q => absurd hk'.symm q)
          · have hg : grp e0.key (e :: q) = [] := by simp [grp, hk']
            replace hn : n' + 1 = (grp e0.key (e :: q)).length := hn
            rw [hg] at hn
            cases hn
    fin := fun acc s' o Q E ⟨cur, rs', r, hsuf, hcur, ⟨hxs, hn⟩, hrst⟩ hS k => by
      obtain ⟨g', T', F', N', B'⟩ := behind0 B F N hf r.post (fun p hp => hp) rfl (rest := []) (fun p hp => nomatch hp)
      refine owit_next F' (XB.keeps B'.stays) (hI N') (f := 144) (by k_is) (by k_is) ?_
      cases cur with
      | some e => cases hn
      | none =>
        replace hn : 0 = (grp e0.key rs').length := hn
        have hx0 : acc = (e0 :: grp e0.key rs).map El.val := by
          have : grp e0.key rs' = [] := List.length_eq_zero_iff.mp hn.symm
          simpa [this] using hxs
        cases rs' with
        | nil => 
          have hr : rst e0.key rs = [] := hrst.symm
          exact gr_stop B' F' XB TB hf hk N' (by ktr_room) hIG hRG hRI aG aI aR Z.hd hdR Z.hV ⟨its.length, .inl ⟨rfl, by simp, rfl⟩⟩ fun h' tk e R => stopT R fun P => k _ ⟨hx0, _, by rw [hr]; exact r.call P rfl, by rw [hr]⟩ (r.here P rfl hown hfr hS)
        | cons e q =>
          have he : e ∈ its := hsuf.subset (.head _)
          have hk' : ¬ e.key = e0.key := fun x => by simp [grp, x] at hn
          have hr : rst e0.key rs = e :: q := by rw [← hrst]; simp [rst, hk']
          obtain ⟨hx, hi⟩ := suf_at hsuf
          exact gr_next (i' := its.length - q.length) B' F' XB TB hf hk N' (by ktr_room) (by ktr_units) hIG hRG hRI aG aI aR Z hdR (Y.mem e he) (.first hx rfl hi) (Y.tok e0 he0) (Y.tok e he) (by have := Y.key e0 he0; omega) (Y.inj e0 he0 e he)
              (fun q => absurd q.symm hk') (fun _ h' tk e R => stopT R fun P => k _ ⟨hx0, _, by rw [hr]; exact r.call P rfl, by rw [hr]⟩ (r.here P rfl hown hfr hS))
    upd := fun n' acc s' f ⟨cur, rs', r, q⟩ => ⟨cur, rs', r.upd rfl hown f, q⟩
    self := fun n' acc s' o Q E ⟨cur, rs', r, q⟩ hS k => by
      obtain ⟨g', T', F', N', B'⟩ := behind0 B F N hf r.post (fun p hp => hp) rfl (rest := []) (fun p hp => nomatch hp)
      refine owit_iter F' (XB.keeps B'.stays) (hI N') (by k_is) (by k_is) ?_
      refine gr_self B' F' XB TB hf hk (by ktr_room) fun h' tk P => ?_
      have P' := PostS.weak B' hf N' P
      have r' := r.call (tk := tk) P' rfl
      obtain ⟨g₂, T₂, F₂, N₂, B₂⟩ := behind0 B F N hf r'.post (fun p hp => hp) rfl (rest := []) (fun p hp => nomatch hp)
      exact owit_it F₂ (XB.keeps B₂.stays) (hI N₂) (g := .ref 144) (by k_is) (k _ ⟨cur, rs', r', q⟩ (r.here P' rfl hown hfr hS))
    typ := ⟨.ref 148, rfl, rfl, fun n' acc s' Q E hst k => by obtain ⟨g', cur, rs', F', X', N'⟩ := hL _ _ _ hst; exact (hI N').type.here k⟩
    len := fun n' acc s' Q E hst k => by
      obtain ⟨g', cur, rs', F', X', N'⟩ := hL _ _ _ hst
      exact wpAny_bind ((hI N').type.here ((looks_findIn (X'.keeps F'.keep) (r := none) (by k_is)).here k))
    hint := fun n' acc s' Q E hst k => by
      obtain ⟨g', cur, rs', F', X', N'⟩ := hL _ _ _ hst
      exact wpAny_bind ((hI N').type.here ((looks_findIn (X'.keeps F'.keep) (r := none) (by k_is)).here k))
    ne := fun e => absurd (hown _ (.head _)) (by rw [← e]; exact Nat.lt_irrefl _) }
  refine list_own W ⟨some e0, rs, ⟨rfl, ?_⟩, hrs, fun e q => (Option.some.inj q).symm, ⟨rfl, rfl⟩, rfl⟩ ?_ fun xs s' c' ⟨hxs, io, r, hio⟩ hS => ?_
  · exact ⟨⟨fun b o e _ _ => Heap.get?_push_of_some _ e, fun b o e _ => ⟨o.slots, Heap.get?_push_of_some _ e⟩⟩, fun p hp => Heap.get?_push_of_some _ (N p hp).1, fun _ hp => nomatch hp⟩
  · have := hrs.length_le
    have := (List.takeWhile_sublist (p := (·.key == e0.key)) (l := rs)).length_le
    exact Nat.le_trans (show (grp e0.key rs).length + 1 ≤ 9 by unfold grp; omega) (by decide)
  · subst hxs
    rw [r.eq]
    refine h _ c' _ _ io ⟨r.post.1, r.post.2.1, List.forall_mem_singleton.mpr ⟨hS, Heap.get?_none_of_le (Nat.le_refl _)⟩⟩ hio
end
end

section
open PySem PySem.W PyProof.Rows PySem.Calls PySem.Spec
theorem AllNe.at' {d : Addr} {l : List (Addr × Obj)} (p : Addr × Obj) (hp : p ∈ l) (h : AllNe d l) : p.1 ≠ d := h.at p hp
theorem nextOf_item {prog : Program} {w : World} {A : Around} {E : Value → Shared → Prop} {s : Shared} {I D : Addr} {i : Nat} {x : Value} {vs : Array Value} {Q : Value → Shared → Prop} (ho : s.heap.get? I = some (itL D i)) (hl : s.heap.IsList D vs) (hx : vs[i]? = some x)
    (hQ : ∀ h', h'.get? I = some (itL D (i + 1)) → (∀ b o, b ≠ I → s.heap.get? b = some o → h'.get? b = some o) → Q x { s with heap := h' }) : wpAny (model prog w) A (Builtin.SmallTypes.nextOf (.ref I)) Q E s := by
  have hT : s.TypeIs (.ref I) "list_iterator" := ⟨_, ho, rfl⟩
  obtain ⟨ol, hol, _, nl, hdl⟩ := hl
  unfold Builtin.SmallTypes.nextOf
  refine wpAny_bind (wpAny_callSpecial?_slot (name := Str.ofString "__next__") hT slot_listiter_next (wpAny_call_entry slot_listiter_next hT entry_listiter_next ?_ (args_listiter_next _)))
  show wpAny _ _ (field (.ref I) 0 >>= _) _ _ s
  refine wpAny_bind (wpAny_field ho rfl (x := .ref D) rfl ?_)
  show wpAny _ _ (if (Value.ref D == Value.none) = true then _ else _) _ _ s
  rw [if_neg (show ¬ ((Value.ref D == Value.none) = true) from Bool.false_ne_true)]
  show wpAny _ _ (field (.ref I) 1 >>= _) _ _ s
  refine wpAny_bind (wpAny_field ho rfl (x := .int i 0) rfl ?_)
  show wpAny _ _ (seqItems? (.ref D) >>= _) _ _ s
  refine wpAny_bind (wpAny_seqItems hol hdl ?_)
  simp only [Int.toNat_natCast, hx]
  refine wpAny_bind (wpAny_setField ho rfl (by simp) (wpAny_pure ⟨x, rfl, wpAny_pure (hQ _ ?_ fun b o hb e => (Heap.get?_update_other _ _ (Ne.symm hb)).trans e)⟩))
  exact Heap.get?_update_self (Obj.mapFields (·.setIfInBounds 1 (rawInt ((i : Int) + 1)))) ho rfl
theorem wpAny_alive {M : Model} {A : Around} {E : Value → Shared → Prop} {s : Shared} {a : Addr} {Q : Option Obj → Shared → Prop} (h : Q (s.heap.get? a) s) : wpAny M A (loadIfAlive a) Q E s := fun Γ p hΓ => by
  show Sem.wp M Γ (.loadIfAlive a .pure) _ _ p s
  rw [Sem.wp_loadIfAlive]
  exact h
theorem news_off {A₀ : Around} {base g h : Heap} {outer : List Env} {env : Env} {L : Addr} {news : List (Addr × Obj)} (B : Below A₀ base outer g) (hf : env.frame = some L) (N : News g L h news) : ∀ p ∈ news, p.1 ∉ frs (env :: outer) := fun p hp q => by
  rcases frs_mem hf q with q | q
  · exact (N p hp).2.1 q
  · obtain ⟨o, ho, _⟩ := (B.frames.mem q).2
    have := (N p hp).2.2
    rw [ho] at this; cases this
section
variable {w : World} {p : Program} {loose : List Str} {mean : ExcName → Option Value} {mg mb : Str → Option Value} {dp un : Nat} {gd : Option (List Code)} {env : Env} {outer : List Env} {A₀ : Around} {base h₀ : Heap} {L : Addr} {m : Str → Option Value} {s : Shared} {Q E : Value → Shared → Prop} {C dC z TO TI D I : Addr} {i : Nat} {j : Int} {t u : Tok} {x a b f0 : Value} {f1 : Bool} {vs : Array Value} {n : Nat} {imm : List (Addr × Obj)}
theorem ct_draw (B : Below A₀ base outer h₀) (F : Fr h₀ L s.heap m) (XB : (KF w.params).In base) (TB : Top p loose mean mg mb base) (hf : env.frame = some L) (hk : env.scope.kind = .function) (N : News h₀ L s.heap ((C, ctO dC (.int j t) u) :: imm)) (aC : AllNe C imm) (hdC : (dC, dictOf [] 0) ∈ imm) (hdp : dp + 5 < recursionLimit)
    (h : ∀ h' tk t', PostS (frs (env :: outer)) ((C, ctO dC (.int j t) u) :: imm) ((C, ctO dC (.int (j + 1) t') u) :: imm) [] s.heap h' → Q (.int j t) { s with heap := h', toks := tk }) :
    wpAny (model PG w) (top dp un gd (env :: outer)) (Builtin.SmallTypes.nextOf (.ref C)) Q E s := by
  unfold Builtin.SmallTypes.nextOf
  refine wpAny_bind (special_fn (name := "__next__") (args := []) (f := 190) ((XB.keeps B.stays).keeps F.keep) (InstAt.of_news N (.head _) (.tail _ hdC)) (by k_is) (beq_iff_eq.mp (show isFn (KF w.params) (.ref 190) = true by k_is)) ?_)
  exact ct_next B F XB TB hf hk N aC hdC hdp fun h' tk t' P => wpAny_pure (h h' tk t' P)
theorem zip_next (B : Below A₀ base outer h₀) (F : Fr h₀ L s.heap m) (XB : (KF w.params).In base) (TB : Top p loose mean mg mb base) (hf : env.frame = some L) (hk : env.scope.kind = .function) {Qn : Option Value → Shared → Prop} (N : News h₀ L s.heap ((z, zpO f0 f1 TI TO) :: (TO, tup2 a b) :: (I, itL D i) :: (C, ctO dC (.int j t) u) :: imm)) (hf0 : f0 = .none ∨ ∃ T o, f0 = rawInt (T : Nat) ∧ s.heap.get? T = some o)
    (n1 : AllNe z ((TO, tup2 a b) :: (I, itL D i) :: (C, ctO dC (.int j t) u) :: imm)) (n2 : AllNe TO ((I, itL D i) :: (C, ctO dC (.int j t) u) :: imm)) (n3 : AllNe I ((C, ctO dC (.int j t) u) :: imm)) (aC : AllNe C imm)
    (hdC : (dC, dictOf [] 0) ∈ imm) (hTI : (TI, tup2 (.ref I) (.ref C)) ∈ imm) (hD : (D, listOf vs n) ∈ imm) (hdp : dp + 5 < recursionLimit) (hx : vs[i]? = some x)
    (h : ∀ T t' f0' f1' a' b' h' tk, PostS (frs (env :: outer)) ((z, zpO f0 f1 TI TO) :: (TO, tup2 a b) :: (I, itL D i) :: (C, ctO dC (.int j t) u) :: imm)
      ((z, zpO f0' f1' TI TO) :: (TO, tup2 a' b') :: (I, itL D (i + 1)) :: (C, ctO dC (.int (j + 1) t') u) :: imm) [(T, tup2 x (.int j t))] s.heap h' → (f0' = rawInt (T : Nat) ∨ ∃ T', f0 = rawInt (T' : Nat) ∧ f0' = f0) → Qn (some (.ref T)) { s with heap := h', toks := tk }) :
    wpAny (model PG w) (top dp un gd (env :: outer)) (pyNext (.ref z)) Qn E s := by
  have hz := (N _ (.head _)).1
  have hT : s.TypeIs (.ref z) "zip" := ⟨_, hz, rfl⟩
  unfold pyNext
  refine wpAny_bind (wpAny_attempt (wpAny_callSpecial?_slot (name := Str.ofString "__next__") hT PySem.F.slot_zip_next (wpAny_call_entry PySem.F.slot_zip_next hT PySem.F.entry_zip_next ?_ (PySem.F.args_zip_next_1 _))))
  have hT1 := (N _ (.tail _ (.tail _ (.tail _ (.tail _ hTI))))).1
  show wpAny _ _ (field (.ref z) 2 >>= _) _ _ _
  refine wpAny_bind (wpAny_field hz rfl (x := .bool false) rfl ?_)
  show wpAny _ _ (field (.ref z) 3 >>= _) _ _ _
  refine wpAny_bind (wpAny_field hz rfl (x := .ref TI) rfl ?_)
  refine wpAny_bind (wpAny_seqItems hT1 rfl ?_)
  show wpAny _ _ (Builtin.SmallTypes.ownedTupleIsFree (.ref z) >>= _) _ _ _
  have P0 : PostS (frs (env :: outer)) _ _ [] s.heap s.heap := PostS.start fun p hp => (N p hp).1
  have hfs := news_off B hf N
  have q1 : z ∉ frs (env :: outer) := hfs (z, zpO f0 f1 TI TO) (.head _)
  have q2 : TO ∉ frs (env :: outer) := hfs (TO, tup2 a b) (.tail _ (.head _))
  have q3 : I ∉ frs (env :: outer) := hfs (I, itL D i) (.tail _ (.tail _ (.head _)))
  rcases hf0 with rfl | ⟨T, o, rfl, hTo⟩
  · refine wpAny_bind ?_
    unfold Builtin.SmallTypes.ownedTupleIsFree
    refine wpAny_bind (wpAny_field hz rfl (x := .none) rfl (wpAny_pure ?_))
    simp only [if_true]
    refine wpAny_bind (wpAny_rule ?_)
    refine wpAny_bind (wpAny_field hz rfl (x := .ref TO) rfl ?_)
    refine wpAny_bind (wpAny_setField_rec hz (by simp) fun h₁ hz₁ hs₁ => ?_)
    have P₁ : PostS (frs (env :: outer)) _ ((z, zpO .ellipsis f1 TI TO) :: (TO, tup2 a b) :: (I, itL D i) :: (C, ctO dC (.int j t) u) :: imm) [] s.heap h₁ := PostS.same (pre := []) P0 hs₁.extBut hz₁ (fun p hp => AllNe.at' p hp n1) (fun p hp => nomatch hp) (.head _) q1
    refine wpAny_bind ?_
    simp only [List.zipIdx_cons, List.zipIdx_nil, List.forIn_cons, List.forIn_nil]
    refine wpAny_bind (wpAny_bind (wpAny_onRaise ?_))
    show wpAny _ _ (Builtin.SmallTypes.nextOf (.ref I) >>= _) _ _ _
    refine wpAny_bind (nextOf_item (P₁.2.1 _ (.tail _ (.tail _ (.head _)))) ⟨_, P₁.2.1 (D, listOf vs n) (.tail _ (.tail _ (.tail _ (.tail _ hD)))), rfl, n, rfl⟩ hx fun h₂ hI₂ hs₂ => wpAny_pure ?_)
    have P₂ : PostS (frs (env :: outer)) _ ((z, zpO .ellipsis f1 TI TO) :: (TO, tup2 a b) :: (I, itL D (i + 1)) :: (C, ctO dC (.int j t) u) :: imm) [] s.heap h₂ := PostS.same (pre := [(z, zpO .ellipsis f1 TI TO), (TO, tup2 a b)]) P₁ hs₂ hI₂ (List.forall_mem_cons.mpr ⟨Ne.symm n1.2.1, List.forall_mem_cons.mpr ⟨Ne.symm n2.1, fun p hp => AllNe.at' p hp n3⟩⟩) (fun p hp => nomatch hp) (.tail _ (.tail _ (.head _))) q3
    refine wpAny_bind (wpAny_seqItems (P₂.2.1 _ (.tail _ (.head _))) rfl ?_)
    refine wpAny_bind (wpAny_updateSeq_pair (P₂.2.1 _ (.tail _ (.head _))) fun h₃ hO₃ hs₃ => ?_)
    have P₃ : PostS (frs (env :: outer)) _ ((z, zpO .ellipsis f1 TI TO) :: (TO, tup2 x b) :: (I, itL D (i + 1)) :: (C, ctO dC (.int j t) u) :: imm) [] s.heap h₃ := PostS.same (pre := [(z, zpO .ellipsis f1 TI TO)]) P₂ hs₃.extBut hO₃ (List.forall_mem_cons.mpr ⟨Ne.symm n1.1, fun p hp => AllNe.at' p hp n2⟩) (fun p hp => nomatch hp) (.tail _ (.head _)) q2
    refine wpAny_bind (wpAny_letGo (wpAny_pure ?_))
    refine wpAny_bind (wpAny_bind (wpAny_onRaise ?_))
    show wpAny _ _ (Builtin.SmallTypes.nextOf (.ref C) >>= _) _ _ _
    obtain ⟨g', T', F', N', B'⟩ := behind0 B F N hf P₃ (fun p hp => hp) rfl (rest := []) (fun p hp => nomatch hp)
    refine wpAny_bind (ct_draw B' F' XB TB hf hk (fun p hp => N' p (.tail _ (.tail _ (.tail _ hp)))) aC hdC hdp fun h₄ tk t' P => wpAny_pure ?_)
    have P₄ : PostS (frs (env :: outer)) _ ((z, zpO .ellipsis f1 TI TO) :: (TO, tup2 x b) :: (I, itL D (i + 1)) :: (C, ctO dC (.int (j + 1) t') u) :: imm) [] s.heap h₄ := P₃.trans2 (PostS.widen (rest := [(z, zpO .ellipsis f1 TI TO), (TO, tup2 x b), (I, itL D (i + 1))]) P (List.forall_mem_cons.mpr ⟨⟨(N' _ (.head _)).1, n1.2.2, q1⟩, List.forall_mem_cons.mpr ⟨⟨(N' _ (.tail _ (.head _))).1, n2.2, q2⟩, List.forall_mem_singleton.mpr ⟨(N' _ (.tail _ (.tail _ (.head _)))).1, n3, q3⟩⟩⟩)) rfl (fun p hp => ⟨_, (N p hp).1⟩) (frs_in B F hf)
    refine wpAny_bind (wpAny_seqItems (P₄.2.1 _ (.tail _ (.head _))) rfl ?_)
    refine wpAny_bind (wpAny_updateSeq_pair (P₄.2.1 _ (.tail _ (.head _))) fun h₅ hO₅ hs₅ => ?_)
    have P₅ : PostS (frs (env :: outer)) _ ((z, zpO .ellipsis f1 TI TO) :: (TO, tup2 x (.int j t)) :: (I, itL D (i + 1)) :: (C, ctO dC (.int (j + 1) t') u) :: imm) [] s.heap h₅ := PostS.same (pre := [(z, zpO .ellipsis f1 TI TO)]) P₄ hs₅.extBut hO₅ (List.forall_mem_cons.mpr ⟨Ne.symm n1.1, fun p hp => AllNe.at' p hp n2⟩) (fun p hp => nomatch hp) (.tail _ (.head _)) q2
    refine wpAny_bind (wpAny_letGo (wpAny_pure (wpAny_pure ?_)))
    refine wpAny_bind (wpAny_seqItems (P₅.2.1 _ (.tail _ (.head _))) rfl ?_)
    refine wpAny_bind (wpAny_newTuple ?_)
    have P₆ := P₅.made (o := tup2 x (.int j t)) rfl rfl
    have zn : h₅.objs.size ≠ z := fun q => by
      have := (P₆.2.2 _ (.head _)).2
      rw [q, hz] at this; cases this
    show wpAny _ _ (Builtin.SmallTypes.ownedTupleHandOut (.ref z) (.ref h₅.objs.size) >>= _) _ _ _
    refine wpAny_bind ?_
    unfold Builtin.SmallTypes.ownedTupleHandOut
    refine wpAny_bind (wpAny_setField_rec (P₆.2.1 (z, zpO .ellipsis f1 TI TO) (.head _)) (by simp) fun h₇ hz₇ hs₇ => ?_)
    have P₇ : PostS (frs (env :: outer)) _ ((z, zpO (rawInt (h₅.objs.size : Nat)) f1 TI TO) :: (TO, tup2 x (.int j t)) :: (I, itL D (i + 1)) :: (C, ctO dC (.int (j + 1) t') u) :: imm) _ s.heap h₇ := PostS.same (pre := []) P₆ hs₇.extBut hz₇ (fun p hp => AllNe.at' p hp n1) (List.forall_mem_singleton.mpr zn) (.head _) q1
    refine wpAny_setField_rec hz₇ (by simp) fun h₈ hz₈ hs₈ => ?_
    have P₈ : PostS (frs (env :: outer)) _ ((z, zpO (rawInt (h₅.objs.size : Nat)) false TI TO) :: (TO, tup2 x (.int j t)) :: (I, itL D (i + 1)) :: (C, ctO dC (.int (j + 1) t') u) :: imm) _ s.heap h₈ := PostS.same (pre := []) P₇ hs₈.extBut hz₈ (fun p hp => AllNe.at' p hp n1) (List.forall_mem_singleton.mpr zn) (.head _) q1
    exact wpAny_pure ⟨_, rfl, wpAny_pure (h _ t' _ _ _ _ _ _ P₈ (.inl rfl))⟩
  · refine wpAny_bind ?_
    unfold Builtin.SmallTypes.ownedTupleIsFree
    refine wpAny_bind (wpAny_field hz rfl (x := rawInt (T : Nat)) rfl ?_)
    show wpAny _ _ (loadIfAlive _ >>= _) _ _ _
    refine wpAny_bind (wpAny_alive ?_)
    simp only [Int.toNat_natCast, hTo, Option.isNone_some, Bool.false_eq_true, if_false]
    refine wpAny_bind (wpAny_field hz rfl (x := .bool f1) rfl ?_)
    obtain ⟨Qr, hQr⟩ : ∃ Qr : Bool → Shared → Prop, Qr = fun bb s' => bb = false ∧ ∃ h₁, s' = { s with heap := h₁ } ∧ PostS (frs (env :: outer)) ((z, zpO (rawInt (T : Nat)) f1 TI TO) :: (TO, tup2 a b) :: (I, itL D i) :: (C, ctO dC (.int j t) u) :: imm)
      ((z, zpO (rawInt (T : Nat)) true TI TO) :: (TO, tup2 a b) :: (I, itL D i) :: (C, ctO dC (.int j t) u) :: imm) [] s.heap h₁ := ⟨_, rfl⟩
    refine wpAny_mono (Q := Qr) ?_ (fun bb s' q => ?_) fun _ _ e => e
    · cases f1 with
      | true => exact wpAny_pure (hQr ▸ ⟨rfl, _, rfl, P0⟩)
      | false =>
        refine wpAny_bind (wpAny_setField_rec hz (by simp) fun h₁ hz₁ hs₁ => wpAny_pure (hQr ▸ ⟨rfl, h₁, rfl, ?_⟩))
        exact PostS.same (pre := []) P0 hs₁.extBut hz₁ (fun p hp => AllNe.at' p hp n1) (fun p hp => nomatch hp) (.head _) q1
    · rw [hQr] at q
      obtain ⟨rfl, h₁, rfl, P₁⟩ := q
      simp only [Bool.false_eq_true, if_false, List.forIn_toArray, List.forIn_cons, List.forIn_nil]
      refine wpAny_bind (wpAny_bind (wpAny_bind (wpAny_holding ?_)))
      show wpAny _ _ (Builtin.SmallTypes.nextOf (.ref I) >>= _) _ _ _
      refine wpAny_bind (nextOf_item (P₁.2.1 _ (.tail _ (.tail _ (.head _)))) ⟨_, P₁.2.1 (D, listOf vs n) (.tail _ (.tail _ (.tail _ (.tail _ hD)))), rfl, n, rfl⟩ hx fun h₂ hI₂ hs₂ => wpAny_pure (wpAny_pure ?_))
      have P₂ := PostS.same (pre := [(z, zpO (rawInt (T : Nat)) true TI TO), (TO, tup2 a b)]) P₁ hs₂ hI₂ (List.forall_mem_cons.mpr ⟨Ne.symm n1.2.1, List.forall_mem_cons.mpr ⟨Ne.symm n2.1, fun p hp => AllNe.at' p hp n3⟩⟩) (fun p hp => nomatch hp) (.tail _ (.tail _ (.head _))) q3
      obtain ⟨g', T', F', N', B'⟩ := behind0 B F N hf P₂ (fun p hp => hp) rfl (rest := []) (fun p hp => nomatch hp)
      refine wpAny_bind (wpAny_bind (wpAny_holding ?_))
      show wpAny _ _ (Builtin.SmallTypes.nextOf (.ref C) >>= _) _ _ _
      refine wpAny_bind (ct_draw B' F' XB TB hf hk (fun p hp => N' p (.tail _ (.tail _ (.tail _ hp)))) aC hdC hdp fun h₃ tk t' P => wpAny_pure (wpAny_pure (wpAny_pure ?_)))
      have P₃ := P₂.trans2 (PostS.widen (rest := [(z, zpO (rawInt (T : Nat)) true TI TO), (TO, tup2 a b), (I, itL D (i + 1))]) P (List.forall_mem_cons.mpr ⟨⟨(N' _ (.head _)).1, n1.2.2, q1⟩, List.forall_mem_cons.mpr ⟨⟨(N' _ (.tail _ (.head _))).1, n2.2, q2⟩, List.forall_mem_singleton.mpr ⟨(N' _ (.tail _ (.tail _ (.head _)))).1, n3, q3⟩⟩⟩)) rfl (fun p hp => ⟨_, (N p hp).1⟩) (frs_in B F hf)
      show wpAny _ _ (newTuple [x, .int j t] >>= _) _ _ _
      refine wpAny_bind (wpAny_newTuple ?_)
      have P₄ := P₃.made (o := tup2 x (.int j t)) rfl rfl
      refine wpAny_pure ⟨_, rfl, wpAny_pure (h _ t' _ _ a b _ _ P₄ (.inr ⟨T, rfl, rfl⟩))⟩
end
end

section
open PySem PySem.W PyProof.Rows PySem.Calls PySem.Spec
theorem nextOf_stop {prog : Program} {w : World} {A : Around} {E : Value → Shared → Prop} {s : Shared} {I D : Addr} {i : Nat} {vs : Array Value} {Q : Value → Shared → Prop} (hh : A.handled = none) (ho : s.heap.get? I = some (itL D i)) (hl : s.heap.IsList D vs) (hx : vs[i]? = none)
    (hE : ∀ h' e, h'.get? I = some (itE i) → (∀ b o, b ≠ I → s.heap.get? b = some o → h'.get? b = some o) → (∃ o, h'.get? e = some o ∧ o.cls = .type "StopIteration") → E (.ref e) { s with heap := h' }) : wpAny (model prog w) A (Builtin.SmallTypes.nextOf (.ref I)) Q E s := by
  have hT : s.TypeIs (.ref I) "list_iterator" := ⟨_, ho, rfl⟩
  obtain ⟨ol, hol, _, nl, hdl⟩ := hl
  unfold Builtin.SmallTypes.nextOf
  refine wpAny_bind (wpAny_callSpecial?_slot (name := Str.ofString "__next__") hT slot_listiter_next (wpAny_call_entry slot_listiter_next hT entry_listiter_next ?_ (args_listiter_next _)))
  show wpAny _ _ (field (.ref I) 0 >>= _) _ _ s
  refine wpAny_bind (wpAny_field ho rfl (x := .ref D) rfl ?_)
  show wpAny _ _ (if (Value.ref D == Value.none) = true then _ else _) _ _ s
  rw [if_neg (show ¬ ((Value.ref D == Value.none) = true) from Bool.false_ne_true)]
  show wpAny _ _ (field (.ref I) 1 >>= _) _ _ s
  refine wpAny_bind (wpAny_field ho rfl (x := .int i 0) rfl ?_)
  show wpAny _ _ (seqItems? (.ref D) >>= _) _ _ s
  refine wpAny_bind (wpAny_seqItems hol hdl ?_)
  simp only [Int.toNat_natCast, hx]
  refine wpAny_bind (wpAny_rule (wpAny_bind (wpAny_setField ho rfl (by simp) (stop_new (A := A.in1) (s := s) hh fun h' e x => ?_))))
  obtain ⟨ob, tp, he, hc, _⟩ := x.there
  exact hE h' e (x.keeps _ _ (Heap.get?_update_self (Obj.mapFields (·.setIfInBounds 0 Value.none)) ho rfl)) (fun b o hb q => x.keeps _ _ ((Heap.get?_update_other _ _ (Ne.symm hb)).trans q)) ⟨ob, he, hc⟩
section
variable {w : World} {p : Program} {loose : List Str} {mean : ExcName → Option Value} {mg mb : Str → Option Value} {dp un : Nat} {gd : Option (List Code)} {env : Env} {outer : List Env} {A₀ : Around} {base h₀ : Heap} {L : Addr} {m : Str → Option Value} {s : Shared} {Q E : Value → Shared → Prop} {C dC z TO TI D I : Addr} {i : Nat} {j : Int} {t u : Tok} {x a b f0 : Value} {f1 : Bool} {vs : Array Value} {n : Nat} {imm : List (Addr × Obj)}
theorem zip_end (B : Below A₀ base outer h₀) (F : Fr h₀ L s.heap m) (XB : (KF w.params).In base) (TB : Top p loose mean mg mb base) (hf : env.frame = some L) (hk : env.scope.kind = .function) {Qn : Option Value → Shared → Prop} (N : News h₀ L s.heap ((z, zpO f0 f1 TI TO) :: (TO, tup2 a b) :: (I, itL D i) :: (C, ctO dC (.int j t) u) :: imm)) (hf0 : ∃ T o, f0 = rawInt (T : Nat) ∧ s.heap.get? T = some o)
    (n1 : AllNe z ((TO, tup2 a b) :: (I, itL D i) :: (C, ctO dC (.int j t) u) :: imm)) (n2 : AllNe TO ((I, itL D i) :: (C, ctO dC (.int j t) u) :: imm)) (n3 : AllNe I ((C, ctO dC (.int j t) u) :: imm))
    (hTI : (TI, tup2 (.ref I) (.ref C)) ∈ imm) (hD : (D, listOf vs n) ∈ imm) (hx : vs[i]? = none)
    (h : ∀ h' tk, PostS (frs (env :: outer)) ((z, zpO f0 f1 TI TO) :: (TO, tup2 a b) :: (I, itL D i) :: (C, ctO dC (.int j t) u) :: imm) ((z, zpO f0 true TI TO) :: (TO, tup2 a b) :: (I, itE i) :: (C, ctO dC (.int j t) u) :: imm) [] s.heap h' → Qn none { s with heap := h', toks := tk }) :
    wpAny (model PG w) (top dp un gd (env :: outer)) (pyNext (.ref z)) Qn E s := by
  have hz := (N _ (.head _)).1
  have hT : s.TypeIs (.ref z) "zip" := ⟨_, hz, rfl⟩
  have hT1 := (N _ (.tail _ (.tail _ (.tail _ (.tail _ hTI))))).1
  have hfs := news_off B hf N
  obtain ⟨T, o, rfl, hTo⟩ := hf0
  unfold pyNext
  refine wpAny_bind (wpAny_attempt (wpAny_callSpecial?_slot (name := Str.ofString "__next__") hT PySem.F.slot_zip_next (wpAny_call_entry PySem.F.slot_zip_next hT PySem.F.entry_zip_next ?_ (PySem.F.args_zip_next_1 _))))
  show wpAny _ _ (field (.ref z) 2 >>= _) _ _ _
  refine wpAny_bind (wpAny_field hz rfl (x := .bool false) rfl ?_)
  show wpAny _ _ (field (.ref z) 3 >>= _) _ _ _
  refine wpAny_bind (wpAny_field hz rfl (x := .ref TI) rfl ?_)
  refine wpAny_bind (wpAny_seqItems hT1 rfl ?_)
  show wpAny _ _ (Builtin.SmallTypes.ownedTupleIsFree (.ref z) >>= _) _ _ _
  refine wpAny_bind ?_
  unfold Builtin.SmallTypes.ownedTupleIsFree
  refine wpAny_bind (wpAny_field hz rfl (x := rawInt (T : Nat)) rfl ?_)
  show wpAny _ _ (loadIfAlive _ >>= _) _ _ _
  refine wpAny_bind (wpAny_alive ?_)
  simp only [Int.toNat_natCast, hTo, Option.isNone_some, Bool.false_eq_true, if_false]
  refine wpAny_bind (wpAny_field hz rfl (x := .bool f1) rfl ?_)
  have P0 : PostS (frs (env :: outer)) _ _ [] s.heap s.heap := PostS.start fun p hp => (N p hp).1
  have q1 : z ∉ frs (env :: outer) := hfs (z, _) (.head _)
  have q3 : I ∉ frs (env :: outer) := hfs (I, itL D i) (.tail _ (.tail _ (.head _)))
  obtain ⟨Qr, hQr⟩ : ∃ Qr : Bool → Shared → Prop, Qr = fun bb s' => bb = false ∧ ∃ h₁, s' = { s with heap := h₁ } ∧ PostS (frs (env :: outer)) ((z, zpO (rawInt (T : Nat)) f1 TI TO) :: (TO, tup2 a b) :: (I, itL D i) :: (C, ctO dC (.int j t) u) :: imm)
      ((z, zpO (rawInt (T : Nat)) true TI TO) :: (TO, tup2 a b) :: (I, itL D i) :: (C, ctO dC (.int j t) u) :: imm) [] s.heap h₁ := ⟨_, rfl⟩
  refine wpAny_mono (Q := Qr) ?_ (fun bb s' q => ?_) fun _ _ e => e
  · cases f1 with
    | true => exact wpAny_pure (hQr ▸ ⟨rfl, _, rfl, P0⟩)
    | false => exact wpAny_bind (wpAny_setField_rec hz (by simp) fun h₁ hz₁ hs₁ => wpAny_pure (hQr ▸ ⟨rfl, h₁, rfl, PostS.same (pre := []) P0 hs₁.extBut hz₁ (fun p hp => AllNe.at' p hp n1) (fun p hp => nomatch hp) (.head _) q1⟩))
  · rw [hQr] at q
    obtain ⟨rfl, h₁, rfl, P₁⟩ := q
    simp only [Bool.false_eq_true, if_false, List.forIn_toArray, List.forIn_cons, List.forIn_nil]
    refine wpAny_bind (wpAny_bind (wpAny_bind (wpAny_holding ?_)))
    show wpAny _ _ (Builtin.SmallTypes.nextOf (.ref I) >>= _) _ _ _
    refine wpAny_bind (nextOf_stop rfl (P₁.2.1 (I, itL D i) (.tail _ (.tail _ (.head _)))) ⟨_, P₁.2.1 (D, listOf vs n) (.tail _ (.tail _ (.tail _ (.tail _ hD)))), rfl, n, rfl⟩ hx fun h₂ e hI₂ hs₂ he => ?_)
    obtain ⟨oe, hoe, hce⟩ := he
    refine wpAny_bind (wpAny_isInstance (T := "StopIteration") (b := true) ⟨oe, hoe, hce⟩ isSubtype_stop ?_)
    exact wpAny_pure (h _ _ (PostS.same (pre := [(z, zpO (rawInt (T : Nat)) true TI TO), (TO, tup2 a b)]) P₁ hs₂ hI₂ (List.forall_mem_cons.mpr ⟨Ne.symm n1.2.1, List.forall_mem_cons.mpr ⟨Ne.symm n2.1, fun p hp => AllNe.at' p hp n3⟩⟩) (fun p hp => nomatch hp) (.tail _ (.tail _ (.head _))) q3))
set_option maxHeartbeats 4000000 in
/-- its iterator is itself -/
theorem ct_self {R : Addr} (B : Below A₀ base outer h₀) (F : Fr h₀ L s.heap m) (XB : (KF w.params).In base) (TB : Top p loose mean mg mb base) (hf : env.frame = some L) (hk : env.scope.kind = .function) (hdp : dp + 1 < recursionLimit) (h : ∀ h' tk, PostS (frs (env :: outer)) [] [] [] s.heap h' → Q (.ref R) { s with heap := h', toks := tk }) :
    wpAny (model PG w) (top dp un gd (env :: outer)) (call (.ref 183) [.ref R]) Q E s := by
  have N : News h₀ L s.heap [] := fun p hp => nomatch hp
  k_dflt cell_enter
  intro g L₁ h₁ F₁ N₁ B₁ X₁ T₁ G₁ k₁
  replace F₁ : Fr g L₁ h₁ (bnd [("self", .ref R)]) := F₁
  k_steps
  exact h _ _ (end_none G₁ (by assumption) (by assumption) (fun p hp => hp))
theorem zip_new (B : Below A₀ base outer h₀) (F : Fr h₀ L s.heap m) (XB : (KF w.params).In base) (TB : Top p loose mean mg mb base) (hf : env.frame = some L) (hk : env.scope.kind = .function) (N : News h₀ L s.heap ((C, ctO dC (.int j t) u) :: imm)) (aC : AllNe C imm) (hdC : (dC, dictOf [] 0) ∈ imm) (hD : (D, listOf vs n) ∈ imm) (hdp : dp + 5 < recursionLimit)
    (h : ∀ z TO TI I h' tk, PostS (frs (env :: outer)) ((C, ctO dC (.int j t) u) :: imm) ((C, ctO dC (.int j t) u) :: imm) [(z, zpO .none false TI TO), (TO, tup2 .none .none), (TI, tup2 (.ref I) (.ref C)), (I, itL D 0)] s.heap h' →
      TO ≠ z ∧ TI ≠ z ∧ I ≠ z ∧ TI ≠ TO ∧ I ≠ TO ∧ I ≠ TI → Q (.ref z) { s with heap := h', toks := tk }) :
    wpAny (model PG w) (top dp un gd (env :: outer)) (call (.type "zip") [.ref D, .ref C]) Q E s := by
  have P0 : PostS (frs (env :: outer)) _ _ [] s.heap s.heap := PostS.start fun p hp => (N p hp).1
  have P1 := P0.made (o := itL D 0) rfl rfl
  refine zip_new_raw (PI := fun h' => PostS (frs (env :: outer)) ((C, ctO dC (.int j t) u) :: imm) ((C, ctO dC (.int j t) u) :: imm) [(s.heap.objs.size, itL D 0)] s.heap h') ⟨_, (N (D, listOf vs n) (.tail _ hD)).1, rfl, n, rfl⟩ ?_ fun h' tk P => ?_
  · obtain ⟨g', T', F', N', B'⟩ := behindN B F N hf P1 (fun p hp => hp) rfl (rest := []) (fun p hp => nomatch hp)
    simp only [List.cons_append, List.nil_append] at N'
    have I1 := InstAt.of_news N' (.tail _ (.head _)) (.tail _ (.tail _ hdC))
    refine owit_iter F' (XB.keeps B'.1.stays) I1 (by k_is) (by k_is) ?_
    refine ct_self B'.1 F' XB TB hf hk (by ktr_room) fun h' tk P => ?_
    have P' := P1.trans2 (PostS.weak B'.1 hf (fun p hp => N' p (.tail _ hp)) P) rfl (fun p hp => ⟨_, (N p hp).1⟩) (frs_in B F hf)
    simp only [List.nil_append] at P'
    obtain ⟨g₂, T₂, F₂, N₂, B₂⟩ := behindN B F N hf P' (fun p hp => hp) rfl (rest := []) (fun p hp => nomatch hp)
    simp only [List.cons_append, List.nil_append] at N₂
    exact owit_it F₂ (XB.keeps B₂.1.stays) (InstAt.of_news N₂ (.tail _ (.head _)) (.tail _ (.tail _ hdC))) (g := .ref 190) (by k_is) ⟨rfl, _, _, rfl, P'⟩
  · have Q1 := P.made (o := tup2 (.ref s.heap.objs.size) (.ref C)) rfl rfl
    have Q2 := Q1.made (o := tup2 .none .none) rfl rfl
    have Q3 := Q2.made (o := zpO .none false h'.objs.size (h'.objs.size + 1)) rfl rfl
    have lt := Heap.lt_size (P.2.2 _ (.head _)).1
    rw [Heap.size_push, Heap.size_push] at Q3
    exact h _ _ _ _ _ _ Q3 ⟨Nat.ne_of_lt (Nat.lt_succ_self _), Nat.ne_of_lt (Nat.lt_add_of_pos_right (k := 2) (by decide)), Nat.ne_of_lt (Nat.lt_of_lt_of_le lt (Nat.le_add_right _ 2)), Nat.ne_of_lt (Nat.lt_succ_self _), Nat.ne_of_lt (Nat.lt_of_lt_of_le lt (Nat.le_add_right _ 1)), Nat.ne_of_lt lt⟩
end
end

section
open PySem PySem.W PyProof.Rows PySem.Calls PySem.Spec
theorem zip_no_len : typeLookup (.type "zip") "__len__" = pure none := by rw [typeLookup_type, builtinLookup_eq_fast]; kernel_rfl
theorem zip_no_hint : typeLookup (.type "zip") "__length_hint__" = pure none := by rw [typeLookup_type, builtinLookup_eq_fast]; kernel_rfl
/-- an element's tuple in the ledger -/
abbrev El.obj (e : El) : Addr × Obj := (e.tq, tup2 e.k e.pos)
/-- the elements that zip and count make of a list of numbers -/
structure Mad (its0 : List (Int × Tok)) (els : List El) : Prop where
  key : els.map (fun e => (e.key, e.tok)) = its0.take els.length
  pos : ∀ (k : Nat) (e : El), els[k]? = some e → ∃ t, e.pos = .int (k : Nat) t
theorem Mad.snoc {its0 : List (Int × Tok)} {els : List El} (x : Mad its0 els) {a : Int} {t tp : Tok} {T : Addr} (h : its0[els.length]? = some (a, t)) : Mad its0 (els ++ [⟨T, a, t, .int (els.length : Nat) tp⟩]) := by
  refine ⟨?_, fun k e hk => ?_⟩
  · rw [List.map_append, x.key, List.length_append, List.length_singleton, List.take_add_one, h]; rfl
  · rw [List.getElem?_append] at hk
    split at hk
    · exact x.pos k e hk
    · rename_i hl
      cases hm : k - els.length with
      | zero =>
        rw [hm] at hk
        obtain rfl := Option.some.inj hk
        have : k = els.length := by omega
        exact ⟨tp, by rw [this]⟩
      | succ m => rw [hm] at hk; cases hk
/-- the same update beside a ledger -/
theorem PostS.beside {fs : List Addr} {own upd new : List (Addr × Obj)} {H h : Heap} {S : Addr} {f : Obj → Obj} (P : PostS fs own upd new H h) (e : upd.map (·.1) = own.map (·.1)) (ho : ∀ p ∈ own, p.1 ≠ S) (hH : H.get? S = none) (hn : ∀ p ∈ new, p.1 ≠ S) : PostS fs own upd new H (h.update S f) := by
  have k : ∀ b, b ≠ S → (h.update S f).get? b = h.get? b := fun b hb => Heap.get?_update_other _ _ (Ne.symm hb)
  have q : ∀ b x, H.get? b = some x → b ≠ S := fun b x y z => by rw [z, hH] at y; cases y
  refine ⟨⟨fun b o y n m => (k b (q b o y)).trans (P.1.1 b o y n m), fun b o y m => (P.1.2 b o y m).imp fun sl z => (k b (q b o y)).trans z⟩, fun p hp => ?_, fun p hp => ⟨(k _ (hn p hp)).trans (P.2.2 p hp).1, (P.2.2 p hp).2⟩⟩
  have : p.1 ∈ own.map (·.1) := by rw [← e]; exact List.mem_map_of_mem hp
  obtain ⟨r, hr, er⟩ := List.mem_map.mp this
  exact (k _ (er ▸ ho r hr)).trans (P.2.1 p hp)
section
variable {w : World} {p : Program} {loose : List Str} {mean : ExcName → Option Value} {mg mb : Str → Option Value} {dp un : Nat} {gd : Option (List Code)} {env : Env} {outer : List Env} {A₀ : Around} {base h₀ : Heap} {L : Addr} {m : Str → Option Value} {s : Shared} {Q E : Value → Shared → Prop} {C dC z TO TI D I : Addr} {its0 : List (Int × Tok)} {t u : Tok} {n : Nat} {imm : List (Addr × Obj)}
abbrev vs0 (its0 : List (Int × Tok)) : Array Value := (its0.map fun p => Value.int p.1 p.2).toArray
theorem zip_collect (B : Below A₀ base outer h₀) (F : Fr h₀ L s.heap m) (XB : (KF w.params).In base) (TB : Top p loose mean mg mb base) (hf : env.frame = some L) (hk : env.scope.kind = .function) {Ql : List Value → Shared → Prop} (N : News h₀ L s.heap ((z, zpO .none false TI TO) :: (TO, tup2 .none .none) :: (I, itL D 0) :: (C, ctO dC (.int 0 t) u) :: imm))
    (n1 : AllNe z ((TO, tup2 .none .none) :: (I, itL D 0) :: (C, ctO dC (.int 0 t) u) :: imm)) (n2 : AllNe TO ((I, itL D 0) :: (C, ctO dC (.int 0 t) u) :: imm)) (n3 : AllNe I ((C, ctO dC (.int 0 t) u) :: imm)) (aC : AllNe C imm)
    (hdC : (dC, dictOf [] 0) ∈ imm) (hTI : (TI, tup2 (.ref I) (.ref C)) ∈ imm) (hD : (D, listOf (vs0 its0) n) ∈ imm) (hdp : dp + 5 < recursionLimit) (hne : its0 ≠ []) (hz : its0.length ≤ 8)
    (h : ∀ els h' tk upd, Mad its0 els → els.length = its0.length → upd.map (·.1) = ((z, zpO .none false TI TO) :: (TO, tup2 .none .none) :: (I, itL D 0) :: (C, ctO dC (.int 0 t) u) :: imm : List (Addr × Obj)).map (·.1) → (∀ p ∈ imm, p ∈ upd) → PostS (frs (env :: outer)) ((z, zpO .none false TI TO) :: (TO, tup2 .none .none) :: (I, itL D 0) :: (C, ctO dC (.int 0 t) u) :: imm) upd (els.reverse.map El.obj) s.heap h' → Ql (els.map El.val) { s with heap := h', toks := tk }) :
    wpAny (model PG w) (top dp un gd (env :: outer)) (collect (.ref z)) Ql E s := by
  let ow : Value → Bool → Value → Value → Nat → Tok → List (Addr × Obj) := fun f0 f1 a b k t' => (z, zpO f0 f1 TI TO) :: (TO, tup2 a b) :: (I, itL D k) :: (C, ctO dC (.int (k : Nat) t') u) :: imm
  let St : Nat → List Value → Shared → Prop := fun k acc s' => ∃ (els : List El) (f0 : Value) (f1 : Bool) (a b : Value) (t' : Tok), PostS (frs (env :: outer)) (ow .none false .none .none 0 t) (ow f0 f1 a b els.length t') (els.reverse.map El.obj) s.heap s'.heap ∧ s' = { s with heap := s'.heap, toks := s'.toks } ∧
    (els = [] ∧ f0 = .none ∨ ∃ e ∈ els, f0 = rawInt (e.tq : Nat)) ∧ (∀ e ∈ els, e.tq ≠ s.heap.objs.size) ∧ acc = els.map El.val ∧ Mad its0 els ∧ els.length + k = its0.length
  let Fin : List Value → Shared → Prop := fun acc s' => ∃ (els : List El) (upd : List (Addr × Obj)), (upd.map (·.1) = (ow .none false .none .none 0 t).map (·.1) ∧ ∀ p ∈ imm, p ∈ upd) ∧ PostS (frs (env :: outer)) (ow .none false .none .none 0 t) upd (els.reverse.map El.obj) s.heap s'.heap ∧ s' = { s with heap := s'.heap, toks := s'.toks } ∧ acc = els.map El.val ∧ Mad its0 els ∧ els.length = its0.length
  have hS0 : s.heap.get? s.heap.objs.size = none := Heap.get?_none_of_le (Nat.le_refl _)
  have hown : ∀ p ∈ ow .none false .none .none 0 t, p.1 ≠ s.heap.objs.size := fun p hp => Nat.ne_of_lt (Heap.lt_size (N p hp).1)
  have hfr : s.heap.objs.size ∉ frs (env :: outer) := fun q => Nat.lt_irrefl _ (frs_lt B F hf _ q)
  have hT : ∀ k acc s', St k acc s' → s'.TypeIs (.ref z) "zip" := fun k acc s' ⟨els, f0, f1, a, b, t', P, _⟩ => ⟨_, P.2.1 _ (.head _), rfl⟩
  have W : Src PG w (top dp un gd (env :: outer)).in1 z s.heap.objs.size St Fin := {
    step := fun k acc s' o Q E ⟨els, f0, f1, a, b, t', P, e, hq, ne, hx, hm, hl⟩ hS hK => by
      obtain ⟨g', T', F', N', B'⟩ := behindN B F N hf P (fun p hp => hp) rfl (rest := []) (fun p hp => nomatch hp)
      replace N' : News g' L s'.heap (ow f0 f1 a b els.length t') := fun p hp => N' p (List.mem_append_right _ hp)
      obtain ⟨p, hp⟩ : ∃ p, its0[els.length]? = some p := ⟨its0[els.length]'(by omega), List.getElem?_eq_getElem (by omega)⟩
      refine zip_next (x := .int p.1 p.2) B'.1 F' XB TB hf hk N' (hq.imp (·.2) fun ⟨q, hq, e⟩ => ⟨q.tq, _, e, (P.2.2 q.obj (List.mem_map_of_mem (List.mem_reverse.mpr hq))).1⟩) n1 n2 n3 aC hdC hTI hD hdp (by simp [vs0, hp]) fun T t'' f0' f1' a' b' h' tk P' hf' => ?_
      have P2 := P.trans2 P' rfl (fun p hp => ⟨_, (N p hp).1⟩) (frs_in B F hf)
      have hTS : T ≠ s.heap.objs.size := fun q => by
        have := (P'.2.2 _ (.head _)).2
        rw [q, hS] at this; cases this
      refine hK _ _ ⟨els ++ [⟨T, p.1, p.2, .int (els.length : Nat) t'⟩], f0', f1', a', b', t'', ?_, by rw [e], .inr ?_, fun x hx => ?_, by rw [hx, List.map_append]; rfl, hm.snoc hp, by rw [List.length_append, List.length_singleton]; omega⟩
        (P'.1.1 _ o hS (fun q => ?_) hfr)
      · rw [List.reverse_append, List.length_append]
        exact P2
      · rcases hf' with rfl | ⟨T₁, e1, e2⟩
        · exact ⟨_, List.mem_append_right _ (.head _), rfl⟩
        · rcases hq with ⟨_, e3⟩ | ⟨q, hq, e3⟩
          · rw [e3] at e1; cases e1
          · exact ⟨q, List.mem_append_left _ hq, e2.trans e3⟩
      · rcases List.mem_append.mp hx with hx | hx
        · exact ne x hx
        · rw [List.mem_singleton.mp hx]; exact hTS
      · obtain ⟨r, hr, er⟩ := List.mem_map.mp (show _ ∈ (ow .none false .none .none 0 t).map (·.1) from q)
        exact hown r hr er
    fin := fun acc s' o Q E ⟨els, f0, f1, a, b, t', P, e, hq, ne, hx, hm, hl⟩ hS hK => by
      obtain ⟨g', T', F', N', B'⟩ := behindN B F N hf P (fun p hp => hp) rfl (rest := []) (fun p hp => nomatch hp)
      replace N' : News g' L s'.heap (ow f0 f1 a b els.length t') := fun p hp => N' p (List.mem_append_right _ hp)
      have hq' : ∃ e ∈ els, f0 = rawInt (e.tq : Nat) := hq.elim (fun ⟨x, _⟩ => absurd (by rw [x] at hl; exact List.length_eq_zero_iff.mp hl.symm) hne) id
      obtain ⟨q, hq, e1⟩ := hq'
      refine zip_end B'.1 F' XB TB hf hk N' ⟨q.tq, _, e1, (P.2.2 q.obj (List.mem_map_of_mem (List.mem_reverse.mpr hq))).1⟩ n1 n2 n3 hTI hD (by simp [vs0]; omega) fun h' tk P' => ?_
      exact hK _ ⟨els, (z, zpO f0 true TI TO) :: (TO, tup2 a b) :: (I, itE els.length) :: (C, ctO dC (.int (els.length : Nat) t') u) :: imm, ⟨rfl, fun p hp => .tail _ (.tail _ (.tail _ (.tail _ hp)))⟩, P.trans2 P' rfl (fun p hp => ⟨_, (N p hp).1⟩) (frs_in B F hf), by rw [e], hx, hm, hl⟩ (P'.1.1 _ o hS (fun q => by
        obtain ⟨r, hr, er⟩ := List.mem_map.mp (show _ ∈ (ow .none false .none .none 0 t).map (·.1) from q)
        exact hown r hr er) hfr)
    upd := fun k acc s' f ⟨els, f0, f1, a, b, t', P, e, q, ne, r⟩ => ⟨els, f0, f1, a, b, t', P.beside rfl hown hS0 (fun p hp => by obtain ⟨x, hx, rfl⟩ := List.mem_map.mp hp; exact ne x (List.mem_reverse.mp hx)), by rw [e], q, ne, r⟩
    self := fun k acc s' o Q E st hS hk => wpAny_pyIter_slot (hT _ _ _ st) PySem.F.slot_zip_iter (wpAny_call_entry PySem.F.slot_zip_iter (hT _ _ _ st) PySem.F.entry_zip_iter (wpAny_pure ⟨_, rfl, "zip", _, hT _ _ _ st, PySem.F.slot_zip_next.lookup, hk _ st hS⟩) (PySem.F.args_zip_iter_1 _))
    typ := ⟨.type "zip", by decide, by decide, fun k acc s' Q E st hq => wpAny_typeOf (hT _ _ _ st) hq⟩
    len := fun k acc s' Q E st hq => wpAny_specialOf (hT _ _ _ st) zip_no_len hq
    hint := fun k acc s' Q E st hq => wpAny_specialOf (hT _ _ _ st) zip_no_hint hq
    ne := Ne.symm (hown _ (.head _)) }
  refine collect_own W (n := its0.length) ⟨[], .none, false, .none, .none, t, ?_, rfl, .inl ⟨rfl, rfl⟩, (fun _ hp => nomatch hp), rfl, ⟨rfl, fun k e hk => nomatch hk⟩, Nat.zero_add _⟩ (Nat.le_trans hz (by decide)) fun xs s' ⟨els, upd, ⟨u1, u2⟩, P, e, hx, hm, hl⟩ => ?_
  · exact ⟨⟨fun b o e _ _ => Heap.get?_push_of_some _ e, fun b o e _ => ⟨o.slots, Heap.get?_push_of_some _ e⟩⟩, fun p hp => Heap.get?_push_of_some _ (N p hp).1, fun _ hp => nomatch hp⟩
  · subst hx
    rw [e]
    exact h els _ _ upd hm hl u1 u2 P
end
end

section
open PySem PySem.W PyProof.Rows PySem.Calls PySem.Spec
def posOf : Value → Int
  | .int p _ => p
  | _ => 0
def El.rk (e : El) : Int := e.key * 64 + posOf e.pos
section
variable {prog : Program} {w : World} {A : Around} {E : Value → Shared → Prop} {s : Shared}
theorem tup_cmp {x y : Addr} {a b i j : Int} {t t' u u' : Tok} {Q : Bool → Shared → Prop} (hx : s.heap.get? x = some (tup2 (.int a t) (.int i u))) (hy : s.heap.get? y = some (tup2 (.int b t') (.int j u'))) (hi : 0 ≤ i ∧ i < 64) (hj : 0 ≤ j ∧ j < 64)
    (h : Q (decide (a * 64 + i < b * 64 + j)) s) : wpAny (model prog w) A (keyLt' (tuples' true) (.ref x) (.ref y)) Q E s := by
  refine kat_lt hx rfl hy rfl ?_
  show KatLex prog w A true false Q [(.int a t, .int b t'), (.int i u, .int j u')] 0 s
  refine kat_cons (wpAny_eqBool_int ?_)
  by_cases e : a = b
  · subst e
    rw [beq_self_eq_true]
    refine kat_yes (kat_cons (wpAny_eqBool_int ?_))
    by_cases e2 : i = j
    · subst e2
      rw [beq_self_eq_true]
      refine kat_yes (kat_nil ?_)
      rwa [show decide (a * 64 + i < a * 64 + i) = false from decide_eq_false (Int.lt_irrefl _)] at h
    · rw [show (i == j) = false from beq_eq_false_iff_ne.mpr e2]
      refine kat_no (kat_one _ _ ?_)
      rw [show decide (a * 64 + i < a * 64 + j) = decide (i < j) from decide_eq_decide.mpr (by omega)] at h
      exact wpAny_lt_int h
  · rw [show (a == b) = false from beq_eq_false_iff_ne.mpr e]
    refine kat_no (oneLt_int ?_)
    rwa [show decide (a * 64 + i < b * 64 + j) = decide (a < b) from decide_eq_decide.mpr (by omega)] at h
/-- places as count gives them -/
structure Plc (els : List El) : Prop where
  pos : ∀ (k : Nat) (e : El), els[k]? = some e → ∃ t, e.pos = .int (k : Nat) t
  len : els.length < 64
theorem Plc.rk (x : Plc els) {b : Bool} {k : Nat} {e : El} (h : (katRev b els)[k]? = some e) : e ∈ els ∧ ∃ (q : Nat) (t : Tok), e.pos = .int q t ∧ q < els.length ∧ e.rk = e.key * 64 + q ∧ (q = if b = true then els.length - 1 - k else k) := by
  have hk : k < els.length := by have := (List.getElem?_eq_some_iff.mp h).1; rwa [kat_len] at this
  cases b with
  | false =>
    obtain ⟨t, ht⟩ := x.pos k e h
    exact ⟨List.mem_of_getElem? h, k, t, ht, hk, by unfold El.rk; rw [ht]; rfl, rfl⟩
  | true =>
    have h' : els.reverse[k]? = some e := h
    rw [List.getElem?_reverse hk] at h'
    obtain ⟨t, ht⟩ := x.pos _ e h'
    exact ⟨List.mem_of_getElem? h', _, t, ht, by omega, by unfold El.rk; rw [ht]; rfl, rfl⟩
/-- in order, up or down -/
def Odr (b : Bool) (els : List El) : Prop := if b = true then els.Pairwise (fun e f => f.rk < e.rk) else els.Pairwise (fun e f => e.rk < f.rk)
theorem kat_tups (hh : Heap) : ∀ els : List El, (∀ e ∈ els, hh.get? e.tq = some (tup2 e.k e.pos)) → KatTups hh (els.map El.val) (els.map El.k)
  | [], _ => KatTups.nil
  | e :: r, h => KatTups.cons (h e (.head _)) rfl rfl rfl (kat_tups hh r fun e he => h e (.tail _ he))
theorem Odr.of {n : Nat} {d : El} {els : List El} {p : Array Nat} (b : Bool) (hn : els.length = n) (x : Prm n p) (z : Ascd (fun i => (els.getD i d).rk) p n) :
    (katRev b (p.toList.map fun i => els.getD i d)).Perm els ∧ Odr b (katRev b (p.toList.map fun i => els.getD i d)) := by
  have h1 : (p.toList.map fun i => els.getD i d).Perm els := by
    refine (x.perm.map _).trans (List.Perm.of_eq ?_)
    refine List.ext_getElem (by simp [hn]) fun i h1 h2 => by simp [List.getD, h2]
  have h2 : (p.toList.map fun i => els.getD i d).Pairwise fun e f => e.rk < f.rk := by
    rw [List.pairwise_iff_getElem]
    intro i j hi hj hij
    have hj' : j < n := by rw [List.length_map, Array.length_toList, x.size] at hj; exact hj
    have := z i j hij hj'
    unfold Rk at this
    rw [x.get (Nat.lt_trans hij hj'), x.get hj'] at this
    rw [List.getElem_map, List.getElem_map]
    exact this
  cases b with
  | false => exact ⟨h1, h2⟩
  | true => exact ⟨(List.reverse_perm _).trans h1, List.pairwise_reverse.mpr h2⟩
theorem tup_sort {a : Addr} {els : List El} {n : Nat} {b : Bool} {P : PySem.Fin → Shared → Prop} (ho : s.heap.get? a = some (seqObj "list" (els.map El.val).toArray n)) (hE : ∀ e ∈ els, s.heap.get? e.tq = some (tup2 e.k e.pos)) (x : Plc els) (h2 : 2 ≤ els.length)
    (h : ∀ els', els'.Perm els → Odr b els' → P (.done (.ret .none)) { s with heap := sortedHeap s.heap a (els.map El.val) (els'.map El.val).toArray }) :
    wpAny (model prog w) A (Builtin.«list.sort» ⟨[.ref a], [(Str.ofString "reverse", .bool b)]⟩) P E s := by
  generalize hvs : els.map El.val = vs at *
  have hlen : vs.length = els.length := by rw [← hvs, List.length_map]
  have h64 := x.len
  rw [list_sort_rev]
  have ha : a < s.heap.objs.size := Heap.lt_size ho
  refine wpAny_bind (listItems_at ho rfl ?_)
  refine wpAny_bind (listUpdate_at ho rfl ?_)
  obtain ⟨e1, ho1⟩ : ∃ e1, (s.heap.update a (Obj.mapSeq fun _ => #[])).get? a = some (seqObj "list" #[] e1) := ⟨_, get?_update_seq ho (fun _ => #[])⟩
  refine wpAny_bind (seqEpoch_at ho1 rfl ?_)
  refine wpAny_bind (wpAny_newTuple ?_ (by show vs.length ≤ _; rw [sizeLine_eq]; omega))
  refine wpAny_bind (wpAny_newList ?_ (Nat.zero_le _))
  refine wpAny_holding ?_
  have ho6 : (((s.heap.update a (Obj.mapSeq fun _ => #[])).push (seqObj "tuple" vs.toArray 0)).push (seqObj "list" #[] 0)).get? a = some (seqObj "list" #[] e1) := Heap.get?_push_of_some _ (Heap.get?_push_of_some _ ho1)
  have hE6 : ∀ e ∈ els, (((s.heap.update a (Obj.mapSeq fun _ => #[])).push (seqObj "tuple" vs.toArray 0)).push (seqObj "list" #[] 0)).get? e.tq = some (tup2 e.k e.pos) := fun e he => by
    refine Heap.get?_push_of_some _ (Heap.get?_push_of_some _ ((Heap.get?_update_other _ _ fun q => ?_).trans (hE e he)))
    have z := hE e he
    rw [← q, ho] at z
    simp [seqObj] at z
  show wpAny (model prog w) A _ P E { s with heap := ((s.heap.update a (Obj.mapSeq fun _ => #[])).push (seqObj "tuple" vs.toArray 0)).push (seqObj "list" #[] 0) }
  have hsz : vs.toArray.size = vs.length := by simp
  dsimp only
  have step : ∀ t : Sem PySem.Fin, wpAny (model prog w) A t P E { s with heap := ((s.heap.update a (Obj.mapSeq fun _ => #[])).push (seqObj "tuple" vs.toArray 0)).push (seqObj "list" #[] 0) } →
      wpAny (model prog w) A (if b = true then (do let _ ← rule "list.sort.reverse"; t) else t) P E { s with heap := ((s.heap.update a (Obj.mapSeq fun _ => #[])).push (seqObj "tuple" vs.toArray 0)).push (seqObj "list" #[] 0) } := by
    intro t ht
    split
    · exact wpAny_bind (wpAny_rule ht)
    · exact ht
  refine step _ ?_
  have hn2 : ¬ vs.toArray.size < 2 := by rw [hsz]; omega
  rw [if_neg hn2, if_neg hn2]
  have hT : KatTups (((s.heap.update a (Obj.mapSeq fun _ => #[])).push (seqObj "tuple" vs.toArray 0)).push (seqObj "list" #[] 0)) vs (els.map El.k) := by
    have := kat_tups _ els hE6
    rwa [hvs] at this
  refine wpAny_bind (kat_kind (T := .type "int") hT (by rw [List.length_map]; omega) (fun v hv => ?_) (by decide) ?_)
  · obtain ⟨e, _, rfl⟩ := List.mem_map.mp hv
    exact Looks.of_pure rfl
  rw [show (Value.type "int" != Value.type "tuple") = true by decide]
  rw [show (if b = true then (vs.toArray.zip vs.toArray).reverse else vs.toArray.zip vs.toArray) = (List.toArray (katRev b vs)).zip (List.toArray (katRev b vs)) from kat_pairs b rfl]
  have hv : katRev b vs = (katRev b els).map El.val := by
    rw [← hvs]; cases b <;> simp [katRev]
  have get : ∀ i, i < els.length → ∃ e, (katRev b els)[i]? = some e ∧ (katRev b vs).getD i Value.none = e.val ∧ e = (katRev b els).getD i ⟨0, 0, 0, .none⟩ := fun i hi => by
    have hi' : i < (katRev b els).length := by rw [kat_len]; exact hi
    exact ⟨(katRev b els)[i], List.getElem?_eq_getElem hi', by rw [hv]; simp [List.getD, hi'], by simp [List.getD, hi']⟩
  refine wpAny_bind (wpAny_mono (kat_run (Q := fun st' s' => ∃ els', els'.Perm els ∧ Odr b els' ∧ (if b = true then ((arrOf st').map (·.2)).reverse else (arrOf st').map (·.2)) = (els'.map El.val).toArray ∧ failedOf st' = none ∧ s' = { s with heap := ((s.heap.update a (Obj.mapSeq fun _ => #[])).push (seqObj "tuple" vs.toArray 0)).push (seqObj "list" #[] 0) })
    (G := fun p s' => Prm els.length p ∧ Ascd (fun i => ((katRev b els).getD i ⟨0, 0, 0, .none⟩).rk) p els.length ∧ s' = { s with heap := ((s.heap.update a (Obj.mapSeq fun _ => #[])).push (seqObj "tuple" vs.toArray 0)).push (seqObj "list" #[] 0) })
    rfl (by rw [kat_len]; omega) (by rw [kat_len]; omega) (fun p st' s' z1 z2 z3 z4 => ?_) ?_) (fun rr s' hq => ?_) fun _ _ e => e)
  · obtain ⟨y, z, rfl⟩ := z4
    obtain ⟨o1, o2⟩ := Odr.of b (by rw [kat_len]) y z
    have o3 : (katRev b els).Perm els := by
      cases b
      · exact .refl _
      · exact List.reverse_perm _
    refine ⟨_, o1.trans o3, o2, ?_, z3, rfl⟩
    rw [kat_snds rfl z2, kat_outs]
    have em : (p.toList.map fun i => (katRev b vs).getD i Value.none) = (p.toList.map fun i => (katRev b els).getD i ⟨0, 0, 0, .none⟩).map El.val := by
      rw [List.map_map]
      refine List.map_congr_left fun i hi => ?_
      obtain ⟨e, _, g2, g3⟩ := get i (List.mem_range.mp (y.perm.mem_iff.mp hi))
      rw [g2, g3]; rfl
    rw [em]
    cases b <;> simp [katRev]
  · rw [kat_len, hlen]
    refine sort_wp (r := fun i => ((katRev b els).getD i ⟨0, 0, 0, .none⟩).rk) (fun i j C hi hj hC => ?_) (fun i j hi hj q => ?_) h2 fun p y z => ⟨y, z, rfl⟩
    · obtain ⟨e, g1, g2, g3⟩ := get i hi
      obtain ⟨f, k1, k2, k3⟩ := get j hj
      obtain ⟨m1, q1, t1, p1, l1, r1, _⟩ := x.rk g1
      obtain ⟨m2, q2, t2, p2, l2, r2, _⟩ := x.rk k1
      unfold kas_ask
      rw [g2, k2]
      refine tup_cmp (a := e.key) (b := f.key) (t := e.tok) (t' := f.tok) (i := q1) (j := q2) (u := t1) (u' := t2) (p1 ▸ hE6 e m1) (p2 ▸ hE6 f m2) ⟨by omega, by omega⟩ ⟨by omega, by omega⟩ ?_
      rw [← r1, ← r2, g3, k3]
      exact hC
    · obtain ⟨e, g1, g2, g3⟩ := get i hi
      obtain ⟨f, k1, k2, k3⟩ := get j hj
      obtain ⟨m1, q1, t1, p1, l1, r1, u1⟩ := x.rk g1
      obtain ⟨m2, q2, t2, p2, l2, r2, u2⟩ := x.rk k1
      rw [← g3, ← k3, r1, r2] at q
      have qe : q1 = q2 := by omega
      rw [u1, u2] at qe
      cases b
      · exact qe
      · simp only [if_true] at qe; omega
  · obtain ⟨els', q1, q2, q3, q4, rfl⟩ := hq
    obtain ⟨⟨⟩, st'⟩ := rr
    dsimp only at q3 q4 ⊢
    refine wpAny_bind (seqEpoch_at ho6 rfl ?_)
    rw [q3]
    refine wpAny_bind (listUpdate_at ho6 rfl ?_ (hsz2 := by rw [List.size_toArray, List.length_map, q1.length_eq, sizeLine_eq]; omega))
    rw [q4]
    simp only [bne_self_eq_false, Bool.false_eq_true, if_false]
    exact wpAny_pure (h els' q1 q2)
end
end

section
open PySem PySem.W PyProof.Rows PySem.Calls PySem.Spec
theorem PostS.sorted {fs : List Addr} {own upd new : List (Addr × Obj)} {H h : Heap} {vs : List Value} {out : Array Value} (P : PostS fs own upd new H h) (hl : ∀ b x, H.get? b = some x → b < h.objs.size) :
    ∃ e, PostS fs own upd ((h.objs.size, lsO out e) :: new) H (sortedHeap (h.push (seqObj "list" vs.toArray 0)) h.objs.size vs out) := by
  have hS : (h.push (seqObj "list" vs.toArray 0)).get? h.objs.size = some (seqObj "list" vs.toArray 0) := Heap.get?_push_size _ rfl
  obtain ⟨e, he⟩ := sortedHeap_at (out := out) hS
  have k : ∀ b x, h.get? b = some x → (sortedHeap (h.push (seqObj "list" vs.toArray 0)) h.objs.size vs out).get? b = some x := fun b x q =>
    (sortedHeap_old (Nat.ne_of_lt (Heap.lt_size q)) (by rw [size_push']; exact Nat.lt_succ_of_lt (Heap.lt_size q))).trans (Heap.get?_push_of_some _ q)
  refine ⟨e, ⟨fun b o y n m => k _ _ (P.1.1 b o y n m), fun b o y m => (P.1.2 b o y m).imp fun sl z => k _ _ z⟩, fun p hp => k _ _ (P.2.1 p hp), List.forall_mem_cons.mpr ⟨⟨he, ?_⟩, fun p hp => ⟨k _ _ (P.2.2 p hp).1, (P.2.2 p hp).2⟩⟩⟩
  cases q : H.get? h.objs.size with
  | none => rfl
  | some x => exact absurd (hl _ _ q) (Nat.lt_irrefl _)
section
variable {w : World} {p : Program} {loose : List Str} {mean : ExcName → Option Value} {mg mb : Str → Option Value} {dp un : Nat} {gd : Option (List Code)} {env : Env} {outer : List Env} {A₀ : Around} {base h₀ : Heap} {L : Addr} {m : Str → Option Value} {s : Shared} {Q E : Value → Shared → Prop} {C dC z TO TI D I : Addr} {its0 : List (Int × Tok)} {t u : Tok} {n : Nat} {b : Bool} {imm : List (Addr × Obj)}
theorem sorted_zip (B : Below A₀ base outer h₀) (F : Fr h₀ L s.heap m) (XB : (KF w.params).In base) (TB : Top p loose mean mg mb base) (hf : env.frame = some L) (hk : env.scope.kind = .function) (N : News h₀ L s.heap ((z, zpO .none false TI TO) :: (TO, tup2 .none .none) :: (I, itL D 0) :: (C, ctO dC (.int 0 t) u) :: imm))
    (n1 : AllNe z ((TO, tup2 .none .none) :: (I, itL D 0) :: (C, ctO dC (.int 0 t) u) :: imm)) (n2 : AllNe TO ((I, itL D 0) :: (C, ctO dC (.int 0 t) u) :: imm)) (n3 : AllNe I ((C, ctO dC (.int 0 t) u) :: imm)) (aC : AllNe C imm)
    (hdC : (dC, dictOf [] 0) ∈ imm) (hTI : (TI, tup2 (.ref I) (.ref C)) ∈ imm) (hD : (D, listOf (vs0 its0) n) ∈ imm) (hdp : dp + 5 < recursionLimit) (h2 : 2 ≤ its0.length) (hz : its0.length ≤ 8)
    (h : ∀ V c els els' h' tk upd, Mad its0 els → els.length = its0.length → els'.Perm els → Odr b els' → upd.map (·.1) = ((z, zpO .none false TI TO) :: (TO, tup2 .none .none) :: (I, itL D 0) :: (C, ctO dC (.int 0 t) u) :: imm : List (Addr × Obj)).map (·.1) → (∀ p ∈ imm, p ∈ upd) → PostS (frs (env :: outer)) ((z, zpO .none false TI TO) :: (TO, tup2 .none .none) :: (I, itL D 0) :: (C, ctO dC (.int 0 t) u) :: imm) upd ((V, lsO (vsOf els') c) :: els.reverse.map El.obj) s.heap h' → Q (.ref V) { s with heap := h', toks := tk }) :
    wpAny (model PG w) (top dp un gd (env :: outer)) (call (.builtin "sorted") [.ref z] [(Str.ofString "reverse", .bool b)]) Q E s := by
  refine call_function_entry_kw kind_sorted plain_sorted entry_sorted (args_sorted_rev _ _) ?_
  unfold Builtin.«sorted»
  refine wpAny_bind (m := checkCount "sorted" 1 1 _) (wpAny_pure ?_)
  refine wpAny_bind (zip_collect B F XB TB hf hk N n1 n2 n3 aC hdC hTI hD hdp (fun e => by rw [e] at h2; cases h2) hz fun els h' tk upd hm hl u1 u2 P => ?_)
  refine wpAny_bind (wpAny_newList ?_ (by rw [List.length_map, sizeLine_eq]; omega))
  have hE : ∀ e ∈ els, h'.get? e.tq = some (tup2 e.k e.pos) := fun e he => (P.2.2 e.obj (List.mem_map_of_mem (List.mem_reverse.mpr he))).1
  have hoL : (h'.push (seqObj "list" (els.map El.val).toArray 0)).get? h'.objs.size = some (seqObj "list" (els.map El.val).toArray 0) := Heap.get?_push_size _ rfl
  refine wpAny_bind (wpAny_holding (wpAny_call_entry_kw slot_list_sort ⟨_, hoL, rfl⟩ entry_list_sort (tup_sort hoL (fun e he => Heap.get?_push_of_some _ (hE e he)) ⟨hm.pos, by omega⟩ (by omega) fun els' q1 q2 => ⟨_, rfl, ?_⟩) (args_list_sort_rev _ _)))
  obtain ⟨c, P'⟩ := P.sorted (vs := els.map El.val) (out := vsOf els') fun b x e => P.lt u1 e
  exact wpAny_pure ⟨_, rfl, h _ c els els' _ _ upd hm hl q1 q2 u1 u2 P'⟩
end
end

section
open PySem PySem.W PyProof.Rows PySem.Calls PySem.Spec
/-- the groupby and its list iterator between two groups; `rem`: what has not yet been given out in a group -/
inductive RkG (V : Addr) (its : List El) (d I IG : Addr) : List El → Obj → Obj → Prop
  | start (t u : Tok) : RkG V its d I IG its (gbO d (.int 0 t) .none .none false false false (.ref I) (.ref IG) (.int 0 u) .none) (itL V 0)
  | ahead (e : El) (rs : List El) (sn : Int) (t0 : Tok) (a : Int) (ta : Tok) (ha : ta ≠ 0) (h1 : 0 ≤ a ∧ a ≤ 8) (hab : ta = e.tok → a = e.key) (ne : a ≠ e.key) : RkG V its d I IG (e :: rs) (gS d sn t0 I IG (.int a ta) (some e)) (itL V (its.length - rs.length))
  | over (sn : Int) (t0 : Tok) (tk0 : Value) : RkG V its d I IG [] (gS d sn t0 I IG tk0 none) (itE its.length)
theorem RkG.goes {V d I IG : Addr} {its rem : List El} {go io : Obj} {imm : List (Addr × Obj)} (x : RkG V its d I IG rem go io) (hne : its ≠ []) (Y : Els imm its) (hsuf : rem <:+ its) : (rem = [] ∧ ∃ sn t0 tk0, go = gS d sn t0 I IG tk0 none ∧ io = itE its.length) ∨
    ∃ e rs g ck cv hck hcv htk sn t0 tk0 i, rem = e :: rs ∧ go = gbO d g ck cv hck hcv htk (.ref I) (.ref IG) (.int sn t0) tk0 ∧ io = itL V i ∧ GbAt (vsOf its) i (its.length - rs.length) e.tq e.key e.tok ck cv hck hcv htk tk0 := by
  cases x with
  | start t u =>
    refine .inr ?_
    cases its with
    | nil => exact absurd rfl hne
    | cons e rs => exact ⟨e, rs, _, _, _, _, _, _, 0, u, _, 0, rfl, rfl, rfl, .first (by simp [El.val]) rfl rfl (by simp)⟩
  | ahead e rs sn t0 a ta ha h1 hab ne =>
    have he : e ∈ its := hsuf.subset (.head _)
    exact .inr ⟨e, rs, _, _, _, _, _, _, sn, t0, _, _, rfl, rfl, rfl, .next rfl rfl rfl rfl rfl rfl a ta rfl ha (Y.tok e he) ⟨by omega, by omega⟩ hab ne⟩
  | over sn t0 tk0 => exact .inl ⟨rfl, sn, t0, tk0, rfl, rfl⟩
/-- the ranks that stand in the result already -/
def ResOk (its rem : List El) (res : Array Value) : Prop :=
  res.size = its.length ∧ (∀ e ∈ its, e ∉ rem → ∃ t, t ≠ 0 ∧ res[(posOf e.pos).toNat]? = some (.float (rkF ((its.takeWhile (fun f => f.key != e.key)).length) (its.filter (fun f => f.key == e.key)).length) t)) ∧ ∃ pre, its = pre ++ rem ∧ ∀ f ∈ pre, ∀ h ∈ rem, f.key ≠ h.key
theorem fr_swap {h₀ h : Heap} {L : Addr} {x z : Str} {a b : Option Value} {m : Str → Option Value} (hne : x ≠ z) (F : Fr h₀ L h (fun y => if y = x then a else if y = z then b else m y)) : Fr h₀ L h (fun y => if y = z then b else if y = x then a else m y) := by
  have e : (fun y => if y = x then a else if y = z then b else m y) = (fun y => if y = z then b else if y = x then a else m y) := funext fun y => by
    by_cases h1 : y = x
    · subst h1; rw [if_pos rfl, if_neg hne, if_pos rfl]
    · rw [if_neg h1, if_neg h1]
  rw [← e]; exact F
/-- two objects of different kinds stand apart -/
theorem cls_ne {h₀ h : Heap} {L a b : Addr} {o o' : Obj} {news : List (Addr × Obj)} (N : News h₀ L h news) (h1 : (a, o) ∈ news) (h2 : (b, o') ∈ news) (hc : o.cls ≠ o'.cls) : @Ne Nat a b := fun e => by
  have x := (N _ h1).1
  have y := (N _ h2).1
  rw [show (a, o).1 = (b, o').1 from e] at x
  exact hc (congrArg Obj.cls (Option.some.inj (x.symm.trans y)))
/-- what holds between two turns of _rank's loop -/
def RkI (prog : Program) (w : World) (dp un : Nat) (gd : Option (List Code)) (env : Env) (outer : List Env) (base : Heap) (s : Shared) (own jm : List (Addr × Obj)) (L V : Addr) (c : Nat) (its : List El) (r : Addr) (k : Nat) (s' : Shared) : Prop :=
  ∃ (g : Heap) (im : List (Addr × Obj)) (go io : Obj) (Rl I d IG dI tp : Addr) (u ti : Tok) (res : Array Value) (cr : Nat) (rem : List El) (M : Str → Option Value),
    s' = { s with heap := s'.heap, toks := s'.toks } ∧ Gs (frs (env :: outer)) own s.heap g ∧ Below (top dp un gd (env :: outer)) base (env :: outer) g ∧
    Fr g L s'.heap (fun y => if y = Str.ofString "i" then some (.int (its.length - rem.length : Nat) ti) else if y = Str.ofString "result" then some (.ref Rl) else M y) ∧
    News g L s'.heap ((r, go) :: (I, io) :: (Rl, listOf res cr) :: im) ∧ (∀ p ∈ jm, p ∈ im) ∧ GbG im d V (vsOf its) c IG dI tp u ∧
    (@Ne Nat I r ∧ @Ne Nat Rl r ∧ @Ne Nat Rl I ∧ AllNe r im ∧ AllNe I im ∧ AllNe Rl im) ∧ (∃ C, C = r ∧ k = rem.length ∧ rem <:+ its) ∧ RkG V its d I IG rem go io ∧ ResOk its rem res
end

section
open PySem PySem.W PyProof.Rows PySem.Calls PySem.Spec
/-- the value is stored at the places of the elements -/
def sto (v : Value) (res : Array Value) (l : List El) : Array Value := l.foldl (fun a e => a.setIfInBounds (posOf e.pos).toNat v) res
theorem sto_size (v : Value) : ∀ (l : List El) (res : Array Value), (sto v res l).size = res.size
  | [], _ => rfl
  | e :: r, res => by
    show (sto v (res.setIfInBounds _ v) r).size = res.size
    rw [sto_size v r, Array.size_setIfInBounds]
theorem sto_take (v : Value) (res : Array Value) (l : List El) {i : Nat} {e : El} (h : l[i]? = some e) : sto v res (l.take (i + 1)) = (sto v res (l.take i)).setIfInBounds (posOf e.pos).toNat v := by
  rw [List.take_add_one, h]
  simp [sto, List.foldl_append]
theorem sto_get (v : Value) : ∀ (l : List El) (res : Array Value) (j : Nat), j < res.size → (sto v res l)[j]? = if ∃ e ∈ l, (posOf e.pos).toNat = j then some v else res[j]?
  | [], res, j, _ => by simp [sto]
  | e :: r, res, j, hj => by
    show (sto v (res.setIfInBounds (posOf e.pos).toNat v) r)[j]? = _
    rw [sto_get v r _ j (by rw [Array.size_setIfInBounds]; exact hj)]
    by_cases h1 : ∃ f ∈ r, (posOf f.pos).toNat = j
    · rw [if_pos h1, if_pos (by obtain ⟨f, hf, q⟩ := h1; exact ⟨f, .tail _ hf, q⟩)]
    · rw [if_neg h1]
      by_cases h2 : (posOf e.pos).toNat = j
      · rw [if_pos ⟨e, .head _, h2⟩, h2, Array.getElem?_setIfInBounds_self_of_lt hj]
      · rw [if_neg (by rintro ⟨f, hf, q⟩; rcases List.mem_cons.mp hf with rfl | hf; exact h2 q; exact h1 ⟨f, hf, q⟩), Array.getElem?_setIfInBounds_ne h2]
section
variable {prog : Program} {w : World} {A : Around} {E : Value → Shared → Prop} {s : Shared} {g : Heap} {L S Rl a : Addr} {m : Str → Option Value} {rest : List (Addr × Obj)} {l : List El} {res : Array Value} {cr cS : Nat} {v : Value}
/-- for value, place in group: result[place] = v -/
theorem for_store {cn : Str} {cs : Scope} {ccd : Value} {xa xb xs xr xv : Str} {p1 p2 p3 p4 p5 p6 p7 p8 p9 p10 : Pos} {k : Nat} {Q : Flow → Shared → Prop} (hh : A.handled = none) (F : Fr g L s.heap m) (N : News g L s.heap ((Rl, listOf res cr) :: rest)) (aR : AllNe Rl rest)
    (hS : (S, listOf (vsOf l) cS) ∈ rest) (hE : ∀ e ∈ l, (e.tq, tup2 e.k e.pos) ∈ rest) (hp : ∀ e ∈ l, ∃ (q : Nat) (t : Tok), e.pos = .int q t ∧ q < res.size ∧ q < 64)
    (ms : m xs = some (.ref S)) (mr : m xr = some (.ref Rl)) (mv : m xv = some v) (n1 : xs ≠ xa ∧ xs ≠ xb) (n2 : xr ≠ xa ∧ xr ≠ xb) (n3 : xv ≠ xa ∧ xv ≠ xb)
    (hk : cs.kind = .function) (ka : (envOf cn cs L a ccd).kindOf xa = some .local) (kb : (envOf cn cs L a ccd).kindOf xb = some .local) (ks : (envOf cn cs L a ccd).kindOf xs = some .local) (kr : (envOf cn cs L a ccd).kindOf xr = some .local) (kv : (envOf cn cs L a ccd).kindOf xv = some .local)
    (d : (xs == ("__debug__" : Str)) = false ∧ (xr == ("__debug__" : Str)) = false ∧ (xv == ("__debug__" : Str)) = false ∧ (xb == ("__debug__" : Str)) = false) (hab : xa ≠ xb)
    (h : ∀ h' tk M, (∀ y, y ≠ xa → y ≠ xb → M y = m y) → Fr g L h' M → News g L h' ((Rl, listOf (sto v res l) cr) :: rest) → Q .next { s with heap := h', toks := tk })
    (hPE : PassesOwn (model prog w) A (envOf cn cs L a ccd) E := by passes_own) :
    wpAny (model prog w) A (exec (.For (.Tuple [.Name xa p1, .Name xb p2] k p3) (.Name xs p4) [.Assign [.Subscript (.Name xr p5) (.Name xb p6) p7] (.Name xv p8) p9] [] p10) (envOf cn cs L a ccd)) Q E s := by
  have hsz : (vsOf l).size = l.length := by simp
  refine for_list (items := vsOf l) (S := S) (J := fun i g' M nw => g' = g ∧ (∀ y, y ≠ xa → y ≠ xb → M y = m y) ∧ nw = (Rl, listOf (sto v res (l.take i)) cr) :: rest) hh F N ⟨rfl, fun _ _ _ => rfl, rfl⟩ ?_ ?_ ?_ ?_ (hE := hPE)
  · rintro i g' M nw h ⟨rfl, _, rfl⟩ N'
    exact IsL.isList (n := cS) (N' _ (.tail _ hS)).1
  · exact wpAny_Name (wpAny_loadName_local hk ks F.ns ms ⟨rfl, rfl⟩) d.1
  · rintro i x hx g' M nw h₁ tk I ⟨rfl, hM, rfl⟩ F₁ N₁ hI
    obtain ⟨e, he, rfl⟩ : ∃ e, l[i]? = some e ∧ x = e.val := by
      simp only [vsOf, List.getElem?_toArray, List.getElem?_map] at hx
      cases q : l[i]? with
      | none => rw [q] at hx; cases hx
      | some e => rw [q] at hx; exact ⟨e, rfl, (Option.some.inj hx).symm⟩
    have hel : e ∈ l := List.mem_of_getElem? he
    obtain ⟨q, t, hq, hq1, hq2⟩ := hp e hel
    refine wpAny_letOwnedTupleGo_listiter (s := { s with heap := h₁, toks := tk }) ⟨_, (N₁ _ (.head _)).1, rfl, rfl⟩ ?_
    refine pair_to (s := { s with heap := h₁, toks := tk }) hh F₁ N₁ (.tail _ (.tail _ (hE e hel))) (fun h₂ tk₂ F₂ N₂ => ?_) hk ka kb
    dsimp only
    refine wpAny_execs_cons (wpAny_Assign_Subscript ?_ (by rfl))
    refine wpAny_Name (wpAny_loadName_local hk kv F₂.ns (v := v) (by rw [if_neg n3.2, if_neg n3.1, hM _ n3.1 n3.2]; exact mv) ?_) d.2.2.1
    refine wpAny_Name (wpAny_loadName_local hk kr F₂.ns (v := .ref Rl) (by rw [if_neg n2.2, if_neg n2.1, hM _ n2.1 n2.2]; exact mr) ?_) d.2.1
    refine wpAny_Name (wpAny_loadName_local hk kb F₂.ns (v := e.pos) (by rw [if_pos rfl]) ?_) d.2.2.2
    rw [hq]
    refine ki_setAt (n := cr) (N₂ _ (.tail _ (.head _))).1 (Int.natCast_nonneg _) (by omega) (by rw [sto_size]; exact Int.ofNat_lt.mpr hq1) ?_
    refine wpAny_execs_nil (.mk ⟨g', _, _, _, _, rfl, ⟨rfl, fun y y1 y2 => ?_, rfl⟩, F₂.change (Heap.SameBut.update ..) (N₂ _ (.tail _ (.head _))).2.1 (N₂ _ (.tail _ (.head _))).2.2, ki_turn (pre := [(I, itL S (i + 1))]) _ N₂ (fun p hp => ?_) (fun p hp => Ne.symm (aR.at p hp) |>.symm) ?_ ?_, ?_⟩)
    · rw [if_neg y2, if_neg y1, hM y y1 y2]
    · rw [List.mem_singleton.mp hp]; exact Ne.symm hI.1
    · rw [sto_take v res l he, hq]; rfl
    · rw [if_pos (by simp [sto_size])]
    · exact ⟨hI.1, hI.2⟩
  · rintro g' M nw h₁ tk ⟨rfl, hM, rfl⟩ F₁ N₁
    rw [hsz, List.take_length] at N₁
    exact h _ _ _ hM F₁ N₁
end
end

section
open PySem PySem.W PyProof.Rows PySem.Calls PySem.Spec
/-- in order of keys, up or down, equal ones together -/
def KOdr (b : Bool) (l : List El) : Prop := l.Pairwise fun e f => if b = true then f.key ≤ e.key else e.key ≤ f.key
theorem Odr.keys {b : Bool} {l : List El} (h : Odr b l) (hp : ∀ e ∈ l, 0 ≤ posOf e.pos ∧ posOf e.pos < 64) : KOdr b l := by
  unfold Odr at h
  unfold KOdr
  cases b with
  | false =>
    rw [if_neg Bool.false_ne_true] at h
    refine h.imp_of_mem fun ha hb q => ?_
    have := hp _ ha; have := hp _ hb
    unfold El.rk at q
    rw [if_neg Bool.false_ne_true]
    omega
  | true =>
    rw [if_pos rfl] at h
    refine h.imp_of_mem fun ha hb q => ?_
    have := hp _ ha; have := hp _ hb
    unfold El.rk at q
    rw [if_pos rfl]
    omega
/-- behind a group no element has its key -/
theorem rst_ne {b : Bool} {a : Int} : ∀ {l : List El}, KOdr b l → (∀ e ∈ l, if b = true then e.key ≤ a else a ≤ e.key) → ∀ f ∈ rst a l, f.key ≠ a
  | [], _, _, _, h => nomatch h
  | e :: r, ho, ha, f, h => by
    have ho' := List.pairwise_cons.mp ho
    unfold rst at h
    by_cases he : e.key = a
    · rw [List.dropWhile_cons_of_pos (by simpa using he)] at h
      exact rst_ne ho'.2 (fun x hx => ha x (.tail _ hx)) f h
    · rw [List.dropWhile_cons_of_neg (by simpa using he)] at h
      have h0 := ha e (.head _)
      rcases List.mem_cons.mp h with rfl | h
      · exact he
      · have h1 := ho'.1 f h
        cases b
        · rw [if_neg Bool.false_ne_true] at h0 h1; omega
        · rw [if_pos rfl] at h0 h1; omega
theorem grp_key {a : Int} : ∀ {l : List El}, ∀ f ∈ grp a l, f.key = a
  | [], _, h => nomatch h
  | e :: r, f, h => by
    unfold grp at h
    by_cases he : e.key = a
    · rw [List.takeWhile_cons_of_pos (by simpa using he)] at h
      rcases List.mem_cons.mp h with rfl | h
      · exact he
      · exact grp_key f h
    · rw [List.takeWhile_cons_of_neg (by simpa using he)] at h
      cases h
theorem grp_rst (a : Int) (l : List El) : grp a l ++ rst a l = l := List.takeWhile_append_dropWhile
/-- places apart -/
def PosD (l : List El) : Prop := ∀ e ∈ l, ∀ f ∈ l, (posOf e.pos).toNat = (posOf f.pos).toNat → e = f
theorem ResOk.turn {b : Bool} {its rs : List El} {e : El} {res : Array Value} {t : Tok} (ht : t ≠ 0) (x : ResOk its (e :: rs) res) (ho : KOdr b its) (hd : PosD its) (hp : ∀ f ∈ its, (posOf f.pos).toNat < its.length) :
    ResOk its (rst e.key rs) (sto (.float (rkF (its.length - (e :: rs).length) (e :: grp e.key rs).length) t) res (e :: grp e.key rs)) := by
  obtain ⟨hs, hr, pre, rfl, hne⟩ := x
  have hg : ∀ f ∈ e :: grp e.key rs, f.key = e.key := fun f hf => by
    rcases List.mem_cons.mp hf with rfl | hf
    · rfl
    · exact grp_key f hf
  have hsplit : e :: rs = (e :: grp e.key rs) ++ rst e.key rs := by rw [List.cons_append, grp_rst]
  have ho2 : KOdr b (e :: rs) := (List.pairwise_append.mp ho).2.1
  have hrst : ∀ f ∈ rst e.key rs, f.key ≠ e.key := rst_ne (List.pairwise_cons.mp ho2).2 (fun f hf => by have := (List.pairwise_cons.mp ho2).1 f hf; exact this)
  have hin : ∀ f ∈ e :: grp e.key rs, f ∈ pre ++ e :: rs := fun f hf => List.mem_append_right _ (hsplit ▸ List.mem_append_left _ hf)
  have tw : ∀ f ∈ e :: grp e.key rs, ((pre ++ e :: rs).takeWhile fun z => z.key != f.key).length = (pre ++ e :: rs).length - (e :: rs).length := fun f hf => by
    rw [hg f hf, List.takeWhile_append_of_pos (fun z hz => by simpa using hne z hz e (.head _)), List.takeWhile_cons_of_neg (by simp)]
    simp
  have fl : ∀ f ∈ e :: grp e.key rs, ((pre ++ e :: rs).filter fun z => z.key == f.key).length = (e :: grp e.key rs).length := fun f hf => by
    rw [hg f hf, hsplit, List.filter_append, List.filter_append, List.filter_eq_nil_iff.mpr (fun z hz => by simpa using hne z hz e (.head _)), List.filter_eq_self.mpr (fun z hz => by simpa using hg z hz), List.filter_eq_nil_iff.mpr (fun z hz => by simpa using hrst z hz)]
    simp
  refine ⟨by rw [sto_size]; exact hs, fun f hf hn => ?_, pre ++ (e :: grp e.key rs), by rw [List.append_assoc, ← hsplit], fun f hf h hh => ?_⟩
  · have hlt : (posOf f.pos).toNat < res.size := by rw [hs]; exact hp f hf
    rw [sto_get _ _ _ _ hlt]
    by_cases q : f ∈ e :: grp e.key rs
    · rw [if_pos ⟨f, q, rfl⟩, tw f q, fl f q]
      exact ⟨t, ht, rfl⟩
    · rw [if_neg (by rintro ⟨z, hz, ez⟩; exact q (hd z (hin z hz) f hf ez ▸ hz))]
      refine hr f hf fun hm => ?_
      rw [hsplit] at hm
      rcases List.mem_append.mp hm with hm | hm
      · exact q hm
      · exact hn hm
  · rcases List.mem_append.mp hf with hf | hf
    · exact hne f hf h (hsplit ▸ List.mem_append_right _ hh)
    · rw [hg f hf]; exact Ne.symm (hrst h hh)
theorem fr_off {g h : Heap} {L : Addr} {xa xb : Str} {M m : Str → Option Value} (F : Fr g L h M) (hM : ∀ y, y ≠ xa → y ≠ xb → M y = m y) : ∃ a b, Fr g L h (fun y => if y = xb then a else if y = xa then b else m y) := by
  refine ⟨M xb, M xa, ?_⟩
  have : M = fun y => if y = xb then M xb else if y = xa then M xa else m y := funext fun y => by
    by_cases h1 : y = xb
    · rw [if_pos h1, h1]
    · rw [if_neg h1]
      by_cases h2 : y = xa
      · rw [if_pos h2, h2]
      · rw [if_neg h2]; exact hM y h2 h1
  rw [← this]; exact F
theorem fr_has {g h : Heap} {L : Addr} {x z : Str} {v : Value} {c : Option Value} {m : Str → Option Value} (F : Fr g L h (fun y => if y = z then c else m y)) (hx : m x = some v) : Fr g L h (fun y => if y = z then c else if y = x then some v else m y) := by
  have : (fun y => if y = z then c else if y = x then some v else m y) = fun y => if y = z then c else m y := funext fun y => by
    by_cases h1 : y = z
    · rw [if_pos h1, if_pos h1]
    · rw [if_neg h1, if_neg h1]
      by_cases h2 : y = x
      · rw [if_pos h2, h2, hx]
      · rw [if_neg h2]
  rw [this]; exact F
/-- what holds of the groupby behind a group -/
theorem RkG.behind {V d I IG : Addr} {its rs : List El} {e : El} {sn : Int} {t0 : Tok} {io : Obj} {imm : List (Addr × Obj)} {b : Bool} (Y : Els imm its) (hsuf : e :: rs <:+ its) (ho : KOdr b its) (hio : match rst e.key rs with | [] => io = itE its.length | _ :: r => io = itL V (its.length - r.length)) :
    RkG V its d I IG (rst e.key rs) (gS d sn t0 I IG e.k (rst e.key rs).head?) io := by
  have he : e ∈ its := hsuf.subset (.head _)
  have hsub : ∀ f ∈ rst e.key rs, f ∈ its := fun f hf => hsuf.subset (.tail _ ((List.dropWhile_sublist _).subset hf))
  have ho2 : KOdr b (e :: rs) := ho.sublist hsuf.sublist
  have hrst : ∀ f ∈ rst e.key rs, f.key ≠ e.key := rst_ne (List.pairwise_cons.mp ho2).2 (fun f hf => by have := (List.pairwise_cons.mp ho2).1 f hf; exact this)
  cases q : rst e.key rs with
  | nil => rw [q] at hio; subst hio; exact .over _ _ _
  | cons f r =>
    rw [q] at hio hrst hsub; subst hio
    exact .ahead f r _ _ e.key e.tok (Y.tok e he) (Y.key e he) (Y.inj e he f (hsub f (.head _))) (Ne.symm (hrst f (.head _)))
end

section
open PySem PySem.W PyProof.Rows PySem.Calls PySem.Spec
section
variable {w : World} {p : Program} {loose : List Str} {mean : ExcName → Option Value} {mg mb : Str → Option Value} {dp un : Nat} {gd : Option (List Code)} {env : Env} {outer : List Env} {A₀ : Around} {base h₀ : Heap} {L : Addr} {m : Str → Option Value} {s : Shared} {Q E : Value → Shared → Prop} {D : Addr} {its0 : List (Int × Tok)} {n : Nat} {b : Bool} {kw : List (Str × Value)} {imm : List (Addr × Obj)}
set_option maxHeartbeats 4000000 in
theorem rk_c (B : Below A₀ base outer h₀) (F : Fr h₀ L s.heap m) (XB : (KF w.params).In base) (TB : Top p loose mean mg mb base) (hf : env.frame = some L) (hk : env.scope.kind = .function) (hkw : kw = [(Str.ofString "reverse", .bool b)] ∨ (kw = [] ∧ b = false)) (N : News h₀ L s.heap imm) (hD : (D, listOf (vs0 its0) n) ∈ imm) (hdp : dp + 30 < recursionLimit) (hu : un + 100 < cLine) (h2 : 2 ≤ its0.length) (hz : its0.length ≤ 8) (hits : ∀ p ∈ its0, p.2 ≠ 0 ∧ 0 ≤ p.1 ∧ p.1 ≤ 8) (hinj : ∀ p ∈ its0, ∀ q ∈ its0, p.2 = q.2 → p.1 = q.1)
    (h : ∀ R c els els' res h' tk, Mad its0 els → els.length = its0.length → els'.Perm els → Odr b els' → ResOk els' [] res → PostS (frs (env :: outer)) imm imm [(R, listOf res c)] s.heap h' → Q (.ref R) { s with heap := h', toks := tk }) :
    wpAny (model PG w) (top dp un gd (env :: outer)) (call (.ref 257) [.ref D] kw) Q E s := by
  refine' have key : _ := ?body; ?rest
  case rest =>
    rcases hkw with e | ⟨e, eb⟩
    · rw [e]
      k_dflt (refine' enterC ?k1 ?k2 ?k3 ?k4 ?k5 ?kA ?kF ?kK ?k6 ?k7 ?k8 ?k9 ?kB ?_ ?c2 ?c3 ?c4 ?c5; (case kA => exact rfl); (case kF => exact hf); (case kK => exact hk); (case k1 => exact B); (case k2 => exact F); (case k3 => exact XB); (case k4 => exact N); (case k5 => exact TB); (case k6 => k_is); (case k7 => k_is); (case k8 => ktr_room); (case k9 => (refine' kp_binds ?kx ?ke; (case kx => exact (XB.keeps B.stays).keeps F.keep); (case ke => exact fun _ => rfl))); (case kB => exact locs rfl); (case c5 => decide); (case c2 => exact rfl); (case c3 => exact rfl); (case c4 => exact rfl))
      exact key
    · rw [e]
      k_dflt (refine' enterC ?k1 ?k2 ?k3 ?k4 ?k5 ?kA ?kF ?kK ?k6 ?k7 ?k8 ?k9 ?kB ?_ ?c2 ?c3 ?c4 ?c5; (case kA => exact rfl); (case kF => exact hf); (case kK => exact hk); (case k1 => exact B); (case k2 => exact F); (case k3 => exact XB); (case k4 => exact N); (case k5 => exact TB); (case k6 => k_is); (case k7 => k_is); (case k8 => ktr_room); (case k9 => (refine' kp_binds ?kx ?ke; (case kx => exact (XB.keeps B.stays).keeps F.keep); (case ke => exact fun _ => rfl))); (case kB => exact locs rfl); (case c5 => decide); (case c2 => exact rfl); (case c3 => exact rfl); (case c4 => exact rfl))
      have key2 := key
      rw [eb] at key2
      exact key2
  intro g L₁ h₁ F₁ N₁ B₁ X₁ T₁ G₁ k₁
  have hl1 : Halt "binaryOp Div int int" := .mk _
  have hl2 : Halt "binaryOp Add int float" := .mk _
  have hl3 : Halt "exec For" := .mk _
  replace F₁ : Fr g L₁ h₁ (bnd [("start", .int 1 _), ("ties", .str (Str.ofString "average") _), ("reverse", .bool b), ("key", .none), ("data", .ref D)]) := F₁
  k_steps
  unfold Lv
  refine ct_new (imm := []) B₁ F₁ XB TB (by rfl) (by rfl) (fun p hp => nomatch hp) (by ktr_room) ?_
  intro C dC tc uc h₂ k₂ P₂
  obtain ⟨g₂, T₂, F₂, N₂, B₂, a₂⟩ := behindN B₁ F₁ N₁ rfl P₂ (fun p hp => nomatch hp) rfl (rest := imm) (fun p hp => ⟨hp, trivial⟩)
  simp only [List.cons_append, List.nil_append, List.append_nil] at N₂
  have aC := a₂ _ (.head _)
  have G₂ := G₁.turn T₂
  have X₂ := XB.keeps B₂.stays
  have TT₂ := TB.keeps B₂.stays
  clear P₂ F₁ N₁ B₁ X₁ T₁ G₁ T₂
  k_steps
  have nC : @Ne Nat dC C := fun e => by
    have a := (N₂ (C, ctO dC (.int 0 tc) uc) (.head _)).1
    have b := (N₂ (dC, dictOf [] 0) (.tail _ (.head _))).1
    rw [show (dC, dictOf [] 0).1 = (C, ctO dC (.int 0 tc) uc).1 from e] at b
    exact absurd (congrArg Obj.cls (Option.some.inj (a.symm.trans b))) (by simp)
  refine zip_new B₂ F₂ XB TB (by rfl) (by rfl) N₂ ⟨nC, aC⟩ (.head _) (.tail _ hD) (by ktr_room) ?_
  intro z TO TI I h₃ k₃ P₃ ⟨d1, d2, d3, d4, d5, d6⟩
  obtain ⟨g₃, T₃, F₃, N₃, B₃, a₃⟩ := behindN B₂ F₂ N₂ rfl P₃ (fun p hp => hp) rfl (rest := []) (fun p hp => nomatch hp)
  simp only [List.cons_append, List.nil_append, List.append_nil] at N₃
  have az := a₃ _ (.head _)
  have aTO := a₃ _ (.tail _ (.head _))
  have aTI := a₃ _ (.tail _ (.tail _ (.head _)))
  have aI := a₃ _ (.tail _ (.tail _ (.tail _ (.head _))))
  have G₃ := G₂.turn T₃
  have X₃ := XB.keeps B₃.stays
  have TT₃ := TB.keeps B₃.stays
  clear P₃ F₂ N₂ B₂ X₂ TT₂ G₂ T₃
  k_steps
  refine sorted_zip (its0 := its0) (imm := (TI, tup2 (.ref I) (.ref C)) :: (dC, dictOf [] 0) :: imm) (t := tc) (u := uc) (n := n) (b := b) B₃ F₃ XB TB (by rfl) (by rfl)
    (news_sub N₃ ⟨.head _, .tail _ (.head _), .tail _ (.tail _ (.tail _ (.head _))), .tail _ (.tail _ (.tail _ (.tail _ (.head _)))), .tail _ (.tail _ (.head _)), .tail _ (.tail _ (.tail _ (.tail _ (.tail _ (.head _))))), sub_l fun p hp => .tail _ (.tail _ (.tail _ (.tail _ (.tail _ (.tail _ hp)))))⟩)
    ⟨d1, d3, az.1, d2, az.2⟩ ⟨d5, aTO.1, d4, aTO.2⟩ ⟨aI.1, Ne.symm d6, aI.2⟩ ⟨Ne.symm aTI.1, nC, aC⟩ (.tail _ (.head _)) (.head _) (.tail _ (.tail _ hD)) (by ktr_room) h2 hz ?_
  intro V c els els' h₄ k₄ upd hm hl hp ho u1 u2 P₄
  obtain ⟨g₄, T₄, F₄, N₄, B₄, a₄⟩ := behindN B₃ F₃ N₃ rfl P₄ (List.forall_mem_cons.mpr ⟨.head _, List.forall_mem_cons.mpr ⟨.tail _ (.head _), List.forall_mem_cons.mpr ⟨.tail _ (.tail _ (.tail _ (.head _))), List.forall_mem_cons.mpr ⟨.tail _ (.tail _ (.tail _ (.tail _ (.head _)))), List.forall_mem_cons.mpr ⟨.tail _ (.tail _ (.head _)), List.forall_mem_cons.mpr ⟨.tail _ (.tail _ (.tail _ (.tail _ (.tail _ (.head _))))), fun p hp => .tail _ (.tail _ (.tail _ (.tail _ (.tail _ (.tail _ hp)))))⟩⟩⟩⟩⟩⟩) u1 (rest := []) (fun p hp => nomatch hp)
  have G₄ := G₃.turn T₄
  have X₄ := XB.keeps B₄.stays
  have TT₄ := TB.keeps B₄.stays
  clear F₃ B₃ X₃ TT₃ G₃ T₄
  obtain ⟨jm, hV, hEs, hj, N₅⟩ : ∃ jm, (V, listOf (vsOf els') c) ∈ jm ∧ (∀ e ∈ els', e.obj ∈ jm) ∧ (∀ p ∈ imm, p ∈ jm) ∧ News g₄ L₁ h₄ jm :=
    ⟨(V, lsO (vsOf els') c) :: (els.reverse.map El.obj ++ imm), .head _, fun e he => .tail _ (List.mem_append_left _ (List.mem_map_of_mem (List.mem_reverse.mpr (hp.mem_iff.mp he)))), fun p hp => .tail _ (List.mem_append_right _ hp), fun p hp => N₄ p (by
      rcases List.mem_cons.mp hp with rfl | hp
      · exact .head _
      · rcases List.mem_append.mp hp with hp | hp
        · exact .tail _ (List.mem_append_left _ hp)
        · exact .tail _ (List.mem_append_right _ (u2 p (.tail _ (.tail _ hp)))))⟩
  clear N₃ N₄ a₄ aI aTI aTO az u1 u2 P₄
  k_steps
  rename News g₄ _ _ _ => N₆
  rename Fr g₄ _ _ _ => F₆
  have hlen : (vsOf els').size = its0.length := by rw [← hl, ← hp.length_eq]; simp
  refine Calls.call_len_list ⟨_, (N₆ (V, listOf (vsOf els') c) (.tail _ hV)).1, rfl, c, rfl⟩ (by rw [hlen]; omega) ?_
  rw [hlen]
  k_steps
  unfold Lv
  rename News g₄ _ _ _ => N₇
  rename Fr g₄ _ _ _ => F₇
  rename Nat => kk
  have key : ∀ e ∈ els', (e.key, e.tok) ∈ its0 := fun e he => by
    have z := hm.key
    rw [hl, List.take_length] at z
    rw [← z]
    exact List.mem_map_of_mem (f := fun e : El => (e.key, e.tok)) (hp.mem_iff.mp he)
  have Y : Els jm els' := ⟨hEs, fun e he => (hits _ (key e he)).1, fun e he => (hits _ (key e he)).2, fun e he f hf q => hinj _ (key e he) _ (key f hf) q⟩
  refine for_any (I := fun r k s' => RkI PG w dp un gd env outer base s imm jm L₁ V c els' r k s') ?_ ?_ (hE := by passes_own)
  · k_steps
    unfold Lv
    refine ig_new (imm := []) B₄ F₇ XB TB (by rfl) (by rfl) (fun p hp => nomatch hp) (by ktr_room) ?_
    intro IG dI tp h₅ k₅ P₅
    obtain ⟨g₅, T₅, F₅, N₈, B₅, a₅⟩ := behindN B₄ F₇ N₇ rfl P₅ (fun p hp => nomatch hp) rfl (rest := _ :: _ :: jm) (fun p hp => ⟨hp, trivial⟩)
    simp only [List.cons_append, List.nil_append, List.append_nil] at N₈
    have G₅ := G₄.turn T₅
    have X₅ := XB.keeps B₅.stays
    have TT₅ := TB.keeps B₅.stays
    k_steps
    unfold Lv
    rename _ ∧ AllLt _ jm => lD
    refine gb_new (imm := jm) B₅ F₅ XB TB (by rfl) (by rfl) (fun p hp => N₈ p (.tail _ (.tail _ (.tail _ (.tail _ (.tail _ hp)))))) (by ktr_room) hV ?_
    intro G dG I tg us h₆ k₆ P₆ hIG
    have aIG := a₅ _ (.head _)
    have adI := a₅ _ (.tail _ (.head _))
    have atp := a₅ _ (.tail _ (.tail _ (.head _)))
    obtain ⟨g₆, T₆, F₆', N₉, B₆, a₆⟩ := behindN B₅ F₅ N₈ rfl P₆ (fun p hp => .tail _ (.tail _ (.tail _ (.tail _ (.tail _ hp))))) rfl (rest := [(IG, igO dI tp), (dI, dictOf [] 0), (tp, tup1 (.int 0 _)), _, _])
      (List.forall_mem_cons.mpr ⟨⟨.head _, aIG.2.2⟩, List.forall_mem_cons.mpr ⟨⟨.tail _ (.head _), adI.2.2⟩, List.forall_mem_cons.mpr ⟨⟨.tail _ (.tail _ (.head _)), atp.2.2⟩, List.forall_mem_cons.mpr ⟨⟨.tail _ (.tail _ (.tail _ (.head _))), allNe_lt lD.2⟩, List.forall_mem_singleton.mpr ⟨.tail _ (.tail _ (.tail _ (.tail _ (.head _)))), allNe_lt (allLt_of (by assumption))⟩⟩⟩⟩⟩)
    simp only [List.cons_append, List.nil_append] at N₉
    have G₆ := G₅.turn T₆
    have X₆ := XB.keeps B₆.stays
    k_steps
    refine owit_iter F₆' X₆ (InstAt.of_news N₉ (.head _) (.tail _ (.head _))) (by k_is) (by k_is) ?_
    refine gb_self B₆ F₆' XB TB (by rfl) (by rfl) (by ktr_room) fun h₇ k₇ P₇ => ?_
    obtain ⟨g₇, T₇, F₇', N', B₇⟩ := behind0 B₆ F₆' N₉ rfl (PostS.weak B₆ rfl N₉ P₇) (fun p hp => hp) rfl (rest := []) (fun p hp => nomatch hp)
    simp only [List.nil_append] at N'
    refine owit_it F₇' (XB.keeps B₇.stays) (InstAt.of_news N' (.head _) (.tail _ (.head _))) (g := .ref 99) (by k_is) ?_
    have aG := a₆ _ (.head _)
    have adG := a₆ _ (.tail _ (.head _))
    have aI := a₆ _ (.tail _ (.tail _ (.head _)))
    have nd : @Ne Nat dG G := cls_ne N' (.tail _ (.head _)) (.head _) (by simp)
    have nI : @Ne Nat dG I := cls_ne N' (.tail _ (.head _)) (.tail _ (.tail _ (.head _))) (by simp)
    refine ⟨G, els'.length, rfl, g₇, (dG, dictOf [] 0) :: (IG, igO dI tp) :: (dI, dictOf [] 0) :: (tp, tup1 (.int 0 _)) :: (_, listOf _ _) :: jm, _, _, _, I, dG, IG, dI, tp, _, _, _, _, els', _, rfl, G₆.turn T₇, B₇, by rw [Nat.sub_self]; exact fr_swap (by decide) F₇',
      news_sub N' ⟨.head _, .tail _ (.tail _ (.head _)), .tail _ (.tail _ (.tail _ (.tail _ (.tail _ (.tail _ (.head _)))))), .tail _ (.head _), .tail _ (.tail _ (.tail _ (.head _))), .tail _ (.tail _ (.tail _ (.tail _ (.head _)))), .tail _ (.tail _ (.tail _ (.tail _ (.tail _ (.head _))))), .tail _ (.tail _ (.tail _ (.tail _ (.tail _ (.tail _ (.tail _ (.head _))))))), sub_l fun p hp => .tail _ (.tail _ (.tail _ (.tail _ (.tail _ (.tail _ (.tail _ (.tail _ hp)))))))⟩,
      fun p hp => .tail _ (.tail _ (.tail _ (.tail _ (.tail _ hp)))), ⟨.head _, .tail _ (.tail _ (.tail _ (.tail _ (.tail _ hV)))), .tail _ (.head _), .tail _ (.tail _ (.head _)), .tail _ (.tail _ (.tail _ (.head _)))⟩,
      ⟨hIG, aG.2.2.2.1, aI.2.2.2.1, ⟨nd, aG.1, aG.2.1, aG.2.2.1, aG.2.2.2.2⟩, ⟨nI, aI.1, aI.2.1, aI.2.2.1, aI.2.2.2.2⟩, ⟨Ne.symm adG.2.2.2.1, Ne.symm aIG.1, Ne.symm adI.1, Ne.symm atp.1, Nat.ne_of_lt lD.1, allNe_lt lD.2⟩⟩, ⟨G, rfl, rfl, List.suffix_refl _⟩, .start _ _, ?_, (fun e he hn => absurd he hn), [], rfl, fun f hf => nomatch hf⟩
    simp [hp.length_eq, hl]
  · rintro r k s' ⟨g', im, go, io, Rl, I, dG, IG, dI, tp, u, ti, res, cr, rem, M, es, Gg, Bg, Fg, Ng, hjm, Z, ⟨n1, n2, n3, a1, a2, a3⟩, ⟨_, -, rfl, hsuf⟩, hgo, hres⟩
    have Xg := XB.keeps Bg.stays
    have TTg := TB.keeps Bg.stays
    have hp3 : rem.length ≤ 8 := Nat.le_trans hsuf.length_le (by rw [hp.length_eq, hl]; exact hz)
    have Y' : Els im els' := ⟨fun e he => hjm _ (Y.mem e he), Y.tok, Y.key, Y.inj⟩
    rcases hgo.goes (by intro q; rw [q] at hp; have := hp.length_eq; rw [hl] at this; simp at this; omega) Y hsuf with ⟨rfl, sn, t0, tk0, rfl, rfl⟩ | ⟨e, rs, gr, ck, cv, hck, hcv, htk, sn, t0, tk0, i, rfl, rfl, rfl, hat⟩
    · skip
      refine owit_next (f := 99) Fg Xg (InstAt.of_news Ng (.head _) (.tail _ (.tail _ (.tail _ Z.hd)))) (by k_is) (by k_is) ?_
      refine gb_stop (imm := im) Bg Fg XB TB (by rfl) (by rfl) (news_sub Ng ⟨.head _, .tail _ (.head _), sub_l fun p hp => .tail _ (.tail _ (.tail _ hp))⟩) (by ktr_room) n1 a1 a2 Z.hd Z.hV ⟨els'.length, .inr ⟨rfl, rfl⟩⟩ fun h₈ k₈ t₈ e₈ R₈ => stopT R₈ fun P₈ => ?_
      obtain ⟨g₈, T₈, F₈, N₈', B₈⟩ := behind0 Bg Fg Ng rfl P₈ (List.forall_mem_cons.mpr ⟨.head _, List.forall_mem_cons.mpr ⟨.tail _ (.head _), fun p hp => .tail _ (.tail _ (.tail _ hp))⟩⟩) rfl (rest := [(Rl, listOf res cr)]) (List.forall_mem_singleton.mpr ⟨.tail _ (.tail _ (.head _)), Ne.symm n2, Ne.symm n3, a3⟩)
      simp only [List.cons_append, List.nil_append] at N₈'
      have G₈ := Gg.turn T₈
      rw [es] at *
      dsimp only [TurnI]
      k_steps
      exact h Rl cr els els' res _ _ hm hl hp ho hres (end_one G₈ (by assumption) (by assumption) (fun p hp => .tail _ (.tail _ (.tail _ (hjm p (hj p hp))))) (.head _) (AllNe.sub a3 fun p hp => hjm p (hj p hp)))
    · have he : e ∈ els' := hsuf.subset (.head _)
      refine owit_next (f := 99) Fg Xg (InstAt.of_news Ng (.head _) (.tail _ (.tail _ (.tail _ Z.hd)))) (by k_is) (by k_is) ?_
      refine gb_next (imm := im) (i' := els'.length - rs.length) Bg Fg XB TB (by rfl) (by rfl) (news_sub Ng ⟨.head _, .tail _ (.head _), sub_l fun p hp => .tail _ (.tail _ (.tail _ hp))⟩) (by ktr_room) (by ktr_units) n1 a1 a2 Z (Y'.mem e he) hat ?_
      intro h₈ k₈ t₈ R dR o P₈
      obtain ⟨g₈, T₈, F₈, N₈', B₈, a₈⟩ := behindN Bg Fg Ng rfl P₈ (List.forall_mem_cons.mpr ⟨.head _, List.forall_mem_cons.mpr ⟨.tail _ (.head _), fun p hp => .tail _ (.tail _ (.tail _ hp))⟩⟩) rfl (rest := [(Rl, listOf res cr)]) (List.forall_mem_singleton.mpr ⟨.tail _ (.tail _ (.head _)), Ne.symm n2, Ne.symm n3, a3⟩)
      simp only [List.cons_append, List.nil_append] at N₈'
      have G₈ := Gg.turn T₈
      have X₈ := XB.keeps B₈.stays
      have TT₈ := TB.keeps B₈.stays
      rw [es] at *
      dsimp only [TurnI]
      refine own_let (N₈' _ (.tail _ (.tail _ (.tail _ (.tail _ (.head _)))))).1 ?_
      refine pair_to rfl F₈ N₈' (.head _) ?_
      intro h₉ k₉ F₉ N₉
      k_steps
      have bR := a₈ _ (.tail _ (.head _))
      have bd := a₈ _ (.tail _ (.tail _ (.head _)))
      have nR : @Ne Nat dR R := cls_ne N₉ (.tail _ (.tail _ (.head _))) (.tail _ (.head _)) (by simp)
      refine gr_list (e0 := e) (rs := rs) (its := els') (imm := (dR, dictOf [] 0) :: im) (n := c) B₈ F₉ XB TB (by rfl) (by rfl) (news_sub N₉ ⟨.tail _ (.head _), .tail _ (.tail _ (.tail _ (.tail _ (.head _)))), .tail _ (.tail _ (.tail _ (.tail _ (.tail _ (.head _))))), .tail _ (.tail _ (.head _)), sub_l fun p hp => .tail _ (.tail _ (.tail _ (.tail _ (.tail _ (.tail _ hp)))))⟩)
        (by ktr_room) (by ktr_units) n1 (Ne.symm bR.1) (Ne.symm bR.2.1) ⟨Ne.symm bd.1, a1⟩ ⟨Ne.symm bd.2.1, a2⟩ ⟨nR, bR.2.2.2⟩ ⟨.tail _ Z.hd, .tail _ Z.hV, .tail _ Z.hIG, .tail _ Z.hdI, .tail _ Z.htp⟩ (.head _) ⟨fun e he => .tail _ (Y'.mem e he), Y.tok, Y.key, Y.inj⟩ he ((List.suffix_cons e rs).trans hsuf) (by rw [hp.length_eq, hl]; exact hz) ?_
      intro S cs h₁₀ k₁₀ io' P₁₀ hio
      obtain ⟨g₁₀, T₁₀, F₁₀, N₁₀, B₁₀, a₁₀⟩ := behindN B₈ F₉ N₉ rfl P₁₀ (List.forall_mem_cons.mpr ⟨.tail _ (.head _), List.forall_mem_cons.mpr ⟨.tail _ (.tail _ (.tail _ (.tail _ (.head _)))), List.forall_mem_cons.mpr ⟨.tail _ (.tail _ (.tail _ (.tail _ (.tail _ (.head _))))), List.forall_mem_cons.mpr ⟨.tail _ (.tail _ (.head _)), fun p hp => .tail _ (.tail _ (.tail _ (.tail _ (.tail _ (.tail _ hp)))))⟩⟩⟩⟩) rfl
        (rest := [(Rl, listOf res cr)]) (List.forall_mem_singleton.mpr ⟨.tail _ (.tail _ (.tail _ (.head _))), Ne.symm bR.2.2.1, Ne.symm n2, Ne.symm n3, Ne.symm bd.2.2.1, a3⟩)
      simp only [List.cons_append, List.nil_append] at N₁₀
      have G₁₀ := G₈.turn T₁₀
      have X₁₀ := XB.keeps B₁₀.stays
      have TT₁₀ := TB.keeps B₁₀.stays
      clear P₁₀
      k_steps
      rename News g₁₀ _ _ _ => N₁₁
      rename Fr g₁₀ _ _ _ => F₁₁
      obtain ⟨sz, hsz⟩ : ∃ sz, sz = (e :: grp e.key rs).length := ⟨_, rfl⟩
      have hvs : (vsOf (e :: grp e.key rs)).size = sz := by rw [hsz]; simp
      have hszl : sz ≤ 8 := by
        have a := (List.takeWhile_sublist (p := (·.key == e.key)) (l := rs)).length_le
        rw [List.length_cons] at hp3
        rw [hsz, List.length_cons]
        unfold grp
        omega
      refine Calls.call_len_list ⟨_, (N₁₁ _ (.head _)).1, rfl, cs, rfl⟩ (by rw [hvs]; omega) ?_
      rw [hvs]
      k_steps
      unfold Lv
      refine div2 (k := sz) (by omega) ?_
      intro t₁₁ k₁₁ hk₁₁
      dsimp only
      k_steps
      unfold Lv
      refine add_rk (i := els'.length - (e :: rs).length) (k := sz) ?_ ?_ ?_
      · have := hp.length_eq; rw [hl] at this; omega
      · dsimp only; omega
      intro t₁₂ k₁₂ ht₁₂
      dsimp only
      k_steps
      unfold Lv
      rename News g₁₀ _ _ _ => N₁₂
      rename Fr g₁₀ _ _ _ => F₁₂
      have hpos : ∀ f ∈ els', ∃ (q : Nat) (t : Tok), f.pos = .int q t ∧ q < els'.length ∧ q < 64 := fun f hf => by
        obtain ⟨k, hk⟩ := List.getElem?_of_mem (hp.mem_iff.mp hf)
        obtain ⟨t, ht⟩ := hm.pos k f hk
        have hlt := (List.getElem?_eq_some_iff.mp hk).1
        have := hp.length_eq
        exact ⟨k, t, ht, by omega, by omega⟩
      have hgm : ∀ f ∈ e :: grp e.key rs, f ∈ els' := fun f hf => hsuf.subset (by rw [← grp_rst e.key rs, ← List.cons_append]; exact List.mem_append_left _ hf)
      have bS := a₁₀ _ (.head _)
      refine for_store (l := e :: grp e.key rs) (res := res) (cr := cr) (S := S) (Rl := Rl) (cS := cs) (v := .float (rkF (els'.length - (e :: rs).length) sz) t₁₂)
        (rest := (S, lsO (vsOf (e :: grp e.key rs)) cs) :: (R, grO dR (.int (sn + 1) t₈) (.ref r) e.k) :: (r, gS dG (sn + 1) t₈ I IG e.k (rst e.key rs).head?) :: (I, io') :: (dR, dictOf [] 0) :: im) rfl F₁₂
        (news_sub N₁₂ ⟨.tail _ (.head _), .head _, .tail _ (.tail _ (.head _)), .tail _ (.tail _ (.tail _ (.head _))), .tail _ (.tail _ (.tail _ (.tail _ (.head _)))), .tail _ (.tail _ (.tail _ (.tail _ (.tail _ (.head _))))), sub_l fun p hp => .tail _ (.tail _ (.tail _ (.tail _ (.tail _ (.tail _ hp)))))⟩)
        ⟨?_, Ne.symm bR.2.2.1, Ne.symm n2, Ne.symm n3, Ne.symm bd.2.2.1, a3⟩ (.head _) (fun f hf => .tail _ (.tail _ (.tail _ (.tail _ (.tail _ (Y'.mem f (hgm f hf))))))) (fun f hf => ?_) rfl rfl rfl (by decide) (by decide) (by decide) rfl rfl rfl rfl rfl rfl (by decide) (by decide) ?_
      · exact bS.2.2.2.1.symm
      · obtain ⟨q, t, e1, e2, e3⟩ := hpos f (hgm f hf)
        exact ⟨q, t, e1, by rw [hres.1]; exact e2, e3⟩
      intro h₁₃ k₁₃ M₁₃ hM F₁₃ N₁₃
      obtain ⟨va, vb, F₁₄⟩ := fr_off (xa := Str.ofString "value") (xb := Str.ofString "orig_pos") F₁₃ hM
      clear F₁₃ hM
      dsimp only
      k_steps
      any_goals (exact (rst e.key rs).length)
      · exact Nat.lt_succ_of_le (List.dropWhile_sublist _).length_le
      · rename News g₁₀ _ _ _ => N₁₄
        rename Fr g₁₀ _ _ _ => F₁₅
        have hko : KOdr b els' := ho.keys fun f hf => by
          obtain ⟨q, t, e1, e2, e3⟩ := hpos f hf
          rw [e1]; exact ⟨Int.natCast_nonneg _, Int.ofNat_lt.mpr e3⟩
        have hpd : PosD els' := by
          intro f hf z hz q
          obtain ⟨k1, h1⟩ := List.getElem?_of_mem (hp.mem_iff.mp hf)
          obtain ⟨k2, h2⟩ := List.getElem?_of_mem (hp.mem_iff.mp hz)
          obtain ⟨t1, p1⟩ := hm.pos k1 f h1
          obtain ⟨t2, p2⟩ := hm.pos k2 z h2
          rw [p1, p2] at q
          obtain rfl : k1 = k2 := q
          exact Option.some.inj (h1.symm.trans h2)
        have hlen : rs.length + 1 = sz + (rst e.key rs).length := by
          rw [hsz]
          have := congrArg List.length (grp_rst e.key rs)
          rw [List.length_append] at this
          rw [List.length_cons]
          omega
        have hsl := hsuf.length_le
        have hi : (((els'.length - (e :: rs).length : Nat) : Int) + (sz : Int)) = ((els'.length - (rst e.key rs).length : Nat) : Int) := by
          rw [List.length_cons] at hsl ⊢
          omega
        rw [hi] at F₁₅
        have hrk := ResOk.turn (t := t₁₂) ht₁₂ hres hko hpd (fun f hf => by obtain ⟨q, t, e1, e2, e3⟩ := hpos f hf; rw [e1]; exact e2)
        rw [← hsz] at hrk
        refine ⟨g₁₀, (S, lsO (vsOf (e :: grp e.key rs)) cs) :: (R, grO dR (.int (sn + 1) t₈) (.ref r) e.k) :: (dR, dictOf [] 0) :: im, _, io', Rl, I, dG, IG, dI, tp, u, _, _, cr, rst e.key rs, _, rfl, G₁₀, B₁₀, fr_has F₁₅ rfl,
          news_sub N₁₄ ⟨.tail _ (.tail _ (.tail _ (.head _))), .tail _ (.tail _ (.tail _ (.tail _ (.head _)))), .head _, .tail _ (.head _), .tail _ (.tail _ (.head _)), .tail _ (.tail _ (.tail _ (.tail _ (.tail _ (.head _))))), sub_l fun p hp => .tail _ (.tail _ (.tail _ (.tail _ (.tail _ (.tail _ hp)))))⟩,
          fun p hp => .tail _ (.tail _ (.tail _ (hjm p hp))), ⟨.tail _ (.tail _ (.tail _ Z.hd)), .tail _ (.tail _ (.tail _ Z.hV)), .tail _ (.tail _ (.tail _ Z.hIG)), .tail _ (.tail _ (.tail _ Z.hdI)), .tail _ (.tail _ (.tail _ Z.htp))⟩,
          ⟨n1, n2, n3, ⟨bS.2.2.2.2.1.symm, bR.1.symm, bd.1.symm, a1⟩, ⟨bS.2.2.2.2.2.1.symm, bR.2.1.symm, bd.2.1.symm, a2⟩, ⟨bS.2.2.2.1.symm, bR.2.2.1.symm, bd.2.2.1.symm, a3⟩⟩, ⟨r, rfl, rfl, (List.dropWhile_suffix _).trans ((List.suffix_cons e rs).trans hsuf)⟩, RkG.behind Y' hsuf hko hio, hrk⟩
end
end

section
open PySem PySem.W PyProof.Rows PySem.Calls PySem.Spec
section
variable {prog : Program} {w : World} {A₀ A : Around} {E : Value → Shared → Prop} {s s' : Shared} {base h₀ g h G : Heap} {outer : List Env} {L a e : Addr} {m : Str → Option Value} {env : Env} {news news' own : List (Addr × Obj)} {K : Frag}
  {p : Program} {loose : List Str} {mean : ExcName → Option Value} {mg mb : Str → Option Value}
  {R : Result → Shared → Prop} {name qual : Str} {params : Arguments} {body : List Stmt} {scope : Scope} {dV kV doc pm cdv ct oc : Value} {an od : Option Addr} {osl : Array (Option Value)} {f : Addr} {args : Args} {binds : List (Str × Value)}

theorem enterC0 (B : Below A₀ base outer h₀) (F : Fr h₀ L s.heap m) (XB : K.In base) (N : News h₀ L s.heap own) (TB : Top p loose mean mg mb base) (hA : A.frames = some (env :: outer)) (hf : env.frame = some L) (hke : env.scope.kind = .function)
    (ho : K.lookup f = some ⟨oc, od, .func (fnOf name qual params body scope dV kV doc pm an cdv ct), osl⟩) (hcd : codeIn K cdv qual = true) (hroom : A.depth < recursionLimit)
    (hbind : BindsTo s (fnOf name qual params body scope dV kV doc pm an cdv ct) ⟨pos, kw⟩ binds) (hloc : ∀ y ∈ binds, scope.names.lookup y.1 = some .local)
    (h : ∀ g L' h₁, Fr g L' h₁ (fun y => binds.reverse.lookup y) → News g L' h₁ own → Below A base (env :: outer) g → K.In g → Top p loose mean mg mb g → Gs (frs (env :: outer)) own s.heap g → ∀ tk, s.toks + binds.length ≤ tk →
      wpAny (model prog w) (A.deeper (envOf qual scope L' f cdv)) (execs body (envOf qual scope L' f cdv))
        (fun fl s' => Q (flowVal fl) s')
        (fun e s' => wpAny (model prog w) (A.deeper (envOf qual scope L' f cdv)) (leaving (envOf qual scope L' f cdv) e) (fun _ => E e) E s')
        { s with heap := h₁, toks := tk })
    (hco : scope.isCoroutine = false) (hgen : scope.isGenerator = false) (hk : scope.kind = .function)
    (hcell : ∀ x ∈ scope.names, x.2 ≠ .cell) : wpAny (model prog w) A (call (.ref f) pos kw) Q E s :=
  wpAny_call (enterT0 B F XB N TB hA hf hke ho hcd hroom hbind hloc h hco hgen hk hcell)
theorem lt_base (B : Below A₀ base outer g) {a : Addr} {items : Array Value} (h : base.IsList a items) : g.IsList a items := by
  obtain ⟨o, ho, r⟩ := h
  exact ⟨o, B.stays _ _ ho, r⟩
theorem sub_list {value slice : PySem.Expr} {C : Addr} {items : Array Value} {k : Int} {u : Tok} {x : Value} {Q : Value → Shared → Prop} (hl : s.heap.IsList C items) (h0 : 0 ≤ k) (h1 : k < 2 ^ 63) (hx : items[k.toNat]? = some x) (h : Q x s)
    (hb : subscripted slice false (.ref C) (.int k u) = operate [.ref C, .int k u] (getItem (.ref C) (.int k u)) := by with_unfolding_all rfl) : wpAny (model prog w) A (subscriptTail value slice (.ref C) (.int k u)) Q E s :=
  tail_any hl.typeIs slot_list_getitem.lookup (wpAny_getItem_list hl h0 h1 hx h) hb
theorem ints_get : ∀ {vs : List Value} {ns : List Int}, IntsAre vs ns → ∀ i, i < vs.length → ∃ n t, vs[i]? = some (.int n t)
  | _, _, .nil, i, h => absurd h (Nat.not_lt_zero _)
  | _, _, .cons n t r, 0, _ => ⟨n, t, rfl⟩
  | _, _, .cons n t r, i + 1, h => ints_get r i (Nat.lt_of_succ_lt_succ h)
theorem vs0_get {its : List (Int × Tok)} {j : Nat} (hj : j < its.length) : (vs0 its)[((j : Nat) : Int).toNat]? = some (.int its[j].1 its[j].2) := by
  rw [Int.toNat_natCast]; simp [vs0, hj]
theorem vs0_set {its : List (Int × Tok)} {j : Nat} {v : Int} {t : Tok} : (vs0 its).setIfInBounds j (.int v t) = vs0 (its.set j (v, t)) := by
  apply Array.toList_inj.mp; simp [vs0, List.map_set]
theorem fmod_nat (i m : Nat) (hm : 0 < m) : Int.fmod (i : Int) (m : Int) = ((i % m : Nat) : Int) := by
  rw [Int.fmod_eq_emod_of_nonneg _ (Int.natCast_nonneg m)]; rfl
theorem fmod_in (x : Int) (m : Nat) (hm : 0 < m) : 0 ≤ Int.fmod x m ∧ Int.fmod x m < m := by
  rw [Int.fmod_eq_emod_of_nonneg _ (Int.natCast_nonneg m)]
  exact ⟨Int.emod_nonneg _ (by omega), Int.emod_lt_of_pos _ (by omega)⟩
theorem isList_keep (F : Fr g L h m) {a : Addr} {items : Array Value} (hl : g.IsList a items) : h.IsList a items := by
  obtain ⟨o, ho, r⟩ := hl
  exact ⟨o, F.keep _ _ ho, r⟩
theorem set_at {pre post : List (Addr × Obj)} {C : Addr} {items : Array Value} {c j : Nat} {u : Tok} {x : Value} {Q : Unit → Shared → Prop} (F : Fr g L s.heap m) (N : News g L s.heap (pre ++ (C, listOf items c) :: post)) (h1 : ∀ p ∈ pre, p.1 ≠ C) (h2 : ∀ p ∈ post, p.1 ≠ C)
    (hj : j < items.size) (hb : j < 2 ^ 63) (h : ∀ h', Fr g L h' m → News g L h' (pre ++ (C, listOf (items.setIfInBounds j x) c) :: post) → Q () { s with heap := h' }) : wpAny (model prog w) A (setItem (.ref C) (.int (j : Nat) u) x) Q E s := by
  have z := N _ (List.mem_append_right _ (.head _))
  exact ki_setAt (n := c) z.1 (Int.natCast_nonneg _) (Int.ofNat_lt.mpr hb) (Int.ofNat_lt.mpr hj) (h _ (F.change (Heap.SameBut.update ..) z.2.1 z.2.2) (ki_turn _ N h1 h2 (by rw [Int.toNat_natCast]) (by rw [if_pos (by simp)])))
theorem small64 : ∀ n : Fin 64, Builtin.Range.small 0 ((n : Nat) : Int) 1 = true := by decide +kernel
theorem fr_dup {x : Str} {a' b' : Option Value} (F : Fr g L h (fun y => if y = x then a' else (fun y => if y = x then b' else m y) y)) : Fr g L h (fun y => if y = x then a' else m y) := by
  have : (fun y => if y = x then a' else (fun y => if y = x then b' else m y) y) = fun y => if y = x then a' else m y := funext fun y => by
    by_cases h : y = x
    · rw [if_pos h, if_pos h]
    · rw [if_neg h, if_neg h]; dsimp only; rw [if_neg h]
  rw [← this]; exact F
theorem vs0_upto {its : List (Int × Tok)} {y : Int} (h : 0 ≤ y) : slicePick (vs0 its) none (some y) none = vs0 (its.take y.toNat) := by
  have e : sliceBounds none (some y) none (vs0 its).size = (((0 : Nat) : Int), ((min y.toNat (vs0 its).size : Nat) : Int), 1) := by
    simp only [sliceBounds, Option.getD_none, show (1 : Int) > 0 by decide, if_true, if_neg (show ¬ (y < 0) by omega)]
    congr 1
    congr 1
    omega
  rw [kmk_pick_nat _ e]
  simp only [List.drop_zero, Nat.sub_zero]
  have e2 : (vs0 its).size = (vs0 its).toList.length := by simp
  rw [e2, kmk_take_min]
  simp [vs0, List.map_take]
end
end

section
open PySem PySem.W PyProof.Rows PySem.Calls PySem.Spec
/-- an enumerate's object: the inner iterator, the number to come, the item that was handed out -/
abbrev enO (it : Addr) (i : Int) (old : Value) : Obj := { cls := .type "enumerate", dict := none, data := .fields #[.none, .bool false, .ref it, rawInt i, .none, old], slots := #[] }
section
variable {prog : Program} {w : World} {A : Around} {E : Value → Shared → Prop} {s : Shared} {g : Heap} {L S a : Addr} {m : Str → Option Value} {news : List (Addr × Obj)}
theorem fr_but2 {h h' : Heap} {e it : Addr} (F : Fr g L h m) (hk : ∀ b o, b ≠ e → b ≠ it → h.get? b = some o → h'.get? b = some o) (h1 : e ≠ L ∧ g.get? e = none) (h2 : it ≠ L ∧ g.get? it = none) : Fr g L h' m :=
  ⟨F.ns.at' fun o q => hk L o (Ne.symm h1.1) (Ne.symm h2.1) q, fun b o q => hk b o (fun z => by rw [z, h1.2] at q; cases q) (fun z => by rw [z, h2.2] at q; cases q) (F.keep b o q), F.above⟩
/-- a For over an enumerate, its target two local names -/
theorem for_enum {cn : Str} {cs : Scope} {ccd : Value} {xa xb : Str} {pa pb pt : Pos} {k0 : Nat} {iter : PySem.Expr} {pos : Pos} {body : List Stmt} {Q : Flow → Shared → Prop} (n : Nat) (Inn : Addr → Nat → Obj → Prop) (X : Nat → Value → Prop) (J : Nat → Heap → (Str → Option Value) → List (Addr × Obj) → Prop) (hh : A.handled = none)
    (hi : wpAny (model prog w) A (eval iter (envOf cn cs L a ccd)) (fun v s' => Stop (∃ e it oi h' tk' g' M nw, v = .ref e ∧ s' = { s with heap := h', toks := tk' } ∧ J 0 g' M nw ∧ Fr g' L h' M ∧ News g' L h' ((e, enO it 0 .none) :: (it, oi) :: nw) ∧ AllNe e ((it, oi) :: nw) ∧ AllNe it nw ∧ Inn it 0 oi)) E s)
    (hD : ∀ i g M nw h e it oi old, J i g M nw → News g L h ((e, enO it (i : Nat) old) :: (it, oi) :: nw) → AllNe e ((it, oi) :: nw) → AllNe it nw → Inn it i oi → ∃ fp P St, Draws prog w A.in1 it fp n P St ∧ St i h ∧ e ∉ fp ∧ (∀ x, P i x → X i x) ∧ ∀ h' oi', St (i + 1) h' → h'.get? it = some oi' → Inn it (i + 1) oi')
    (turn : ∀ i x, i < n → X i x → ∀ g M nw h tk t e it oi, J i g M nw → Fr g L h (fun y => if y = xb then some x else if y = xa then some (.int (i : Nat) t) else M y) → News g L h ((e, enO it ((i + 1 : Nat) : Int) x) :: (it, oi) :: nw) → AllNe e ((it, oi) :: nw) → AllNe it nw →
      wpAny (model prog w) A (execs body (envOf cn cs L a ccd)) (fun f s₄ =>
        match (match f with | .cont => Flow.next | f => f) with
        | .next => Stop (∃ g' M' nw' h' tk', s₄ = { s with heap := h', toks := tk' } ∧ J (i + 1) g' M' nw' ∧ Fr g' L h' M' ∧ News g' L h' ((e, enO it ((i + 1 : Nat) : Int) x) :: (it, oi) :: nw') ∧ AllNe e ((it, oi) :: nw') ∧ AllNe it nw')
        | .brk => Q .next s₄
        | f => Q f s₄) E { s with heap := h, toks := tk })
    (fin : ∀ g M nw h tk, J n g M nw → Fr g L h M → News g L h nw → Q .next { s with heap := h, toks := tk })
    (hk : cs.kind = .function := by rfl) (hxa : (envOf cn cs L a ccd).kindOf xa = some .local := by rfl) (hxb : (envOf cn cs L a ccd).kindOf xb = some .local := by rfl)
    (hs : ∀ x, foldedSetIterable iter (envOf cn cs L a ccd) x = pure x := by intro _; rfl) (hE : PassesOwn (model prog w) A (envOf cn cs L a ccd) E := by passes_own) :
    wpAny (model prog w) A (exec (.For (.Tuple [.Name xa pa, .Name xb pb] k0 pt) iter body [] pos) (envOf cn cs L a ccd)) Q E s := by
  refine for_any (I := fun r k s' => ∃ (i : Nat) (g : Heap) (M : Str → Option Value) (nw : List (Addr × Obj)) (h : Heap) (tk : Nat) (it : Addr) (oi : Obj) (old : Value), k + i = n + 1 ∧ i ≤ n ∧ s' = { s with heap := h, toks := tk } ∧ J i g M nw ∧ Fr g L h M ∧ News g L h ((r, enO it (i : Nat) old) :: (it, oi) :: nw) ∧ AllNe r ((it, oi) :: nw) ∧ AllNe it nw ∧ Inn it i oi) ?_ ?_ hs hE
  · refine wpAny_mono hi (fun v s' hv => ?_) fun _ _ z => z
    obtain ⟨e, it, oi, h', tk', g', M, nw, e1, e2, hJ, F, N, a1, a2, hI⟩ := hv.out
    subst e1; subst e2
    refine wpAny_pyIter_enum (e := e) (it := it) (i := 0) (old := .none) (N _ (.head _)).1 ⟨_, n + 1, rfl, 0, g', M, nw, h', tk', it, oi, .none, rfl, Nat.zero_le _, rfl, hJ, F, N, a1, a2, hI⟩
  · rintro r k s' ⟨i, g, M, nw, h, tk, it, oi, old, hkk, hle, rfl, hJ, F, N, a1, a2, hI⟩
    obtain ⟨fp, P, St, D, hst, hef, hX, hnext⟩ := hD i g M nw h r it oi old hJ N a1 a2 hI
    have zr := N _ (.head _)
    have zi := N _ (.tail _ (.head _))
    have hne : r ≠ it := Ne.symm a1.1
    rcases Nat.lt_or_ge i n with hlt | hge
    · refine wpAny_pyNext_enum_itemD (s := { s with heap := h, toks := tk }) D zr.1 hst hlt hne hef fun x h' tk' hPx hout hst' hT hsz hkeep => ?_
      refine wpAny_letOwnedTupleGo_enum (s := { s with heap := h', toks := tk' + 1 }) hout fun h₂ he₂ hsame => ?_
      have hTe : h.objs.size ≠ r := Nat.ne_of_gt (Heap.lt_size zr.1)
      have hTi : h.objs.size ≠ it := Nat.ne_of_gt (Heap.lt_size zi.1)
      obtain ⟨oi', hoi⟩ := D.live _ _ hst'
      have hoi₂ : h₂.get? it = some oi' := (hsame.2 it (Ne.symm hne)).trans hoi
      have hk₂ : ∀ b o, b ≠ r → b ≠ it → h.get? b = some o → h₂.get? b = some o := fun b o q1 q2 y => (hsame.2 b q1).trans (hkeep b o q1 q2 y)
      have F₂ : Fr g L h₂ M := fr_but2 F hk₂ zr.2 zi.2
      have N₂ : News g L h₂ ((h.objs.size, tup2 (.int (i : Nat) tk') x) :: (r, enO it ((i + 1 : Nat) : Int) x) :: (it, oi') :: nw) := fun p hp => by
        rcases List.mem_cons.mp hp with rfl | hp
        · exact ⟨(hsame.2 _ hTe).trans hT, Nat.ne_of_gt F.ns.lt, F.fresh⟩
        · rcases List.mem_cons.mp hp with rfl | hp
          · refine ⟨?_, zr.2⟩
            have := he₂
            rw [show ((i : Int) + 1) = ((i + 1 : Nat) : Int) from by omega] at this
            exact this
          · rcases List.mem_cons.mp hp with rfl | hp
            · exact ⟨hoi₂, zi.2⟩
            · exact ⟨hk₂ _ _ (a1.2.at p hp) (a2.at p hp) (N p (.tail _ (.tail _ hp))).1, (N p (.tail _ (.tail _ hp))).2⟩
      refine pair_to (s := { s with heap := h₂, toks := tk' + 1 }) hh F₂ N₂ (.head _) (fun h₃ tk₃ F₃ N₃ => ?_) hk hxa hxb
      refine wpAny_mono (turn i x hlt (hX x hPx) g M nw h₃ tk₃ tk' r it oi' hJ F₃ (fun p hp => N₃ p (.tail _ hp)) ⟨a1.1, a1.2⟩ a2) (fun f s₄ h₄ => ?_) fun _ _ z => z
      cases f with
      | next => obtain ⟨g', M', nw', h', tk', e, q1, q2, q3, q4, q5⟩ := h₄.out; exact ⟨k - 1, by omega, i + 1, g', M', nw', h', tk', it, oi', x, by omega, by omega, e, q1, q2, q3, q4, q5, hnext h₂ oi' (D.frame _ _ _ hst' fun b hb o y => (hsame.2 b fun q => hef (q ▸ hb)).trans y) hoi₂⟩
      | cont => obtain ⟨g', M', nw', h', tk', e, q1, q2, q3, q4, q5⟩ := h₄.out; exact ⟨k - 1, by omega, i + 1, g', M', nw', h', tk', it, oi', x, by omega, by omega, e, q1, q2, q3, q4, q5, hnext h₂ oi' (D.frame _ _ _ hst' fun b hb o y => (hsame.2 b fun q => hef (q ▸ hb)).trans y) hoi₂⟩
      | brk => exact h₄
      | ret v => exact h₄
    · obtain rfl : i = n := by omega
      refine wpAny_pyNext_enum_endD (s := { s with heap := h, toks := tk }) D zr.1 hst fun h' he => fin g M nw h' tk hJ ?_ ?_
      · exact fr_but2 F (e := r) (it := it) (fun b o q1 q2 y => he b o q2 y) zr.2 zi.2
      · exact fun p hp => ⟨he _ _ (a2.at p hp) (N p (.tail _ (.tail _ hp))).1, (N p (.tail _ (.tail _ hp))).2⟩
/-- the inner iterator of a text | of a list -/
def InnS (x : Str) (t : Tok) (_ : Addr) (i : Nat) (o : Obj) : Prop := o.cls = .type (strIterType x) ∧ o.data = .fields #[.str x t, .int i 0]
def InnL (l : Addr) (_ : Addr) (i : Nat) (o : Obj) : Prop := o.cls = .type "list_iterator" ∧ o.data = .fields #[.ref l, .int i 0]
theorem drawsS (hh : A.handled = none) (it : Addr) (x : Str) (t : Tok) : Draws prog w A it [it] x.cps.size (fun i v => ∃ c u, x.cps[i]? = some c ∧ v = .str ⟨#[c]⟩ u) (fun i h => h.IsStrIter it (strIterType x) x t i) := by
  unfold strIterType
  split
  · exact Draws.strAscii hh it x t
  · exact Draws.strWide hh it x t
theorem head_enum {h h' : Heap} {oi : Obj} (F : Fr g L h m) (N : News g L h news) (he : IsEnum h' (h.objs.size + 1) h.objs.size 0 .none) (hi : h'.get? h.objs.size = some oi) (hk : ∀ b o, h.get? b = some o → h'.get? b = some o) :
    Fr g L h' m ∧ News g L h' ((h.objs.size + 1, enO h.objs.size 0 .none) :: (h.objs.size, oi) :: news) ∧ AllNe (h.objs.size + 1) ((h.objs.size, oi) :: news) ∧ AllNe h.objs.size news := by
  have hlt : ∀ p ∈ news, p.1 < h.objs.size := fun p hp => Heap.lt_size (N p hp).1
  have hL := F.ns.lt
  have hg := F.above
  refine ⟨F.keeps hk, fun p hp => ?_, ⟨Nat.ne_of_lt (Nat.lt_succ_self _), AllNe.of fun p hp => Nat.ne_of_lt (Nat.lt_succ_of_lt (hlt p hp))⟩, AllNe.of fun p hp => Nat.ne_of_lt (hlt p hp)⟩
  rcases List.mem_cons.mp hp with rfl | hp
  · exact ⟨he, Nat.ne_of_gt (Nat.lt_succ_of_lt hL), Heap.get?_none_of_le (Nat.le_trans hg (Nat.le_of_lt (Nat.lt_succ_of_lt hL)))⟩
  · rcases List.mem_cons.mp hp with rfl | hp
    · exact ⟨hi, Nat.ne_of_gt hL, Heap.get?_none_of_le (Nat.le_trans hg (Nat.le_of_lt hL))⟩
    · exact ⟨hk _ _ (N p hp).1, (N p hp).2⟩
theorem fr_two {h : Heap} {xa xb : Str} (F : Fr g L h m) (ha : m xa = none) (hb : m xb = none) : Fr g L h (fun y => if y = xb then none else if y = xa then none else m y) := by
  have : (fun y => if y = xb then none else if y = xa then none else m y) = m := funext fun y => by
    by_cases h1 : y = xb
    · rw [if_pos h1, h1, hb]
    · rw [if_neg h1]
      by_cases h2 : y = xa
      · rw [if_pos h2, h2, ha]
      · rw [if_neg h2]
  rw [this]; exact F
theorem fr_dup2 {h : Heap} {xa xb : Str} {a b a' b' : Option Value} (F : Fr g L h (fun y => if y = xb then b' else if y = xa then a' else (fun y => if y = xb then b else if y = xa then a else m y) y)) : Fr g L h (fun y => if y = xb then b' else if y = xa then a' else m y) := by
  have : (fun y => if y = xb then b' else if y = xa then a' else (fun y => if y = xb then b else if y = xa then a else m y) y) = fun y => if y = xb then b' else if y = xa then a' else m y := funext fun y => by
    by_cases h1 : y = xb
    · rw [if_pos h1, if_pos h1]
    · by_cases h2 : y = xa
      · rw [if_neg h1, if_neg h1, if_pos h2, if_pos h2]
      · simp only [if_neg h1, if_neg h2]
  rw [← this]; exact F
theorem chr_sp (c : Nat) : ((⟨#[c]⟩ : Str) != Str.ofString " ") = (c != 32) := by
  rw [show Str.ofString " " = (⟨#[32]⟩ : Str) by decide +kernel]
  by_cases h : c = 32
  · subst h; decide
  · have : (⟨#[c]⟩ : Str) ≠ ⟨#[32]⟩ := fun q => h (by simpa using q)
    rw [bne_iff_ne.mpr this, bne_iff_ne.mpr h]
/-- behind a call in the law's own frame: the ground stays -/
theorem behindL {A₀ : Around} {base h h' : Heap} {env : Env} {own upd new rest : List (Addr × Obj)} (B : Below A₀ base [] base) (F : Fr base L h m) (N : News base L h news) (hf : env.frame = some L) (P : PostS (frs [env]) own upd new h h') (hown : ∀ p ∈ own, p ∈ news)
    (hupd : upd.map (·.1) = own.map (·.1)) (hrest : ∀ p ∈ rest, p ∈ news ∧ AllNe p.1 own) : Fr base L h' m ∧ News base L h' (new ++ (rest ++ upd)) ∧ ∀ p ∈ new, AllNe p.1 news := by
  obtain ⟨g', T, F', N', B', a⟩ := behindN B F N hf P hown hupd hrest
  have k : ∀ b o, base.get? b = some o → g'.get? b = some o := fun b o e => T.other b o e (fun q => nomatch q)
  refine ⟨⟨F'.ns, fun b o e => F'.keep b o (k b o e), F.above⟩, fun p hp => ⟨(N' p hp).1, (N' p hp).2.1, ?_⟩, a⟩
  cases q : base.get? p.1 with
  | none => rfl
  | some o => have := k _ _ q; rw [(N' p hp).2.2] at this; cases this
theorem below_as {A₀ : Around} {outer : List Env} {h₀ h : Heap} (_ : Fr h₀ L h m) (B : Below A₀ h₀ outer h₀) : Below A₀ h₀ outer h₀ := B
/-- a For over range(n), any target -/
theorem for_rangeG {env : Env} {target iter : PySem.Expr} {pos : Pos} {body : List Stmt} {Q : Flow → Shared → Prop} (n : Nat) (J : Nat → (Str → Option Value) → List (Addr × Obj) → Nat → Prop) (hh : A.handled = none)
    (hi : wpAny (model prog w) A (eval iter env) (fun v s' => Stop (∃ r t u v' h' tk' M nw, v = .ref r ∧ s' = { s with heap := h', toks := tk' } ∧ IsRange h' r 0 n 1 t u v' ∧ Builtin.Range.small 0 n 1 = true ∧ J 0 M nw tk' ∧ Fr g L h' M ∧ News g L h' nw)) E s)
    (turn : ∀ i : Nat, i < n → ∀ M nw h tk I, J i M nw tk → Fr g L h M → News g L h ((I, rgO ((i + 1 : Nat) : Int) (n - (i + 1 : Nat) : Int)) :: nw) → AllNe I nw →
      wpAny (model prog w) A (assign target env (.int i tk)) (fun _ s₃ => wpAny (model prog w) A (execs body env) (fun f s₄ =>
        match (match f with | .cont => Flow.next | f => f) with
        | .next => Stop (∃ M' nw' h' tk', s₄ = { s with heap := h', toks := tk' } ∧ J (i + 1) M' nw' tk' ∧ Fr g L h' M' ∧ News g L h' ((I, rgO ((i + 1 : Nat) : Int) (n - (i + 1 : Nat) : Int)) :: nw') ∧ AllNe I nw')
        | .brk => Q .next s₄
        | f => Q f s₄) E s₃) E { s with heap := h, toks := tk + 1 })
    (fin : ∀ M nw h tk, J n M nw tk → Fr g L h M → News g L h nw → Q .next { s with heap := h, toks := tk })
    (ht : ∀ it v, letOwnedTupleGo target it v = pure () := by intro _ _; rfl)
    (hs : ∀ x, foldedSetIterable iter env x = pure x := by intro _; rfl) (hE : PassesOwn (model prog w) A env E := by passes_own) :
    wpAny (model prog w) A (exec (.For target iter body [] pos) env) Q E s := by
  refine for_any (I := fun r k s' => ∃ (i : Nat) (M : Str → Option Value) (nw : List (Addr × Obj)) (h : Heap) (tk : Nat), k + i = n + 1 ∧ i ≤ n ∧ s' = { s with heap := h, toks := tk } ∧ J i M nw tk ∧ Fr g L h M ∧ News g L h ((r, rgO i (n - i : Int)) :: nw) ∧ AllNe r nw) ?_ ?_ hs hE
  · refine wpAny_mono hi (fun v s' hv => ?_) fun _ _ z => z
    obtain ⟨r, t, u, v', h', tk', M, nw, e1, e2, hr, hsm, hJ, F, N⟩ := hv.out
    subst e1; subst e2
    have hz : Builtin.Range.rangeSize 0 n 1 = n := by
      unfold Builtin.Range.rangeSize
      simp
      omega
    refine wpAny_pyIter_range hr hsm ⟨_, n + 1, rfl, 0, M, nw, _, _, rfl, Nat.zero_le _, rfl, hJ, F.push _, ?_, AllNe.of fun p hp => Nat.ne_of_lt (Heap.lt_size (N p hp).1)⟩
    have := News.push F N (rgO 0 (Builtin.Range.rangeSize 0 n 1)) rfl
    rw [hz] at this
    simpa [hz] using this
  · rintro r k s' ⟨i, M, nw, h, tk, hkk, hle, rfl, hJ, F, N, ha⟩
    rcases Nat.lt_or_ge i n with hlt | hge
    · refine nextR_item (s := { s with heap := h, toks := tk }) F N ha (by omega) fun h' F' N' => ?_
      show wpAny (model prog w) A (letOwnedTupleGo target (.ref r) (.int i tk)) _ _ _
      refine wpAny_of_eq (a := ()) (by rw [ht]) ?_
      have e1 : ((i : Int) + 1) = ((i + 1 : Nat) : Int) := by omega
      have e2 : ((n : Int) - i - 1) = ((n : Int) - ((i + 1 : Nat) : Int)) := by omega
      rw [e1, e2] at N'
      refine wpAny_mono (turn i hlt M nw h' tk r hJ F' N' ha) (fun _ s₃ h₃ => wpAny_mono h₃ (fun f s₄ h₄ => ?_) fun _ _ z => z) fun _ _ z => z
      cases f with
      | next => obtain ⟨M', nw', h', tk', e, q1, q2, q3, q4⟩ := h₄.out; exact ⟨k - 1, by omega, i + 1, M', nw', h', tk', by omega, by omega, e, q1, q2, q3, q4⟩
      | cont => obtain ⟨M', nw', h', tk', e, q1, q2, q3, q4⟩ := h₄.out; exact ⟨k - 1, by omega, i + 1, M', nw', h', tk', by omega, by omega, e, q1, q2, q3, q4⟩
      | brk => exact h₄
      | ret v => exact h₄
    · obtain rfl : i = n := by omega
      exact nextR_end (s := { s with heap := h, toks := tk }) hh F N ha (by omega) fun h' F' N' => fin M nw h' tk hJ F' N'
theorem price_of {o : Obj} {S : Int} {t : Tok} (h : o.data = .cell (some (.int (1 + Int.fmod S 3) t))) : ∃ (pr : Nat) (tP : Tok), o.data = .cell (some (.int (pr : Nat) tP)) ∧ 1 ≤ pr ∧ pr ≤ 3 := by
  have : 0 ≤ Int.fmod S 3 ∧ Int.fmod S 3 < 3 := fmod_in S 3 (by decide)
  refine ⟨(1 + Int.fmod S 3).toNat, t, ?_, by omega, by omega⟩
  rw [Int.toNat_of_nonneg (by omega)]; exact h
end
end

section
open PySem PySem.W PyProof.Rows PySem.Calls PySem.Spec
local macro_rules | `(tactic| walk_at "execs cons") => `(tactic| (k_here; (with_reducible refine wpAny_execs_cons ?_); try dsimp only))
local macro_rules | `(tactic| walk_at "execs nil") => `(tactic| (k_here; (with_reducible refine wpAny_execs_nil ?_); try dsimp only))
local macro_rules | `(tactic| walk_at "subscriptTail") => `(tactic| (k_here; (with_reducible show wpAny _ _ (subscriptTail _ _ (Value.ref _) (Value.int _ _)) _ _ _); refine Lv.in ?_))
/-- the cells: small ints, their tokens apart -/
structure Cells (n : Nat) (its : List (Int × Tok)) (tk : Nat) : Prop where
  len : its.length = n
  tok : ∀ p ∈ its, p.2 ≠ 0 ∧ p.2 < tk
  val : ∀ p ∈ its, 0 ≤ p.1 ∧ p.1 ≤ 8
  inj : ∀ p ∈ its, ∀ q ∈ its, p.2 = q.2 → p.1 = q.1
theorem Cells.set {n : Nat} {its : List (Int × Tok)} {tk tk' : Nat} (x : Cells n its tk) {j : Nat} {v : Int} {t : Nat} (ht : tk ≤ t) (h0 : t ≠ 0) (h1 : t < tk') (h2 : tk ≤ tk') (hv : 0 ≤ v ∧ v ≤ 8) : Cells n (its.set j (v, t)) tk' := by
  refine ⟨by rw [List.length_set]; exact x.len, fun p hp => ?_, fun p hp => ?_, fun p hp q hq e => ?_⟩
  · rcases List.mem_or_eq_of_mem_set hp with hp | rfl
    · have := x.tok p hp; exact ⟨this.1, Nat.lt_of_lt_of_le this.2 h2⟩
    · exact ⟨h0, h1⟩
  · rcases List.mem_or_eq_of_mem_set hp with hp | rfl
    · exact x.val p hp
    · exact hv
  · rcases List.mem_or_eq_of_mem_set hp with hp | rfl
    · rcases List.mem_or_eq_of_mem_set hq with hq | rfl
      · exact x.inj p hp q hq e
      · have := (x.tok p hp).2; rw [e] at this; exact absurd (Nat.lt_of_lt_of_le this ht) (Nat.lt_irrefl _)
    · rcases List.mem_or_eq_of_mem_set hq with hq | rfl
      · have := (x.tok q hq).2; rw [← e] at this; exact absurd (Nat.lt_of_lt_of_le this ht) (Nat.lt_irrefl _)
      · rfl
theorem Cells.take {n k : Nat} {its : List (Int × Tok)} {tk tk' : Nat} (x : Cells n its tk) (hk : k ≤ n) (ht : tk ≤ tk') : Cells k (its.take k) tk' :=
  ⟨by rw [List.length_take, x.len]; omega, fun p hp => have q := x.tok p (List.mem_of_mem_take hp); ⟨q.1, Nat.lt_of_lt_of_le q.2 ht⟩, fun p hp => x.val p (List.mem_of_mem_take hp), fun p hp q hq => x.inj p (List.mem_of_mem_take hp) q (List.mem_of_mem_take hq)⟩
section
variable {w : World} {p : Program} {loose : List Str} {mean : ExcName → Option Value} {mg mb : Str → Option Value} {dp un : Nat} {gd : Option (List Code)} {env : Env} {outer : List Env} {A₀ : Around} {base h₀ : Heap} {L : Addr} {m : Str → Option Value} {s : Shared} {Q E : Value → Shared → Prop} {a : Addr} {t : Tok} {items : Array Value} {ns : List Int}
set_option maxHeartbeats 4000000 in
theorem lm_c (B : Below A₀ base outer h₀) (F : Fr h₀ L s.heap m) (XB : (KF w.params).In base) (TB : Top p loose mean mg mb base) (hf : env.frame = some L) (hk : env.scope.kind = .function) (N : News h₀ L s.heap []) (hl : base.IsList a items) (hi : IntsAre items.toList ns) (hz : items.size ≤ 63) (hdp : dp + 3 < recursionLimit) (hu : un + 20 < cLine)
    (h : ∀ R c its h' tk, Cells (4 + items.size % 4) its tk → PostS (frs (env :: outer)) [] [] [(R, listOf (vs0 its) c)] s.heap h' → Q (.ref R) { s with heap := h', toks := tk }) :
    wpAny (model PG w) (top dp un gd (env :: outer)) (call (.ref 278) [.ref a]) Q E s := by
  k_dflt (refine' enterC0 ?k1 ?k2 ?k3 ?k4 ?k5 ?kA ?kF ?kK ?k6 ?k7 ?k8 ?k9 ?kB ?_ ?c2 ?c3 ?c4 ?c5; (case kA => exact rfl); (case kF => first | assumption | exact rfl); (case kK => first | assumption | exact rfl); (case k1 => k_asm); (case k2 => k_asm); (case k3 => k_asm); (case k4 => k_asm); (case k5 => k_asm); (case k6 => k_is); (case k7 => k_is); (case k8 => ktr_room); (case k9 => first | exact BindsTo.of_eq rfl | exact binds_K (by k_in) rfl (by k_is) rfl rfl rfl); (case c5 => decide); (case kB => exact locs rfl); (case c2 => exact rfl); (case c3 => exact rfl); (case c4 => exact rfl); k_whole)
  intro g L₁ h₁ F₁ N₁ B₁ X₁ T₁ G₁ k₁ hk₁
  have hl1 : Halt "exec For Name Call cons nil" := .mk _
  have hl2 : Halt "exec For" := .mk _
  have hl3 : Halt "setItem" := .mk _
  replace hk₁ : s.toks + 1 ≤ k₁ := hk₁
  have hlg := lt_base B₁ hl
  replace F₁ : Fr g L₁ h₁ (bnd [("script", .ref a)]) := F₁
  k_steps
  unfold Lv
  rename News g _ _ _ => N₂
  rename Fr g _ _ _ => F₂
  refine for_range items.size (fun i g' M nw tk => g' = g ∧ ∃ C its c v, (M = fun y => if y = Str.ofString "place" then v else if y = Str.ofString "cells" then some (.ref C) else bnd [("script", .ref a)] y) ∧ nw = [(C, listOf (vs0 its) c)] ∧ Cells 7 its tk ∧ tk ≠ 0) rfl ?_ ?_ ?_
  · k_steps
    refine .mk ?_
    intro htk
    dsimp only at htk
    refine ⟨_, _, _, _, _, _, g, _, _, rfl, rfl, by assumption, small64 ⟨items.size, by omega⟩, ⟨rfl, _, [(2, k₁), (5, k₁ + 1), (0, k₁ + 1 + 1), (3, k₁ + 1 + 1 + 1), (7, k₁ + 1 + 1 + 1 + 1), (3, k₁ + 1 + 1 + 1 + 1 + 1), (1, k₁ + 1 + 1 + 1 + 1 + 1 + 1)], _, none, ?_, rfl, ⟨rfl, ?_, ?_, ?_⟩, ?_⟩, by assumption, by assumption⟩
    · funext y
      by_cases hy : y = Str.ofString "place"
      · subst hy; rfl
      · rw [if_neg hy]
    · simp only [List.mem_cons, List.not_mem_nil, or_false]
      rintro p (rfl | rfl | rfl | rfl | rfl | rfl | rfl) <;> (refine ⟨?_, ?_⟩ <;> dsimp only) <;> first | (show ¬ @Eq Nat _ _; omega) | (show @LT.lt Nat _ _ _; omega)
    · simp only [List.mem_cons, List.not_mem_nil, or_false]
      rintro p (rfl | rfl | rfl | rfl | rfl | rfl | rfl) <;> dsimp only <;> omega
    · simp only [List.mem_cons, List.not_mem_nil, or_false]
      rintro p (rfl | rfl | rfl | rfl | rfl | rfl | rfl) q (rfl | rfl | rfl | rfl | rfl | rfl | rfl) e <;> first | rfl | (exfalso; replace e := (show @Eq Nat _ _ from e); dsimp only at e; omega)
    · omega
  · rintro i hi' g' M nw h₃ tk I ⟨rfl, C, its, c, v, rfl, rfl, hc, ht0⟩ F₃ N₃ hI
    k_steps
    unfold Lv
    dsimp only
    rw [show (7 : Int) = ((7 : Nat) : Int) from rfl, fmod_nat i 7 (by decide)]
    have hj : i % 7 < its.length := by rw [hc.len]; omega
    refine sub_list (items := vs0 its) (x := .int its[i % 7].1 its[i % 7].2) (IsL.isList (n := c) (N₃ _ (.tail _ (.head _))).1) (by omega) (by omega) (vs0_get hj) ?_
    k_steps
    unfold Lv
    try dsimp only
    obtain ⟨n, t, hn⟩ := ints_get hi i (by simpa using hi')
    rename Fr g' _ _ _ => F₄
    refine sub_list (items := items) (x := .int n t) (isList_keep F₄ hlg) (by omega) (by omega) (by simpa using hn) ?_
    k_steps
    unfold Lv
    dsimp only
    rw [fmod_nat i 7 (by decide)]
    have hv := fmod_in (its[i % 7].1 + n) 9 (by decide)
    refine set_at (pre := [(I, rgO (((i + 1 : Nat)) : Int) (items.size - ((i + 1 : Nat)) : Int))]) (post := []) F₄ N₃ (fun p hp => by rw [List.mem_singleton.mp hp]; exact Ne.symm hI.1) (fun p hp => nomatch hp) (by simpa using hj) (by omega) ?_
    intro h₅ F₆ N₆
    rw [vs0_set] at N₆
    clear N₃ F₄
    k_steps
    refine .mk fun _ => ⟨g', _, _, h₅, _, rfl, ⟨rfl, C, _, c, _, rfl, rfl, hc.set (by omega) (by omega) (by omega) (by omega) ⟨hv.1, by omega⟩, by omega⟩, fr_dup F₆, N₆, hI.1, hI.2⟩
  · rintro g' M nw h₃ tk ⟨rfl, C, its, c, v, rfl, rfl, hc, ht0⟩ F₃ N₃
    dsimp only
    k_steps
    rename News g' _ _ _ => N₄
    rename Fr g' _ _ _ => F₄
    k_dflt (refine' kmk_slice ?zF ?zN ?zl ?zp ?zq ?_ ?zs ?zt ?zz; (case zF => k_asm); (case zN => k_asm); (case zl => exact IsL.isList (n := c) (N₄ _ (.head _)).1); (case zp => kmk_part); (case zq => kmk_part); (case zs => with_unfolding_all rfl); (case zt => kmk_pure); (case zz => (simp [hc.len, sizeLine_eq])))
    intro D h₅ F₅ N₅ lD
    have e4 : (4 : Int) + (items.size : Int).fmod 4 = ((4 + items.size % 4 : Nat) : Int) := by
      rw [show (4 : Int) = ((4 : Nat) : Int) from rfl, fmod_nat _ 4 (by decide)]; omega
    rw [e4, vs0_upto (Int.natCast_nonneg _), Int.toNat_natCast] at N₅
    exact h D 0 _ h₅ _ (hc.take (by omega) (by dsimp only; omega)) (end_one G₁ F₅ N₅ (fun p hp => nomatch hp) (.head _) trivial)
end
end

section
open PySem PySem.W PyProof.Rows PySem.Calls PySem.Spec
local macro_rules | `(tactic| walk_at "execs cons") => `(tactic| (k_here; (with_reducible refine wpAny_execs_cons ?_); try dsimp only))
section
variable {w : World} {p : Program} {loose : List Str} {mean : ExcName → Option Value} {mg mb : Str → Option Value} {dp un : Nat} {gd : Option (List Code)} {env : Env} {outer : List Env} {A₀ : Around} {base h₀ : Heap} {L : Addr} {m : Str → Option Value} {s : Shared} {Q E : Value → Shared → Prop} {D : Addr} {vs : List Value} {ns : List Int} {c : Nat}
set_option maxHeartbeats 4000000 in
theorem mh_c (B : Below A₀ base outer h₀) (F : Fr h₀ L s.heap m) (XB : (KF w.params).In base) (TB : Top p loose mean mg mb base) (hf : env.frame = some L) (hk : env.scope.kind = .function) (N : News h₀ L s.heap [(D, listOf vs.toArray c)]) (hi : IntsAre vs ns) (h1 : 1 ≤ ns.length) (hz : ns.length ≤ 16) (hdp : dp + 3 < recursionLimit) (hu : un + 20 < cLine)
    (h : ∀ (ms : List Int) h' tk t, ms.Perm ns → ms.Pairwise (fun x y => x ≤ y) → PostS (frs (env :: outer)) [(D, listOf vs.toArray c)] [(D, listOf vs.toArray c)] [] s.heap h' → Q (.int (ms.getD (ns.length / 2) 0) t) { s with heap := h', toks := tk }) :
    wpAny (model PG w) (top dp un gd (env :: outer)) (call (.ref 271) [.ref D]) Q E s := by
  k_dflt cell_enter
  intro g L₁ h₁ F₁ N₁ B₁ X₁ T₁ G₁ k₁
  replace F₁ : Fr g L₁ h₁ (bnd [("data", .ref D)]) := F₁
  k_steps
  · exfalso; omega
  · rename List.Perm _ ns => hp
    rename List.Pairwise _ _ => ho
    rename News g _ _ _ => N₂
    rename Fr g _ _ _ => F₂
    have hl := hp.length_eq
    dsimp only [flowVal]
    rw [show ((List.length _ : Int).fdiv 2).toNat = ns.length / 2 from by rw [Int.fdiv_eq_ediv_of_nonneg _ (by decide)]; omega]
    exact h _ _ _ _ hp ho (end_none G₁ F₂ N₂ (fun p hp => .tail _ hp))
set_option maxHeartbeats 4000000 in
theorem ml_c (B : Below A₀ base outer h₀) (F : Fr h₀ L s.heap m) (XB : (KF w.params).In base) (TB : Top p loose mean mg mb base) (hf : env.frame = some L) (hk : env.scope.kind = .function) (N : News h₀ L s.heap [(D, listOf vs.toArray c)]) (hi : IntsAre vs ns) (h1 : 1 ≤ ns.length) (hz : ns.length ≤ 16) (hdp : dp + 3 < recursionLimit) (hu : un + 20 < cLine) (he : ns.length % 2 = 0)
    (h : ∀ (ms : List Int) h' tk t, ms.Perm ns → ms.Pairwise (fun x y => x ≤ y) → PostS (frs (env :: outer)) [(D, listOf vs.toArray c)] [(D, listOf vs.toArray c)] [] s.heap h' → Q (.int (ms.getD (ns.length / 2 - 1) 0) t) { s with heap := h', toks := tk }) :
    wpAny (model PG w) (top dp un gd (env :: outer)) (call (.ref 264) [.ref D]) Q E s := by
  k_dflt cell_enter
  intro g L₁ h₁ F₁ N₁ B₁ X₁ T₁ G₁ k₁
  replace F₁ : Fr g L₁ h₁ (bnd [("data", .ref D)]) := F₁
  k_steps
  · exfalso; omega
  · exfalso
    rename Int.fmod _ 2 = 1 => hq
    rw [Int.fmod_eq_emod_of_nonneg _ (by decide)] at hq
    omega
  · rename List.Perm _ ns => hp
    rename List.Pairwise _ _ => ho
    rename News g _ _ _ => N₂
    rename Fr g _ _ _ => F₂
    have hl := hp.length_eq
    dsimp only [flowVal]
    rw [show ((List.length _ : Int).fdiv 2 - 1).toNat = ns.length / 2 - 1 from by rw [Int.fdiv_eq_ediv_of_nonneg _ (by decide)]; omega]
    exact h _ _ _ _ hp ho (end_none G₁ F₂ N₂ (fun p hp => .tail _ hp))
end
end

section
open PySem PySem.W PyProof.Rows PySem.Calls PySem.Spec
/-- the word of a place -/
def wd (j : Nat) : Str := Txt.slice (Str.ofString "abcdefghi") (some (j : Int)) none ++ Txt.slice (Str.ofString "abcdefghi") none (some (j : Int))
theorem wd_ok : ∀ j : Fin 7, (wd j).cps.size = 9 ∧ ∀ c ∈ (wd j).cps.toList, c ≠ 32 ∧ c ≠ 10 := by decide +kernel
section
variable {w : World} {p : Program} {loose : List Str} {mean : ExcName → Option Value} {mg mb : Str → Option Value} {dp un : Nat} {gd : Option (List Code)} {env : Env} {outer : List Env} {A₀ : Around} {base h₀ : Heap} {L : Addr} {m : Str → Option Value} {s : Shared} {Q E : Value → Shared → Prop} {j : Nat} {t : Tok}
set_option maxHeartbeats 4000000 in
theorem wo_c (B : Below A₀ base outer h₀) (F : Fr h₀ L s.heap m) (XB : (KF w.params).In base) (TB : Top p loose mean mg mb base) (hf : env.frame = some L) (hk : env.scope.kind = .function) (hj : j < 7) (hdp : dp + 3 < recursionLimit) (hu : un + 20 < cLine)
    (h : ∀ h' tk t, PostS (frs (env :: outer)) [] [] [] s.heap h' → Q (.str (wd j) t) { s with heap := h', toks := tk }) :
    wpAny (model PG w) (top dp un gd (env :: outer)) (call (.ref 285) [.int (j : Nat) t]) Q E s := by
  have N : News h₀ L s.heap [] := fun p hp => nomatch hp
  k_dflt cell_enter
  intro g L₁ h₁ F₁ N₁ B₁ X₁ T₁ G₁ k₁
  replace F₁ : Fr g L₁ h₁ (bnd [("place", .int (j : Nat) t)]) := F₁
  k_steps
  rename News g _ _ _ => N₂
  rename Fr g _ _ _ => F₂
  dsimp only [flowVal]
  exact h _ _ _ (end_none G₁ F₂ N₂ (fun p hp => hp))
end
end

section
open PySem PySem.W PyProof.Rows PySem.Calls PySem.Spec
/-- a row without its first signs -/
def dr (p : Nat) (r : Str) : Str := Txt.slice r (some (p : Int)) none
theorem strs_of : ∀ l : List (Str × Tok), StrsAre (strValues l) (l.map (·.1))
  | [] => .nil
  | (y, t) :: r => .cons y t (strs_of r)
theorem sum_le {α : Type} {f : α → Nat} {B : Nat} : ∀ {l : List α}, (∀ x ∈ l, f x ≤ B) → (l.map f).sum ≤ l.length * B
  | [], _ => by simp
  | a :: r, h => by
    have h1 := h a (.head _)
    have h2 := sum_le (f := f) (B := B) (l := r) fun x hx => h x (.tail _ hx)
    rw [List.map_cons, List.sum_cons, List.length_cons, Nat.add_mul]
    omega
theorem rows_step {α : Type} {rows : List α} {j : Nat} {y : α} (h : rows[j]? = some y) (f : α → α) : ((rows.take j).map f ++ rows.drop j).set j (f y) = (rows.take (j + 1)).map f ++ rows.drop (j + 1) := by
  have hj : j < rows.length := (List.getElem?_eq_some_iff.mp h).1
  have hy : rows[j] = y := (List.getElem?_eq_some_iff.mp h).2
  rw [List.set_append_right _ _ (by simp; omega), List.drop_eq_getElem_cons hj, hy]
  simp only [List.length_map, List.length_take, Nat.min_eq_left (Nat.le_of_lt hj), Nat.sub_self, List.set_cons_zero, List.take_add_one, h, Option.toList_some, List.map_append, List.map_cons, List.map_nil, List.append_assoc, List.cons_append, List.nil_append]
section
variable {w : World} {p : Program} {loose : List Str} {mean : ExcName → Option Value} {mg mb : Str → Option Value} {dp un : Nat} {gd : Option (List Code)} {env : Env} {outer : List Env} {A₀ : Around} {base h₀ : Heap} {L : Addr} {m : Str → Option Value} {s : Shared} {Q E : Value → Shared → Prop} {x : Str} {t : Tok} {r0 : Str} {rs : List Str} {p0 : Nat}
set_option maxHeartbeats 4000000 in
theorem de_c (B : Below A₀ base outer h₀) (F : Fr h₀ L s.heap m) (XB : (KF w.params).In base) (TB : Top p loose mean mg mb base) (hf : env.frame = some L) (hk : env.scope.kind = .function) (hz : x.length ≤ 200) (hx : Txt.split x (Str.ofString "\n") = r0 :: rs) (hr : ∀ r ∈ r0 :: rs, r.length ≤ 200) (hn : (r0 :: rs).length ≤ 8) (hp : p0 < r0.cps.size) (hb : ∀ i, i < p0 → r0.cps[i]? = some 32) (he : r0.cps[p0]? ≠ some 32) (hdp : dp + 3 < recursionLimit) (hu : un + 20 < cLine)
    (h : ∀ h' tk t, PostS (frs (env :: outer)) [] [] [] s.heap h' → Q (.str (Txt.join (Str.ofString "\n") ((r0 :: rs).map (dr p0))) t) { s with heap := h', toks := tk }) :
    wpAny (model PG w) (top dp un gd (env :: outer)) (call (.ref 28) [.str x t]) Q E s := by
  have N : News h₀ L s.heap [] := fun p hp => nomatch hp
  k_dflt cell_enter
  intro g L₁ h₁ F₁ N₁ B₁ X₁ T₁ G₁ k₁
  have hl1 : Halt "exec For" := .mk _
  have hl2 : Halt "exec For Tuple Call" := .mk _
  have hl3 : Halt "setItem" := .mk _
  have hl4 : Halt "call type:enumerate" := .mk _
  replace F₁ : Fr g L₁ h₁ (bnd [("text", .str x t)]) := F₁
  k_steps
  unfold Lv
  rename News g _ _ _ => N₂
  rename Fr g _ _ _ => F₂
  rename List (Str × Tok) => l
  rename List.map _ l = _ => hl
  dsimp only at F₂ N₂
  rw [hx] at hl
  obtain ⟨t0, lr, rfl⟩ : ∃ t0 lr, l = (r0, t0) :: lr := by
    cases l with
    | nil => cases hl
    | cons q lr => obtain ⟨a, b⟩ := q; rw [List.map_cons] at hl; obtain ⟨h1, h2⟩ := List.cons.inj hl; cases h1; exact ⟨b, lr, rfl⟩
  obtain ⟨Ls, hLs⟩ : ∃ Ls, Ls = h₁.objs.size := ⟨_, rfl⟩
  rw [← hLs] at F₂ N₂
  refine for_enum r0.cps.size (InnS r0 t0) (fun i v => ∃ c u, r0.cps[i]? = some c ∧ v = .str ⟨#[c]⟩ u) (fun i g' M nw => g' = g ∧ i ≤ p0 ∧ (∃ a b, M = fun y => if y = Str.ofString "ch" then b else if y = Str.ofString "i" then a else if y = Str.ofString "lines" then some (.ref Ls) else bnd [("text", .str x t)] y) ∧ nw = [(Ls, listOf (strValues ((r0, t0) :: lr)).toArray 0)]) rfl ?_ ?_ ?_ ?_
  · k_steps
    unfold Lv
    refine call_enumerate_str fun h₄ he₄ hit₄ _ hk₄ => ?_
    rename News g _ _ _ => N₃
    rename Fr g _ _ _ => F₃
    obtain ⟨o, y1, y2, y3⟩ := hit₄
    obtain ⟨F₄, N₄, a1, a2⟩ := head_enum F₃ N₃ he₄ y1 hk₄
    exact .mk ⟨_, _, o, h₄, _, g, _, _, rfl, rfl, ⟨rfl, Nat.zero_le _, ⟨none, none, rfl⟩, rfl⟩, fr_two F₄ rfl rfl, N₄, a1, a2, y2, y3⟩
  · rintro i g' M nw h₃ e it oi old ⟨rfl, hi, _, rfl⟩ N₃ a1 a2 ⟨c1, c2⟩
    refine ⟨_, _, _, drawsS rfl it r0 t0, ⟨_, (N₃ _ (.tail _ (.head _))).1, c1, c2⟩, by simpa using Ne.symm a1.1, fun _ q => q, fun h' oi' st q => ?_⟩
    obtain ⟨o, y1, y2, y3⟩ := st
    rw [q] at y1; cases y1
    exact ⟨y2, y3⟩
  · rintro i v hin ⟨c, u, hc, rfl⟩ g' M nw h₃ tk t' e it oi ⟨rfl, hi, ⟨a, b, rfl⟩, rfl⟩ F₃ N₃ a1 a2
    have F₃' := fr_dup2 F₃
    clear F₃
    k_steps
    · rename (_ != _) = true => hcc
      rw [chr_sp] at hcc
      obtain rfl : i = p0 := by
        rcases Nat.lt_or_ge i p0 with q | q
        · have := hb i q
          rw [hc] at this
          cases this
          cases hcc
        · omega
      clear hcc
      unfold Lv
      have hlen : ((r0, t0) :: lr).length = (r0 :: rs).length := by rw [← hl, List.length_map]
      refine for_enum (r0 :: rs).length (InnL Ls) (fun j v => ∃ y u, (r0 :: rs)[j]? = some y ∧ v = .str y u) (fun j g₂ M nw => g₂ = g' ∧ (∃ a b, M = fun y => if y = Str.ofString "l" then b else if y = Str.ofString "j" then a else if y = Str.ofString "ch" then some (.str ⟨#[c]⟩ u) else if y = Str.ofString "i" then some (.int (i : Nat) t') else if y = Str.ofString "lines" then some (.ref Ls) else bnd [("text", .str x t)] y) ∧
        ∃ cur : List (Str × Tok), cur.map (·.1) = ((r0 :: rs).take j).map (dr i) ++ (r0 :: rs).drop j ∧ nw = [(Ls, listOf (strValues cur).toArray 0)]) rfl ?_ ?_ ?_ ?_
      · k_steps
        unfold Lv
        rename News g' _ _ _ => N₄
        rename Fr g' _ _ _ => F₄
        refine call_enumerate_list (IsL.isList (n := 0) (N₄ _ (.tail _ (.tail _ (.head _)))).1) fun h₄ he₄ hit₄ _ hk₄ => ?_
        obtain ⟨o, y1, y2, y3⟩ := hit₄
        obtain ⟨F₅, N₅, b1, b2⟩ := head_enum F₄ (fun p hp => N₄ p (.tail _ (.tail _ hp))) he₄ y1 hk₄
        exact .mk ⟨_, _, o, h₄, _, g', _, _, rfl, rfl, ⟨rfl, ⟨none, none, rfl⟩, _, by rw [hl]; rfl, rfl⟩, fr_two F₅ rfl rfl, N₅, b1, b2, y2, y3⟩
      · rintro j g₂ M nw h₄ e' it' oi' old ⟨rfl, _, cur, hcur, rfl⟩ N₄ b1 b2 ⟨c1, c2⟩
        have hcl : (strValues cur).toArray.size = (r0 :: rs).length := by
          have := congrArg List.length hcur
          simp only [List.length_map, List.length_append, List.length_take, List.length_drop] at this
          simp [strValues]
          simp at this
          omega
        have D : ∀ A : Around, A.handled = none → Draws PG w A it' [it', Ls] (r0 :: rs).length (fun i v => (strValues cur).toArray[i]? = some v) (fun i h => h.IsListIter it' Ls i ∧ h.IsList Ls (strValues cur).toArray) := fun A hA => by
          have := Draws.list (prog := PG) (w := w) (A := A) hA it' Ls b2.1 (strValues cur).toArray
          rwa [hcl] at this
        refine ⟨_, _, _, D _ rfl, ⟨⟨_, (N₄ _ (.tail _ (.head _))).1, c1, c2⟩, IsL.isList (n := 0) (N₄ _ (.tail _ (.tail _ (.head _)))).1⟩, ?_, fun v hv => ?_, fun h' oi' st q => ?_⟩
        · simp only [List.mem_cons, List.not_mem_nil, or_false, not_or]
          exact ⟨b1.1.symm, b1.2.1.symm⟩
        · have hjn : j < (r0 :: rs).length := by
            rw [← hcl]; exact (Array.getElem?_eq_some_iff.mp hv).1
          have h1 : (r0 :: rs)[j]? = some (r0 :: rs)[j] := List.getElem?_eq_getElem hjn
          have h2 : (cur.map (·.1))[j]? = some (r0 :: rs)[j] := by
            rw [hcur, List.getElem?_append_right (by simp; omega)]
            simp only [List.length_map, List.length_take, Nat.min_eq_left (Nat.le_of_lt hjn), Nat.sub_self, List.getElem?_drop, Nat.add_zero]
            exact h1
          rw [List.getElem?_map] at h2
          cases hq : cur[j]? with
          | none => rw [hq] at h2; cases h2
          | some q =>
            rw [hq] at h2
            refine ⟨_, q.2, h1, ?_⟩
            have h3 : (strValues cur).toArray[j]? = some (.str q.1 q.2) := by simp [strValues, hq]
            rw [h3] at hv
            rw [← Option.some.inj h2]
            exact (Option.some.inj hv).symm
        · obtain ⟨⟨o, y1, y2, y3⟩, _⟩ := st
          rw [q] at y1; cases y1
          exact ⟨y2, y3⟩
      · rintro j v hjn ⟨y, u', hy, rfl⟩ g₂ M nw h₄ tk₄ t₄ e' it' oi' ⟨rfl, ⟨a', b', rfl⟩, cur, hcur, rfl⟩ F₄ N₄ b1 b2
        have F₄' := fr_dup2 F₄
        clear F₄
        have hyl : y.length ≤ 200 := hr y (List.mem_of_getElem? hy)
        k_steps
        unfold Lv
        rename News g₂ _ _ _ => N₅
        rename Fr g₂ _ _ _ => F₅
        have hcl : cur.length = (r0 :: rs).length := by
          have := congrArg List.length hcur
          simp only [List.length_map, List.length_append, List.length_take, List.length_drop] at this
          omega
        refine set_at (pre := [(e', enO it' ((j + 1 : Nat) : Int) (.str y u')), (it', oi')]) (post := []) F₅ N₅ (fun p hp => ?_) (fun p hp => nomatch hp) (by simp [strValues]; omega) (by omega) fun h₆ F₆ N₆ => ?_
        · rcases List.mem_cons.mp hp with rfl | hp
          · exact b1.2.1.symm
          · rw [List.mem_singleton.mp hp]; exact b2.1.symm
        have e7 : ∀ t₇, (strValues cur).toArray.setIfInBounds j (.str (Txt.slice y (some (i : Nat)) none) t₇) = (strValues (cur.set j (dr i y, t₇))).toArray := by
          intro t₇
          apply Array.toList_inj.mp
          simp [strValues, List.map_set, dr]
        rw [e7] at N₆
        clear N₅ F₅
        k_steps
        refine .mk ⟨g₂, _, _, h₆, _, rfl, ⟨rfl, ⟨_, _, rfl⟩, _, ?_, rfl⟩, F₆, N₆, ⟨b1.1, b1.2⟩, b2⟩
        rw [List.map_set, hcur]
        exact rows_step hy (dr i)
      · rintro g₂ M nw h₄ tk₄ ⟨rfl, ⟨a', b', rfl⟩, cur, hcur, rfl⟩ F₄ N₄
        k_steps
        rw [List.take_length, List.drop_length, List.append_nil] at hcur
        refine join_list (IsL.isList (n := 0) (N₄ _ (.head _)).1) (by have := strs_of cur; rw [hcur] at this; exact this) ?_ fun t' k' => ?_
        · refine Nat.le_trans (Nat.add_le_add_right (sum_le (B := 200) fun z hz => by
            obtain ⟨r, hr1, rfl⟩ := List.mem_map.mp hz
            exact Nat.le_trans (PyProof.Txt.length_slice_le r _ _) (hr r hr1)) _) ?_
          have e1 : (Str.ofString "\n").length = 1 := by decide +kernel
          rw [List.length_map, e1]
          omega
        · dsimp only [flowVal]
          exact h _ _ _ (end_none G₁ F₄ N₄ (fun p hp => nomatch hp))
    · rename (_ != _) = false => hcc
      rw [chr_sp] at hcc
      have hne : i ≠ p0 := fun q => he (by rw [← q, hc]; simpa using hcc)
      exact .mk ⟨g', _, _, h₃, _, rfl, ⟨rfl, by omega, ⟨_, _, rfl⟩, rfl⟩, F₃', N₃, a1, a2⟩
  · rintro g' M nw h₃ tk ⟨rfl, hi, _, _⟩ F₃ N₃
    exact absurd hp (Nat.not_lt.mpr hi)
end
end

section
open PySem PySem.W PyProof.Rows PySem.Calls PySem.Spec
/-- the row of a margin and a place -/
def rowA (a q : Nat) : Str := Txt.mul (Str.ofString " ") (a : Int) ++ wd q
theorem str_ext {x y : Str} (h : x.cps.toList = y.cps.toList) : x = y := by
  cases x; cases y
  simp only [Str.mk.injEq]
  exact Array.toList_inj.mp h
theorem app_list (x y : Str) : (x ++ y).cps.toList = x.cps.toList ++ y.cps.toList := Array.toList_append
theorem blanks (k : Int) : (Txt.mul (Str.ofString " ") k).cps.toList = List.replicate k.toNat 32 := by
  rw [show Str.ofString " " = (⟨#[32]⟩ : Str) by decide +kernel]
  exact mul_one_list 32 k
theorem cut_list {x : Str} {i : Int} (h0 : 0 ≤ i) (h : i ≤ x.length) : (Txt.slice x (some i) none).cps.toList = x.cps.toList.drop i.toNat := by
  rw [slice_from_eq (b := x.length) h0 h rfl]
  show (x.cps.toList.drop i.toNat).take _ = _
  refine List.take_of_length_le ?_
  rw [List.length_drop]
  have : x.length = x.cps.toList.length := rfl
  omega
theorem wd_all : ∀ q : Fin 7, (wd q).cps.toList.length = 9 ∧ ∀ c ∈ (wd q).cps.toList, c ≠ 32 ∧ c ≠ 10 ∧ c < 0x110000 := by decide +kernel
theorem rowA_list (a q : Nat) : (rowA a q).cps.toList = List.replicate a 32 ++ (wd q).cps.toList := by
  unfold rowA
  rw [app_list, blanks, Int.toNat_natCast]
theorem rowA_len (a : Nat) (q : Fin 7) : (rowA a q).cps.toList.length = a + 9 := by
  rw [rowA_list, List.length_append, List.length_replicate, (wd_all q).1]
theorem rowA_mem {a : Nat} {q : Fin 7} {c : Nat} (h : c ∈ (rowA a q).cps.toList) : c ≠ 10 ∧ c < 0x110000 := by
  rw [rowA_list] at h
  rcases List.mem_append.mp h with h | h
  · rw [List.eq_of_mem_replicate h]; exact ⟨by decide, by decide⟩
  · exact ((wd_all q).2 c h).2
theorem rowA_ok (a : Fin 9) (q : Fin 7) : (rowA a q).cps.size = 9 + a.val ∧ (∀ c ∈ (rowA a q).cps.toList, c ≠ 10) ∧ (∀ j : Fin a.val, (rowA a q).cps[j.val]? = some 32) ∧ (rowA a q).cps[a.val]? ≠ some 32 := by
  refine ⟨(rowA_len a q).trans (Nat.add_comm _ _), fun c h => (rowA_mem h).1, fun j => ?_, fun h => ?_⟩
  · rw [← Array.getElem?_toList, rowA_list, List.getElem?_append_left (by rw [List.length_replicate]; exact j.isLt), List.getElem?_replicate, if_pos j.isLt]
  · rw [← Array.getElem?_toList, rowA_list, List.getElem?_append_right (by rw [List.length_replicate]; exact Nat.le_refl _)] at h
    exact ((wd_all q).2 32 (List.mem_of_getElem? h)).1 rfl
theorem due_list {a b : Nat} {q : Fin 7} (h : b ≤ a + 9) : (dr b (rowA a q)).cps.toList = List.replicate (a - b) 32 ++ (wd q).cps.toList.drop (b - a) := by
  have hl : ((b : Nat) : Int) ≤ ((rowA a q).length : Nat) := Int.ofNat_le.mpr (Nat.le_trans h (Nat.le_of_eq (rowA_len a q).symm))
  unfold dr
  rw [cut_list (Int.natCast_nonneg b) hl, Int.toNat_natCast, rowA_list, List.drop_append, List.drop_replicate, List.length_replicate]
theorem due_mem {a b : Nat} {q : Fin 7} (h : b ≤ a + 9) {c : Nat} (hc : c ∈ (dr b (rowA a q)).cps.toList) : c ≠ 10 ∧ c < 0x110000 := by
  rw [due_list h] at hc
  rcases List.mem_append.mp hc with hc | hc
  · rw [List.eq_of_mem_replicate hc]; exact ⟨by decide, by decide⟩
  · exact ((wd_all q).2 c (List.mem_of_mem_drop hc)).2
theorem dueA_ok (a b : Fin 9) (q : Fin 7) : dr b.val (rowA a q) = Txt.mul (Str.ofString " ") ((a.val : Int) - (b.val : Int)) ++ Txt.slice (wd q) (some (max ((b.val : Int) - (a.val : Int)) 0)) none ∧ (dr b.val (rowA a q)).cps.size + b.val = 9 + a.val ∧ (∀ c ∈ (dr b.val (rowA a q)).cps.toList, c ≠ 10) := by
  have hb : b.val ≤ a.val + 9 := by omega
  have hw : ((wd q).length : Int) = 9 := congrArg Int.ofNat (wd_all q).1
  refine ⟨str_ext ?_, ?_, fun c hc => (due_mem hb hc).1⟩
  · rw [due_list hb, app_list, blanks, cut_list (Int.le_max_right _ _) (by rw [hw]; omega)]
    congr 2 <;> omega
  · have : (dr b.val (rowA a q)).cps.size = (dr b.val (rowA a q)).cps.toList.length := rfl
    rw [this, due_list hb, List.length_append, List.length_replicate, List.length_drop, (wd_all q).1]
    omega
/-- lists of signs glued by one -/
noncomputable def jl (c : Nat) : List (List Nat) → List Nat
  | [] => []
  | [x] => x
  | x :: y :: r => x ++ c :: jl c (y :: r)
theorem jl_uniq {c : Nat} : ∀ P Q : List (List Nat), P ≠ [] → Q ≠ [] → (∀ p ∈ P, c ∉ p) → (∀ q ∈ Q, c ∉ q) → jl c P = jl c Q → P = Q
  | [], _, h, _, _, _, _ => absurd rfl h
  | _, [], _, h, _, _, _ => absurd rfl h
  | [x], [y], _, _, _, _, e => by rw [show x = y from e]
  | [x], y :: z :: s, _, _, hp, _, e => by
    exfalso
    have e' : x = y ++ c :: jl c (z :: s) := e
    exact hp x (.head _) (by rw [e']; simp)
  | x :: y :: r, [z], _, _, _, hq, e => by
    exfalso
    have e' : x ++ c :: jl c (y :: r) = z := e
    exact hq z (.head _) (by rw [← e']; simp)
  | x :: y :: r, z :: u :: s, _, _, hp, hq, e => by
    have e' : x ++ c :: jl c (y :: r) = z ++ c :: jl c (u :: s) := e
    have tw : ∀ (l m : List Nat), c ∉ l → (l ++ c :: m).takeWhile (· != c) = l := by
      intro l m hl
      have hp : ∀ a ∈ l, (a != c) = true := by
        intro a ha
        rw [bne_iff_ne]
        intro q
        exact hl (q ▸ ha)
      rw [List.takeWhile_append_of_pos hp, List.takeWhile_cons_of_neg (by simp), List.append_nil]
    have ex : x = z := by
      have := congrArg (List.takeWhile (· != c)) e'
      rwa [tw _ _ (hp x (.head _)), tw _ _ (hq z (.head _))] at this
    subst ex
    have e2 := (List.cons.inj (List.append_cancel_left e')).2
    rw [jl_uniq (y :: r) (u :: s) (List.cons_ne_nil _ _) (List.cons_ne_nil _ _) (fun p h => hp p (.tail _ h)) (fun p h => hq p (.tail _ h)) e2]
theorem join_jl : ∀ rows : List Str, (Str.join ⟨#[10]⟩ rows).cps.toList = jl 10 (rows.map fun r => r.cps.toList)
  | [] => rfl
  | [x] => rfl
  | x :: y :: r => by
    show ((x ++ ⟨#[10]⟩ ++ Str.join ⟨#[10]⟩ (y :: r)) : Str).cps.toList = x.cps.toList ++ 10 :: jl 10 ((y :: r).map fun r => r.cps.toList)
    rw [← join_jl (y :: r)]
    show (x.cps ++ #[10] ++ (Str.join ⟨#[10]⟩ (y :: r)).cps).toList = _
    simp
theorem split_join {rows : List Str} (h0 : rows ≠ []) (hf : ∀ r ∈ rows, ∀ c ∈ r.cps.toList, c ≠ 10) : Txt.split (Txt.join (Str.ofString "\n") rows) (Str.ofString "\n") = rows := by
  have e : Str.ofString "\n" = (⟨#[10]⟩ : Str) := by decide +kernel
  rw [e]
  have ej : Txt.join ⟨#[10]⟩ rows = Str.join ⟨#[10]⟩ rows := StrLaws.glued_eq_join _ _
  rw [ej]
  have h1 := StrLaws.join_split (Str.join ⟨#[10]⟩ rows) ⟨#[10]⟩
  have h2 := StrLaws.split_free (Str.join ⟨#[10]⟩ rows) 10
  have h3 : Txt.split (Str.join ⟨#[10]⟩ rows) ⟨#[10]⟩ ≠ [] := fun q => by have := split_pos (Str.join ⟨#[10]⟩ rows) ⟨#[10]⟩; rw [q] at this; exact absurd this (by decide)
  have h4 := congrArg (fun z : Str => z.cps.toList) h1
  rw [join_jl, join_jl] at h4
  have h5 := jl_uniq _ _ (by simpa using h3) (by simpa using h0) (fun p hp => by obtain ⟨r, hr, rfl⟩ := List.mem_map.mp hp; exact h2 r hr) (fun p hp => by obtain ⟨r, hr, rfl⟩ := List.mem_map.mp hp; exact fun q => hf r hr 10 q rfl) h4
  have inj : ∀ (P Q : List Str), P.map (fun r => r.cps.toList) = Q.map (fun r => r.cps.toList) → P = Q := by
    intro P
    induction P with
    | nil => intro Q h; cases Q with | nil => rfl | cons => cases h
    | cons a r ih =>
      intro Q h
      cases Q with
      | nil => cases h
      | cons b s =>
        rw [List.map_cons, List.map_cons] at h
        obtain ⟨h1, h2⟩ := List.cons.inj h
        rw [ih s h2]
        congr 1
        cases a; cases b
        simp only [Str.mk.injEq]
        exact Array.toList_inj.mp h1
  exact inj _ _ h5
end

section
open PySem PySem.W PyProof.Rows PySem.Calls PySem.Spec
theorem carried_ints : ∀ {vs : List Value} {ns : List Int}, CarriedAll vs (ns.map PyData.int) → IntsAre vs ns
  | _, [], .nil => .nil
  | _, _ :: _, .cons (.int i t) r => .cons i t (carried_ints r)
theorem ints_vs0 : ∀ {vs : List Value} {ns : List Int}, IntsAre vs ns → ∃ its : List (Int × Tok), vs.toArray = vs0 its ∧ its.map (·.1) = ns
  | _, _, .nil => ⟨[], rfl, rfl⟩
  | _, _, .cons n t r => by
    obtain ⟨its, e, h⟩ := ints_vs0 r
    refine ⟨(n, t) :: its, ?_, by simp [h]⟩
    apply Array.toList_inj.mp
    have := congrArg Array.toList e
    simpa [vs0] using this
theorem vs0_ints : ∀ (its : List (Int × Tok)), IntsAre (vs0 its).toList (its.map (·.1))
  | [] => .nil
  | (n, t) :: r => .cons n t (vs0_ints r)
/-- the price of a margin x: what stands over it, and what is lacking, so many times -/
def kost (pr : Nat) (ms : List Int) (x : Int) : Int := (ms.map fun m => if x < m then m - x else (pr : Int) * (x - m)).sum
def cLt (ms : List Int) (x : Int) : Nat := (ms.filter (· < x)).length
def cGt (ms : List Int) (x : Int) : Nat := (ms.filter (x < ·)).length
def cEq (ms : List Int) (x : Int) : Nat := (ms.filter (· == x)).length
/-- floats that are ranks -/
def Fls (f : Nat → Nat × Nat) (n : Nat) (vs : Array Value) : Prop := vs.size = n ∧ ∀ k, k < n → ∃ t, t ≠ 0 ∧ vs[k]? = some (.float (rkF (f k).1 (f k).2) t)
theorem Fls.nil (f : Nat → Nat × Nat) : Fls f 0 #[] := ⟨rfl, fun _ h => absurd h (Nat.not_lt_zero _)⟩
theorem Fls.push {f : Nat → Nat × Nat} {n : Nat} {vs : Array Value} {t : Tok} (ht : t ≠ 0) (h : Fls f n vs) : Fls f (n + 1) (vs.push (.float (rkF (f n).1 (f n).2) t)) := by
  refine ⟨by rw [Array.size_push, h.1], fun k hk => ?_⟩
  rcases Nat.lt_or_ge k n with q | q
  · rw [Array.getElem?_push_lt (by rw [h.1]; exact q)]
    have := h.2 k q
    rwa [Array.getElem?_eq_getElem (by rw [h.1]; exact q)] at this
  · obtain rfl : k = n := by omega
    have : (vs.push (.float (rkF (f k).1 (f k).2) t))[k]? = some (.float (rkF (f k).1 (f k).2) t) := by rw [← h.1]; simp
    exact ⟨t, ht, this⟩
/-- what the law has reckoned of the rows before i -/
structure JD (pr : Nat) (ms : List Int) (i : Nat) (cs : List (Int × Tok)) (be ab : Array Value) : Prop where
  cs : cs.map (·.1) = (List.range i).map fun k => kost pr ms (ms.getD k 0)
  be : Fls (fun k => (cLt ms (ms.getD k 0), cEq ms (ms.getD k 0))) i be
  ab : Fls (fun k => (cGt ms (ms.getD k 0), cEq ms (ms.getD k 0))) i ab
theorem JD.start (pr : Nat) (ms : List Int) : JD pr ms 0 [] #[] #[] := ⟨rfl, Fls.nil _, Fls.nil _⟩
/-- the rows' order: i first -/
def ord (i n : Nat) : List Nat := i :: (List.range n).filter (· != i)
theorem ord_lt {i n : Nat} (hi : i < n) : ∀ q ∈ ord i n, q < n := fun q hq => by
  rcases List.mem_cons.mp hq with rfl | hq
  · exact hi
  · exact List.mem_range.mp (List.mem_filter.mp hq).1
theorem ord_perm {i n : Nat} (hi : i < n) : (ord i n).Perm (List.range n) := by
  refine (List.perm_ext_iff_of_nodup ?_ List.nodup_range).mpr fun q => ?_
  · unfold ord
    rw [List.nodup_cons]
    exact ⟨fun h => by simpa using (List.mem_filter.mp h).2, List.nodup_range.sublist List.filter_sublist⟩
  · unfold ord
    rw [List.mem_cons, List.mem_filter, List.mem_range]
    constructor
    · rintro (rfl | h)
      · exact hi
      · exact h.1
    · intro h
      by_cases e : q = i
      · exact .inl e
      · exact .inr ⟨h, by simpa using e⟩
theorem ord_len {i n : Nat} (hi : i < n) : (ord i n).length = n := by rw [(ord_perm hi).length_eq, List.length_range]
theorem rangeInts_eq (n : Nat) : rangeInts 0 1 n = (List.range n).map fun k : Nat => (k : Int) := by
  apply List.ext_getElem?
  intro k
  simp [rangeInts]
theorem ord_of {os : List (Int × Tok)} {i n : Nat} (h : os.map (·.1) = [(i : Int)] ++ List.filter (fun a => a != (i : Int)) (rangeInts 0 1 n)) : os.map (·.1) = (ord i n).map fun k : Nat => (k : Int) := by
  rw [h, rangeInts_eq]
  unfold ord
  rw [List.singleton_append, List.map_cons, List.filter_map]
  congr 2
  refine List.filter_congr fun q _ => ?_
  simp [bne, BEq.beq]
  omega
theorem strValues_snoc (l : List (Str × Tok)) (y : Str) (t : Tok) : strValues l ++ [Value.str y t] = strValues (l ++ [(y, t)]) := by simp [strValues]
theorem vs0_snoc (l : List (Int × Tok)) (y : Int) (t : Tok) : (vs0 l).toList ++ [Value.int y t] = (vs0 (l ++ [(y, t)])).toList := by simp [vs0]
section
variable {prog : Program} {w : World} {A : Around} {E : Value → Shared → Prop} {s : Shared} {h₀ : Heap} {L : Addr} {m : Str → Option Value} {news : List (Addr × Obj)} {env : Env}
/-- two lists of ints added -/
theorem add_l {l b : Addr} {its its2 : Array Value} {ns ms : List Int} {Q : Value → Shared → Prop} (F : Fr h₀ L s.heap m) (N : News h₀ L s.heap news) (hl : s.heap.IsList l its) (hb : s.heap.IsList b its2) (hi : IntsAre its.toList ns) (hj : IntsAre its2.toList ms) (hsz : ns.length + ms.length ≤ 64)
    (h : ∀ O os h', Fr h₀ L h' m → News h₀ L h' ((O, listOf (vs0 os) 0) :: news) → AllNe O news → os.map (·.1) = ns ++ ms → Q (.ref O) { s with heap := h' }) : wpAny (model prog w) A (binaryOp .Add (.ref l) (.ref b)) Q E s := by
  refine add_arrays_ints F N hl hb hi hj (fun h' F' N' hO => ?_) (by rw [sizeLine_eq]; omega)
  obtain ⟨os, e, e2⟩ := ints_vs0 hO
  rw [e] at N'
  exact h _ os h' F' N' (AllNe.of fun p hp => Nat.ne_of_lt (Heap.lt_size (N p hp).1)) e2
open LCg in
/-- a comprehension over a list, by what holds of the values made so far -/
theorem comp_list {elt : PySem.Expr} {x : Str} {scope : Scope} {cl : List (Str × Addr)} {ax : Addr} {its : Array Value} {Fin : List Value → List (Addr × Obj) → Prop} (Vf : Nat → List Value → Prop) (hS : SrcAt h₀ ax its news) (h0 : Vf 0 [])
    (step : ∀ i ys v I oI C oC D m₂ h tk (E' : Value → Shared → Prop), its[i]? = some v → Vf i ys → NsObj oC m₂ → m₂ x = some v → Fr h₀ L h m → News h₀ L h ((I, oI) :: (C, oC) :: (D, lst ys) :: news) → Off3 I C D news → ((@Ne Nat I C) ∧ (@Ne Nat I D) ∧ (@Ne Nat C D)) →
      wpAny (model prog w) A (eval elt (compEnvC scope cl C env)) (fun y s₂ => Stop (∃ h' tk', s₂ = { s with heap := h', toks := tk' } ∧ Fr h₀ L h' m ∧ News h₀ L h' ((I, oI) :: (C, oC) :: (D, lst ys) :: news) ∧ Vf (i + 1) (ys ++ [y]))) E' { s with heap := h, toks := tk })
    (fin : ∀ ys, Vf its.size ys → Fin ys news) : CompRest prog w A h₀ L m env elt x scope cl s (SrcAt h₀ ax its) (fun i v => its[i]? = some v) Fin its.size 0 [] news := by
  have : ∀ k i ys, i + k = its.size → Vf i ys → CompRest prog w A h₀ L m env elt x scope cl s (SrcAt h₀ ax its) (fun i v => its[i]? = some v) Fin k i ys news := by
    intro k
    induction k with
    | zero =>
      intro i ys hi hv
      have e : i = its.size := by omega
      exact fin ys (e ▸ hv)
    | succ k ih =>
      intro i ys hi hv
      refine CompRest.succ fun v I oI C oC D m₂ h tk E' q1 q2 q3 q4 q5 q6 q7 => ?_
      refine wpAny_mono (step i ys v I oI C oC D m₂ h tk E' q1 hv q2 q3 q4 q5 q6 q7) (fun y s₂ hy => ?_) fun _ _ z => z
      obtain ⟨h', tk', e, F', N', hv'⟩ := hy.out
      exact ⟨h', tk', news, e, F', N', q6, hS, ih (i + 1) (ys ++ [y]) (by omega) hv'⟩
  exact this its.size 0 [] (by omega) h0
end
end

section
open PySem PySem.W PyProof.Rows PySem.Calls PySem.Spec
def rowsOf (mk : Nat → Nat) (i n : Nat) : List Str := (ord i n).map fun q => rowA (mk q) q
def dueOf (mk : Nat → Nat) (i n : Nat) : List Str := (ord i n).map fun q => dr (mk i) (rowA (mk q) q)
section
variable {mk : Nat → Nat} {i n : Nat}
theorem join_len {rows : List Str} {B : Nat} (h : ∀ r ∈ rows, r.length ≤ B) : (Txt.join (Str.ofString "\n") rows).length ≤ rows.length * B + rows.length := by
  have e : Txt.join (Str.ofString "\n") rows = Str.join (Str.ofString "\n") rows := StrLaws.glued_eq_join _ _
  have := StrLaws.join_length_le (Str.ofString "\n") rows
  have h2 := sum_le (f := fun r : Str => r.length) (B := B) h
  rw [show (Str.ofString "\n").length = 1 by decide +kernel] at this
  rw [e]; omega
theorem rows_len (hi : i < n) (hn : n ≤ 7) (hm : ∀ q, q < n → mk q ≤ 8) : ∀ r ∈ rowsOf mk i n, r.length ≤ 17 ∧ ∀ c ∈ r.cps.toList, c ≠ 10 := fun r hr => by
  obtain ⟨q, hq, rfl⟩ := List.mem_map.mp hr
  have hq' := ord_lt hi q hq
  have h8 := hm q hq'
  have h := rowA_ok ⟨mk q, by omega⟩ ⟨q, by omega⟩
  have h1 : (rowA (mk q) q).cps.size = 9 + mk q := h.1
  exact ⟨by show (rowA (mk q) q).cps.size ≤ 17; omega, h.2.1⟩
theorem due_len (hi : i < n) (hn : n ≤ 7) (hm : ∀ q, q < n → mk q ≤ 8) : ∀ r ∈ dueOf mk i n, r.length ≤ 17 ∧ ∀ c ∈ r.cps.toList, c ≠ 10 := fun r hr => by
  obtain ⟨q, hq, rfl⟩ := List.mem_map.mp hr
  have hq' := ord_lt hi q hq
  have h8 := hm q hq'
  have h := dueA_ok ⟨mk q, by omega⟩ ⟨mk i, by have := hm i hi; omega⟩ ⟨q, by omega⟩
  have h1 : (dr (mk i) (rowA (mk q) q)).cps.size + mk i = 9 + mk q := h.2.1
  exact ⟨by show (dr (mk i) (rowA (mk q) q)).cps.size ≤ 17; omega, h.2.2⟩
theorem rows_n (hi : i < n) : (rowsOf mk i n).length = n := by unfold rowsOf; rw [List.length_map, ord_len hi]
theorem due_n (hi : i < n) : (dueOf mk i n).length = n := by unfold dueOf; rw [List.length_map, ord_len hi]
theorem rows_split (hi : i < n) (hn : n ≤ 7) (hm : ∀ q, q < n → mk q ≤ 8) : Txt.split (Txt.join (Str.ofString "\n") (rowsOf mk i n)) (Str.ofString "\n") = rowsOf mk i n :=
  split_join (fun h => by have := rows_n (mk := mk) hi; rw [h] at this; simp at this; omega) fun r hr => (rows_len hi hn hm r hr).2
theorem due_split (hi : i < n) (hn : n ≤ 7) (hm : ∀ q, q < n → mk q ≤ 8) : Txt.split (Txt.join (Str.ofString "\n") (dueOf mk i n)) (Str.ofString "\n") = dueOf mk i n :=
  split_join (fun h => by have := due_n (mk := mk) hi; rw [h] at this; simp at this; omega) fun r hr => (due_len hi hn hm r hr).2
theorem rows_size (hi : i < n) (hn : n ≤ 7) (hm : ∀ q, q < n → mk q ≤ 8) : (Txt.join (Str.ofString "\n") (rowsOf mk i n)).length ≤ 200 := by
  have := join_len (B := 17) fun r hr => (rows_len hi hn hm r hr).1
  rw [rows_n hi] at this; omega
theorem due_size (hi : i < n) (hn : n ≤ 7) (hm : ∀ q, q < n → mk q ≤ 8) : (Txt.join (Str.ofString "\n") (dueOf mk i n)).length ≤ 200 := by
  have := join_len (B := 17) fun r hr => (due_len hi hn hm r hr).1
  rw [due_n hi] at this; omega
/-- a row as the law makes it is the row without the first one's blanks -/
theorem due_eq {q : Nat} (ha : mk q ≤ 8) (hb : mk i ≤ 8) (hq : q < 7) : Txt.mul (Str.ofString " ") ((mk q : Int) - (mk i : Int)) ++ Txt.slice (wd q) (some (max ((mk i : Int) - (mk q : Int)) 0)) none = dr (mk i) (rowA (mk q) q) :=
  (dueA_ok ⟨mk q, by omega⟩ ⟨mk i, by omega⟩ ⟨q, hq⟩).1.symm
theorem due_eqI {q : Nat} (ha : mk q ≤ 8) (hb : mk i ≤ 8) (hq : q < 7) : Txt.mul (Str.ofString " ") ((mk q : Int) - (mk i : Int)) ++ Txt.slice (wd q) (some (if (0 : Int) > (mk i : Int) - (mk q : Int) then 0 else (mk i : Int) - (mk q : Int))) none = dr (mk i) (rowA (mk q) q) := by
  rw [← due_eq ha hb hq]
  congr 3
  split <;> omega
theorem due_map : (rowsOf mk i n).map (dr (mk i)) = dueOf mk i n := by unfold rowsOf dueOf; rw [List.map_map]; rfl
theorem rows_cons : (rowA (mk i) i :: ((List.range n).filter (· != i)).map fun q => rowA (mk q) q) = rowsOf mk i n := rfl
theorem rowsOf_eq : ((ord i n).map fun q => rowA (mk q) q) = rowsOf mk i n := rfl
theorem row0_ok (hb : mk i ≤ 8) (hq : i < 7) : mk i < (rowA (mk i) i).cps.size ∧ (∀ j, j < mk i → (rowA (mk i) i).cps[j]? = some 32) ∧ (rowA (mk i) i).cps[mk i]? ≠ some 32 := by
  have h := rowA_ok ⟨mk i, by omega⟩ ⟨i, hq⟩
  have h1 : (rowA (mk i) i).cps.size = 9 + mk i := h.1
  exact ⟨by omega, fun j hj => h.2.2.1 ⟨j, hj⟩, h.2.2.2⟩
end
end

section
open PySem PySem.W PyProof.Rows PySem.Calls PySem.Spec PySem.SeqAt
theorem readsAll_strs {h : Heap} : ∀ l : List (Str × Tok), ReadsAll h (strValues l) (l.map fun p => PyData.str p.1) []
  | [] => .nil
  | (x, t) :: r =>
    ReadsAll.cons (as := []) (Reads.str (h := h) x t) (readsAll_strs (h := h) r)
theorem canLay_strs : ∀ ss : List Str, (∀ y ∈ ss, PyData.strOk y = true) → PyData.canLayAll0 (ss.map PyData.str) = true
  | [], _ => by simp [PyData.canLayAll0]
  | n :: r, h => by simp [PyData.canLayAll0, PyData.canLay0, canLay_strs r fun y hy => h y (.tail _ hy), h n (.head _)]
theorem depth_strs : ∀ ss : List Str, PyData.depthAll (ss.map PyData.str) ≤ 1
  | [] => by simp [PyData.depthAll]
  | n :: r => by
    have := depth_strs r
    simp only [List.map_cons, PyData.depthAll, PyData.depth]
    omega
theorem shaped_strs (ss : List Str) (h : ∀ y ∈ ss, PyData.strOk y = true) : shaped (.list (ss.map PyData.str)) = true := by
  have h1 := depth_strs ss
  have h2 : PyData.depth (.list (ss.map PyData.str)) ≤ 64 := by simp only [PyData.depth]; omega
  show (PyData.canLay0 (.list (ss.map PyData.str)) && decide (PyData.depth (.list (ss.map PyData.str)) ≤ 64)) = true
  rw [Bool.and_eq_true]
  exact ⟨by simp only [PyData.canLay0]; exact canLay_strs ss h, decide_eq_true h2⟩
theorem noMix_strs : ∀ ss : List Str, noMixAll (ss.map PyData.str) (ss.map PyData.str) = true
  | [] => by simp [noMixAll]
  | _ :: r => by simp [noMixAll, noMix, noMix_strs r]
theorem same_strs : ∀ ss : List Str, PySem.Spec.sameAll (ss.map PyData.str) (ss.map PyData.str) = true
  | [] => by simp [PySem.Spec.sameAll]
  | n :: r => by simp [PySem.Spec.sameAll, PySem.Spec.same, same_strs r]
theorem dueS_ok (a b : Fin 9) (q : Fin 7) : PyData.strOk (dr (b : Nat) (rowA (a : Nat) q)) = true := by
  unfold PyData.strOk
  rw [Array.all_eq_true']
  intro c hc
  exact decide_eq_true (due_mem (by omega) (Array.mem_def.mp hc)).2
theorem due_ok {mk : Nat → Nat} {i n : Nat} (hi : i < n) (hn : n ≤ 7) (hm : ∀ q, q < n → mk q ≤ 8) : ∀ y ∈ dueOf mk i n, PyData.strOk y = true := fun y hy => by
  obtain ⟨q, hq, rfl⟩ := List.mem_map.mp hy
  have hq' := ord_lt hi q hq
  have h8 := hm q hq'
  exact dueS_ok ⟨mk q, by omega⟩ ⟨mk i, by have := hm i hi; omega⟩ ⟨q, by omega⟩
theorem str_at : ∀ {l : List (Str × Tok)} {i : Nat} {v : Value}, (strValues l).toArray[i]? = some v → ∃ x t, v = .str x t ∧ (l.map fun p : Str × Tok => p.1)[i]? = some x := fun {l i v} h => by
  rw [List.getElem?_toArray] at h
  unfold strValues at h
  rw [List.getElem?_map] at h
  cases e : l[i]? with
  | none => rw [e] at h; simp at h
  | some p =>
    rw [e] at h
    simp only [Option.map_some, Option.some.injEq] at h
    exact ⟨p.1, p.2, h.symm, by rw [List.getElem?_map, e]; rfl⟩
section
variable {prog : Program} {w : World} {A : Around} {E : Value → Shared → Prop} {s : Shared}
theorem reads_strs {h : Heap} {a : Addr} {l : List (Str × Tok)} (hl : h.IsList a (strValues l).toArray) : Reads h (.ref a) (.list ((l.map (fun p => p.1)).map PyData.str)) [a] := by
  obtain ⟨o, ho, hc, n, hd⟩ := hl
  exact Reads.list ho hc hd (by have := readsAll_strs (h := h) l; rw [List.map_map]; exact this)
/-- two lists of the same texts -/
theorem ne_strs {a b : Addr} {l k : List (Str × Tok)} {Q : Value → Shared → Prop} (ha : s.heap.IsList a (strValues l).toArray) (hb : s.heap.IsList b (strValues k).toArray) (e : l.map (fun p : Str × Tok => p.1) = k.map (fun p : Str × Tok => p.1)) (hok : ∀ y ∈ l.map (fun p : Str × Tok => p.1), PyData.strOk y = true) (hu : A.units + 64 < cLine)
    (h : Q (.bool false) s) : wpAny (model prog w) A (compareOp .NotEq (.ref a) (.ref b)) Q E s := by
  have rb := reads_strs hb
  rw [← e] at rb
  exact ne_dataH_same (reads_strs ha) rb (shaped_strs _ hok) (shaped_strs _ hok) hu (by simp only [noMix]; exact noMix_strs _) (by simp only [PySem.Spec.same]; rw [same_strs]; exact h)
end
end

section
open PySem PySem.W PyProof.Rows PySem.Calls PySem.Spec
theorem perm_sum {a b : List Int} (h : a.Perm b) : a.sum = b.sum := by
  induction h with
  | nil => rfl
  | cons x _ ih => rw [List.sum_cons, List.sum_cons, ih]
  | swap x y l => simp only [List.sum_cons]; omega
  | trans _ _ i1 i2 => rw [i1, i2]
section
variable {mk : Nat → Nat} {i n : Nat} {ms : List Int}
theorem ms_get (hi : i < n) (hms : ms = (List.range n).map fun q => (mk q : Int)) : ms.getD i 0 = (mk i : Int) := by
  subst hms
  simp [List.getD, hi]
theorem filt_ord {P : Int → Bool} (f : Nat → Int) (hi : i < n) : (((ord i n).map f).filter P).length = (((List.range n).map f).filter P).length :=
  (((ord_perm hi).map f).filter P).length_eq
theorem cnt_lt (hi : i < n) (hms : ms = (List.range n).map fun q => (mk q : Int)) : (((ord i n).map fun q => (9 : Int) + (mk q : Int) - (mk i : Int)).filter (· < 9)).length = cLt ms (ms.getD i 0) := by
  rw [ms_get hi hms, filt_ord _ hi, hms]
  unfold cLt
  rw [List.filter_map, List.filter_map, List.length_map, List.length_map]
  congr 1
  refine List.filter_congr fun q _ => ?_
  simp only [Function.comp]
  exact decide_eq_decide.mpr (by omega)
theorem cnt_gt (hi : i < n) (hms : ms = (List.range n).map fun q => (mk q : Int)) : (((ord i n).map fun q => (9 : Int) + (mk q : Int) - (mk i : Int)).filter (fun s => s > 9)).length = cGt ms (ms.getD i 0) := by
  rw [ms_get hi hms, filt_ord _ hi, hms]
  unfold cGt
  rw [List.filter_map, List.filter_map, List.length_map, List.length_map]
  congr 1
  refine List.filter_congr fun q _ => ?_
  simp only [Function.comp]
  exact decide_eq_decide.mpr (by omega)
theorem cnt_eq (hi : i < n) (hms : ms = (List.range n).map fun q => (mk q : Int)) : ((ord i n).map fun q => (9 : Int) + (mk q : Int) - (mk i : Int)).count 9 = cEq ms (ms.getD i 0) := by
  rw [ms_get hi hms, List.count_eq_length_filter, filt_ord _ hi, hms]
  unfold cEq
  rw [List.filter_map, List.filter_map, List.length_map, List.length_map]
  congr 1
  refine List.filter_congr fun q _ => ?_
  simp only [Function.comp]
  rw [Bool.eq_iff_iff, beq_iff_eq, beq_iff_eq]
  omega
theorem sum_kost {pr : Nat} (hi : i < n) (hms : ms = (List.range n).map fun q => (mk q : Int)) : (((ord i n).map fun q => (9 : Int) + (mk q : Int) - (mk i : Int)).map fun s => if s > 9 then s - 9 else (pr : Int) * (9 - s)).sum = kost pr ms (ms.getD i 0) := by
  rw [ms_get hi hms, perm_sum (((ord_perm hi).map _).map _), hms]
  unfold kost
  rw [List.map_map, List.map_map]
  congr 1
  refine List.map_congr_left fun q _ => ?_
  simp only [Function.comp]
  by_cases h : (mk i : Int) < (mk q : Int)
  · rw [if_pos h, if_pos (by omega)]; omega
  · rw [if_neg h, if_neg (by omega)]
    congr 1; omega
theorem cEq_le (x : Int) : cEq ms x ≤ ms.length := List.length_filter_le _ _
theorem cLt_le (x : Int) : cLt ms x ≤ ms.length := List.length_filter_le _ _
theorem cGt_le (x : Int) : cGt ms x ≤ ms.length := List.length_filter_le _ _
theorem ms_range {its : List (Int × Tok)} (hl : its.length = n) (h : ∀ (q : Nat) (h : q < its.length), its[q].1 = (mk q : Int)) : its.map (·.1) = (List.range n).map fun q => (mk q : Int) := by
  subst hl
  apply List.ext_getElem (by simp)
  intro q h1 h2
  simp only [List.getElem_map, List.getElem_range]
  exact h q (by simpa using h1)
end
end

section
open PySem PySem.W PyProof.Rows PySem.Calls PySem.Spec
section
variable {prog : Program} {w : World} {A : Around} {E : Value → Shared → Prop} {s : Shared} {h₀ : Heap} {L : Addr} {m : Str → Option Value} {news : List (Addr × Obj)} {env : Env}
open LCg in
/-- a comprehension with a test over a list, by what holds of the values made so far -/
theorem comp_test {ct elt : PySem.Expr} {x : Str} {scope : Scope} {cl : List (Str × Addr)} {ax : Addr} {its : Array Value} {Fin : List Value → List (Addr × Obj) → Prop} (Vf : Nat → List Value → Prop) (b : Nat → Bool) (hS : SrcAt h₀ ax its news) (h0 : Vf 0 [])
    (test : ∀ i ys v I oI C oC D m₂ h tk (E' : Value → Shared → Prop), its[i]? = some v → Vf i ys → NsObj oC m₂ → m₂ x = some v → Fr h₀ L h m → News h₀ L h ((I, oI) :: (C, oC) :: (D, lst ys) :: news) → Off3 I C D news → ((@Ne Nat I C) ∧ (@Ne Nat I D) ∧ (@Ne Nat C D)) →
      wpAny (model prog w) A (isTrue ct (compEnvC scope cl C env) (eval ct (compEnvC scope cl C env))) (fun ok s₂ => Stop (∃ h' tk', s₂ = { s with heap := h', toks := tk' } ∧ Fr h₀ L h' m ∧ News h₀ L h' ((I, oI) :: (C, oC) :: (D, lst ys) :: news) ∧ ok = b i)) E' { s with heap := h, toks := tk })
    (step : ∀ i ys v I oI C oC D m₂ h tk (E' : Value → Shared → Prop), its[i]? = some v → Vf i ys → b i = true → NsObj oC m₂ → m₂ x = some v → Fr h₀ L h m → News h₀ L h ((I, oI) :: (C, oC) :: (D, lst ys) :: news) → Off3 I C D news → ((@Ne Nat I C) ∧ (@Ne Nat I D) ∧ (@Ne Nat C D)) →
      wpAny (model prog w) A (eval elt (compEnvC scope cl C env)) (fun y s₂ => Stop (∃ h' tk', s₂ = { s with heap := h', toks := tk' } ∧ Fr h₀ L h' m ∧ News h₀ L h' ((I, oI) :: (C, oC) :: (D, lst ys) :: news) ∧ Vf (i + 1) (ys ++ [y]))) E' { s with heap := h, toks := tk })
    (skip : ∀ i ys v, its[i]? = some v → Vf i ys → b i = false → Vf (i + 1) ys)
    (fin : ∀ ys, Vf its.size ys → Fin ys news) : LCt.CompRestT prog w A h₀ L m env ct elt x scope cl s (SrcAt h₀ ax its) (fun i v => its[i]? = some v) Fin its.size 0 [] news := by
  have : ∀ k i ys, i + k = its.size → Vf i ys → LCt.CompRestT prog w A h₀ L m env ct elt x scope cl s (SrcAt h₀ ax its) (fun i v => its[i]? = some v) Fin k i ys news := by
    intro k
    induction k with
    | zero =>
      intro i ys hi hv
      have e : i = its.size := by omega
      exact fin ys (e ▸ hv)
    | succ k ih =>
      intro i ys hi hv
      refine LCt.CompRestT.succ fun v I oI C oC D m₂ h tk E' q1 q2 q3 q4 q5 q6 q7 => ?_
      refine wpAny_mono (test i ys v I oI C oC D m₂ h tk E' q1 hv q2 q3 q4 q5 q6 q7) (fun ok s₂ hy => ?_) fun _ _ z => z
      obtain ⟨h', tk', rfl, F', N', rfl⟩ := hy.out
      cases hb : b i with
      | true =>
        rw [if_pos rfl]
        refine wpAny_mono (step i ys v I oI C oC D m₂ h' tk' E' q1 hv hb q2 q3 F' N' q6 q7) (fun y s₃ hy => ?_) fun _ _ z => z
        obtain ⟨h'', tk'', e, F'', N'', hv'⟩ := hy.out
        exact ⟨h'', tk'', news, e, F'', N'', q6, hS, ih (i + 1) (ys ++ [y]) (by omega) hv'⟩
      | false =>
        rw [if_neg (by decide)]
        exact ⟨h', tk', news, rfl, F', N', q6, hS, ih (i + 1) ys (by omega) (skip i ys v q1 hv hb)⟩
  exact this its.size 0 [] (by omega) h0
theorem off7 {d a0 a1 a2 a3 a4 a5 a6 : Addr} {o0 o1 o2 o3 o4 o5 o6 : Obj} (h : a0 < d ∧ a1 < d ∧ a2 < d ∧ a3 < d ∧ a4 < d ∧ a5 < d ∧ a6 < d) : ∀ p ∈ [(a0, o0), (a1, o1), (a2, o2), (a3, o3), (a4, o4), (a5, o5), (a6, o6)], p.1 ≠ d := by
  obtain ⟨h0, h1, h2, h3, h4, h5, h6⟩ := h
  exact AllNe.at ⟨Nat.ne_of_lt h0, Nat.ne_of_lt h1, Nat.ne_of_lt h2, Nat.ne_of_lt h3, Nat.ne_of_lt h4, Nat.ne_of_lt h5, Nat.ne_of_lt h6, trivial⟩
theorem off8 {d a0 a1 a2 a3 a4 a5 a6 a7 : Addr} {o0 o1 o2 o3 o4 o5 o6 o7 : Obj} (h : a0 < d ∧ a1 < d ∧ a2 < d ∧ a3 < d ∧ a4 < d ∧ a5 < d ∧ a6 < d ∧ a7 < d) : ∀ p ∈ [(a0, o0), (a1, o1), (a2, o2), (a3, o3), (a4, o4), (a5, o5), (a6, o6), (a7, o7)], p.1 ≠ d := by
  obtain ⟨h0, h1, h2, h3, h4, h5, h6, h7⟩ := h
  exact AllNe.at ⟨Nat.ne_of_lt h0, Nat.ne_of_lt h1, Nat.ne_of_lt h2, Nat.ne_of_lt h3, Nat.ne_of_lt h4, Nat.ne_of_lt h5, Nat.ne_of_lt h6, Nat.ne_of_lt h7, trivial⟩
theorem off9 {d a0 a1 a2 a3 a4 a5 a6 a7 a8 : Addr} {o0 o1 o2 o3 o4 o5 o6 o7 o8 : Obj} (h : a0 < d ∧ a1 < d ∧ a2 < d ∧ a3 < d ∧ a4 < d ∧ a5 < d ∧ a6 < d ∧ a7 < d ∧ a8 < d) : ∀ p ∈ [(a0, o0), (a1, o1), (a2, o2), (a3, o3), (a4, o4), (a5, o5), (a6, o6), (a7, o7), (a8, o8)], p.1 ≠ d := by
  obtain ⟨h0, h1, h2, h3, h4, h5, h6, h7, h8⟩ := h
  exact AllNe.at ⟨Nat.ne_of_lt h0, Nat.ne_of_lt h1, Nat.ne_of_lt h2, Nat.ne_of_lt h3, Nat.ne_of_lt h4, Nat.ne_of_lt h5, Nat.ne_of_lt h6, Nat.ne_of_lt h7, Nat.ne_of_lt h8, trivial⟩
theorem newsDrop {h : Heap} {p : Addr × Obj} (N : News h₀ L h (p :: news)) : News h₀ L h news := fun q hq => N q (.tail _ hq)
theorem coll6 {a b c d e f : Str} {v1 j1 v2 j2 v3 j3 v4 j4 v5 j5 v6 j6 : Option Value} {M : Str → Option Value} : (fun y => if y = a then v1 else if y = b then v2 else if y = c then v3 else if y = d then v4 else if y = e then v5 else if y = f then v6 else if y = a then j1 else if y = b then j2 else if y = c then j3 else if y = d then j4 else if y = e then j5 else if y = f then j6 else M y) = fun y => if y = a then v1 else if y = b then v2 else if y = c then v3 else if y = d then v4 else if y = e then v5 else if y = f then v6 else M y := by
  funext y
  by_cases h1 : y = a
  · simp only [if_pos h1]
  by_cases h2 : y = b
  · simp only [if_pos h2, if_neg h1]
  by_cases h3 : y = c
  · simp only [if_pos h3, if_neg h1, if_neg h2]
  by_cases h4 : y = d
  · simp only [if_pos h4, if_neg h1, if_neg h2, if_neg h3]
  by_cases h5 : y = e
  · simp only [if_pos h5, if_neg h1, if_neg h2, if_neg h3, if_neg h4]
  by_cases h6 : y = f
  · simp only [if_pos h6, if_neg h1, if_neg h2, if_neg h3, if_neg h4, if_neg h5]
  simp only [if_neg h1, if_neg h2, if_neg h3, if_neg h4, if_neg h5, if_neg h6]
theorem vs0_push (l : List (Int × Tok)) (y : Int) (t : Tok) : (vs0 l).push (Value.int y t) = vs0 (l ++ [(y, t)]) := by simp [vs0]
theorem JD.step {pr i : Nat} {ms : List Int} {cs : List (Int × Tok)} {be ab : Array Value} {t u v : Tok} (hu : u ≠ 0) (hv : v ≠ 0) (h : JD pr ms i cs be ab) : JD pr ms (i + 1) (cs ++ [(kost pr ms (ms.getD i 0), t)]) (be.push (.float (rkF (cLt ms (ms.getD i 0)) (cEq ms (ms.getD i 0))) u)) (ab.push (.float (rkF (cGt ms (ms.getD i 0)) (cEq ms (ms.getD i 0))) v)) := by
  refine ⟨?_, Fls.push hu h.be, Fls.push hv h.ab⟩
  rw [List.map_append, h.cs, List.range_succ, List.map_append]
  rfl
theorem int_at {l : List (Int × Tok)} {i : Nat} {v : Value} (h : (vs0 l)[i]? = some v) : ∃ x t, v = .int x t ∧ (l.map fun p : Int × Tok => p.1)[i]? = some x := by
  have h1 : l[i]?.map (fun p => Value.int p.1 p.2) = some v := by simpa [vs0] using h
  cases e : l[i]? with
  | none => rw [e] at h1; simp at h1
  | some p =>
    rw [e] at h1
    simp only [Option.map_some, Option.some.injEq] at h1
    exact ⟨p.1, p.2, h1.symm, by rw [List.getElem?_map, e]; rfl⟩
theorem take_filter {l : List Int} {i : Nat} {x : Int} (P : Int → Bool) (h : l[i]? = some x) : (l.take (i + 1)).filter P = (l.take i).filter P ++ if P x then [x] else [] := by
  rw [List.take_add_one, h, List.filter_append]
  congr 1
  cases hp : P x <;> simp [hp]
end
end

section
open PySem PySem.W PyProof.Rows PySem.Calls PySem.Spec
/-- how many are not above -/
def cLe (ms : List Int) (x : Int) : Nat := (ms.filter (· ≤ x)).length
theorem cLe_cons (m : Int) (ms : List Int) (x : Int) : cLe (m :: ms) x = cLe ms x + if m ≤ x then 1 else 0 := by
  unfold cLe; rw [List.filter_cons]; split <;> rename_i h <;> simp at h <;> simp [h]
theorem cLt_eq (ms : List Int) (x : Int) : cLt ms (x + 1) = cLe ms x := by
  unfold cLt cLe
  congr 1
  exact List.filter_congr fun m _ => decide_eq_decide.mpr Int.lt_add_one_iff
theorem cLe_mono {x y : Int} (h : x ≤ y) : ∀ ms : List Int, cLe ms x ≤ cLe ms y
  | [] => Nat.le_refl _
  | m :: ms => by
    rw [cLe_cons, cLe_cons]
    refine Nat.add_le_add (cLe_mono h ms) ?_
    split
    · rename_i q; rw [if_pos (Int.le_trans q h)]; exact Nat.le_refl _
    · exact Nat.zero_le _
theorem cLe_same {x y : Int} (h : x ≤ y) {ms : List Int} (hm : ∀ m ∈ ms, m ≤ x ∨ y < m) : cLe ms y = cLe ms x := by
  unfold cLe
  congr 1
  refine List.filter_congr fun m q => decide_eq_decide.mpr ⟨fun z => ?_, fun z => Int.le_trans z h⟩
  exact (hm m q).resolve_right (Int.not_lt.mpr z)
/-- one step to the right -/
theorem kost_step (pr : Nat) (x : Int) : ∀ ms : List Int, kost pr ms (x + 1) + (ms.length : Nat) = kost pr ms x + ((pr + 1) * cLe ms x : Nat)
  | [] => rfl
  | m :: ms => by
    have ih := kost_step pr x ms
    unfold kost at ih ⊢
    rw [List.map_cons, List.map_cons, List.sum_cons, List.sum_cons, cLe_cons, List.length_cons, Nat.mul_add, Int.natCast_add, Int.natCast_add]
    generalize (((pr + 1) * cLe ms x : Nat) : Int) = c at *
    by_cases h : x < m
    · rw [if_pos h, if_neg (Int.not_le.mpr h), Nat.mul_zero]
      by_cases h2 : x + 1 < m
      · rw [if_pos h2]; omega
      · rw [if_neg h2, show x + 1 - m = 0 by omega, Int.mul_zero]; omega
    · rw [if_neg h, if_neg (by omega), if_pos (Int.not_lt.mp h), Nat.mul_one, show x + 1 - m = (x - m) + 1 by omega, Int.mul_add, Int.mul_one]
      generalize (pr : Int) * (x - m) = d
      omega
section
variable {pr : Nat} {ms : List Int} {x : Int}
theorem kost_up (h : ms.length ≤ (pr + 1) * cLe ms x) : ∀ k : Nat, kost pr ms x ≤ kost pr ms (x + k)
  | 0 => by rw [Int.natCast_zero, Int.add_zero]; exact Int.le_refl _
  | k + 1 => by
    have a := kost_up h k
    have b := kost_step pr (x + k) ms
    have c := Nat.le_trans h (Nat.mul_le_mul_left (pr + 1) (cLe_mono (show x ≤ x + k by omega) ms))
    rw [Int.natCast_add, Int.natCast_one, ← Int.add_assoc]
    omega
theorem kost_dn (h : (pr + 1) * cLt ms x ≤ ms.length) : ∀ k : Nat, kost pr ms x ≤ kost pr ms (x - k)
  | 0 => by rw [Int.natCast_zero, Int.sub_zero]; exact Int.le_refl _
  | k + 1 => by
    have a := kost_dn h k
    have b := kost_step pr (x - (k + 1)) ms
    rw [← Int.sub_add_cancel x 1, cLt_eq] at h
    have c := Nat.le_trans (Nat.mul_le_mul_left (pr + 1) (cLe_mono (show x - (k + 1) ≤ x - 1 by omega) ms)) h
    rw [show x - ((k : Int) + 1) + 1 = x - k by omega] at b
    rw [Int.natCast_add, Int.natCast_one]
    omega
theorem kost_up_lt (h : (pr + 1) * cLe ms x < ms.length) : ∀ k : Nat, (∀ m ∈ ms, m ≤ x ∨ x + (k + 1 : Nat) ≤ m) → kost pr ms (x + (k + 1 : Nat)) < kost pr ms x
  | 0, _ => by
    have b := kost_step pr x ms
    show kost pr ms (x + 1) < _
    omega
  | k + 1, hm => by
    have a := kost_up_lt h k fun m q => (hm m q).imp id fun z => by omega
    have b := kost_step pr (x + (k + 1 : Nat)) ms
    rw [cLe_same (x := x) (by omega) fun m q => (hm m q).imp id fun z => by omega] at b
    rw [show x + ((k + 1 + 1 : Nat) : Int) = x + (k + 1 : Nat) + 1 by omega]
    omega
theorem kost_dn_lt (h : ms.length < (pr + 1) * cLt ms x) : ∀ k : Nat, (∀ m ∈ ms, m ≤ x - (k + 1 : Nat) ∨ x ≤ m) → kost pr ms (x - (k + 1 : Nat)) < kost pr ms x
  | 0, _ => by
    have b := kost_step pr (x - 1) ms
    rw [← cLt_eq, Int.sub_add_cancel] at b
    show kost pr ms (x - 1) < _
    omega
  | k + 1, hm => by
    have a := kost_dn_lt h k fun m q => (hm m q).imp (fun z => by omega) id
    have b := kost_step pr (x - (k + 1 + 1 : Nat)) ms
    rw [← cLe_same (y := x - 1) (by omega) fun m q => (hm m q).imp id fun z => by omega, ← cLt_eq, Int.sub_add_cancel, show x - ((k + 1 + 1 : Nat) : Int) + 1 = x - (k + 1 : Nat) by omega] at b
    omega
/-- the least above, the greatest below -/
theorem next_up (x : Int) : ∀ ms : List Int, (∃ m ∈ ms, x < m) → ∃ y ∈ ms, x < y ∧ ∀ m ∈ ms, m ≤ x ∨ y ≤ m
  | [], ⟨_, h, _⟩ => nomatch h
  | a :: ms, ⟨m, hm, hx⟩ => by
    by_cases q : ∃ m ∈ ms, x < m
    · obtain ⟨y, hy, h1, h2⟩ := next_up x ms q
      by_cases ha : x < a ∧ a < y
      · exact ⟨a, .head _, ha.1, List.forall_mem_cons.mpr ⟨.inr (Int.le_refl _), fun m hm => (h2 m hm).imp id fun h => Int.le_of_lt (Int.lt_of_lt_of_le ha.2 h)⟩⟩
      · exact ⟨y, .tail _ hy, h1, List.forall_mem_cons.mpr ⟨by omega, h2⟩⟩
    · have ha : x < a := by
        rcases List.mem_cons.mp hm with rfl | hm
        · exact hx
        · exact absurd ⟨m, hm, hx⟩ q
      exact ⟨a, .head _, ha, List.forall_mem_cons.mpr ⟨.inr (Int.le_refl _), fun z hz => .inl (Int.not_lt.mp fun h => q ⟨z, hz, h⟩)⟩⟩
theorem next_dn (x : Int) : ∀ ms : List Int, (∃ m ∈ ms, m < x) → ∃ y ∈ ms, y < x ∧ ∀ m ∈ ms, m ≤ y ∨ x ≤ m
  | [], ⟨_, h, _⟩ => nomatch h
  | a :: ms, ⟨m, hm, hx⟩ => by
    by_cases q : ∃ m ∈ ms, m < x
    · obtain ⟨y, hy, h1, h2⟩ := next_dn x ms q
      by_cases ha : a < x ∧ y < a
      · exact ⟨a, .head _, ha.1, List.forall_mem_cons.mpr ⟨.inl (Int.le_refl _), fun m hm => (h2 m hm).imp (fun h => Int.le_of_lt (Int.lt_of_le_of_lt h ha.2)) id⟩⟩
      · exact ⟨y, .tail _ hy, h1, List.forall_mem_cons.mpr ⟨by omega, h2⟩⟩
    · have ha : a < x := by
        rcases List.mem_cons.mp hm with rfl | hm
        · exact hx
        · exact absurd ⟨m, hm, hx⟩ q
      exact ⟨a, .head _, ha, List.forall_mem_cons.mpr ⟨.inl (Int.le_refl _), fun z hz => .inr (Int.not_lt.mp fun h => q ⟨z, hz, h⟩)⟩⟩
theorem all_le (h : ∀ m ∈ ms, m ≤ x) : cLe ms x = ms.length := by
  unfold cLe; rw [List.filter_eq_self.mpr fun m hm => decide_eq_true (h m hm)]
theorem none_lt (h : ∀ m ∈ ms, x ≤ m) : cLt ms x = 0 := by
  unfold cLt; rw [List.filter_eq_nil_iff.mpr fun m hm => by rw [decide_eq_true_eq]; exact Int.not_lt.mpr (h m hm)]; rfl
/-- a margin costs least just where so many are below and so many not above -/
theorem least_iff : (∀ y ∈ ms, kost pr ms x ≤ kost pr ms y) ↔ ((pr + 1) * cLt ms x ≤ ms.length ∧ ms.length ≤ (pr + 1) * cLe ms x) := by
  constructor
  · intro h
    refine ⟨Nat.not_lt.mp fun q => ?_, Nat.not_lt.mp fun q => ?_⟩
    · have : ∃ m ∈ ms, m < x := by
        refine Classical.byContradiction fun z => ?_
        rw [none_lt fun m hm => Int.not_lt.mp fun w => z ⟨m, hm, w⟩] at q
        exact Nat.not_lt_zero _ q
      obtain ⟨y, hy, h1, h2⟩ := next_dn x ms this
      obtain ⟨k, hk⟩ : ∃ k : Nat, y = x - (k + 1 : Nat) := ⟨(x - y - 1).toNat, by omega⟩
      subst hk
      exact Int.not_lt.mpr (h _ hy) (kost_dn_lt q k h2)
    · have : ∃ m ∈ ms, x < m := by
        refine Classical.byContradiction fun z => ?_
        rw [all_le fun m hm => Int.not_lt.mp fun w => z ⟨m, hm, w⟩] at q
        exact absurd q (Nat.not_lt.mpr (Nat.le_mul_of_pos_left _ (Nat.succ_pos pr)))
      obtain ⟨y, hy, h1, h2⟩ := next_up x ms this
      obtain ⟨k, hk⟩ : ∃ k : Nat, y = x + (k + 1 : Nat) := ⟨(y - x - 1).toNat, by omega⟩
      subst hk
      exact Int.not_lt.mpr (h _ hy) (kost_up_lt q k h2)
  · rintro ⟨h1, h2⟩ y _
    rcases Int.le_total x y with h | h
    · have := kost_up h2 (y - x).toNat
      rwa [show x + ((y - x).toNat : Int) = y by omega] at this
    · have := kost_dn h1 (x - y).toNat
      rwa [show x - ((x - y).toNat : Int) = y by omega] at this
/-- in a list in order, what stands at a place -/
theorem at_ge : ∀ {P : List Int} {j : Nat}, P.Pairwise (fun a b => a ≤ b) → j < P.length → (x ≤ P.getD j 0 ↔ (P.filter (· < x)).length ≤ j)
  | [], _, _, h => absurd h (Nat.not_lt_zero _)
  | a :: r, j, ho, h => by
    have ho' := List.pairwise_cons.mp ho
    by_cases ha : a < x
    · rw [List.filter_cons_of_pos (p := fun m => decide (m < x)) (decide_eq_true ha), List.length_cons]
      cases j with
      | zero => exact ⟨fun z => absurd ha (Int.not_lt.mpr z), fun z => absurd z (Nat.not_succ_le_zero _)⟩
      | succ j =>
        have := at_ge ho'.2 (Nat.lt_of_succ_lt_succ h)
        rw [List.getD_cons_succ, this, Nat.succ_le_succ_iff]
    · have : (r.filter (· < x)) = [] := List.filter_eq_nil_iff.mpr fun m hm => by
        rw [decide_eq_true_eq]; exact fun z => ha (Int.lt_of_le_of_lt (ho'.1 m hm) z)
      rw [List.filter_cons_of_neg (by rw [decide_eq_true_eq]; exact ha), this]
      refine ⟨fun _ => Nat.zero_le _, fun _ => ?_⟩
      cases j with
      | zero => exact Int.not_lt.mp ha
      | succ j =>
        have hj := Nat.lt_of_succ_lt_succ h
        rw [List.getD_cons_succ, List.getD, List.getElem?_eq_getElem hj]
        exact Int.le_trans (Int.not_lt.mp ha) (ho'.1 r[j] (List.getElem_mem hj))
theorem at_le {P : List Int} {j : Nat} (ho : P.Pairwise (fun a b => a ≤ b)) (h : j < P.length) : P.getD j 0 ≤ x ↔ j < (P.filter (· ≤ x)).length := by
  have := at_ge (x := x + 1) ho h
  rw [List.filter_congr (q := fun m => decide (m ≤ x)) fun m _ => decide_eq_decide.mpr Int.lt_add_one_iff] at this
  rw [← Nat.not_le, ← this, Int.add_one_le_iff, Int.not_lt]
end
section
variable {n z pr : Nat} {ms P : List Int} {x : Int}
theorem pad_lt (hP : P.Perm (List.replicate z 0 ++ ms)) (h0 : ∀ m ∈ ms, 0 ≤ m) : (P.filter (· < x)).length = if 0 < x then z + cLt ms x else 0 := by
  rw [(hP.filter _).length_eq, List.filter_append, List.length_append]
  split
  · rename_i h
    rw [List.filter_eq_self.mpr fun m hm => by rw [List.eq_of_mem_replicate hm]; exact decide_eq_true h, List.length_replicate]; rfl
  · rename_i h
    rw [List.filter_eq_nil_iff.mpr fun m hm => by rw [List.eq_of_mem_replicate hm, decide_eq_true_eq]; exact h, List.filter_eq_nil_iff.mpr fun m hm => by rw [decide_eq_true_eq]; exact fun w => h (Int.lt_of_le_of_lt (h0 m hm) w)]
    rfl
theorem pad_le (hP : P.Perm (List.replicate z 0 ++ ms)) (hx : 0 ≤ x) : (P.filter (· ≤ x)).length = z + cLe ms x := by
  rw [(hP.filter _).length_eq, List.filter_append, List.length_append, List.filter_eq_self.mpr fun m hm => by rw [List.eq_of_mem_replicate hm]; exact decide_eq_true hx, List.length_replicate]; rfl
theorem third (hp : 1 ≤ pr) (h1 : 1 ≤ n) : n / (pr + 1) * 2 ≤ n ∧ n / (pr + 1) < n :=
  ⟨Nat.le_trans (Nat.mul_le_mul_left _ (Nat.succ_le_succ hp)) (Nat.div_mul_le_self n _), Nat.div_lt_self h1 (Nat.succ_lt_succ hp)⟩
/-- what median_high of the filled list says -/
theorem high_iff (hp : 1 ≤ pr) (hn : ms.length = n) (h1 : 1 ≤ n) (h0 : ∀ m ∈ ms, 0 ≤ m) (hP : P.Perm (List.replicate (n - 2 * (n / (pr + 1))) 0 ++ ms)) (ho : P.Pairwise fun a b => a ≤ b) :
    x ≤ P.getD (n - n / (pr + 1)) 0 ↔ (pr + 1) * cLt ms x ≤ ms.length := by
  have hl : P.length = n - 2 * (n / (pr + 1)) + n := by rw [hP.length_eq, List.length_append, List.length_replicate, hn]
  have hs := third hp h1
  rw [at_ge ho (by omega), pad_lt hP h0, hn, Nat.mul_comm (pr + 1) (cLt ms x), ← Nat.le_div_iff_mul_le (show 0 < pr + 1 from Nat.succ_pos pr)]
  split
  · omega
  · rename_i h
    rw [none_lt fun m hm => Int.le_trans (Int.not_lt.mp h) (h0 m hm)]
    exact ⟨fun _ => Nat.zero_le _, fun _ => Nat.zero_le _⟩
theorem low_at (hp : 1 ≤ pr) (hn : ms.length = n) (h1 : 1 ≤ n) (hx : 0 ≤ x) (hP : P.Perm (List.replicate (n - 2 * (n / (pr + 1))) 0 ++ ms)) (ho : P.Pairwise fun a b => a ≤ b) {d : Nat} (hd : d ≤ 1) :
    P.getD (n - n / (pr + 1) - d) 0 ≤ x ↔ n / (pr + 1) < cLe ms x + d := by
  have hl : P.length = n - 2 * (n / (pr + 1)) + n := by rw [hP.length_eq, List.length_append, List.length_replicate, hn]
  have hs := third hp h1
  rw [at_le ho (by omega), pad_le hP hx]
  omega
theorem low_iff (hp : 1 ≤ pr) (hn : ms.length = n) (h1 : 1 ≤ n) (hx : 0 ≤ x) (hP : P.Perm (List.replicate (n - 2 * (n / (pr + 1))) 0 ++ ms)) (ho : P.Pairwise fun a b => a ≤ b) (hd : n % (pr + 1) = 0) :
    P.getD (n - n / (pr + 1) - 1) 0 ≤ x ↔ ms.length ≤ (pr + 1) * cLe ms x := by
  rw [low_at hp hn h1 hx hP ho (Nat.le_refl 1), hn, Nat.lt_succ_iff]
  have e := Nat.div_add_mod n (pr + 1)
  rw [hd, Nat.add_zero] at e
  conv => rhs; lhs; rw [← e]
  exact (Nat.mul_le_mul_left_iff (Nat.succ_pos pr)).symm
theorem low2_iff (hp : 1 ≤ pr) (hn : ms.length = n) (h1 : 1 ≤ n) (hx : 0 ≤ x) (hP : P.Perm (List.replicate (n - 2 * (n / (pr + 1))) 0 ++ ms)) (ho : P.Pairwise fun a b => a ≤ b) (hd : n % (pr + 1) ≠ 0) :
    P.getD (n - n / (pr + 1)) 0 ≤ x ↔ ms.length ≤ (pr + 1) * cLe ms x := by
  have := low_at hp hn h1 hx hP ho (Nat.zero_le 1)
  rw [Nat.sub_zero, Nat.add_zero] at this
  rw [this, hn, Nat.div_lt_iff_lt_mul (Nat.succ_pos pr), Nat.mul_comm]
  refine ⟨Nat.le_of_lt, fun h => Nat.lt_of_le_of_ne h fun q => hd ?_⟩
  rw [q, Nat.mul_mod_right]
end
end

section
open PySem PySem.W PyProof.Rows PySem.Calls PySem.Spec PySem.SeqAt
theorem rkF_nan : ∀ i k : Fin 9, Float64.isNaN (rkF i k) = false := by decide +kernel
section
variable {prog : Program} {w : World} {A : Around} {E : Value → Shared → Prop} {s : Shared}
theorem eqAt_fl {A : Around} {s : Shared} {i k : Nat} {t u : Tok} (hi : i < 9) (hk : k < 9) (ht : t ≠ 0) (hu : u ≠ 0) (hb : NoneBooked s.heap) : EqAt A s (.float (rkF i k) t) (.float (rkF i k) u) true := fun prog w E Q h => by
  have h0 : (t == 0 || u == 0) = false := by simp [ht, hu]
  unfold eqBool
  refine wpAny_holding ?_
  refine wpAny_ite_split (fun _ => wpAny_bind (wpAny_rule (wpAny_pure h))) (fun _ => ?_)
  refine wpAny_bind ?_
  show wpAny _ _ (isSame.created (rkF i k == rkF i k && !Float64.isNaN (rkF i k)) t u) _ _ _
  have hn : Float64.isNaN (rkF i k) = false := rkF_nan ⟨i, hi⟩ ⟨k, hk⟩
  rw [hn]
  simp only [beq_self_eq_true, Bool.not_false, Bool.and_true]
  have goes : ∀ b : Bool, wpAny (model prog w) A (if b = true then pure true else (fun __r => do
              let __do_lift ← richCompare CmpOp.Eq (Value.float (rkF i k) t) (Value.float (rkF i k) u)
              truthOfDropped __do_lift) ()) Q E s := by
    intro b
    cases b with
    | true => exact wpAny_pure h
    | false =>
      rw [if_neg Bool.false_ne_true]
      dsimp only
      refine wpAny_bind (AutoFloatOps.eq_0 (a := rkF i k) (b := rkF i k) (t := t) (u := u) ?_)
      rw [rkF_eq ⟨i, hi⟩ ⟨k, hk⟩]
      exact wpAny_truthy_bool h
  unfold isSame.created
  rw [if_neg (by rw [h0]; exact Bool.false_ne_true)]
  refine wpAny_ite ?_
  split
  · exact wpAny_pure (goes _)
  simp only [Bool.not_true, Bool.false_eq_true, if_false]
  refine wpAny_bind (wpAny_sharingNotTold_none hb ?_)
  simp only [Bool.false_eq_true, if_false]
  refine wpAny_bind (wpAny_sharingNotTold_none hb ?_)
  simp only [Bool.false_eq_true, if_false]
  exact wpAny_bind (wpAny_rule (wpAny_bind (wpAny_askSetting (wpAny_pure (goes _)))))
/-- two lists of the same ranks -/
theorem ne_fls {a b : Addr} {xs ys : Array Value} {f : Nat → Nat × Nat} {n : Nat} {Q : Value → Shared → Prop} (ha : s.heap.IsList a xs) (hb : s.heap.IsList b ys) (hx : Fls f n xs) (hy : Fls f n ys) (hf : ∀ k, k < n → (f k).1 < 9 ∧ (f k).2 < 9) (hu : A.units < cLine) (hnb : NoneBooked s.heap)
    (h : Q (.bool false) s) : wpAny (model prog w) A (compareOp .NotEq (.ref a) (.ref b)) Q E s := by
  have := RcNeAt.lists (A := A) (e := fun _ => true) ha hb (by rw [hx.1, hy.1]) hu (fun j h1 h2 => by
    have hj : j < n := by rw [← hx.1]; exact h1
    obtain ⟨t, ht, e1⟩ := hx.2 j hj
    obtain ⟨u, hu', e2⟩ := hy.2 j hj
    rw [Array.getElem?_eq_getElem h1] at e1
    rw [Array.getElem?_eq_getElem h2] at e2
    rw [Option.some.inj e1, Option.some.inj e2]
    exact eqAt_fl (hf j hj).1 (hf j hj).2 ht hu' hnb) prog w E Q
  refine this ?_
  rw [show (!(List.range xs.size).all fun _ => true) = false from by simp]
  exact h
end
/-- before a in the order b -/
def bef (b : Bool) (a x : Int) : Bool := if b = true then decide (a < x) else decide (x < a)
theorem tw_bef {b : Bool} {a : Int} : ∀ {l : List El}, KOdr b l → (∃ e ∈ l, e.key = a) → (l.takeWhile fun f => f.key != a).length = ((l.map fun f => f.key).filter (bef b a)).length
  | [], _, ⟨_, h, _⟩ => nomatch h
  | f :: r, ho, ⟨e, he, hea⟩ => by
    have ho' := List.pairwise_cons.mp ho
    by_cases hf : f.key = a
    · rw [List.takeWhile_cons_of_neg (by simpa using hf)]
      symm
      rw [List.length_nil, List.length_eq_zero_iff, List.filter_eq_nil_iff]
      intro x hx
      obtain ⟨g, hg, rfl⟩ := List.mem_map.mp hx
      rcases List.mem_cons.mp hg with rfl | hg
      · unfold bef; split <;> simp [hf]
      · have := ho'.1 g hg
        unfold bef
        cases b
        · simp only [Bool.false_eq_true, if_false] at this ⊢; rw [hf] at this; simp; omega
        · simp only [if_true] at this ⊢; rw [hf] at this; simp; omega
    · have he' : e ∈ r := by
        rcases List.mem_cons.mp he with rfl | he
        · exact absurd hea hf
        · exact he
      have hb : bef b a f.key = true := by
        have := ho'.1 e he'
        unfold bef
        cases b
        · simp only [Bool.false_eq_true, if_false] at this ⊢; rw [hea] at this; simp; omega
        · simp only [if_true] at this ⊢; rw [hea] at this; simp; omega
      rw [List.takeWhile_cons_of_pos (by simpa using hf), List.map_cons, List.filter_cons_of_pos hb, List.length_cons, List.length_cons, tw_bef ho'.2 ⟨e, he', hea⟩]
/-- what _rank gives back -/
theorem rank_fls {b : Bool} {its : List (Int × Tok)} {els els' : List El} {res : Array Value} (hm : Mad its els) (hl : els.length = its.length) (hp : els'.Perm els) (ho : Odr b els') (hz : its.length ≤ 8) (hr : ResOk els' [] res) :
    Fls (fun k => ((((its.map (·.1)).filter (bef b ((its.map (·.1)).getD k 0))).length), cEq (its.map (·.1)) ((its.map (·.1)).getD k 0))) its.length res := by
  have hk : els.map (fun e => e.key) = its.map (·.1) := by
    have := congrArg (List.map (fun p : Int × Tok => p.1)) hm.key
    rw [List.map_map, hl, List.take_length] at this
    exact this
  refine ⟨by rw [hr.1, hp.length_eq, hl], fun k hkl => ?_⟩
  have hk' : k < els.length := by omega
  obtain ⟨e, he⟩ : ∃ e, els[k]? = some e := ⟨els[k], List.getElem?_eq_getElem hk'⟩
  obtain ⟨t, ht⟩ := hm.pos k e he
  have hmem : e ∈ els' := hp.mem_iff.mpr (List.mem_of_getElem? he)
  obtain ⟨u, hu0, hu⟩ := hr.2.1 e hmem (fun q => nomatch q)
  have hpos : ∀ f ∈ els', 0 ≤ posOf f.pos ∧ posOf f.pos < 64 := fun f hf => by
    obtain ⟨q, hq⟩ := List.getElem?_of_mem (hp.mem_iff.mp hf)
    obtain ⟨t', ht'⟩ := hm.pos q f hq
    have hlt := (List.getElem?_eq_some_iff.mp hq).1
    rw [ht']
    exact ⟨Int.natCast_nonneg _, Int.ofNat_lt.mpr (show q < 64 by omega)⟩
  have hkey : e.key = (its.map (·.1)).getD k 0 := by
    rw [← hk]
    simp [List.getD, he]
  have e1 : (posOf e.pos).toNat = k := by rw [ht]; rfl
  rw [e1, tw_bef (ho.keys hpos) ⟨e, hmem, rfl⟩, ((hp.map _).filter _).length_eq, hk, hkey] at hu
  have e2 : (els'.filter fun f => f.key == (its.map (·.1)).getD k 0).length = cEq (its.map (·.1)) ((its.map (·.1)).getD k 0) := by
    rw [(hp.filter _).length_eq]
    unfold cEq
    generalize (its.map (·.1)).getD k 0 = a
    rw [← hk, List.filter_map, List.length_map]
    rfl
  rw [e2] at hu
  exact ⟨u, hu0, hu⟩
theorem nobook {p : Program} {loose : List Str} {mean : ExcName → Option Value} {mg mb : Str → Option Value} {w : World} {h : Heap} (X : (KF w.params).In h) (T : Top p loose mean mg mb h) : NoneBooked h := by
  obtain ⟨mc, h1, _⟩ := T.nolimit
  exact ⟨mc, h1, ns_none_of X h1 (by k_is)⟩
theorem bef_lt {ms : List Int} {x : Int} : (ms.filter (bef false x)).length = cLt ms x := rfl
theorem bef_gt {ms : List Int} {x : Int} : (ms.filter (bef true x)).length = cGt ms x := rfl
end

section
open PySem PySem.W PyProof.Rows PySem.Calls PySem.Spec
local macro_rules
  | `(tactic| walk_at "subscriptTail") => `(tactic| (k_here; (with_reducible show wpAny _ _ (subscriptTail _ _ (Value.ref _) (Value.int _ _)) _ _ _); refine Lv.in ?_))
  | `(tactic| walk_at "call builtin:len") => `(tactic| (rename Halt "len" => hlen; k_here; (with_reducible show wpAny _ _ (call (Value.builtin "len") [Value.ref _]) _ _ _); refine Lv.in ?_))
theorem ints_rep (t : Tok) : ∀ k : Nat, IntsAre (List.replicate k (Value.int 0 t)) (List.replicate k 0)
  | 0 => .nil
  | k + 1 => .cons 0 t (ints_rep t k)
/-- a list compared with its like -/
theorem eq_like {prog : Program} {w : World} {A : Around} {E : Value → Shared → Prop} {s : Shared} {a b : Addr} {xs : Array Value} {Q : Value → Shared → Prop} (ha : s.heap.IsList a xs) (hb : s.heap.IsList b xs) (hu : A.units < cLine)
    (h : Q (.bool true) s) : wpAny (model prog w) A (compareOp .Eq (.ref a) (.ref b)) Q E s := by
  have := PySem.SeqAt.RcAt.lists (A := A) (s := s) (e := fun _ => true) ha hb rfl hu (fun j h1 h2 => PySem.SeqAt.EqAt.same _) prog w E Q
  refine this ?_
  rw [show ((List.range xs.size).all fun _ => true) = true from by simp]
  exact h
namespace whole
theorem tw10000958634945066235 : True := trivial
theorem tw10007520593648235073 : True := trivial
theorem tw10025635815308576066 : True := trivial
theorem tw10118140284582671090 : True := trivial
theorem tw10178181129370835086 : True := trivial
theorem tw1021466310418864216 : True := trivial
theorem tw10332575325313852403 : True := trivial
theorem tw10335108021726791369 : True := trivial
theorem tw10339747121181971505 : True := trivial
theorem tw10354518954362131899 : True := trivial
theorem tw10379991877525085312 : True := trivial
theorem tw10438997657263567297 : True := trivial
theorem tw10467399731503315703 : True := trivial
theorem tw10472183733418339316 : True := trivial
theorem tw10488504414272976643 : True := trivial
theorem tw10499325594661192776 : True := trivial
theorem tw10590843552420965350 : True := trivial
theorem tw1072497446573119103 : True := trivial
theorem tw10887019763833697050 : True := trivial
theorem tw10996520273870463115 : True := trivial
theorem tw11018331769982298155 : True := trivial
theorem tw113900542113845248 : True := trivial
theorem tw11423436602419212718 : True := trivial
theorem tw11678933692714762019 : True := trivial
theorem tw11690859581915506653 : True := trivial
theorem tw1172384435287097005 : True := trivial
theorem tw11792362355297244138 : True := trivial
theorem tw11815051133581886887 : True := trivial
theorem tw1182916100746360932 : True := trivial
theorem tw11836910150536664915 : True := trivial
theorem tw11876454138822706389 : True := trivial
theorem tw12077107353733055826 : True := trivial
theorem tw12098860561503762481 : True := trivial
theorem tw12117460353608821864 : True := trivial
theorem tw12384220206497402333 : True := trivial
theorem tw1256279898242784606 : True := trivial
theorem tw12562849145585476731 : True := trivial
theorem tw1266484639899004939 : True := trivial
theorem tw12808456870637180559 : True := trivial
theorem tw12850242359631670003 : True := trivial
theorem tw12852820008105578649 : True := trivial
theorem tw12920395458479335663 : True := trivial
theorem tw12928932934922122878 : True := trivial
theorem tw13000713063990318526 : True := trivial
theorem tw13142167418276237254 : True := trivial
theorem tw13155097880312403346 : True := trivial
theorem tw13213058742666125385 : True := trivial
theorem tw13285438998962464343 : True := trivial
theorem tw13419941099686552950 : True := trivial
theorem tw13463558215457259582 : True := trivial
theorem tw13478315594510353802 : True := trivial
theorem tw1363506702145506021 : True := trivial
theorem tw13675596732203519343 : True := trivial
theorem tw13730376311393935369 : True := trivial
theorem tw13749801708979339770 : True := trivial
theorem tw13760198194640045919 : True := trivial
theorem tw137721658169608169 : True := trivial
theorem tw1393339623888494026 : True := trivial
theorem tw13962616709173656972 : True := trivial
theorem tw14031613983174702221 : True := trivial
theorem tw14138553856905868755 : True := trivial
theorem tw14192229110069238088 : True := trivial
theorem tw14239292526413980002 : True := trivial
theorem tw14381574177426341226 : True := trivial
theorem tw14492196311604417308 : True := trivial
theorem tw14621228733418778453 : True := trivial
theorem tw14639691718075979200 : True := trivial
theorem tw14654356449610600485 : True := trivial
theorem tw1469139166737108290 : True := trivial
theorem tw14756447051001558117 : True := trivial
theorem tw14776171463994254414 : True := trivial
theorem tw14857529406646634625 : True := trivial
theorem tw14875044017630859624 : True := trivial
theorem tw14877643965249282964 : True := trivial
theorem tw1488662743745869538 : True := trivial
theorem tw14890280090424698046 : True := trivial
theorem tw14916202748087371944 : True := trivial
theorem tw15089273742334493110 : True := trivial
theorem tw15206955865107345967 : True := trivial
theorem tw15236457661806194377 : True := trivial
theorem tw15274856360797078626 : True := trivial
theorem tw15564212434770411261 : True := trivial
theorem tw15652777202477211125 : True := trivial
theorem tw15695161780090201225 : True := trivial
theorem tw15835130817642446534 : True := trivial
theorem tw1587768003098754325 : True := trivial
theorem tw16026843855606243410 : True := trivial
theorem tw16062187612904122858 : True := trivial
theorem tw16069474710517446500 : True := trivial
theorem tw16151222146762293071 : True := trivial
theorem tw16304597587823193687 : True := trivial
theorem tw16316554137538487329 : True := trivial
theorem tw1633898876240874773 : True := trivial
theorem tw1640677438868554593 : True := trivial
theorem tw16505068655815891843 : True := trivial
theorem tw16529046165737248422 : True := trivial
theorem tw16576061068926947915 : True := trivial
theorem tw16616245412964173377 : True := trivial
theorem tw16668768811381343612 : True := trivial
theorem tw16731332320388202666 : True := trivial
theorem tw16738726308800667447 : True := trivial
theorem tw16741440440132755172 : True := trivial
theorem tw16845944245580146995 : True := trivial
theorem tw16896051817165393055 : True := trivial
theorem tw1699034841665187622 : True := trivial
theorem tw17075553230084287909 : True := trivial
theorem tw17092094596097150618 : True := trivial
theorem tw17169624498616045403 : True := trivial
theorem tw17195952149560314771 : True := trivial
theorem tw17221409760620009834 : True := trivial
theorem tw17395194986337826024 : True := trivial
theorem tw17463027529269885953 : True := trivial
theorem tw17475311184863085016 : True := trivial
theorem tw17529894129228449367 : True := trivial
theorem tw1765076044715932963 : True := trivial
theorem tw17781206938751360472 : True := trivial
theorem tw17843127513448600897 : True := trivial
theorem tw17870853324313594786 : True := trivial
theorem tw17881794589497109145 : True := trivial
theorem tw18060336119277286115 : True := trivial
theorem tw18145388855558949900 : True := trivial
theorem tw18162983195158539490 : True := trivial
theorem tw18174217711786252908 : True := trivial
theorem tw18315055452531851272 : True := trivial
theorem tw1859146779660683823 : True := trivial
theorem tw1902754551582867561 : True := trivial
theorem tw1934810232205804993 : True := trivial
theorem tw2013318861076662011 : True := trivial
theorem tw203428145850139289 : True := trivial
theorem tw2081632904089052959 : True := trivial
theorem tw2083198920140632441 : True := trivial
theorem tw2168223474955763204 : True := trivial
theorem tw2290268214366725154 : True := trivial
theorem tw2439357469168130064 : True := trivial
theorem tw254780913952180833 : True := trivial
theorem tw2649048575011448004 : True := trivial
theorem tw2665807779830099079 : True := trivial
theorem tw285988719286631819 : True := trivial
theorem tw2912573282932879776 : True := trivial
theorem tw2913027948615884809 : True := trivial
theorem tw2959683903145980101 : True := trivial
theorem tw3085902745639715626 : True := trivial
theorem tw3127163415804763599 : True := trivial
theorem tw3141554390599180669 : True := trivial
theorem tw3166543957339863982 : True := trivial
theorem tw3479739002732855021 : True := trivial
theorem tw3687826684616867901 : True := trivial
theorem tw369943808078234791 : True := trivial
theorem tw3798757254938238448 : True := trivial
theorem tw3802398583823018356 : True := trivial
theorem tw381110514646162275 : True := trivial
theorem tw3860174431591174066 : True := trivial
theorem tw3869719713472690019 : True := trivial
theorem tw3935972832432928633 : True := trivial
theorem tw3945383572190744343 : True := trivial
theorem tw3974948083405253150 : True := trivial
theorem tw4107823604484434990 : True := trivial
theorem tw4162360135600614074 : True := trivial
theorem tw4163455835068889971 : True := trivial
theorem tw4180466227808675834 : True := trivial
theorem tw4234479992401935053 : True := trivial
theorem tw427333557424167660 : True := trivial
theorem tw4337987958061720545 : True := trivial
theorem tw4357746044423742650 : True := trivial
theorem tw43722865635132848 : True := trivial
theorem tw4447922135398794285 : True := trivial
theorem tw4479364801722962140 : True := trivial
theorem tw4487652198498899664 : True := trivial
theorem tw4603890583814415204 : True := trivial
theorem tw46433443316919834 : True := trivial
theorem tw4672207989499910625 : True := trivial
theorem tw4689585835679557668 : True := trivial
theorem tw4772658413541480157 : True := trivial
theorem tw4909349585908861296 : True := trivial
theorem tw4918820536221260690 : True := trivial
theorem tw4971376252858868170 : True := trivial
theorem tw5001923725869043736 : True := trivial
theorem tw5081031077709457048 : True := trivial
theorem tw5189780602208921310 : True := trivial
theorem tw5233578499609466721 : True := trivial
theorem tw5277582801102665213 : True := trivial
theorem tw5360207378560713126 : True := trivial
theorem tw5405151241437436114 : True := trivial
theorem tw5408107943391738 : True := trivial
theorem tw5433660331597885046 : True := trivial
theorem tw5438831827131416888 : True := trivial
theorem tw5477020428343274486 : True := trivial
theorem tw5542149417468696053 : True := trivial
theorem tw5833760311655045577 : True := trivial
theorem tw5879479702872096659 : True := trivial
theorem tw5938623499991607928 : True := trivial
theorem tw5942346508108547180 : True := trivial
theorem tw6065093676875020208 : True := trivial
theorem tw6095937858554715304 : True := trivial
theorem tw6097748072631727781 : True := trivial
theorem tw6150244297128479101 : True := trivial
theorem tw6266228650988000492 : True := trivial
theorem tw6356627984389668255 : True := trivial
theorem tw6377287985247879410 : True := trivial
theorem tw6396017553259284124 : True := trivial
theorem tw6416634858453334624 : True := trivial
theorem tw6453619897266653623 : True := trivial
theorem tw6472696656209681604 : True := trivial
theorem tw6496092161831514541 : True := trivial
theorem tw6525215580464160042 : True := trivial
theorem tw6531100040246800141 : True := trivial
theorem tw6612613915786651340 : True := trivial
theorem tw6711224856247384401 : True := trivial
theorem tw6774775609766916077 : True := trivial
theorem tw6866068747796929802 : True := trivial
theorem tw6872907005359335961 : True := trivial
theorem tw6888942637506950926 : True := trivial
theorem tw6891315699540082446 : True := trivial
theorem tw6933715213461094250 : True := trivial
theorem tw7056001396292377188 : True := trivial
theorem tw7078629122812257199 : True := trivial
theorem tw7101197657001211085 : True := trivial
theorem tw715978364194892080 : True := trivial
theorem tw7185185305316088854 : True := trivial
theorem tw7187317218736086229 : True := trivial
theorem tw7276013540153241084 : True := trivial
theorem tw7466904020207815869 : True := trivial
theorem tw7499365098147365621 : True := trivial
theorem tw7509650053966640704 : True := trivial
theorem tw7525632177321363660 : True := trivial
theorem tw7564407027854533171 : True := trivial
theorem tw7576292583959916747 : True := trivial
theorem tw7588574119468234827 : True := trivial
theorem tw7689902935678670512 : True := trivial
theorem tw7856580471358416282 : True := trivial
theorem tw7868544009499267292 : True := trivial
theorem tw7977878525754885090 : True := trivial
theorem tw8109663874093803249 : True := trivial
theorem tw8181180424491326830 : True := trivial
theorem tw8184708281838074206 : True := trivial
theorem tw8289003193492261950 : True := trivial
theorem tw8309436690622926411 : True := trivial
theorem tw8341004590406740810 : True := trivial
theorem tw8398797258006769423 : True := trivial
theorem tw842793390314483620 : True := trivial
theorem tw8444963059077079450 : True := trivial
theorem tw8602141644225615130 : True := trivial
theorem tw8615399842404961663 : True := trivial
theorem tw8719548228035378133 : True := trivial
theorem tw8799044985600393684 : True := trivial
theorem tw8868806382682364411 : True := trivial
theorem tw8884531897199943920 : True := trivial
theorem tw8894826161267586577 : True := trivial
theorem tw8965655394073491531 : True := trivial
theorem tw8983667203327932493 : True := trivial
theorem tw9024608533772062355 : True := trivial
theorem tw9046693723037758376 : True := trivial
theorem tw9081442686682602634 : True := trivial
theorem tw9121730484126507938 : True := trivial
theorem tw9212966250080664162 : True := trivial
theorem tw9235561108164731721 : True := trivial
theorem tw9295483029082125769 : True := trivial
theorem tw9315315907157715723 : True := trivial
theorem tw9347626172496877827 : True := trivial
theorem tw9406530864695525851 : True := trivial
theorem tw9464417701048127947 : True := trivial
theorem tw9501391760213346845 : True := trivial
theorem tw9521756469634577901 : True := trivial
theorem tw9707250908836423824 : True := trivial
theorem tw9722750020625992282 : True := trivial
theorem tw9733464779038806419 : True := trivial
theorem tw9775085227918541326 : True := trivial
theorem tw978456291528864041 : True := trivial
theorem tw9787344453429475573 : True := trivial
theorem tw9838295914634562783 : True := trivial
theorem tw9862627608791061423 : True := trivial
theorem tw9951143050096045611 : True := trivial
end whole
set_option Elab.async true
set_option maxHeartbeats 16000000 in
theorem whole : PySem.Challenge.rw_kl0504_01.Holds := by
  w_on; o_law; o_head (kHook KF [2, 3, 15, 17, 18, 20, 21, 22, 24, 25, 27, 28, 29, 36, 37, 38, 39, 42, 44, 45, 47, 48, 49, 51, 52, 54, 55, 56, 58, 59, 61, 62, 70, 71, 72, 74, 75, 77, 78, 79, 81, 82, 84, 85, 86, 88, 89, 91, 92, 93, 95, 96, 98, 99, 100, 102, 103, 104, 105, 106, 107, 108, 109, 110, 111, 112, 113, 123, 124, 126, 127, 129, 130, 131, 133, 134, 136, 137, 138, 140, 141, 143, 144, 145, 147, 148, 149, 150, 151, 154, 156, 157, 159, 160, 168, 169, 170, 172, 173, 175, 176, 177, 179, 180, 182, 183, 184, 186, 187, 189, 190, 191, 193, 194, 196, 197, 198, 200, 201, 202, 203, 204, 214, 215, 217, 218, 220, 221, 222, 224, 225, 227, 228, 229, 231, 232, 234, 235, 236, 238, 239, 241, 242, 243, 245, 246, 247, 250, 251, 253, 254, 256, 257, 258, 260, 261, 263, 264, 265, 267, 268, 270, 271, 272, 274, 275, 277, 278, 279, 281, 282, 284, 285, 286, 289, 290] (fun _ => by kernel_rfl))
  (case hw => w_witness2)
  have halt7 : Halt "exec For" := .mk _
  have halt8 : Halt "exec For Name Call cons nil" := .mk _
  have halt9 : Halt "call builtin:str.join" := .mk _
  have halt10 : Halt "compareOp NotEq ref" := .mk _
  have halt11 : Halt "compareOp NotEq ref ref" := .mk _
  have halt12 : Halt "compareOp Eq ref ref" := .mk _
  have halt13 : Halt "binaryOp Div int int" := .mk _
  have halt14 : Halt "binaryOp Add int float" := .mk _
  have halt15 : Halt "binaryOp Add ref ref" := .mk _
  have halt16 : Halt "binaryOp Mult ref int" := .mk _
  have halt17 : Halt "call builtin:list.append" := .mk _
  have halt18 : Halt "call builtin:min" := .mk _
  k_go0
  all_goals try k_fold
  rename Shared => s₁
  k_steps
  try unfold Lv
  rename Fr _ _ _ _ => F₁
  rename News _ _ _ _ => N₁
  rename Top _ _ _ _ _ _ => TB
  rename Below _ _ _ _ => B₁
  rename IntsAre _ _ => hI
  rename Heap.IsList _ _ _ => hL
  rename Frag.In _ _ => XB
  have hsz := hI.length
  replace B₁ := below_as F₁ B₁
  refine lm_c B₁ F₁ XB TB (by rfl) (by rfl) (fun p hp => nomatch hp) hL hI (by rw [List.size_toArray]; omega) (by decide) (by decide) ?_
  rw [List.size_toArray, hsz]
  intro R c its h₂ k₂ hC P₂
  obtain ⟨F₂, N₂, a₂⟩ := behindL B₁ F₁ N₁ rfl P₂ (fun p hp => nomatch hp) rfl (fun p hp => ⟨hp, trivial⟩)
  simp only [List.cons_append, List.nil_append, List.append_nil] at N₂
  obtain ⟨r1, r2, r3, r4, r5, r6, _⟩ := a₂ _ (.head _)
  clear P₂ F₁ N₁ a₂
  obtain ⟨n, hn⟩ : ∃ n, n = its.length := ⟨_, rfl⟩
  have hn4 : 4 ≤ n ∧ n ≤ 7 := by rw [hn, hC.len]; omega
  have hvs : (vs0 its).size = n := by simp [hn]
  k_steps
  rename_i _ oM dM _ _ _ _ _ oP dP _ _ _ Co _ lC _ oC dC _ Be _ lB _ Ab _ lA _ F₃ N₃
  obtain ⟨pr, tP, hP, hpr⟩ := price_of dP
  clear dP
  obtain ⟨tn, a, F₄⟩ : ∃ tn a, Fr _ _ _ (fun y => if y = Str.ofString "above" then some (.ref Ab) else if y = Str.ofString "below" then some (.ref Be) else if y = Str.ofString "n" then some (.int (n : Nat) tn) else if y = Str.ofString "script" then some (.ref a) else none) := ⟨_, _, F₃⟩
  obtain ⟨oL, oH, oK, vL, vH, vK, dL, dH, dK, N₄⟩ : ∃ oL oH oK vL vH vK, oL.data = .cell vL ∧ oH.data = .cell vH ∧ oK.data = .cell vK ∧ News _ _ _ [(Ab, _), (Be, _), (Co, _), (R, _), (_, oL), (_, oH), (_, oK), (_, oC), (_, oP), (_, oM)] := ⟨_, _, _, _, _, _, by assumption, by assumption, by assumption, N₃⟩
  clear F₃ N₃
  try unfold Lv
  refine for_rangeG (g := s₁.heap) (L := s₁.heap.objs.size) n (fun i M nw tk => ∃ j1 j2 j3 j4 j5 j6 cs be ab cc cb ca ok vk, M = (fun y => if y = Str.ofString "bare" then j1 else if y = Str.ofString "sizes" then j2 else if y = Str.ofString "told" then j3 else if y = Str.ofString "due" then j4 else if y = Str.ofString "text" then j5 else if y = Str.ofString "order" then j6 else if y = Str.ofString "above" then some (.ref Ab) else if y = Str.ofString "below" then some (.ref Be) else if y = Str.ofString "n" then some (.int (n : Nat) tn) else if y = Str.ofString "script" then some (.ref a) else none) ∧
    ok.data = .cell vk ∧ nw = [(Ab, listOf ab ca), (Be, listOf be cb), (Co, listOf (vs0 cs) cc), (R, listOf (vs0 its) c), (s₁.heap.objs.size + 1 + 1 + 1 + 1 + 1 + 1, oL), (s₁.heap.objs.size + 1 + 1 + 1 + 1 + 1, oH), (s₁.heap.objs.size + 1 + 1 + 1 + 1, ok), (s₁.heap.objs.size + 1 + 1 + 1, oC), (s₁.heap.objs.size + 1 + 1, oP), (s₁.heap.objs.size + 1, oM)] ∧ JD pr (its.map (·.1)) i cs be ab) rfl ?_ ?_ ?_
  · k_steps
    rename Fr _ _ _ _ => F₅
    rename News _ _ _ _ => N₅
    refine .mk ⟨_, _, _, _, _, _, _, _, rfl, rfl, by assumption, small64 ⟨n, by omega⟩, ⟨none, none, none, none, none, none, [], #[], #[], _, _, _, _, _, ?_, dK, rfl, JD.start _ _⟩, F₅, N₅⟩
    funext y
    repeat (first | rfl | (split; subst_vars; rfl))
  · rintro i hin M nw h₅ tk₅ I ⟨j1, j2, j3, j4, j5, j6, cs, be, ab, cc, cb, ca, ok, vk, rfl, dk, rfl, hJ⟩ F₅ N₅ hI₅
    clear F₄ N₄
    have hI₆ := hI₅
    obtain ⟨i1, i2, i3, i4, i5, i6, i7, i8, i9, i10, _⟩ := hI₆
    k_steps
    all_goals (try k_data)
    rename IsRange _ _ _ _ _ _ _ _ => hrg
    clear hrg
    rename News _ _ _ _ => N₆
    rename Fr _ _ _ _ => F₆
    rename CarriedAll _ _ => hca
    rename Heap.IsList _ _ _ => hDl
    have hin1 := carried_ints hca
    have hfl : (List.filter (fun a => a != (i : Int)) (rangeInts 0 1 n)).length ≤ 7 := Nat.le_trans (List.length_filter_le _ _) (by rw [rangeInts_length]; omega)
    try unfold Lv
    refine add_l F₆ N₆ (IsL.isList (n := 0) (N₆ _ (.head _)).1) hDl (.cons _ _ .nil) (by simpa using hin1) (by rw [List.length_singleton]; omega) ?_
    intro O os h₇ F₇ N₇ aO hos
    clear F₆ N₆ hDl hca hin1
    replace hos := ord_of hos
    have hosl : os.length = n := by
      have := congrArg List.length hos
      rwa [List.length_map, List.length_map, ord_len hin] at this
    have osAt : ∀ (i' : Nat) (v : Value), (vs0 os)[i']? = some v → ∃ (q : Nat) (t : Tok), (ord i n)[i']? = some q ∧ q < n ∧ v = .int (q : Nat) t := by
      intro i' v hv
      have h1 : os[i']?.map (fun p => Value.int p.1 p.2) = some v := by simpa [vs0] using hv
      cases hq : os[i']? with
      | none => rw [hq] at h1; cases h1
      | some p =>
        rw [hq] at h1
        have h2 : (os.map (·.1))[i']? = some p.1 := by rw [List.getElem?_map, hq]; rfl
        rw [hos, List.getElem?_map] at h2
        cases hr : (ord i n)[i']? with
        | none => rw [hr] at h2; cases h2
        | some q =>
          rw [hr] at h2
          exact ⟨q, p.2, rfl, ord_lt hin q (List.mem_of_getElem? hr), by rw [show ((q : Nat) : Int) = p.1 from Option.some.inj h2]; exact (Option.some.inj h1).symm⟩
    have aO' := aO
    obtain ⟨o1, o2, o3, o4, o5, o6, o7, o8, o9, o10, o11, o12, _⟩ := aO'
    k_steps
    rename News _ _ _ _ => N₈
    rename Fr _ _ _ _ => F₈
    obtain ⟨mk, hmk⟩ : ∃ mk : Nat → Nat, ∀ q (h : q < its.length), its[q].1 = (mk q : Int) ∧ mk q ≤ 8 := ⟨fun q => ((its.map (fun p : Int × Tok => p.1)).getD q 0).toNat, fun q h => by
      have := hC.val its[q] (List.getElem_mem h)
      have e : (its.map (fun p : Int × Tok => p.1)).getD q 0 = its[q].1 := by simp [List.getD, h]
      dsimp only
      rw [e]; omega⟩
    refine LCg.CompSrc.ledger rfl F₈ N₈ (.head _) (by simp [hosl, sizeLine_eq]; omega) fun g => comp_list (fun i' ys => ∃ l : List (Str × Tok), ys = strValues l ∧ l.map (fun p : Str × Tok => p.1) = ((ord i n).take i').map fun q => rowA (mk q) q) (.inr ⟨_, .head _, rfl, _, rfl⟩) ⟨[], rfl, rfl⟩ ?_ ?_
    · rintro i' ys v Ic oI Cc oC' Dc m₂ h₉ tk₉ E' hv ⟨l, rfl, hl⟩ hNs hm2 F₉ N₉ off ne3
      obtain ⟨q, tq, hq1, hq2, rfl⟩ := osAt i' v hv
      k_steps
      try unfold Lv
      have hql : q < its.length := by omega
      refine sub_list (items := vs0 its) (x := .int its[q].1 its[q].2) (IsL.isList (n := c) (N₉ (R, _) (by k_mem)).1) (by omega) (by omega) (vs0_get hql) ?_
      obtain ⟨hm1, hm8⟩ := hmk q hql
      rw [hm1]
      k_steps
      try unfold Lv
      rename News _ _ _ _ => N₁₀
      rename Fr _ _ _ _ => F₁₀
      refine wo_c (j := q) B₁ F₁₀ XB TB (by rfl) (by rfl) (by omega) (by decide) (by decide) ?_
      intro h₁₁ k₁₁ t₁₁ P₁₁
      obtain ⟨F₁₁, N₁₁, _⟩ := behindL B₁ F₁₀ N₁₀ rfl P₁₁ (fun p hp => nomatch hp) rfl (fun p hp => ⟨hp, trivial⟩)
      simp only [List.nil_append, List.append_nil] at N₁₁
      clear P₁₁ F₁₀ N₁₀
      have hw9 : (wd q).length = 9 := (wd_ok ⟨q, by omega⟩).1
      k_steps
      rename News _ _ _ _ => N₁₂
      rename Fr _ _ _ _ => F₁₂
      refine .mk ⟨_, _, rfl, F₁₂, N₁₂, l ++ [(_, _)], strValues_snoc _ _ _, ?_⟩
      rw [List.map_append, hl, List.take_add_one, hq1]
      simp [rowA]
    rintro ys ⟨l, rfl, hl⟩
    have hn9 : (vs0 os).size = (ord i n).length := by rw [ord_len hin]; simp [hosl]
    rw [hn9, List.take_length] at hl
    intro D h₁₂ tk₁₂ F₁₂ N₁₂ oD
    k_steps
    try unfold Lv
    have hlr : ∀ y ∈ l.map (fun p : Str × Tok => p.1), y.length ≤ 17 := by
      rw [hl]
      intro y hy
      obtain ⟨q, hq, rfl⟩ := List.mem_map.mp hy
      have hq' := ord_lt hin q hq
      have h8 := (hmk q (by omega)).2
      have : (rowA (mk q) q).cps.size = 9 + mk q := (rowA_ok ⟨mk q, by omega⟩ ⟨q, by omega⟩).1
      show (rowA (mk q) q).cps.size ≤ 17
      omega
    have hll : l.length = n := by
      have := congrArg List.length hl
      rwa [List.length_map, List.length_map, ord_len hin] at this
    refine join_list (items := (strValues l).toArray) ⟨_, (N₁₂ _ (.head _)).1, rfl, _, rfl⟩ (strs_of l) ?_ fun tx kx => ?_
    · refine Nat.le_trans (Nat.add_le_add_right (sum_le (B := 17) hlr) _) ?_
      rw [List.length_map, hll, show (Str.ofString "\n").length = 1 by decide +kernel]
      omega
    rw [hl]
    clear hlr hl hll
    k_steps
    rename News _ _ _ _ => N₁₃
    rename Fr _ _ _ _ => F₁₃
    have hil : i < its.length := by omega
    obtain ⟨hi1, hi8⟩ := hmk i hil
    refine LCg.CompSrc.ledger rfl F₁₃ N₁₃ (.tail _ (.head _)) (by simp [hosl, sizeLine_eq]; omega) fun g2 => comp_list (fun i' ys => ∃ l : List (Str × Tok), ys = strValues l ∧ l.map (fun p : Str × Tok => p.1) = ((ord i n).take i').map fun q => dr (mk i) (rowA (mk q) q)) (.inr ⟨_, .tail _ (.head _), rfl, _, rfl⟩) ⟨[], rfl, rfl⟩ ?_ ?_
    · rintro i' ys v Ic oI Cc oC' Dc m₂ h₉ tk₉ E' hv ⟨l, rfl, hl⟩ hNs hm2 F₉ N₉ off ne3
      obtain ⟨q, tq, hq1, hq2, rfl⟩ := osAt i' v hv
      have hql : q < its.length := by omega
      obtain ⟨hm1, hm8⟩ := hmk q hql
      k_steps
      try unfold Lv
      refine sub_list (items := vs0 its) (x := .int its[q].1 its[q].2) (IsL.isList (n := c) (N₉ (R, _) (by k_mem)).1) (by omega) (by omega) (vs0_get hql) ?_
      rw [hm1]
      k_steps
      try unfold Lv
      rename News _ _ _ _ => N₁₀
      refine sub_list (items := vs0 its) (x := .int its[i].1 its[i].2) (IsL.isList (n := c) (N₁₀ (R, _) (by k_mem)).1) (by omega) (by omega) (vs0_get hil) ?_
      rw [hi1]
      k_steps
      try unfold Lv
      rename News _ _ _ _ => N₁₁
      rename Fr _ _ _ _ => F₁₁
      refine wo_c (j := q) B₁ F₁₁ XB TB (by rfl) (by rfl) (by omega) (by decide) (by decide) ?_
      intro h₁₁ k₁₁ t₁₁ P₁₁
      obtain ⟨F₁₂, N₁₂, _⟩ := behindL B₁ F₁₁ N₁₁ rfl P₁₁ (fun p hp => nomatch hp) rfl (fun p hp => ⟨hp, trivial⟩)
      simp only [List.nil_append, List.append_nil] at N₁₂
      clear P₁₁ F₁₁ N₁₁
      have hw9 : (wd q).length = 9 := (wd_ok ⟨q, by omega⟩).1
      k_steps
      try unfold Lv
      rename News _ _ _ _ => N₁₄
      refine sub_list (items := vs0 its) (x := .int its[i].1 its[i].2) (IsL.isList (n := c) (N₁₄ (R, _) (by k_mem)).1) (by omega) (by omega) (vs0_get hil) ?_
      rw [hi1]
      k_steps
      try unfold Lv
      rename News _ _ _ _ => N₁₅
      refine sub_list (items := vs0 its) (x := .int its[q].1 its[q].2) (IsL.isList (n := c) (N₁₅ (R, _) (by k_mem)).1) (by omega) (by omega) (vs0_get hql) ?_
      rw [hm1]
      k_steps
      rename News _ _ _ _ => N₁₇
      rename Fr _ _ _ _ => F₁₇
      refine .mk ⟨_, _, rfl, F₁₇, N₁₇, l ++ [(_, _)], strValues_snoc _ _ _, ?_⟩
      rw [List.map_append, hl, List.take_add_one, hq1]
      simp only [List.map_cons, List.map_nil, Option.toList_some, List.map_append]
      rw [due_eqI hm8 hi8 (by omega)]
    rintro ys ⟨ld, rfl, hld⟩
    rw [hn9, List.take_length] at hld
    intro Du h₁₆ tk₁₆ F₁₆ N₁₆ oDu
    have hmq : ∀ q, q < n → mk q ≤ 8 := fun q hq => (hmk q (by omega)).2
    k_steps
    try unfold Lv
    rename News _ _ _ _ => N₁₈
    rename Fr _ _ _ _ => F₁₈
    obtain ⟨b1, b2, b3⟩ := row0_ok hi8 (show i < 7 by omega)
    rw [rowsOf_eq]
    refine de_c (x := Txt.join (Str.ofString "\n") (rowsOf mk i n)) (r0 := rowA (mk i) i) (rs := ((List.range n).filter (· != i)).map fun q => rowA (mk q) q) (p0 := mk i) B₁ F₁₈ XB TB (by rfl) (by rfl) (rows_size hin (by omega) hmq) ((rows_split hin (by omega) hmq).trans rows_cons.symm)
      (fun r hr => Nat.le_trans (rows_len hin (by omega) hmq r hr).1 (by decide)) (by have := rows_n (mk := mk) hin; unfold rowsOf ord at this; rw [List.map_cons] at this; rw [this]; omega) b1 b2 b3 (by decide) (by decide) ?_
    rw [rows_cons, due_map]
    intro h₁₉ k₁₉ t₁₉ P₁₉
    obtain ⟨F₁₉, N₁₉, _⟩ := behindL B₁ F₁₈ N₁₈ rfl P₁₉ (fun p hp => nomatch hp) rfl (fun p hp => ⟨hp, trivial⟩)
    simp only [List.nil_append, List.append_nil] at N₁₉
    clear P₁₉ F₁₈ N₁₈
    have hds := due_size hin (by omega) hmq
    have halt1 : Halt "eval ListComp" := .mk _
    have halt2 : Halt "exec Assign cons ListComp" := .mk _
    have halt3 : Halt "call builtin:sum" := .mk _
    have halt4 : Halt "len" := .mk _
    have hsp := due_split hin (by omega) hmq
    have hdo := due_ok hin (by omega) hmq
    generalize hX : Txt.join (Str.ofString "\n") (dueOf mk i n) = X at hds hsp ⊢
    k_steps
    try unfold Lv
    rename News _ _ _ _ => N₂₁
    rename Fr _ _ _ _ => F₂₁
    rename ∀ a : Str, a ∈ List.map _ _ → a.length ≤ X.length => hts
    rename StrsAre _ _ => htr
    rename List.map _ _ = Txt.split X _ => hto
    rw [hsp] at hto
    refine ne_strs (k := ld) ⟨_, (N₂₁ _ (.head _)).1, rfl, _, rfl⟩ ⟨_, (N₂₁ _ (.tail _ (.head _))).1, rfl, _, rfl⟩ (hto.trans hld.symm) (by rw [hto]; exact hdo) (Nat.le_of_ble_eq_true rfl) ?_
    obtain ⟨T, hT⟩ : ∃ T, T = h₁₉.objs.size := ⟨_, rfl⟩
    rename List (Str × Tok) => lt
    have N₂₂ : News s₁.heap _ _ ((T, listOf (strValues lt).toArray 0) :: _) := hT ▸ N₂₁
    have F₂₂ : Fr s₁.heap _ _ (fun y => if y = Str.ofString "told" then some (.ref T) else _) := hT ▸ F₂₁
    clear N₂₁ F₂₁
    k_steps
    try unfold Lv
    lcg_calm
    (refine LCg.Assign_ListComp_U (F₀ := by k_asm) (by rfl) (by with_unfolding_all rfl) (by with_unfolding_all rfl) (by decide) (by rfl) (by decide) (by rfl) (by rfl) (by rfl) ?_)
    walk1
    dsimp only
    rename News _ _ _ _ => N₂₃
    rename Fr _ _ _ _ => F₂₃
    have hltl : lt.length = n := by
      have := congrArg List.length hto
      rwa [List.length_map, due_n hin] at this
    have hlts : (strValues lt).toArray.size = n := by unfold strValues; rw [List.size_toArray, List.length_map, hltl]
    refine LCg.CompSrc.ledger rfl F₂₃ N₂₃ (.head _) (by rw [hlts, sizeLine_eq]; omega) fun g3 => comp_list (fun i' ys => ∃ l : List (Int × Tok), ys = (vs0 l).toList ∧ l.map (fun p : Int × Tok => p.1) = ((ord i n).take i').map fun q => ((9 : Int) + (mk q : Int)) - (mk i : Int)) (.inr ⟨_, .head _, rfl, _, rfl⟩) ⟨[], rfl, rfl⟩ ?_ ?_
    · rintro i' ys v Ic oI Cc oC' Dc m₂ h₂₄ tk₂₄ E' hv ⟨l, rfl, hl⟩ hNs hm2 F₂₄ N₂₄ off ne3
      obtain ⟨x, tx', rfl, hx⟩ := str_at hv
      rw [hto] at hx
      unfold dueOf at hx
      rw [List.getElem?_map] at hx
      obtain ⟨q, hq1, rfl⟩ := Option.map_eq_some_iff.mp hx
      have hq2 : q < n := ord_lt hin q (List.mem_of_getElem? hq1)
      have hq8 := hmq q hq2
      have hda : (dr (mk i) (rowA (mk q) q)).cps.size + mk i = 9 + mk q := (dueA_ok ⟨mk q, by omega⟩ ⟨mk i, by omega⟩ ⟨q, by omega⟩).2.1
      have hln : (dr (mk i) (rowA (mk q) q)).length = (dr (mk i) (rowA (mk q) q)).cps.size := rfl
      k_steps
      rename News _ _ _ _ => N₂₆
      rename Fr _ _ _ _ => F₂₆
      refine .mk ⟨_, _, rfl, F₂₆, N₂₆, l ++ [(_, _)], vs0_snoc _ _ _, ?_⟩
      rw [List.map_append, hl, List.take_add_one, hq1]
      simp only [List.map_cons, List.map_nil, Option.toList_some, List.map_append]
      congr 2
      rw [hln]; omega
    rintro ys ⟨lz, rfl, hlz⟩
    rw [hlts, List.take_of_length_le (Nat.le_of_eq (ord_len hin))] at hlz
    intro Z h₂₅ tk₂₅ F₂₅ N₂₅ oZ
    k_steps
    rename News _ _ _ _ => N₂₆
    rename Fr _ _ _ _ => F₂₆
    have hzi := vs0_ints lz
    rw [hlz] at hzi
    refine count_list_ints ⟨_, (N₂₆ _ (.head _)).1, rfl, _, rfl⟩ hzi ?_
    have hnl : its.length = n := by omega
    have hms := ms_range (mk := mk) hnl fun q h => (hmk q h).1
    rw [cnt_eq hin hms]
    have hce := cEq_le (ms := its.map (·.1)) ((its.map (·.1)).getD i 0)
    rw [List.length_map] at hce
    k_steps
    try unfold Lv
    refine div2 (by omega) ?_
    intro tb kb hkb
    k_steps
    try unfold Lv
    lcg_calm
    (refine LCt.ListComp_T (F₀ := by k_asm) (by with_unfolding_all rfl) (by decide) (by rfl) (by decide) (by rfl) ?_)
    walk1
    dsimp only
    rename News _ _ _ _ => N₂₇
    rename Fr _ _ _ _ => F₂₇
    have eZ : LCg.lst (vs0 lz).toList = W.listOf (vs0 lz) lz.length := by simp [LCg.lst, W.listOf]
    rw [eZ] at N₂₇
    have hzl : lz.length = n := by
      have := congrArg List.length hlz
      rwa [List.length_map, List.length_map, ord_len hin] at this
    have hzs : (vs0 lz).size = n := by simp [hzl]
    refine LCt.CompSrcT.ledger rfl F₂₇ N₂₇ (.head _) (by rw [hzs, sizeLine_eq]; omega) fun g4 => comp_test (fun i' ys => ∃ l : List (Int × Tok), ys = (vs0 l).toList ∧ l.map (fun p : Int × Tok => p.1) = ((lz.map (fun p : Int × Tok => p.1)).take i').filter (· < 9)) (fun i' => decide ((lz.map (fun p : Int × Tok => p.1)).getD i' 0 < 9)) (.inr ⟨_, .head _, rfl, _, rfl⟩) ⟨[], rfl, rfl⟩ ?_ ?_ ?_ ?_
    · rintro i' ys v Ic oI Cc oC' Dc m₂ h₂₄ tk₂₄ E' hv ⟨l, rfl, hl⟩ hNs hm2 F₂₄ N₂₄ off ne3
      obtain ⟨x, tx', rfl, hx⟩ := int_at hv
      k_steps
      rename News _ _ _ _ => N₂₉
      rename Fr _ _ _ _ => F₂₉
      refine .mk ⟨_, _, rfl, F₂₉, N₂₉, ?_⟩
      simp [List.getD, hx]
    · rintro i' ys v Ic oI Cc oC' Dc m₂ h₂₄ tk₂₄ E' hv ⟨l, rfl, hl⟩ hb hNs hm2 F₂₄ N₂₄ off ne3
      obtain ⟨x, tx', rfl, hx⟩ := int_at hv
      have hb' : x < 9 := by simpa [List.getD, hx] using hb
      k_steps
      rename News _ _ _ _ => N₂₉
      rename Fr _ _ _ _ => F₂₉
      refine .mk ⟨_, _, rfl, F₂₉, N₂₉, l ++ [(_, _)], vs0_snoc _ _ _, ?_⟩
      rw [take_filter _ hx, if_pos (by simpa using hb'), List.map_append, hl]
      rfl
    · rintro i' ys v hv ⟨l, rfl, hl⟩ hb
      obtain ⟨x, tx', rfl, hx⟩ := int_at hv
      refine ⟨l, rfl, ?_⟩
      rw [take_filter _ hx, hl, if_neg, List.append_nil]
      simpa [List.getD, hx] using hb
    rintro ys ⟨lw, rfl, hlw⟩
    rw [hzs, List.take_of_length_le (by rw [List.length_map]; omega), hlz] at hlw
    intro Z1 h₂₈ tk₂₈ F₂₈ N₂₈ oZ1
    have hlwl := congrArg List.length hlw
    rw [cnt_lt hin hms, List.length_map] at hlwl
    have eZ1 : LCg.lst (vs0 lw).toList = W.listOf (vs0 lw) lw.length := by simp [LCg.lst, W.listOf]
    rw [eZ1] at N₂₈
    k_steps
    have hlws : (vs0 lw).size = cLt (its.map (·.1)) ((its.map (·.1)).getD i 0) := by simp [hlwl]
    have hcl := cLt_le (ms := its.map (·.1)) ((its.map (·.1)).getD i 0)
    rw [List.length_map] at hcl
    try unfold Lv
    refine kun_lenL (k := ((cLt (its.map (·.1)) ((its.map (·.1)).getD i 0) : Nat) : Int)) ⟨_, (N₂₈ _ (.head _)).1, rfl, _, rfl⟩ (by rw [hlws]) (by omega) ?_
    k_steps
    try unfold Lv
    refine add_rk (by omega) ?_ ?_
    · exact Nat.le_add_left 1 _
    intro tr kr htr
    k_steps
    have N₃₀ : News s₁.heap s₁.heap.objs.size h₂₈ ((Z, W.listOf (vs0 lz) lz.length) :: (I, rgO (↑(i + 1)) (↑n - ↑(i + 1))) :: (Ab, W.listOf ab ca) :: (Be, W.listOf be cb) :: _) := fun p hp => N₂₈ p (by
      rcases List.mem_cons.mp hp with h | hp
      · exact h ▸ .tail _ (.head _)
      · exact .tail _ (.tail _ (.tail _ (.tail _ (.tail _ (.tail _ (.tail _ hp)))))))
    clear N₂₈
    obtain ⟨z1, z2, z3, z4, z5, z6, z7, z8, z9, z10, z11, z12, z13, z14, z15, z16, _⟩ := oZ
    try unfold Lv
    refine append_K F₂₈ N₃₀ (.tail (Ne.symm z8) (.tail (Ne.symm i2) (.tail (Nat.ne_of_gt lA.1) (.head (off8 lB))))) ?_ (by rw [hJ.be.1, sizeLine_eq]; omega)
    intro h₃₁ F₃₁ N₃₁
    clear N₃₀ F₂₈
    k_steps
    try unfold Lv
    lcg_calm
    (refine LCt.ListComp_T (F₀ := by k_asm) (by with_unfolding_all rfl) (by decide) (by rfl) (by decide) (by rfl) ?_)
    walk1
    dsimp only
    rename News _ _ _ _ => N₃₂
    rename Fr _ _ _ _ => F₃₂
    refine LCt.CompSrcT.ledger rfl F₃₂ N₃₂ (.head _) (by rw [hzs, sizeLine_eq]; omega) fun g5 => comp_test (fun i' ys => ∃ l : List (Int × Tok), ys = (vs0 l).toList ∧ l.map (fun p : Int × Tok => p.1) = ((lz.map (fun p : Int × Tok => p.1)).take i').filter (fun s => s > 9)) (fun i' => decide ((lz.map (fun p : Int × Tok => p.1)).getD i' 0 > 9)) (.inr ⟨_, .head _, rfl, _, rfl⟩) ⟨[], rfl, rfl⟩ ?_ ?_ ?_ ?_
    · rintro i' ys v Ic oI Cc oC' Dc m₂ h₂₄ tk₂₄ E' hv ⟨l, rfl, hl⟩ hNs hm2 F₂₄ N₂₄ off ne3
      obtain ⟨x, tx', rfl, hx⟩ := int_at hv
      k_steps
      rename News _ _ _ _ => N₂₉
      rename Fr _ _ _ _ => F₂₉
      refine .mk ⟨_, _, rfl, F₂₉, N₂₉, ?_⟩
      simp [List.getD, hx]
    · rintro i' ys v Ic oI Cc oC' Dc m₂ h₂₄ tk₂₄ E' hv ⟨l, rfl, hl⟩ hb hNs hm2 F₂₄ N₂₄ off ne3
      obtain ⟨x, tx', rfl, hx⟩ := int_at hv
      have hb' : x > 9 := by simpa [List.getD, hx] using hb
      k_steps
      rename News _ _ _ _ => N₂₉
      rename Fr _ _ _ _ => F₂₉
      refine .mk ⟨_, _, rfl, F₂₉, N₂₉, l ++ [(_, _)], vs0_snoc _ _ _, ?_⟩
      rw [take_filter _ hx, if_pos (by simpa using hb'), List.map_append, hl]
      rfl
    · rintro i' ys v hv ⟨l, rfl, hl⟩ hb
      obtain ⟨x, tx', rfl, hx⟩ := int_at hv
      refine ⟨l, rfl, ?_⟩
      rw [take_filter _ hx, hl, if_neg, List.append_nil]
      simpa [List.getD, hx] using hb
    rintro ys ⟨lv, rfl, hlv⟩
    rw [hzs, List.take_of_length_le (by rw [List.length_map]; omega), hlz] at hlv
    intro Z2 h₃₃ tk₃₃ F₃₃ N₃₃ oZ2
    have hlvl := congrArg List.length hlv
    rw [cnt_gt hin hms, List.length_map] at hlvl
    have eZ2 : LCg.lst (vs0 lv).toList = W.listOf (vs0 lv) lv.length := by simp [LCg.lst, W.listOf]
    rw [eZ2] at N₃₃
    k_steps
    have hlvs : (vs0 lv).size = cGt (its.map (·.1)) ((its.map (·.1)).getD i 0) := by simp [hlvl]
    have hcg := cGt_le (ms := its.map (·.1)) ((its.map (·.1)).getD i 0)
    rw [List.length_map] at hcg
    try unfold Lv
    refine kun_lenL (k := ((cGt (its.map (·.1)) ((its.map (·.1)).getD i 0) : Nat) : Int)) ⟨_, (N₃₃ _ (.head _)).1, rfl, _, rfl⟩ (by rw [hlvs]) (by omega) ?_
    k_steps
    try unfold Lv
    refine add_rk (by omega) ?_ ?_
    · exact Nat.le_add_left 1 _
    intro tr2 kr2 htr2
    k_steps
    try unfold Lv
    have N₃₄ := newsDrop N₃₃
    try unfold Lv
    refine append_K F₃₃ N₃₄ (.tail (Ne.symm z7) (.tail (Ne.symm i1) (.head (off9 lA)))) ?_ (by rw [hJ.ab.1, sizeLine_eq]; omega)
    intro h₃₅ F₃₅ N₃₅
    clear N₃₃ N₃₄ F₃₃
    k_steps
    try unfold Lv
    lcg_calm
    (refine LCg.ListComp_U (F₀ := by k_asm) (by with_unfolding_all rfl) (by decide) (by rfl) (by decide) (by rfl) ?_)
    walk1
    dsimp only
    rename News _ _ _ _ => N₃₆
    rename Fr _ _ _ _ => F₃₆
    refine LCg.CompSrc.ledger rfl F₃₆ N₃₆ (.head _) (by rw [hzs, sizeLine_eq]; omega) fun g6 => comp_list (fun i' ys => ∃ l : List (Int × Tok), ys = (vs0 l).toList ∧ l.map (fun p : Int × Tok => p.1) = ((lz.map (fun p : Int × Tok => p.1)).take i').map fun s => if s > 9 then s - 9 else (pr : Int) * (9 - s)) (.inr ⟨_, .head _, rfl, _, rfl⟩) ⟨[], rfl, rfl⟩ ?_ ?_
    · rintro i' ys v Ic oI Cc oC' Dc m₂ h₂₄ tk₂₄ E' hv ⟨l, rfl, hl⟩ hNs hm2 F₂₄ N₂₄ off ne3
      obtain ⟨x, tx', rfl, hx⟩ := int_at hv
      k_steps
      · rename News _ _ _ _ => N₂₉
        rename Fr _ _ _ _ => F₂₉
        refine .mk ⟨_, _, rfl, F₂₉, N₂₉, l ++ [(_, _)], vs0_snoc _ _ _, ?_⟩
        rw [List.map_append, hl, List.take_add_one, hx]
        simp only [List.map_cons, List.map_nil, Option.toList_some, List.map_append]
        congr 2
        split <;> first | rfl | omega | (exfalso; simp only [decide_eq_true_eq, decide_eq_false_iff_not] at *; omega)
      · rename News _ _ _ _ => N₂₉
        rename Fr _ _ _ _ => F₂₉
        refine .mk ⟨_, _, rfl, F₂₉, N₂₉, l ++ [(_, _)], vs0_snoc _ _ _, ?_⟩
        rw [List.map_append, hl, List.take_add_one, hx]
        simp only [List.map_cons, List.map_nil, Option.toList_some, List.map_append]
        congr 2
        split <;> first | rfl | omega | (exfalso; simp only [decide_eq_true_eq, decide_eq_false_iff_not] at *; omega)
    rintro ys ⟨lq, rfl, hlq⟩
    rw [hzs, List.take_of_length_le (by rw [List.length_map]; omega), hlz] at hlq
    intro Z3 h₃₇ tk₃₇ F₃₇ N₃₇ oZ3
    have eZ3 : LCg.lst (vs0 lq).toList = W.listOf (vs0 lq) lq.length := by simp [LCg.lst, W.listOf]
    rw [eZ3] at N₃₇
    k_steps
    try unfold Lv
    have hqi := vs0_ints lq
    rw [hlq] at hqi
    try unfold Lv
    refine LSm.sum_ints F₃₇ N₃₇ rfl ⟨_, (N₃₇ _ (.head _)).1, rfl, _, (by simp; rfl)⟩ hqi ?_
    rw [sum_kost hin hms]
    intro h₃₈ tk₃₈ t₃₈ F₃₈ N₃₈
    k_steps
    try unfold Lv
    have N₃₉ := newsDrop N₃₈
    try unfold Lv
    refine append_K F₃₈ N₃₉ (.tail (Ne.symm z9) (.tail (Ne.symm i3) (.tail (Nat.ne_of_gt lA.2.1) (.tail (Nat.ne_of_gt lB.1) (.head (off7 lC)))))) ?_ (by have := congrArg List.length hJ.cs; rw [List.length_map, List.length_map, List.length_range] at this; rw [sizeLine_eq]; simp only [vs0, List.size_toArray, List.length_map]; omega)
    intro h₄₀ F₄₀ N₄₀
    clear N₃₈ N₃₉ F₃₈
    k_steps
    dsimp only
    rw [vs0_push] at N₄₀
    rw [coll6] at F₄₀
    exact .mk ⟨_, _, _, _, rfl, ⟨_, _, _, _, _, _, _, _, _, _, _, _, _, _, rfl, by assumption, rfl, JD.step htr htr2 hJ⟩, F₄₀, newsDrop N₄₀, ⟨i1, i2, i3, i4, i5, i6, i7, i8, i9, i10, trivial⟩⟩
  · have halt5 : Halt "eval ListComp" := .mk _
    have halt6 : Halt "eval IfExp" := .mk _
    rintro M nw h₅ tk₅ ⟨j1, j2, j3, j4, j5, j6, cs, be, ab, cc, cb, ca, ok, vk, rfl, dk, rfl, hJ⟩ F₅ N₅
    clear F₄ N₄
    dsimp only
    k_steps
    try unfold Lv
    rename Fr _ _ _ _ => F₆
    rename News _ _ _ _ => N₆
    have hitsR : ∀ p ∈ its, p.2 ≠ 0 ∧ 0 ≤ p.1 ∧ p.1 ≤ 8 := fun p hp => ⟨(hC.tok p hp).1, hC.val p hp⟩
    refine rk_c (its0 := its) (n := c) (b := false) (kw := []) B₁ F₆ XB TB (by rfl) (by rfl) (.inr ⟨rfl, rfl⟩) N₆ (.tail _ (.tail _ (.tail _ (.head _)))) (by decide) (by decide) (by omega) (by omega) hitsR hC.inj ?_
    intro R1 c1 els els' res h₇ k₇ hm hl hp ho hr P₇
    obtain ⟨F₇, N₇, a₇⟩ := behindL B₁ F₆ N₆ rfl P₇ (fun p hp => hp) rfl (rest := []) (fun p hp => nomatch hp)
    simp only [List.cons_append, List.nil_append, List.append_nil] at N₇
    have aR1 := a₇ _ (.head _)
    have hfl := rank_fls hm hl hp ho (by omega) hr
    clear hm hl hp ho hr P₇ F₆ N₆ a₇
    k_steps
    try unfold Lv
    rename Fr _ _ _ _ => F₈
    rename News _ _ _ _ => N₈
    have hl8 : its.length ≤ 8 := by omega
    have hfb : ∀ k, k < n → cLt (its.map (fun p : Int × Tok => p.1)) ((its.map (fun p : Int × Tok => p.1)).getD k 0) < 9 ∧ cEq (its.map (fun p : Int × Tok => p.1)) ((its.map (fun p : Int × Tok => p.1)).getD k 0) < 9 := fun k _ => by
      have a := cLt_le (ms := its.map (fun p : Int × Tok => p.1)) ((its.map (fun p : Int × Tok => p.1)).getD k 0)
      have b := cEq_le (ms := its.map (fun p : Int × Tok => p.1)) ((its.map (fun p : Int × Tok => p.1)).getD k 0)
      rw [List.length_map] at a b
      omega
    have hga : ∀ k, k < n → cGt (its.map (fun p : Int × Tok => p.1)) ((its.map (fun p : Int × Tok => p.1)).getD k 0) < 9 ∧ cEq (its.map (fun p : Int × Tok => p.1)) ((its.map (fun p : Int × Tok => p.1)).getD k 0) < 9 := fun k _ => by
      have a := cGt_le (ms := its.map (fun p : Int × Tok => p.1)) ((its.map (fun p : Int × Tok => p.1)).getD k 0)
      have b := cEq_le (ms := its.map (fun p : Int × Tok => p.1)) ((its.map (fun p : Int × Tok => p.1)).getD k 0)
      rw [List.length_map] at a b
      omega
    rw [← hn] at hfl
    refine ne_fls (f := fun k => (cLt (its.map (fun p : Int × Tok => p.1)) ((its.map (fun p : Int × Tok => p.1)).getD k 0), cEq (its.map (fun p : Int × Tok => p.1)) ((its.map (fun p : Int × Tok => p.1)).getD k 0))) (n := n) ⟨_, (N₈ _ (.head _)).1, rfl, _, rfl⟩ ⟨_, (N₈ (Be, _) (.tail _ (.tail _ (.head _)))).1, rfl, _, rfl⟩ hfl hJ.be hfb (Nat.le_of_ble_eq_true rfl) (nobook (XB.keeps F₈.keep) (TB.keeps F₈.keep)) ?_
    k_steps
    try unfold Lv
    have hitsR : ∀ p ∈ its, p.2 ≠ 0 ∧ 0 ≤ p.1 ∧ p.1 ≤ 8 := fun p hp => ⟨(hC.tok p hp).1, hC.val p hp⟩
    rename Fr _ _ _ _ => F₉
    rename News _ _ _ _ => N₉
    refine rk_c (its0 := its) (n := c) (b := true) (kw := [(Str.ofString "reverse", .bool true)]) B₁ F₉ XB TB (by rfl) (by rfl) (.inl rfl) N₉ (.tail _ (.tail _ (.tail _ (.tail _ (.head _))))) (by decide) (by decide) (by omega) (by omega) hitsR hC.inj ?_
    intro R2 c2 els els' res2 h₁₀ k₁₀ hm hl hp ho hr P₁₀
    obtain ⟨F₁₀, N₁₀, a₁₀⟩ := behindL B₁ F₉ N₉ rfl P₁₀ (fun p hp => hp) rfl (rest := []) (fun p hp => nomatch hp)
    simp only [List.cons_append, List.nil_append, List.append_nil] at N₁₀
    have aR2 := a₁₀ _ (.head _)
    have hfl2 := rank_fls hm hl hp ho hl8 hr
    rw [← hn] at hfl2
    clear hm hl hp ho hr P₁₀ F₉ N₉ a₁₀
    k_steps
    try unfold Lv
    rename Fr _ _ _ _ => F₁₁
    rename News _ _ _ _ => N₁₁
    refine ne_fls (f := fun k => (cGt (its.map (fun p : Int × Tok => p.1)) ((its.map (fun p : Int × Tok => p.1)).getD k 0), cEq (its.map (fun p : Int × Tok => p.1)) ((its.map (fun p : Int × Tok => p.1)).getD k 0))) (n := n) ⟨_, (N₁₁ _ (.head _)).1, rfl, _, rfl⟩ ⟨_, (N₁₁ (Ab, _) (.tail _ (.tail _ (.head _)))).1, rfl, _, rfl⟩ hfl2 hJ.ab hga (Nat.le_of_ble_eq_true rfl) (nobook (XB.keeps F₁₁.keep) (TB.keeps F₁₁.keep)) ?_
    k_steps
    obtain ⟨sh, hsh, hsn⟩ : ∃ sh : Nat, (n : Int).fdiv ((pr : Int) + 1) = (sh : Int) ∧ sh = n / (pr + 1) := ⟨n / (pr + 1), by rw [Int.fdiv_eq_ediv_of_nonneg _ (by omega)]; rfl, rfl⟩
    rename Fr _ _ _ _ => F₁₂
    rename News _ _ _ _ => N₁₂
    rw [hsh] at F₁₂ ⊢
    have hs2 : sh * 2 ≤ n ∧ sh < n := hsn ▸ third hpr.1 (by omega)
    dsimp only at F₁₂ ⊢
    try unfold Lv
    refine KMa.mul F₁₂ N₁₂ (vs := [.int 0 (k₁₀ + 1 + 1 + 1 + 1)]) (ws := List.replicate (n - 2 * sh) (.int 0 (k₁₀ + 1 + 1 + 1 + 1))) ⟨_, (N₁₂ _ (.head _)).1, rfl, _, rfl⟩ (by omega) (by omega) (by simp; omega) ?_ ?_
    · rw [show ((n : Int) - 2 * (sh : Int)).toNat = n - 2 * sh by omega]
      simp
    intro D h₁₃ F₁₃ N₁₃ aD
    clear F₁₂ N₁₂
    k_steps
    try unfold Lv
    refine add_l (ns := List.replicate (n - 2 * sh) 0) (ms := its.map (fun p : Int × Tok => p.1)) F₁₃ N₁₃ ⟨_, (N₁₃ _ (.head _)).1, rfl, _, rfl⟩ ⟨_, (N₁₃ (R, _) (.tail _ (.tail _ (.tail _ (.tail _ (.tail _ (.tail _ (.tail _ (.head _)))))))) ).1, rfl, _, rfl⟩ (ints_rep _ _) (vs0_ints _) (by rw [List.length_replicate, List.length_map]; omega) ?_
    intro O os h₁₄ F₁₄ N₁₄ aO hos
    clear F₁₃ N₁₃
    k_steps
    try unfold Lv
    rename Fr _ _ _ _ => F₁₅
    rename News _ _ _ _ => N₁₅
    have N₁₆ : News s₁.heap _ _ [(O, listOf (vs0 os) 0), (Co, listOf (vs0 cs) cc), (R, listOf (vs0 its) c), (s₁.heap.objs.size + 1 + 1 + 1 + 1 + 1 + 1, oL), (s₁.heap.objs.size + 1 + 1 + 1 + 1 + 1, oH), (s₁.heap.objs.size + 1 + 1 + 1 + 1, ok), (s₁.heap.objs.size + 1 + 1 + 1, oC), (s₁.heap.objs.size + 1 + 1, oP), (s₁.heap.objs.size + 1, oM)] :=
      news_sub N₁₅ ⟨.head _, .tail _ (.tail _ (.tail _ (.tail _ (.tail _ (.tail _ (.tail _ (.head _))))))), .tail _ (.tail _ (.tail _ (.tail _ (.tail _ (.tail _ (.tail _ (.tail _ (.head _)))))))), sub_l fun p hp => .tail _ (.tail _ (.tail _ (.tail _ (.tail _ (.tail _ (.tail _ (.tail _ (.tail _ hp))))))))⟩
    clear N₁₅
    have aO' : AllNe O [(Co, listOf (vs0 cs) cc), (R, listOf (vs0 its) c), (s₁.heap.objs.size + 1 + 1 + 1 + 1 + 1 + 1, oL), (s₁.heap.objs.size + 1 + 1 + 1 + 1 + 1, oH), (s₁.heap.objs.size + 1 + 1 + 1 + 1, ok), (s₁.heap.objs.size + 1 + 1 + 1, oC), (s₁.heap.objs.size + 1 + 1, oP), (s₁.heap.objs.size + 1, oM)] :=
      AllNe.sub aO fun p hp => .tail _ (.tail _ (.tail _ (.tail _ (.tail _ (.tail _ (by
        rcases List.mem_cons.mp hp with rfl | hp
        · exact .head _
        · rcases List.mem_cons.mp hp with rfl | hp
          · exact .tail _ (.head _)
          · exact .tail _ (.tail _ hp)))))))
    clear aO
    have hosl : os.length = n - 2 * sh + n := by
      have := congrArg List.length hos
      rwa [List.length_append, List.length_replicate, List.length_map, List.length_map, ← hn] at this
    refine mh_c (D := O) (vs := os.map fun p : Int × Tok => Value.int p.1 p.2) (ns := os.map fun p : Int × Tok => p.1) (c := 0) B₁ F₁₅ XB TB (by rfl) (by rfl) (fun p hp => N₁₆ p (by rw [List.mem_singleton.mp hp]; exact .head _)) (vs0_ints os) (by rw [List.length_map]; omega) (by rw [List.length_map]; omega) (by decide) (by decide) ?_
    intro ps h₁₇ k₁₇ tH hps hpo P₁₇
    rw [List.length_map, hosl, show (n - 2 * sh + n) / 2 = n - sh by omega]
    obtain ⟨F₁₇, N₁₇, _⟩ := behindL B₁ F₁₅ N₁₆ rfl P₁₇ (fun p hp => by rw [List.mem_singleton.mp hp]; exact .head _) rfl (rest := [(Co, listOf (vs0 cs) cc), (R, listOf (vs0 its) c), (s₁.heap.objs.size + 1 + 1 + 1 + 1 + 1 + 1, oL), (s₁.heap.objs.size + 1 + 1 + 1 + 1 + 1, oH), (s₁.heap.objs.size + 1 + 1 + 1 + 1, ok), (s₁.heap.objs.size + 1 + 1 + 1, oC), (s₁.heap.objs.size + 1 + 1, oP), (s₁.heap.objs.size + 1, oM)]) (fun p hp => ⟨.tail _ hp, ⟨Ne.symm (aO'.at p hp), trivial⟩⟩)
    simp only [List.cons_append, List.nil_append, List.append_nil] at N₁₇
    clear P₁₇ F₁₅ N₁₆
    k_steps
    rcases aO' with ⟨q0, q1, q2, q3, q4, q5, q6, q7, _⟩
    have hj : ∀ a b : Nat, a + 1 + b ≠ a := fun a b => by omega
    refine storeX_C F₁₇ N₁₇ (by rfl) (.tail (Nat.ne_of_gt lC.2.2.1) (.tail (Ne.symm r2) (.tail (by show @Ne Nat _ _; dsimp only; omega) (.head (AllNe.at ⟨by dsimp only; omega, by dsimp only; omega, by dsimp only; omega, by dsimp only; omega, Ne.symm q3, trivial⟩))))) dH ?_
    intro h₁₈ oH₂ F₁₈ N₁₈ dH₂
    clear F₁₇ N₁₇
    have hnl : (its.map fun p : Int × Tok => p.1).length = n := by rw [List.length_map]; exact hn.symm
    have hpr3 : 1 ≤ pr := hpr.1
    have hge : ∀ m ∈ its.map (fun p : Int × Tok => p.1), 0 ≤ m := fun m hm => by
      obtain ⟨p, hp, rfl⟩ := List.mem_map.mp hm
      exact (hC.val p hp).1
    have hpsP := hps
    rw [hos, hsn, Nat.mul_comm] at hpsP
    k_steps
    try unfold Lv
    obtain ⟨m₁₈, hm₁₈, F₁₉⟩ : ∃ m, m = _ ∧ Fr _ _ h₁₈ m := ⟨_, rfl, F₁₈⟩
    clear F₁₉
    refine wpAny_mono (Q := fun v s' => Stop (∃ lo tL h tk, v = .int lo tL ∧ s' = { s₁ with heap := h, toks := tk } ∧ Fr s₁.heap s₁.heap.objs.size h m₁₈ ∧ News s₁.heap s₁.heap.objs.size h [(Co, listOf (vs0 cs) cc), (R, listOf (vs0 its) c), (s₁.heap.objs.size + 1 + 1 + 1 + 1 + 1 + 1, oL), (s₁.heap.objs.size + 1 + 1 + 1 + 1 + 1, oH₂), (s₁.heap.objs.size + 1 + 1 + 1 + 1, ok), (s₁.heap.objs.size + 1 + 1 + 1, oC), (s₁.heap.objs.size + 1 + 1, oP), (s₁.heap.objs.size + 1, oM), (O, listOf (vs0 os) 0)] ∧
      ∀ x, 0 ≤ x → (lo ≤ x ↔ (its.map fun p : Int × Tok => p.1).length ≤ (pr + 1) * cLe (its.map fun p : Int × Tok => p.1) x))) ?_ (fun v s' hv => ?_) (fun _ _ z => z)
    · with_reducible refine IfExp_ ?_
      k_steps
      · unfold Lv
        rename Int.fmod _ _ = 0 => hmod
        have hmd : n % (pr + 1) = 0 := by
          rw [Int.fmod_eq_emod_of_nonneg _ (by omega)] at hmod
          exact Int.ofNat.inj hmod
        have hdv : n = sh * (pr + 1) := by
          have := Nat.div_add_mod n (pr + 1)
          rw [hmd, Nat.add_zero, ← hsn, Nat.mul_comm] at this
          exact this.symm
        refine ml_c (D := O) (vs := os.map fun p : Int × Tok => Value.int p.1 p.2) (ns := os.map fun p : Int × Tok => p.1) (c := 0) B₁ F₁₈ XB TB (by rfl) (by rfl) (fun p hp => N₁₈ p (by rw [List.mem_singleton.mp hp]; exact .tail _ (.tail _ (.tail _ (.tail _ (.tail _ (.tail _ (.tail _ (.tail _ (.head _)))))))))) (vs0_ints os) (by rw [List.length_map]; omega) (by rw [List.length_map]; omega) (by decide) (by decide) (by rw [List.length_map]; omega) ?_
        intro ps2 h₂₀ k₂₀ tL hps2 hpo2 P₂₀
        rw [List.length_map, hosl, show (n - 2 * sh + n) / 2 - 1 = n - sh - 1 by omega]
        obtain ⟨F₂₀, N₂₀, _⟩ := behindL B₁ F₁₈ N₁₈ rfl P₂₀ (fun p hp => by rw [List.mem_singleton.mp hp]; exact .tail _ (.tail _ (.tail _ (.tail _ (.tail _ (.tail _ (.tail _ (.tail _ (.head _)))))))))  rfl (rest := [(Co, listOf (vs0 cs) cc), (R, listOf (vs0 its) c), (s₁.heap.objs.size + 1 + 1 + 1 + 1 + 1 + 1, oL), (s₁.heap.objs.size + 1 + 1 + 1 + 1 + 1, oH₂), (s₁.heap.objs.size + 1 + 1 + 1 + 1, ok), (s₁.heap.objs.size + 1 + 1 + 1, oC), (s₁.heap.objs.size + 1 + 1, oP), (s₁.heap.objs.size + 1, oM)]) (List.forall_mem_cons.mpr ⟨⟨.head _, Ne.symm q0, trivial⟩, List.forall_mem_cons.mpr ⟨⟨.tail _ (.head _), Ne.symm q1, trivial⟩, List.forall_mem_cons.mpr ⟨⟨.tail _ (.tail _ (.head _)), Ne.symm q2, trivial⟩, List.forall_mem_cons.mpr ⟨⟨.tail _ (.tail _ (.tail _ (.head _))), Ne.symm q3, trivial⟩, List.forall_mem_cons.mpr ⟨⟨.tail _ (.tail _ (.tail _ (.tail _ (.head _)))), Ne.symm q4, trivial⟩, List.forall_mem_cons.mpr ⟨⟨.tail _ (.tail _ (.tail _ (.tail _ (.tail _ (.head _))))), Ne.symm q5, trivial⟩, List.forall_mem_cons.mpr ⟨⟨.tail _ (.tail _ (.tail _ (.tail _ (.tail _ (.tail _ (.head _)))))), Ne.symm q6, trivial⟩, List.forall_mem_singleton.mpr ⟨.tail _ (.tail _ (.tail _ (.tail _ (.tail _ (.tail _ (.tail _ (.head _))))))), Ne.symm q7, trivial⟩⟩⟩⟩⟩⟩⟩⟩)
        simp only [List.cons_append, List.nil_append, List.append_nil] at N₂₀
        rw [← hm₁₈] at F₂₀
        refine .mk ⟨_, _, _, _, rfl, rfl, F₂₀, N₂₀, fun x hx => ?_⟩
        have hps3 := hps2
        rw [hos, hsn, Nat.mul_comm] at hps3
        rw [hsn]
        exact low_iff hpr3 hnl (by omega) hx (by rw [Nat.mul_comm]; exact hps3) hpo2 hmd
      · rename Int.fmod _ _ ≠ 0 => hmod
        have hmd : n % (pr + 1) ≠ 0 := fun q => hmod (by
          rw [Int.fmod_eq_emod_of_nonneg _ (by omega)]
          exact congrArg Int.ofNat q)
        refine .mk ⟨_, _, _, _, rfl, rfl, by rw [hm₁₈]; exact F₁₈, N₁₈, fun x hx => ?_⟩
        rw [hsn]
        exact low2_iff hpr3 hnl (by omega) hx (by rw [Nat.mul_comm]; exact hpsP) hpo hmd
    obtain ⟨lo, tL, h₂₀, tk₂₀, rfl, rfl, F₂₀, N₂₀, hlo⟩ := hv.out
    rw [hm₁₈] at F₂₀
    clear F₁₈ N₁₈ hv hm₁₈
    k_steps
    try unfold Lv
    lcg_calm
    rename_i h₂₁ o₂₁ F₂₁ N₂₁ d₂₁
    obtain ⟨ms, hms⟩ : ∃ ms, ms = its.map (fun p : Int × Tok => p.1) := ⟨_, rfl⟩
    have hcl : cs.map (fun p : Int × Tok => p.1) = ms.map (kost pr ms) := by
      have hj := hJ.cs
      rw [hj, hms]
      apply List.ext_getElem
      · rw [List.length_map, List.length_range, List.length_map, hnl]
      · intro k h1 h2
        have hk : k < (its.map (fun p : Int × Tok => p.1)).length := by rwa [List.length_map] at h2
        simp only [List.getElem_map, List.getElem_range, List.getD, List.getElem?_eq_getElem hk, Option.getD_some]
    rw [← hms] at hlo hnl hge hpsP hos
    (refine LCg.ListComp_U (F₀ := by k_asm) (by with_unfolding_all rfl) (by decide) (by rfl) (by decide) (by rfl) ?_)
    walk1
    dsimp only
    rename News _ _ _ _ => N₂₂
    rename Fr _ _ _ _ => F₂₂
    have hcsl : cs.length = n := by
      have := congrArg List.length hcl
      rwa [List.length_map, List.length_map, hnl] at this
    have hzs : (vs0 cs).size = n := by simp [hcsl]
    refine LCg.CompSrc.ledger rfl F₂₂ N₂₂ (.head _) (by rw [hzs, sizeLine_eq]; omega) fun g7 => comp_list (fun i' ys => ys = ((ms.map (kost pr ms)).take i').map fun x => Value.bool (decide (∀ a ∈ ms.map (kost pr ms), x ≤ a))) (.inr ⟨_, .head _, rfl, _, rfl⟩) rfl ?_ ?_
    · rintro i' ys v Ic oI Cc oC' Dc m₂ h₂₄ tk₂₄ E' hv rfl hNs hm2 F₂₄ N₂₄ off ne3
      obtain ⟨x, tx', rfl, hx⟩ := int_at hv
      rw [hcl] at hx
      k_steps
      try unfold Lv
      rename News _ _ _ _ => N₂₅
      rename Fr _ _ _ _ => F₂₅
      try unfold Lv
      refine kso_min (vs := (vs0 cs).toList) F₂₅ N₂₅ ⟨_, (N₂₅ (Co, _) (.tail _ (.tail _ (.tail _ (.head _))))).1, rfl, _, rfl⟩ (vs0_ints cs) (by rw [List.length_map]; omega) rfl ?_
      intro h₂₆ mn tm tk₂₆ F₂₆ N₂₆ hm1 hm3
      rw [hcl] at hm1 hm3
      clear F₂₅ N₂₅
      k_steps
      rename News _ _ _ _ => N₂₇
      rename Fr _ _ _ _ => F₂₇
      refine .mk ⟨_, _, rfl, F₂₇, N₂₇, ?_⟩
      rw [List.take_add_one, hx, List.map_append]
      congr 1
      show [Value.bool _] = [Value.bool _]
      congr 2
      have hxm := List.mem_of_getElem? hx
      by_cases q : x = mn
      · subst q
        rw [decide_eq_true hm3]; simp
      · have : ¬ ∀ a ∈ ms.map (kost pr ms), x ≤ a := fun z => q (Int.le_antisymm (z _ hm1) (hm3 _ hxm))
        rw [decide_eq_false this]; simp [q]
    rintro ys rfl
    rw [hzs, List.take_of_length_le (by rw [List.length_map]; omega)]
    intro Z4 h₂₈ tk₂₈ F₂₈ N₂₈ oZ4
    k_steps
    try unfold Lv
    lcg_calm
    (refine LCg.ListComp_U (F₀ := by k_asm) (by with_unfolding_all rfl) (by decide) (by rfl) (by decide) (by rfl) ?_)
    walk1
    dsimp only
    have hhi : ∀ x, x ≤ ps.getD (n - sh) 0 ↔ (pr + 1) * cLt ms x ≤ ms.length := fun x => by
      rw [hsn]
      exact high_iff hpr3 hnl (by omega) hge (by rw [Nat.mul_comm]; exact hpsP) hpo
    generalize ps.getD (n - sh) 0 = hi at dH₂ hhi
    rename News _ _ _ _ => N₃₀
    rename Fr _ _ _ _ => F₃₀
    have hits' : (vs0 its).size = n := by simp [hn]
    refine LCg.CompSrc.ledger rfl F₃₀ N₃₀ (.tail _ (.tail _ (.head _))) (by rw [hits', sizeLine_eq]; omega) fun g8 => comp_list (fun i' ys => ys = (ms.take i').map fun x => Value.bool (decide (lo ≤ x ∧ x ≤ hi))) (.inr ⟨_, .tail _ (.tail _ (.head _)), rfl, _, rfl⟩) rfl ?_ ?_
    · rintro i' ys v Ic oI Cc oC' Dc m₂ h₃₁ tk₃₁ E' hv rfl hNs hm2 F₃₁ N₃₁ off ne3
      obtain ⟨x, tx', rfl, hx⟩ := int_at hv
      rw [← hms] at hx
      k_steps
      all_goals
        rename News _ _ _ _ => N₃₂
        rename Fr _ _ _ _ => F₃₂
        refine .mk ⟨_, _, rfl, F₃₂, N₃₂, ?_⟩
        rw [List.take_add_one, hx, List.map_append]
        congr 1
        show [Value.bool _] = [Value.bool _]
        congr 2
      · rename lo ≤ x => hq; simp [hq]
      · rename ¬ lo ≤ x => hq; simp [hq]
    rintro ys rfl
    rw [hits', List.take_of_length_le (by omega)]
    intro Z5 h₃₃ tk₃₃ F₃₃ N₃₃ oZ5
    k_steps
    try unfold Lv
    rename News _ _ _ _ => N₃₄
    rename Fr _ _ _ _ => F₃₄
    have hsame : (ms.map (kost pr ms)).map (fun x => Value.bool (decide (∀ a ∈ ms.map (kost pr ms), x ≤ a))) = ms.map fun x => Value.bool (decide (lo ≤ x ∧ x ≤ hi)) := by
      rw [List.map_map]
      refine List.map_congr_left fun x hx => ?_
      show Value.bool _ = Value.bool _
      congr 1
      refine decide_eq_decide.mpr ?_
      have h1 := least_iff (pr := pr) (ms := ms) (x := x)
      have h2 := hlo x (hge x hx)
      have h3 := hhi x
      constructor
      · intro z
        have := h1.mp fun y hy => z _ (List.mem_map_of_mem hy)
        exact ⟨h2.mpr this.2, h3.mpr this.1⟩
      · rintro ⟨z1, z2⟩ b hb
        obtain ⟨y, hy, rfl⟩ := List.mem_map.mp hb
        exact h1.mpr ⟨h3.mp z2, h2.mp z1⟩ y hy
    have hZ4 := (N₃₄ (Z4, LCg.lst _) (.tail _ (.head _))).1
    rw [hsame] at hZ4
    refine eq_like ⟨_, hZ4, rfl, _, rfl⟩ ⟨_, (N₃₄ (Z5, LCg.lst _) (.head _)).1, rfl, _, rfl⟩ (Nat.le_of_ble_eq_true rfl) ?_
    k_steps
set_option Elab.async false
end
end
end Mine
theorem PySem.Challenge.cw_kl0504_01_holds : PySem.Challenge.rw_kl0504_01.Holds := by
  exact Mine.whole
end
