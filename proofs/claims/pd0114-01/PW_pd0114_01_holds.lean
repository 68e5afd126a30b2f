import PyProof.Rows.All
import Wide.All
import OpenK.AllK
import Wide.FinOn
import Lean
import PySem.Challenge.RW_pd0114_01
set_option Elab.async false
set_option rowWalk.seconds 0
set_option compiler.extract_closed false

namespace Mine
theorem hide {p : Prop} (h : (p → False) → False) : p := Classical.byContradiction h
theorem exi2 {t0 t1 : Sort _} {p : t0 → t1 → Prop} (x0 : t0) (x1 : t1) (h : p x0 x1) : ∃ y0 y1, p y0 y1 := ⟨x0, x1, h⟩
theorem exi3 {t0 t1 t2 : Sort _} {p : t0 → t1 → t2 → Prop} (x0 : t0) (x1 : t1) (x2 : t2) (h : p x0 x1 x2) : ∃ y0 y1 y2, p y0 y1 y2 := ⟨x0, x1, x2, h⟩
theorem exi4 {t0 t1 t2 t3 : Sort _} {p : t0 → t1 → t2 → t3 → Prop} (x0 : t0) (x1 : t1) (x2 : t2) (x3 : t3) (h : p x0 x1 x2 x3) : ∃ y0 y1 y2 y3, p y0 y1 y2 y3 := ⟨x0, x1, x2, x3, h⟩
theorem exi5 {t0 t1 t2 t3 t4 : Sort _} {p : t0 → t1 → t2 → t3 → t4 → Prop} (x0 : t0) (x1 : t1) (x2 : t2) (x3 : t3) (x4 : t4) (h : p x0 x1 x2 x3 x4) : ∃ y0 y1 y2 y3 y4, p y0 y1 y2 y3 y4 := ⟨x0, x1, x2, x3, x4, h⟩
theorem exi6 {t0 t1 t2 t3 t4 t5 : Sort _} {p : t0 → t1 → t2 → t3 → t4 → t5 → Prop} (x0 : t0) (x1 : t1) (x2 : t2) (x3 : t3) (x4 : t4) (x5 : t5) (h : p x0 x1 x2 x3 x4 x5) : ∃ y0 y1 y2 y3 y4 y5, p y0 y1 y2 y3 y4 y5 := ⟨x0, x1, x2, x3, x4, x5, h⟩
theorem exi7 {t0 t1 t2 t3 t4 t5 t6 : Sort _} {p : t0 → t1 → t2 → t3 → t4 → t5 → t6 → Prop} (x0 : t0) (x1 : t1) (x2 : t2) (x3 : t3) (x4 : t4) (x5 : t5) (x6 : t6) (h : p x0 x1 x2 x3 x4 x5 x6) : ∃ y0 y1 y2 y3 y4 y5 y6, p y0 y1 y2 y3 y4 y5 y6 := ⟨x0, x1, x2, x3, x4, x5, x6, h⟩
theorem exi8 {t0 t1 t2 t3 t4 t5 t6 t7 : Sort _} {p : t0 → t1 → t2 → t3 → t4 → t5 → t6 → t7 → Prop} (x0 : t0) (x1 : t1) (x2 : t2) (x3 : t3) (x4 : t4) (x5 : t5) (x6 : t6) (x7 : t7) (h : p x0 x1 x2 x3 x4 x5 x6 x7) : ∃ y0 y1 y2 y3 y4 y5 y6 y7, p y0 y1 y2 y3 y4 y5 y6 y7 := ⟨x0, x1, x2, x3, x4, x5, x6, x7, h⟩
theorem exi9 {t0 t1 t2 t3 t4 t5 t6 t7 t8 : Sort _} {p : t0 → t1 → t2 → t3 → t4 → t5 → t6 → t7 → t8 → Prop} (x0 : t0) (x1 : t1) (x2 : t2) (x3 : t3) (x4 : t4) (x5 : t5) (x6 : t6) (x7 : t7) (x8 : t8) (h : p x0 x1 x2 x3 x4 x5 x6 x7 x8) : ∃ y0 y1 y2 y3 y4 y5 y6 y7 y8, p y0 y1 y2 y3 y4 y5 y6 y7 y8 := ⟨x0, x1, x2, x3, x4, x5, x6, x7, x8, h⟩
theorem exi10 {t0 t1 t2 t3 t4 t5 t6 t7 t8 t9 : Sort _} {p : t0 → t1 → t2 → t3 → t4 → t5 → t6 → t7 → t8 → t9 → Prop} (x0 : t0) (x1 : t1) (x2 : t2) (x3 : t3) (x4 : t4) (x5 : t5) (x6 : t6) (x7 : t7) (x8 : t8) (x9 : t9) (h : p x0 x1 x2 x3 x4 x5 x6 x7 x8 x9) : ∃ y0 y1 y2 y3 y4 y5 y6 y7 y8 y9, p y0 y1 y2 y3 y4 y5 y6 y7 y8 y9 := ⟨x0, x1, x2, x3, x4, x5, x6, x7, x8, x9, h⟩
theorem exi11 {t0 t1 t2 t3 t4 t5 t6 t7 t8 t9 t10 : Sort _} {p : t0 → t1 → t2 → t3 → t4 → t5 → t6 → t7 → t8 → t9 → t10 → Prop} (x0 : t0) (x1 : t1) (x2 : t2) (x3 : t3) (x4 : t4) (x5 : t5) (x6 : t6) (x7 : t7) (x8 : t8) (x9 : t9) (x10 : t10) (h : p x0 x1 x2 x3 x4 x5 x6 x7 x8 x9 x10) : ∃ y0 y1 y2 y3 y4 y5 y6 y7 y8 y9 y10, p y0 y1 y2 y3 y4 y5 y6 y7 y8 y9 y10 := ⟨x0, x1, x2, x3, x4, x5, x6, x7, x8, x9, x10, h⟩
theorem exi12 {t0 t1 t2 t3 t4 t5 t6 t7 t8 t9 t10 t11 : Sort _} {p : t0 → t1 → t2 → t3 → t4 → t5 → t6 → t7 → t8 → t9 → t10 → t11 → Prop} (x0 : t0) (x1 : t1) (x2 : t2) (x3 : t3) (x4 : t4) (x5 : t5) (x6 : t6) (x7 : t7) (x8 : t8) (x9 : t9) (x10 : t10) (x11 : t11) (h : p x0 x1 x2 x3 x4 x5 x6 x7 x8 x9 x10 x11) : ∃ y0 y1 y2 y3 y4 y5 y6 y7 y8 y9 y10 y11, p y0 y1 y2 y3 y4 y5 y6 y7 y8 y9 y10 y11 := ⟨x0, x1, x2, x3, x4, x5, x6, x7, x8, x9, x10, x11, h⟩
theorem exi13 {t0 t1 t2 t3 t4 t5 t6 t7 t8 t9 t10 t11 t12 : Sort _} {p : t0 → t1 → t2 → t3 → t4 → t5 → t6 → t7 → t8 → t9 → t10 → t11 → t12 → Prop} (x0 : t0) (x1 : t1) (x2 : t2) (x3 : t3) (x4 : t4) (x5 : t5) (x6 : t6) (x7 : t7) (x8 : t8) (x9 : t9) (x10 : t10) (x11 : t11) (x12 : t12) (h : p x0 x1 x2 x3 x4 x5 x6 x7 x8 x9 x10 x11 x12) : ∃ y0 y1 y2 y3 y4 y5 y6 y7 y8 y9 y10 y11 y12, p y0 y1 y2 y3 y4 y5 y6 y7 y8 y9 y10 y11 y12 := ⟨x0, x1, x2, x3, x4, x5, x6, x7, x8, x9, x10, x11, x12, h⟩
theorem exi14 {t0 t1 t2 t3 t4 t5 t6 t7 t8 t9 t10 t11 t12 t13 : Sort _} {p : t0 → t1 → t2 → t3 → t4 → t5 → t6 → t7 → t8 → t9 → t10 → t11 → t12 → t13 → Prop} (x0 : t0) (x1 : t1) (x2 : t2) (x3 : t3) (x4 : t4) (x5 : t5) (x6 : t6) (x7 : t7) (x8 : t8) (x9 : t9) (x10 : t10) (x11 : t11) (x12 : t12) (x13 : t13) (h : p x0 x1 x2 x3 x4 x5 x6 x7 x8 x9 x10 x11 x12 x13) : ∃ y0 y1 y2 y3 y4 y5 y6 y7 y8 y9 y10 y11 y12 y13, p y0 y1 y2 y3 y4 y5 y6 y7 y8 y9 y10 y11 y12 y13 := ⟨x0, x1, x2, x3, x4, x5, x6, x7, x8, x9, x10, x11, x12, x13, h⟩
theorem and4 {a b c d C : Prop} (h : a ∧ b ∧ c ∧ d) (k : a → b → c → d → C) : C := k h.1 h.2.1 h.2.2.1 h.2.2.2
theorem and8 {a b c d e f g i C : Prop} (h : a ∧ b ∧ c ∧ d ∧ e ∧ f ∧ g ∧ i) (k : a → b → c → d → e → f → g → i → C) : C := k h.1 h.2.1 h.2.2.1 h.2.2.2.1 h.2.2.2.2.1 h.2.2.2.2.2.1 h.2.2.2.2.2.2.1 h.2.2.2.2.2.2.2
theorem and2 {a b C : Prop} (h : a ∧ b) (k : a → b → C) : C := k h.1 h.2
end Mine

section
open PySem PySem.W PyProof.Rows
set_option Elab.async false
set_option maxRecDepth 100000
set_option maxHeartbeats 8000000
namespace Mine
theorem hq.tw11019893019991864792 : True := trivial
theorem hq.tw15845295974008438820 : True := trivial
theorem hq.tw1689168032168382222 : True := trivial
theorem hq.tw11680639651703037734 : True := trivial
theorem hq.tw10040545108741746479 : True := trivial
theorem hq.tw3455308962889646840 : True := trivial
theorem hq.tw17902930030003942018 : True := trivial
theorem hq.tw1077786991501375613 : True := trivial
theorem hq.tw3742555154600359644 : True := trivial
theorem hq.tw5918808887538486613 : True := trivial
theorem hq.tw11859799080630509374 : True := trivial
theorem hq.tw8006399401481822002 : True := trivial
theorem hq.tw5716233756893113283 : True := trivial
theorem hq.tw15259337764663761874 : True := trivial
theorem hq.tw6986554715489587376 : True := trivial
theorem hq.tw12004464306192787981 : True := trivial
theorem hq.tw422968161306766010 : True := trivial
theorem hq.tw3740065285785249502 : True := trivial
theorem hq.tw8579607133825383857 : True := trivial
theorem hq.tw13386853361073618200 : True := trivial
theorem hq.tw17879365699992799094 : True := trivial
theorem hq.tw12715132134301617826 : True := trivial
theorem hq.tw6198215530510664003 : True := trivial
theorem hq.tw1317706347771554523 : True := trivial
theorem hq.tw17825931139666831749 : True := trivial
theorem hq.tw9571294605806389499 : True := trivial
theorem hq.tw5362858303882209926 : True := trivial
theorem hq.tw9587945978599180043 : True := trivial
theorem hq.tw294346977145205996 : True := trivial
theorem hq.tw4946383828533854928 : True := trivial
theorem hq.tw8730945224104303747 : True := trivial
theorem hq.tw9093969433058699393 : True := trivial
theorem hq.tw15237585417050144446 : True := trivial
theorem hq.tw14606284647684827851 : True := trivial
theorem hq.tw10762033020378915678 : True := trivial
theorem hq.tw1065147627967909635 : True := trivial
theorem hq.tw10730410937809808464 : True := trivial
theorem hq.tw8901461660374308188 : True := trivial
theorem hq.tw3037675849110509036 : True := trivial
theorem hq.tw10886989099820552489 : True := trivial
theorem hq.tw7197756717948083382 : True := trivial
theorem hq.tw6863936238956043273 : True := trivial
theorem hq.tw1092207766768780337 : True := trivial
theorem hq.tw6455756017582676566 : True := trivial
theorem hq.tw17780500068779222406 : True := trivial
theorem hq.tw13440762016570806802 : True := trivial
theorem hq.tw9148642578272223910 : True := trivial
theorem hq.tw9207521908033552387 : True := trivial
theorem hq.tw15423240219456365299 : True := trivial
theorem hq.tw8681993153774258059 : True := trivial
theorem hq.tw13467073522293180492 : True := trivial
theorem hq.tw678496719680156432 : True := trivial
theorem hq.tw16866284751679379099 : True := trivial
theorem hq.tw1867911258190959095 : True := trivial
theorem hq.tw14573932817365616576 : True := trivial
theorem hq.tw8790828390378762966 : True := trivial
theorem hq.tw7236727538911957410 : True := trivial
theorem hq.tw10618658321829568197 : True := trivial
theorem hq.tw12027242142410537600 : True := trivial
theorem hq.tw11799065448321410615 : True := trivial
theorem hq.tw2359487784975943476 : True := trivial
theorem hq.tw15446492072542824333 : True := trivial
theorem hq.tw3189123537003708839 : True := trivial
theorem hq.tw11113123226198928721 : True := trivial
theorem hq.tw2755983483989328860 : True := trivial
theorem hq.tw13430219750605534629 : True := trivial
theorem hq.tw11726006426366056760 : True := trivial
theorem hq.tw10789648899292006505 : True := trivial
theorem hq.tw15199564071126152885 : True := trivial
theorem hq.tw9212920207547763903 : True := trivial
theorem hq.tw9187125038093738206 : True := trivial
theorem hq.tw7848897655501345181 : True := trivial
theorem hq.tw17348342553619655663 : True := trivial
theorem hq.tw11777901173989044216 : True := trivial
theorem hq.tw7648468008112387068 : True := trivial
theorem hq.tw16587256741906681247 : True := trivial
theorem hq.tw16312630280759524047 : True := trivial
theorem hq.tw86090777906224306 : True := trivial
theorem hq.tw397842712603913252 : True := trivial
theorem hq.tw3361149393390224911 : True := trivial
theorem hq.tw16687082601267759618 : True := trivial
theorem hq.tw4546074240011204677 : True := trivial
theorem hq.tw16733768297759083897 : True := trivial
theorem hq.tw1713047816211994448 : True := trivial
theorem hq.tw14134988346287058128 : True := trivial
theorem hq.tw10922731400686858381 : True := trivial
theorem hq.tw15728528835272037449 : True := trivial
theorem hq.tw15837824810613311462 : True := trivial
theorem hq.tw14641075286552997501 : True := trivial
theorem hq.tw387168788536374806 : True := trivial
theorem hq.tw10645238347840437551 : True := trivial
theorem hq.tw11905103849052571643 : True := trivial
theorem hq.tw12356797087380579375 : True := trivial
theorem hq.tw12689797307471133145 : True := trivial
theorem hq.tw12499782662635199009 : True := trivial
theorem hq.tw3193841750729361392 : True := trivial
theorem hq.tw10949417307116649904 : True := trivial
theorem hq.tw5570203876219217069 : True := trivial
theorem hq.tw15221823107381239786 : True := trivial
theorem hq.tw7132451210756851118 : True := trivial
theorem hq.tw16437277626196524071 : True := trivial
theorem hq.tw5550645889864876481 : True := trivial
theorem hq.tw2595860164061439621 : True := trivial
theorem hq.tw14138708518247797436 : True := trivial
theorem hq.tw3677322173893665572 : True := trivial
theorem hq.tw12221509901974505933 : True := trivial
theorem hq.tw97283485784514099 : True := trivial
theorem hq.tw10591641800718975653 : True := trivial
theorem hq.tw9360297418520933009 : True := trivial
theorem hq.tw4350752526242198708 : True := trivial
theorem hq.tw11544782399149743252 : True := trivial
theorem hq.tw6948707883342110362 : True := trivial
theorem hq.tw14260814442471449860 : True := trivial
theorem hq.tw14921097802290870799 : True := trivial
theorem hq.tw12403840320367909481 : True := trivial
theorem hq.tw12752235170985521790 : True := trivial
theorem hq.tw17526737731314326238 : True := trivial
theorem hq.tw9208846408185196016 : True := trivial
theorem hq.tw12828328665100613737 : True := trivial
theorem hq.tw2588340796960613528 : True := trivial
theorem hq.tw2038258525303997705 : True := trivial
theorem hq.tw14767500979269460880 : True := trivial
theorem hq.tw16135036443086680831 : True := trivial
theorem hq.tw9361816499221692195 : True := trivial
theorem hq.tw10918371451160761564 : True := trivial
theorem hq.tw10709139686139220274 : True := trivial
theorem hq.tw5157563040972947985 : True := trivial
theorem hq.tw1204501442002061217 : True := trivial
theorem hq.tw8190202656328424922 : True := trivial
theorem hq.tw1215211043293446098 : True := trivial
theorem hq.tw786983592624328476 : True := trivial
theorem hq.tw6588836355303382947 : True := trivial
theorem hq.tw9996232456962452084 : True := trivial
theorem hq.tw6408331765607308936 : True := trivial
theorem hq.tw2629656168877618482 : True := trivial
theorem hq.tw1215646606479896808 : True := trivial
theorem hq.tw9238357452859208912 : True := trivial
theorem hq.tw2957566465568781398 : True := trivial
theorem hq.tw3506926204920652099 : True := trivial
theorem hq.tw10135920134358007733 : True := trivial
theorem hq.tw18056564054905640431 : True := trivial
theorem hq.tw3299317595170893676 : True := trivial
theorem hq.tw16439824060626900560 : True := trivial
theorem hq.tw3097092514026646979 : True := trivial
theorem hq.tw18166720305549734728 : True := trivial
theorem hq.tw995884765106699268 : True := trivial
theorem hq.tw16948581646639875924 : True := trivial
theorem hq.tw11682691840676413432 : True := trivial
theorem hq.tw15344834121828091441 : True := trivial
theorem hq.tw5359802451324224276 : True := trivial
theorem hq.tw877440714177637458 : True := trivial
theorem hq.tw5999762942616630234 : True := trivial
theorem hq.tw9469107371503797294 : True := trivial
theorem hq.tw5583099205030899010 : True := trivial
theorem hq.tw15036046973240775042 : True := trivial
theorem hq.tw11746701785593101953 : True := trivial
theorem hq.tw11660466864898884675 : True := trivial
theorem hq.tw7493596072009154009 : True := trivial
theorem hq.tw15006352643961856053 : True := trivial
theorem hq.tw5950677671936398562 : True := trivial
theorem hq.tw16596754550869288079 : True := trivial
theorem hq.tw4311441633026701013 : True := trivial
theorem hq.tw9021739480268828970 : True := trivial
theorem hq.tw11352409579013290293 : True := trivial
theorem hq.tw11573584222817949985 : True := trivial
theorem hq.tw5014486830860841295 : True := trivial
theorem hq.tw7735636869469766382 : True := trivial
theorem hq.tw18222456224920340064 : True := trivial
theorem hq.tw9874865869056831207 : True := trivial
theorem hq.tw7594823837487697149 : True := trivial
theorem hq.tw15727085520739604322 : True := trivial
theorem hq.tw11179323429692803075 : True := trivial
theorem hq.tw8195265714174851741 : True := trivial
theorem hq.tw3368380476412548380 : True := trivial
theorem hq.tw2402255740628510884 : True := trivial
theorem hq.tw14090489456737567370 : True := trivial
theorem hq.tw15578775649258469748 : True := trivial
theorem hq.tw8353777326811555209 : True := trivial
theorem hq.tw2662919940393454863 : True := trivial
theorem hq.tw11554662426500475736 : True := trivial
theorem hq.tw4660381870609785984 : True := trivial
theorem hq.tw3058766334438104294 : True := trivial
theorem hq.tw6907540607566796594 : True := trivial
theorem hq.tw4115734150362941707 : True := trivial
theorem hq.tw408765289732004515 : True := trivial
theorem hq.tw10781752574721213417 : True := trivial
theorem hq.tw3595212975339950909 : True := trivial
theorem hq.tw17818709038824442621 : True := trivial
theorem hq.tw13480142478140732419 : True := trivial
theorem hq.tw7617401458595189159 : True := trivial
theorem hq.tw9982767166141985870 : True := trivial
theorem hq.tw12417107906542246192 : True := trivial
theorem hq.tw720753732149761458 : True := trivial
theorem hq.tw14911381924018805466 : True := trivial
theorem hq.tw14659452312840108858 : True := trivial
theorem hq.tw658080111683550869 : True := trivial
theorem hq.tw17440577594183853653 : True := trivial
theorem hq.tw174559997802147737 : True := trivial
theorem hq.tw5655023943196998090 : True := trivial
theorem hq.tw4853409990576548572 : True := trivial
theorem hq.tw1076772970588649064 : True := trivial
theorem hq.tw6158706959689948030 : True := trivial
theorem hq.tw13624871306138956303 : True := trivial
theorem hq.tw4243083796592850209 : True := trivial
theorem hq.tw7714600533017761178 : True := trivial
theorem hq.tw6298417333851335056 : True := trivial
theorem hq.tw644453710763935745 : True := trivial
theorem hq.tw15624256774194746183 : True := trivial
theorem hq.tw15728288989851452110 : True := trivial
theorem hq.tw13621018777811021198 : True := trivial
theorem hq.tw5816187635235627954 : True := trivial
theorem hq.tw10852651221721149361 : True := trivial
theorem hq.tw14347458188094156800 : True := trivial
theorem hq.tw2948427321222195413 : True := trivial
theorem hq.tw14608218286357026402 : True := trivial
theorem hq.tw11650315370004631581 : True := trivial
theorem hq.tw17102488320179782129 : True := trivial
theorem hq.tw16532226989137457422 : True := trivial
theorem hq.tw1418516480655083754 : True := trivial
theorem hq.tw3860160172124116054 : True := trivial
theorem hq.tw2946137121783607354 : True := trivial
theorem hq.tw15308691851309604885 : True := trivial
theorem hq.tw6415881933572118902 : True := trivial
theorem hq.tw13511257311680140785 : True := trivial
theorem hq.tw6417544796135151931 : True := trivial
theorem hq.tw17183590125877225614 : True := trivial
theorem hq.tw16309087944115648395 : True := trivial
theorem hq.tw418318447762976485 : True := trivial
theorem hq.tw13045498286575850988 : True := trivial
theorem hq.tw8282695177732268500 : True := trivial
theorem hq.tw5565755140063297045 : True := trivial
theorem hq.tw10238564317267674855 : True := trivial
theorem hq.tw4692870700459364179 : True := trivial
theorem hq.tw7289135193443449754 : True := trivial
theorem hq.tw537532579677287080 : True := trivial
theorem hq.tw2400290763004113298 : True := trivial
theorem hq.tw17019857079543265187 : True := trivial
theorem hq.tw2108135039136384001 : True := trivial
theorem hq.tw1788524999702715483 : True := trivial
theorem hq.tw10887598285967355797 : True := trivial
theorem hq.tw7676329630453423615 : True := trivial
theorem hq.tw14487054660940175904 : True := trivial
theorem hq.tw16333305472645492373 : True := trivial
theorem hq.tw16230015347545611170 : True := trivial
theorem hq.tw4129746941015335271 : True := trivial
theorem hq.tw15620077010468281029 : True := trivial
theorem hq.tw8486486585796936992 : True := trivial
theorem hq.tw17471153137332560886 : True := trivial
theorem hq.tw9498602153735666431 : True := trivial
theorem hq.tw7802796310527545338 : True := trivial
theorem hq.tw8640341651363947035 : True := trivial
theorem hq.tw4680908178029462627 : True := trivial
theorem hq.tw16860378030747923541 : True := trivial
theorem hq.tw6628316596853508578 : True := trivial
theorem hq.tw18019981978027968674 : True := trivial
theorem hq.tw17823719516021263984 : True := trivial
theorem hq.tw13245239396949173274 : True := trivial
theorem hq.tw11126039153304851925 : True := trivial
theorem hq.tw8757784013649982839 : True := trivial
theorem hq.tw4698585907045231803 : True := trivial
theorem hq.tw7820497904736025370 : True := trivial
theorem hq.tw11390588496013053899 : True := trivial
theorem hq.tw11375644988868535524 : True := trivial
theorem hq.tw12275752807314930376 : True := trivial
theorem hq.tw6845263155623966138 : True := trivial
theorem hq.tw16282576007271197007 : True := trivial
theorem hq.tw16173062353711974915 : True := trivial
theorem hq.tw17705287503198802652 : True := trivial
theorem hq.tw14524287273398715121 : True := trivial
theorem hq.tw1828655680437994062 : True := trivial
theorem hq.tw11281598432524755423 : True := trivial
theorem hq.tw3434791972237028644 : True := trivial
theorem hq.tw5744570908880566212 : True := trivial
theorem hq.tw6106674889667769321 : True := trivial
theorem hq.tw9506501328935292652 : True := trivial
theorem hq.tw15578668795568228083 : True := trivial
theorem hq.tw8474618723039988040 : True := trivial
theorem hq.tw1296225330975316886 : True := trivial
theorem hq.tw406346161748027976 : True := trivial
set_option Elab.async true in
theorem hq : True := by
  first
  | (have hx9 : PySem.Challenge.rw_pd0114_01.Holds := with_decl_name% Mine.hq.hd ((by
       set_option Elab.async false in
       ((w_on; o_law; k_head); fail "back") : PySem.Challenge.rw_pd0114_01.Holds) :)
     trivial)
  | trivial
theorem hq2 : True := hq
end Mine
namespace Mine.hq
open_top hd for PySem.Challenge.rw_pd0114_01
end Mine.hq

end

section
open PySem PySem.W PySem.Calls PyProof.Rows
namespace Mine
-- B0
section
open PySem PySem.W PySem.Calls PyProof.Rows
set_option maxRecDepth 100000
section
section
variable {prog : Program} {w : World} {A : Around} {E : Value → Shared → Prop} {s : Shared}
theorem sub_str_str : isSubtype (.type "str") (.type "str") = pure true := by rw [isSubtype_type]; kernel_rfl
theorem issub_nested_str {k : Value} {dep : Int} {tk : Tok} {Q : Fin → Shared → Prop} (hk : k = .int dep tk) (hq : Q (.done (.ret (.bool true))) s) :
    wpAny (model prog w) A (Builtin.«issubclass.nested» ⟨[.type "str", .type "str", k], []⟩) Q E s := by
  subst hk
  have hm : ((Value.type "type" == Value.type "type") = true) := by decide
  repeat (any_goals (first | assumption | (rw [if_pos hm]) | (rw [sub_str_str]) | wp_step))
theorem kind_isn : builtinKind "issubclass.nested" = none := by decide +kernel
theorem plain_isn : plainId "issubclass.nested" = true := by decide +kernel
theorem args_isn (a b c : Value) : argsOk "issubclass.nested" ⟨[a, b, c], []⟩ := by unfold argsOk; kernel_rfl
theorem meets_isn {dep : Int} {tk : Tok} : Meets (Builtin.«issubclass.nested» ⟨[.type "str", .type "str", .int dep tk], []⟩) (fun _ R s => R (.ok (.ret (.bool true))) s) :=
  fun _ _ _ _ _ hs => issub_nested_str rfl hs
theorem issub_nested_tuple {d : Addr} {tk : Tok} {Q : Fin → Shared → Prop} (ho : s.heap.get? d = some { cls := .type "tuple", data := .seq #[.type "str", .type "bytes"] }) (hq : Q (.done (.ret (.bool true))) s) :
    wpAny (model prog w) A (Builtin.«issubclass.nested» ⟨[.type "str", .ref d, .int 0 tk], []⟩) Q E s := by
  have hT2 : s.TypeIs (.ref d) "tuple" := ⟨_, ho, rfl⟩
  have f1 := F.isi_sub_tuple
  repeat (any_goals (first | assumption | ((with_reducible show wpAny _ _ (call (Value.builtin "issubclass.nested") _) _ _ _); exact call_function_meets kind_isn plain_isn F.entry_issubclass_nested (args_isn _ _ _) meets_isn (by repeat (any_goals (first | assumption | wp_step)))) | wp_step))
theorem call_issub {d : Addr} {Q : Value → Shared → Prop} (ho : s.heap.get? d = some { cls := .type "tuple", data := .seq #[.type "str", .type "bytes"] }) (h : Q (.bool true) s) :
    wpAny (model prog w) A (call (.builtin "issubclass") [.type "str", .ref d]) Q E s :=
  call_issubclass (S := fun _ R s => s.heap.get? d = some { cls := .type "tuple", data := .seq #[.type "str", .type "bytes"] } ∧ R (.ok (.ret (.bool true))) s) (fun _ _ _ _ _ hs => issubclass_outer (issub_nested_tuple hs.1 hs.2)) ⟨ho, h⟩
end
end

end
-- X1
section
open PySem PySem.W PySem.Calls PyProof.Rows
section
/-- what a caller's frame holds that its callee never looks at -/
structure ER where
  nms : List (Str × NameKind)
  ig : Bool
  ic : Bool
  mo : List (Str × Const)
  gl : Addr
  bi : Addr
  cls : List (Str × Addr)
  qn : Str
  fn : Option Addr
  code : Value
  gs : Option (List Code)
def fE (L : Addr) (c : ER) : Env := ⟨⟨.function, c.nms, c.ig, c.ic, c.mo⟩, L, c.gl, c.cls, c.qn, c.fn, c.code, some L, c.bi⟩
def fA (d u : Nat) (L : Addr) (c : ER) (outer : List Env) : Around := ⟨none, d, some (fE L c :: outer), c.gs, u⟩
theorem packA {P : Around → Prop} {d u : Nat} {L : Addr} {outer : List Env} {nms : List (Str × NameKind)} {ig ic : Bool} {mo : List (Str × Const)} {gl bi : Addr} {cls : List (Str × Addr)} {qn : Str} {fn : Option Addr} {code : Value} {gs : Option (List Code)}
  (h : ∀ c : ER, P (fA d u L c outer)) : P ⟨none, d, some ((⟨⟨.function, nms, ig, ic, mo⟩, L, gl, cls, qn, fn, code, some L, bi⟩ : Env) :: outer), gs, u⟩ :=
  h ⟨nms, ig, ic, mo, gl, bi, cls, qn, fn, code, gs⟩
theorem room_s {x n : Nat} (h : x < n) : x + 1 < n + 1 := Nat.succ_lt_succ h
theorem packQ {α : Type} {M : Model} {A : Around} {x : Sem α} {Q : α → Shared → Prop} {E : Value → Shared → Prop} {s : Shared}
  (h : ∀ Q' : α → Shared → Prop, (∀ v t, Q v t → Q' v t) → wpAny M A x Q' E s) : wpAny M A x Q E s := h Q fun _ _ h => h
theorem packF {M : Model} {A : Around} {x : Sem Unit} {b : Sem Flow} {W : Flow → Shared → Prop} {E E1 : Value → Shared → Prop} {s : Shared}
  (h : ∀ W' : Flow → Shared → Prop, (∀ v t, W v t → W' v t) → wpAny M A x (fun _ s₂ => wpAny M A b W' E1 s₂) E s) :
  wpAny M A x (fun _ s₂ => wpAny M A b W E1 s₂) E s := h W fun _ _ h => h
theorem packW {M : Model} {A : Around} {x : Sem Bool} {b1 b2 : Sem Flow} {W Q : Flow → Shared → Prop} {E E1 E2 : Value → Shared → Prop} {s : Shared}
  (h : ∀ W' : Flow → Shared → Prop, (∀ v t, W v t → W' v t) → wpAny M A x (fun b s₂ => if b = true then wpAny M A b1 W' E1 s₂ else wpAny M A b2 Q E2 s₂) E s) :
  wpAny M A x (fun b s₂ => if b = true then wpAny M A b1 W E1 s₂ else wpAny M A b2 Q E2 s₂) E s := h W fun _ _ h => h
theorem packB {M : Model} {α : Type} {p : Sem α} {Q : α → Shared → Prop} {E : Value → Shared → Prop} {s : Shared} {d u : Nat} {L : Addr} {outer : List Env} {nms : List (Str × NameKind)} {ig ic : Bool} {mo : List (Str × Const)} {gl bi : Addr} {cls : List (Str × Addr)} {qn : Str} {fn : Option Addr} {code : Value} {gs : Option (List Code)}
  (h : ∀ c : ER, wpAny M (fA d u L c outer) p Q E s) : wpAny M ⟨none, d, some ((⟨⟨.function, nms, ig, ic, mo⟩, L, gl, cls, qn, fn, code, some L, bi⟩ : Env) :: outer), gs, u⟩ p Q E s :=
  h ⟨nms, ig, ic, mo, gl, bi, cls, qn, fn, code, gs⟩
/-- one name bound anew -/
def upd (m : Str → Option Value) (x : Str) (v : Value) : Str → Option Value := fun y => if y = x then some v else m y
theorem upn {m : Str → Option Value} {x y : Str} {v : Value} {b : Option Value} (h : ¬ y = x) (k : m y = b) : upd m x v y = b := (if_neg h).trans k
theorem itn {c : Prop} [Decidable c] {α : Sort _} {t e b : α} (h : ¬ c) (k : e = b) : (if c then t else e) = b := (if_neg h).trans k
section
variable {M : Model} {A : Around} {E : Value → Shared → Prop} {s : Shared} {h₀ h : Heap} {L a : Addr} {m : Str → Option Value} {cn : Str} {cs : Scope} {ccd : Value} {cl : List (Str × Addr)}
  {x : Str} {v : Value} {Q : Unit → Shared → Prop} {news : List (Addr × Obj)} {tk n : Nat}
/-- a store that leaves the state flat -/
theorem storeF1 (s : Shared) (F : Fr h₀ L h m) (N : News h₀ L h news)
    (H : ∀ h', Fr h₀ L h' (upd m x v) → News h₀ L h' news → Q () { s with heap := h', toks := tk + 1 })
    (hk : cs.kind = .function := by rfl) (hx : (envX cn cs L a ccd cl).kindOf x = some .local := by rfl) : wpAny M A (storeName (envX cn cs L a ccd cl) x v) Q E { s with heap := h, toks := tk } :=
  storeX_L (s := { s with heap := h, toks := tk }) F N H hk hx
theorem storeF2 (s : Shared) (F : Fr h₀ L h m) (N : News h₀ L h news)
    (H : ∀ h', Fr h₀ L h' (upd m x v) → News h₀ L h' news → Q () { s with heap := h', toks := tk + (n + 1) })
    (hk : cs.kind = .function := by rfl) (hx : (envX cn cs L a ccd cl).kindOf x = some .local := by rfl) : wpAny M A (storeName (envX cn cs L a ccd cl) x v) Q E { s with heap := h, toks := tk + n } :=
  storeX_L (s := { s with heap := h, toks := tk + n }) F N H hk hx
end
end

end
-- B1 (ahead)
section
open PySem PySem.W PySem.Calls PyProof.Rows
set_option maxRecDepth 100000
section
theorem sub1 {h₀ h : Heap} {L : Addr} {p : Addr × Obj} {a : List (Addr × Obj)} (N : News h₀ L h (p :: a)) : News h₀ L h a := fun q hq => N q (.tail _ hq)
end
end
section
local macro_rules | `(tactic| walk_at "room") => `(tactic| first | (with_reducible (refine' Nat.lt_of_lt_of_le ?h ?k; (case h => assumption); exact Nat.le_of_ble_eq_true rfl)) | ((with_reducible refine room_s ?_); walk_at "room") | omega)
section
local macro_rules | `(tactic| walk_at "step9") => `(tactic| first | ((fail_if_success (goal_lacks PySem.W.LeaveK PySem.W.LeaveS)); (fail_if_success (fail_if_success (first | (with_reducible show wpAny _ _ (execs _ _) (fun _ _ => LeaveK _ _ _ _ _ _ _) _ _) | (with_reducible show wpAny _ _ (execs _ _) (fun _ _ => LeaveS _ _ _ _ _ _ _ _ _ _ _ _ _ _ _ _ _ _) _ _)))); k_fold) | (k_unfold; (try dsimp only)) | (k_end; wrow_close) | walk1 | (dsimp only; walk1) | (leave1; walk_say "STEP leave1"; try dsimp only) | fail "no step")
section
local macro_rules | `(tactic| k_steps) => `(tactic| repeat' (walk_at "step9"))
section
local macro_rules | `(tactic| k_room) => `(tactic| ((try simp only [depth_under_make, depth_under_kw, depth_in1, depth_deeper, depth_caller]); (try dsimp only [fA, Around.deeper, Around.in1, recursionLimit]); walk_at "room"))
section
local macro_rules | `(tactic| k_ne) => `(tactic| (refine neN ?_; (try dsimp only); first | with_reducible (refine Nat.ne_of_lt ?_; assumption) | with_reducible (refine Nat.ne_of_gt ?_; assumption) | with_reducible assumption | with_reducible (refine Ne.symm ?_; assumption) | omega))
section
set_option hygiene false in
local macro_rules | `(tactic| walk_at "storeName") => `(tactic| (k_here; k_dflt (first | (refine' storeF2 s ?F ?N ?_ ?a ?b; (case F => k_asm); (case N => k_asm); (case a => rfl); (case b => rfl); k_whole) | (refine' storeF1 s ?F ?N ?_ ?a ?b; (case F => k_asm); (case N => k_asm); (case a => rfl); (case b => rfl); k_whole)); intro _ _ _; (try k_sweep)))
section
local macro_rules | `(tactic| walk_at "call builtin:issubclass") => `(tactic| (k_here; (with_reducible show wpAny _ _ (call (Value.builtin "issubclass") [Value.type "str", Value.ref _]) _ _ _); k_dflt (refine' call_issub (by exact News.get (by k_asm) (by k_mem)) ?_)))
section
local macro_rules | `(tactic| walk_at "drop") => `(tactic| first | assumption | exact sub1 (by assumption) | exact sub1 (sub1 (by assumption)) | exact sub1 (sub1 (sub1 (by assumption))))
-- B1
section
open PySem PySem.W PySem.Calls PyProof.Rows
set_option maxRecDepth 100000
section

section
variable {w : World} {s : Shared} {A₀ : Around} {base h₀ : Heap} {outer : List Env} {L a : Addr} {cd code : Value} {nm qn : Str} {gl bi : Addr} {cls : List (Str × Addr)} {fn : Option Addr} {nms : List (Str × NameKind)} {mo : List (Str × Const)} {ig ic : Bool} {m mg mb : Str → Option Value} {news : List (Addr × Obj)} {loose : List Str} {mean : ExcName → Option Value} {d u : Nat} {gs : Option (List Code)} {Q : Value → Shared → Prop} {E : Value → Shared → Prop}
set_option maxHeartbeats 8000000 in
theorem fspath_spec {x : Str} {t : Tok}
 (B : Below A₀ base outer h₀) (F : Fr h₀ L s.heap m) (X₀ : (Mine.hq.hd.heap_39 w.params).In h₀) (N : News h₀ L s.heap news) (T : Top topProg loose mean mg mb h₀) (hd : d < 600) (hu : u < 600) 
 (h : ∀ h' tk, Fr h₀ L h' m → News h₀ L h' news → Q (.str x t) { s with heap := h', toks := tk }) :
 wpAny (model Challenge.rw_pd0114_01.row.prog w) ⟨none, d, some ((⟨⟨.function, nms, ig, ic, mo⟩, L, gl, cls, qn, fn, code, some L, bi⟩ : Env) :: outer), gs, u⟩ (call (.ref 223) [.str x t]) Q E s := by
  revert X₀; k_fill; intro X₀
  refine packB fun er9 => ?_
  w_top off
  w_strict k_steps
  exact h _ _ (by assumption) (by walk_at "drop")
set_option maxHeartbeats 8000000 in
theorem getsep_spec {x : Str} {t : Tok}
 (B : Below A₀ base outer h₀) (F : Fr h₀ L s.heap m) (X₀ : (Mine.hq.hd.heap_39 w.params).In h₀) (N : News h₀ L s.heap news) (T : Top topProg loose mean mg mb h₀) (hd : d < 600) (hu : u < 600) 
 (h : ∀ h' tk t', Fr h₀ L h' m → News h₀ L h' news → Q (.str (Str.ofString "/") t') { s with heap := h', toks := tk }) :
 wpAny (model Challenge.rw_pd0114_01.row.prog w) ⟨none, d, some ((⟨⟨.function, nms, ig, ic, mo⟩, L, gl, cls, qn, fn, code, some L, bi⟩ : Env) :: outer), gs, u⟩ (call (.ref 237) [.str x t]) Q E s := by
  revert X₀; k_fill; intro X₀
  refine packB fun er9 => ?_
  w_top off
  w_strict k_steps
  exact h _ _ _ (by assumption) (by walk_at "drop")
end
end

end
-- B2
section
open PySem PySem.W PySem.Calls PyProof.Rows
set_option maxRecDepth 100000
section
section
variable {prog : Program} {w : World} {A : Around} {s : Shared} {env : Env} {h₀ : Heap} {L : Addr}
/-- a turn's end -/
def TEnd (h₀ : Heap) (L : Addr) (I : Addr) (it : Obj) (J : (Str → Option Value) → List (Addr × Obj) → Prop) (s s₃ : Shared) : Prop :=
  ∃ h' tk' m' news', s₃ = { s with heap := h', toks := tk' } ∧ Fr h₀ L h' m' ∧ News h₀ L h' ((I, it) :: news') ∧ (∀ p ∈ news', p.1 ≠ I) ∧ J m' news'
def TPost (h₀ : Heap) (L : Addr) (I : Addr) (it : Obj) (J : (Str → Option Value) → List (Addr × Obj) → Prop) (s : Shared) (Q : Flow → Shared → Prop) (f : Flow) (s₃ : Shared) : Prop :=
  match f with
  | .brk => Q .next s₃
  | .ret v => Q (.ret v) s₃
  | _ => TEnd h₀ L I it J s s₃
theorem for_led {R : Result → Shared → Prop} {target : Expr} {body orelse : List Stmt} {I : Addr} {fp : List Addr} {n : Nat} {P : Nat → Value → Prop} {It : Nat → Heap → Prop} {Src : Heap → Prop} {m : Str → Option Value}
    {news : List (Addr × Obj)} (W : Walks prog w A I fp [I] n P (fun i h => It i h ∧ Src h)) 
    (hIt : ∀ i h h', It i h → (∀ o, h.get? I = some o → h'.get? I = some o) → It i h') {ic : Value} (hob : ∀ i h, It i h → ∃ o, h.get? I = some o ∧ o.cls = ic)
    (ht : ∀ v (s₁ : Shared) (Q' : Unit → Shared → Prop), (∃ i, It i s₁.heap) → Q' () s₁ → wpAny (model prog w) A (letOwnedTupleGo target (.ref I) v) Q' (fun _ _ => False) s₁)
    (hL : L ≠ I) (hI0 : h₀.get? I = none) (hnw : ∀ p ∈ news, p.1 ≠ I)
    (J : Nat → (Str → Option Value) → List (Addr × Obj) → Prop)
    (hsrc : ∀ i m' news' h, J i m' news' → Fr h₀ L h m' → News h₀ L h news' → Src h)
    (hst : It 0 s.heap) (F : Fr h₀ L s.heap m) (N : News h₀ L s.heap news) (h0 : J 0 m news)
    (turn : ∀ i v m₁ news₁ h tk it, i < n → P i v → it.cls = ic → J i m₁ news₁ → Fr h₀ L h m₁ → News h₀ L h ((I, it) :: news₁) → (∀ p ∈ news₁, p.1 ≠ I) →
      wpAny (model prog w) A (assign target env v) (fun _ s₂ => wpAny (model prog w) A (execs body env) (TPost h₀ L I it (J (i + 1)) s fun f s₃ => R (.ok f) s₃) (fun _ _ => False) s₂) (fun _ _ => False) { s with heap := h, toks := tk })
    (done : ∀ h tk m' news', J n m' news' → Fr h₀ L h m' → News h₀ L h news' → wpAny (model prog w) A (execs orelse env) (fun f s₃ => R (.ok f) s₃) (fun _ _ => False) { s with heap := h, toks := tk }) :
    codeAny (model prog w) A (.forLoop target (.ref I) body orelse env) R s := by
  have old : ∀ b o, h₀.get? b = some o → b ≠ I := fun b o e hb => by rw [hb, hI0] at e; cases e
  refine codeAny_forLoop_any
    (fun k s' => ∃ h' tk m' news' i, s' = { s with heap := h', toks := tk } ∧ It i h' ∧ Fr h₀ L h' m' ∧ News h₀ L h' news' ∧ (∀ p ∈ news', p.1 ≠ I) ∧ J i m' news' ∧ i ≤ n ∧ k = n + 1 - i) ?_ (n + 1)
    ⟨s.heap, s.toks, m, news, 0, rfl, hst, F, N, hnw, h0, Nat.zero_le _, rfl⟩
  (intro k s' qq1; refine hide fun hP => ?_; rcases qq1 with ⟨h', tk, m', news', i, rfl, hst', F', N', hnw', hJ, hi, rfl⟩ <;> (refine hP ?_; clear hP))
  have next : ∀ h₁ : Heap, (∀ b o, b ∉ [I] → h'.get? b = some o → h₁.get? b = some o) → Fr h₀ L h₁ m' ∧ News h₀ L h₁ news' := fun h₁ hk₁ =>
    ⟨⟨F'.ns.at' fun o e => hk₁ _ o (by simpa using hL) e, fun b o e => hk₁ b o (by simpa using old b o e) (F'.keep b o e), F'.above⟩, fun p hp => ⟨hk₁ _ _ (by simpa using hnw' p hp) (N' p hp).1, (N' p hp).2⟩⟩
  have hs' : It i h' ∧ Src h' := ⟨hst', hsrc i m' news' h' hJ F' N'⟩
  by_cases hlt : i < n
  · refine W.item i _ _ _ hlt hs' fun v h₁ tk₁ hP hst₁ hk₁ => ?_
    (refine hide fun hP => ?_; rcases next h₁ hk₁ with ⟨F₁, N₁⟩ <;> (refine hP ?_; clear hP))
    (refine hide fun hP => ?_; rcases hob _ _ hst₁.1 with ⟨it, hit, hic⟩ <;> (refine hP ?_; clear hP))
    refine wpAny_mono (ht v _ (fun _ s₂ => wpAny (model prog w) A (assign target env v) (fun _ s₂ => wpAny (model prog w) A (execs body env) (TPost h₀ L I it (J (i + 1)) s fun f s₃ => R (.ok f) s₃) (fun _ _ => False) s₂) (fun _ _ => False) s₂) ⟨_, hst₁.1⟩ ?_) (fun _ s₂ h₂ => ?_) (fun _ _ e => e.elim)
    · exact turn i v m' news' h₁ tk₁ it hlt hP hic hJ F₁ (fun p hp => by
        rcases List.mem_cons.mp hp with rfl | hp
        · exact ⟨hit, hL.symm, hI0⟩
        · exact N₁ p hp) hnw'
    · refine wpAny_mono h₂ (fun _ s₃ h₃ => wpAny_mono h₃ (fun f s₄ h₄ => ?_) (fun _ _ e => e.elim)) (fun _ _ e => e.elim)
      have fin : TEnd h₀ L I it (J (i + 1)) s s₄ → ∃ m, m < n + 1 - i ∧ (fun k s' => ∃ h' tk m' news' i, s' = { s with heap := h', toks := tk } ∧ It i h' ∧ Fr h₀ L h' m' ∧ News h₀ L h' news' ∧ (∀ p ∈ news', p.1 ≠ I) ∧ J i m' news' ∧ i ≤ n ∧ k = n + 1 - i) m s₄ := by
        (intro qq2; refine hide fun hP => ?_; rcases qq2 with ⟨h₅, tk₅, m₅, news₅, rfl, F₅, N₅, hn₅, hJ₅⟩ <;> (refine hP ?_; clear hP))
        exact ⟨n + 1 - (i + 1), by omega, h₅, tk₅, m₅, news₅, i + 1, rfl, hIt _ _ _ hst₁.1 (fun o e => by
          rw [hit] at e; cases e; exact (N₅ _ (.head _)).1), F₅, fun p hp => N₅ p (.tail _ hp), hn₅, hJ₅, hlt, rfl⟩
      cases f with
      | next => exact fin h₄
      | cont => exact fin h₄
      | brk => exact h₄
      | ret v => exact h₄
  · have hin : i = n := by omega
    subst hin
    refine W.done _ _ _ hs' fun h₁ tk₁ hk₁ => ?_
    (refine hide fun hP => ?_; rcases next h₁ hk₁ with ⟨F₁, N₁⟩ <;> (refine hP ?_; clear hP))
    exact wpAny_mono (done h₁ tk₁ m' news' hJ F₁ N₁) (fun _ _ x => x) (fun _ _ e => e.elim)
theorem iter_owned_list {target : Expr} {I l : Addr} : ∀ v (s₁ : Shared) (Q' : Unit → Shared → Prop), (∃ i, s₁.heap.IsListIter I l i) → Q' () s₁ → wpAny (model prog w) A (letOwnedTupleGo target (.ref I) v) Q' (fun _ _ => False) s₁ := by
  (intro v s₁ Q' qq3 hq; refine hide fun hP => ?_; rcases qq3 with ⟨i, o, ho, hc, hd⟩ <;> (refine hP ?_; clear hP))
  unfold letOwnedTupleGo
  split
  · cases v <;> (try exact wpAny_pure hq)
    refine wpAny_bind (wpAny_load ho ?_)
    rw [hc, hd]
    dsimp only
    rw [if_neg (by simp)]
    exact wpAny_pure hq
  · cases v <;> (try exact wpAny_pure hq)
    refine wpAny_bind (wpAny_load ho ?_)
    rw [hc, hd]
    dsimp only
    rw [if_neg (by simp)]
    exact wpAny_pure hq
  · exact wpAny_pure hq
theorem for_list {R : Result → Shared → Prop} {E : Value → Shared → Prop} {target : Expr} {body orelse : List Stmt} {l : Addr} {vs : List Value} {m : Str → Option Value} {news : List (Addr × Obj)}
    (hh : A.handled = none) (J : Nat → (Str → Option Value) → List (Addr × Obj) → Prop)
    (hsrc : ∀ i m' news' h, J i m' news' → Fr h₀ L h m' → News h₀ L h news' → h.IsList l vs.toArray)
    (F : Fr h₀ L s.heap m) (N : News h₀ L s.heap news) (h0 : J 0 m news)
    (turn : ∀ i v m₁ news₁ h tk I it, vs[i]? = some v → it.cls = Value.type "list_iterator" → (∀ p ∈ news, p.1 < I) → J i m₁ news₁ → Fr h₀ L h m₁ → News h₀ L h ((I, it) :: news₁) → (∀ p ∈ news₁, p.1 ≠ I) →
      wpAny (model prog w) A (assign target env v) (fun _ s₂ => wpAny (model prog w) A (execs body env) (TPost h₀ L I it (J (i + 1)) s fun f s₃ => R (.ok f) s₃) (fun _ _ => False) s₂) (fun _ _ => False) { s with heap := h, toks := tk })
    (done : ∀ h tk m' news', J vs.length m' news' → Fr h₀ L h m' → News h₀ L h news' → wpAny (model prog w) A (execs orelse env) (fun f s₃ => R (.ok f) s₃) (fun _ _ => False) { s with heap := h, toks := tk }) :
    wpAny (model prog w) A (pyIter (.ref l)) (fun it s₂ => codeAny (model prog w) A (.forLoop target it body orelse env) R s₂) E s := by
  have hls := hsrc 0 m news s.heap h0 F N
  (refine hide fun hP => ?_; rcases id hls with ⟨ol, hol, _⟩ <;> (refine hP ?_; clear hP))
  have hne : l ≠ s.heap.objs.size := Nat.ne_of_lt (Heap.lt_size hol)
  have hL : L ≠ s.heap.objs.size := Nat.ne_of_lt F.ns.lt
  refine wpAny_pyIter_list hls ?_
  have W := Walks.list (prog := prog) (w := w) hh s.heap.objs.size l hne vs.toArray
  have hsz : vs.toArray.size = vs.length := by simp
  rw [hsz] at W
  refine for_led (s := { s with heap := s.heap.push _ }) W (fun i h h' x e => x.at e) (fun i h x => let ⟨o, ho, hc, _⟩ := x; ⟨o, ho, hc⟩) iter_owned_list hL (next_is_new F) (fun p hp => Nat.ne_of_lt (Heap.lt_size (N p hp).1)) J hsrc ⟨_, Heap.get?_push_size _ rfl, rfl, rfl⟩ (F.push _) (fun p hp => ⟨Heap.get?_push_of_some _ (N p hp).1, (N p hp).2⟩) h0 ?_ done
  intro i v m₁ news₁ h tk it hi hP hic hJ F₁ N₁ hn
  exact turn i v m₁ news₁ h tk _ it (by simpa using hP) hic (fun p hp => Heap.lt_size (N p hp).1) hJ F₁ N₁ hn
theorem iter_owned_tuple {target : Expr} {I l : Addr} : ∀ v (s₁ : Shared) (Q' : Unit → Shared → Prop), (∃ i, s₁.heap.IsTupleIter I l i) → Q' () s₁ → wpAny (model prog w) A (letOwnedTupleGo target (.ref I) v) Q' (fun _ _ => False) s₁ := by
  (intro v s₁ Q' qq4 hq; refine hide fun hP => ?_; rcases qq4 with ⟨i, o, ho, hc, hd⟩ <;> (refine hP ?_; clear hP))
  unfold letOwnedTupleGo
  split
  · cases v <;> (try exact wpAny_pure hq)
    refine wpAny_bind (wpAny_load ho ?_)
    rw [hc, hd]
    dsimp only
    rw [if_neg (by simp)]
    exact wpAny_pure hq
  · cases v <;> (try exact wpAny_pure hq)
    refine wpAny_bind (wpAny_load ho ?_)
    rw [hc, hd]
    dsimp only
    rw [if_neg (by simp)]
    exact wpAny_pure hq
  · exact wpAny_pure hq
theorem for_tuple {R : Result → Shared → Prop} {E : Value → Shared → Prop} {target : Expr} {body orelse : List Stmt} {l : Addr} {vs : List Value} {m : Str → Option Value} {news : List (Addr × Obj)}
    (hh : A.handled = none) (J : Nat → (Str → Option Value) → List (Addr × Obj) → Prop)
    (hsrc : ∀ i m' news' h, J i m' news' → Fr h₀ L h m' → News h₀ L h news' → h.IsTuple l vs.toArray)
    (F : Fr h₀ L s.heap m) (N : News h₀ L s.heap news) (h0 : J 0 m news)
    (turn : ∀ i v m₁ news₁ h tk I it, vs[i]? = some v → it.cls = Value.type "tuple_iterator" → (∀ p ∈ news, p.1 < I) → J i m₁ news₁ → Fr h₀ L h m₁ → News h₀ L h ((I, it) :: news₁) → (∀ p ∈ news₁, p.1 ≠ I) →
      wpAny (model prog w) A (assign target env v) (fun _ s₂ => wpAny (model prog w) A (execs body env) (TPost h₀ L I it (J (i + 1)) s fun f s₃ => R (.ok f) s₃) (fun _ _ => False) s₂) (fun _ _ => False) { s with heap := h, toks := tk })
    (done : ∀ h tk m' news', J vs.length m' news' → Fr h₀ L h m' → News h₀ L h news' → wpAny (model prog w) A (execs orelse env) (fun f s₃ => R (.ok f) s₃) (fun _ _ => False) { s with heap := h, toks := tk }) :
    wpAny (model prog w) A (pyIter (.ref l)) (fun it s₂ => codeAny (model prog w) A (.forLoop target it body orelse env) R s₂) E s := by
  have hls := hsrc 0 m news s.heap h0 F N
  (refine hide fun hP => ?_; rcases id hls with ⟨ol, hol, _⟩ <;> (refine hP ?_; clear hP))
  have hne : l ≠ s.heap.objs.size := Nat.ne_of_lt (Heap.lt_size hol)
  have hL : L ≠ s.heap.objs.size := Nat.ne_of_lt F.ns.lt
  refine wpAny_pyIter_tuple hls ?_
  have W := Walks.tuple (prog := prog) (w := w) hh s.heap.objs.size l hne vs.toArray
  have hsz : vs.toArray.size = vs.length := by simp
  rw [hsz] at W
  refine for_led (s := { s with heap := s.heap.push _ }) W (fun i h h' x e => x.at e) (fun i h x => let ⟨o, ho, hc, _⟩ := x; ⟨o, ho, hc⟩) iter_owned_tuple hL (next_is_new F) (fun p hp => Nat.ne_of_lt (Heap.lt_size (N p hp).1)) J hsrc ⟨_, Heap.get?_push_size _ rfl, rfl, rfl⟩ (F.push _) (fun p hp => ⟨Heap.get?_push_of_some _ (N p hp).1, (N p hp).2⟩) h0 ?_ done
  intro i v m₁ news₁ h tk it hi hP hic hJ F₁ N₁ hn
  exact turn i v m₁ news₁ h tk _ it (by simpa using hP) hic (fun p hp => Heap.lt_size (N p hp).1) hJ F₁ N₁ hn
end
end

end
-- B3
section
open PySem PySem.W PySem.Calls PyProof.Rows
set_option maxRecDepth 100000
set_option linter.unusedVariables false
section

section
variable {prog : Program} {w : World} {A : Around} {s : Shared} {env : Env} {h₀ : Heap}
/-- a turn's end, a Name's loop -/
def TEnd1 (h₀ : Heap) (L : Addr) (I : Addr) (it : Obj) (x : Str) (stored : List Str) (m : Str → Option Value) (J : (Str → Option Value) → List (Addr × Obj) → Prop) (s s₃ : Shared) : Prop :=
  ∃ h' tk' m' news', s₃ = { s with heap := h', toks := tk' } ∧ Fr h₀ L h' m' ∧ News h₀ L h' ((I, it) :: news') ∧ (∀ p ∈ news', p.1 ≠ I) ∧ (∀ y, y ≠ x → stored.contains y = false → m' y = m y) ∧ J m' news'
def TPost1 (h₀ : Heap) (L : Addr) (I : Addr) (it : Obj) (x : Str) (stored : List Str) (m : Str → Option Value) (J : (Str → Option Value) → List (Addr × Obj) → Prop) (s : Shared) (Q : Flow → Shared → Prop) (f : Flow) (s₃ : Shared) : Prop :=
  match f with
  | .brk => Q .next s₃
  | .ret v => Q (.ret v) s₃
  | _ => TEnd1 h₀ L I it x stored m J s s₃
theorem map_stored {x : Str} {stored : List Str} {m m₁ : Str → Option Value} (h : ∀ y, y ≠ x → stored.contains y = false → m₁ y = m y) (v : Value) :
    (fun y => if y = x then some v else m₁ y) = fun y => if y = x then some v else if stored.contains y then m₁ y else m y := by
  funext y
  by_cases h1 : y = x
  · simp [h1]
  · simp only [if_neg h1]
    cases h2 : stored.contains y with
    | true => simp
    | false => simp [h y h1 h2]
theorem map_stored' {x : Str} {stored : List Str} {m m₁ : Str → Option Value} (h : ∀ y, y ≠ x → stored.contains y = false → m₁ y = m y) :
    m₁ = fun y => if y = x then m₁ x else if stored.contains y then m₁ y else m y := by
  funext y
  by_cases h1 : y = x
  · simp [h1]
  · simp only [if_neg h1]
    cases h2 : stored.contains y with
    | true => simp
    | false => simp [h y h1 h2]

theorem for_list1 {R : Result → Shared → Prop} {E : Value → Shared → Prop} {x : Str} {px : Pos} {body orelse : List Stmt} {l : Addr} {vs : List Value} {m : Str → Option Value} {news : List (Addr × Obj)}
    (hh : A.handled = none) (hx : env.kindOf x = some .local) (hp : (env.scope.kind == .class || (env.scope.kind == .module && env.locals != env.globals)) = false)
    (stored : List Str) (J : Nat → (Str → Option Value) → List (Addr × Obj) → Prop)
    (hsrc : ∀ i m' news' h, J i m' news' → Fr h₀ env.locals h m' → News h₀ env.locals h news' → h.IsList l vs.toArray)
    (F : Fr h₀ env.locals s.heap m) (N : News h₀ env.locals s.heap news) (h0 : J 0 m news)
    (turn : ∀ i v u news₁ h tk I it, vs[i]? = some v → it.cls = Value.type "list_iterator" → (∀ p ∈ news, p.1 < I) → J i u news₁ → Fr h₀ env.locals h (fun y => if y = x then some v else if stored.contains y then u y else m y) → News h₀ env.locals h ((I, it) :: news₁) → (∀ p ∈ news₁, p.1 ≠ I) →
      wpAny (model prog w) A (execs body env) (TPost1 h₀ env.locals I it x stored m (J (i + 1)) s fun f s₃ => R (.ok f) s₃) (fun _ _ => False) { s with heap := h, toks := tk })
    (done : ∀ h tk u news', J vs.length u news' → Fr h₀ env.locals h (fun y => if y = x then u x else if stored.contains y then u y else m y) → News h₀ env.locals h news' → wpAny (model prog w) A (execs orelse env) (fun f s₃ => R (.ok f) s₃) (fun _ _ => False) { s with heap := h, toks := tk }) :
    wpAny (model prog w) A (pyIter (.ref l)) (fun it s₂ => codeAny (model prog w) A (.forLoop (.Name x px) it body orelse env) R s₂) E s := by
  refine for_list hh (fun i m' news' => (∀ y, y ≠ x → stored.contains y = false → m' y = m y) ∧ J i m' news') (fun i m' news' h hj F' N' => hsrc i m' news' h hj.2 F' N') F N ⟨fun _ _ _ => rfl, h0⟩ ?_ ?_
  · (intro i v m₁ news₁ h tk I it hv hic hlt qq1 F₁ N₁ hn; refine hide fun hHid => ?_; rcases qq1 with ⟨hm, hj⟩ <;> (refine hHid ?_; clear hHid))
    refine wpAny_assign_Name (wpAny_storeName_local hx F₁.ns (fun h₂ hn₂ hs₂ => ?_) hp)
    have F₂ := F₁.set hn₂ hs₂
    rw [map_stored hm v] at F₂
    refine wpAny_mono (turn i v m₁ news₁ h₂ _ I it hv hic hlt hj F₂ (N₁.set hs₂) hn) (fun f s₃ h₃ => ?_) (fun _ _ e => e)
    have fin : TEnd1 h₀ env.locals I it x stored m (J (i + 1)) s s₃ → TEnd h₀ env.locals I it (fun m' news' => (∀ y, y ≠ x → stored.contains y = false → m' y = m y) ∧ J (i + 1) m' news') s s₃ := by
      (intro qq2; refine hide fun hHid => ?_; rcases qq2 with ⟨h', tk', m', news', e, F', N', hn', hm', hj'⟩ <;> (refine hHid ?_; clear hHid))
      exact ⟨h', tk', m', news', e, F', N', hn', hm', hj'⟩
    cases f with
    | next => exact fin h₃
    | cont => exact fin h₃
    | brk => exact h₃
    | ret v => exact h₃
  · (intro h tk m' news' qq3 F' N'; refine hide fun hHid => ?_; rcases qq3 with ⟨hm, hj⟩ <;> (refine hHid ?_; clear hHid))
    rw [map_stored' hm] at F'
    exact done h tk m' news' hj F' N'

theorem for_tuple1 {R : Result → Shared → Prop} {E : Value → Shared → Prop} {x : Str} {px : Pos} {body orelse : List Stmt} {l : Addr} {vs : List Value} {m : Str → Option Value} {news : List (Addr × Obj)}
    (hh : A.handled = none) (hx : env.kindOf x = some .local) (hp : (env.scope.kind == .class || (env.scope.kind == .module && env.locals != env.globals)) = false)
    (stored : List Str) (J : Nat → (Str → Option Value) → List (Addr × Obj) → Prop)
    (hsrc : ∀ i m' news' h, J i m' news' → Fr h₀ env.locals h m' → News h₀ env.locals h news' → h.IsTuple l vs.toArray)
    (F : Fr h₀ env.locals s.heap m) (N : News h₀ env.locals s.heap news) (h0 : J 0 m news)
    (turn : ∀ i v u news₁ h tk I it, vs[i]? = some v → it.cls = Value.type "tuple_iterator" → (∀ p ∈ news, p.1 < I) → J i u news₁ → Fr h₀ env.locals h (fun y => if y = x then some v else if stored.contains y then u y else m y) → News h₀ env.locals h ((I, it) :: news₁) → (∀ p ∈ news₁, p.1 ≠ I) →
      wpAny (model prog w) A (execs body env) (TPost1 h₀ env.locals I it x stored m (J (i + 1)) s fun f s₃ => R (.ok f) s₃) (fun _ _ => False) { s with heap := h, toks := tk })
    (done : ∀ h tk u news', J vs.length u news' → Fr h₀ env.locals h (fun y => if y = x then u x else if stored.contains y then u y else m y) → News h₀ env.locals h news' → wpAny (model prog w) A (execs orelse env) (fun f s₃ => R (.ok f) s₃) (fun _ _ => False) { s with heap := h, toks := tk }) :
    wpAny (model prog w) A (pyIter (.ref l)) (fun it s₂ => codeAny (model prog w) A (.forLoop (.Name x px) it body orelse env) R s₂) E s := by
  refine for_tuple hh (fun i m' news' => (∀ y, y ≠ x → stored.contains y = false → m' y = m y) ∧ J i m' news') (fun i m' news' h hj F' N' => hsrc i m' news' h hj.2 F' N') F N ⟨fun _ _ _ => rfl, h0⟩ ?_ ?_
  · (intro i v m₁ news₁ h tk I it hv hic hlt qq4 F₁ N₁ hn; refine hide fun hHid => ?_; rcases qq4 with ⟨hm, hj⟩ <;> (refine hHid ?_; clear hHid))
    refine wpAny_assign_Name (wpAny_storeName_local hx F₁.ns (fun h₂ hn₂ hs₂ => ?_) hp)
    have F₂ := F₁.set hn₂ hs₂
    rw [map_stored hm v] at F₂
    refine wpAny_mono (turn i v m₁ news₁ h₂ _ I it hv hic hlt hj F₂ (N₁.set hs₂) hn) (fun f s₃ h₃ => ?_) (fun _ _ e => e)
    have fin : TEnd1 h₀ env.locals I it x stored m (J (i + 1)) s s₃ → TEnd h₀ env.locals I it (fun m' news' => (∀ y, y ≠ x → stored.contains y = false → m' y = m y) ∧ J (i + 1) m' news') s s₃ := by
      (intro qq5; refine hide fun hHid => ?_; rcases qq5 with ⟨h', tk', m', news', e, F', N', hn', hm', hj'⟩ <;> (refine hHid ?_; clear hHid))
      exact ⟨h', tk', m', news', e, F', N', hn', hm', hj'⟩
    cases f with
    | next => exact fin h₃
    | cont => exact fin h₃
    | brk => exact h₃
    | ret v => exact h₃
  · (intro h tk m' news' qq6 F' N'; refine hide fun hHid => ?_; rcases qq6 with ⟨hm, hj⟩ <;> (refine hHid ?_; clear hHid))
    rw [map_stored' hm] at F'
    exact done h tk m' news' hj F' N'

theorem for_listM {R : Result → Shared → Prop} {E : Value → Shared → Prop} {x : Str} {px : Pos} {body orelse : List Stmt} {l : Addr} {vs : List Value} {m : Str → Option Value} {news : List (Addr × Obj)}
    (hh : A.handled = none) (hx : env.kindOf x = some .local) (hp : (env.scope.kind == .class || (env.scope.kind == .module && env.locals != env.globals)) = false)
    (stored : List Str) (J : (Str → Option Value) → List (Addr × Obj) → Nat → (Str → Option Value) → List (Addr × Obj) → Prop)
    (hsrc : ∀ i m' news' h, J m news i m' news' → Fr h₀ env.locals h m' → News h₀ env.locals h news' → h.IsList l vs.toArray)
    (F : Fr h₀ env.locals s.heap m) (N : News h₀ env.locals s.heap news) (h0 : J m news 0 m news)
    (turn : ∀ i v u news₁ h tk I it, vs[i]? = some v → it.cls = Value.type "list_iterator" → (∀ p ∈ news, p.1 < I) → J m news i u news₁ → Fr h₀ env.locals h (fun y => if y = x then some v else if stored.contains y then u y else m y) → News h₀ env.locals h ((I, it) :: news₁) → (∀ p ∈ news₁, p.1 ≠ I) →
      wpAny (model prog w) A (execs body env) (TPost1 h₀ env.locals I it x stored m (J m news (i + 1)) s fun f s₃ => R (.ok f) s₃) (fun _ _ => False) { s with heap := h, toks := tk })
    (done : ∀ h tk u news', J m news vs.length u news' → Fr h₀ env.locals h (fun y => if y = x then u x else if stored.contains y then u y else m y) → News h₀ env.locals h news' → wpAny (model prog w) A (execs orelse env) (fun f s₃ => R (.ok f) s₃) (fun _ _ => False) { s with heap := h, toks := tk }) :
    wpAny (model prog w) A (pyIter (.ref l)) (fun it s₂ => codeAny (model prog w) A (.forLoop (.Name x px) it body orelse env) R s₂) E s := for_list1 hh hx hp stored (J m news) hsrc F N h0 turn done
theorem for_tupleM {R : Result → Shared → Prop} {E : Value → Shared → Prop} {x : Str} {px : Pos} {body orelse : List Stmt} {l : Addr} {vs : List Value} {m : Str → Option Value} {news : List (Addr × Obj)}
    (hh : A.handled = none) (hx : env.kindOf x = some .local) (hp : (env.scope.kind == .class || (env.scope.kind == .module && env.locals != env.globals)) = false)
    (stored : List Str) (J : (Str → Option Value) → List (Addr × Obj) → Nat → (Str → Option Value) → List (Addr × Obj) → Prop)
    (hsrc : ∀ i m' news' h, J m news i m' news' → Fr h₀ env.locals h m' → News h₀ env.locals h news' → h.IsTuple l vs.toArray)
    (F : Fr h₀ env.locals s.heap m) (N : News h₀ env.locals s.heap news) (h0 : J m news 0 m news)
    (turn : ∀ i v u news₁ h tk I it, vs[i]? = some v → it.cls = Value.type "tuple_iterator" → (∀ p ∈ news, p.1 < I) → J m news i u news₁ → Fr h₀ env.locals h (fun y => if y = x then some v else if stored.contains y then u y else m y) → News h₀ env.locals h ((I, it) :: news₁) → (∀ p ∈ news₁, p.1 ≠ I) →
      wpAny (model prog w) A (execs body env) (TPost1 h₀ env.locals I it x stored m (J m news (i + 1)) s fun f s₃ => R (.ok f) s₃) (fun _ _ => False) { s with heap := h, toks := tk })
    (done : ∀ h tk u news', J m news vs.length u news' → Fr h₀ env.locals h (fun y => if y = x then u x else if stored.contains y then u y else m y) → News h₀ env.locals h news' → wpAny (model prog w) A (execs orelse env) (fun f s₃ => R (.ok f) s₃) (fun _ _ => False) { s with heap := h, toks := tk }) :
    wpAny (model prog w) A (pyIter (.ref l)) (fun it s₂ => codeAny (model prog w) A (.forLoop (.Name x px) it body orelse env) R s₂) E s := for_tuple1 hh hx hp stored (J m news) hsrc F N h0 turn done
theorem ne_of_cls {h₀ h : Heap} {L I D : Addr} {it o : Obj} {news : List (Addr × Obj)} (N : News h₀ L h news) (h1 : (I, it) ∈ news) (h2 : (D, o) ∈ news) (hc : o.cls ≠ it.cls) : D ≠ I := fun e => by
  have a := (N _ h1).1
  have b := (N _ h2).1
  dsimp only at a b
  rw [e, a] at b
  exact hc (by rw [← Option.some.inj b])
theorem StrsAre.at : ∀ {vs : List Value} {ss : List Str}, StrsAre vs ss → ∀ {i : Nat} {v : Value}, vs[i]? = some v → ∃ c t, v = .str c t ∧ ss[i]? = some c
  | _, _, .nil, i, v, h => by simp at h
  | _, _, .cons y t hs, 0, v, h => by simp at h; exact ⟨y, t, h.symm, rfl⟩
  | _, _, .cons y t hs, i + 1, v, h => by simp at h; simpa using StrsAre.at hs h
theorem StrsAre.len : ∀ {vs : List Value} {ss : List Str}, StrsAre vs ss → vs.length = ss.length
  | _, _, .nil => rfl
  | _, _, .cons y t hs => by simp [StrsAre.len hs]
theorem StrsAre.snoc : ∀ {vs : List Value} {ss : List Str}, StrsAre vs ss → ∀ (c : Str) (t : Tok), StrsAre (vs ++ [.str c t]) (ss ++ [c])
  | _, _, .nil, c, t => .cons c t .nil
  | _, _, .cons y u hs, c, t => .cons y u (StrsAre.snoc hs c t)
theorem StrsAre.of_snoc : ∀ {vs : List Value} {v : Value} {ss : List Str}, StrsAre (vs ++ [v]) ss → ∃ c t, v = .str c t ∧ StrsAre vs ss.dropLast ∧ ss = ss.dropLast ++ [c]
  | [], _, _, .cons y t .nil => ⟨y, t, rfl, .nil, rfl⟩
  | _ :: vs, v, _, .cons y t (ys := ys) hs => by
    (refine hide fun hHid => ?_; rcases StrsAre.of_snoc hs with ⟨c, u, e, h1, h2⟩ <;> (refine hHid ?_; clear hHid))
    have hne : ys ≠ [] := fun e => by rw [e] at h2; simp at h2
    refine ⟨c, u, e, ?_, ?_⟩
    · rw [List.dropLast_cons_of_ne_nil hne]; exact .cons y t h1
    · rw [List.dropLast_cons_of_ne_nil hne, List.cons_append, ← h2]
end
end

end
-- B4
section
open PySem PySem.W PySem.Calls PyProof.Rows
set_option maxRecDepth 100000
set_option linter.unusedVariables false
section

theorem allLt_ne {d : Addr} : ∀ {l : List (Addr × Obj)}, AllLt d l → ∀ p ∈ l, p.1 ≠ d
  | [], _, _, h => nomatch h
  | q :: l, hl, p, h => by
    rcases List.mem_cons.mp h with rfl | h
    · exact Nat.ne_of_lt hl.1
    · exact allLt_ne hl.2 p h
theorem allLt_ne2 {d x : Addr} {l : List (Addr × Obj)} (h : AllLt d l) (hx : @LE.le Nat _ d x) : ∀ p ∈ l, p.1 ≠ x := fun p hp e => by
  have : ∀ {l : List (Addr × Obj)}, AllLt d l → ∀ p ∈ l, @LT.lt Nat _ p.1 d := by
    intro l
    induction l with
    | nil => intro _ p hp; exact nomatch hp
    | cons q l ih =>
      intro hl p hp
      rcases List.mem_cons.mp hp with rfl | hp
      · exact hl.1
      · exact ih hl.2 p hp
  have h1 := this h p hp
  rw [e] at h1
  exact Nat.lt_irrefl _ (Nat.lt_of_lt_of_le h1 hx)
section
variable {prog : Program} {w : World} {A : Around} {E : Value → Shared → Prop} {s : Shared} {h₀ : Heap} {L D : Addr} {m : Str → Option Value} {news news' : List (Addr × Obj)} {vs : List Value} {v x : Value} {n : Nat}
theorem truthy_snoc {Q : Bool → Shared → Prop} (N : News h₀ L s.heap news) (hm : (D, listOf (vs ++ [v]).toArray n) ∈ news) (hz : vs.length ≤ 10000000) (h : Q true { s with toks := s.toks + 1 + 1 }) : wpAny (model prog w) A (truthy (.ref D)) Q E s :=
  wpAny_truthy_list (items := (vs ++ [v]).toArray) ⟨_, N.get hm, rfl, _, rfl⟩ (by simp; omega) (by rw [show (vs ++ [v]).toArray.isEmpty = false from by simp]; exact h)
theorem last_snoc {value slice : Expr} {u : Tok} {Q : Value → Shared → Prop} (N : News h₀ L s.heap news) (hm : (D, listOf (vs ++ [v]).toArray n) ∈ news) (hz : vs.length ≤ 10000000) (h : Q v s)
    (hs : subscripted slice false (.ref D) (.int (-1) u) = operate [.ref D, .int (-1) u] (getItem (.ref D) (.int (-1) u)) := by with_unfolding_all rfl) :
    wpAny (model prog w) A (subscriptTail value slice (.ref D) (.int (-1) u)) Q E s := by
  have hL : s.heap.IsList D (vs ++ [v]).toArray := ⟨_, N.get hm, rfl, _, rfl⟩
  exact tail_any hL.typeIs slot_list_getitem.lookup (wpAny_getItem_list_neg hL (by decide) (by simp; omega) (by decide) (by simp; rw [show ((-1 : Int) + ((vs.length : Int) + 1)).toNat = vs.length by omega]; simp) h) hs
theorem pop_snoc {Q : Value → Shared → Prop} (F : Fr h₀ L s.heap m) (N : News h₀ L s.heap news) (U : Upd D (listOf (vs ++ [v]).toArray n) (listOf vs.toArray (n + 1)) news news')
    (hz : vs.length ≤ 10000000) (h : ∀ h', Fr h₀ L h' m → News h₀ L h' news' → Q v { s with heap := h' }) : wpAny (model prog w) A (call (.builtin "list.pop") [.ref D]) Q E s :=
  kl_pop F N (by simpa using kpa_last v vs) U (by rw [sizeLine_eq]; simp; omega) h
theorem append_vs {Q : Value → Shared → Prop} (F : Fr h₀ L s.heap m) (N : News h₀ L s.heap news) (U : Upd D (listOf vs.toArray n) (listOf (vs ++ [x]).toArray (n + 1)) news news')
    (hz : vs.length ≤ 10000000) (h : ∀ h', Fr h₀ L h' m → News h₀ L h' news' → Q .none { s with heap := h' }) : wpAny (model prog w) A (call (.builtin "list.append") [.ref D, x]) Q E s :=
  append_K (its := vs.toArray) (n := n) F N (by rw [List.push_toArray]; exact U) h (by rw [sizeLine_eq]; simp; omega)
end
end

end
-- B5
section
open PySem PySem.W PySem.Calls PyProof.Rows
set_option maxRecDepth 100000
set_option linter.unusedVariables false
section

section
variable {prog : Program} {w : World} {A : Around} {E : Value → Shared → Prop} {s : Shared} {h₀ : Heap} {L : Addr} {m : Str → Option Value} {news news' : List (Addr × Obj)} {vs ws : List Value} {n k : Nat}
theorem slice_led {value slice : Expr} {l : Addr} {vl vu : Value} {lo hi : Option Int} {Q : Value → Shared → Prop}
    (F : Fr h₀ L s.heap m) (N : News h₀ L s.heap news) (hm : (l, listOf vs.toArray n) ∈ news) (pl : IsPart vl lo) (pu : IsPart vu hi) (hp : slicePick vs.toArray lo hi none = ws.toArray)
    (h : ∀ D h', Fr h₀ L h' m → News h₀ L h' ((D, listOf ws.toArray 0) :: news) → (∀ p ∈ news, p.1 < D) → Q (.ref D) { s with heap := h' })
    (hs : subscripted slice false (.ref l) (.ref s.heap.objs.size) = operate [.ref s.heap.objs.size, .ref l] (getItem (.ref l) (.ref s.heap.objs.size)) := by with_unfolding_all rfl)
    (ht : ∀ r, letTemporaryGo value (.ref l) r = pure () := by intro _; with_unfolding_all rfl)
    (hsz : vs.length ≤ 10000000) :
    wpAny (model prog w) A (subscriptTail value slice (.ref l) (.ref s.heap.objs.size)) Q E { s with heap := s.heap.push { cls := .type "slice", data := .fields #[vl, vu, .none] } } :=
  slice_list F N ⟨_, N.get hm, rfl, _, rfl⟩ pl pu (fun h' F' N' => h _ h' F' (by rw [hp] at N'; exact N') fun p hp => Nat.lt_succ_of_lt (Heap.lt_size (N p hp).1)) hs ht (by rw [sizeLine_eq]; simp; omega)
theorem pick_init (vs : List Value) : slicePick vs.toArray none (some (-1)) none = vs.dropLast.toArray := by
  have := slicePick_butLast vs.toArray 1 (Nat.le_refl _)
  rw [show (-((1 : Nat) : Int)) = -1 from rfl] at this
  rw [this]
  simp [List.dropLast_eq_take]
theorem concat_led {l k : Addr} {n n' : Nat} {Q : Value → Shared → Prop} (F : Fr h₀ L s.heap m) (N : News h₀ L s.heap news) (hm : (l, listOf vs.toArray n) ∈ news) (hk : (k, listOf ws.toArray n') ∈ news)
    (h : ∀ D h', Fr h₀ L h' m → News h₀ L h' ((D, listOf (vs ++ ws).toArray 0) :: news) → (∀ p ∈ news, p.1 < D) → Q (.ref D) { s with heap := h' }) (hsz : vs.length + ws.length ≤ 1000000) :
    wpAny (model prog w) A (binaryOp .Add (.ref l) (.ref k)) Q E s :=
  add_arrays F N ⟨_, N.get hm, rfl, _, rfl⟩ ⟨_, N.get hk, rfl, _, rfl⟩ (fun h' F' N' => h _ h' F' N' fun p hp => Heap.lt_size (N p hp).1) (by rw [sizeLine_eq]; simp; omega)
theorem StrsAre.init : ∀ {vs : List Value} {ss : List Str}, StrsAre vs ss → StrsAre vs.dropLast ss.dropLast := by
  intro vs ss h
  rcases List.eq_nil_or_concat vs with rfl | ⟨vs', vl, rfl⟩
  · have : ss = [] := List.length_eq_zero_iff.mp (StrsAre.len h).symm
    subst this; exact .nil
  · rw [List.concat_eq_append] at h ⊢
    obtain ⟨c, t, _, h', _⟩ := StrsAre.of_snoc h
    simpa using h'
end
end

end
-- B6
section
open PySem PySem.W PySem.Calls PyProof.Rows
set_option maxRecDepth 100000
set_option linter.unusedVariables false
section
open PySem.Builtin

def liObj (l : Addr) (i : Nat) : Obj := { cls := .type "list_iterator", data := .fields #[.ref l, .int i 0] }
section
variable {prog : Program} {w : World} {A : Around} {E : Value → Shared → Prop} {s : Shared} {env : Env} {h₀ : Heap} {L : Addr} {m : Str → Option Value} {news news' : List (Addr × Obj)} {vs ws : List Value} {n k : Nat}
theorem iter_list {l : Addr} {Q : Value → Shared → Prop} (F : Fr h₀ L s.heap m) (N : News h₀ L s.heap news) (hm : (l, listOf vs.toArray n) ∈ news)
    (h : ∀ I h', Fr h₀ L h' m → News h₀ L h' ((I, liObj l 0) :: news) → (∀ p ∈ news, p.1 < I) → Q (.ref I) { s with heap := h' }) :
    wpAny (model prog w) A (call (.builtin "iter") [.ref l]) Q E s := by
  refine call_function_entry (by decide +kernel) (by decide +kernel) kdk_entry_iter (kdk_args_iter _) ?_
  unfold Builtin.«iter»
  refine wpAny_bind (m := someArgs "iter" 1 2 _) (wpAny_of_eq (a := [Value.ref l]) (by first | rfl | kernel_rfl) ?_)
  show wpAny _ _ (pyIter (.ref l) >>= _) _ _ _
  refine wpAny_bind (wpAny_pyIter_list (items := vs.toArray) ⟨_, N.get hm, rfl, _, rfl⟩ ?_)
  exact wpAny_pure ⟨_, rfl, h _ _ (F.push _) (News.push F N _ rfl) fun p hp => Heap.lt_size (N p hp).1⟩
theorem for_iterM {R : Result → Shared → Prop} {x : Str} {px : Pos} {body orelse : List Stmt} {l I : Addr}
    (hh : A.handled = none) (hx : env.kindOf x = some .local) (hp : (env.scope.kind == .class || (env.scope.kind == .module && env.locals != env.globals)) = false)
    (stored : List Str) (J : (Str → Option Value) → List (Addr × Obj) → Nat → (Str → Option Value) → List (Addr × Obj) → Prop)
    (hsrc : ∀ i m' news' h, J m news i m' news' → Fr h₀ env.locals h m' → News h₀ env.locals h news' → h.IsList l vs.toArray)
    (F : Fr h₀ env.locals s.heap m) (N : News h₀ env.locals s.heap ((I, liObj l 0) :: news)) (hne : ∀ p ∈ news, p.1 ≠ I) (h0 : J m news 0 m news)
    (turn : ∀ i v u news₁ h tk it, vs[i]? = some v → it.cls = Value.type "list_iterator" → J m news i u news₁ → Fr h₀ env.locals h (fun y => if y = x then some v else if stored.contains y then u y else m y) → News h₀ env.locals h ((I, it) :: news₁) → (∀ p ∈ news₁, p.1 ≠ I) →
      wpAny (model prog w) A (execs body env) (TPost1 h₀ env.locals I it x stored m (J m news (i + 1)) s fun f s₃ => R (.ok f) s₃) (fun _ _ => False) { s with heap := h, toks := tk })
    (done : ∀ h tk u news', J m news vs.length u news' → Fr h₀ env.locals h (fun y => if y = x then u x else if stored.contains y then u y else m y) → News h₀ env.locals h news' → wpAny (model prog w) A (execs orelse env) (fun f s₃ => R (.ok f) s₃) (fun _ _ => False) { s with heap := h, toks := tk }) :
    wpAny (model prog w) A (pyIter (.ref I)) (fun it s₂ => codeAny (model prog w) A (.forLoop (.Name x px) it body orelse env) R s₂) E s := by
  have hI := N _ (.head _)
  have hit : s.heap.IsListIter I l 0 := ⟨_, hI.1, rfl, rfl⟩
  refine wpAny_pyIter_listiter hit ?_
  have hls := hsrc 0 m news s.heap h0 F (fun p hp => N p (.tail _ hp))
  have hlI : l ≠ I := fun e => by
    (refine hide fun hHid => ?_; rcases hls with ⟨o, ho, hc, _⟩ <;> (refine hHid ?_; clear hHid))
    rw [e, hI.1] at ho
    have := Option.some.inj ho
    rw [← this] at hc
    exact absurd (Value.type.inj hc) (by decide)
  have W := Walks.list (prog := prog) (w := w) hh I l hlI vs.toArray
  have hsz : vs.toArray.size = vs.length := by simp
  rw [hsz] at W
  refine for_led W (fun i h h' x e => x.at e) (fun i h x => let ⟨o, ho, hc, _⟩ := x; ⟨o, ho, hc⟩) iter_owned_list hI.2.1.symm hI.2.2 hne (fun i m' news' => (∀ y, y ≠ x → stored.contains y = false → m' y = m y) ∧ J m news i m' news') (fun i m' news' h hj F' N' => hsrc i m' news' h hj.2 F' N') hit F (fun p hp => N p (.tail _ hp)) ⟨fun _ _ _ => rfl, h0⟩ ?_ ?_
  · (intro i v m₁ news₁ h tk it hi hv hic qq1 F₁ N₁ hn; refine hide fun hHid => ?_; rcases qq1 with ⟨hm, hj⟩ <;> (refine hHid ?_; clear hHid))
    refine wpAny_assign_Name (wpAny_storeName_local hx F₁.ns (fun h₂ hn₂ hs₂ => ?_) hp)
    have F₂ := F₁.set hn₂ hs₂
    rw [map_stored hm v] at F₂
    refine wpAny_mono (turn i v m₁ news₁ h₂ _ it (by simpa using hv) hic hj F₂ (N₁.set hs₂) hn) (fun f s₃ h₃ => ?_) (fun _ _ e => e)
    have fin : TEnd1 h₀ env.locals I it x stored m (J m news (i + 1)) s s₃ → TEnd h₀ env.locals I it (fun m' news' => (∀ y, y ≠ x → stored.contains y = false → m' y = m y) ∧ J m news (i + 1) m' news') s s₃ := by
      (intro qq2; refine hide fun hHid => ?_; rcases qq2 with ⟨h', tk', m', news', e, F', N', hn', hm', hj'⟩ <;> (refine hHid ?_; clear hHid))
      exact ⟨h', tk', m', news', e, F', N', hn', hm', hj'⟩
    cases f with
    | next => exact fin h₃
    | cont => exact fin h₃
    | brk => exact h₃
    | ret v => exact h₃
  · (intro h tk m' news' qq3 F' N'; refine hide fun hHid => ?_; rcases qq3 with ⟨hm, hj⟩ <;> (refine hHid ?_; clear hHid))
    rw [map_stored' hm] at F'
    exact done h tk m' news' hj F' N'
end
end

end
-- B7
section
open PySem PySem.W PySem.Calls PyProof.Rows
set_option maxRecDepth 100000
set_option linter.unusedVariables false
section

section
variable {prog : Program} {w : World} {A : Around} {E : Value → Shared → Prop} {s : Shared} {h₀ h h' : Heap} {L d : Addr} {m : Str → Option Value} {news : List (Addr × Obj)} {g : Obj → List (Addr × Obj)} {o : Obj} {kvs : List (Str × Value)} {x : Str} {t : Tok} {v : Value}
theorem fr_same (F : Fr h₀ L h m) (h0 : h₀.get? d = none) (hL : d ≠ L) (hs : Heap.SameBut d h h') : Fr h₀ L h' m :=
  ⟨F.ns.at' fun o e => (hs.2 L hL.symm).trans e, fun b o e => (hs.2 b fun q => by rw [q, h0] at e; cases e).trans (F.keep b o e), F.above⟩
theorem upd_same (F : Fr h₀ L h m) (N : News h₀ L h news) (U : UpdF d o news g) (hs : Heap.SameBut d h h') {o' : Obj} (ho : h'.get? d = some o') : Fr h₀ L h' m ∧ News h₀ L h' (g o') := by
  obtain ⟨pre, post, rfl, hg, a, b⟩ := U.split
  have D := N (d, o) (List.mem_append_right _ (.head _))
  exact ⟨fr_same F D.2.2 D.2.1 hs, hg o' ▸ news_set N a b hs ho⟩
theorem upd_mem (U : UpdF d o news g) : (d, o) ∈ news := by
  obtain ⟨pre, post, rfl, hg, a, b⟩ := U.split
  exact List.mem_append_right _ (.head _)
theorem dict_set_led {Q : Unit → Shared → Prop} (F : Fr h₀ L s.heap m) (N : News h₀ L s.heap news) (U : UpdF d o news g) (hd : o.IsDictOf (strKind prog w) kvs) (hz : kvs.length ≤ 100000)
    (k : ∀ h' o', Fr h₀ L h' m → News h₀ L h' (g o') → o'.IsDictOf (strKind prog w) (stored kvs x v) → Q () { s with heap := h', toks := s.toks + 1 }) :
    wpAny (model prog w) A (setItem (.ref d) (.str x t) v) Q E s := by
  refine wpAny_setItem_pairs (knd := strKind prog w) (strKind_is prog w x t) (Heap.dictOf_iff.mpr ⟨o, N.get (upd_mem U), hd⟩) (fun h' hm hs => ?_) (by rw [sizeLine_eq]; omega)
  obtain ⟨o', ho', hd'⟩ := Heap.dictOf_iff.mp hm
  obtain ⟨F', N'⟩ := upd_same F N U hs ho'
  exact k h' o' F' N' hd'
theorem dict_item_led {value slice : Expr} {Q : Value → Shared → Prop} (N : News h₀ L s.heap news) (hm : (d, o) ∈ news) (hd : o.IsDictOf (strKind prog w) kvs) (hv : valueAt kvs x = some v) (k : Q v { s with toks := s.toks + 1 })
    (hs : subscripted slice false (.ref d) (.str x t) = operate [.ref d, .str x t] (getItem (.ref d) (.str x t)) := by with_unfolding_all rfl) :
    wpAny (model prog w) A (subscriptTail value slice (.ref d) (.str x t)) Q E s :=
  have hD : s.heap.DictOf (strKind prog w) d kvs := Heap.dictOf_iff.mpr ⟨o, N.get hm, hd⟩
  tail_any hD.typeIs slot_dict_getitem.lookup (wpAny_getItem_of (strKind_is prog w x t) hD.mapOf hv k) hs
theorem dict_in_led {Q : Value → Shared → Prop} (N : News h₀ L s.heap news) (hm : (d, o) ∈ news) (hd : o.IsDictOf (strKind prog w) kvs) (lo : (d == sysModules) = false) (k : Q (.bool (valueAt kvs x).isSome) { s with toks := s.toks + 1 }) :
    wpAny (model prog w) A (compareOp .In (.str x t) (.ref d)) Q E s :=
  wpAny_in_of (strKind_is prog w x t) lo (Heap.dictOf_iff.mpr ⟨o, N.get hm, hd⟩ : s.heap.DictOf (strKind prog w) d kvs).mapOf k
theorem dict_get_led {Q : Value → Shared → Prop} (N : News h₀ L s.heap news) (hm : (d, o) ∈ news) (hd : o.IsDictOf (strKind prog w) kvs) (lo : (d == sysModules) = false) (k : Q ((valueAt kvs x).getD .none) { s with toks := s.toks + 1 }) :
    wpAny (model prog w) A (call (.builtin "dict.get") [.ref d, .str x t]) Q E s :=
  have hD : s.heap.DictOf (strKind prog w) d kvs := Heap.dictOf_iff.mpr ⟨o, N.get hm, hd⟩
  call_meetsIn F.slot_dict_get hD.typeIs F.entry_dict_get (F.args_dict_get_2 _ _) (meets_dict_get (strKind prog w) d (strKind_is prog w x t) lo) ⟨_, hD.mapOf, k⟩
theorem dict_get_some {Q : Value → Shared → Prop} (N : News h₀ L s.heap news) (hm : (d, o) ∈ news) (hd : o.IsDictOf (strKind prog w) kvs) (lo : (d == sysModules) = false) (hv : valueAt kvs x = some v) (k : Q v { s with toks := s.toks + 1 }) :
    wpAny (model prog w) A (call (.builtin "dict.get") [.ref d, .str x t]) Q E s := dict_get_led N hm hd lo (by rw [hv]; exact k)
theorem dict_get_none {Q : Value → Shared → Prop} (N : News h₀ L s.heap news) (hm : (d, o) ∈ news) (hd : o.IsDictOf (strKind prog w) kvs) (lo : (d == sysModules) = false) (hv : valueAt kvs x = none) (k : Q .none { s with toks := s.toks + 1 }) :
    wpAny (model prog w) A (call (.builtin "dict.get") [.ref d, .str x t]) Q E s := dict_get_led N hm hd lo (by rw [hv]; exact k)
end
end

end
-- B8
section
open PySem PySem.W PySem.Calls PyProof.Rows
set_option maxRecDepth 100000
set_option linter.unusedVariables false
section

open PySem.Builtin
section
variable {prog : Program} {w : World} {A : Around} {E : Value → Shared → Prop} {s : Shared} {h₀ : Heap} {L : Addr} {m : Str → Option Value} {news : List (Addr × Obj)}
theorem meets_bool_list (l : Addr) (vs : List Value) (hz : vs.length ≤ 10000000) : Meets (Builtin.«bool.__new__» ⟨[.type "bool", .ref l], []⟩) (fun _ R s => s.heap.IsList l vs.toArray ∧ R (.ok (.ret (.bool (!vs.isEmpty)))) { s with toks := s.toks + 1 + 1 }) := by
  refine Meets.of_wp fun prog w A R s hs => ?_
  obtain ⟨hp, g, d, tk, os⟩ := s
  obtain ⟨hl, hs⟩ := hs
  have f1 := F.conv_sub_bool
  have hfit : ((vs.toArray.size : Nat) : Int) < 2 ^ 63 := by simp; omega
  repeat (any_goals (first | assumption | (with_reducible refine wpAny_truthy_list hl hfit ?_) | wp_step))
  all_goals first | exact ⟨_, rfl, by simpa using hs⟩ | (simpa using hs)
theorem bool_list {l : Addr} {vs : List Value} {n : Nat} {Q : Value → Shared → Prop} (N : News h₀ L s.heap news) (hm : (l, listOf vs.toArray n) ∈ news) (hz : vs.length ≤ 10000000) (h : Q (.bool (!vs.isEmpty)) { s with toks := s.toks + 1 + 1 }) :
    wpAny (model prog w) A (call (.type "bool") [.ref l]) Q E s :=
  call_bool_1 (meets_bool_list l vs hz) ⟨⟨_, N.get hm, rfl, _, rfl⟩, ⟨rfl, h⟩⟩
theorem len_tup_led {D : Addr} {vs : List Value} {n : Nat} {Q : Value → Shared → Prop} (N : News h₀ L s.heap news) (hm : (D, ({ cls := .type "tuple", data := .seq vs.toArray n } : Obj)) ∈ news) (hz : vs.length ≤ 10000000) (h : Q (.int (vs.length : Int) (s.toks + 1)) { s with toks := s.toks + 1 + 1 }) :
    wpAny (model prog w) A (call (.builtin "len") [.ref D]) Q E s :=
  PyProof.Rows.len_tuple (items := vs.toArray) ⟨_, N.get hm, rfl, _, rfl⟩ (by simp; omega) (by simpa using h)
theorem len_list_led {D : Addr} {vs : List Value} {n : Nat} {Q : Value → Shared → Prop} (N : News h₀ L s.heap news) (hm : (D, listOf vs.toArray n) ∈ news) (hz : vs.length ≤ 10000000) (h : Q (.int (vs.length : Int) (s.toks + 1)) { s with toks := s.toks + 1 + 1 }) :
    wpAny (model prog w) A (call (.builtin "len") [.ref D]) Q E s := by
  refine Calls.call_function_entry kind_len plain_len entry_len (args_len1 _) ?_
  refine wpAny_mono (wpAny_len_body_list (items := vs.toArray) (Q := fun r s' => r = .int (vs.length : Int) (s.toks + 1) ∧ Q (.int (vs.length : Int) (s.toks + 1)) s') ⟨_, N.get hm, rfl, _, rfl⟩ (by simp; omega) ⟨by simp, h⟩) (fun fin s' h' => ?_) (fun _ _ e => e)
  obtain ⟨r, rfl, rfl, hq⟩ := h'
  exact ⟨_, rfl, hq⟩
theorem ne_len {vs : List Value} (h : vs ≠ []) : vs.toArray.toList.length ≠ 0 := by
  intro e
  exact h (List.length_eq_zero_iff.mp e)
end
end

end
section
local macro_rules | `(tactic| walk_at "call ref") => `(tactic| ((with_reducible show wpAny _ _ (call (Value.ref 223) [Value.str _ _]) _ _ _); k_dflt (refine' fspath_spec (by k_asm) (by k_asm) (by k_asm) (by k_asm) (by k_asm) (by k_room) (by k_room) ?_); intro h' tk' F' N'; (try k_sweep)))
section
local macro_rules | `(tactic| walk_at "call ref") => `(tactic| ((with_reducible show wpAny _ _ (call (Value.ref 237) [Value.str _ _]) _ _ _); k_dflt (refine' getsep_spec (by k_asm) (by k_asm) (by k_asm) (by k_asm) (by k_asm) (by k_room) (by k_room) ?_); intro h' tk' t' F' N'; (try k_sweep)))
section
local macro_rules | `(tactic| walk_at "eval Name") => `(tactic| (k_here; (with_reducible show wpAny _ _ (eval (Expr.Name (Str.ofString "path") _) _) _ _ _); k_dflt (refine' ld ?k1 ?k2 ?_; (case k1 => k_asm); (case k2 => assumption); k_whole)))
-- J2
section
open PySem PySem.W PySem.Calls PyProof.Rows
set_option maxRecDepth 100000
set_option linter.unusedVariables false
section

def joinF (x y : Str) : Str := if Txt.startswith y (Str.ofString "/") = true then y else if (x.length : Int) = 0 then y else if Txt.endswith x (Str.ofString "/") = true then x ++ y else x ++ (Str.ofString "/" ++ y)
section
variable {w : World} {s : Shared} {A₀ : Around} {base h₀ : Heap} {outer : List Env} {L a : Addr} {cd code : Value} {nm qn : Str} {gl bi : Addr} {cls : List (Str × Addr)} {fn : Option Addr} {nms : List (Str × NameKind)} {mo : List (Str × Const)} {ig ic : Bool} {m mg mb : Str → Option Value} {news : List (Addr × Obj)} {loose : List Str} {mean : ExcName → Option Value} {d u : Nat} {gs : Option (List Code)} {Q : Value → Shared → Prop} {E : Value → Shared → Prop}

set_option maxHeartbeats 8000000 in
theorem join_spec {x y : Str} {t t' : Tok}
 (B : Below A₀ base outer h₀) (F : Fr h₀ L s.heap m) (X₀ : (Mine.hq.hd.heap_39 w.params).In h₀) (N : News h₀ L s.heap news) (T : Top topProg loose mean mg mb h₀) (hd : d < 580) (hu : u < 580)
 (hx : x.length ≤ 1000) (hy : y.length ≤ 1000)
 (h : ∀ h' tk t', Fr h₀ L h' m → News h₀ L h' news → Q (.str (joinF x y) t') { s with heap := h', toks := tk }) :
 wpAny (model Challenge.rw_pd0114_01.row.prog w) ⟨none, d, some ((⟨⟨.function, nms, ig, ic, mo⟩, L, gl, cls, qn, fn, code, some L, bi⟩ : Env) :: outer), gs, u⟩ (call (.ref 244) [.str x t, .str y t']) Q E s := by
  revert X₀; k_fill; intro X₀
  refine packB fun er9 => ?_
  w_top off
  w_strict (
   k_steps
   refine wpAny_For ?_
   k_steps
   (rename News _ _ _ _ => nN)
   (rename Fr _ _ _ _ => nF)
   refine for_tuple (vs := [.str y t']) rfl (fun i m' news' => news' = _ ∧ (i = 0 → m' = _) ∧ (i = 1 → ∃ t, m' (Str.ofString "path") = some (.str (joinF x y) t))) ?_ nF nN ⟨rfl, fun _ => rfl, fun e => (nomatch e)⟩ ?_ ?_
   · (intro i m' news' hh qq1 _ N'; (try k_fold); refine hide fun hP => ?_; rcases qq1 with ⟨rfl, _⟩ <;> (refine hP ?_; clear hP))
     exact ⟨_, News.get N' (by k_mem), rfl, _, rfl⟩
   · (intro i v m₁ news₁ hh tk I it hv hic hlt qq2 F₁ N₁ hne; (try k_fold); refine hide fun hP => ?_; rcases qq2 with ⟨rfl, hm0, hm1⟩ <;> (refine hP ?_; clear hP))
     cases i with
     | succ i => simp at hv
     | zero =>
       obtain rfl := hm0 rfl
       simp at hv
       subst hv
       clear nF nN hm0 hm1
       k_steps
       all_goals (refine exi4 _ _ _ _ ⟨rfl, by assumption, by assumption, hne, rfl, (fun e => nomatch e), fun _ => ⟨_, congrArg (fun z => some (Value.str z _)) ?_⟩⟩; unfold joinF; simp_all)
   · (intro hh tk m' news' qq3 F' N'; (try k_fold); refine hide fun hP => ?_; rcases qq3 with ⟨rfl, _, hm⟩ <;> (refine hP ?_; clear hP))
     (refine hide fun hP => ?_; rcases hm rfl with ⟨t9, ht9⟩ <;> (refine hP ?_; clear hP))
     clear nF nN
     k_steps
     exact h _ _ _ (by assumption) (by walk_at "drop"))
end
end

end
end
section
local macro_rules | `(tactic| walk_at "asm") => `(tactic| first | with_reducible assumption | assumption)
section
local macro_rules | `(tactic| walk_at "call ref") => `(tactic| ((with_reducible show wpAny _ _ (call (Value.ref 244) [Value.str _ _, Value.str _ _]) _ _ _); k_dflt (refine' join_spec (by k_asm) (by k_asm) (by k_asm) (by k_asm) (by k_asm) (by k_room) (by k_room) (by walk_at "asm") (by walk_at "asm") ?_); intro h' tk' t' F' N'; (try k_sweep)))
-- S1
section
open PySem PySem.W PySem.Calls PyProof.Rows
set_option maxRecDepth 100000
set_option linter.unusedVariables false
section

def headF (x : Str) : Str := Txt.slice x none (some (Txt.rfind x (Str.ofString "/") + 1))
def dirF (x : Str) : Str := if ((headF x).length : Int) = 0 then headF x else if (headF x != Txt.mul (Str.ofString "/") (headF x).length) = true then Txt.rstripChars (headF x) (Str.ofString "/") else headF x
section
variable {w : World} {s : Shared} {A₀ : Around} {base h₀ : Heap} {outer : List Env} {L a : Addr} {cd code : Value} {nm qn : Str} {gl bi : Addr} {cls : List (Str × Addr)} {fn : Option Addr} {nms : List (Str × NameKind)} {mo : List (Str × Const)} {ig ic : Bool} {m mg mb : Str → Option Value} {news : List (Addr × Obj)} {loose : List Str} {mean : ExcName → Option Value} {d u : Nat} {gs : Option (List Code)} {Q : Value → Shared → Prop} {E : Value → Shared → Prop}

set_option maxHeartbeats 8000000 in
theorem splitroot_spec {x : Str} {t : Tok}
 (B : Below A₀ base outer h₀) (F : Fr h₀ L s.heap m) (X₀ : (Mine.hq.hd.heap_39 w.params).In h₀) (N : News h₀ L s.heap news) (T : Top topProg loose mean mg mb h₀) (hd : d < 580) (hu : u < 580)
 (hx : x.length ≤ 10000) (h1 : (Txt.slice x none (some 1) != Str.ofString "/") = false) (h2 : (Txt.slice x (some 1) (some 2) != Str.ofString "/") = true)
 (h : ∀ h' tk D t1 t2 t3, Fr h₀ L h' m → News h₀ L h' ((D, { cls := Value.type "tuple", data := Data.seq #[Value.str (Str.ofString "") t1, Value.str (Str.ofString "/") t2, Value.str (Txt.slice x (some 1) none) t3] }) :: news) → (∀ p ∈ news, p.1 < D) → Q (.ref D) { s with heap := h', toks := tk }) :
 wpAny (model Challenge.rw_pd0114_01.row.prog w) ⟨none, d, some ((⟨⟨.function, nms, ig, ic, mo⟩, L, gl, cls, qn, fn, code, some L, bi⟩ : Env) :: outer), gs, u⟩ (call (.ref 251) [.str x t]) Q E s := by
  revert X₀; k_fill; intro X₀
  refine packB fun er9 => ?_
  w_top off
  w_strict (
   k_steps
   all_goals first | exact h _ _ _ _ _ _ (by assumption) (by assumption) (by assumption) | (exfalso; simp_all; done))
set_option maxHeartbeats 8000000 in
theorem dirname_spec {x : Str} {t : Tok}
 (B : Below A₀ base outer h₀) (F : Fr h₀ L s.heap m) (X₀ : (Mine.hq.hd.heap_39 w.params).In h₀) (N : News h₀ L s.heap news) (T : Top topProg loose mean mg mb h₀) (hd : d < 580) (hu : u < 580)
 (hx : x.length ≤ 10000)
 (h : ∀ h' tk t', Fr h₀ L h' m → News h₀ L h' news → Q (.str (dirF x) t') { s with heap := h', toks := tk }) :
 wpAny (model Challenge.rw_pd0114_01.row.prog w) ⟨none, d, some ((⟨⟨.function, nms, ig, ic, mo⟩, L, gl, cls, qn, fn, code, some L, bi⟩ : Env) :: outer), gs, u⟩ (call (.ref 258) [.str x t]) Q E s := by
  revert X₀; k_fill; intro X₀
  refine packB fun er9 => ?_
  w_top off
  w_strict (
   k_steps
   · have e : dirF x = Txt.rstripChars (headF x) (Str.ofString "/") := by unfold dirF; rw [if_neg (by assumption), if_pos (by assumption)]
     show Q (.str (Txt.rstripChars (headF x) (Str.ofString "/")) _) _; rw [← e]; exact h _ _ _ (by assumption) (by assumption)
   · have e : dirF x = headF x := by unfold dirF; rw [if_neg (by assumption), if_neg (fun e => absurd e (by rw [show (headF x != Txt.mul (Str.ofString "/") (headF x).length) = false from by assumption]; decide))]
     show Q (.str (headF x) _) _; rw [← e]; exact h _ _ _ (by assumption) (by assumption)
   · have e : dirF x = headF x := by unfold dirF; rw [if_pos (by assumption)]
     show Q (.str (headF x) _) _; rw [← e]; exact h _ _ _ (by assumption) (by assumption))
end
end

end
section
local macro_rules | `(tactic| walk_at "i3") => `(tactic| (intro h' F' N'; (try k_sweep)))
section
local macro_rules | `(tactic| walk_at "call builtin:list.append") => `(tactic| (k_here; (with_reducible show wpAny _ _ (call (Value.builtin _) [Value.ref _, _]) _ _ _); k_dflt (refine' append_vs (by k_asm) (by k_asm) (by k_upd) (by first | omega | (simp only [List.length_append, List.length_cons, List.length_nil]; omega)) ?_); walk_at "i3"))
section
local macro_rules | `(tactic| walk_at "le") => `(tactic| first | with_reducible assumption | omega | assumption)
section
local macro_rules | `(tactic| walk_at "sB") => `(tactic| (k_here; (with_reducible show wpAny _ _ (call (Value.builtin _) [Value.ref _]) _ _ _)))
section
local macro_rules | `(tactic| walk_at "sL") => `(tactic| (k_here; (with_reducible show wpAny _ _ (subscriptTail _ _ (Value.ref _) (Value.int _ _)) _ _ _); k_dflt (refine' last_snoc (by k_asm) (by k_mem) (by walk_at "le") ?_ (by with_unfolding_all rfl); k_whole)))
section
local macro_rules | `(tactic| walk_at "call ref") => `(tactic| ((with_reducible show wpAny _ _ (call (Value.ref 251) [Value.str _ _]) _ _ _); k_dflt (refine' splitroot_spec (by k_asm) (by k_asm) (by k_asm) (by k_asm) (by k_asm) (by k_room) (by k_room) (by walk_at "le") (by assumption) (by assumption) ?_); intro h' tk' D' t1' t2' t3' F' N' l1'; (try k_lt l1'); (try k_sweep)))
section
local macro_rules | `(tactic| walk_at "truthy ref") => `(tactic| (k_here; (with_reducible show wpAny _ _ (truthy (Value.ref _)) _ _ _); k_dflt (refine' truthy_snoc (by k_asm) (by k_mem) (by walk_at "le") ?_; k_whole)))
section
local macro_rules | `(tactic| walk_at "subscriptTail") => `(tactic| walk_at "sL")
section
local macro_rules | `(tactic| walk_at "subscriptTail Name UnaryOp ref int") => `(tactic| walk_at "sL")
section
local macro_rules | `(tactic| walk_at "call builtin:list.pop") => `(tactic| (walk_at "sB"; k_dflt (refine' pop_snoc (by k_asm) (by k_asm) (by k_upd) (by walk_at "le") ?_); walk_at "i3"))
section
local macro_rules | `(tactic| k_all) => `(tactic| first | exact allLt_ne (by assumption) | assumption)
-- N1
section
open PySem PySem.W PySem.Calls PyProof.Rows
set_option maxRecDepth 100000
set_option linter.unusedVariables false
section

def normStep (acc : List Str) (c : Str) : List Str := if (c.length : Int) = 0 then acc else if (c == Str.ofString ".") = true then acc else if (c != Str.ofString "..") = true then acc ++ [c] else acc.dropLast
def normF (x : Str) : Str := Str.ofString "/" ++ Txt.join (Str.ofString "/") ((Txt.split (Txt.slice x (some 1) none) (Str.ofString "/")).foldl normStep [])
theorem ns_e {acc : List Str} {c : Str} (h : (c.length : Int) = 0) : normStep acc c = acc := by simp [normStep, h]
theorem ns_d {acc : List Str} {c : Str} (h : (c == Str.ofString ".") = true) : normStep acc c = acc := by simp [normStep, h]
theorem ns_a {acc : List Str} {c : Str} (h : (c.length : Int) ≠ 0) (h1 : (c == Str.ofString ".") = false) (h2 : (c != Str.ofString "..") = true) : normStep acc c = acc ++ [c] := by simp only [normStep, if_neg h, h1, h2, Bool.false_eq_true, if_false, if_true]
theorem ns_p {acc : List Str} {c : Str} (h : (c.length : Int) ≠ 0) (h1 : (c == Str.ofString ".") = false) (h2 : (c != Str.ofString "..") = false) : normStep acc c = acc.dropLast := by simp only [normStep, if_neg h, h1, h2, Bool.false_eq_true, if_false]
theorem fold_take {α β : Type} {f : β → α → β} {z : β} {ss : List α} {i : Nat} {c : α} (h : ss[i]? = some c) : (ss.take (i + 1)).foldl f z = f ((ss.take i).foldl f z) c := by
  rw [List.take_add_one, h]; simp
theorem ne_head {a I : Addr} {o o' : Obj} {r : List (Addr × Obj)} (h : ∀ p ∈ (a, o) :: r, p.1 ≠ I) : ∀ p ∈ (a, o') :: r, p.1 ≠ I := fun p hp => by
  rcases List.mem_cons.mp hp with rfl | hp
  · exact h (a, o) (.head _)
  · exact h p (.tail _ hp)
theorem nodd_snoc {vs : List Value} {c : Str} {t : Tok} (h : ∀ v ∈ vs, ∀ c t, v = Value.str c t → (c == Str.ofString "..") = false) (hc : (c != Str.ofString "..") = true) : ∀ v ∈ vs ++ [Value.str c t], ∀ c t, v = Value.str c t → (c == Str.ofString "..") = false := by
  intro v hv c' t' e
  rcases List.mem_append.mp hv with h' | h'
  · exact h v h' c' t' e
  · simp at h'
    rw [h'] at e
    cases e
    simpa using hc
section
variable {w : World} {s : Shared} {A₀ : Around} {base h₀ : Heap} {outer : List Env} {L a : Addr} {cd code : Value} {nm qn : Str} {gl bi : Addr} {cls : List (Str × Addr)} {fn : Option Addr} {nms : List (Str × NameKind)} {mo : List (Str × Const)} {ig ic : Bool} {m mg mb : Str → Option Value} {news : List (Addr × Obj)} {loose : List Str} {mean : ExcName → Option Value} {d u : Nat} {gs : Option (List Code)} {Q : Value → Shared → Prop} {E : Value → Shared → Prop}

set_option maxHeartbeats 8000000 in
theorem normpath_spec {x : Str} {t : Tok}
 (B : Below A₀ base outer h₀) (F : Fr h₀ L s.heap m) (X₀ : (Mine.hq.hd.heap_39 w.params).In h₀) (N : News h₀ L s.heap news) (T : Top topProg loose mean mg mb h₀) (hd : d < 560) (hu : u < 560)
 (hx : x.length ≤ 5000) (hx0 : (x.length : Int) ≠ 0) (h1 : (Txt.slice x none (some 1) != Str.ofString "/") = false) (h2 : (Txt.slice x (some 1) (some 2) != Str.ofString "/") = true)
 (hsp : (Txt.split (Txt.slice x (some 1) none) (Str.ofString "/")).length ≤ 1000) (hw : (((Txt.split (Txt.slice x (some 1) none) (Str.ofString "/")).foldl normStep []).map (·.length)).sum + ((Txt.split (Txt.slice x (some 1) none) (Str.ofString "/")).foldl normStep []).length ≤ 1048576)
 (hjl : (Txt.join (Str.ofString "/") ((Txt.split (Txt.slice x (some 1) none) (Str.ofString "/")).foldl normStep [])).length ≤ 5000)
 (h : ∀ h' tk t', Fr h₀ L h' m → News h₀ L h' news → Q (.str (normF x) t') { s with heap := h', toks := tk }) :
 wpAny (model Challenge.rw_pd0114_01.row.prog w) ⟨none, d, some ((⟨⟨.function, nms, ig, ic, mo⟩, L, gl, cls, qn, fn, code, some L, bi⟩ : Env) :: outer), gs, u⟩ (call (.ref 265) [.str x t]) Q E s := by
  revert X₀; k_fill; intro X₀
  refine packB fun er9 => ?_
  w_top off
  w_strict (
   k_steps
   refine wpAny_For ?_
   k_steps
   (rename News _ _ _ _ => nN)
   (rename Fr _ _ _ _ => nF)
   (rename StrsAre _ _ => nS)
   rename_i l9 h3 k9 a3 a1 a0 h2 nc h1 lt9 h9
   (refine hide fun hP => ?_; rcases lt9 with ⟨lt1, lt2, lt3⟩ <;> (refine hP ?_; clear hP))
   refine for_listM (vs := strValues l9) rfl rfl rfl [] (fun _ n₀ i _ n' => ∃ vs n, n' = (nc, W.listOf vs.toArray n) :: n₀.tail ∧ StrsAre vs (((List.map (fun x => x.fst) l9).take i).foldl normStep []) ∧ vs.length ≤ i ∧ ∀ v ∈ vs, ∀ c t, v = .str c t → (c == Str.ofString "..") = false) ?_ nF nN ⟨[], 0, rfl, .nil, Nat.le_refl _, fun _ h => (nomatch h)⟩ ?_ ?_
   · (intro i m' n' hh qq1 _ N'; (try k_fold); refine hide fun hP => ?_; rcases qq1 with ⟨vs, n, rfl, _⟩ <;> (refine hP ?_; clear hP))
     exact ⟨_, News.get N' (.tail _ (.head _)), rfl, _, rfl⟩
   · (intro i v u n' hh tk I it hv hic hlt qq2 F₁ N₁ hne; (try k_fold); refine hide fun hP => ?_; rcases qq2 with ⟨vs, n, rfl, hS, hlen, hdd⟩ <;> (refine hP ?_; clear hP))
     (refine hide fun hP => ?_; rcases StrsAre.at nS hv with ⟨c, tc, rfl, hc⟩ <;> (refine hP ?_; clear hP))
     have hcl : c.length ≤ 5000 := Nat.le_trans (a1 c (List.mem_of_getElem? hc)) (Nat.le_trans (Txt.slice_le _ _ _) hx)
     have hvl : vs.length ≤ 1000 := by
       have q1 : i < (List.map (fun x => x.fst) l9).length := (List.getElem?_eq_some_iff.mp hc).1
       rw [a3] at q1
       omega
     clear nF nN
     k_lt hlt
     dsimp only [List.tail] at N₁ hne
     have hft := fold_take (f := normStep) (z := []) hc
     rcases List.eq_nil_or_concat vs with rfl | ⟨vs', vl, rfl⟩
     · k_steps
       · exact exi4 _ _ _ _ ⟨rfl, by assumption, by assumption, hne, (fun y h1 h2 => by repeat (first | refine upn (by assumption) ?_ | refine itn (by assumption) ?_ | rfl)), exi2 _ _ ⟨rfl, hft ▸ (ns_d (by assumption) ▸ hS), Nat.le_succ_of_le hlen, hdd⟩⟩
       · exact exi4 _ _ _ _ ⟨rfl, by assumption, by assumption, ne_head hne, (fun y h1 h2 => by repeat (first | refine upn (by assumption) ?_ | refine itn (by assumption) ?_ | rfl)), exi2 _ _ ⟨rfl, hft ▸ (ns_a (by assumption) (by assumption) (by assumption) ▸ StrsAre.snoc hS c tc), (by simp), nodd_snoc hdd (by assumption)⟩⟩
       · exact exi4 _ _ _ _ ⟨rfl, by assumption, by assumption, hne, (fun y h1 h2 => by repeat (first | refine upn (by assumption) ?_ | refine itn (by assumption) ?_ | rfl)), exi2 _ _ ⟨rfl, hft ▸ (ns_p (by assumption) (by assumption) (by assumption) ▸ (by rw [show (List.take i (List.map (fun x => x.fst) l9)).foldl normStep [] = [] from List.length_eq_zero_iff.mp (StrsAre.len hS).symm]; exact .nil)), Nat.zero_le _, hdd⟩⟩
       · exact exi4 _ _ _ _ ⟨rfl, by assumption, by assumption, hne, (fun y h1 h2 => by repeat (first | refine upn (by assumption) ?_ | refine itn (by assumption) ?_ | rfl)), exi2 _ _ ⟨rfl, hft ▸ (ns_e (by assumption) ▸ hS), Nat.le_succ_of_le hlen, hdd⟩⟩
     · rw [List.concat_eq_append] at N₁ hS hdd hlen hvl
       (refine hide fun hP => ?_; rcases StrsAre.of_snoc hS with ⟨cl, tl, rfl, hS', e9⟩ <;> (refine hP ?_; clear hP))
       have hvl' : vs'.length ≤ 1000 := by simp at hvl; omega
       have hcd : (cl == Str.ofString "..") = false := hdd _ (by simp) cl tl rfl
       k_steps
       · exact exi4 _ _ _ _ ⟨rfl, by assumption, by assumption, ne_head hne, (fun y h1 h2 => by repeat (first | refine upn (by assumption) ?_ | refine itn (by assumption) ?_ | rfl)), exi2 _ _ ⟨rfl, hft ▸ (ns_d (by assumption) ▸ hS), Nat.le_succ_of_le hlen, hdd⟩⟩
       · exact exi4 _ _ _ _ ⟨rfl, by assumption, by assumption, ne_head hne, (fun y h1 h2 => by repeat (first | refine upn (by assumption) ?_ | refine itn (by assumption) ?_ | rfl)), exi2 _ _ ⟨rfl, hft ▸ (ns_a (by assumption) (by assumption) (by assumption) ▸ StrsAre.snoc hS c tc), (by simp at hlen ⊢; omega), nodd_snoc hdd (by assumption)⟩⟩
       · exact exi4 _ _ _ _ ⟨rfl, by assumption, by assumption, ne_head hne, (fun y h1 h2 => by repeat (first | refine upn (by assumption) ?_ | refine itn (by assumption) ?_ | rfl)), exi2 _ _ ⟨rfl, hft ▸ (ns_p (by assumption) (by assumption) (by assumption) ▸ hS'), (by simp at hlen; omega), fun v hv => hdd v (List.mem_append_left _ hv)⟩⟩
       · exact exi4 _ _ _ _ ⟨rfl, by assumption, by assumption, ne_head hne, (fun y h1 h2 => by repeat (first | refine upn (by assumption) ?_ | refine itn (by assumption) ?_ | rfl)), exi2 _ _ ⟨rfl, hft ▸ (ns_e (by assumption) ▸ hS), Nat.le_succ_of_le hlen, hdd⟩⟩
   · (intro hh tk u n' qq3 F₁ N₁; (try k_fold); refine hide fun hP => ?_; rcases qq3 with ⟨vs, n, rfl, hS, hlen, hdd⟩ <;> (refine hP ?_; clear hP))
     dsimp only [List.tail] at N₁
     rw [List.take_of_length_le (by simp [strValues]), a3] at hS
     clear nF nN nS
     k_steps
     (rename News _ _ _ _ => nN)
     refine join_listW (items := vs.toArray) ⟨_, News.get nN (by k_mem), rfl, _, rfl⟩ hS (by decide) hw ?_
     intro t9 k9
     k_steps
     exact h _ _ _ (by assumption) (sub1 (sub1 (sub1 (by assumption))))
   exact absurd (by assumption) hx0)
end
end

end
section
local macro_rules | `(tactic| k_mem) => `(tactic| assumption)
section
local macro_rules | `(tactic| walk_at "i5") => `(tactic| (intro D' h' F' N' l1'; (try k_lt l1'); (try k_sweep)))
section
local macro_rules | `(tactic| walk_at "subscriptTail Name Slice ref ref") => `(tactic| (k_here; (with_reducible show wpAny _ _ (subscriptTail _ (Expr.Slice none (some _) none _) (Value.ref _) (Value.ref _)) _ _ _); k_dflt (refine' slice_led (by k_asm) (by k_asm) (by k_mem) .none (.int _ _) (pick_init _) ?_ (by with_unfolding_all rfl) (by intro _; with_unfolding_all rfl) (by first | omega | ((rename (List.map _ _ = Txt.split _ _) => hq'); (have hq2' := congrArg List.length hq'); (simp only [List.length_map, strValues] at hq2' ⊢); omega))); walk_at "i5"))
section
local macro_rules | `(tactic| walk_at "binaryOp Add ref ref") => `(tactic| (k_here; (with_reducible show wpAny _ _ (binaryOp _ (Value.ref _) (Value.ref _)) _ _ _); k_dflt (refine' concat_led (by k_asm) (by k_asm) (by k_mem) (by k_mem) ?_ (by simp only [List.length_cons, List.length_nil, List.length_drop]; omega)); walk_at "i5"))
section
local macro_rules | `(tactic| walk_at "eval Name") => `(tactic| (k_here; (with_reducible show wpAny _ _ (eval (Expr.Name (Str.ofString "names") _) _) _ _ _); k_dflt (refine' ld ?k1 ?k2 ?_; (case k1 => k_asm); (case k2 => assumption); k_whole)))
-- L1
section
open PySem PySem.W PySem.Calls PyProof.Rows
set_option maxRecDepth 100000
set_option linter.unusedVariables false
section

def ledStep (ns : List Str) (p : Str) : List Str := if (Txt.slice p none (some 1) == Str.ofString "/") = true then Txt.split (Txt.slice p (some 1) none) (Str.ofString "/") else if (p == Str.ofString "..") = true then ns.dropLast else ns ++ [p]
def ledN (x : Str) (ps : List Str) : List Str := ps.foldl ledStep (Txt.split (Txt.slice x (some 1) none) (Str.ofString "/")).dropLast
def ledF (x : Str) (ps : List Str) : Str := Str.ofString "/" ++ Txt.join (Str.ofString "/") (ledN x ps)
theorem ls_a {acc : List Str} {c : Str} (h : (Txt.slice c none (some 1) == Str.ofString "/") = true) : ledStep acc c = Txt.split (Txt.slice c (some 1) none) (Str.ofString "/") := by simp only [ledStep, h, if_true]
theorem ls_p {acc : List Str} {c : Str} (h : (Txt.slice c none (some 1) == Str.ofString "/") = false) (h1 : (c == Str.ofString "..") = true) : ledStep acc c = acc.dropLast := by simp only [ledStep, h, h1, Bool.false_eq_true, if_false, if_true]
theorem ls_n {acc : List Str} {c : Str} (h : (Txt.slice c none (some 1) == Str.ofString "/") = false) (h1 : (c == Str.ofString "..") = false) : ledStep acc c = acc ++ [c] := by simp only [ledStep, h, h1, Bool.false_eq_true, if_false]
section
variable {w : World} {s : Shared} {A₀ : Around} {base h₀ : Heap} {outer : List Env} {L a : Addr} {cd code : Value} {nm qn : Str} {gl bi : Addr} {cls : List (Str × Addr)} {fn : Option Addr} {nms : List (Str × NameKind)} {mo : List (Str × Const)} {ig ic : Bool} {m mg mb : Str → Option Value} {news : List (Addr × Obj)} {loose : List Str} {mean : ExcName → Option Value} {d u : Nat} {gs : Option (List Code)} {Q : Value → Shared → Prop} {E : Value → Shared → Prop}

set_option maxHeartbeats 8000000 in
theorem led_spec {x : Str} {t : Tok} {l : Addr} {vs : List Value} {n : Nat} {ps : List Str}
 (B : Below A₀ base outer h₀) (F : Fr h₀ L s.heap m) (X₀ : (Mine.hq.hd.heap_39 w.params).In h₀) (N : News h₀ L s.heap news) (T : Top topProg loose mean mg mb h₀) (hd : d < 560) (hu : u < 560)
 (hl : (l, W.listOf vs.toArray n) ∈ news) (hS : StrsAre vs ps) (hps : ps.length ≤ 2) (hpl : ∀ p ∈ ps, p.length ≤ 100)
 (hx : x.length ≤ 100) (hsx : (Txt.split (Txt.slice x (some 1) none) (Str.ofString "/")).length ≤ 1000) (hsp : ∀ p ∈ ps, (Txt.split (Txt.slice p (some 1) none) (Str.ofString "/")).length ≤ 1000)
 (hw : ((ledN x ps).map (·.length)).sum + (ledN x ps).length ≤ 1048576) (hjl : (Txt.join (Str.ofString "/") (ledN x ps)).length ≤ 5000)
 (h : ∀ h' tk t', Fr h₀ L h' m → News h₀ L h' news → Q (.str (ledF x ps) t') { s with heap := h', toks := tk }) :
 wpAny (model Challenge.rw_pd0114_01.row.prog w) ⟨none, d, some ((⟨⟨.function, nms, ig, ic, mo⟩, L, gl, cls, qn, fn, code, some L, bi⟩ : Env) :: outer), gs, u⟩ (call (.ref 284) [.str x t, .ref l]) Q E s := by
  revert X₀; k_fill; intro X₀
  refine packB fun er9 => ?_
  w_top off
  w_strict (
   k_steps
   refine wpAny_For ?_
   k_steps
   (rename News _ _ _ _ => nN)
   (rename Fr _ _ _ _ => nF)
   (rename StrsAre (strValues _) _ => nS)
   rename_i l9 h3 k9 a3 a1 a0 D9 h1 lt9 h9
   have nN2 := fun p hp => nN p (List.mem_cons.mp hp |>.elim (fun e => List.mem_cons.mpr (.inl e)) (fun e => List.mem_cons.mpr (.inr (.tail _ e))))
   have hS0 := StrsAre.init nS
   rw [a3] at hS0
   have hl0 : (strValues l9).dropLast.length ≤ 1000 := by
     have q := congrArg List.length a3
     simp only [List.length_map] at q
     simp [strValues]
     omega
   clear nS
   refine for_listM (vs := vs) rfl rfl rfl [Str.ofString "names"] (fun _ n₀ i u n' => ∃ D ws n, u (Str.ofString "names") = some (.ref D) ∧ n' = (D, W.listOf ws.toArray n) :: n₀.tail ∧ StrsAre ws ((ps.take i).foldl ledStep (Txt.split (Txt.slice x (some 1) none) (Str.ofString "/")).dropLast) ∧ ws.length ≤ 1000 + i) ?_ nF nN2 ⟨D9, _, _, rfl, rfl, hS0, hl0⟩ ?_ ?_
   · (intro i m' n' hh qq1 _ N'; (try k_fold); refine hide fun hP => ?_; rcases qq1 with ⟨D, ws, n, _, rfl, _⟩ <;> (refine hP ?_; clear hP))
     exact ⟨_, News.get N' (.tail _ hl), rfl, _, rfl⟩
   · (intro i v u n' hh tk I it hv hic hlt qq2 F₁ N₁ hne; (try k_fold); refine hide fun hP => ?_; rcases qq2 with ⟨D, ws, n, hu, rfl, hS1, hlen⟩ <;> (refine hP ?_; clear hP))
     (refine hide fun hP => ?_; rcases StrsAre.at hS hv with ⟨c, tc, rfl, hc⟩ <;> (refine hP ?_; clear hP))
     have hcm := List.mem_of_getElem? hc
     have hcl := hpl c hcm
     have hcs := hsp c hcm
     have hil : i < ps.length := (List.getElem?_eq_some_iff.mp hc).1
     have hwl : ws.length ≤ 1002 := by omega
     clear nF nN nN2
     dsimp only [List.tail] at N₁ hne hlt
     have hft := fold_take (f := ledStep) (z := (Txt.split (Txt.slice x (some 1) none) (Str.ofString "/")).dropLast) hc
     k_steps
     · (rename StrsAre (strValues _) _ => nS)
       (rename (List.map _ _ = Txt.split _ _) => hq)
       (rename News _ _ _ _ => nN)
       rw [hq] at nS
       have hz : (strValues _).length = _ := StrsAre.len nS
       exact exi4 _ _ _ _ ⟨rfl, by assumption, (fun p hp => nN p (List.mem_cons.mp hp |>.elim (fun e => e ▸ (by k_mem)) (fun e => List.mem_cons.mp e |>.elim (fun e => e ▸ (.head _)) (fun e => .tail _ (.tail _ (.tail _ e)))))), (fun p hp => (List.mem_cons.mp hp).elim (fun e => e ▸ ne_of_cls nN (.tail _ (.head _)) (.head _) (by rw [hic]; simp)) (fun e => hne p (.tail _ e))), (fun y h1 h2 => by simp_all [upd]), exi3 _ _ _ ⟨rfl, rfl, hft ▸ (ls_a (by assumption) ▸ nS), (by omega)⟩⟩
     · (rename News _ _ _ _ => nN)
       exact exi4 _ _ _ _ ⟨rfl, by assumption, (fun p hp => nN p (List.mem_cons.mp hp |>.elim (fun e => e ▸ (by k_mem)) (fun e => List.mem_cons.mp e |>.elim (fun e => e ▸ (.head _)) (fun e => .tail _ (.tail _ (.tail _ e)))))), (fun p hp => (List.mem_cons.mp hp).elim (fun e => e ▸ ne_of_cls nN (.tail _ (.head _)) (.head _) (by rw [hic]; simp)) (fun e => hne p (.tail _ e))), (fun y h1 h2 => by simp_all [upd]), exi3 _ _ _ ⟨rfl, rfl, (by rw [hft, ls_p (by assumption) (by assumption)]; exact StrsAre.init hS1), (by rw [List.length_dropLast]; omega)⟩⟩
     · (rename News _ _ _ _ => nN)
       exact exi4 _ _ _ _ ⟨rfl, by assumption, (fun p hp => nN p (List.mem_cons.mp hp |>.elim (fun e => e ▸ (by k_mem)) (fun e => List.mem_cons.mp e |>.elim (fun e => e ▸ (.head _)) (fun e => .tail _ (.tail _ (.tail _ (.tail _ e))))))), (fun p hp => (List.mem_cons.mp hp).elim (fun e => e ▸ ne_of_cls nN (.tail _ (.tail _ (.head _))) (.head _) (by rw [hic]; simp)) (fun e => hne p (.tail _ e))), (fun y h1 h2 => by simp_all [upd]), exi3 _ _ _ ⟨rfl, rfl, (by rw [hft, ls_n (by assumption) (by assumption)]; exact StrsAre.snoc hS1 c tc), (by rw [List.length_append, List.length_cons, List.length_nil]; omega)⟩⟩
   · (intro hh tk u n' qq3 F₁ N₁; (try k_fold); refine hide fun hP => ?_; rcases qq3 with ⟨D, ws, n, hu, rfl, hS1, hlen⟩ <;> (refine hP ?_; clear hP))
     dsimp only [List.tail] at N₁
     rw [List.take_of_length_le (by rw [StrsAre.len hS]; exact Nat.le_refl _)] at hS1
     change StrsAre ws (ledN x ps) at hS1
     clear nF nN nN2
     k_steps
     (rename News _ _ _ _ => nN)
     refine join_listW (items := ws.toArray) ⟨_, News.get nN (by k_mem), rfl, _, rfl⟩ hS1 (by decide) hw ?_
     intro t9 k9
     k_steps
     exact h _ _ _ (by assumption) (sub1 (by assumption)))
end
end

end
end
end
end
end
end
end
section
local macro_rules | `(tactic| walk_at "allne") => `(tactic| first | exact allLt_ne2 (by assumption) (by first | with_reducible assumption | with_reducible exact Nat.le_refl _ | exact Nat.le_of_lt (by with_reducible assumption) | omega) | ((rename AllLt _ _ => hA9); clear hA9; walk_at "allne"))
section
local macro_rules | `(tactic| k_lt $h:ident) => `(tactic| (replace $h := allLt_of $h; (try simp only [AllLt, and_true] at $h:ident); repeat (first | (refine and8 $h ?_; clear $h; intro hl' hl' hl' hl' hl' hl' hl' $h) | (refine and4 $h ?_; clear $h; intro hl' hl' hl' $h) | (refine and2 $h ?_; clear $h; intro hl' $h))))
section
local macro_rules | `(tactic| k_mem) => `(tactic| assumption)
section
local macro_rules | `(tactic| walk_at "i5") => `(tactic| (intro D' h' F' N' l1'; (try k_lt l1'); (try k_sweep)))
section
local macro_rules | `(tactic| walk_at "sT") => `(tactic| (k_here; (with_reducible show wpAny _ _ (subscriptTail _ _ (Value.ref _) (Value.str _ _)) _ _ _)))
section
local macro_rules | `(tactic| walk_at "subscriptTail Name Slice ref ref") => `(tactic| (k_here; (with_reducible show wpAny _ _ (subscriptTail _ (Expr.Slice none (some _) none _) (Value.ref _) (Value.ref _)) _ _ _); k_dflt (refine' slice_led (by k_asm) (by k_asm) (by k_mem) .none (.int _ _) (pick_init _) ?_ (by with_unfolding_all rfl) (by intro _; with_unfolding_all rfl) (by first | omega | ((rename (List.map _ _ = Txt.split _ _) => hq'); (have hq2' := congrArg List.length hq'); (simp only [List.length_map, strValues] at hq2' ⊢); omega))); walk_at "i5"))
section
local macro_rules | `(tactic| walk_at "binaryOp Add ref ref") => `(tactic| (k_here; (with_reducible show wpAny _ _ (binaryOp _ (Value.ref _) (Value.ref _)) _ _ _); k_dflt (refine' concat_led (by k_asm) (by k_asm) (by k_mem) (by k_mem) ?_ (by simp only [List.length_cons, List.length_nil, List.length_drop]; omega)); walk_at "i5"))
section
local macro_rules | `(tactic| walk_at "call ref") => `(tactic| ((with_reducible show wpAny _ _ (call (Value.ref 258) [Value.str _ _]) _ _ _); k_dflt (refine' dirname_spec (by k_asm) (by k_asm) (by k_asm) (by k_asm) (by k_asm) (by k_room) (by k_room) (by walk_at "le") ?_); intro h' tk' t' F' N'; (try k_sweep)))
section
local macro_rules | `(tactic| walk_at "setItem ref str") => `(tactic| (k_here; k_dflt (refine' dict_set_led (by k_asm) (by k_asm) (by k_updF) (by assumption) (by omega) ?_); intro h' o' F' N' hd'; (try dsimp only at N'); (try k_sweep)))
section
local macro_rules | `(tactic| walk_at "subscriptTail") => `(tactic| (walk_at "sT"; k_dflt (refine' dict_item_led (by k_asm) (by k_mem) (by assumption) (by assumption) ?_ (by with_unfolding_all rfl); k_whole)))
section
local macro_rules | `(tactic| walk_at "compareOp In str ref") => `(tactic| (k_here; k_dflt (refine' dict_in_led (by k_asm) (by k_mem) (by assumption) (by assumption) ?_; k_whole)))
section
local macro_rules | `(tactic| walk_at "call builtin:dict.get") => `(tactic| (k_here; (with_reducible show wpAny _ _ (call (Value.builtin _) [Value.ref _, Value.str _ _]) _ _ _); k_dflt (first | (refine' dict_get_some (by k_asm) (by k_mem) (by assumption) (by assumption) (by assumption) ?_; k_whole) | (refine' dict_get_none (by k_asm) (by k_mem) (by assumption) (by assumption) (by assumption) ?_; k_whole))))
section
local macro_rules | `(tactic| k_all) => `(tactic| first | assumption | walk_at "allne")
-- G1
section
open PySem PySem.W PySem.Calls PyProof.Rows
set_option maxRecDepth 100000
set_option linter.unusedVariables false
section
abbrev sAttrs (P : Params) (k1 k2 k3 k4 : Tok) (ia : Addr) (rn np nf : Value) : Obj :=
  dictOf [⟨PyData.keyHash P (Str.ofString "_node2info"), .str (Str.ofString "_node2info") k1, .ref ia⟩, ⟨PyData.keyHash P (Str.ofString "_ready_nodes"), .str (Str.ofString "_ready_nodes") k2, rn⟩,
    ⟨PyData.keyHash P (Str.ofString "_npassedout"), .str (Str.ofString "_npassedout") k3, np⟩, ⟨PyData.keyHash P (Str.ofString "_nfinished"), .str (Str.ofString "_nfinished") k4, nf⟩] 4
abbrev infoObj (dd : Addr) (x : Str) (t : Tok) (n : Int) (tn : Tok) (l : Addr) : Obj := { cls := .ref 49, dict := some dd, slots := #[some (.str x t), some (.int n tn), some (.ref l)] }
section
variable {w : World} {s : Shared} {A₀ : Around} {base h₀ : Heap} {outer : List Env} {L a : Addr} {cd code : Value} {nm qn : Str} {gl bi : Addr} {cls : List (Str × Addr)} {fn : Option Addr} {nms : List (Str × NameKind)} {mo : List (Str × Const)} {ig ic : Bool} {m mg mb : Str → Option Value} {news : List (Addr × Obj)} {loose : List Str} {mean : ExcName → Option Value} {d u : Nat} {gs : Option (List Code)} {Q : Value → Shared → Prop} {E : Value → Shared → Prop}

variable {sa da ia : Addr} {k1 k2 k3 k4 : Tok} {rn np nf : Value} {oi : Obj} {own : List (Addr × Obj)} {kvs : List (Str × Value)}
set_option maxHeartbeats 8000000 in
theorem get_found {x : Str} {t : Tok} {v : Addr}
 (B : Below A₀ base outer h₀) (F : Fr h₀ L s.heap m) (X₀ : (Mine.hq.hd.heap_39 w.params).In h₀) (N : News h₀ L s.heap ((sa, instObj 146 da) :: (da, sAttrs w.params k1 k2 k3 k4 ia rn np nf) :: (ia, oi) :: own)) (T : Top topProg loose mean mg mb h₀) (hd : d < 560) (hu : u < 560)
 (hi : oi.IsDictOf (strKind Challenge.rw_pd0114_01.row.prog w) kvs) (hlo : (ia == sysModules) = false) (hv : valueAt kvs x = some (.ref v))
 (h : ∀ h' tk, Fr h₀ L h' m → News h₀ L h' ((sa, instObj 146 da) :: (da, sAttrs w.params k1 k2 k3 k4 ia rn np nf) :: (ia, oi) :: own) → Q (.ref v) { s with heap := h', toks := tk }) :
 wpAny (model Challenge.rw_pd0114_01.row.prog w) ⟨none, d, some ((⟨⟨.function, nms, ig, ic, mo⟩, L, gl, cls, qn, fn, code, some L, bi⟩ : Env) :: outer), gs, u⟩ (call (.ref 89) [.ref sa, .str x t]) Q E s := by
  revert X₀; k_fill; intro X₀
  refine packB fun er9 => ?_
  w_top off
  w_strict (
   k_steps
   exact h _ _ (by assumption) (by assumption))
set_option maxHeartbeats 8000000 in
theorem get_new {x : Str} {t : Tok}
 (B : Below A₀ base outer h₀) (F : Fr h₀ L s.heap m) (X₀ : (Mine.hq.hd.heap_39 w.params).In h₀) (N : News h₀ L s.heap ((sa, instObj 146 da) :: (da, sAttrs w.params k1 k2 k3 k4 ia rn np nf) :: (ia, oi) :: own)) (T : Top topProg loose mean mg mb h₀) (hd : d < 560) (hu : u < 560)
 (e1 : @LT.lt Nat _ da sa) (e2 : @LT.lt Nat _ sa ia) (o1 : ∀ p ∈ own, p.1 ≠ sa) (o2 : ∀ p ∈ own, p.1 ≠ da) (o3 : ∀ p ∈ own, p.1 ≠ ia) (hi : oi.IsDictOf (strKind Challenge.rw_pd0114_01.row.prog w) kvs) (hkl : kvs.length ≤ 100) (hlo : (ia == sysModules) = false) (hv : valueAt kvs x = none)
 (h : ∀ h' tk o' x' l' d' tn, Fr h₀ L h' m → News h₀ L h' ((l', listOf #[] 0) :: (x', infoObj d' x t 0 tn l') :: (d', dictOf [] 0) :: (sa, instObj 146 da) :: (da, sAttrs w.params k1 k2 k3 k4 ia rn np nf) :: (ia, o') :: own) →
   o'.IsDictOf (strKind Challenge.rw_pd0114_01.row.prog w) (stored kvs x (.ref x')) → @LT.lt Nat _ sa d' → @LT.lt Nat _ da d' → @LT.lt Nat _ ia d' → AllLt d' own → @LT.lt Nat _ d' x' → @LT.lt Nat _ x' l' → Q (.ref x') { s with heap := h', toks := tk }) :
 wpAny (model Challenge.rw_pd0114_01.row.prog w) ⟨none, d, some ((⟨⟨.function, nms, ig, ic, mo⟩, L, gl, cls, qn, fn, code, some L, bi⟩ : Env) :: outer), gs, u⟩ (call (.ref 89) [.ref sa, .str x t]) Q E s := by
  revert X₀; k_fill; intro X₀
  refine packB fun er9 => ?_
  w_top off
  w_strict (
   k_steps
   exact h _ _ _ _ _ _ _ (by assumption) (by assumption) (by assumption) (by assumption) (by assumption) (by assumption) (by assumption) (by assumption) (by assumption))
end
end

end
-- G2
section
open PySem PySem.W PySem.Calls PyProof.Rows
set_option maxRecDepth 100000
set_option linter.unusedVariables false
section

/-- a node's info, as the ledger bears it -/
structure NI where
  key : Str
  a : Addr
  l : Addr
  d : Addr
  n : Int
  succ : List Str
abbrev PN := Str × Int × List Str
def NI.pure (i : NI) : PN := (i.key, i.n, i.succ)
def InfoIn (own : List (Addr × Obj)) (i : NI) : Prop := ∃ t tn vs ep, (i.a, infoObj i.d i.key t i.n tn i.l) ∈ own ∧ (i.l, listOf vs.toArray ep) ∈ own ∧ (i.d, dictOf [] 0) ∈ own ∧ StrsAre vs i.succ
structure Graph (prog : Program) (w : World) (oi : Obj) (own : List (Addr × Obj)) (G : List NI) : Prop where
  dict : oi.IsDictOf (strKind prog w) (G.map fun i => (i.key, Value.ref i.a))
  infos : ∀ i ∈ G, InfoIn own i
  apA : ∀ i ∈ G, ∀ j ∈ G, i.a = j.a → i = j
  apL : ∀ i ∈ G, ∀ j ∈ G, i.l = j.l → i = j
  apAL : ∀ i ∈ G, ∀ j ∈ G, i.a ≠ j.l
  apDA : ∀ i ∈ G, ∀ j ∈ G, i.d ≠ j.a
  apDL : ∀ i ∈ G, ∀ j ∈ G, i.d ≠ j.l
  apK : ∀ i ∈ G, ∀ j ∈ G, i.key = j.key → i = j
def off (own : List (Addr × Obj)) (a : Addr) : List (Addr × Obj) := own.filter fun p => decide (p.1 ≠ a)
theorem mem_off {own : List (Addr × Obj)} {a : Addr} {p : Addr × Obj} : p ∈ off own a ↔ p ∈ own ∧ p.1 ≠ a := by simp [off]
theorem off_ne {own : List (Addr × Obj)} {a : Addr} : ∀ p ∈ off own a, p.1 ≠ a := fun p hp => (mem_off.mp hp).2
theorem off_sub {own : List (Addr × Obj)} {a : Addr} {P : Addr × Obj → Prop} (h : ∀ p ∈ own, P p) : ∀ p ∈ off own a, P p := fun p hp => h p (mem_off.mp hp).1
section
variable {prog : Program} {w : World} {oi : Obj} {own : List (Addr × Obj)} {G : List NI} {i : NI}
theorem Graph.mono (g : Graph prog w oi own G) {own' : List (Addr × Obj)} (h : ∀ p ∈ own, p ∈ own') : Graph prog w oi own' G :=
  ⟨g.dict, fun i hi => let ⟨t, tn, vs, ep, h1, h2, h4, h3⟩ := g.infos i hi; ⟨t, tn, vs, ep, h _ h1, h _ h2, h _ h4, h3⟩, g.apA, g.apL, g.apAL, g.apDA, g.apDL, g.apK⟩
theorem Graph.setN (g : Graph prog w oi own G) (hi : i ∈ G) {t tn' : Tok} {n' : Int} :
    Graph prog w oi ((i.a, infoObj i.d i.key t n' tn' i.l) :: off own i.a) (G.map fun j => if j.key = i.key then { j with n := n' } else j) := by
  have hf : ∀ j : NI, (if j.key = i.key then ({ j with n := n' } : NI) else j).key = j.key ∧ (if j.key = i.key then ({ j with n := n' } : NI) else j).a = j.a ∧ (if j.key = i.key then ({ j with n := n' } : NI) else j).l = j.l ∧ (if j.key = i.key then ({ j with n := n' } : NI) else j).d = j.d := fun j => by split <;> simp
  refine ⟨?_, ?_, ?_, ?_, ?_, ?_, ?_, ?_⟩
  · have e : (G.map fun j => if j.key = i.key then ({ j with n := n' } : NI) else j).map (fun i => (i.key, Value.ref i.a)) = G.map fun i => (i.key, Value.ref i.a) := by
      rw [List.map_map]
      apply List.map_congr_left
      intro j _
      simp [(hf j).1, (hf j).2.1]
    rw [e]; exact g.dict
  · intro j' hj'
    obtain ⟨j, hj, rfl⟩ := List.mem_map.mp hj'
    by_cases hk : j.key = i.key
    · have := g.apK j hj i hi hk
      subst this
      rw [if_pos rfl]
      obtain ⟨t₀, tn₀, vs, ep, h1, h2, h4, h3⟩ := g.infos j hj
      exact ⟨t, tn', vs, ep, .head _, .tail _ (mem_off.mpr ⟨h2, fun e => g.apAL j hj j hj e.symm⟩), .tail _ (mem_off.mpr ⟨h4, fun e => g.apDA j hj j hj e⟩), h3⟩
    · rw [if_neg hk]
      obtain ⟨t₀, tn₀, vs, ep, h1, h2, h4, h3⟩ := g.infos j hj
      exact ⟨t₀, tn₀, vs, ep, .tail _ (mem_off.mpr ⟨h1, fun e => hk (by rw [g.apA j hj i hi e])⟩), .tail _ (mem_off.mpr ⟨h2, fun e => g.apAL i hi j hj e.symm⟩), .tail _ (mem_off.mpr ⟨h4, fun e => g.apDA j hj i hi e⟩), h3⟩
  · intro p hp q hq e
    obtain ⟨p', hp', rfl⟩ := List.mem_map.mp hp
    obtain ⟨q', hq', rfl⟩ := List.mem_map.mp hq
    rw [(hf p').2.1, (hf q').2.1] at e
    rw [g.apA p' hp' q' hq' e]
  · intro p hp q hq e
    obtain ⟨p', hp', rfl⟩ := List.mem_map.mp hp
    obtain ⟨q', hq', rfl⟩ := List.mem_map.mp hq
    rw [(hf p').2.2.1, (hf q').2.2.1] at e
    rw [g.apL p' hp' q' hq' e]
  · intro p hp q hq
    obtain ⟨p', hp', rfl⟩ := List.mem_map.mp hp
    obtain ⟨q', hq', rfl⟩ := List.mem_map.mp hq
    rw [(hf p').2.1, (hf q').2.2.1]
    exact g.apAL p' hp' q' hq'
  · intro p hp q hq
    obtain ⟨p', hp', rfl⟩ := List.mem_map.mp hp
    obtain ⟨q', hq', rfl⟩ := List.mem_map.mp hq
    rw [(hf p').2.2.2, (hf q').2.1]
    exact g.apDA p' hp' q' hq'
  · intro p hp q hq
    obtain ⟨p', hp', rfl⟩ := List.mem_map.mp hp
    obtain ⟨q', hq', rfl⟩ := List.mem_map.mp hq
    rw [(hf p').2.2.2, (hf q').2.2.1]
    exact g.apDL p' hp' q' hq'
  · intro p hp q hq e
    obtain ⟨p', hp', rfl⟩ := List.mem_map.mp hp
    obtain ⟨q', hq', rfl⟩ := List.mem_map.mp hq
    rw [(hf p').1, (hf q').1] at e
    rw [g.apK p' hp' q' hq' e]
theorem Graph.setS (g : Graph prog w oi own G) (hi : i ∈ G) {vs' : List Value} {ep' : Nat} {ss : List Str} (hS : StrsAre vs' ss) :
    Graph prog w oi ((i.l, listOf vs'.toArray ep') :: off own i.l) (G.map fun j => if j.key = i.key then { j with succ := ss } else j) := by
  have hf : ∀ j : NI, (if j.key = i.key then ({ j with succ := ss } : NI) else j).key = j.key ∧ (if j.key = i.key then ({ j with succ := ss } : NI) else j).a = j.a ∧ (if j.key = i.key then ({ j with succ := ss } : NI) else j).l = j.l ∧ (if j.key = i.key then ({ j with succ := ss } : NI) else j).d = j.d := fun j => by split <;> simp
  refine ⟨?_, ?_, ?_, ?_, ?_, ?_, ?_, ?_⟩
  · have e : (G.map fun j => if j.key = i.key then ({ j with succ := ss } : NI) else j).map (fun i => (i.key, Value.ref i.a)) = G.map fun i => (i.key, Value.ref i.a) := by
      rw [List.map_map]
      apply List.map_congr_left
      intro j _
      simp [(hf j).1, (hf j).2.1]
    rw [e]; exact g.dict
  · intro j' hj'
    obtain ⟨j, hj, rfl⟩ := List.mem_map.mp hj'
    by_cases hk : j.key = i.key
    · have := g.apK j hj i hi hk
      subst this
      rw [if_pos rfl]
      obtain ⟨t₀, tn₀, vs, ep, h1, h2, h4, h3⟩ := g.infos j hj
      exact ⟨t₀, tn₀, vs', ep', .tail _ (mem_off.mpr ⟨h1, fun e => g.apAL j hj j hj e⟩), .head _, .tail _ (mem_off.mpr ⟨h4, fun e => g.apDL j hj j hj e⟩), hS⟩
    · rw [if_neg hk]
      obtain ⟨t₀, tn₀, vs, ep, h1, h2, h4, h3⟩ := g.infos j hj
      exact ⟨t₀, tn₀, vs, ep, .tail _ (mem_off.mpr ⟨h1, fun e => g.apAL j hj i hi e⟩), .tail _ (mem_off.mpr ⟨h2, fun e => hk (by rw [g.apL j hj i hi e])⟩), .tail _ (mem_off.mpr ⟨h4, fun e => g.apDL j hj i hi e⟩), h3⟩
  · intro p hp q hq e
    obtain ⟨p', hp', rfl⟩ := List.mem_map.mp hp
    obtain ⟨q', hq', rfl⟩ := List.mem_map.mp hq
    rw [(hf p').2.1, (hf q').2.1] at e
    rw [g.apA p' hp' q' hq' e]
  · intro p hp q hq e
    obtain ⟨p', hp', rfl⟩ := List.mem_map.mp hp
    obtain ⟨q', hq', rfl⟩ := List.mem_map.mp hq
    rw [(hf p').2.2.1, (hf q').2.2.1] at e
    rw [g.apL p' hp' q' hq' e]
  · intro p hp q hq
    obtain ⟨p', hp', rfl⟩ := List.mem_map.mp hp
    obtain ⟨q', hq', rfl⟩ := List.mem_map.mp hq
    rw [(hf p').2.1, (hf q').2.2.1]
    exact g.apAL p' hp' q' hq'
  · intro p hp q hq
    obtain ⟨p', hp', rfl⟩ := List.mem_map.mp hp
    obtain ⟨q', hq', rfl⟩ := List.mem_map.mp hq
    rw [(hf p').2.2.2, (hf q').2.1]
    exact g.apDA p' hp' q' hq'
  · intro p hp q hq
    obtain ⟨p', hp', rfl⟩ := List.mem_map.mp hp
    obtain ⟨q', hq', rfl⟩ := List.mem_map.mp hq
    rw [(hf p').2.2.2, (hf q').2.2.1]
    exact g.apDL p' hp' q' hq'
  · intro p hp q hq e
    obtain ⟨p', hp', rfl⟩ := List.mem_map.mp hp
    obtain ⟨q', hq', rfl⟩ := List.mem_map.mp hq
    rw [(hf p').1, (hf q').1] at e
    rw [g.apK p' hp' q' hq' e]
theorem allLt_mem {d : Addr} : ∀ {l : List (Addr × Obj)}, AllLt d l → ∀ p ∈ l, @LT.lt Nat _ p.1 d
  | [], _, _, h => nomatch h
  | q :: l, hl, p, h => by
    rcases List.mem_cons.mp h with rfl | h
    · exact hl.1
    · exact allLt_mem hl.2 p h
theorem Graph.new (g : Graph prog w oi own G) {oi' : Obj} {x : Str} {t tn : Tok} {d' x' l' : Addr} (hx : valueAt (G.map fun i => (i.key, Value.ref i.a)) x = none)
    (hd : oi'.IsDictOf (strKind prog w) (stored (G.map fun i => (i.key, Value.ref i.a)) x (.ref x'))) (h1 : AllLt d' own) (h2 : @LT.lt Nat _ d' x') (h3 : @LT.lt Nat _ x' l') :
    Graph prog w oi' ((l', listOf #[] 0) :: (x', infoObj d' x t 0 tn l') :: (d', dictOf [] 0) :: own) (G ++ [⟨x, x', l', d', 0, []⟩]) := by
  have hk : ∀ i ∈ G, i.key ≠ x := fun i hi e => by
    have : (List.find? (fun kv : Str × Value => decide (kv.1 = x)) (G.map fun i => (i.key, Value.ref i.a))).isSome = true := by
      rw [List.find?_isSome]
      exact ⟨(i.key, .ref i.a), List.mem_map.mpr ⟨i, hi, rfl⟩, by simp [e]⟩
    unfold valueAt at hx
    rw [Option.map_eq_none_iff] at hx
    rw [hx] at this
    cases this
  have hA : ∀ i ∈ G, @LT.lt Nat _ i.a d' := fun i hi => by
    obtain ⟨_, _, _, _, h, _, _, _⟩ := g.infos i hi
    exact allLt_mem h1 _ h
  have hLl : ∀ i ∈ G, @LT.lt Nat _ i.l d' := fun i hi => by
    obtain ⟨_, _, _, _, _, h, _, _⟩ := g.infos i hi
    exact allLt_mem h1 _ h
  have hD : ∀ i ∈ G, @LT.lt Nat _ i.d d' := fun i hi => by
    obtain ⟨_, _, _, _, _, _, h, _⟩ := g.infos i hi
    exact allLt_mem h1 _ h
  refine ⟨?_, ?_, ?_, ?_, ?_, ?_, ?_, ?_⟩
  · have e : stored (G.map fun i => (i.key, Value.ref i.a)) x (.ref x') = (G ++ [(⟨x, x', l', d', 0, []⟩ : NI)]).map fun i => (i.key, Value.ref i.a) := by
      unfold stored
      rw [if_neg]
      · simp
      · simp only [List.any_map, List.any_eq_true, Function.comp, decide_eq_true_eq, not_exists, not_and]
        exact fun i hi => hk i hi
    rw [← e]; exact hd
  · intro i hi
    rcases List.mem_append.mp hi with hi | hi
    · obtain ⟨t₀, tn₀, vs, ep, q1, q2, q4, q3⟩ := g.infos i hi
      exact ⟨t₀, tn₀, vs, ep, .tail _ (.tail _ (.tail _ q1)), .tail _ (.tail _ (.tail _ q2)), .tail _ (.tail _ (.tail _ q4)), q3⟩
    · rw [List.mem_singleton.mp hi]
      exact ⟨t, tn, [], 0, .tail _ (.head _), .head _, .tail _ (.tail _ (.head _)), .nil⟩
  · intro i hi j hj e
    rcases List.mem_append.mp hi with hi | hi <;> rcases List.mem_append.mp hj with hj | hj
    · exact g.apA i hi j hj e
    · rw [List.mem_singleton.mp hj] at e; have := hA i hi; rw [e] at this; dsimp only at this; exact absurd this (by omega)
    · rw [List.mem_singleton.mp hi] at e; have := hA j hj; rw [← e] at this; dsimp only at this; exact absurd this (by omega)
    · rw [List.mem_singleton.mp hi, List.mem_singleton.mp hj]
  · intro i hi j hj e
    rcases List.mem_append.mp hi with hi | hi <;> rcases List.mem_append.mp hj with hj | hj
    · exact g.apL i hi j hj e
    · rw [List.mem_singleton.mp hj] at e; have := hLl i hi; rw [e] at this; dsimp only at this; exact absurd this (by omega)
    · rw [List.mem_singleton.mp hi] at e; have := hLl j hj; rw [← e] at this; dsimp only at this; exact absurd this (by omega)
    · rw [List.mem_singleton.mp hi, List.mem_singleton.mp hj]
  · intro i hi j hj e
    rcases List.mem_append.mp hi with hi | hi <;> rcases List.mem_append.mp hj with hj | hj
    · exact g.apAL i hi j hj e
    · rw [List.mem_singleton.mp hj] at e; have := hA i hi; rw [e] at this; dsimp only at this; exact absurd this (by omega)
    · rw [List.mem_singleton.mp hi] at e; have := hLl j hj; rw [← e] at this; dsimp only at this; exact absurd this (by omega)
    · rw [List.mem_singleton.mp hi, List.mem_singleton.mp hj] at e; have h4 : x' = l' := e; rw [h4] at h3; exact absurd h3 (Nat.lt_irrefl _)
  · intro i hi j hj e
    rcases List.mem_append.mp hi with hi | hi <;> rcases List.mem_append.mp hj with hj | hj
    · exact g.apDA i hi j hj e
    · rw [List.mem_singleton.mp hj] at e; have := hD i hi; rw [e] at this; dsimp only at this; exact absurd this (by omega)
    · rw [List.mem_singleton.mp hi] at e; have := hA j hj; rw [← e] at this; dsimp only at this; exact absurd this (by omega)
    · rw [List.mem_singleton.mp hi, List.mem_singleton.mp hj] at e; have h4 : d' = x' := e; rw [h4] at h2; exact absurd h2 (Nat.lt_irrefl _)
  · intro i hi j hj e
    rcases List.mem_append.mp hi with hi | hi <;> rcases List.mem_append.mp hj with hj | hj
    · exact g.apDL i hi j hj e
    · rw [List.mem_singleton.mp hj] at e; have := hD i hi; rw [e] at this; dsimp only at this; exact absurd this (by omega)
    · rw [List.mem_singleton.mp hi] at e; have := hLl j hj; rw [← e] at this; dsimp only at this; exact absurd this (by omega)
    · rw [List.mem_singleton.mp hi, List.mem_singleton.mp hj] at e; have h4 : d' = l' := e; exact absurd h3 (by rw [h4] at h2; omega)
  · intro i hi j hj e
    rcases List.mem_append.mp hi with hi | hi <;> rcases List.mem_append.mp hj with hj | hj
    · exact g.apK i hi j hj e
    · rw [List.mem_singleton.mp hj] at e; exact absurd e (hk i hi)
    · rw [List.mem_singleton.mp hi] at e; exact absurd e.symm (hk j hj)
    · rw [List.mem_singleton.mp hi, List.mem_singleton.mp hj]
theorem Graph.value (g : Graph prog w oi own G) (hi : i ∈ G) : valueAt (G.map fun i => (i.key, Value.ref i.a)) i.key = some (.ref i.a) := by
  have hs : (List.find? (fun kv : Str × Value => decide (kv.1 = i.key)) (G.map fun i => (i.key, Value.ref i.a))).isSome = true := by
    rw [List.find?_isSome]
    exact ⟨(i.key, .ref i.a), List.mem_map.mpr ⟨i, hi, rfl⟩, by simp⟩
  unfold valueAt
  obtain ⟨kv, hkv⟩ := Option.isSome_iff_exists.mp hs
  rw [hkv]
  have h1 := List.find?_some hkv
  have h2 := List.mem_of_find?_eq_some hkv
  obtain ⟨j, hj, rfl⟩ := List.mem_map.mp h2
  simp at h1
  rw [g.apK j hj i hi h1]
  rfl
theorem value_none {G : List NI} {x : Str} (h : ∀ i ∈ G, i.key ≠ x) : valueAt (G.map fun i => (i.key, Value.ref i.a)) x = none := by
  unfold valueAt
  rw [Option.map_eq_none_iff, List.find?_eq_none]
  intro kv hkv
  obtain ⟨j, hj, rfl⟩ := List.mem_map.mp hkv
  simpa using h j hj
end
end

end
-- G3
section
open PySem PySem.W PySem.Calls PyProof.Rows
set_option maxRecDepth 100000
set_option linter.unusedVariables false
section
def ensure (g : List PN) (x : Str) : List PN := if g.any (fun p => decide (p.1 = x)) then g else g ++ [(x, 0, [])]
theorem rot3 {h₀ h : Heap} {L : Addr} {p0 f1 f2 f3 : Addr × Obj} {own : List (Addr × Obj)} (N : News h₀ L h (p0 :: f1 :: f2 :: f3 :: own)) : News h₀ L h (f1 :: f2 :: f3 :: p0 :: own) :=
  fun p hp => N p (by simp only [List.mem_cons] at hp ⊢; rcases hp with h | h | h | h | h <;> simp [h])
theorem pull2 {h₀ h : Heap} {L a b : Addr} {o q : Obj} {f1 f2 f3 : Addr × Obj} {own : List (Addr × Obj)} (N : News h₀ L h (f1 :: f2 :: f3 :: own)) (ha : (a, o) ∈ own) (hb : (b, q) ∈ own) : News h₀ L h ((a, o) :: (b, q) :: f1 :: f2 :: f3 :: off (off own a) b) :=
  fun p hp => N p (by
    simp only [List.mem_cons] at hp ⊢
    rcases hp with rfl | rfl | h | h | h | h
    · simp [ha]
    · simp [hb]
    · simp [h]
    · simp [h]
    · simp [h]
    · simp [(mem_off.mp (mem_off.mp h).1).1])
/-- what a call leaves apart -/
structure Apart (own : List (Addr × Obj)) (sa da ia : Addr) : Prop where
  sa : ∀ p ∈ own, p.1 ≠ sa
  da : ∀ p ∈ own, p.1 ≠ da
  ia : ∀ p ∈ own, p.1 ≠ ia
theorem Apart.cons {own : List (Addr × Obj)} {sa da ia : Addr} {p : Addr × Obj} (h : Apart own sa da ia) (h1 : p.1 ≠ sa) (h2 : p.1 ≠ da) (h3 : p.1 ≠ ia) : Apart (p :: own) sa da ia :=
  ⟨List.forall_mem_cons.mpr ⟨h1, h.sa⟩, List.forall_mem_cons.mpr ⟨h2, h.da⟩, List.forall_mem_cons.mpr ⟨h3, h.ia⟩⟩
theorem Apart.off {own : List (Addr × Obj)} {sa da ia a : Addr} (h : Apart own sa da ia) : Apart (off own a) sa da ia := ⟨off_sub h.sa, off_sub h.da, off_sub h.ia⟩
section
variable {w : World} {s : Shared} {A₀ : Around} {base h₀ : Heap} {outer : List Env} {L a : Addr} {cd code : Value} {nm qn : Str} {gl bi : Addr} {cls : List (Str × Addr)} {fn : Option Addr} {nms : List (Str × NameKind)} {mo : List (Str × Const)} {ig ic : Bool} {m mg mb : Str → Option Value} {news : List (Addr × Obj)} {loose : List Str} {mean : ExcName → Option Value} {d u : Nat} {gs : Option (List Code)} {Q : Value → Shared → Prop} {E : Value → Shared → Prop}

variable {sa da ia : Addr} {k1 k2 k3 k4 : Tok} {rn np nf : Value} {oi : Obj} {own : List (Addr × Obj)} {G : List NI}
theorem get_spec {x : Str} {t : Tok}
 (B : Below A₀ base outer h₀) (F : Fr h₀ L s.heap m) (X₀ : (Mine.hq.hd.heap_39 w.params).In h₀) (N : News h₀ L s.heap ((sa, instObj 146 da) :: (da, sAttrs w.params k1 k2 k3 k4 ia rn np nf) :: (ia, oi) :: own)) (T : Top topProg loose mean mg mb h₀) (hd : d < 560) (hu : u < 560)
 (e1 : @LT.lt Nat _ da sa) (e2 : @LT.lt Nat _ sa ia) (ap : Apart own sa da ia) (g : Graph Challenge.rw_pd0114_01.row.prog w oi own G) (hG : G.length ≤ 90) (hlo : (ia == sysModules) = false)
 (h : ∀ h' tk oi' own' G' i, Fr h₀ L h' m → News h₀ L h' ((sa, instObj 146 da) :: (da, sAttrs w.params k1 k2 k3 k4 ia rn np nf) :: (ia, oi') :: own') → Graph Challenge.rw_pd0114_01.row.prog w oi' own' G' → Apart own' sa da ia → i ∈ G' → i.key = x → G'.map NI.pure = ensure (G.map NI.pure) x → G'.length ≤ G.length + 1 → (∀ p ∈ own, p ∈ own') → (∀ k ∈ G', k ∈ G ∨ ∀ p ∈ own, p.1 ≠ k.a ∧ p.1 ≠ k.l) → Q (.ref i.a) { s with heap := h', toks := tk }) :
 wpAny (model Challenge.rw_pd0114_01.row.prog w) ⟨none, d, some ((⟨⟨.function, nms, ig, ic, mo⟩, L, gl, cls, qn, fn, code, some L, bi⟩ : Env) :: outer), gs, u⟩ (call (.ref 89) [.ref sa, .str x t]) Q E s := by
  by_cases hx : ∃ i ∈ G, i.key = x
  · (refine hide fun hP => ?_; rcases hx with ⟨i, hi, rfl⟩ <;> (refine hP ?_; clear hP))
    refine get_found B F X₀ N T hd hu g.dict hlo (g.value hi) fun h' tk F' N' => ?_
    refine h h' tk oi own G i F' N' g ap hi rfl ?_ (Nat.le_succ _) (fun _ hp => hp) (fun _ hk => .inl hk)
    unfold ensure
    rw [if_pos]
    simp only [List.any_map, List.any_eq_true, Function.comp, decide_eq_true_eq]
    exact ⟨i, hi, rfl⟩
  · have hx' : ∀ i ∈ G, i.key ≠ x := fun i hi e => hx ⟨i, hi, e⟩
    have hn := value_none hx'
    refine get_new B F X₀ N T hd hu e1 e2 ap.sa ap.da ap.ia g.dict (by simp; omega) hlo hn fun h' tk o' x' l' d' tn F' N' hd' q1 q2 q3 q4 q5 q6 => ?_
    have hne : ∀ {a b : Addr}, @LT.lt Nat _ b a → a ≠ b := fun h e => by rw [e] at h; exact Nat.lt_irrefl _ h
    refine h h' tk o' _ _ ⟨x, x', l', d', 0, []⟩ F' (fun p hp => N' p ?_) (g.new (t := t) (tn := tn) hn hd' q4 q5 q6) ?_ (by simp) rfl ?_ (by simp) (fun p hp => .tail _ (.tail _ (.tail _ hp))) ?_
    · simp only [List.mem_cons] at hp ⊢
      rcases hp with h | h | h | h | h | h | h <;> simp [h]
    · exact ((ap.cons (p := (d', dictOf [] 0)) (hne q1) (hne q2) (hne q3)).cons (p := (x', infoObj d' x t 0 tn l')) (hne (by omega)) (hne (by omega)) (hne (by omega))).cons (p := (l', listOf #[] 0)) (hne (by omega)) (hne (by omega)) (hne (by omega))
    · unfold ensure
      rw [if_neg]
      · simp [NI.pure]
      · simp only [List.any_map, List.any_eq_true, Function.comp, decide_eq_true_eq, not_exists, not_and]
        exact fun i hi => hx' i hi
    · intro k hk
      rcases List.mem_append.mp hk with hk | hk
      · exact .inl hk
      · rw [List.mem_singleton.mp hk]
        exact .inr fun p hp => ⟨fun e => by have := allLt_mem q4 p hp; rw [e] at this; dsimp only at this; omega, fun e => by have := allLt_mem q4 p hp; rw [e] at this; dsimp only at this; omega⟩
end
end

end
end
section
local macro_rules | `(tactic| k_all) => `(tactic| first | assumption | exact off_ne | exact off_sub off_ne | walk_at "allne")
-- G4
section
local macro_rules | `(tactic| walk_at "spare") => `(tactic| skip)
open PySem PySem.W PySem.Calls PyProof.Rows
set_option maxRecDepth 100000
set_option linter.unusedVariables false
section
def bump (g : List PN) (x : Str) : List PN := g.map fun p => if p.1 = x then (p.1, p.2.1 + 1, p.2.2) else p
def pushS (g : List PN) (y x : Str) : List PN := g.map fun p => if p.1 = y then (p.1, p.2.1, p.2.2 ++ [x]) else p
def addP (g : List PN) (x y : Str) : List PN := pushS (ensure (bump (ensure g x) x) y) y x
theorem pullA {h₀ h : Heap} {L a b c : Addr} {o q r : Obj} {f1 f2 f3 : Addr × Obj} {own : List (Addr × Obj)} (N : News h₀ L h (f1 :: f2 :: f3 :: own)) (ha : (a, o) ∈ own) (hb : (b, q) ∈ own) (hc : (c, r) ∈ own) : News h₀ L h ((a, o) :: (b, q) :: (c, r) :: f1 :: f2 :: f3 :: off own a) :=
  fun p hp => N p (by
    simp only [List.mem_cons] at hp ⊢
    rcases hp with rfl | rfl | rfl | h | h | h | h
    · simp [ha]
    · simp [hb]
    · simp [hc]
    · simp [h]
    · simp [h]
    · simp [h]
    · simp [(mem_off.mp h).1])
theorem backA {h₀ h : Heap} {L a b c : Addr} {o q r : Obj} {f1 f2 f3 : Addr × Obj} {rest : List (Addr × Obj)} (N : News h₀ L h ((a, o) :: (b, q) :: (c, r) :: f1 :: f2 :: f3 :: rest)) : News h₀ L h (f1 :: f2 :: f3 :: (a, o) :: rest) :=
  fun p hp => N p (by
    simp only [List.mem_cons] at hp ⊢
    rcases hp with h | h | h | h | h <;> simp [h])
theorem Graph.offI {prog : Program} {w : World} {oi : Obj} {own : List (Addr × Obj)} {G : List NI} (g : Graph prog w oi own G) {h₀ h : Heap} {L I : Addr} {it : Obj} {all : List (Addr × Obj)} (N : News h₀ L h all) (hs : ∀ p ∈ own, p ∈ all) (hI : (I, it) ∈ all)
    (h1 : it.cls ≠ .ref 49) (h2 : it.cls ≠ .type "list") (h3 : it.cls ≠ .type "dict") : Graph prog w oi (off own I) G :=
  ⟨g.dict, fun i hi => let ⟨t, tn, vs, ep, q1, q2, q4, q3⟩ := g.infos i hi
    ⟨t, tn, vs, ep, mem_off.mpr ⟨q1, ne_of_cls N hI (hs _ q1) (Ne.symm h1)⟩, mem_off.mpr ⟨q2, ne_of_cls N hI (hs _ q2) (Ne.symm h2)⟩, mem_off.mpr ⟨q4, ne_of_cls N hI (hs _ q4) (Ne.symm h3)⟩, q3⟩, g.apA, g.apL, g.apAL, g.apDA, g.apDL, g.apK⟩
theorem afterBump {prog : Program} {w : World} {oi : Obj} {own : List (Addr × Obj)} {G : List NI} {i : NI} {h₀ h : Heap} {L b c sa da ia : Addr} {q r o₀ : Obj} {t tn' : Tok} {f1 f2 f3 : Addr × Obj}
    (N : News h₀ L h ((i.a, infoObj i.d i.key t (i.n + 1) tn' i.l) :: (b, q) :: (c, r) :: f1 :: f2 :: f3 :: off own i.a)) (g : Graph prog w oi own G) (hi : i ∈ G) (ap : Apart own sa da ia) (hm : (i.a, o₀) ∈ own) (hc : (c, r) ∈ own) (hca : c ≠ i.a) :
    ∃ own2 G2, News h₀ L h (f1 :: f2 :: f3 :: own2) ∧ Graph prog w oi own2 G2 ∧ Apart own2 sa da ia ∧ (c, r) ∈ own2 ∧ G2.map NI.pure = bump (G.map NI.pure) i.key ∧ G2.length = G.length ∧ (∀ j ∈ G2, ∃ k ∈ G, j.succ = k.succ ∧ j.a = k.a ∧ j.l = k.l) ∧ ∀ p ∈ own, p.1 ≠ i.a → p ∈ own2 := by
  refine exi2 _ _ ⟨backA N, g.setN hi, (ap.off (a := i.a)).cons (show i.a ≠ sa from ap.sa (i.a, o₀) hm) (show i.a ≠ da from ap.da (i.a, o₀) hm) (show i.a ≠ ia from ap.ia (i.a, o₀) hm), .tail _ (mem_off.mpr ⟨hc, hca⟩), ?_, by simp, ?_, fun p hp hn => .tail _ (mem_off.mpr ⟨hp, hn⟩)⟩
  · unfold bump
    rw [List.map_map, List.map_map]
    apply List.map_congr_left
    intro j hj
    simp only [Function.comp]
    by_cases hk : j.key = i.key
    · have := g.apK j hj i hi hk
      subst this
      simp [NI.pure]
    · rw [if_neg hk, if_neg (show ¬ (NI.pure j).1 = i.key from hk)]
  · intro j hj
    (refine hide fun hP => ?_; rcases List.mem_map.mp hj with ⟨k, hk, rfl⟩ <;> (refine hP ?_; clear hP))
    exact ⟨k, hk, by split <;> rfl, by split <;> rfl, by split <;> rfl⟩
theorem mem_ensure {g : List PN} {x : Str} {p : PN} (h : p ∈ ensure g x) : p ∈ g ∨ p = (x, 0, []) := by
  unfold ensure at h
  split at h
  · exact .inl h
  · rcases List.mem_append.mp h with h | h
    · exact .inl h
    · exact .inr (List.mem_singleton.mp h)
theorem afterPush {prog : Program} {w : World} {oi : Obj} {own : List (Addr × Obj)} {G : List NI} {j : NI} {h₀ h : Heap} {L sa da ia I : Addr} {it : Obj} {tj tnj : Tok} {n : Int} {vs : List Value} {ep : Nat} {x : Str} {t : Tok} {f1 f2 f3 : Addr × Obj} {o₀ : Obj}
    (N : News h₀ L h ((j.l, listOf (vs ++ [Value.str x t]).toArray ep) :: (j.a, infoObj j.d j.key tj n tnj j.l) :: (j.d, dictOf [] 0) :: f1 :: f2 :: f3 :: off own j.l)) (g : Graph prog w oi own G) (hj : j ∈ G) (ap : Apart own sa da ia) (hm : (j.l, o₀) ∈ own) (hS : StrsAre vs j.succ)
    (hI : (I, it) ∈ own) (hic : it.cls = .type "tuple_iterator") (hI1 : f1.1 ≠ I) (hI2 : f2.1 ≠ I) (hI3 : f3.1 ≠ I) (hIl : I ≠ j.l) :
    ∃ own2 G2, News h₀ L h ((I, it) :: f1 :: f2 :: f3 :: own2) ∧ Graph prog w oi own2 G2 ∧ Apart own2 sa da ia ∧ (∀ p ∈ f1 :: f2 :: f3 :: own2, p.1 ≠ I) ∧ (∀ p ∈ own, p.1 ≠ j.l → p.1 ≠ I → p ∈ own2) ∧ G2.map NI.pure = pushS (G.map NI.pure) j.key x ∧ ∀ k ∈ G2, ∃ k0 ∈ G, k.a = k0.a ∧ k.l = k0.l := by
  have N2 := backA N
  have hIm : (I, it) ∈ (j.l, listOf (vs ++ [Value.str x t]).toArray ep) :: off own j.l := .tail _ (mem_off.mpr ⟨hI, hIl⟩)
  have g2 := g.setS hj (ep' := ep) (StrsAre.snoc hS x t)
  refine ⟨off ((j.l, listOf (vs ++ [Value.str x t]).toArray ep) :: off own j.l) I, _, ?_, g2.offI (I := I) (it := it) N2 (fun p hp => .tail _ (.tail _ (.tail _ hp))) (.tail _ (.tail _ (.tail _ hIm))) (by rw [hic]; simp) (by rw [hic]; simp) (by rw [hic]; simp), ?_, ?_, ?_, ?_, ?_⟩
  · intro p hp
    simp only [List.mem_cons] at hp
    rcases hp with rfl | rfl | rfl | rfl | hp
    · exact N2 _ (.tail _ (.tail _ (.tail _ hIm)))
    · exact N2 _ (.head _)
    · exact N2 _ (.tail _ (.head _))
    · exact N2 _ (.tail _ (.tail _ (.head _)))
    · exact N2 _ (.tail _ (.tail _ (.tail _ (mem_off.mp hp).1)))
  · exact Apart.off (Apart.cons ap.off (show j.l ≠ sa from ap.sa (j.l, o₀) hm) (show j.l ≠ da from ap.da (j.l, o₀) hm) (show j.l ≠ ia from ap.ia (j.l, o₀) hm))
  · intro p hp
    simp only [List.mem_cons] at hp
    rcases hp with rfl | rfl | rfl | hp
    · exact hI1
    · exact hI2
    · exact hI3
    · exact (mem_off.mp hp).2
  · exact fun p hp h1 h2 => mem_off.mpr ⟨.tail _ (mem_off.mpr ⟨hp, h1⟩), h2⟩
  · unfold pushS
    rw [List.map_map, List.map_map]
    apply List.map_congr_left
    intro k hk
    simp only [Function.comp]
    by_cases hkk : k.key = j.key
    · have := g.apK k hk j hj hkk
      subst this
      simp [NI.pure]
    · rw [if_neg hkk, if_neg (show ¬ (NI.pure k).1 = j.key from hkk)]
  · intro k hk
    (refine hide fun hP => ?_; rcases List.mem_map.mp hk with ⟨k0, hk0, rfl⟩ <;> (refine hP ?_; clear hP))
    exact ⟨k0, hk0, by split <;> rfl, by split <;> rfl⟩
section
variable {w : World} {s : Shared} {A₀ : Around} {base h₀ : Heap} {outer : List Env} {L a : Addr} {cd code : Value} {nm qn : Str} {gl bi : Addr} {cls : List (Str × Addr)} {fn : Option Addr} {nms : List (Str × NameKind)} {mo : List (Str × Const)} {ig ic : Bool} {m mg mb : Str → Option Value} {news : List (Addr × Obj)} {loose : List Str} {mean : ExcName → Option Value} {d u : Nat} {gs : Option (List Code)} {Q : Value → Shared → Prop} {E : Value → Shared → Prop}

variable {sa da ia : Addr} {k1 k2 k3 k4 : Tok} {rn np nf : Value} {oi : Obj} {own : List (Addr × Obj)} {G : List NI}
set_option maxHeartbeats 8000000 in
theorem add_spec {x y : Str} {t t' : Tok}
 (B : Below A₀ base outer h₀) (F : Fr h₀ L s.heap m) (X₀ : (Mine.hq.hd.heap_39 w.params).In h₀) (N : News h₀ L s.heap ((sa, instObj 146 da) :: (da, sAttrs w.params k1 k2 k3 k4 ia .none np nf) :: (ia, oi) :: own)) (T : Top topProg loose mean mg mb h₀) (hd : d < 540) (hu : u < 540)
 (e1 : @LT.lt Nat _ da sa) (e2 : @LT.lt Nat _ sa ia) (ap : Apart own sa da ia) (g : Graph Challenge.rw_pd0114_01.row.prog w oi own G) (hG : G.length ≤ 80) (hS : ∀ i ∈ G, i.succ.length ≤ 80) (hlo : (ia == sysModules) = false)
 (h : ∀ h' tk oi' own' G', Fr h₀ L h' m → News h₀ L h' ((sa, instObj 146 da) :: (da, sAttrs w.params k1 k2 k3 k4 ia .none np nf) :: (ia, oi') :: own') → Graph Challenge.rw_pd0114_01.row.prog w oi' own' G' → Apart own' sa da ia → G'.map NI.pure = addP (G.map NI.pure) x y → (∀ p ∈ own, (∀ i ∈ G, p.1 ≠ i.a ∧ p.1 ≠ i.l) → p ∈ own' ∧ ∀ i ∈ G', p.1 ≠ i.a ∧ p.1 ≠ i.l) → Q .none { s with heap := h', toks := tk }) :
 wpAny (model Challenge.rw_pd0114_01.row.prog w) ⟨none, d, some ((⟨⟨.function, nms, ig, ic, mo⟩, L, gl, cls, qn, fn, code, some L, bi⟩ : Env) :: outer), gs, u⟩ (call (.ref 96) [.ref sa, .str x t, .str y t']) Q E s := by
  revert X₀; k_fill; intro X₀
  refine packB fun er9 => ?_
  have o1 := ap.sa
  have o2 := ap.da
  have o3 := ap.ia
  w_top off
  w_strict (
   (repeat' ((fail_if_success (with_reducible show wpAny _ _ (call (Value.ref 89) _) _ _ _)); (walk_at "step9")))
   (rename News _ _ _ _ => nN)
   (rename Fr _ _ _ _ => nF)
   have nN2 := rot3 nN
   refine get_spec (own := (_, _) :: own) (by k_asm) nF (by k_asm) nN2 (by k_asm) (by k_room) (by k_room) e1 e2 (ap.cons ?_ ?_ ?_) (g.mono fun p hp => .tail _ hp) (by omega) hlo ?_
   · exact (Nat.ne_of_gt (by assumption))
   · exact (Nat.ne_of_gt (by assumption))
   · exact (Nat.ne_of_gt (by assumption))
   intro h1 tk1 oi1 own1 G1 i1 F1 N1 g1 ap1 hi1 hk1 hp1 hl1 hs1 hf1
   (refine hide fun hP => ?_; rcases g1.infos i1 hi1 with ⟨ti, tn, vs, ep, hm1, hm2, hm3, hSi⟩ <;> (refine hP ?_; clear hP))
   have hD1 := hs1 _ (.head _)
   have N2 := pullA N1 hm1 hm3 hD1
   have q1 := neN (ap1.sa _ hm1)
   have q2 := neN (ap1.da _ hm1)
   have q3 := neN (ap1.ia _ hm1)
   have q4 := neN (ne_of_cls N1 (.tail _ (.tail _ (.tail _ hm1))) (.tail _ (.tail _ (.tail _ hD1))) (by simp))
   have q5 := neN (g1.apDA i1 hi1 i1 hi1)
   dsimp only at q1 q2 q3 q4
   clear nN nN2 N1 nF
   (repeat' ((fail_if_success (with_reducible show wpAny _ _ (call (Value.ref 89) _) _ _ _)); (walk_at "step9")))
   (rename News _ _ _ _ => nN)
   (rename Fr _ _ _ _ => nF)
   (refine hide fun hP => ?_; rcases afterBump nN g1 hi1 ap1 hm1 hD1 q4 with ⟨own2, G2, N3, g2, ap2, hD2, hp2, hl2, hs2, hkeep2⟩ <;> (refine hP ?_; clear hP))
   have hk1'' : ∀ p ∈ own, (∀ i ∈ G, p.1 ≠ i.a ∧ p.1 ≠ i.l) → ∀ k ∈ G1, p.1 ≠ k.a ∧ p.1 ≠ k.l := fun p hp hg k hk => (hf1 k hk).elim (fun h => hg k h) (fun h => h p (.tail _ hp))
   obtain ⟨pD, hpD, hD2⟩ : ∃ p, p = _ ∧ p ∈ own2 := ⟨_, rfl, hD2⟩
   clear nN
   refine wpAny_For ?_
   k_steps
   refine for_tupleM (vs := [.str y t']) rfl rfl rfl [Str.ofString "pred_info"] (fun _ n₀ i _ n' => (i = 0 ∧ n' = n₀) ∨ (i = 1 ∧ ∃ oi' own' G', n' = (sa, instObj 146 da) :: (da, sAttrs w.params k1 k2 k3 k4 ia .none np nf) :: (ia, oi') :: own' ∧ Graph Challenge.rw_pd0114_01.row.prog w oi' own' G' ∧ Apart own' sa da ia ∧ G'.map NI.pure = addP (G.map NI.pure) x y ∧ pD ∈ own' ∧ ∀ p ∈ own, (∀ i ∈ G, p.1 ≠ i.a ∧ p.1 ≠ i.l) → p ∈ own' ∧ ∀ i ∈ G', p.1 ≠ i.a ∧ p.1 ≠ i.l)) ?_ (by assumption) N3 (.inl ⟨rfl, rfl⟩) ?_ ?_
   · (intro i m' n' hh qq1 _ N'; (try k_fold); refine hide fun hP => ?_; rcases qq1 with (⟨_, rfl⟩ | ⟨_, oi', own', G', rfl, _, _, _, hmD, _⟩) <;> (refine hP ?_; clear hP))
     · have := N' _ (.tail _ (.tail _ (.tail _ hD2)))
       rw [hpD] at this
       exact ⟨_, this.1, rfl, _, rfl⟩
     · have := N' _ (.tail _ (.tail _ (.tail _ hmD)))
       rw [hpD] at this
       exact ⟨_, this.1, rfl, _, rfl⟩
   · rintro i v u n' hh tk I it hv hic hlt hJ F₁ N₁ hne
     cases i with
     | succ i => simp at hv
     | zero =>
       rcases hJ with ⟨_, rfl⟩ | ⟨h, _⟩
       · simp at hv
         subst hv
         (repeat' ((fail_if_success (with_reducible show wpAny _ _ (call (Value.ref 89) _) _ _ _)); (walk_at "step9")))
         (rename News _ _ _ _ => nN)
         (rename Fr _ _ _ _ => nF)
         refine get_spec (own := (I, it) :: own2) (by k_asm) nF (by k_asm) (rot3 nN) (by k_asm) (by k_room) (by k_room) e1 e2 (ap2.cons (Ne.symm (hne _ (.head _))) (Ne.symm (hne _ (.tail _ (.head _)))) (Ne.symm (hne _ (.tail _ (.tail _ (.head _)))))) (g2.mono fun p hp => .tail _ hp) (by omega) hlo ?_
         intro h3 tk3 oi3 own3 G3 j F3 N4 g3 ap3 hj hk3 hp3 hl3 hs3 hf3
         (refine hide fun hP => ?_; rcases g3.infos j hj with ⟨tj, tnj, vsj, epj, m1, m2, m3, hSj⟩ <;> (refine hP ?_; clear hP))
         have hjs : vsj.length ≤ 80 := by
           rw [StrsAre.len hSj]
           have : j.pure ∈ ensure (G2.map NI.pure) y := hp3 ▸ List.mem_map.mpr ⟨j, hj, rfl⟩
           rcases mem_ensure this with h | h
           · (refine hide fun hP => ?_; rcases List.mem_map.mp h with ⟨k, hk, e⟩ <;> (refine hP ?_; clear hP))
             have e2 : k.succ = j.succ := congrArg (fun p : PN => p.2.2) e
             (refine hide fun hP => ?_; rcases hs2 k hk with ⟨k1, hk1, e3, _, _⟩ <;> (refine hP ?_; clear hP))
             have : k1.pure ∈ ensure (G.map NI.pure) x := hp1 ▸ List.mem_map.mpr ⟨k1, hk1, rfl⟩
             rcases mem_ensure this with h | h
             · (refine hide fun hP => ?_; rcases List.mem_map.mp h with ⟨k0, hk0, e0⟩ <;> (refine hP ?_; clear hP))
               have e4 : k0.succ = k1.succ := congrArg (fun p : PN => p.2.2) e0
               rw [← e2, e3, ← e4]
               exact hS k0 hk0
             · have e4 : k1.succ = [] := congrArg (fun p : PN => p.2.2) h
               rw [← e2, e3, e4]; simp
           · have e2 : j.succ = [] := congrArg (fun p : PN => p.2.2) h
             rw [e2]; simp
         have N5 := pullA N4 m2 m1 m3
         have hIm := hs3 _ (List.Mem.head own2)
         have r1 := neN (ap3.sa _ m2)
         have r2 := neN (ap3.da _ m2)
         have r3 := neN (ap3.ia _ m2)
         have r4 := neN (g3.apAL j hj j hj)
         have r5 := neN (g3.apDL j hj j hj)
         have r6 : I ≠ j.l := ne_of_cls N4 (.tail _ (.tail _ (.tail _ m2))) (.tail _ (.tail _ (.tail _ hIm))) (by rw [hic]; simp)
         have r7 : pD.1 ≠ j.l := ne_of_cls (D := pD.1) (o := pD.2) N4 (.tail _ (.tail _ (.tail _ m2))) (.tail _ (.tail _ (.tail _ (hs3 _ (.tail _ hD2))))) (by rw [hpD]; simp)
         dsimp only at r1 r2 r3
         clear nN nF N4
         k_steps
         (rename News _ _ _ _ => nN)
         (refine hide fun hP => ?_; rcases afterPush nN g3 hj ap3 m2 hSj hIm hic (hne _ (.head _)) (hne _ (.tail _ (.head _))) (show ia ≠ I from hne (ia, oi1) (.tail _ (.tail _ (.head _)))) r6 with ⟨own4, G4, N6, g4, ap4, hn4, hkp4, hp4, hs4⟩ <;> (refine hP ?_; clear hP))
         refine exi4 _ _ _ _ ⟨rfl, by assumption, N6, hn4, (fun y h1 h2 => by simp_all [upd]), .inr ⟨by first | rfl | trivial, oi3, own4, G4, rfl, g4, ap4, ?_, hkp4 _ (hs3 _ (.tail _ hD2)) r7 (hne _ (.tail _ (.tail _ (.tail _ hD2)))), ?_⟩⟩
         · rw [hp4, hp3, hp2, hp1, hk3, hk1]
           rfl
         · intro p hp hg
           have hp2' := hkeep2 p (hs1 p (.tail _ hp)) (hk1'' p hp hg i1 hi1).1
           have hG3 : ∀ k ∈ G3, p.1 ≠ k.a ∧ p.1 ≠ k.l := by
             intro k hk
             rcases hf3 k hk with h | h
             · (refine hide fun hP => ?_; rcases hs2 k h with ⟨k1, hk1', _, e0, e⟩ <;> (refine hP ?_; clear hP))
               rw [e, e0]
               exact hk1'' p hp hg k1 hk1'
             · exact h p (.tail _ hp2')
           refine ⟨hkp4 p (hs3 p (.tail _ hp2')) (hG3 j hj).2 (hne p (.tail _ (.tail _ (.tail _ hp2')))), fun k hk => ?_⟩
           (refine hide fun hP => ?_; rcases hs4 k hk with ⟨k0, hk0, e1, e2⟩ <;> (refine hP ?_; clear hP))
           rw [e1, e2]
           exact hG3 k0 hk0
       · cases h
   · (intro hh tk u n' qq2 F₁ N₁; (try k_fold); refine hide fun hP => ?_; rcases qq2 with (⟨h, _⟩ | ⟨_, oi', own', G', rfl, g9, ap9, hp9, _, hkp9⟩) <;> (refine hP ?_; clear hP))
     · cases h
     · k_steps
       exact h _ _ _ _ _ (by assumption) (by assumption) g9 ap9 hp9 hkp9)
end
end

end
section
local macro_rules | `(tactic| walk_at "call type:bool") => `(tactic| (k_here; (with_reducible show wpAny _ _ (call (Value.type "bool") [Value.ref _]) _ _ _); k_dflt (refine' bool_list (by k_asm) (by k_mem) (by omega) ?_; k_whole)))
section
local macro_rules | `(tactic| walk_at "call builtin:list.clear") => `(tactic| (walk_at "sB"; k_dflt (refine' kl_clear (by k_asm) (by k_asm) (by k_upd) (by exact ne_len (by assumption)) (by rw [sizeLine_eq]; simp only [Array.length_toList, List.size_toArray]; omega) ?_); walk_at "i3"))
section
local macro_rules | `(tactic| walk_at "call builtin:len") => `(tactic| (walk_at "sB"; k_dflt (first | (refine' len_tup_led (by k_asm) (by k_mem) (by omega) ?_; k_whole) | (refine' len_list_led (by k_asm) (by k_mem) (by omega) ?_; k_whole))))
-- A2
section
open PySem PySem.W PySem.Calls PyProof.Rows
set_option maxRecDepth 100000
set_option linter.unusedVariables false
section
def NI.kd (i : NI) : Str × Addr := (i.key, i.d)
theorem pullG {h₀ h : Heap} {L a b : Addr} {o q : Obj} {front own : List (Addr × Obj)} (N : News h₀ L h (front ++ own)) (ha : (a, o) ∈ own) (hb : (b, q) ∈ own) : News h₀ L h ((a, o) :: (b, q) :: (front ++ off own a)) :=
  fun p hp => N p (by
    simp only [List.mem_cons, List.mem_append] at hp ⊢
    rcases hp with rfl | rfl | h | h
    · exact .inr ha
    · exact .inr hb
    · exact .inl h
    · exact .inr (mem_off.mp h).1)
def setP (r : Str) (n : Int) (g : List PN) : List PN := g.map fun p => if p.1 = r then (p.1, n, p.2.2) else p
theorem afterOut {prog : Program} {w : World} {oi : Obj} {own : List (Addr × Obj)} {G : List NI} {j : NI} {h₀ h : Heap} {L b : Addr} {q o₀ : Obj} {t tn' : Tok} {n' : Int} {front : List (Addr × Obj)}
    (N : News h₀ L h ((j.a, infoObj j.d j.key t n' tn' j.l) :: (b, q) :: (front ++ off own j.a))) (g : Graph prog w oi own G) (hj : j ∈ G) (hm : (j.a, o₀) ∈ own) :
    ∃ own2 G2, News h₀ L h (front ++ own2) ∧ Graph prog w oi own2 G2 ∧ (∀ P : Addr → Prop, (∀ p ∈ own, P p.1) → ∀ p ∈ own2, P p.1) ∧ G2.map NI.pure = setP j.key n' (G.map NI.pure) ∧ (∀ p ∈ own, p.1 ≠ j.a → p ∈ own2) ∧ (∀ k0 ∈ G, ∃ k ∈ G2, k.key = k0.key) ∧ ∀ k ∈ G2, ∃ k0 ∈ G, k.a = k0.a ∧ k.l = k0.l ∧ k.kd = k0.kd ∧ k.succ = k0.succ := by
  refine exi2 _ _ ⟨?_, g.setN hj (t := t) (tn' := tn') (n' := n'), ?_, ?_, fun p hp hn => .tail _ (mem_off.mpr ⟨hp, hn⟩), fun k0 hk0 => ⟨_, List.mem_map.mpr ⟨k0, hk0, rfl⟩, by split <;> rfl⟩, ?_⟩
  · intro p hp
    refine N p ?_
    simp only [List.mem_cons, List.mem_append] at hp ⊢
    rcases hp with h | h | h
    · exact .inr (.inr (.inl h))
    · exact .inl h
    · exact .inr (.inr (.inr h))
  · intro P hP p hp
    rcases List.mem_cons.mp hp with rfl | hp
    · exact hP (j.a, o₀) hm
    · exact hP _ (mem_off.mp hp).1
  · unfold setP
    rw [List.map_map, List.map_map]
    apply List.map_congr_left
    intro k hk
    simp only [Function.comp]
    by_cases hkk : k.key = j.key
    · rw [if_pos hkk, if_pos (show (NI.pure k).1 = j.key from hkk)]
      rfl
    · rw [if_neg hkk, if_neg (show ¬ (NI.pure k).1 = j.key from hkk)]
  · intro k hk
    (refine hide fun hP => ?_; rcases List.mem_map.mp hk with ⟨k0, hk0, rfl⟩ <;> (refine hP ?_; clear hP))
    exact ⟨k0, hk0, by split <;> rfl, by split <;> rfl, by split <;> rfl, by split <;> rfl⟩
section
variable {w : World} {s : Shared} {A₀ : Around} {base h₀ : Heap} {outer : List Env} {L a : Addr} {cd code : Value} {nm qn : Str} {gl bi : Addr} {cls : List (Str × Addr)} {fn : Option Addr} {nms : List (Str × NameKind)} {mo : List (Str × Const)} {ig ic : Bool} {m mg mb : Str → Option Value} {news : List (Addr × Obj)} {loose : List Str} {mean : ExcName → Option Value} {d u : Nat} {gs : Option (List Code)} {Q : Value → Shared → Prop} {E : Value → Shared → Prop}

variable {sa da ia ra : Addr} {k1 k2 k3 k4 tp tq : Tok} {p q : Int} {vs : List Value} {ep : Nat} {own : List (Addr × Obj)} {oi : Obj} {G : List NI} {rs : List Str}
set_option maxHeartbeats 8000000 in
theorem active_spec
 (B : Below A₀ base outer h₀) (F : Fr h₀ L s.heap m) (X₀ : (Mine.hq.hd.heap_39 w.params).In h₀) (N : News h₀ L s.heap ((sa, instObj 146 da) :: (da, sAttrs w.params k1 k2 k3 k4 ia (.ref ra) (.int p tp) (.int q tq)) :: (ra, listOf vs.toArray ep) :: own)) (T : Top topProg loose mean mg mb h₀) (hd : d < 560) (hu : u < 560)
 (hz : vs.length ≤ 100)
 (h : ∀ h' tk b, b = (decide (q < p) || !vs.isEmpty) → Fr h₀ L h' m → News h₀ L h' ((sa, instObj 146 da) :: (da, sAttrs w.params k1 k2 k3 k4 ia (.ref ra) (.int p tp) (.int q tq)) :: (ra, listOf vs.toArray ep) :: own) → Q (.bool b) { s with heap := h', toks := tk }) :
 wpAny (model Challenge.rw_pd0114_01.row.prog w) ⟨none, d, some ((⟨⟨.function, nms, ig, ic, mo⟩, L, gl, cls, qn, fn, code, some L, bi⟩ : Env) :: outer), gs, u⟩ (call (.ref 115) [.ref sa]) Q E s := by
  revert X₀; k_fill; intro X₀
  refine packB fun er9 => ?_
  w_top off
  w_strict (
   k_steps
   · have hq : q < p := by omega
     exact h _ _ _ (by rw [decide_eq_true hq, Bool.true_or]) (by assumption) (by assumption)
   · have hq : ¬ q < p := by omega
     exact h _ _ _ (by rw [decide_eq_false hq, Bool.false_or]) (by assumption) (by assumption))
set_option maxHeartbeats 8000000 in
theorem ready_spec
 (B : Below A₀ base outer h₀) (F : Fr h₀ L s.heap m) (X₀ : (Mine.hq.hd.heap_39 w.params).In h₀) (N : News h₀ L s.heap ((sa, instObj 146 da) :: (da, sAttrs w.params k1 k2 k3 k4 ia (.ref ra) (.int p tp) (.int q tq)) :: (ia, oi) :: (ra, listOf vs.toArray ep) :: own)) (T : Top topProg loose mean mg mb h₀) (hd : d < 560) (hu : u < 560)
 (hz : vs.length ≤ 100) (hz0 : vs ≠ []) (e1 : @LT.lt Nat _ da sa) (e2 : @LT.lt Nat _ sa ia) (e3 : @Ne Nat sa ra) (e4 : @Ne Nat da ra) (e5 : @Ne Nat ia ra) (hS : StrsAre vs rs) (g : Graph Challenge.rw_pd0114_01.row.prog w oi own G) (ap : Apart own sa da ia) (hra : ∀ p ∈ own, p.1 ≠ ra)
 (hin : ∀ r ∈ rs, ∃ i ∈ G, i.key = r)
 (h : ∀ h' tk D own' G' tp' ep', Fr h₀ L h' m → News h₀ L h' ((D, { cls := Value.type "tuple", data := Data.seq vs.toArray }) :: ((sa, instObj 146 da) :: (da, sAttrs w.params k1 k2 k3 k4 ia (.ref ra) (.int (p + (vs.length : Int)) tp') (.int q tq)) :: (ia, oi) :: (ra, listOf #[] ep') :: own')) → Graph Challenge.rw_pd0114_01.row.prog w oi own' G' → Apart own' sa da ia → (∀ p ∈ own', p.1 ≠ ra) → G'.map NI.pure = rs.foldl (fun g r => setP r (-1) g) (G.map NI.pure) → (∀ p ∈ own, (∀ k ∈ G, p.1 ≠ k.a) → p ∈ own') → (∀ k ∈ G', ∃ k0 ∈ G, k.a = k0.a ∧ k.l = k0.l ∧ k.kd = k0.kd) → Q (.ref D) { s with heap := h', toks := tk }) :
 wpAny (model Challenge.rw_pd0114_01.row.prog w) ⟨none, d, some ((⟨⟨.function, nms, ig, ic, mo⟩, L, gl, cls, qn, fn, code, some L, bi⟩ : Env) :: outer), gs, u⟩ (call (.ref 108) [.ref sa]) Q E s := by
  revert X₀; k_fill; intro X₀
  refine packB fun er9 => ?_
  w_top off
  w_strict (
   k_steps
   refine wpAny_For ?_
   k_steps
   (rename News _ _ _ _ => nN)
   (rename Fr _ _ _ _ => nF)
   refine for_tupleM (vs := vs) rfl rfl rfl [] (fun _ n₀ i _ n' => ∃ own' G', n' = n₀.head?.toList ++ ((sa, instObj 146 da) :: (da, sAttrs w.params k1 k2 k3 k4 ia (.ref ra) (.int p tp) (.int q tq)) :: (ia, oi) :: (ra, listOf vs.toArray ep) :: own') ∧ Graph Challenge.rw_pd0114_01.row.prog w oi own' G' ∧ Apart own' sa da ia ∧ (∀ p ∈ own', p.1 ≠ ra) ∧ G'.map NI.pure = (rs.take i).foldl (fun g r => setP r (-1) g) (G.map NI.pure) ∧ (∀ p ∈ own, (∀ k ∈ G, p.1 ≠ k.a) → p ∈ own') ∧ (∀ k ∈ G', ∃ k0 ∈ G, k.a = k0.a ∧ k.l = k0.l ∧ k.kd = k0.kd) ∧ (∀ k0 ∈ G, ∃ k ∈ G', k.key = k0.key)) ?_ nF nN ⟨own, G, rfl, g, ap, hra, rfl, fun _ h _ => h, fun k hk => ⟨k, hk, rfl, rfl, rfl⟩, fun k hk => ⟨k, hk, rfl⟩⟩ ?_ ?_
   · (intro i m' n' hh qq1 _ N'; (try k_fold); refine hide fun hP => ?_; rcases qq1 with ⟨own', G', rfl, _⟩ <;> (refine hP ?_; clear hP))
     exact ⟨_, (N' _ (.head _)).1, rfl, _, rfl⟩
   · (intro i v u n' hh tk I it hv hic hlt qq2 F₁ N₁ hne; (try k_fold); refine hide fun hP => ?_; rcases qq2 with ⟨own', G', rfl, g', ap', hra', hp', hk', hks', hkr'⟩ <;> (refine hP ?_; clear hP))
     (refine hide fun hP => ?_; rcases StrsAre.at hS hv with ⟨r, tr, rfl, hr⟩ <;> (refine hP ?_; clear hP))
     dsimp only [List.head?, Option.toList, List.cons_append, List.nil_append] at N₁ hne
     have hrG : ∃ j ∈ G', j.key = r := by
       (refine hide fun hP => ?_; rcases hin r (List.mem_of_getElem? hr) with ⟨i0, hi0, e0⟩ <;> (refine hP ?_; clear hP))
       (refine hide fun hP => ?_; rcases hkr' i0 hi0 with ⟨k, hk, e⟩ <;> (refine hP ?_; clear hP))
       exact ⟨k, hk, e.trans e0⟩
     (refine hide fun hP => ?_; rcases hrG with ⟨j, hj, rfl⟩ <;> (refine hP ?_; clear hP))
     (refine hide fun hP => ?_; rcases g'.infos j hj with ⟨tj, tnj, vsj, epj, m1, m2, m3, hSj⟩ <;> (refine hP ?_; clear hP))
     have hd' := g'.dict
     have hv' := g'.value hj
     have N2 := pullG (front := [_, _, _, _, _, _]) N₁ m1 m3
     dsimp only [List.cons_append, List.nil_append] at N2
     have q1 := neN (ap'.sa _ m1)
     have q2 := neN (ap'.da _ m1)
     have q3 := neN (ap'.ia _ m1)
     have q4 := neN (hra' _ m1)
     have q5 := neN (hne _ (.tail _ (.tail _ (.tail _ (.tail _ (.tail _ m1))))))
     have q6 := neN (g'.apDA j hj j hj)
     have q7 := neN (ne_of_cls N₁ (.tail _ (.tail _ (.tail _ (.tail _ (.tail _ (.tail _ m1)))))) (.tail _ (.head _)) (by simp))
     dsimp only at q1 q2 q3 q4 q5 q7
     clear nF nN N₁
     k_steps
     (rename News _ _ _ _ => nN)
     (refine hide fun hP => ?_; rcases afterOut (front := [_, _, _, _, _, _]) nN g' hj m1 with ⟨own2, G2, N3, g2, hP2, hp2, hkp2, hkr2, hG2⟩ <;> (refine hP ?_; clear hP))
     dsimp only [List.cons_append, List.nil_append] at N3
     refine exi4 _ _ _ _ ⟨rfl, by assumption, N3, ?_, (fun y h1 h2 => by repeat (first | refine upn (by assumption) ?_ | refine itn (by assumption) ?_ | rfl)), own2, G2, rfl, g2, ⟨hP2 (· ≠ sa) ap'.sa, hP2 (· ≠ da) ap'.da, hP2 (· ≠ ia) ap'.ia⟩, hP2 (· ≠ ra) hra', ?_, ?_, ?_, fun k0 hk0 => let ⟨k, hk, e⟩ := hkr' k0 hk0; let ⟨k2, hk2, e2⟩ := hkr2 k hk; ⟨k2, hk2, e2.trans e⟩⟩
     · intro p hp
       simp only [List.mem_cons] at hp
       have hold : ∀ p ∈ own', p.1 ≠ I := fun p hp => hne p (.tail _ (.tail _ (.tail _ (.tail _ (.tail _ hp)))))
       rcases hp with h | h | h | h | h | h
       · exact hne p (by rw [h]; exact .head _)
       · exact hne p (by rw [h]; exact .tail _ (.head _))
       · exact hne p (by rw [h]; exact .tail _ (.tail _ (.head _)))
       · exact hne p (by rw [h]; exact .tail _ (.tail _ (.tail _ (.head _))))
       · exact hne p (by rw [h]; exact .tail _ (.tail _ (.tail _ (.tail _ (.head _)))))
       · exact hP2 (· ≠ I) hold p h
     · rw [hp2, hp', fold_take hr]
     · intro p hp hg
       refine hkp2 p (hk' p hp hg) ?_
       (refine hide fun hP => ?_; rcases hks' j hj with ⟨k0, hk0, e, _⟩ <;> (refine hP ?_; clear hP))
       rw [e]
       exact hg k0 hk0
     · intro k hk
       (refine hide fun hP => ?_; rcases hG2 k hk with ⟨k1, hk1, e1, e5, e2, _⟩ <;> (refine hP ?_; clear hP))
       (refine hide fun hP => ?_; rcases hks' k1 hk1 with ⟨k0, hk0, e3, e6, e4⟩ <;> (refine hP ?_; clear hP))
       exact ⟨k0, hk0, e1.trans e3, e5.trans e6, e2.trans e4⟩
   · (intro hh tk u n' qq3 F₁ N₁; (try k_fold); refine hide fun hP => ?_; rcases qq3 with ⟨own', G', rfl, g', ap', hra', hp', hk', hks', hkr'⟩ <;> (refine hP ?_; clear hP))
     dsimp only [List.head?, Option.toList, List.cons_append, List.nil_append] at N₁
     have q7 := neN (ne_of_cls N₁ (.tail _ (.tail _ (.tail _ (.tail _ (.head _))))) (.head _) (by simp))
     have q8 := neN (ne_of_cls N₁ (.tail _ (.tail _ (.head _))) (.head _) (by simp))
     have q9 := ap'.da
     clear nF nN
     k_steps
     rw [List.take_of_length_le (by rw [StrsAre.len hS]; exact Nat.le_refl _)] at hp'
     exact h _ _ _ _ _ _ _ (by assumption) (by assumption) g' ap' hra' hp' hk' hks')
end
end

end
section
local macro_rules | `(tactic| walk_at "exec For Name Attribute cons nil") => `(tactic| (k_here; k_dflt (refine wpAny_For ?_)))
-- A3
section
open PySem PySem.W PySem.Calls PyProof.Rows
set_option maxRecDepth 100000
set_option linter.unusedVariables false
section

theorem setP_mem {x s : Str} {n k : Int} {l : List Str} {g : List PN} (h : (s, k, l) ∈ g) (hne : s ≠ x) : (s, k, l) ∈ setP x n g := List.mem_map.mpr ⟨_, h, by simp [hne]⟩
theorem setPs_mem {s : Str} {n k : Int} {l : List Str} : ∀ {xs : List Str} {g : List PN}, (s, k, l) ∈ g → s ∉ xs → (s, k, l) ∈ xs.foldl (fun g r => setP r n g) g
  | [], _, h, _ => h
  | x :: xs, g, h, hn => setPs_mem (xs := xs) (setP_mem h (fun e => hn (e ▸ .head _))) (fun h' => hn (.tail _ h'))
theorem nodup_at {s : Str} : ∀ {xs : List Str} {i : Nat}, xs.Nodup → xs[i]? = some s → s ∉ xs.take i
  | [], _, _, h => by simp at h
  | x :: xs, 0, _, _ => by simp
  | x :: xs, i + 1, hn, h => by
    simp only [List.getElem?_cons_succ] at h
    simp only [List.take_succ_cons, List.mem_cons, not_or]
    have h2 := List.nodup_cons.mp hn
    exact ⟨fun e => h2.1 (e ▸ List.mem_of_getElem? h), nodup_at h2.2 h⟩
section
variable {w : World} {s : Shared} {A₀ : Around} {base h₀ : Heap} {outer : List Env} {L a : Addr} {cd code : Value} {nm qn : Str} {gl bi : Addr} {cls : List (Str × Addr)} {fn : Option Addr} {nms : List (Str × NameKind)} {mo : List (Str × Const)} {ig ic : Bool} {m mg mb : Str → Option Value} {news : List (Addr × Obj)} {loose : List Str} {mean : ExcName → Option Value} {d u : Nat} {gs : Option (List Code)} {Q : Value → Shared → Prop} {E : Value → Shared → Prop}

variable {sa da ia ra : Addr} {k1 k2 k3 k4 tp tq : Tok} {p q : Int} {vs : List Value} {ep : Nat} {own : List (Addr × Obj)} {oi : Obj} {G : List NI} {rs : List Str}
set_option maxHeartbeats 4000000 in
theorem done_spec {j : NI} {t : Tok}
 (B : Below A₀ base outer h₀) (F : Fr h₀ L s.heap m) (X₀ : (Mine.hq.hd.heap_39 w.params).In h₀) (N : News h₀ L s.heap ((sa, instObj 146 da) :: (da, sAttrs w.params k1 k2 k3 k4 ia (.ref ra) (.int p tp) (.int q tq)) :: (ia, oi) :: (ra, listOf vs.toArray ep) :: own)) (T : Top topProg loose mean mg mb h₀) (hd : d < 560) (hu : u < 560)
 (hz : vs.length ≤ 80) (e1 : @LT.lt Nat _ da sa) (e2 : @LT.lt Nat _ sa ia) (e3 : @Ne Nat sa ra) (e4 : @Ne Nat da ra) (e5 : @Ne Nat ia ra) (hS : StrsAre vs rs) (g : Graph Challenge.rw_pd0114_01.row.prog w oi own G) (ap : Apart own sa da ia) (hra : ∀ p ∈ own, p.1 ≠ ra)
 (hlo : (ia == sysModules) = false) (hj : j ∈ G) (hn : j.n = -1) (hsl : j.succ.length ≤ 6) (hsu : ∀ s ∈ j.succ, ∃ k ∈ G, k.key = s ∧ k.n = 1) (hnd : j.succ.Nodup)
 (h : ∀ h' tk own' G' vs' ep' tq', Fr h₀ L h' m → News h₀ L h' ((sa, instObj 146 da) :: (da, sAttrs w.params k1 k2 k3 k4 ia (.ref ra) (.int p tp) (.int (q + 1) tq')) :: (ia, oi) :: (ra, listOf vs'.toArray ep') :: own') → Graph Challenge.rw_pd0114_01.row.prog w oi own' G' → Apart own' sa da ia → (∀ p ∈ own', p.1 ≠ ra) → G'.map NI.pure = (j.succ).foldl (fun g r => setP r 0 g) (setP j.key (-2) (G.map NI.pure)) → (∀ p ∈ own, (∀ k ∈ G, p.1 ≠ k.a) → p ∈ own') → (∀ k ∈ G', ∃ k0 ∈ G, k.a = k0.a ∧ k.l = k0.l ∧ k.kd = k0.kd) → StrsAre vs' (rs ++ j.succ) → Q .none { s with heap := h', toks := tk }) :
 wpAny (model Challenge.rw_pd0114_01.row.prog w) ⟨none, d, some ((⟨⟨.function, nms, ig, ic, mo⟩, L, gl, cls, qn, fn, code, some L, bi⟩ : Env) :: outer), gs, u⟩ (call (.ref 129) [.ref sa, .str j.key t]) Q E s := by
  revert X₀; k_fill; intro X₀
  refine packB fun er9 => ?_
  w_top off
  w_strict (
   k_steps
   (rename News _ _ _ _ => nN)
   (rename Fr _ _ _ _ => nF)
   refine wpAny_For ?_
   k_steps
   refine for_tupleM (vs := [.str j.key t]) rfl rfl rfl [Str.ofString "nodeinfo", Str.ofString "stat", Str.ofString "successor", Str.ofString "successor_info"] (fun _ n₀ i _ n' => (i = 0 ∧ n' = n₀) ∨ (i = 1 ∧ ∃ (own' : List (Addr × Obj)) (G' : List NI) (vs' : List Value) (ep' : Nat) (tq' : Tok), n' = n₀.head?.toList ++ ((sa, instObj 146 da) :: (da, sAttrs w.params k1 k2 k3 k4 ia (.ref ra) (.int p tp) (.int (q + 1) tq')) :: (ia, oi) :: (ra, listOf vs'.toArray ep') :: own') ∧ Graph Challenge.rw_pd0114_01.row.prog w oi own' G' ∧ Apart own' sa da ia ∧ (∀ p ∈ own', p.1 ≠ ra) ∧ G'.map NI.pure = (j.succ).foldl (fun g r => setP r 0 g) (setP j.key (-2) (G.map NI.pure)) ∧ (∀ p ∈ own, (∀ k ∈ G, p.1 ≠ k.a) → p ∈ own') ∧ (∀ k ∈ G', ∃ k0 ∈ G, k.a = k0.a ∧ k.l = k0.l ∧ k.kd = k0.kd) ∧ StrsAre vs' (rs ++ j.succ))) ?_ nF nN (.inl ⟨rfl, rfl⟩) ?_ ?_
   · (intro i m' n' hh qq1 _ N'; (try k_fold); refine hide fun hP => ?_; rcases qq1 with (⟨_, rfl⟩ | ⟨_, own', G', vs', ep', tq', rfl, _⟩) <;> (refine hP ?_; clear hP))
     · exact ⟨_, (N' _ (.head _)).1, rfl, _, rfl⟩
     · exact ⟨_, (N' _ (.head _)).1, rfl, _, rfl⟩
   · rintro i v u n' hh tk I it hv hic hlt hJ F₁ N₁ hne
     cases i with
     | succ i => simp at hv
     | zero =>
       rcases hJ with ⟨_, rfl⟩ | ⟨h, _⟩
       · simp at hv
         subst hv
         have hd' := g.dict
         have hv' := g.value hj
         (refine hide fun hP => ?_; rcases g.infos j hj with ⟨tj, tnj, vsj, epj, m1, m2, m3, hSj⟩ <;> (refine hP ?_; clear hP))
         simp only [hn] at m1 m2 m3
         have N2 := pullG (front := [_, _, _, _, _, _]) N₁ m1 m3
         dsimp only [List.cons_append, List.nil_append] at N2
         have q1 := neN (ap.sa _ m1)
         have q2 := neN (ap.da _ m1)
         have q3 := neN (ap.ia _ m1)
         have q4 := neN (hra _ m1)
         have q5 := neN (hne _ (.tail _ (.tail _ (.tail _ (.tail _ (.tail _ m1))))))
         have q6 := neN (g.apDA j hj j hj)
         have q7 := neN (ne_of_cls N₁ (.tail _ (.tail _ (.tail _ (.tail _ (.tail _ (.tail _ m1)))))) (.tail _ (.head _)) (by simp))
         dsimp only at q1 q2 q3 q4 q5 q7
         refine packQ fun pk9Q pk9H => ?_
         clear nF nN N₁
         k_steps
         (rename News _ _ _ _ => nN)
         (rename Fr _ _ _ _ => nF)
         (refine hide fun hP => ?_; rcases afterOut (front := [_, _, _, _, _, _]) nN g hj m1 with ⟨own2, G2, N3, g2, hP2, hp2, hkp2, hkr2, hG2⟩ <;> (refine hP ?_; clear hP))
         dsimp only [List.cons_append, List.nil_append] at N3
         clear nN
         have hI2 := hP2 (· ≠ I) (fun p hp => hne p (.tail _ (.tail _ (.tail _ (.tail _ (.tail _ hp))))))
         have hsu2 : ∀ s ∈ j.succ, ∃ l, (s, (1 : Int), l) ∈ setP j.key (-2) (G.map NI.pure) := by
           intro s hs
           (refine hide fun hP => ?_; rcases hsu s hs with ⟨k, hk, e, en⟩ <;> (refine hP ?_; clear hP))
           refine ⟨k.succ, setP_mem (List.mem_map.mpr ⟨k, hk, by simp [NI.pure, e, en]⟩) ?_⟩
           intro e'
           have := g.apK k hk j hj (e.trans e')
           rw [this, hn] at en
           exact absurd en (by decide)
         refine for_listM (vs := vsj) rfl rfl rfl [Str.ofString "successor_info"] (fun _ n₀ i _ n' => ∃ (own' : List (Addr × Obj)) (G' : List NI) (vs' : List Value) (ep' : Nat), n' = n₀.take 2 ++ ((sa, instObj 146 da) :: (da, sAttrs w.params k1 k2 k3 k4 ia (.ref ra) (.int p tp) (.int q tq)) :: (ia, oi) :: (ra, listOf vs'.toArray ep') :: own') ∧ Graph Challenge.rw_pd0114_01.row.prog w oi own' G' ∧ Apart own' sa da ia ∧ (∀ p ∈ own', p.1 ≠ ra) ∧ G'.map NI.pure = (j.succ.take i).foldl (fun g r => setP r 0 g) (setP j.key (-2) (G.map NI.pure)) ∧ (∀ p ∈ own, (∀ k ∈ G, p.1 ≠ k.a) → p ∈ own') ∧ (∀ k ∈ G', ∃ k0 ∈ G, k.a = k0.a ∧ k.l = k0.l ∧ k.kd = k0.kd) ∧ StrsAre vs' (rs ++ j.succ.take i) ∧ (∀ p ∈ own', p.1 ≠ I)) ?_ nF N3 ?_ ?_ ?_
         rotate_left
         · exact ⟨own2, G2, vs, ep, rfl, g2, ⟨hP2 (· ≠ sa) ap.sa, hP2 (· ≠ da) ap.da, hP2 (· ≠ ia) ap.ia⟩, hP2 (· ≠ ra) hra, by simpa using hp2, fun p hp hg => hkp2 p hp (hg j hj), fun k hk => let ⟨k0, hk0, a1, a2, a3, _⟩ := hG2 k hk; ⟨k0, hk0, a1, a2, a3⟩, by simpa using hS, hI2⟩
         rotate_right
         · (intro i m' n' hh qq2 _ N'; (try k_fold); refine hide fun hP => ?_; rcases qq2 with ⟨own', G', vs', ep', rfl, g', ap', hra', hp', hk', hks', hS', hI'⟩ <;> (refine hP ?_; clear hP))
           have hjl := hk' _ m2 (fun k hk => (g.apAL k hk j hj).symm)
           exact ⟨_, (N' _ (List.mem_append_right _ (.tail _ (.tail _ (.tail _ (.tail _ hjl)))))).1, rfl, _, rfl⟩
         · (intro i v u n' hh tk I2 it2 hv hic2 hlt2 qq3 F₁ N₁ hne2; (try k_fold); refine hide fun hP => ?_; rcases qq3 with ⟨own', G', vs', ep', rfl, g', ap', hra', hp', hk', hks', hS', hI'⟩ <;> (refine hP ?_; clear hP))
           (refine hide fun hP => ?_; rcases StrsAre.at hSj hv with ⟨r, tr, rfl, hr⟩ <;> (refine hP ?_; clear hP))
           dsimp only [List.take, List.cons_append, List.nil_append] at N₁ hne2
           have hz' : vs'.length ≤ 100 := by
             rw [StrsAre.len hS', List.length_append, List.length_take, ← StrsAre.len hS]; omega
           have hrG : ∃ k ∈ G', k.key = r ∧ k.n = 1 := by
             (refine hide fun hP => ?_; rcases hsu2 r (List.mem_of_getElem? hr) with ⟨l, hl⟩ <;> (refine hP ?_; clear hP))
             have h5 := setPs_mem (n := 0) hl (nodup_at hnd hr)
             rw [← hp'] at h5
             (refine hide fun hP => ?_; rcases List.mem_map.mp h5 with ⟨k, hk, e⟩ <;> (refine hP ?_; clear hP))
             simp only [NI.pure, Prod.mk.injEq] at e
             exact ⟨k, hk, e.1, e.2.1⟩
           (refine hide fun hP => ?_; rcases hrG with ⟨k, hk, rfl, hkn⟩ <;> (refine hP ?_; clear hP))
           (refine hide fun hP => ?_; rcases g'.infos k hk with ⟨tk2, tnk, vsk, epk, n1, n2, n3, hSk⟩ <;> (refine hP ?_; clear hP))
           simp only [hkn] at n1 n2 n3
           have hd2' := g'.dict
           have hv2' := g'.value hk
           have N4 := pullG (front := [_, _, _, _, _, _, _]) N₁ n1 n3
           dsimp only [List.cons_append, List.nil_append] at N4
           have q1' := neN (ap'.sa _ n1)
           have q2' := neN (ap'.da _ n1)
           have q3' := neN (ap'.ia _ n1)
           have q4' := neN (hra' _ n1)
           have q5' := neN (hne2 _ (.tail _ (.tail _ (.tail _ (.tail _ (.tail _ (.tail _ n1)))))))
           have q6' := neN (g'.apDA k hk k hk)
           have q8' := neN (hI' _ n1)
           have q7' := neN (ne_of_cls N₁ (.tail _ (.tail _ (.tail _ (.tail _ (.tail _ (.tail _ (.tail _ n1))))))) (.tail _ (.tail _ (.head _))) (by simp))
           have q10' := neN (hra' _ n3)
           have q13' : ∀ p ∈ off own' k.a, p.1 ≠ ra := fun p hp => hra' p (mem_off.mp hp).1
           have q14' := neN (hra' _ n1).symm
           have q15' := neN (hra' _ n3).symm
           have q11' := neN (hne2 _ (.tail _ (.tail _ (.tail _ (.tail _ (.tail _ (.head _)))))))
           have q12' := neN (hne _ (.tail _ (.tail _ (.tail _ (.tail _ (.head _))))))
           dsimp only at q1' q2' q3' q4' q5' q7' q8' q10' q11' q12' q14' q15'
           refine packQ fun pk8Q pk8H => ?_
           clear nF N3 N₁
           k_steps
           (rename News _ _ _ _ => nN)
           (refine hide fun hP => ?_; rcases afterOut (front := [_, _, _, _, _, _, _]) nN g' hk n1 with ⟨own3, G3, N5, g3, hP3, hp3, hkp3, hkr3, hG3⟩ <;> (refine hP ?_; clear hP))
           dsimp only [List.cons_append, List.nil_append] at N5
           refine pk8H _ _ ?_
           refine exi4 _ _ _ _ ⟨rfl, by assumption, N5, ?_, (fun y h1 h2 => by simp at h2; simp [upd, h1, h2]), own3, G3, exi2 _ _ ⟨rfl, g3, ⟨hP3 (· ≠ sa) ap'.sa, hP3 (· ≠ da) ap'.da, hP3 (· ≠ ia) ap'.ia⟩, hP3 (· ≠ ra) hra', ?_, ?_, ?_, ?_, hP3 (· ≠ I) hI'⟩⟩
           · intro p hp
             simp only [List.mem_cons] at hp
             have hold : ∀ p ∈ own', p.1 ≠ I2 := fun p hp => hne2 p (.tail _ (.tail _ (.tail _ (.tail _ (.tail _ (.tail _ hp))))))
             rcases hp with h | h | h | h | h | h | h
             · exact hne2 p (by rw [h]; exact .head _)
             · exact hne2 p (by rw [h]; exact .tail _ (.head _))
             · exact hne2 p (by rw [h]; exact .tail _ (.tail _ (.head _)))
             · exact hne2 p (by rw [h]; exact .tail _ (.tail _ (.tail _ (.head _))))
             · exact hne2 p (by rw [h]; exact .tail _ (.tail _ (.tail _ (.tail _ (.head _)))))
             · rw [h]; exact hne2 (ra, listOf vs'.toArray ep') (.tail _ (.tail _ (.tail _ (.tail _ (.tail _ (.head _))))))
             · exact hP3 (· ≠ I2) hold p h
           · rw [hp3, hp', fold_take hr]; rfl
           · intro p hp hg
             refine hkp3 p (hk' p hp hg) ?_
             (refine hide fun hP => ?_; rcases hks' k hk with ⟨k0, hk0, e, _⟩ <;> (refine hP ?_; clear hP))
             rw [e]
             exact hg k0 hk0
           · intro k' hk'2
             (refine hide fun hP => ?_; rcases hG3 k' hk'2 with ⟨k1, hk1, e1, e5, e2, _⟩ <;> (refine hP ?_; clear hP))
             (refine hide fun hP => ?_; rcases hks' k1 hk1 with ⟨k0, hk0, e3, e6, e4⟩ <;> (refine hP ?_; clear hP))
             exact ⟨k0, hk0, e1.trans e3, e5.trans e6, e2.trans e4⟩
           · rw [List.take_add_one, hr]
             simpa using StrsAre.snoc hS' k.key tr
         · (intro hh tk u n' qq4 F₁ N₁; (try k_fold); refine hide fun hP => ?_; rcases qq4 with ⟨own', G', vs', ep', rfl, g', ap', hra', hp', hk', hks', hS', hI'⟩ <;> (refine hP ?_; clear hP))
           dsimp only [List.take, List.cons_append, List.nil_append] at N₁
           have q20 := ap'.da
           have q21 := neN (hne _ (.tail _ (.tail _ (.head _))))
           dsimp only at q21
           clear nF N3
           k_steps
           rw [List.take_of_length_le (by rw [StrsAre.len hSj]; exact Nat.le_refl _)] at hp' hS'
           refine pk9H _ _ ?_
           refine exi4 _ _ _ _ ⟨rfl, by assumption, by assumption, ?_, (fun y h1 h2 => by simp at h2; simp [upd, h1, h2]), .inr ⟨by first | rfl | trivial, own', G', vs', ep', _, rfl, g', ap', hra', hp', hk', hks', hS'⟩⟩
           intro p hp
           simp only [List.head?, Option.toList, List.cons_append, List.nil_append, List.mem_cons] at hp
           rcases hp with h | h | h | h | h | h
           · exact hne p (by rw [h]; exact .head _)
           · exact hne p (by rw [h]; exact .tail _ (.head _))
           · rw [h]; have := hne _ (.tail _ (.tail _ (.head _))); exact this
           · exact hne p (by rw [h]; exact .tail _ (.tail _ (.tail _ (.head _))))
           · rw [h]; have := hne _ (.tail _ (.tail _ (.tail _ (.tail _ (.head _))))); exact this
           · exact hI' p h
       · cases h
   · (intro hh tk u n' qq5 F₁ N₁; (try k_fold); refine hide fun hP => ?_; rcases qq5 with (⟨h', _⟩ | ⟨_, own', G', vs', ep', tq', rfl, g', ap', hra', hp', hk', hks', hS'⟩) <;> (refine hP ?_; clear hP))
     · cases h'
     · dsimp only [List.head?, Option.toList, List.cons_append, List.nil_append] at N₁
       clear nF nN
       k_steps
       exact h _ _ _ _ _ _ _ (by assumption) (by first | assumption | exact sub1 (by assumption)) g' ap' hra' hp' hk' hks' hS')
end
end

end
-- B9
section
open PySem PySem.W PySem.Calls PyProof.Rows
set_option maxRecDepth 100000
set_option linter.unusedVariables false
section
open PySem.Builtin
def mwObj (I : Addr) : Obj := { cls := .type "method-wrapper", data := .fields #[.builtin "list_iterator.__next__", .ref I] }
theorem slot_li_ga : Slot "list_iterator" "__getattribute__" "object.__getattribute__" :=
  .of (owner := "object") (n := "__getattribute__") (by rw [typeLookup_type, builtinLookup_eq_fast]; kernel_rfl) (by decide +kernel) (by decide +kernel) (by decide +kernel)
    (by first | exact .inl (by decide +kernel) | exact .inr (by decide +kernel)) (by rw [isSubtype_type]; kernel_rfl)
theorem entry_ga : entryFor table "object.__getattribute__" = some Builtin.«object.__getattribute__» := by first | exact entryFor_of_fast (by kernel_rfl) | exact entryFor_of_tree (by kernel_rfl)
theorem args_ga (a b : Value) : argsOk "object.__getattribute__" ⟨[a, b], []⟩ := by unfold argsOk; kernel_rfl
theorem slot_wd_get : Slot "wrapper_descriptor" "__get__" "wrapper_descriptor.__get__" :=
  .of (owner := "wrapper_descriptor") (n := "__get__") (by rw [typeLookup_type, builtinLookup_eq_fast]; kernel_rfl) (by decide +kernel) (by decide +kernel) (by decide +kernel)
    (by first | exact .inl (by decide +kernel) | exact .inr (by decide +kernel)) (by rw [isSubtype_type]; kernel_rfl)
theorem entry_wd : entryFor table "wrapper_descriptor.__get__" = some Builtin.«wrapper_descriptor.__get__» := by first | exact entryFor_of_fast (by kernel_rfl) | exact entryFor_of_tree (by kernel_rfl)
theorem args_wd (a b c : Value) : argsOk "wrapper_descriptor.__get__" ⟨[a, b, c], []⟩ := by unfold argsOk; kernel_rfl
theorem type_lin : typeOf (.builtin "list_iterator.__next__") = pure (.type "wrapper_descriptor") := by show builtinType _ = _; rw [builtinType_eq_fast]; kernel_rfl
theorem wd_noset : typeLookup (.type "wrapper_descriptor") "__set__" = pure none := by rw [typeLookup_type, builtinLookup_eq_fast]; kernel_rfl
theorem wd_nodel : typeLookup (.type "wrapper_descriptor") "__delete__" = pure none := by rw [typeLookup_type, builtinLookup_eq_fast]; kernel_rfl
theorem sub_li : isSubtype (.type "list_iterator") (.type "list_iterator") = pure true := by rw [isSubtype_type]; kernel_rfl
theorem meets_wd (I l : Addr) (i : Nat) (tp : Value) (htp : tp = .type "list_iterator") : Meets (Builtin.«wrapper_descriptor.__get__» ⟨[.builtin "list_iterator.__next__", .ref I, tp], []⟩) (fun A R s => s.heap.get? I = some (liObj l i) ∧ R (.ok (.ret (.ref s.heap.objs.size))) { s with heap := s.heap.push (mwObj I) }) :=
  Meets.of_wp fun prog w A R s hs => by
    subst htp
    obtain ⟨hp, g, d, tk, os⟩ := s
    obtain ⟨hx, hs⟩ := hs
    have hT : (⟨hp, g, d, tk, os⟩ : Shared).TypeIs (.ref I) "list_iterator" := ⟨_, hx, rfl⟩
    have f1 := sub_li
    have e0 : ".".intercalate ("list_iterator.__next__".cutAt '.').dropLast = "list_iterator" := by decide +kernel
    unfold Builtin.«wrapper_descriptor.__get__»
    repeat (any_goals (first | assumption | (rw [e0]) | wp_step))
    first | exact ⟨_, rfl, hs⟩ | exact wpAny_pure ⟨_, rfl, hs⟩
theorem meets_ga (I l : Addr) (i : Nat) (u : Tok) : Meets (Builtin.«object.__getattribute__» ⟨[.ref I, .str (Str.ofString "__next__") u], []⟩) (fun A R s => s.heap.get? I = some (liObj l i) ∧ R (.ok (.ret (.ref s.heap.objs.size))) { s with heap := s.heap.push (mwObj I) }) :=
  Meets.of_wp fun prog w A R s hs => by
    obtain ⟨hp, g, d, tk, os⟩ := s
    obtain ⟨hx, hs⟩ := hs
    have hT : (⟨hp, g, d, tk, os⟩ : Shared).TypeIs (.ref I) "list_iterator" := ⟨_, hx, rfl⟩
    have f1 := slot_listiter_next.lookup
    have f2 := type_lin
    have f3 := slot_wd_get.lookup
    have f4 := wd_noset
    have f5 := wd_nodel
    unfold Builtin.«object.__getattribute__»
    repeat (any_goals (first | assumption | ((with_reducible show wpAny _ _ (call (Value.builtin "wrapper_descriptor.__get__") _ _) _ _ _); refine call_meets slot_wd_get type_lin entry_wd (args_wd _ _ _) (meets_wd I l i _ rfl) ⟨hx, ?_⟩) | wp_step))
    first | exact ⟨_, rfl, hs⟩ | exact wpAny_pure ⟨_, rfl, hs⟩
theorem getattr_next {prog : Program} {w : World} {A : Around} {E : Value → Shared → Prop} {s : Shared} {I l : Addr} {i : Nat} {Q : Value → Shared → Prop} (hx : s.heap.get? I = some (liObj l i))
    (h : ∀ tk, Q (.ref s.heap.objs.size) { s with heap := s.heap.push (mwObj I), toks := tk }) : wpAny (model prog w) A (getAttr (.ref I) (Str.ofString "__next__") true) Q E s := by
  obtain ⟨hp, g, d, tk, os⟩ := s
  unfold liObj at hx
  have hT : ∀ tk', (⟨hp, g, d, tk', os⟩ : Shared).TypeIs (.ref I) "list_iterator" := fun _ => ⟨_, hx, rfl⟩
  have f3 := slot_li_ga.lookup
  have f4 := slot_li_ga.bind (.ref I)
  unfold getAttr getAttrBy
  repeat (any_goals (first | assumption | exact hT _ | ((with_reducible show wpAny _ _ (call (Value.builtin "object.__getattribute__") _ _) _ _ _); refine call_meets slot_li_ga (hT _) entry_ga (args_ga _ _) (meets_ga I l i _) ⟨hx, ?_⟩) | wp_step))
  exact wpAny_pure (h _)
end

end
-- C1
section
open PySem PySem.W PySem.Calls PyProof.Rows
set_option maxRecDepth 100000
set_option linter.unusedVariables false
section
open PySem.Builtin
theorem quiet_lin {as : Args} : (Code.builtin "list_iterator.__next__" as).quiet = true := Code.quiet_builtin _ (by decide +kernel)
theorem check_lin (I : Addr) : checkBoundCall "list_iterator.__next__" ⟨[.ref I], []⟩ = pure () := by first | kernel_rfl | rfl
section
variable {prog : Program} {w : World} {A : Around} {E : Value → Shared → Prop} {s : Shared} {h₀ : Heap} {L : Addr} {m : Str → Option Value} {news : List (Addr × Obj)}
theorem getattr_led {I l : Addr} {i : Nat} {Q : Value → Shared → Prop} (F : Fr h₀ L s.heap m) (N : News h₀ L s.heap news) (hm : (I, liObj l i) ∈ news)
    (h : ∀ W h' tk, Fr h₀ L h' m → News h₀ L h' ((W, mwObj I) :: news) → (∀ p ∈ news, p.1 < W) → Q (.ref W) { s with heap := h', toks := tk }) :
    wpAny (model prog w) A (getAttr (.ref I) (Str.ofString "__next__") true) Q E s :=
  getattr_next (N.get hm) fun tk => h _ _ tk (F.push _) (News.push F N _ rfl) fun p hp => Heap.lt_size (N p hp).1
theorem call_mw {mw I : Addr} {Q : Value → Shared → Prop} (ho : s.heap.get? mw = some (mwObj I))
    (h : wpAny (model prog w) (A.under (.builtin "list_iterator.__next__" ⟨[.ref I], []⟩)) (Builtin.«list_iterator.__next__» ⟨[.ref I], []⟩) (fun fin s' => ∃ v, fin = .done (.ret v) ∧ Q v s') E s) :
    wpAny (model prog w) A (call (.ref mw) []) Q E s := by
  refine wpAny_call (codeAny_of_tree ?_)
  show wpAny _ A.in1 (callAny (.ref mw) ⟨[], []⟩) _ _ s
  simp only [callAny]
  refine wpAny_bind (wpAny_load ho ?_)
  simp only [mwObj]
  refine KFB.if_so (by decide) ?_
  refine KFB.if_so (by decide) ?_
  refine wpAny_bind (wpAny_of_eq (a := ()) (check_lin I) ?_)
  refine wpAny_bind (wpAny_pure (wpAny_pure ?_))
  refine ⟨quiet_lin, codeAny_builtin entry_listiter_next (wpAny_mono h (fun fin s' h' => ?_) fun _ _ x => x)⟩
  obtain ⟨v, rfl, hv⟩ := h'
  exact hv
theorem next_found {A' : Around} {I l : Addr} {i : Nat} {items : Array Value} {x : Value} {Q : PySem.Fin → Shared → Prop} (ho : s.heap.get? I = some (liObj l i)) (hl : s.heap.IsList l items) (hx : items[i]? = some x)
    (hQ : ∀ h', h'.get? I = some (liObj l (i + 1)) → Heap.SameBut I s.heap h' → Q (.done (.ret x)) { s with heap := h' }) :
    wpAny (model prog w) A' (Builtin.«list_iterator.__next__» ⟨[.ref I], []⟩) Q E s := by
  obtain ⟨ol, hol, _, nl, hdl⟩ := hl
  have hd : (liObj l i).data = .fields #[.ref l, .int i 0] := rfl
  show wpAny _ _ (field (.ref I) 0 >>= _) _ _ s
  refine wpAny_bind (wpAny_field ho hd (x := .ref l) rfl ?_)
  show wpAny _ _ (if (Value.ref l == Value.none) = true then _ else _) _ _ s
  rw [if_neg (show ¬ ((Value.ref l == Value.none) = true) from Bool.false_ne_true)]
  show wpAny _ _ (field (.ref I) 1 >>= _) _ _ s
  refine wpAny_bind (wpAny_field ho hd (x := .int i 0) rfl ?_)
  show wpAny _ _ (seqItems? (.ref l) >>= _) _ _ s
  refine wpAny_bind (wpAny_seqItems hol hdl ?_)
  simp only [Int.toNat_natCast, hx]
  refine wpAny_bind (wpAny_setField ho hd (by simp) (wpAny_pure (hQ _ ?_ (Heap.SameBut.update ..))))
  rw [Heap.get?_update_self _ ho (Obj.isFreed_of_fields (Obj.data_mapFields hd _))]
  simp [liObj, Obj.mapFields, rawInt]
theorem next_end {A' : Around} {I l : Addr} {i : Nat} {items : Array Value} {Q : PySem.Fin → Shared → Prop} (hh : A'.handled = none) (ho : s.heap.get? I = some (liObj l i)) (hl : s.heap.IsList l items) (hx : items[i]? = none)
    (hQ : ∀ h₁ h' e, Heap.SameBut I s.heap h₁ → Heap.NewExc h₁ h' e "StopIteration" → E (.ref e) { s with heap := h' }) :
    wpAny (model prog w) A' (Builtin.«list_iterator.__next__» ⟨[.ref I], []⟩) Q E s := by
  obtain ⟨ol, hol, _, nl, hdl⟩ := hl
  have hd : (liObj l i).data = .fields #[.ref l, .int i 0] := rfl
  show wpAny _ _ (field (.ref I) 0 >>= _) _ _ s
  refine wpAny_bind (wpAny_field ho hd (x := .ref l) rfl ?_)
  show wpAny _ _ (if (Value.ref l == Value.none) = true then _ else _) _ _ s
  rw [if_neg (show ¬ ((Value.ref l == Value.none) = true) from Bool.false_ne_true)]
  show wpAny _ _ (field (.ref I) 1 >>= _) _ _ s
  refine wpAny_bind (wpAny_field ho hd (x := .int i 0) rfl ?_)
  show wpAny _ _ (seqItems? (.ref l) >>= _) _ _ s
  refine wpAny_bind (wpAny_seqItems hol hdl ?_)
  simp only [Int.toNat_natCast, hx]
  refine wpAny_bind (wpAny_rule (wpAny_bind (wpAny_setField ho hd (by simp) ?_)))
  show wpAny _ _ (newExc (.type "StopIteration") [] >>= _) _ _ _
  refine wpAny_bind ?_
  simp only [newExc, newTuple]
  refine wpAny_bind (wpAny_newObj_type ?_ (by size_fits))
  refine wpAny_bind (m := firstArgMember _ _) (wpAny_of_eq (a := Value.none) (by first | rfl | (simp only [firstArgMember]; rfl)) ?_)
  refine wpAny_newObj_type ?_ (by size_fits)
  simp only [raiseNew]
  refine wpAny_bind (wpAny_handled ?_)
  rw [hh]
  refine wpAny_bind (wpAny_pure (wpAny_throw (hQ _ _ _ (Heap.SameBut.update ..) ⟨fun b o hb => Heap.get?_push_of_some _ (Heap.get?_push_of_some _ hb), Heap.get?_none_of_le (by simp), _, Value.ref (s.heap.update I (Obj.mapFields fun x => x.setIfInBounds 0 Value.none)).objs.size, Heap.get?_push_size _ rfl, rfl, ?_⟩)))
  first | rfl | simp [ownMembersOf]
theorem news_off {front tail : List (Addr × Obj)} {I : Addr} {h' : Heap} (N : News h₀ L s.heap (front ++ tail)) (hf : ∀ p ∈ front, p.1 ≠ I) (hs : Heap.SameBut I s.heap h') : News h₀ L h' (front ++ off tail I) := fun p hp => by
  rcases List.mem_append.mp hp with hp | hp
  · have := N p (List.mem_append_left _ hp)
    exact ⟨(hs.2 _ (hf p hp)).trans this.1, this.2⟩
  · have := N p (List.mem_append_right _ (mem_off.mp hp).1)
    exact ⟨(hs.2 _ (mem_off.mp hp).2).trans this.1, this.2⟩
theorem next_led {front tail : List (Addr × Obj)} {mw I l : Addr} {k ep : Nat} {vs : List Value} {x : Value} {Q : Value → Shared → Prop} (F : Fr h₀ L s.heap m) (N : News h₀ L s.heap (front ++ tail))
    (hw : (mw, mwObj I) ∈ tail) (hI : (I, liObj l k) ∈ tail) (hl : (l, listOf vs.toArray ep) ∈ tail) (hf : ∀ p ∈ front, p.1 ≠ I) (hx : vs[k]? = some x)
    (h : ∀ h', Fr h₀ L h' m → News h₀ L h' (front ++ ((I, liObj l (k + 1)) :: off tail I)) → Q x { s with heap := h' }) :
    wpAny (model prog w) A (call (.ref mw) []) Q E s := by
  have hi := N _ (List.mem_append_right _ hI)
  refine call_mw (N _ (List.mem_append_right _ hw)).1 (next_found (items := vs.toArray) hi.1 ⟨_, (N _ (List.mem_append_right _ hl)).1, rfl, _, rfl⟩ (by simpa using hx) fun h' ho hs => ⟨_, rfl, h h' (fr_same F hi.2.2 hi.2.1 hs) fun p hp => ?_⟩)
  rcases List.mem_append.mp hp with hp | hp
  · exact news_off N hf hs p (List.mem_append_left _ hp)
  · rcases List.mem_cons.mp hp with rfl | hp
    · exact ⟨ho, hi.2⟩
    · exact news_off N hf hs p (List.mem_append_right _ hp)
theorem stop_led {front tail : List (Addr × Obj)} {mw I l : Addr} {k ep : Nat} {vs : List Value} {Q : Value → Shared → Prop} (hh : A.handled = none) (F : Fr h₀ L s.heap m) (N : News h₀ L s.heap (front ++ tail))
    (hw : (mw, mwObj I) ∈ tail) (hI : (I, liObj l k) ∈ tail) (hl : (l, listOf vs.toArray ep) ∈ tail) (hf : ∀ p ∈ front, p.1 ≠ I) (hx : vs[k]? = none)
    (h : ∀ h₁ h' e, Fr h₀ L h₁ m → News h₀ L h₁ (front ++ off tail I) → Heap.NewExc h₁ h' e "StopIteration" → E (.ref e) { s with heap := h' }) :
    wpAny (model prog w) A (call (.ref mw) []) Q E s := by
  have hi := N _ (List.mem_append_right _ hI)
  exact call_mw (N _ (List.mem_append_right _ hw)).1 (next_end (items := vs.toArray) hh hi.1 ⟨_, (N _ (List.mem_append_right _ hl)).1, rfl, _, rfl⟩ (by simpa using hx) fun h₁ h' e hs hx => h h₁ h' e (fr_same F hi.2.2 hi.2.1 hs) (news_off N hf hs) hx)
end
end

end
-- C2
section
open PySem PySem.W PySem.Calls PyProof.Rows PySem.Spec
set_option maxRecDepth 100000
set_option linter.unusedVariables false
section
section
variable {prog : Program} {w : World} {A₀ : Around} {E : Value → Shared → Prop} {s' : Shared} {base g h : Heap} {outer : List Env} {L a e : Addr} {m : Str → Option Value} {name : Str} {scope : Scope} {cd : Value}
  {b₀ : Stmt} {suite : List Stmt} {pos np : Pos} {rest : List ExceptHandler} {Q : Flow → Shared → Prop} {news : List (Addr × Obj)} {KF : Frag}
  {p : Program} {loose : List Str} {mean : ExcName → Option Value} {mg mb : Str → Option Value} {x : Str} {X T' : String}
/-- an exception made in this very frame, with frames below it, taken by its own clause -/
theorem caught_new (hx : Heap.NewExc h s'.heap e X) (F : Fr g L h m) (N : News g L h news) (K : Below A₀ base outer g) (XB : KF.In base) (TB : Top p loose mean mg mb base) (D : KtsDicts (outer.filterMap (·.frame)) g)
    (ex : nsIn KF mainGlobals x = some none) (hv : bootBuiltins x = some (.type T')) (hn' : x ≠ "__name__")
    (hexc : isSubtype (.type T') (.type "BaseException") = pure true) (hnt : isSubtype (.type ((Manifest.find? T').elim "type" fun y => y.metatype)) (.type "tuple") = pure false) (hsub : isSubtype (.type X) (.type T') = pure true)
    (k : ∀ h' g', KtsTurn (outer.filterMap (·.frame)) g g' → Fr g' L h' m → News g' L h' news → Below A₀ base outer g' → KF.In g' → Top p loose mean mg mb g' → KtsDicts (outer.filterMap (·.frame)) g' →
      wpAny (model prog w) ((A₀.deeper (envOf name scope L a cd)).mark (some (.ref e))) (execs (b₀ :: suite) (envOf name scope L a cd)) Q E { s' with heap := h' })
    (hk : scope.kind = .function := by rfl) (hxk : (envOf name scope L a cd).kindOf x = some .globalImplicit := by rfl) (hd : (x == ("__debug__" : Str)) = false := by decide)
    (hE : PassesOwnAt (model prog w) ((A₀.deeper (envOf name scope L a cd)).mark (some (.ref e))) (A₀.deeper (envOf name scope L a cd)) (envOf name scope L a cd) E := by passes_own) :
    wpAny (model prog w) (A₀.deeper (envOf name scope L a cd)) (noteFrame (.ref e) (envOf name scope L a cd))
      (fun _ s₂ => wpAny (model prog w) (A₀.deeper (envOf name scope L a cd)) (setFlight (.ref e) none) (fun _ s₃ =>
        wpAny (model prog w) (A₀.deeper (envOf name scope L a cd)) (handleBy (.ref e) (envOf name scope L a cd) (.ExceptHandler (some (.Name x np)) none (b₀ :: suite) pos :: rest)) Q E s₃) E s₂) E s' := by
  have K' := K.push (name := name) (a := a) (cd := cd) F hk
  have hin : ∀ env ∈ (envOf name scope L a cd :: outer), ∀ b, env.frame = some b → b ∈ (envOf name scope L a cd :: outer).filterMap (·.frame) := fun env he b hb => List.mem_filterMap.mpr ⟨env, he, hb⟩
  have hBG : ∀ b o, h.get? b = some o → b ∉ (envOf name scope L a cd :: outer).filterMap (·.frame) → (hideAll h ((envOf name scope L a cd :: outer).filterMap (·.frame))).get? b = some o := fun b o q nm => hideAll_get _ q nm
  have hl : ∀ q ∈ news, (hideAll h ((envOf name scope L a cd :: outer).filterMap (·.frame))).get? q.1 = some q.2 := fun q hq => hideAll_get _ (N q hq).1 fun hm => by
    obtain ⟨env, he, hf⟩ := List.mem_filterMap.mp hm
    rcases List.mem_cons.mp he with rfl | he
    · exact (N q hq).2.1 (Option.some.inj hf).symm
    · obtain ⟨o, ho, _⟩ := (K.frames.mem (List.mem_filterMap.mpr ⟨env, he, hf⟩)).2
      rw [(N q hq).2.2] at ho; cases ho
  have hLn : (hideAll h ((envOf name scope L a cd :: outer).filterMap (·.frame))).get? L = none := hideAll_none _ (List.mem_filterMap.mpr ⟨_, .head _, rfl⟩)
  obtain ⟨ob, tp, he, hcls, hdt⟩ := hx.there
  have hen : (hideAll h ((envOf name scope L a cd :: outer).filterMap (·.frame))).get? e = none := by
    cases q : (hideAll h ((envOf name scope L a cd :: outer).filterMap (·.frame))).get? e with
    | none => rfl
    | some o => have := of_hideAll _ q; rw [hx.new] at this; cases this
  have hsm : h.UpToSlots s'.heap := Heap.UpToSlots.of_keeps hx.keeps
  unfold noteFrame
  simp only [show (envOf name scope L a cd).frame = some L from rfl]
  refine wpAny_bind (wpAny_field he hdt (x := .none) rfl ?_)
  rw [if_neg (by decide)]
  refine wpAny_entryW (base := hideAll h ((envOf name scope L a cd :: outer).filterMap (·.frame))) (a0 := tp) (Around.frames_deeper K.stack) ((funFrames_hide K'.frames hin).of_keeps fun b o hb _ => ⟨o, hx.keeps b o hb, rfl⟩) rfl he (fun b o hb => hx.keeps b o (of_hideAll _ hb)) hen hdt (by simp) (by simp) fun h₄ hL => ?_
  obtain ⟨k1, k2, k3, k4⟩ := hL
  rw [hcls] at k3
  have hheld₄ : Heap.HeldW (hideAll h ((envOf name scope L a cd :: outer).filterMap (·.frame))) (envOf name scope L a cd :: outer) e (.type X) tp L h₄ := ⟨k1, hen, k2, k3⟩
  have hsm₄ : h.UpToSlots h₄ := hsm.trans k4
  refine wpAny_landsW hheld₄ fun h₅ hheld hsm₅' => ?_
  have hsm₅ := hsm₄.trans hsm₅'
  obtain ⟨g₅, T₅, F₅, K₅⟩ := kts_ground K F hBG hheld.1 hsm₅
  have X₅ : KF.In g₅ := XB.keeps K₅.stays
  have P₅ : TopRead p loose mg mb g₅ := topRead_of (TB.keeps K₅.stays)
  obtain ⟨ob', hob, hobc⟩ := hheld.there
  refine wpAny_handleBy_builtin (X := X) (T := T') (b := true) hexc hnt hsub (name_B F₅ X₅ P₅ ex hv hn' ⟨rfl, ⟨ob', hob, hobc⟩, ?_⟩ hk hxk hd)
  refine lands_againW hheld fun h₆ hfl₆ hsm₆ => ?_
  obtain ⟨g₆, T₆, F₆, K₆⟩ := kts_ground K F hBG hfl₆.1 (hsm₅.trans hsm₆)
  have Nl : News g₆ L h₆ news := fun q hq => ⟨hfl₆.1 _ _ (hl q hq), (N q hq).2.1, T₆.none_ _ (N q hq).2.2⟩
  exact wpAny_passesOwnAt hE (k h₆ g₆ T₆ F₆ Nl K₆ (XB.keeps K₆.stays) (TB.keeps K₆.stays) (D.turn T₆))
end
end

end
-- C3
section
open PySem PySem.W PySem.Calls PyProof.Rows
set_option maxRecDepth 100000
set_option linter.unusedVariables false
section
section
variable {prog : Program} {w : World} {A : Around} {E : Value → Shared → Prop} {s : Shared} {env : Env}
/-- a while's turn ends: the state stands again, with a smaller measure, over a ground that may have turned -/
def WEnd (Gd : Heap → Prop) (L : Addr) (J : Nat → (Str → Option Value) → List (Addr × Obj) → Prop) (k : Nat) (s s₃ : Shared) : Prop :=
  ∃ g' h' tk' m' news' k', s₃ = { s with heap := h', toks := tk' } ∧ Gd g' ∧ Fr g' L h' m' ∧ News g' L h' news' ∧ k' < k ∧ J k' m' news'
def WPost (Gd : Heap → Prop) (L : Addr) (J : Nat → (Str → Option Value) → List (Addr × Obj) → Prop) (k : Nat) (s : Shared) (Q : Flow → Shared → Prop) (f : Flow) (s₃ : Shared) : Prop :=
  match f with
  | .brk => Q .next s₃
  | .ret v => Q (.ret v) s₃
  | _ => WEnd Gd L J k s s₃
theorem while_S {Gd : Heap → Prop} {test : Expr} {body orelse : List Stmt} {pos : Pos} {Q : Flow → Shared → Prop} {g : Heap} {L : Addr} {m : Str → Option Value} {news : List (Addr × Obj)} {k₀ : Nat}
    (J : Nat → (Str → Option Value) → List (Addr × Obj) → Prop) (G0 : Gd g) (F : Fr g L s.heap m) (N : News g L s.heap news) (h0 : J k₀ m news)
    (turn : ∀ k g₁ m₁ news₁ h₁ tk₁, Gd g₁ → Fr g₁ L h₁ m₁ → News g₁ L h₁ news₁ → J k m₁ news₁ →
      wpAny (model prog w) A (isTrue test env (eval test env)) (fun b s₂ => if b = true then wpAny (model prog w) A (execs body env) (WPost Gd L J k s Q) (fun _ _ => False) s₂ else wpAny (model prog w) A (execs orelse env) Q (fun _ _ => False) s₂) (fun _ _ => False) { s with heap := h₁, toks := tk₁ }) :
    wpAny (model prog w) A (exec (.While test body orelse pos) env) Q E s := by
  refine wpAny_While (codeAny_whileLoop (fun k s' => ∃ g₁ h₁ tk₁ m₁ news₁, s' = { s with heap := h₁, toks := tk₁ } ∧ Gd g₁ ∧ Fr g₁ L h₁ m₁ ∧ News g₁ L h₁ news₁ ∧ J k m₁ news₁) ?_ k₀ ⟨g, s.heap, s.toks, m, news, rfl, G0, F, N, h0⟩)
  (intro k s' qq1; refine hide fun hHid => ?_; rcases qq1 with ⟨g₁, h₁, tk₁, m₁, news₁, rfl, G₁, F₁, N₁, J₁⟩ <;> (refine hHid ?_; clear hHid))
  refine wpAny_mono (turn k g₁ m₁ news₁ h₁ tk₁ G₁ F₁ N₁ J₁) (fun b s₂ h₂ => ?_) (fun _ _ x => x.elim)
  cases b with
  | false =>
    simp only [Bool.false_eq_true, if_false] at h₂ ⊢
    exact wpAny_mono h₂ (fun _ _ x => x) (fun _ _ x => x.elim)
  | true =>
    simp only [if_true] at h₂ ⊢
    refine wpAny_mono h₂ (fun f s₃ h₃ => ?_) (fun _ _ x => x.elim)
    have fin : WEnd Gd L J k s s₃ → ∃ k', k' < k ∧ ∃ g₁ h₁ tk₁ m₁ news₁, s₃ = { s with heap := h₁, toks := tk₁ } ∧ Gd g₁ ∧ Fr g₁ L h₁ m₁ ∧ News g₁ L h₁ news₁ ∧ J k' m₁ news₁ := by
      (intro qq2; refine hide fun hHid => ?_; rcases qq2 with ⟨g', h', tk', m', news', k', e, G', F', N', hk, J'⟩ <;> (refine hHid ?_; clear hHid))
      exact ⟨k', hk, g', h', tk', m', news', e, G', F', N', J'⟩
    cases f with
    | next => exact fin h₃
    | cont => exact fin h₃
    | brk => exact h₃
    | ret v => exact h₃
/-- a turn's end of a loop over a dict's keys -/
def FEnd (Gd : Heap → Prop) (L I : Addr) (it : Obj) (J : (Str → Option Value) → List (Addr × Obj) → Prop) (s s₃ : Shared) : Prop :=
  ∃ g' h' tk' m' news', s₃ = { s with heap := h', toks := tk' } ∧ Gd g' ∧ Fr g' L h' m' ∧ News g' L h' ((I, it) :: news') ∧ (∀ p ∈ news', p.1 ≠ I) ∧ J m' news'
def FPost (Gd : Heap → Prop) (L I : Addr) (it : Obj) (J : (Str → Option Value) → List (Addr × Obj) → Prop) (s : Shared) (Q : Flow → Shared → Prop) (f : Flow) (s₃ : Shared) : Prop :=
  match f with
  | .brk => Q .next s₃
  | .ret v => Q (.ret v) s₃
  | _ => FEnd Gd L I it J s s₃
theorem key_iter_owned {x : Str} {px : Pos} {I d : Addr} {n ep : Nat} : ∀ v (s₁ : Shared) (Q' : Unit → Shared → Prop), (∃ i, s₁.heap.IsKeyIter I d i n ep) → Q' () s₁ → wpAny (model prog w) A (letOwnedTupleGo (.Name x px) (.ref I) v) Q' (fun _ _ => False) s₁ := by
  (intro v s₁ Q' qq3 hq; refine hide fun hHid => ?_; rcases qq3 with ⟨i, o, ho, hc, hd⟩ <;> (refine hHid ?_; clear hHid))
  have : letOwnedTupleGo (.Name x px) (.ref I) v = pure () := rfl
  rw [this]
  exact wpAny_pure hq
theorem for_dictS {Gd : Heap → Prop} {R : Result → Shared → Prop} {x : Str} {px : Pos} {body orelse : List Stmt} {d : Addr} {o : Obj} {kvs : List (Str × Value)} {g : Heap} {m : Str → Option Value} {news : List (Addr × Obj)}
    (hh : A.handled = none) (hx : env.kindOf x = some .local) (hp : (env.scope.kind == .class || (env.scope.kind == .module && env.locals != env.globals)) = false)
    (hlo : (d == sysModules) = false) (hdict : o.IsDictOf (PySem.strKind prog w) kvs) (J : Nat → (Str → Option Value) → List (Addr × Obj) → Prop) (hsrc : ∀ i m' news', J i m' news' → (d, o) ∈ news')
    (G0 : Gd g) (F : Fr g env.locals s.heap m) (N : News g env.locals s.heap news) (h0 : J 0 m news)
    (turn : ∀ i v k t g₁ m₁ news₁ h tk I it, kvs[i]? = some (k, v) → it.cls = Value.type "dict_keyiterator" → (∀ p ∈ news, p.1 < I) → J i m₁ news₁ → Gd g₁ → Fr g₁ env.locals h (fun y => if y = x then some (.str k t) else m₁ y) → News g₁ env.locals h ((I, it) :: news₁) → (∀ p ∈ news₁, p.1 ≠ I) →
      wpAny (model prog w) A (execs body env) (FPost Gd env.locals I it (J (i + 1)) s fun f s₃ => R (.ok f) s₃) (fun _ _ => False) { s with heap := h, toks := tk })
    (done : ∀ g₁ h tk m' news', J kvs.length m' news' → Gd g₁ → Fr g₁ env.locals h m' → News g₁ env.locals h news' → wpAny (model prog w) A (execs orelse env) (fun f s₃ => R (.ok f) s₃) (fun _ _ => False) { s with heap := h, toks := tk }) :
    wpAny (model prog w) A (pyIter (.ref d)) (fun it s₂ => codeAny (model prog w) A (.forLoop (.Name x px) it body orelse env) R s₂) E s := by
  (refine hide fun hHid => ?_; rcases id hdict with ⟨es, ep, hex, hdat, hkeys, hpairs, hnod⟩ <;> (refine hHid ?_; clear hHid))
  have hat : ∀ h : Heap, h.get? d = some o → h.DictAt (PySem.strKind prog w) d kvs ep := fun h e => ⟨o, es, e, hex, hdat, hkeys, hpairs, hnod⟩
  have hdm := (N _ (hsrc 0 m news h0)).1
  have hne : d ≠ s.heap.objs.size := Nat.ne_of_lt (Heap.lt_size hdm)
  have hL : env.locals ≠ s.heap.objs.size := Nat.ne_of_lt F.ns.lt
  refine wpAny_pyIter_dict hlo (hat _ hdm) ?_
  have W := Walks.dictKeys (knd := PySem.strKind prog w) (A := A) hh s.heap.objs.size d hne kvs ep
  refine codeAny_forLoop_any
    (fun k s' => ∃ g' h' tk m' news' i, s' = { s with heap := h', toks := tk } ∧ h'.IsKeyIter s.heap.objs.size d i kvs.length ep ∧ Gd g' ∧ Fr g' env.locals h' m' ∧ News g' env.locals h' news' ∧ (∀ p ∈ news', p.1 ≠ s.heap.objs.size) ∧ g'.get? s.heap.objs.size = none ∧ J i m' news' ∧ i ≤ kvs.length ∧ k = kvs.length + 1 - i) ?_ (kvs.length + 1)
    ⟨g, _, s.toks, m, news, 0, rfl, ⟨_, Heap.get?_push_size _ rfl, rfl, rfl⟩, G0, F.push _, (fun p hp => ⟨Heap.get?_push_of_some _ (N p hp).1, (N p hp).2⟩), (fun p hp => Nat.ne_of_lt (Heap.lt_size (N p hp).1)), next_is_new F, h0, Nat.zero_le _, rfl⟩
  (intro k s' qq4; refine hide fun hHid => ?_; rcases qq4 with ⟨g', h', tk, m', news', i, rfl, hst', G', F', N', hnw', hI0, hJ, hi, rfl⟩ <;> (refine hHid ?_; clear hHid))
  have old : ∀ b o, g'.get? b = some o → b ≠ s.heap.objs.size := fun b o e hb => by rw [hb, hI0] at e; cases e
  have next : ∀ h₁ : Heap, (∀ b o, b ∉ [s.heap.objs.size] → h'.get? b = some o → h₁.get? b = some o) → Fr g' env.locals h₁ m' ∧ News g' env.locals h₁ news' := fun h₁ hk₁ =>
    ⟨⟨F'.ns.at' fun o e => hk₁ _ o (by simpa using hL) e, fun b o e => hk₁ b o (by simpa using old b o e) (F'.keep b o e), F'.above⟩, fun p hp => ⟨hk₁ _ _ (by simpa using hnw' p hp) (N' p hp).1, (N' p hp).2⟩⟩
  have hs' := hat h' (N' _ (hsrc i m' news' hJ)).1
  by_cases hlt : i < kvs.length
  · refine W.item i _ _ _ hlt ⟨hst', hs'⟩ fun v h₁ tk₁ hP hst₁ hk₁ => ?_
    (refine hide fun hHid => ?_; rcases next h₁ hk₁ with ⟨F₁, N₁⟩ <;> (refine hHid ?_; clear hHid))
    (refine hide fun hHid => ?_; rcases id hst₁.1 with ⟨it, hit, hic, _⟩ <;> (refine hHid ?_; clear hHid))
    (refine hide fun hHid => ?_; rcases hP with ⟨ky, vv, hkv, hisv⟩ <;> (refine hHid ?_; clear hHid))
    (refine hide fun hHid => ?_; rcases Value.isStrOf_shape hisv with ⟨t, rfl⟩ <;> (refine hHid ?_; clear hHid))
    refine wpAny_mono (key_iter_owned _ _ (fun _ s₂ => wpAny (model prog w) A (assign (.Name x px) env (.str ky t)) (fun _ s₂ => wpAny (model prog w) A (execs body env) (FPost Gd env.locals s.heap.objs.size it (J (i + 1)) s fun f s₃ => R (.ok f) s₃) (fun _ _ => False) s₂) (fun _ _ => False) s₂) ⟨_, hst₁.1⟩ ?_) (fun _ s₂ h₂ => ?_) (fun _ _ e => e.elim)
    · refine wpAny_assign_Name (wpAny_storeName_local hx F₁.ns (fun h₂ hn₂ hs₂ => ?_) hp)
      have N₂ : News g' env.locals h₁ ((s.heap.objs.size, it) :: news') := fun p hp => by
        rcases List.mem_cons.mp hp with rfl | hp
        · exact ⟨hit, hL.symm, hI0⟩
        · exact N₁ p hp
      exact turn i vv ky t g' m' news' h₂ _ _ it hkv hic (fun p hp => Heap.lt_size (N p hp).1) hJ G' (F₁.set hn₂ hs₂) (N₂.set hs₂) hnw'
    · refine wpAny_mono h₂ (fun _ s₃ h₃ => wpAny_mono h₃ (fun f s₄ h₄ => ?_) (fun _ _ e => e.elim)) (fun _ _ e => e.elim)
      have fin : FEnd Gd env.locals s.heap.objs.size it (J (i + 1)) s s₄ → ∃ m, m < kvs.length + 1 - i ∧ (fun k s' => ∃ g' h' tk m' news' i, s' = { s with heap := h', toks := tk } ∧ h'.IsKeyIter s.heap.objs.size d i kvs.length ep ∧ Gd g' ∧ Fr g' env.locals h' m' ∧ News g' env.locals h' news' ∧ (∀ p ∈ news', p.1 ≠ s.heap.objs.size) ∧ g'.get? s.heap.objs.size = none ∧ J i m' news' ∧ i ≤ kvs.length ∧ k = kvs.length + 1 - i) m s₄ := by
        (intro qq5; refine hide fun hHid => ?_; rcases qq5 with ⟨g₅, h₅, tk₅, m₅, news₅, rfl, G₅, F₅, N₅, hn₅, hJ₅⟩ <;> (refine hHid ?_; clear hHid))
        have hI5 := N₅ _ (.head _)
        exact ⟨kvs.length + 1 - (i + 1), by omega, g₅, h₅, tk₅, m₅, news₅, i + 1, rfl, hst₁.1.at (fun o e => by
          rw [hit] at e; cases e; exact hI5.1), G₅, F₅, fun p hp => N₅ p (.tail _ hp), hn₅, hI5.2.2, hJ₅, hlt, rfl⟩
      cases f with
      | next => exact fin h₄
      | cont => exact fin h₄
      | brk => exact h₄
      | ret v => exact h₄
  · have hin : i = kvs.length := by omega
    subst hin
    refine W.done _ _ _ ⟨hst', hs'⟩ fun h₁ tk₁ hk₁ => ?_
    (refine hide fun hHid => ?_; rcases next h₁ hk₁ with ⟨F₁, N₁⟩ <;> (refine hHid ?_; clear hHid))
    exact wpAny_mono (done g' h₁ tk₁ m' news' hJ G' F₁ N₁) (fun _ _ x => x) (fun _ _ e => e.elim)
end
end

end
-- D1
section
open PySem PySem.W
set_option linter.unusedVariables false
section
/-! the depth-first search, no program in sight -/
def Edge (g : List PN) (x y : Str) : Prop := ∃ n ss, (x, n, ss) ∈ g ∧ y ∈ ss
inductive Pth (g : List PN) : Str → Str → Prop
  | one {x y} : Edge g x y → Pth g x y
  | more {x y z} : Pth g x y → Pth g y z → Pth g x z
def Cyc (g : List PN) : Prop := ∃ x, Pth g x x
inductive Topo (g : List PN) : List Str → Prop
  | nil : Topo g []
  | cons {x fin} : Topo g fin → (∀ n ss, (x, n, ss) ∈ g → ∀ y ∈ ss, y ∈ fin) → Topo g (x :: fin)
def Acy (g : List PN) : Prop := ∃ fin, Topo g fin ∧ ∀ p ∈ g, p.1 ∈ fin
inductive StOk (g : List PN) (fin : List Str) : List (Str × List Str) → Option Str → Prop
  | nil {c} : StOk g fin [] c
  | cons {x rem st c pre n} : (x, n, pre ++ rem) ∈ g → (∀ y ∈ pre, y ∈ fin ∨ c = some y) → (∀ y, c = some y → y ∈ pre) → StOk g fin st (some x) → StOk g fin ((x, rem) :: st) c
theorem StOk.path {g : List PN} {fin : List Str} : ∀ {st : List (Str × List Str)} {y : Str}, StOk g fin st (some y) → ∀ x ∈ st.map (·.1), Pth g x y
  | _, _, .nil, x, h => nomatch h
  | _, y, .cons (x := x0) h1 h2 h3 h4, x, h => by
    have e0 : Pth g x0 y := .one ⟨_, _, h1, List.mem_append_left _ (h3 y rfl)⟩
    rcases List.mem_cons.mp h with rfl | h
    · exact e0
    · exact .more (h4.path x h) e0
theorem StOk.cyc {g : List PN} {fin : List Str} {st : List (Str × List Str)} {y : Str} (h : StOk g fin st (some y)) (hy : y ∈ st.map (·.1)) : Cyc g := ⟨y, h.path y hy⟩
theorem StOk.back {g : List PN} {fin : List Str} : ∀ {st : List (Str × List Str)} {y : Str}, StOk g fin st (some y) → y ∈ fin → StOk g fin st none
  | _, _, .nil, _ => .nil
  | _, _, .cons h1 h2 h3 h4, hy => .cons h1 (fun z hz => (h2 z hz).elim .inl fun e => .inl (by cases e; exact hy)) (fun _ e => nomatch e) h4
theorem StOk.mono {g : List PN} {fin fin' : List Str} (hs : ∀ x ∈ fin, x ∈ fin') : ∀ {st : List (Str × List Str)} {c : Option Str}, StOk g fin st c → StOk g fin' st c
  | _, _, .nil => .nil
  | _, _, .cons h1 h2 h3 h4 => .cons h1 (fun z hz => (h2 z hz).elim (fun h => .inl (hs z h)) .inr) h3 (h4.mono hs)
theorem StOk.push {g : List PN} {fin : List Str} {st : List (Str × List Str)} {x : Str} {n : Int} {ss : List Str} (h : StOk g fin st (some x)) (hx : (x, n, ss) ∈ g) : StOk g fin ((x, ss) :: st) none :=
  .cons (pre := []) hx (fun _ h => nomatch h) (fun _ e => nomatch e) h
theorem StOk.next {g : List PN} {fin : List Str} {st : List (Str × List Str)} {x r : Str} {rs : List Str} (h : StOk g fin ((x, r :: rs) :: st) none) : StOk g fin ((x, rs) :: st) (some r) := by
  cases h with
  | cons h1 h2 h3 h4 =>
    rename_i pre n
    refine .cons (pre := pre ++ [r]) (n := n) (by simpa using h1) (fun y hy => ?_) (fun y e => ?_) h4
    · rcases List.mem_append.mp hy with hy | hy
      · exact (h2 y hy).elim .inl fun e => nomatch e
      · exact .inr (by rw [List.mem_singleton.mp hy])
    · cases e; simp
theorem StOk.pop {g : List PN} {fin : List Str} {st : List (Str × List Str)} {x : Str} (hu : ∀ p ∈ g, ∀ q ∈ g, p.1 = q.1 → p = q) (ht : Topo g fin) (h : StOk g fin ((x, []) :: st) none) : Topo g (x :: fin) ∧ StOk g (x :: fin) st none := by
  cases h with
  | cons h1 h2 h3 h4 =>
    rename_i pre n
    refine ⟨.cons ht fun n' ss hss y hy => ?_, (h4.mono fun _ h => .tail _ h).back (.head _)⟩
    have := hu _ hss _ h1 rfl
    have e2 : ss = pre ++ [] := congrArg (fun p : PN => p.2.2) this
    rw [e2, List.append_nil] at hy
    exact (h2 y hy).elim id fun e => nomatch e
theorem StOk.edge {g : List PN} {fin : List Str} {st : List (Str × List Str)} {x : Str} {rem : List Str} {c : Option Str} (h : StOk g fin ((x, rem) :: st) c) : ∃ n pre, (x, n, pre ++ rem) ∈ g := by
  cases h with
  | cons h1 h2 h3 h4 => exact ⟨_, _, h1⟩
/-- what is left to do -/
def unseen (g : List PN) (S : Str → Bool) : Nat := ((g.filter fun p => !S p.1).map fun p => p.2.2.length + 2).sum
def stW (st : List (Str × List Str)) : Nat := (st.map fun p => p.2.length + 1).sum
theorem unseen_le (g : List PN) (S : Str → Bool) (x : Str) : unseen g (fun y => S y || decide (y = x)) ≤ unseen g S := by
  unfold unseen
  induction g with
  | nil => simp
  | cons p g ih =>
    by_cases h1 : S p.1 = true
    · simpa [h1] using ih
    · by_cases h2 : p.1 = x
      · simp only [Bool.not_eq_true] at h1
        simp [h1, h2] at ih ⊢
        subst h2
        simp [h1]
        omega
      · simp only [Bool.not_eq_true] at h1
        simp [h1, h2] at ih ⊢
        omega
theorem unseen_push {g : List PN} {S : Str → Bool} {x : Str} {n : Int} {ss : List Str} (hx : (x, n, ss) ∈ g) (hS : S x = false) : unseen g (fun y => S y || decide (y = x)) + (ss.length + 2) ≤ unseen g S := by
  induction g with
  | nil => exact nomatch hx
  | cons p g ih =>
    rcases List.mem_cons.mp hx with rfl | hx
    · have := unseen_le g S x
      unfold unseen at this ⊢
      simp [hS] at this ⊢
      omega
    · have ih := ih hx
      unfold unseen at ih ⊢
      by_cases h1 : S p.1 = true
      · simpa [h1] using ih
      · simp only [Bool.not_eq_true] at h1
        by_cases h2 : p.1 = x
        · subst h2
          simp [h1] at ih ⊢
          omega
        · simp [h1, h2] at ih ⊢
          omega
end

end
-- C4
section
open PySem PySem.W PySem.Calls PyProof.Rows
set_option maxRecDepth 100000
set_option linter.unusedVariables false
section
section
variable {prog : Program} {w : World} {A : Around} {E : Value → Shared → Prop} {s : Shared} {h₀ h h' : Heap} {L d : Addr} {m : Str → Option Value} {news : List (Addr × Obj)} {gg : Obj → List (Addr × Obj)} {o : Obj} {kvs : List (Str × Value)} {x : Str} {t : Tok} {v : Value}
theorem dict_in_T {Q : Value → Shared → Prop} (N : News h₀ L s.heap news) (hm : (d, o) ∈ news) (hd : o.IsDictOf (PySem.strKind prog w) kvs) (lo : (d == sysModules) = false) (hv : (valueAt kvs x).isSome = true) (k : Q (.bool true) { s with toks := s.toks + 1 }) :
    wpAny (model prog w) A (compareOp .In (.str x t) (.ref d)) Q E s := dict_in_led N hm hd lo (by rw [hv]; exact k)
theorem dict_in_F {Q : Value → Shared → Prop} (N : News h₀ L s.heap news) (hm : (d, o) ∈ news) (hd : o.IsDictOf (PySem.strKind prog w) kvs) (lo : (d == sysModules) = false) (hv : (valueAt kvs x).isSome = false) (k : Q (.bool false) { s with toks := s.toks + 1 }) :
    wpAny (model prog w) A (compareOp .In (.str x t) (.ref d)) Q E s := dict_in_led N hm hd lo (by rw [hv]; exact k)
theorem set_in_B {S : Str → Bool} {n : Nat} {b : Bool} {Q : Value → Shared → Prop} (N : News h₀ L s.heap news) (hm : (d, o) ∈ news) (hso : o.SetObjOf (PySem.strKind prog w) S n) (hb : n < scanBound) (hS : S x = b) (k : Q (.bool b) { s with toks := s.toks + 1 }) :
    wpAny (model prog w) A (compareOp .In (.str x t) (.ref d)) Q E s := by
  refine wpAny_inSet_of (strKind_is prog w x t) rfl (hso.setOf (N.get hm) hb) ?_
  rw [hS]; exact k
theorem dict_del_led {Q : Unit → Shared → Prop} (F : Fr h₀ L s.heap m) (N : News h₀ L s.heap news) (U : UpdF d o news gg) (hd : o.IsDictOf (PySem.strKind prog w) kvs) (hl : (valueAt kvs x).isSome = true) (hz : kvs.length ≤ 100000)
    (k : ∀ h' o', Fr h₀ L h' m → News h₀ L h' (gg o') → o'.IsDictOf (PySem.strKind prog w) (without kvs x) → Q () { s with heap := h', toks := s.toks + 1 }) :
    wpAny (model prog w) A (delItem (.ref d) (.str x t)) Q E s :=
  kob_del (knd := PySem.strKind prog w) F N U hd (strKind_is prog w x t) hl (by rw [sizeLine_eq]; omega) k
theorem callWith_mw {pos : Pos} {u I : Addr} {Q : Value → Shared → Prop} (N : News h₀ L s.heap news) (hm : (u, mwObj I) ∈ news)
    (hcall : wpAny (model prog w) A (call (.ref u) []) Q E s) : wpAny (model prog w) A (callWith pos (.ref u) [] [] []) Q E s := by
  unfold callWith
  refine wpAny_bind (wpAny_holding (PyProof.Rows.evalArgs_nil3 (wpAny_bind (wpAny_standAt ?_))))
  simp only [List.any_nil, Bool.or_false]
  refine wpAny_bind (m := keeperOf (.ref u)) ?_
  unfold keeperOf
  refine wpAny_bind (wpAny_load (N.get hm) ?_)
  simp only [mwObj, show (Value.type "method-wrapper" != Value.type "method") = true by decide, show (Value.type "method-wrapper" == Value.type "builtin_function_or_method" || Value.type "method-wrapper" == Value.type "method-wrapper") = true by decide, if_true]
  refine wpAny_pure ?_
  exact wpAny_bind (wpAny_mono hcall (fun r s₂ hr => wpAny_bind (wpAny_holding (wpAny_point (wpAny_pure hr)))) fun _ _ x => x)
end
/-- the iterators of the search's stack -/
inductive ItsIn (G : List NI) (own tail : List (Addr × Obj)) : List Value → List (Str × List Str) → Prop
  | nil : ItsIn G own tail [] []
  | snoc {vs st mw I j k} : ItsIn G own tail vs st → (mw, mwObj I) ∈ tail → (I, liObj j.l k) ∈ tail → j ∈ G → (∀ p ∈ own, p.1 ≠ I) → ItsIn G own tail (vs ++ [.ref mw]) ((j.key, j.succ.drop k) :: st)
theorem ItsIn.mono {G : List NI} {own tail tail' : List (Addr × Obj)} (hs : ∀ p ∈ tail, p ∈ tail') : ∀ {vs : List Value} {st : List (Str × List Str)}, ItsIn G own tail vs st → ItsIn G own tail' vs st
  | _, _, .nil => .nil
  | _, _, .snoc h a b c d => .snoc (h.mono hs) (hs _ a) (hs _ b) c d
theorem ItsIn.len {G : List NI} {own tail : List (Addr × Obj)} : ∀ {vs : List Value} {st : List (Str × List Str)}, ItsIn G own tail vs st → vs.length = st.length
  | _, _, .nil => rfl
  | _, _, .snoc h _ _ _ _ => by simp [h.len]
theorem same_at {h₀ h : Heap} {L a : Addr} {o o' : Obj} {news : List (Addr × Obj)} (N : News h₀ L h news) (h1 : (a, o) ∈ news) (h2 : (a, o') ∈ news) : o = o' := by
  have a1 := (N _ h1).1
  have a2 := (N _ h2).1
  dsimp only at a1 a2
  rw [a1] at a2
  exact Option.some.inj a2
theorem ItsIn.off {prog : Program} {w : World} {oi : Obj} {G : List NI} {own tail front : List (Addr × Obj)} {h₀ h : Heap} {L I : Addr} {j : NI} {k : Nat} (N : News h₀ L h (front ++ tail)) (g : Graph prog w oi tail G) (hI : (I, liObj j.l k) ∈ tail) (hj : j ∈ G) :
    ∀ {vs : List Value} {st : List (Str × List Str)}, ItsIn G own tail vs st → j.key ∉ st.map (·.1) → ItsIn G own (off tail I) vs st
  | _, _, .nil, _ => .nil
  | _, _, .snoc (st := st') (mw := mw) (I := I') (j := j') (k := k') hr a b c d, hn => by
    have hn' : j.key ≠ j'.key ∧ j.key ∉ st'.map (·.1) := by simpa [not_or] using hn
    refine .snoc (ItsIn.off N g hI hj hr hn'.2) (mem_off.mpr ⟨a, ?_⟩) (mem_off.mpr ⟨b, ?_⟩) c d
    · intro e
      dsimp only at e
      rw [e] at a
      have := same_at N (List.mem_append_right _ a) (List.mem_append_right _ hI)
      have := congrArg Obj.cls this
      exact absurd (Value.type.inj this) (by decide)
    · intro e
      dsimp only at e
      rw [e] at b
      have h2 := same_at N (List.mem_append_right _ b) (List.mem_append_right _ hI)
      have h3 : #[Value.ref j'.l, Value.int k' 0] = #[Value.ref j.l, Value.int k 0] := Data.fields.inj (congrArg Obj.data h2)
      have h4 : j'.l = j.l := by
        have := congrArg (fun a : Array Value => a[0]?) h3
        simpa using this
      exact hn'.1 (by rw [g.apL j' c j hj h4])
end

end
-- C5
section
open PySem PySem.W PySem.Calls PyProof.Rows
set_option maxRecDepth 100000
set_option linter.unusedVariables false
section
theorem valueAt_isSome {K : Type} [DecidableEq K] {kvs : List (K × Value)} {x : K} : (valueAt kvs x).isSome = true ↔ x ∈ kvs.map (·.1) := by
  unfold valueAt
  rw [Option.isSome_map, List.find?_isSome]
  simp
theorem valueAt_none {K : Type} [DecidableEq K] {kvs : List (K × Value)} {x : K} (h : x ∉ kvs.map (·.1)) : (valueAt kvs x).isSome = false := by
  cases e : (valueAt kvs x).isSome with
  | false => rfl
  | true => exact absurd (valueAt_isSome.mp e) h
theorem valueAt_mem {K : Type} [DecidableEq K] {kvs : List (K × Value)} {x : K} {v : Value} (h : valueAt kvs x = some v) : (x, v) ∈ kvs := by
  unfold valueAt at h
  obtain ⟨kv, hk, rfl⟩ := Option.map_eq_some_iff.mp h
  have h1 := List.find?_some hk
  have h2 := List.mem_of_find?_eq_some hk
  simp at h1
  rw [← h1]; exact h2
theorem stored_new {K : Type} [DecidableEq K] {kvs : List (K × Value)} {x : K} {v : Value} (h : x ∉ kvs.map (·.1)) : stored kvs x v = kvs ++ [(x, v)] := by
  unfold stored
  rw [if_neg]
  simp only [List.any_eq_true, decide_eq_true_eq, not_exists, not_and]
  exact fun p hp e => h (List.mem_map.mpr ⟨p, hp, e⟩)
theorem ngt {a b : Addr} (h : @LT.lt Nat _ b a) : a ≠ b := Nat.ne_of_gt h
structure DfsI (prog : Program) (w : World) (oi : Obj) (G : List NI) (own : List (Addr × Obj)) (dN dS lI lS sa da ia : Addr) (st : List (Str × List Str)) (S : Str → Bool) (fin : List Str) (c : Option Str)
    (oN oS : Obj) (tail : List (Addr × Obj)) (vsS vsI : List Value) (n : Nat) (kvs : List (Str × Value)) : Prop where
  graph : Graph prog w oi tail G
  keep : ∀ p ∈ own, p ∈ tail
  nN : ∀ p ∈ tail, p.1 ≠ dN
  nS : ∀ p ∈ tail, p.1 ≠ dS
  nI : ∀ p ∈ tail, p.1 ≠ lI
  nL : ∀ p ∈ tail, p.1 ≠ lS
  ap : Apart tail sa da ia
  hstr : StrsAre vsS (st.map (·.1)).reverse
  its : ItsIn G own tail vsI st
  hset : oS.SetObjOf (PySem.strKind prog w) S n
  room : n + unseen (G.map NI.pure) S ≤ 2000
  size : st.length + unseen (G.map NI.pure) S ≤ 2000
  dict : oN.IsDictOf (PySem.strKind prog w) kvs
  keys : kvs.map (·.1) = (st.map (·.1)).reverse
  hint : ∀ p ∈ kvs, ∃ (i : Nat) (t : Tok), p.2 = .int (i : Int) t ∧ i ≤ 2000
  ok : StOk (G.map NI.pure) fin st c
  topo : Topo (G.map NI.pure) fin
  seen : ∀ x, S x = true ↔ x ∈ fin ∨ x ∈ st.map (·.1)
  nod : (st.map (·.1)).Nodup
section
variable {prog : Program} {w : World} {oi : Obj} {G : List NI} {own : List (Addr × Obj)} {dN dS lI lS sa da ia : Addr} {st : List (Str × List Str)} {S : Str → Bool} {fin : List Str} {c : Option Str}
    {oN oS : Obj} {tail : List (Addr × Obj)} {vsS vsI : List Value} {n : Nat} {kvs : List (Str × Value)} {h₀ h : Heap} {L : Addr} {front : List (Addr × Obj)}
theorem DfsI.lenS (D : DfsI prog w oi G own dN dS lI lS sa da ia st S fin c oN oS tail vsS vsI n kvs) : vsS.length = st.length := by
  rw [StrsAre.len D.hstr]; simp
theorem DfsI.lenI (D : DfsI prog w oi G own dN dS lI lS sa da ia st S fin c oN oS tail vsS vsI n kvs) : vsI.length = st.length := D.its.len
theorem DfsI.lenK (D : DfsI prog w oi G own dN dS lI lS sa da ia st S fin c oN oS tail vsS vsI n kvs) : kvs.length = st.length := by
  have := congrArg List.length D.keys
  simpa using this
theorem DfsI.inN (D : DfsI prog w oi G own dN dS lI lS sa da ia st S fin c oN oS tail vsS vsI n kvs) {x : Str} : (valueAt kvs x).isSome = true ↔ x ∈ st.map (·.1) := by
  rw [valueAt_isSome, D.keys, List.mem_reverse]
theorem DfsI.back {x : Str} (D : DfsI prog w oi G own dN dS lI lS sa da ia st S fin (some x) oN oS tail vsS vsI n kvs) (h1 : S x = true) (h2 : x ∉ st.map (·.1)) : DfsI prog w oi G own dN dS lI lS sa da ia st S fin none oN oS tail vsS vsI n kvs :=
  { D with ok := D.ok.back (((D.seen x).mp h1).elim id fun h => absurd h h2) }
theorem DfsI.cyc {x : Str} (D : DfsI prog w oi G own dN dS lI lS sa da ia st S fin (some x) oN oS tail vsS vsI n kvs) (h2 : x ∈ st.map (·.1)) : Cyc (G.map NI.pure) := D.ok.cyc h2
theorem DfsI.push {j : NI} {oN' oS' : Obj} {t : Tok} {len : Nat} {tl : Tok} {I W : Addr} (D : DfsI prog w oi G own dN dS lI lS sa da ia st S fin (some j.key) oN oS tail vsS vsI n kvs) (hj : j ∈ G) (hS : S j.key = false)
    (hs' : oS'.SetObjOf (PySem.strKind prog w) (fun y => S y || decide (y = j.key)) (if S j.key then n else n + 1)) (hd' : oN'.IsDictOf (PySem.strKind prog w) (stored kvs j.key (.int (len : Int) tl))) (hlen : len ≤ 2000)
    (hIt : ∀ p ∈ tail, @LT.lt Nat _ p.1 I) (hWI : @LT.lt Nat _ I W) (i1 : @LT.lt Nat _ dN I) (i2 : @LT.lt Nat _ dS I) (i3 : @LT.lt Nat _ lI I) (i4 : @LT.lt Nat _ lS I) (i5 : @LT.lt Nat _ sa I) (i6 : @LT.lt Nat _ da I) (i7 : @LT.lt Nat _ ia I) :
    DfsI prog w oi G own dN dS lI lS sa da ia ((j.key, j.succ) :: st) (fun y => S y || decide (y = j.key)) fin none oN' oS' ((W, mwObj I) :: (I, liObj j.l 0) :: tail) (vsS ++ [.str j.key t]) (vsI ++ [.ref W]) (n + 1) (kvs ++ [(j.key, .int (len : Int) tl)]) := by
  have hnot : j.key ∉ st.map (·.1) := fun hm => by
    have := (D.seen j.key).mpr (.inr hm)
    rw [hS] at this; cases this
  have hnf : j.key ∉ fin := fun hm => by
    have := (D.seen j.key).mpr (.inl hm)
    rw [hS] at this; cases this
  have hnk : j.key ∉ kvs.map (·.1) := by rw [D.keys, List.mem_reverse]; exact hnot
  have hpn : (j.key, j.n, j.succ) ∈ G.map NI.pure := List.mem_map.mpr ⟨j, hj, rfl⟩
  have hu := unseen_push hpn hS
  have hr := D.room
  have hz := D.size
  have two : ∀ {P : Addr → Prop}, P W → P I → (∀ p ∈ tail, P p.1) → ∀ p ∈ (W, mwObj I) :: (I, liObj j.l 0) :: tail, P p.1 := fun a b c p hp => by
    rcases List.mem_cons.mp hp with rfl | hp
    · exact a
    · rcases List.mem_cons.mp hp with rfl | hp
      · exact b
      · exact c p hp
  rw [hS] at hs'
  rw [stored_new hnk] at hd'
  refine { graph := D.graph.mono fun p hp => .tail _ (.tail _ hp), keep := fun p hp => .tail _ (.tail _ (D.keep p hp)), nN := two (P := (· ≠ dN)) (ngt (by omega)) (ngt (by omega)) D.nN, nS := two (P := (· ≠ dS)) (ngt (by omega)) (ngt (by omega)) D.nS, nI := two (P := (· ≠ lI)) (ngt (by omega)) (ngt (by omega)) D.nI, nL := two (P := (· ≠ lS)) (ngt (by omega)) (ngt (by omega)) D.nL, ap := ⟨two (P := (· ≠ sa)) (ngt (by omega)) (ngt (by omega)) D.ap.sa, two (P := (· ≠ da)) (ngt (by omega)) (ngt (by omega)) D.ap.da, two (P := (· ≠ ia)) (ngt (by omega)) (ngt (by omega)) D.ap.ia⟩, hstr := ?_, its := ?_, hset := hs', room := by omega, size := by simp only [List.length_cons]; omega, dict := hd', keys := by simp [D.keys], hint := ?_, ok := D.ok.push hpn, topo := D.topo, seen := ?_, nod := ?_ }
  · simpa using StrsAre.snoc D.hstr j.key t
  · have := ItsIn.snoc (j := j) (k := 0) (mw := W) (I := I) (D.its.mono (tail' := (W, mwObj I) :: (I, liObj j.l 0) :: tail) fun p hp => .tail _ (.tail _ hp)) (.head _) (.tail _ (.head _)) hj (fun p hp => Nat.ne_of_lt (hIt p (D.keep p hp)))
    simpa using this
  · intro p hp
    rcases List.mem_append.mp hp with hp | hp
    · exact D.hint p hp
    · rw [List.mem_singleton.mp hp]
      exact ⟨len, tl, rfl, hlen⟩
  · intro x
    simp only [Bool.or_eq_true, decide_eq_true_eq, D.seen x, List.map_cons, List.mem_cons]
    constructor
    · rintro ((h | h) | h)
      · exact .inl h
      · exact .inr (.inr h)
      · exact .inr (.inl h)
    · rintro (h | h | h)
      · exact .inl (.inl h)
      · exact .inr h
      · exact .inl (.inr h)
  · simpa using ⟨fun y hy => hnot (List.mem_map.mpr ⟨_, hy, rfl⟩), D.nod⟩
theorem DfsI.top {x : Str} {rem : List Str} {st' : List (Str × List Str)} (D : DfsI prog w oi G own dN dS lI lS sa da ia ((x, rem) :: st') S fin c oN oS tail vsS vsI n kvs) :
    ∃ vsS' tx vsI' mw I j k, vsS = vsS' ++ [.str x tx] ∧ vsI = vsI' ++ [.ref mw] ∧ j ∈ G ∧ j.key = x ∧ j.succ.drop k = rem ∧ (mw, mwObj I) ∈ tail ∧ (I, liObj j.l k) ∈ tail ∧ (∀ p ∈ own, p.1 ≠ I) ∧ ItsIn G own tail vsI' st' ∧ StrsAre vsS' (st'.map (·.1)).reverse := by
  have hi := D.its
  have hs := D.hstr
  cases hi with
  | snoc hr a b cc d =>
    rename_i vs mw I j k
    rcases List.eq_nil_or_concat vsS with e | ⟨vs0, v, e⟩
    · have := StrsAre.len hs
      rw [e] at this; simp at this
    · rw [List.concat_eq_append] at e
      subst e
      obtain ⟨cx, t, rfl, h1, h2⟩ := StrsAre.of_snoc hs
      simp only [List.map_cons, List.reverse_cons, List.dropLast_concat] at h1 h2
      have : cx = j.key := by simpa using (List.append_inj' h2 rfl).2.symm
      subst this
      exact ⟨vs0, t, vs, mw, I, j, k, rfl, rfl, cc, rfl, rfl, a, b, d, hr, h1⟩
theorem DfsI.next {x r : Str} {rs : List Str} {st' : List (Str × List Str)} {I mw : Addr} {j : NI} {k : Nat} {vsI' : List Value} (D : DfsI prog w oi G own dN dS lI lS sa da ia ((x, r :: rs) :: st') S fin none oN oS tail vsS (vsI' ++ [.ref mw]) n kvs) (N : News h₀ L h (front ++ tail))
    (hj : j ∈ G) (hk : j.key = x) (hr : j.succ.drop k = r :: rs) (a : (mw, mwObj I) ∈ tail) (b : (I, liObj j.l k) ∈ tail) (d : ∀ p ∈ own, p.1 ≠ I) (hi : ItsIn G own tail vsI' st') :
    DfsI prog w oi G own dN dS lI lS sa da ia ((x, rs) :: st') S fin (some r) oN oS ((I, liObj j.l (k + 1)) :: off tail I) vsS (vsI' ++ [.ref mw]) n kvs := by
  have hnod := D.nod
  simp only [List.map_cons, List.nodup_cons] at hnod
  have hof := ItsIn.off N D.graph b hj hi (by rw [hk]; exact hnod.1)
  have hsub : ∀ p ∈ off tail I, p ∈ (I, liObj j.l (k + 1)) :: off tail I := fun p hp => .tail _ hp
  have two : ∀ {P : Addr → Prop}, (∀ p ∈ tail, P p.1) → ∀ p ∈ (I, liObj j.l (k + 1)) :: off tail I, P p.1 := fun {P} c p hp => by
    rcases List.mem_cons.mp hp with rfl | hp
    · have := c (I, liObj j.l k) b
      exact this
    · exact c p (mem_off.mp hp).1
  have hgr := D.graph.offI (I := I) (it := liObj j.l k) N (fun p hp => List.mem_append_right _ hp) (List.mem_append_right _ b) (by simp [liObj]) (by simp [liObj]) (by simp [liObj])
  have hdr : j.succ.drop (k + 1) = rs := by
    have := congrArg List.tail hr
    simpa using this
  refine { graph := hgr.mono hsub, keep := fun p hp => .tail _ (mem_off.mpr ⟨D.keep p hp, d p hp⟩), nN := two (P := (· ≠ dN)) D.nN, nS := two (P := (· ≠ dS)) D.nS, nI := two (P := (· ≠ lI)) D.nI, nL := two (P := (· ≠ lS)) D.nL, ap := ⟨two (P := (· ≠ sa)) D.ap.sa, two (P := (· ≠ da)) D.ap.da, two (P := (· ≠ ia)) D.ap.ia⟩, hstr := D.hstr, its := ?_, hset := D.hset, room := D.room, size := D.size, dict := D.dict, keys := D.keys, hint := D.hint, ok := D.ok.next, topo := D.topo, seen := D.seen, nod := D.nod }
  have hmw : mw ≠ I := fun e => by
    rw [e] at a
    have := same_at N (List.mem_append_right _ a) (List.mem_append_right _ b)
    exact absurd (Value.type.inj (congrArg Obj.cls this)) (by decide)
  have := ItsIn.snoc (j := j) (k := k + 1) (hof.mono hsub) (.tail _ (mem_off.mpr ⟨a, hmw⟩)) (.head _) hj d
  rw [hk, hdr] at this
  exact this
theorem DfsI.pop {x : Str} {st' : List (Str × List Str)} {I mw : Addr} {j : NI} {k : Nat} {vsI' vsS' : List Value} {tx : Tok} {oN' : Obj} (D : DfsI prog w oi G own dN dS lI lS sa da ia ((x, []) :: st') S fin none oN oS tail (vsS' ++ [.str x tx]) (vsI' ++ [.ref mw]) n kvs) (N : News h₀ L h (front ++ tail))
    (hj : j ∈ G) (hk : j.key = x) (b : (I, liObj j.l k) ∈ tail) (d : ∀ p ∈ own, p.1 ≠ I) (hi : ItsIn G own tail vsI' st') (hs : StrsAre vsS' (st'.map (·.1)).reverse) (hd' : oN'.IsDictOf (PySem.strKind prog w) (without kvs x)) :
    DfsI prog w oi G own dN dS lI lS sa da ia st' S (x :: fin) none oN' oS (off tail I) vsS' vsI' n (without kvs x) := by
  have hnod := D.nod
  simp only [List.map_cons, List.nodup_cons] at hnod
  have hof := ItsIn.off N D.graph b hj hi (by rw [hk]; exact hnod.1)
  have two : ∀ {P : Addr → Prop}, (∀ p ∈ tail, P p.1) → ∀ p ∈ off tail I, P p.1 := fun c p hp => c p (mem_off.mp hp).1
  have hgr := D.graph.offI (I := I) (it := liObj j.l k) N (fun p hp => List.mem_append_right _ hp) (List.mem_append_right _ b) (by simp [liObj]) (by simp [liObj]) (by simp [liObj])
  have hu : ∀ p ∈ G.map NI.pure, ∀ q ∈ G.map NI.pure, p.1 = q.1 → p = q := fun p hp q hq e => by
    obtain ⟨p', hp', rfl⟩ := List.mem_map.mp hp
    obtain ⟨q', hq', rfl⟩ := List.mem_map.mp hq
    rw [D.graph.apK p' hp' q' hq' e]
  obtain ⟨ht, hok⟩ := D.ok.pop hu D.topo
  have hz := D.size
  refine { graph := hgr, keep := fun p hp => mem_off.mpr ⟨D.keep p hp, d p hp⟩, nN := two (P := (· ≠ dN)) D.nN, nS := two (P := (· ≠ dS)) D.nS, nI := two (P := (· ≠ lI)) D.nI, nL := two (P := (· ≠ lS)) D.nL, ap := ⟨two (P := (· ≠ sa)) D.ap.sa, two (P := (· ≠ da)) D.ap.da, two (P := (· ≠ ia)) D.ap.ia⟩, hstr := hs, its := hof, hset := D.hset, room := D.room, size := by simp only [List.length_cons] at hz; omega, dict := hd', keys := ?_, hint := fun p hp => D.hint p (List.mem_filter.mp hp).1, ok := hok, topo := ht, seen := ?_, nod := hnod.2 }
  · have hk0 := D.keys
    simp only [List.map_cons, List.reverse_cons] at hk0
    have e1 : (without kvs x).map (·.1) = (kvs.map (·.1)).filter (fun y => decide (y ≠ x)) := by
      unfold without
      rw [List.filter_map]
      rfl
    rw [e1, hk0, List.filter_append]
    have e2 : List.filter (fun y => decide (y ≠ x)) [x] = [] := by simp
    rw [e2, List.append_nil, List.filter_eq_self]
    intro y hy
    simp only [ne_eq, decide_not, Bool.not_eq_eq_eq_not, Bool.not_true, decide_eq_false_iff_not]
    exact fun e => hnod.1 (e ▸ List.mem_reverse.mp hy)
  · intro y
    rw [D.seen y]
    simp only [List.map_cons, List.mem_cons]
    constructor
    · rintro (h | h | h)
      · exact .inl (.inr h)
      · exact .inl (.inl h)
      · exact .inr h
    · rintro ((h | h) | h)
      · exact .inr (.inl h)
      · exact .inl h
      · exact .inr (.inr h)
end
end

end
-- C6
section
open PySem PySem.W PySem.Calls PyProof.Rows
set_option maxRecDepth 100000
set_option linter.unusedVariables false
section
/-- what stands below, over a ground that may have turned -/
structure Gnd (K : Frag) (p : Program) (loose : List Str) (mean : ExcName → Option Value) (mg mb : Str → Option Value) (A₀ : Around) (base : Heap) (outer : List Env) (g₀ g : Heap) : Prop where
  turn : KtsTurn (outer.filterMap (·.frame)) g₀ g
  below : Below A₀ base outer g
  inn : K.In g
  top : Top p loose mean mg mb g
  dicts : KtsDicts (outer.filterMap (·.frame)) g
theorem Gnd.next {K : Frag} {p : Program} {loose : List Str} {mean : ExcName → Option Value} {mg mb : Str → Option Value} {A₀ : Around} {base : Heap} {outer : List Env} {g₀ g g' : Heap} (x : Gnd K p loose mean mg mb A₀ base outer g₀ g) (T : KtsTurn (outer.filterMap (·.frame)) g g')
    (B : Below A₀ base outer g') (X : K.In g') (P : Top p loose mean mg mb g') (D : KtsDicts (outer.filterMap (·.frame)) g') : Gnd K p loose mean mg mb A₀ base outer g₀ g' := ⟨x.turn.trans T, B, X, P, D⟩
section
variable {prog : Program} {w : World} {A : Around} {E : Value → Shared → Prop} {s : Shared} {env : Env}
theorem while_M {Gd : Heap → Prop} {test : Expr} {body orelse : List Stmt} {pos : Pos} {Q : Flow → Shared → Prop} {g : Heap} {L : Addr} {m : Str → Option Value} {news : List (Addr × Obj)} {k₀ : Nat}
    (J : (Str → Option Value) → Nat → (Str → Option Value) → List (Addr × Obj) → Prop) (F : Fr g L s.heap m) (N : News g L s.heap news) (G0 : Gd g) (h0 : J m k₀ m news)
    (turn : ∀ k g₁ m₁ news₁ h₁ tk₁, Gd g₁ → Fr g₁ L h₁ m₁ → News g₁ L h₁ news₁ → J m k m₁ news₁ →
      wpAny (model prog w) A (isTrue test env (eval test env)) (fun b s₂ => if b = true then wpAny (model prog w) A (execs body env) (WPost Gd L (J m) k s Q) (fun _ _ => False) s₂ else wpAny (model prog w) A (execs orelse env) Q (fun _ _ => False) s₂) (fun _ _ => False) { s with heap := h₁, toks := tk₁ }) :
    wpAny (model prog w) A (exec (.While test body orelse pos) env) Q E s := while_S (J m) G0 F N h0 turn
theorem for_dictM {Gd : Heap → Prop} {R : Result → Shared → Prop} {x : Str} {px : Pos} {body orelse : List Stmt} {d : Addr} {o : Obj} {kvs : List (Str × Value)} {g : Heap} {m : Str → Option Value} {news : List (Addr × Obj)}
    (J : (Str → Option Value) → Nat → (Str → Option Value) → List (Addr × Obj) → Prop) (F : Fr g env.locals s.heap m) (N : News g env.locals s.heap news)
    (hh : A.handled = none) (hx : env.kindOf x = some .local) (hp : (env.scope.kind == .class || (env.scope.kind == .module && env.locals != env.globals)) = false)
    (hlo : (d == sysModules) = false) (hdict : o.IsDictOf (PySem.strKind prog w) kvs) (G0 : Gd g) (hsrc : ∀ i m' news', J m i m' news' → (d, o) ∈ news') (h0 : J m 0 m news)
    (turn : ∀ i v k t g₁ m₁ news₁ h tk I it, kvs[i]? = some (k, v) → it.cls = Value.type "dict_keyiterator" → (∀ p ∈ news, p.1 < I) → J m i m₁ news₁ → Gd g₁ → Fr g₁ env.locals h (fun y => if y = x then some (.str k t) else m₁ y) → News g₁ env.locals h ((I, it) :: news₁) → (∀ p ∈ news₁, p.1 ≠ I) →
      wpAny (model prog w) A (execs body env) (FPost Gd env.locals I it (J m (i + 1)) s fun f s₃ => R (.ok f) s₃) (fun _ _ => False) { s with heap := h, toks := tk })
    (done : ∀ g₁ h tk m' news', J m kvs.length m' news' → Gd g₁ → Fr g₁ env.locals h m' → News g₁ env.locals h news' → wpAny (model prog w) A (execs orelse env) (fun f s₃ => R (.ok f) s₃) (fun _ _ => False) { s with heap := h, toks := tk }) :
    wpAny (model prog w) A (pyIter (.ref d)) (fun it s₂ => codeAny (model prog w) A (.forLoop (.Name x px) it body orelse env) R s₂) E s := for_dictS hh hx hp hlo hdict (J m) hsrc G0 F N h0 turn done
end
theorem map_again {x : Str} {v v' : Option Value} {m : Str → Option Value} : (fun y => if y = x then v' else (if y = x then v else m y)) = fun y => if y = x then v' else m y := by
  funext y
  by_cases h : y = x <;> simp [h]
/-- the search's whole state -/
def DfsS (prog : Program) (w : World) (oi : Obj) (G : List NI) (own : List (Addr × Obj)) (dN dS lI lS sa da ia : Addr) (att : Obj) (st : List (Str × List Str)) (S : Str → Bool) (fin : List Str) (c : Option Str) (more news : List (Addr × Obj)) : Prop :=
  ∃ oN oS tail vsS vsI nS nI n kvs, news = more ++ ((dN, oN) :: (dS, oS) :: (lI, listOf vsI.toArray nI) :: (lS, listOf vsS.toArray nS) :: (sa, instObj 146 da) :: (da, att) :: (ia, oi) :: tail) ∧ DfsI prog w oi G own dN dS lI lS sa da ia st S fin c oN oS tail vsS vsI n kvs
theorem DfsI.start {prog : Program} {w : World} {oi : Obj} {G : List NI} {own : List (Addr × Obj)} {dN dS lI lS sa da ia : Addr} {oN oS : Obj} (g : Graph prog w oi own G) (h1 : ∀ p ∈ own, p.1 ≠ dN) (h2 : ∀ p ∈ own, p.1 ≠ dS) (h3 : ∀ p ∈ own, p.1 ≠ lI) (h4 : ∀ p ∈ own, p.1 ≠ lS) (ap : Apart own sa da ia)
    (hs : oS.SetObjOf (PySem.strKind prog w) (fun _ => false) 0) (hd : oN.IsDictOf (PySem.strKind prog w) ([] : List (Str × Value))) (hu : unseen (G.map NI.pure) (fun _ => false) ≤ 2000) :
    DfsI prog w oi G own dN dS lI lS sa da ia [] (fun _ => false) [] none oN oS own [] [] 0 [] :=
  { graph := g, keep := fun _ h => h, nN := h1, nS := h2, nI := h3, nL := h4, ap := ap, hstr := .nil, its := .nil, hset := hs, room := by simpa using hu, size := by simpa using hu, dict := hd, keys := rfl, hint := fun _ h => (nomatch h), ok := .nil, topo := .nil, seen := fun x => by simp, nod := by simp }
theorem map_same {x : Str} {m m₁ : Str → Option Value} (h : ∀ y, y ≠ x → m₁ y = m y) {v : Option Value} : (fun y => if y = x then v else m₁ y) = fun y => if y = x then v else m y := by
  funext y
  by_cases h1 : y = x
  · simp [h1]
  · simp [h1, h y h1]
theorem key_at {G : List NI} {i : Nat} {k : Str} {v : Value} (h : (G.map fun i => (i.key, Value.ref i.a))[i]? = some (k, v)) : ∃ j ∈ G, j.key = k ∧ G[i]? = some j := by
  rw [List.getElem?_map] at h
  obtain ⟨j, hj, e⟩ := Option.map_eq_some_iff.mp h
  exact ⟨j, List.mem_of_getElem? hj, congrArg Prod.fst e, hj⟩
theorem after4 {own tail : List (Addr × Obj)} {f1 f2 f3 f4 s1 s2 s3 p : Addr × Obj} (hk : ∀ p ∈ own, p ∈ tail) (hp : p ∈ s1 :: s2 :: s3 :: own) : p ∈ f1 :: f2 :: f3 :: f4 :: s1 :: s2 :: s3 :: tail := by
  simp only [List.mem_cons] at hp ⊢
  rcases hp with h | h | h | h
  · simp [h]
  · simp [h]
  · simp [h]
  · simp [hk p h]
theorem pick_from (vs : List Value) (a : Nat) : slicePick vs.toArray (some (a : Int)) none none = (vs.drop a).toArray := by simpa using slicePick_from' vs.toArray a
theorem cyc_mem {own tail : List (Addr × Obj)} {c d d2 it f1 f2 f3 f4 s1 s2 s3 p : Addr × Obj} (hk : ∀ p ∈ own, p ∈ tail) (hp : p ∈ c :: s1 :: s2 :: s3 :: own) : p ∈ c :: d :: d2 :: it :: f1 :: f2 :: f3 :: f4 :: s1 :: s2 :: s3 :: tail := by
  simp only [List.mem_cons] at hp ⊢
  rcases hp with h | h | h | h | h
  · simp [h]
  · simp [h]
  · simp [h]
  · simp [h]
  · simp [hk p h]
theorem seen_more {G : List NI} {i : Nat} {S : Str → Bool} {j : NI} (hfi : ∀ q ∈ (G.map NI.pure).take i, S q.1 = true) (hji : G[i]? = some j) (hS : S j.key = true) : ∀ q ∈ (G.map NI.pure).take (i + 1), S q.1 = true := by
  intro q hq
  rw [List.take_add_one, List.getElem?_map, hji] at hq
  rcases List.mem_append.mp hq with hq | hq
  · exact hfi q hq
  · simp only [Option.map_some, Option.toList, List.mem_singleton] at hq
    rw [hq]; exact hS
end
section
theorem rot2 {h₀ h : Heap} {L : Addr} {a b f0 f1 f2 f3 f4 f5 f6 f7 : Addr × Obj} {tail : List (Addr × Obj)} (N : News h₀ L h (a :: b :: f0 :: f1 :: f2 :: f3 :: f4 :: f5 :: f6 :: f7 :: tail)) : News h₀ L h (f0 :: f1 :: f2 :: f3 :: f4 :: f5 :: f6 :: f7 :: a :: b :: tail) :=
  fun p hp => N p (by
    simp only [List.mem_cons] at hp ⊢
    rcases hp with h | h | h | h | h | h | h | h | h | h | h <;> simp [h])
theorem stW_cons {x : Str} {rem : List Str} {st : List (Str × List Str)} : stW ((x, rem) :: st) = rem.length + 1 + stW st := by simp [stW]
theorem stW_nil : stW [] = 0 := rfl
theorem StrsAre.found : ∀ {vs : List Value} {ss : List Str}, StrsAre vs ss → ∀ {i : Nat} {c : Str}, ss[i]? = some c → ∃ t, vs[i]? = some (.str c t)
  | _, _, .nil, i, v, h => by simp at h
  | _, _, .cons y t hs, 0, v, h => by simp at h; subst h; exact ⟨t, rfl⟩
  | _, _, .cons y t hs, i + 1, v, h => by simp at h; simpa using StrsAre.found hs h
theorem drop_at {ss : List Str} {k : Nat} {r : Str} {rs : List Str} (h : ss.drop k = r :: rs) : ss[k]? = some r := by
  have := congrArg (fun l => l[0]?) h
  simpa using this
theorem drop_out {vs : List Value} {ss : List Str} {k : Nat} (hS : StrsAre vs ss) (h : ss.drop k = []) : vs[k]? = none := by
  rw [List.getElem?_eq_none_iff, StrsAre.len hS]
  exact List.drop_eq_nil_iff.mp h
theorem DfsI.offI {prog : Program} {w : World} {oi : Obj} {G : List NI} {own : List (Addr × Obj)} {dN dS lI lS sa da ia : Addr} {S : Str → Bool} {fin : List Str} {c : Option Str} {oN oS : Obj} {tail : List (Addr × Obj)} {vsS vsI : List Value} {n : Nat} {kvs : List (Str × Value)} {h₀ h : Heap} {L I : Addr} {it : Obj} {all : List (Addr × Obj)}
    (D : DfsI prog w oi G own dN dS lI lS sa da ia [] S fin c oN oS tail vsS vsI n kvs) (N : News h₀ L h all) (hs : ∀ p ∈ tail, p ∈ all) (hI : (I, it) ∈ all) (hic : it.cls = .type "dict_keyiterator") (ho : ∀ p ∈ own, p.1 ≠ I) :
    DfsI prog w oi G own dN dS lI lS sa da ia [] S fin none oN oS (off tail I) vsS vsI n kvs := by
  have two : ∀ {P : Addr → Prop}, (∀ p ∈ tail, P p.1) → ∀ p ∈ off tail I, P p.1 := fun c p hp => c p (mem_off.mp hp).1
  have hits := D.its
  cases hits
  exact { D with graph := D.graph.offI N hs hI (by rw [hic]; simp) (by rw [hic]; simp) (by rw [hic]; simp), keep := fun p hp => mem_off.mpr ⟨D.keep p hp, ho p hp⟩, nN := two (P := (· ≠ dN)) D.nN, nS := two (P := (· ≠ dS)) D.nS, nI := two (P := (· ≠ lI)) D.nI, nL := two (P := (· ≠ lS)) D.nL, ap := ⟨two (P := (· ≠ sa)) D.ap.sa, two (P := (· ≠ da)) D.ap.da, two (P := (· ≠ ia)) D.ap.ia⟩, its := .nil, ok := .nil }
theorem off_news {h₀ h : Heap} {L I : Addr} {f0 f1 f2 f3 f4 f5 f6 f7 : Addr × Obj} {tail : List (Addr × Obj)} (N : News h₀ L h (f0 :: f1 :: f2 :: f3 :: f4 :: f5 :: f6 :: f7 :: tail)) : News h₀ L h (f0 :: f1 :: f2 :: f3 :: f4 :: f5 :: f6 :: f7 :: off tail I) :=
  fun p hp => N p (by
    simp only [List.mem_cons] at hp ⊢
    rcases hp with h | h | h | h | h | h | h | h | h <;> first | (simp [h]; done) | simp [(mem_off.mp h).1])
theorem ne_seven {I : Addr} {f1 f2 f3 f4 f5 f6 f7 : Addr × Obj} {tail : List (Addr × Obj)} (h1 : f1.1 ≠ I) (h2 : f2.1 ≠ I) (h3 : f3.1 ≠ I) (h4 : f4.1 ≠ I) (h5 : f5.1 ≠ I) (h6 : f6.1 ≠ I) (h7 : f7.1 ≠ I) (ht : ∀ p ∈ tail, p.1 ≠ I) : ∀ p ∈ f1 :: f2 :: f3 :: f4 :: f5 :: f6 :: f7 :: tail, p.1 ≠ I := by
  intro p hp
  simp only [List.mem_cons] at hp
  rcases hp with rfl | rfl | rfl | rfl | rfl | rfl | rfl | hp
  · exact h1
  · exact h2
  · exact h3
  · exact h4
  · exact h5
  · exact h6
  · exact h7
  · exact ht p hp
end
section
theorem callWith_mw0 {prog : Program} {w : World} {A : Around} {E : Value → Shared → Prop} {s : Shared} {h₀ : Heap} {L : Addr} {news : List (Addr × Obj)} {pos : Pos} {env : Env} {u I : Addr} {Q : Value → Shared → Prop} (N : News h₀ L s.heap news) (hm : (u, mwObj I) ∈ news)
    (hcall : wpAny (model prog w) A (call (.ref u) []) Q E s) : wpAny (model prog w) A (callWith pos (.ref u) [] (backTo pos (starEach [] env)) []) Q E s := callWith_mw N hm hcall
/-- what the test at the turn's head leaves -/
def MidPost (Gd : Heap → Prop) (L : Addr) (Mid : (Str → Option Value) → List (Addr × Obj) → Prop) (Ret : Addr → List (Addr × Obj) → Prop) (s : Shared) (f : Flow) (s₃ : Shared) : Prop :=
  ∃ g' h' tk' m' news', s₃ = { s with heap := h', toks := tk' } ∧ Gd g' ∧ Fr g' L h' m' ∧ News g' L h' news' ∧ ((f = .next ∧ Mid m' news') ∨ ∃ c, f = .ret (.ref c) ∧ Ret c news')
end
section
theorem if_mid {prog : Program} {w : World} {A : Around} {s : Shared} {Gd : Heap → Prop} {g : Heap} {L : Addr} {m : Str → Option Value} {x : Sem Flow} {Q : Flow → Shared → Prop} (Mid : (Str → Option Value) → (Str → Option Value) → List (Addr × Obj) → Prop) (Ret : Addr → List (Addr × Obj) → Prop) (F : Fr g L s.heap m)
    (h1 : wpAny (model prog w) A x (MidPost Gd L (Mid m) Ret s) (fun _ _ => False) s) (h2 : ∀ f s₃, MidPost Gd L (Mid m) Ret s f s₃ → Q f s₃) : wpAny (model prog w) A x Q (fun _ _ => False) s :=
  wpAny_mono h1 h2 fun _ _ e => e
end
section
theorem stop_notTuple : isSubtype (.type ((Manifest.find? "StopIteration").elim "type" fun y => y.metatype)) (.type "tuple") = pure false := by rw [isSubtype_type]; kernel_rfl
end

end
-- C8
section
open PySem PySem.W PySem.Calls PyProof.Rows PySem.Spec
set_option maxRecDepth 100000
set_option linter.unusedVariables false
section
theorem kts_memX {env : Env} {L b : Addr} {outer : List Env} (hf : env.frame = some L) (hm : b ∈ (env :: outer).filterMap (·.frame)) : b = L ∨ b ∈ outer.filterMap (·.frame) := by
  obtain ⟨e, he, hb⟩ := List.mem_filterMap.mp hm
  rcases List.mem_cons.mp he with rfl | he
  · exact .inl (Option.some.inj (hf.symm.trans hb)).symm
  · exact .inr (List.mem_filterMap.mpr ⟨e, he, hb⟩)
/-- a callee's ground turned: the caller's ground turns with it (any frame) -/
theorem turn_downX {A₀ : Around} {base h₀ g g8 : Heap} {outer : List Env} {L : Addr} {m : Str → Option Value} {env : Env} (hf : env.frame = some L) (B : Below A₀ base outer h₀) (F : Fr h₀ L g m) (T : KtsTurn ((env :: outer).filterMap (·.frame)) g g8) :
    ∃ h₀', KtsTurn (outer.filterMap (·.frame)) h₀ h₀' ∧ Fr h₀' L g8 m ∧ Below A₀ base outer h₀' := by
  have nL₀ : h₀.get? L = none := kts_self F
  obtain ⟨T₁, S₁⟩ := kts_turn_at (h := g8) (fs := outer.filterMap (·.frame)) (g := h₀)
    (fun b hb => by
      obtain ⟨_, o, ho', _⟩ := B.frames.mem hb
      exact ⟨o, ho'⟩)
    (fun b o e nmem => T.other b o (F.keep b o e) (fun q => by
      rcases kts_memX hf q with z | z
      · rw [z, nL₀] at e
        cases e
      · exact nmem z))
    (fun b o e hm => T.up (F.keep b o e))
  refine ⟨_, T₁, ⟨?_, S₁, by rw [T₁.size]; exact F.above⟩, ⟨B.stack, fun b o e => T₁.other b o (B.stays b o e) (fun hm => by
    rw [(B.frames.mem hm).1] at e
    cases e), B.frames.of_keeps fun b o e _ => by
    obtain ⟨sl', hs'⟩ := T₁.up e
    exact ⟨_, hs', rfl⟩⟩⟩
  obtain ⟨o, es, ep, ho, hd, r⟩ := F.ns
  obtain ⟨sl, hs⟩ := T.up ho
  exact ⟨_, es, ep, hs, hd, r⟩
section
variable {prog : Program} {w : World} {A₀ A : Around} {s : Shared} {base h₀ g₀ : Heap} {env : Env} {outer : List Env} {L : Addr} {m : Str → Option Value} {news : List (Addr × Obj)} {K : Frag} {p : Program} {loose : List Str} {mean : ExcName → Option Value} {mg mb : Str → Option Value}
    {R : Result → Shared → Prop} {name qual : Str} {params : Arguments} {body : List Stmt} {scope : Scope} {dV kV doc pm cdv ct oc : Value} {an od : Option Addr} {osl : Array (Option Value)} {f : Addr} {args : Args} {binds : List (Str × Value)}
theorem groundS (B : Below A₀ base outer h₀) (F : Fr h₀ L s.heap m) (N : News h₀ L s.heap news) (XB : K.In base) (TB : Top p loose mean mg mb base) (D : KtsDicts (outer.filterMap (·.frame)) h₀) (T0 : KtsTurn (outer.filterMap (·.frame)) g₀ h₀)
    (hA : A.frames = some (env :: outer)) (hf : env.frame = some L) (hke : env.scope.kind = .function) :
    KtsDicts ((env :: outer).filterMap (·.frame)) (hideAll s.heap (news.map (·.1))) ∧
      ∀ v s', LeaveS ((env :: outer).filterMap (·.frame)) A₀ base outer K p loose mean mg mb g₀ h₀ L m (hideAll s.heap (news.map (·.1))) R v s' → R (.ok (.ret v)) s' := by
  obtain ⟨FG, BG, st, lv⟩ := groundX (R := R) B F N hA hf hke
  obtain ⟨oL, es, ep, hLg, hLd, hLr⟩ := id FG.ns
  have nL₀ : h₀.get? L = none := kts_self F
  refine ⟨fun b hb => ?_, fun v s' hl => ?_⟩
  · rcases kts_memX hf hb with rfl | hb
    · exact ⟨oL, es, ep, hLg, hLd⟩
    · obtain ⟨o, es', n', ho', hd'⟩ := D b hb
      exact ⟨o, es', n', st b o ho', hd'⟩
  · rcases hl with ⟨L', m', news', F', N', k⟩ | ⟨g', L', m', news', T', F', N', k⟩
    · exact lv v s' ⟨L', m', news', F', N', k⟩
    · obtain ⟨h₀', T₁, F₁, B₁⟩ := turn_downX hf B FG T'
      have FF : Fr h₀' L s'.heap m := ⟨by
        obtain ⟨o, es, ep, ho, r⟩ := F₁.ns
        exact ⟨o, es, ep, F'.keep _ _ ho, r⟩, fun b o e => F'.keep b o (F₁.keep b o e), F₁.above⟩
      refine k h₀' (T0.trans T₁) FF (fun q hq => ⟨(N' q hq).1, fun e => ?_, ?_⟩) B₁ (XB.keeps B₁.stays) (TB.keeps B₁.stays) (D.turn T₁)
      · obtain ⟨sl, hs⟩ := T'.up hLg
        have := (N' q hq).2.2; rw [e, hs] at this; cases this
      · cases e : h₀'.get? q.1 with
        | none => rfl
        | some o =>
          have := (N' q hq).2.2
          rw [F₁.keep _ _ e] at this
          cases this
theorem code_S (B : Below A₀ base outer h₀) (F : Fr h₀ L s.heap m) (X₀ : K.In h₀) (N : News h₀ L s.heap news) (T : Top p loose mean mg mb h₀) (XB : K.In base) (TB : Top p loose mean mg mb base) (D : KtsDicts (outer.filterMap (·.frame)) h₀)
    (T0 : KtsTurn (outer.filterMap (·.frame)) g₀ h₀) (hA : A.frames = some (env :: outer)) (hf : env.frame = some L) (hke : env.scope.kind = .function)
    (ho : K.lookup f = some ⟨oc, od, .func (fnOf name qual params body scope dV kV doc pm an cdv ct), osl⟩) (hcd : codeIn K cdv qual = true) (hroom : A.depth < recursionLimit)
    (hbind : BindsTo s (fnOf name qual params body scope dV kV doc pm an cdv ct) args binds) (hloc : ∀ y ∈ binds, scope.names.lookup y.1 = some .local)
    (h : ∀ g L' h₁, Fr h₀ L g m → Fr g L' h₁ (fun y => binds.reverse.lookup y) → News g L' h₁ news → Below A base (env :: outer) g → K.In g → Top p loose mean mg mb g → KtsDicts ((env :: outer).filterMap (·.frame)) g →
      wpAny (model prog w) (A.deeper (envOf qual scope L' f cdv)) (execs body (envOf qual scope L' f cdv))
        (fun fl s' => LeaveS ((env :: outer).filterMap (·.frame)) A₀ base outer K p loose mean mg mb g₀ h₀ L m g R (match fl with | .ret v => v | _ => .none) s')
        (fun e s' => wpAny (model prog w) (A.deeper (envOf qual scope L' f cdv)) (leaving (envOf qual scope L' f cdv) e) (fun _ s'' => R (.error e) s'') (fun e' s'' => R (.error e') s'') s')
        { s with heap := h₁, toks := s.toks + binds.length })
    (hco : scope.isCoroutine = false) (hgen : scope.isGenerator = false) (hk : scope.kind = .function)
    (hcell : ∀ x ∈ scope.names, x.2 ≠ .cell) : codeAny (model prog w) A (.call (.ref f) args) R s := by
  have X := X₀.keeps F.keep
  obtain ⟨FG, BG, st, _⟩ := groundX (R := R) B F N hA hf hke
  obtain ⟨DG, lv⟩ := groundS (K := K) (R := R) B F N XB TB D T0 hA hf hke
  refine codeAny_call_def (fd := fnOf name qual params body scope dV kV doc pm an cdv ct) (body := body) (binds := binds) hroom (X _ _ ho) rfl (T.nolimit.keeps F.keep) (codeRec_of X hcd) rfl hbind hcell hloc (fun h₁ hns hk₁ => ?_) hco hgen hk
  exact wpAny_mono (h _ s.heap.objs.size h₁ FG ⟨hns, fun b o e => hk₁ b o (of_hideAll _ e), Nat.le_of_eq (hideAll_size _ _)⟩
    (fun p hp => ⟨hk₁ _ _ (N p hp).1, Nat.ne_of_lt (Heap.lt_size (N p hp).1), hideAll_none _ (List.mem_map_of_mem hp)⟩) BG (X₀.keeps st) (T.keeps st) DG) (fun fl s' hl => lv _ _ hl) fun _ _ y => y
theorem code_SC (B : Below A₀ base outer h₀) (F : Fr h₀ L s.heap m) (X₀ : K.In h₀) (N : News h₀ L s.heap news) (T : Top p loose mean mg mb h₀) (XB : K.In base) (TB : Top p loose mean mg mb base) (D : KtsDicts (outer.filterMap (·.frame)) h₀)
    (T0 : KtsTurn (outer.filterMap (·.frame)) g₀ h₀) (hA : A.frames = some (env :: outer)) (hf : env.frame = some L) (hke : env.scope.kind = .function)
    (ho : K.lookup f = some ⟨oc, od, .func (fnOf name qual params body scope dV kV doc pm an cdv ct), osl⟩) (hcd : codeIn K cdv qual = true) (hroom : A.depth < recursionLimit)
    (hbind : BindsTo s (fnOf name qual params body scope dV kV doc pm an cdv ct) args binds) (hkind : (binds.all fun y => scope.names.lookup y.1 == some .local || scope.names.lookup y.1 == some .cell) = true)
    (hnd : ((cellsFrom 0 scope.names []).map (·.1)).Nodup)
    (h : ∀ g L' h₁ tk cells, Fr h₀ L g m → Fr g L' h₁ (bindL (envOfC qual scope L' f cdv).kindOf binds fun _ => none) → News g L' h₁ (cells ++ news) → CellsAre (bindC (envOfC qual scope L' f cdv).kindOf binds fun _ => none) (cellsFrom (L' + 1) scope.names []) cells →
      Below A base (env :: outer) g → K.In g → Top p loose mean mg mb g → KtsDicts ((env :: outer).filterMap (·.frame)) g → (∀ p ∈ news, p.1 < L') →
      wpAny (model prog w) (A.deeper (envOfC qual scope L' f cdv)) (execs body (envOfC qual scope L' f cdv))
        (fun fl s' => LeaveS ((env :: outer).filterMap (·.frame)) A₀ base outer K p loose mean mg mb g₀ h₀ L m g R (match fl with | .ret v => v | _ => .none) s')
        (fun e s' => wpAny (model prog w) (A.deeper (envOfC qual scope L' f cdv)) (leaving (envOfC qual scope L' f cdv) e) (fun _ s'' => R (.error e) s'') (fun e' s'' => R (.error e') s'') s')
        { s with heap := h₁, toks := tk })
    (hco : scope.isCoroutine = false) (hgen : scope.isGenerator = false) (hk : scope.kind = .function) : codeAny (model prog w) A (.call (.ref f) args) R s := by
  have X := X₀.keeps F.keep
  obtain ⟨FG, BG, st, _⟩ := groundX (R := R) B F N hA hf hke
  obtain ⟨DG, lv⟩ := groundS (K := K) (R := R) B F N XB TB D T0 hA hf hke
  refine codeAny_call_function hroom (X _ _ ho) rfl hco hgen rfl (codeRec_of X hcd) (hbind _ _ _ _ ?_)
  refine wpAny_newFunctionEnv_cells hk (kindsX hkind _) fun env' he s' x => ?_
  subst he
  refine ⟨(T.nolimit.keeps F.keep).keeps x.toInCall.keep, codeAny_func ?_⟩
  obtain ⟨h₁, tk, rfl, _⟩ := x.done
  have hk₁ := x.toInCall.keep
  obtain ⟨cells, NC, Y⟩ := Cl.news (h₀ := s.heap) (Nat.le_refl _) fun n c hm => ⟨x.cell n c (lookup_of_mem_nodup (cellsFrom_names scope.names 0 (s.heap.objs.size + 1) [] [] rfl ▸ hnd) hm), x.above n c hm⟩
  refine wpAny_mono (h _ s.heap.objs.size h₁ tk cells FG ⟨x.toInCall.ns, fun b o e => hk₁ b o (of_hideAll _ e), Nat.le_of_eq (hideAll_size _ _)⟩ (fun p hp => ?_) Y BG (X₀.keeps st) (T.keeps st) DG (fun p hp => Heap.lt_size (N p hp).1)) (fun fl s' hl => lv _ _ hl) fun _ _ y => y
  rcases List.mem_append.mp hp with hp | hp
  · refine ⟨(NC p hp).1, (NC p hp).2.1, ?_⟩
    cases q : (hideAll s.heap (news.map (·.1))).get? p.1 with
    | none => rfl
    | some o => have := of_hideAll _ q; rw [(NC p hp).2.2] at this; cases this
  · exact ⟨hk₁ _ _ (N p hp).1, Nat.ne_of_lt (Heap.lt_size (N p hp).1), hideAll_none _ (List.mem_map_of_mem hp)⟩
end
end

end
section
local macro_rules | `(tactic| walk_at "callWith ref") => `(tactic| (k_here; (with_reducible show wpAny _ _ (callWith _ (Value.ref _) [] (backTo _ (starEach [] _)) []) _ _ _); k_dflt (refine' callWith_mw0 (by k_asm) (by k_mem) ?_; k_whole)))
section
local macro_rules | `(tactic| walk_at "call builtin:iter") => `(tactic| (walk_at "sB"; k_dflt (refine' iter_list (by k_asm) (by k_asm) (by k_mem) ?_; k_whole); walk_at "i5"))
section
local macro_rules | `(tactic| walk_at "getAttr ref") => `(tactic| (k_here; (with_reducible show wpAny _ _ (getAttr (Value.ref _) (PySem.Str.ofString "__next__") _) _ _ _); k_dflt (refine' getattr_led (by k_asm) (by k_asm) (by k_mem) ?_; k_whole); intro W' h' tk' F' N' l1'; (try k_lt l1'); (try k_sweep)))
section
local macro_rules | `(tactic| walk_at "compareOp In str ref") => `(tactic| (k_here; k_dflt (first | (refine' dict_in_T (by k_asm) (by k_mem) (by assumption) (by assumption) (by assumption) ?_; k_whole) | (refine' dict_in_F (by k_asm) (by k_mem) (by assumption) (by assumption) (by assumption) ?_; k_whole) | (refine' set_in_B (by k_asm) (by k_mem) (by assumption) (by unfold scanBound; omega) (by assumption) ?_; k_whole))))
section
local macro_rules | `(tactic| walk_at "delItem ref str") => `(tactic| (k_here; k_dflt (refine' dict_del_led (by k_asm) (by k_asm) (by k_updF) (by assumption) (by assumption) (by walk_at "le") ?_); intro h' o' F' N' hd'; (try dsimp only at N'); (try k_sweep)))
section
local macro_rules | `(tactic| walk_at "subscriptTail Name Slice ref ref") => `(tactic| (k_here; (with_reducible show wpAny _ _ (subscriptTail _ (Expr.Slice (some _) none none _) (Value.ref _) (Value.ref _)) _ _ _); k_dflt (refine' slice_led (by k_asm) (by k_asm) (by k_mem) (.int _ _) .none (pick_from _ _) ?_ (by with_unfolding_all rfl) (by intro _; with_unfolding_all rfl) (by omega)); walk_at "i5"))
section
local macro_rules | `(tactic| walk_at "eval Name") => `(tactic| ((with_reducible show wpAny _ _ (eval (Expr.Name _ _) (compEnv _ _ _)) _ _ _); k_dflt (refine' name_comp (by rfl) (by rfl) (by assumption) (by assumption) ?_; k_whole)))
section
local macro_rules | `(tactic| walk_at "enterS") => `(tactic| k_dflt (refine wpAny_call ?_; (refine' code_S (by k_asm) (by k_asm) (by k_asm) (by k_asm) (by k_asm) (by assumption) (by assumption) (by assumption) KtsTurn.refl rfl rfl rfl (by k_is) (by k_is) (by k_room) (by first | exact binds_K (by k_in) rfl (by k_is) rfl rfl rfl | exact BindsTo.of_eq rfl) (locs rfl) ?_ rfl rfl rfl (by decide); k_whole; intro g' L' h' FG' F' N' B' X' T' D'; (try dsimp only); (try k_lift B'); (try k_fold))))
section
local macro_rules | `(tactic| walk_at "enterSC") => `(tactic| k_dflt (refine wpAny_call ?_; (refine' code_SC (by k_asm) (by k_asm) (by k_asm) (by k_asm) (by k_asm) (by assumption) (by assumption) (by assumption) KtsTurn.refl rfl rfl rfl (by k_is) (by k_is) (by k_room) (by first | exact binds_K (by k_in) rfl (by k_is) rfl rfl rfl | exact BindsTo.of_eq rfl) rfl (by decide +kernel) ?_ rfl rfl rfl; k_whole; intro g' L' h' tk' cells' FG' F' N' Y' B' X' T' D' l1; (try k_lt l1); k_cells Y'; (try simp only [List.cons_append, List.nil_append] at N'); (try dsimp only); (try k_lift B'); (try k_fold))))
-- A4
section
open PySem PySem.W PySem.Calls PyProof.Rows
set_option maxRecDepth 100000
set_option linter.unusedVariables false
section

section
variable {w : World} {s : Shared} {A₀ : Around} {base h₀ : Heap} {outer : List Env} {L a : Addr} {cd code : Value} {nm qn : Str} {gl bi : Addr} {cls : List (Str × Addr)} {fn : Option Addr} {nms : List (Str × NameKind)} {mo : List (Str × Const)} {ig ic : Bool} {m mg mb : Str → Option Value} {news : List (Addr × Obj)} {loose : List Str} {mean : ExcName → Option Value} {d u : Nat} {gs : Option (List Code)} {Q : Value → Shared → Prop} {E : Value → Shared → Prop}

variable {sa da ia ra : Addr} {k1 k2 k3 k4 tp tq : Tok} {rn np nf : Value} {vs : List Value} {ep : Nat} {own : List (Addr × Obj)} {oi : Obj} {G : List NI} {rs : List Str}
set_option maxHeartbeats 8000000 in
theorem find_spec 
 (B : Below A₀ base outer h₀) (F : Fr h₀ L s.heap m) (X₀ : (Mine.hq.hd.heap_39 w.params).In h₀) (XB : (Mine.hq.hd.heap_39 w.params).In base) (N : News h₀ L s.heap ((sa, instObj 146 da) :: (da, sAttrs w.params k1 k2 k3 k4 ia rn np nf) :: (ia, oi) :: own)) (T : Top topProg loose mean mg mb h₀) (TB : Top topProg loose mean mg mb base) (D : KtsDicts (outer.filterMap (·.frame)) h₀) (hd : d < 560) (hu : u < 560)
 (e1 : @LT.lt Nat _ da sa) (e2 : @LT.lt Nat _ sa ia) (g : Graph Challenge.rw_pd0114_01.row.prog w oi own G) (ap : Apart own sa da ia) (hlo : (ia == sysModules) = false)
 (hun : unseen (G.map NI.pure) (fun _ => false) ≤ 2000) (hcl : ∀ j ∈ G, ∀ y ∈ j.succ, ∃ k ∈ G, k.key = y)
 (hN : ∀ h' tk h₀', KtsTurn (outer.filterMap (·.frame)) h₀ h₀' → Fr h₀' L h' m → News h₀' L h' ((sa, instObj 146 da) :: (da, sAttrs w.params k1 k2 k3 k4 ia rn np nf) :: (ia, oi) :: own) → Below A₀ base outer h₀' → (Mine.hq.hd.heap_39 w.params).In h₀' → Top topProg loose mean mg mb h₀' → KtsDicts (outer.filterMap (·.frame)) h₀' → Acy (G.map NI.pure) → Q .none { s with heap := h', toks := tk })
 (hC : ∀ h' tk h₀' c v vs ep, KtsTurn (outer.filterMap (·.frame)) h₀ h₀' → Fr h₀' L h' m → News h₀' L h' ((c, listOf (vs ++ [v]).toArray ep) :: (sa, instObj 146 da) :: (da, sAttrs w.params k1 k2 k3 k4 ia rn np nf) :: (ia, oi) :: own) → vs.length ≤ 5000 → Below A₀ base outer h₀' → (Mine.hq.hd.heap_39 w.params).In h₀' → Top topProg loose mean mg mb h₀' → KtsDicts (outer.filterMap (·.frame)) h₀' → Cyc (G.map NI.pure) → Q (.ref c) { s with heap := h', toks := tk }) :
 wpAny (model Challenge.rw_pd0114_01.row.prog w) ⟨none, d, some ((⟨⟨.function, nms, ig, ic, mo⟩, L, gl, cls, qn, fn, code, some L, bi⟩ : Env) :: outer), gs, u⟩ (call (.ref 136) [.ref sa]) Q E s := by
  revert X₀; k_fill; intro X₀
  refine packB fun er9 => ?_
  w_top off
  w_strict (
   walk_at "enterS"
   k_steps
   refine wpAny_For ?_
   k_steps
   (rename News _ _ _ _ => nN)
   (rename Fr _ _ _ _ => nF)
   (rename Below _ _ (_ :: _) _ => bB)
   (rename KtsDicts _ _ => bD)
   (rename Top _ _ _ _ _ _ => bT)
   (rename Frag.In _ _ => bX)
   (rename_i g1 L1 hh0 fG tk1 hh1 lS hh2 c1 c2 c3 c4 hh3 tk2 lI hh4 c5 c6 c7 c8 c9 hh5 dS hh6 led hsI hsS c10 c11 c12 c13 c14 c15 hh7 dN hh8 oN lo hdS fs hdI fi c16 c17 c18 c19 c20 c21 c22 hh9)
   refine for_dictM (Gd := (Gnd (Mine.hq.hd.heap_39 w.params) topProg loose mean mg mb (fA d u L er9 outer) base ((fE L er9) :: outer) g1)) (fun m₀ i m' n' => (∀ y, y ≠ Str.ofString "node" → m' y = m₀ y) ∧ ∃ S fin, (∀ q ∈ (G.map NI.pure).take i, S q.1 = true) ∧ DfsS Challenge.rw_pd0114_01.row.prog w oi G own dN dS lI lS sa da ia (sAttrs w.params k1 k2 k3 k4 ia rn np nf) [] S fin none [] n') nF nN rfl rfl rfl hlo g.dict ⟨KtsTurn.refl, bB, bX, bT, bD⟩ ?_ ?_ ?_ ?_
   · (intro i m' n' qq1; (try k_fold); refine hide fun hP => ?_; rcases qq1 with ⟨_, S, fin, _, oN', oS', tail', vsS', vsI', nS', nI', n9, kvs', rfl, _⟩ <;> (refine hP ?_; clear hP))
     exact List.mem_append_right _ (.tail _ (.tail _ (.tail _ (.tail _ (.tail _ (.tail _ (.head _)))))))
   · exact ⟨fun _ _ => rfl, fun _ => false, [], fun _ h => (nomatch h), exi9 oN _ own [] [] _ _ 0 [] ⟨rfl, DfsI.start g (allLt_ne c22) (allLt_ne2 c15 (by omega)) (allLt_ne2 c9 (by omega)) (allLt_ne2 c4 (by omega)) ap hsS hdS hun⟩⟩
   · (intro i v k t g₁ m₁ news₁ h tk I it hkv hic hlt qq2 G₁ F₁ N₁ hne; (try k_fold); refine hide fun hP => ?_; rcases qq2 with ⟨hm, S, fin, hfi, oN', oS', tail', vsS', vsI', nS', nI', n9, kvs', rfl, D1⟩ <;> (refine hP ?_; clear hP))
     (refine hide fun hP => ?_; rcases id G₁ with ⟨T₁, B₁, X₁, P₁, D₁⟩ <;> (refine hP ?_; clear hP))
     rw [map_same hm] at F₁
     dsimp only [List.nil_append] at N₁ hne
     have b1 := D1.hset
     have b2 := D1.dict
     have b3 := D1.room
     have b4 : n9 + 1 < 4096 := by omega
     (refine hide fun hP => ?_; rcases key_at hkv with ⟨j, hj, rfl, hji⟩ <;> (refine hP ?_; clear hP))
     clear nN nF bB bX bT bD N F
     k_lt hlt
     have hoI : ∀ p ∈ own, p.1 ≠ I := allLt_ne hlt
     refine packQ fun Q7 hQ7 => ?_
     cases hS : S j.key with
     | true =>
       k_steps
       (rename News _ _ _ _ => kN)
       refine hQ7 _ _ ?_
       refine exi5 g₁ _ _ _ _ ⟨rfl, G₁, by assumption, kN, hne, fun y hy => by simp [upd, hy], S, fin, ?_, exi9 oN' oS' tail' vsS' vsI' nS' nI' n9 kvs' ⟨rfl, D1⟩⟩
       exact seen_more hfi hji hS
     | false =>
       (repeat' ((fail_if_success (with_reducible show wpAny _ _ (exec (Stmt.While _ _ _ _) _) _ _ _)); (walk_at "step9")))
       (rename News _ _ _ _ => nN1)
       (rename Fr _ _ _ _ => nF1)
       refine while_M (k₀ := unseen (G.map NI.pure) S + stW []) (Gd := (Gnd (Mine.hq.hd.heap_39 w.params) topProg loose mean mg mb (fA d u L er9 outer) base ((fE L er9) :: outer) g1)) (fun m₀ k m' n' => ∃ x tx st2 S2 fin2, m' = (fun y => if y = Str.ofString "node" then some (.str x tx) else m₀ y) ∧ (∃ j' ∈ G, j'.key = x) ∧ k = unseen (G.map NI.pure) S2 + stW st2 ∧ (∀ q ∈ (G.map NI.pure).take i, S2 q.1 = true) ∧ (S2 j.key = true ∨ x = j.key) ∧ DfsS Challenge.rw_pd0114_01.row.prog w oi G own dN dS lI lS sa da ia (sAttrs w.params k1 k2 k3 k4 ia rn np nf) st2 S2 fin2 (some x) [(I, it)] n') nF1 nN1 G₁ ?_ ?_
       · exact ⟨j.key, t, [], S, fin, map_again.symm, ⟨j, hj, rfl⟩, rfl, hfi, .inr rfl, exi9 oN' oS' tail' vsS' vsI' nS' nI' n9 kvs' ⟨rfl, { D1 with ok := .nil }⟩⟩
       · clear nN1 nF1 T₁ B₁ X₁ P₁ D₁ G₁ D1 hne b1 b2 b3 b4
         (intro k g₂ m₂ n₂ h₂ tk₂ G₂ F₂ N₂ qq3; (try k_fold); refine hide fun hP => ?_; rcases qq3 with ⟨x, tx, st2, S2, fin2, rfl, ⟨j2, hj2, rfl⟩, rfl, hroots, hroot, oN2, oS2, tail2, vsS2, vsI2, nS2, nI2, n2, kvs2, rfl, D2⟩ <;> (refine hP ?_; clear hP))
         (refine hide fun hP => ?_; rcases id G₂ with ⟨T₂, B₂, X₂, P₂, D₂⟩ <;> (refine hP ?_; clear hP))
         have b1 := D2.hset
         have b2 := D2.dict
         have b3 := D2.room
         have b4 : n2 + 1 < 4096 := by omega
         have b5 := D2.nN
         have b6 := D2.nS
         have b7 := D2.nI
         have b8 := D2.nL
         have b9 := D2.lenS
         have b10 := D2.lenI
         have b11 := D2.lenK
         have b12 := D2.size
         have z1 : vsS2.length ≤ 2000 := by omega
         have z2 : vsI2.length ≤ 2000 := by omega
         have z3 : kvs2.length ≤ 2000 := by omega
         dsimp only [List.cons_append, List.nil_append] at N₂
         refine packW fun W8 hW8 => ?_
         (repeat' ((fail_if_success (with_reducible show wpAny _ _ (exec (Stmt.If _ _ _ _) _) _ _ _)); (walk_at "step9")))
         (rename Fr _ _ _ _ => nFa)
         refine if_mid (Gd := (Gnd (Mine.hq.hd.heap_39 w.params) topProg loose mean mg mb (fA d u L er9 outer) base ((fE L er9) :: outer) g1)) (fun m m' n' => m' = m ∧ ∃ st' S' fin', unseen (G.map NI.pure) S' + stW st' ≤ unseen (G.map NI.pure) S2 + stW st2 ∧ (∀ q ∈ (G.map NI.pure).take i, S' q.1 = true) ∧ S' j.key = true ∧ DfsS Challenge.rw_pd0114_01.row.prog w oi G own dN dS lI lS sa da ia (sAttrs w.params k1 k2 k3 k4 ia rn np nf) st' S' fin' none [(I, it)] n') (fun c n' => ∃ v vs ep, vs.length ≤ 5000 ∧ (c, listOf (vs ++ [v]).toArray ep) ∈ n' ∧ (∀ p ∈ (sa, instObj 146 da) :: (da, sAttrs w.params k1 k2 k3 k4 ia rn np nf) :: (ia, oi) :: own, p ∈ n') ∧ Cyc (G.map NI.pure)) nFa ?_ ?_
         · refine packQ fun Q6 hQ6 => ?_
           cases hS2 : S2 j2.key with
           | true =>
             by_cases hin : j2.key ∈ st2.map (·.1)
             · have hv := D2.inN.mpr hin
               (refine hide fun hP => ?_; rcases Option.isSome_iff_exists.mp hv with ⟨vv, hvv⟩ <;> (refine hP ?_; clear hP))
               (refine hide fun hP => ?_; rcases D2.hint _ (valueAt_mem hvv) with ⟨ii, ti, rfl, hii⟩ <;> (refine hP ?_; clear hP))
               k_steps
               (rename News _ _ _ _ => kN)
               refine hQ6 _ _ ?_
               exact exi5 g₂ _ _ _ _ ⟨rfl, G₂, by assumption, kN, .inr ⟨_, rfl, _, vsS2.drop ii, _, by rw [List.length_drop]; omega, .head _, fun p hp => cyc_mem D2.keep (.tail _ hp), D2.cyc hin⟩⟩
             · have hv := valueAt_none (x := j2.key) (kvs := kvs2) (by rw [D2.keys, List.mem_reverse]; exact hin)
               k_steps
               (rename News _ _ _ _ => kN)
               refine hQ6 _ _ ?_
               exact exi5 g₂ _ _ _ _ ⟨rfl, G₂, by assumption, kN, .inl ⟨rfl, rfl, st2, S2, fin2, Nat.le_refl _, hroots, hroot.elim id (fun e => e ▸ hS2), exi9 oN2 oS2 tail2 vsS2 vsI2 nS2 nI2 n2 kvs2 ⟨rfl, D2.back hS2 hin⟩⟩⟩
           | false =>
             (refine hide fun hP => ?_; rcases D2.graph.infos j2 hj2 with ⟨tj, tnj, vsj, epj, m1, m2, m3, hSj⟩ <;> (refine hP ?_; clear hP))
             have hd2 := D2.graph.dict
             have hv2 := D2.graph.value hj2
             k_steps
             (rename News _ _ _ _ => kN)
             (rename_i tk3 h5 oS3 hsS3 tk2 I3 h4 d1 d2 d3 d4 d5 d6 d7 d8 l3 W3 hh3 tk4 u1 u2 u3 u4 u5 u6 u7 u8 u9 l4 hh2 tk1 hh1 oN3 hdN3 tk0 hh0 fF)
             have hun2 := unseen_push (List.mem_map.mpr ⟨j2, hj2, rfl⟩ : (j2.key, j2.n, j2.succ) ∈ G.map NI.pure) hS2
             refine hQ6 _ _ ?_
             exact exi5 g₂ _ _ _ _ ⟨rfl, G₂, by assumption, rot2 kN, .inl ⟨rfl, rfl, (j2.key, j2.succ) :: st2, fun y => S2 y || decide (y = j2.key), fin2, by rw [stW_cons]; omega, fun q hq => by simp [hroots q hq], hroot.elim (fun h => by simp [h]) (fun e => by simp [e]), exi9 oN3 oS3 _ _ _ _ _ (n2 + 1) _ ⟨rfl, D2.push hj2 hS2 hsS3 hdN3 z1 (allLt_mem l3) (by assumption) (by assumption) (by assumption) (by assumption) (by assumption) (by assumption) (by assumption) (by assumption)⟩⟩⟩
         · clear nFa T₂ B₂ X₂ P₂ D₂ G₂
           (intro f s9 qq4; (try k_fold); refine hide fun hP => ?_; rcases qq4 with ⟨g₃, h₃, tk₃, m₃, n₃, rfl, G₃, F₃, N₃, (⟨rfl, rfl, st', S', fin', hle, hroots', hroot', hD⟩ | ⟨c, rfl, v, vs, ep, hl, hmem, hall, hcyc⟩)⟩ <;> (refine hP ?_; clear hP))
           · (refine hide fun hP => ?_; rcases id G₃ with ⟨T₃, B₃, X₃, P₃, D₃⟩ <;> (refine hP ?_; clear hP))
             (repeat' ((fail_if_success (with_reducible show wpAny _ _ (exec (Stmt.While _ _ _ _) _) _ _ _)); (walk_at "step9")))
             (rename News _ _ _ _ => nN2)
             (rename Fr _ _ _ _ => nF2)
             refine while_M (k₀ := unseen (G.map NI.pure) S' + stW st') (Gd := (Gnd (Mine.hq.hd.heap_39 w.params) topProg loose mean mg mb (fA d u L er9 outer) base ((fE L er9) :: outer) g1)) (fun m₀ k m' n' => ∃ x tx st' S' fin', m' = (fun y => if y = Str.ofString "node" then some (.str x tx) else m₀ y) ∧ k = unseen (G.map NI.pure) S' + stW st' ∧ k ≤ unseen (G.map NI.pure) S2 + stW st2 ∧ (∀ q ∈ (G.map NI.pure).take i, S' q.1 = true) ∧ S' j.key = true ∧ DfsS Challenge.rw_pd0114_01.row.prog w oi G own dN dS lI lS sa da ia (sAttrs w.params k1 k2 k3 k4 ia rn np nf) st' S' fin' none [(I, it)] n') nF2 nN2 G₃ ?_ ?_
             · exact ⟨j2.key, tx, st', S', fin', map_again.symm, rfl, hle, hroots', hroot', hD⟩
             · clear nN2 nF2 T₃ B₃ X₃ P₃ D₃ G₃ hD D2
               (intro k g₃ m₃ n₃ h₃ tk₃ G₃ F₃ N₃ qq5; (try k_fold); refine hide fun hP => ?_; rcases qq5 with ⟨x3, tx3, st3, S3, fin3, rfl, rfl, hk3, hroots3, hroot3, oN4, oS4, tail3, vsS3, vsI3, nS3, nI3, n3, kvs3, rfl, D3⟩ <;> (refine hP ?_; clear hP))
               (refine hide fun hP => ?_; rcases id G₃ with ⟨T₃, B₃, X₃, P₃, D₃⟩ <;> (refine hP ?_; clear hP))
               dsimp only [List.cons_append, List.nil_append] at N₃
               have y1 := D3.dict
               have y5 := D3.nN
               have y6 := D3.nS
               have y7 := D3.nI
               have y8 := D3.nL
               have y9 := D3.lenS
               have y10 := D3.lenI
               have y11 := D3.lenK
               have y12 := D3.size
               have y13 : kvs3.length ≤ 100000 := by omega
               refine packW fun W5 hW5 => ?_
               cases st3 with
               | nil =>
                 have e : vsS3 = [] := List.length_eq_zero_iff.mp y9
                 subst e
                 k_steps
                 refine hW8 _ _ ?_
                 dsimp only [WPost]
                 k_steps
                 (rename News _ _ _ _ => kN)
                 refine hQ7 _ _ ?_
                 exact exi5 g₃ _ _ _ _ ⟨rfl, G₃, by assumption, off_news kN, ne_seven (show dN ≠ I from Nat.ne_of_lt (by assumption)) (show dS ≠ I from Nat.ne_of_lt (by assumption)) (show lI ≠ I from Nat.ne_of_lt (by assumption)) (show lS ≠ I from Nat.ne_of_lt (by assumption)) (show sa ≠ I from Nat.ne_of_lt (by assumption)) (show da ≠ I from Nat.ne_of_lt (by assumption)) (show ia ≠ I from Nat.ne_of_lt (by assumption)) off_ne, fun y hy => by simp [upd, hy], S3, fin3, seen_more hroots3 hji hroot3, exi9 oN4 oS4 (off tail3 I) _ _ _ _ n3 kvs3 ⟨rfl, D3.offI kN (fun p hp => .tail _ (.tail _ (.tail _ (.tail _ (.tail _ (.tail _ (.tail _ (.tail _ hp)))))))) (.head _) hic hoI⟩⟩
               | cons p st3 =>
                 (refine hide fun hP => ?_; rcases p with ⟨x4, rem⟩ <;> (refine hP ?_; clear hP))
                 (refine hide fun hP => ?_; rcases D3.top with ⟨vsS', tx4, vsI', mw, I4, j4, kx4, rfl, rfl, hj4, hk4, hrem, ma, mb4, md, hi4, hs4⟩ <;> (refine hP ?_; clear hP))
                 (refine hide fun hP => ?_; rcases D3.graph.infos j4 hj4 with ⟨tj4, tnj4, vsj4, epj4, n1, n2', n3', hSj4⟩ <;> (refine hP ?_; clear hP))
                 have z4 : vsS'.length ≤ 10000000 := by simp at y9 y12; omega
                 have z5 : vsI'.length ≤ 10000000 := by simp at y10 y12; omega
                 (repeat' ((fail_if_success (with_reducible show wpAny _ _ (call (Value.ref _) []) _ _ _)); (walk_at "step9")))
                 (rename News _ _ _ _ => nN4)
                 (rename Fr _ _ _ _ => nF4)
                 have hf4 : ∀ p ∈ [(I, it), (dN, oN4), (dS, oS4), (lI, listOf (vsI' ++ [Value.ref mw]).toArray nI3), (lS, listOf (vsS' ++ [Value.str x4 tx4]).toArray nS3), (sa, instObj 146 da), (da, sAttrs w.params k1 k2 k3 k4 ia rn np nf), (ia, oi)], p.1 ≠ I4 := by
                   intro p hp
                   simp only [List.mem_cons, List.not_mem_nil, or_false] at hp
                   rcases hp with rfl | rfl | rfl | rfl | rfl | rfl | rfl | rfl
                   · exact ne_of_cls nN4 (.tail _ (.tail _ (.tail _ (.tail _ (.tail _ (.tail _ (.tail _ (.tail _ mb4)))))))) (.head _) (by rw [hic]; simp [liObj])
                   · exact (y5 _ mb4).symm
                   · exact (y6 _ mb4).symm
                   · exact (y7 _ mb4).symm
                   · exact (y8 _ mb4).symm
                   · exact (D3.ap.sa _ mb4).symm
                   · exact (D3.ap.da _ mb4).symm
                   · exact (D3.ap.ia _ mb4).symm
                 cases rem with
                 | cons r rs =>
                   (refine hide fun hP => ?_; rcases StrsAre.found hSj4 (drop_at hrem) with ⟨tr, hx4⟩ <;> (refine hP ?_; clear hP))
                   (refine hide fun hP => ?_; rcases hcl j4 hj4 r (List.mem_of_getElem? (drop_at hrem)) with ⟨jr, hjr, rfl⟩ <;> (refine hP ?_; clear hP))
                   refine next_led (front := [_, _, _, _, _, _, _, _]) nF4 nN4 ma mb4 n2' hf4 hx4 ?_
                   intro h5 F5 N5
                   dsimp only [List.cons_append, List.nil_append] at N5
                   have D4 := D3.next (front := [_, _, _, _, _, _, _, _]) nN4 hj4 hk4 hrem ma mb4 md hi4
                   clear nF4 nN4
                   k_steps
                   refine hW5 _ _ ?_
                   dsimp only [WPost]
                   k_steps
                   (rename News _ _ _ _ => kN)
                   refine hW8 _ _ ?_
                   exact exi6 g₃ _ _ _ _ (unseen (G.map NI.pure) S3 + stW ((x4, rs) :: st3)) ⟨rfl, G₃, by assumption, kN, by rw [stW_cons] at hk3 ⊢; simp only [List.length_cons] at hk3; omega, jr.key, tr, (x4, rs) :: st3, S3, fin3, by funext y; by_cases h : y = Str.ofString "node" <;> simp [upd, h], ⟨jr, hjr, rfl⟩, rfl, hroots3, .inl hroot3, exi9 oN4 oS4 _ _ _ _ _ n3 kvs3 ⟨rfl, D4⟩⟩
                 | nil =>
                   refine stop_led (front := [_, _, _, _, _, _, _, _]) rfl nF4 nN4 ma mb4 n2' hf4 (drop_out hSj4 hrem) ?_
                   intro h5 h6 e F5 N5 hx5
                   dsimp only [List.cons_append, List.nil_append] at N5
                   refine caught_new (x := Str.ofString "StopIteration") (T' := "StopIteration") hx5 F5 N5 B₃ XB TB D₃ (by k_is) PyProof.Rows.Boot.«StopIteration» (by decide) owsi_raise.isExc stop_notTuple isSubtype_stop ?_
                   intro h7 g4 T4 F4 N4 B4 X4 P4 D4
                   have hv4 : (valueAt kvs3 x4).isSome = true := D3.inN.mpr (by simp)
                   have w5 : ∀ p ∈ off tail3 I4, p.1 ≠ dN := off_sub y5
                   have w6 : ∀ p ∈ off tail3 I4, p.1 ≠ dS := off_sub y6
                   have w7 : ∀ p ∈ off tail3 I4, p.1 ≠ lI := off_sub y7
                   have w8 : ∀ p ∈ off tail3 I4, p.1 ≠ lS := off_sub y8
                   clear F5 N5 nF4 T₃ B₃ X₃ P₃ D₃
                   k_steps
                   (rename News _ _ _ _ => kN)
                   (rename Obj.IsDictOf _ _ (without _ _) => hdw)
                   refine hW5 _ _ ?_
                   exact exi6 g4 _ _ _ _ (unseen (G.map NI.pure) S3 + stW st3) ⟨rfl, G₃.next T4 B4 X4 P4 D4, by assumption, kN, by rw [stW_cons]; simp only [List.length_nil]; omega, x3, tx3, st3, S3, x4 :: fin3, rfl, rfl, by rw [stW_cons] at hk3; omega, hroots3, hroot3, exi9 _ oS4 (off tail3 I4) vsS' vsI' _ _ n3 _ ⟨rfl, D3.pop (front := [_, _, _, _, _, _, _, _]) nN4 hj4 hk4 mb4 md hi4 hs4 hdw⟩⟩
           · (refine hide fun hP => ?_; rcases id G₃ with ⟨T₃, B₃, X₃, P₃, D₃⟩ <;> (refine hP ?_; clear hP))
             k_steps
             refine hW8 _ _ ?_
             dsimp only [WPost]
             k_steps
             refine hQ7 _ _ ?_
             k_steps
             (try dsimp only [FPost])
             k_steps
             (rename News _ _ _ _ => kN)
             exact hC _ _ _ _ _ vs _ (by assumption) (by assumption) (fun p hp => kN p ((List.mem_cons.mp hp).elim (fun e => e ▸ hmem) (fun hp => hall p hp))) hl (by assumption) (by assumption) (by assumption) (by assumption) hcyc
   · (intro g₁ h tk m' news' qq6 G₁ F₁ N₁; (try k_fold); refine hide fun hP => ?_; rcases qq6 with ⟨hm, S, fin, hfi, oN', oS', tail', vsS', vsI', nS', nI', n9, kvs', rfl, D1⟩ <;> (refine hP ?_; clear hP))
     (refine hide fun hP => ?_; rcases G₁ with ⟨T₁, B₁, X₁, P₁, D₁⟩ <;> (refine hP ?_; clear hP))
     clear nN nF bB bX bT bD
     k_steps
     (rename News _ _ _ _ => kN)
     exact hN _ _ _ (by assumption) (by assumption) (fun p hp => kN p (List.mem_append_right _ (after4 D1.keep hp))) (by assumption) (by assumption) (by assumption) (by assumption) ⟨fin, D1.topo, fun p hp => ((D1.seen _).mp (hfi p (by rw [List.take_of_length_le (by simp)]; exact hp))).elim id (fun h => nomatch h)⟩)
end
end

end
-- C7
section
open PySem PySem.W PySem.Calls PyProof.Rows
set_option maxRecDepth 100000
set_option linter.unusedVariables false
section
theorem name_comp {M : Model} {A : Around} {E : Value → Shared → Prop} {s : Shared} {x : Str} {pos : Pos} {v : Value} {Q : Value → Shared → Prop} {scope : Scope} {C : Addr} {env : Env} {m : Str → Option Value} (hk : scope.kind = .function) (hl : (compEnv scope C env).kindOf x = some .local)
    (hn : s.heap.Ns C m) (hv : m x = some v) (h : Q v s) (hd : (x == ("__debug__" : Str)) = false := by decide) : wpAny M A (eval (.Name x pos) (compEnv scope C env)) Q E s := wpAny_Name (wpAny_loadName_local (env := compEnv scope C env) hk hl hn hv h) hd
def isFree (G : List NI) (v : Value) : Bool := G.any fun i => decide (v = .ref i.a) && decide (i.n = 0)
def keyOf (G : List NI) (v y : Value) : Prop := ∃ i ∈ G, v = .ref i.a ∧ ∃ t, y = .str i.key t
section
variable {prog : Program} {w : World} {oi : Obj} {own : List (Addr × Obj)} {G : List NI} {i : NI}
theorem isFree_at (g : Graph prog w oi own G) (hi : i ∈ G) : isFree G (.ref i.a) = decide (i.n = 0) := by
  unfold isFree
  by_cases h : i.n = 0
  · simp only [h, decide_true, List.any_eq_true, Bool.and_eq_true, decide_eq_true_eq]
    exact ⟨i, hi, rfl, h⟩
  · simp only [h, decide_false, List.any_eq_false, Bool.and_eq_true, decide_eq_true_eq, not_and]
    intro j hj e
    have : i = j := g.apA i hi j hj (Value.ref.inj e)
    rw [← this]; exact h
theorem filter_free (g : Graph prog w oi own G) : ∀ {H : List NI}, (∀ i ∈ H, i ∈ G) → (H.map fun i => Value.ref i.a).filter (isFree G) = (H.filter fun i => decide (i.n = 0)).map fun i => Value.ref i.a
  | [], _ => rfl
  | i :: H, hH => by
    have ih := filter_free g (H := H) fun j hj => hH j (.tail _ hj)
    have hi := isFree_at g (hH i (.head _))
    by_cases h : i.n = 0
    · simp only [List.map_cons, List.filter_cons, hi, h, decide_true, if_true, ih]
    · simp only [List.map_cons, List.filter_cons, hi, h, decide_false, Bool.false_eq_true, if_false, ih]
theorem keys_strs (g : Graph prog w oi own G) : ∀ {H : List NI} {ys : List Value}, (∀ i ∈ H, i ∈ G) → Paired (keyOf G) (H.map fun i => Value.ref i.a) ys → StrsAre ys (H.map (·.key))
  | [], _, _, .nil => .nil
  | i :: H, _ :: _, hH, .cons ⟨j, hj, e, t, rfl⟩ hr => by
    have : i = j := g.apA i (hH i (.head _)) j hj (Value.ref.inj e)
    subst this
    exact .cons _ _ (keys_strs g (fun j hj => hH j (.tail _ hj)) hr)
theorem ready_strs (g : Graph prog w oi own G) {vs ys : List Value} (hl : vs.length = (G.map fun i => (i.key, Value.ref i.a)).length) (hP : ∀ (j : Nat) (v : Value), vs[j]? = some v → ∃ k, (G.map fun i => (i.key, Value.ref i.a))[j]? = some (k, v)) (hp : Paired (keyOf G) (vs.filter (isFree G)) ys) :
    StrsAre ys ((G.filter fun i => decide (i.n = 0)).map (·.key)) := by
  have e := kdl_vals_eq vs hl hP
  rw [List.map_map] at e
  have e2 : vs = G.map fun i => Value.ref i.a := e
  rw [e2, filter_free g (fun i h => h)] at hp
  exact keys_strs g (fun i hi => (List.mem_filter.mp hi).1) hp
end
section
variable {h₀ h h' : Heap} {L I : Addr} {m : Str → Option Value} {news : List (Addr × Obj)}
theorem fr_old (F : Fr h₀ L h m) (hI : h.get? I = none) (hk : ∀ b o, b ∉ [I] → h.get? b = some o → h'.get? b = some o) : Fr h₀ L h' m := by
  have hne : ∀ b o, h.get? b = some o → b ∉ [I] := fun b o e hb => by
    rw [List.mem_singleton.mp hb, hI] at e; cases e
  exact ⟨F.ns.at' fun o e => hk _ o (hne _ _ e) e, fun b o e => hk b o (hne _ _ (F.keep b o e)) (F.keep b o e), F.above⟩
theorem news_old (N : News h₀ L h news) (hI : h.get? I = none) (hk : ∀ b o, b ∉ [I] → h.get? b = some o → h'.get? b = some o) : News h₀ L h' news := fun p hp => by
  have := N p hp
  exact ⟨hk _ _ (fun hb => by rw [List.mem_singleton.mp hb, hI] at this; exact nomatch this.1) this.1, this.2⟩
theorem get_new_none (h : Heap) : h.get? h.objs.size = none := Heap.get?_none_of_le (Nat.le_refl _)
end
end
section
theorem val_at {G : List NI} {i : Nat} {k : Str} {v : Value} (h : (G.map fun i => (i.key, Value.ref i.a))[i]? = some (k, v)) : ∃ j ∈ G, v = .ref j.a := by
  rw [List.getElem?_map] at h
  obtain ⟨j, hj, e⟩ := Option.map_eq_some_iff.mp h
  exact ⟨j, List.mem_of_getElem? hj, (congrArg Prod.snd e).symm⟩
theorem keeps_tok {s : Shared} {tk : Nat} : Keeps s { s with toks := tk } := ⟨_, _, rfl, fun _ _ e => e⟩
end
section
theorem news_made {h₀ h h' : Heap} {L D : Addr} {m : Str → Option Value} {news news0 : List (Addr × Obj)} {ys : Array Value} {nD : Nat} {o : Obj} (N' : News h₀ L h' news) (hD : h'.get? D = some { cls := .type "list", data := .seq ys nD }) (hDn : (h.push o).get? D = none) (F : Fr h₀ L h m) (N : News h₀ L h news0) :
    News h₀ L h' ((D, listOf ys.toList.toArray nD) :: news) ∧ ∀ p ∈ news0, p.1 ≠ D := by
  have ne : ∀ b ob, h.get? b = some ob → b ≠ D := fun b ob e q => by
    have := Heap.get?_push_of_some o e
    rw [q, hDn] at this; cases this
  refine ⟨fun p hp => ?_, fun p hp => ne _ _ (N p hp).1⟩
  rcases List.mem_cons.mp hp with rfl | hp
  · obtain ⟨oL, es, ep, hL, _⟩ := F.ns
    refine ⟨hD, (ne _ _ hL).symm, ?_⟩
    cases q : h₀.get? D with
    | none => rfl
    | some ob => exact absurd rfl (ne _ _ (F.keep _ _ q))
  · exact N' p hp
end
section
theorem rotF2 {h₀ h : Heap} {L : Addr} {a b s1 s2 s3 : Addr × Obj} {own : List (Addr × Obj)} (N : News h₀ L h (a :: b :: s1 :: s2 :: s3 :: own)) : News h₀ L h (s1 :: s2 :: s3 :: a :: b :: own) :=
  fun p hp => N p (by
    simp only [List.mem_cons] at hp ⊢
    rcases hp with h | h | h | h | h | h <;> simp [h])
theorem unrotF2 {h₀ h : Heap} {L : Addr} {a b s1 s2 s3 : Addr × Obj} {own : List (Addr × Obj)} (N : News h₀ L h (s1 :: s2 :: s3 :: a :: b :: own)) : News h₀ L h (s1 :: s2 :: s3 :: a :: own) :=
  fun p hp => N p (by
    simp only [List.mem_cons] at hp ⊢
    rcases hp with h | h | h | h | h <;> simp [h])
end
section
/-- a callee's ground turned: the caller's ground turns with it -/
theorem turn_down {A₀ : Around} {base h₀ g g8 : Heap} {outer : List Env} {L a : Addr} {m : Str → Option Value} {name : Str} {scope : Scope} {cd : Value} (B : Below A₀ base outer h₀) (F : Fr h₀ L g m) (T : KtsTurn ((envOf name scope L a cd :: outer).filterMap (·.frame)) g g8) :
    ∃ h₀', KtsTurn (outer.filterMap (·.frame)) h₀ h₀' ∧ Fr h₀' L g8 m ∧ Below A₀ base outer h₀' := by
  have nL₀ : h₀.get? L = none := kts_self F
  obtain ⟨T₁, S₁⟩ := kts_turn_at (h := g8) (fs := outer.filterMap (·.frame)) (g := h₀)
    (fun b hb => by
      obtain ⟨_, o, ho', _⟩ := B.frames.mem hb
      exact ⟨o, ho'⟩)
    (fun b o e nmem => T.other b o (F.keep b o e) (fun q => by
      rcases kts_mem q with z | z
      · rw [z, nL₀] at e
        cases e
      · exact nmem z))
    (fun b o e hm => T.up (F.keep b o e))
  refine ⟨_, T₁, ⟨?_, S₁, by rw [T₁.size]; exact F.above⟩, ⟨B.stack, fun b o e => T₁.other b o (B.stays b o e) (fun hm => by
    rw [(B.frames.mem hm).1] at e
    cases e), B.frames.of_keeps fun b o e _ => by
    obtain ⟨sl', hs'⟩ := T₁.up e
    exact ⟨_, hs', rfl⟩⟩⟩
  obtain ⟨o, es, ep, ho, hd, r⟩ := F.ns
  obtain ⟨sl, hs⟩ := T.up ho
  exact ⟨_, es, ep, hs, hd, r⟩
end
section
theorem raisedS_sub {base G h : Heap} {l : List Env} {e t : Addr} {cls : Value} {vs : List Value} {news news' : List (Addr × Obj)} (R : RaisedS base G l e cls t vs news h) (hs : ∀ p ∈ news', p ∈ news) : RaisedS base G l e cls t vs news' h := by
  obtain ⟨⟨B, a, b, hl, r⟩, ht⟩ := R
  exact ⟨⟨B, a, b, fun q hq => hl q (hs q hq), r⟩, ht⟩
theorem mem_c7 {c d s1 s2 s3 f p : Addr × Obj} {own : List (Addr × Obj)} (hp : p ∈ s1 :: s2 :: s3 :: f :: own) : p ∈ c :: s1 :: s2 :: s3 :: f :: d :: own := by
  simp only [List.mem_cons] at hp ⊢
  rcases hp with h | h | h | h | h <;> simp [h]
end

end
-- A5
section
open PySem PySem.W PySem.Calls PyProof.Rows
set_option maxRecDepth 100000
set_option linter.unusedVariables false
section

section
variable {w : World} {s : Shared} {A₀ : Around} {base h₀ : Heap} {outer : List Env} {L a : Addr} {cd code : Value} {nm qn : Str} {gl bi : Addr} {cls : List (Str × Addr)} {fn : Option Addr} {nms : List (Str × NameKind)} {mo : List (Str × Const)} {ig ic : Bool} {m mg mb : Str → Option Value} {news : List (Addr × Obj)} {loose : List Str} {mean : ExcName → Option Value} {d u : Nat} {gs : Option (List Code)} {Q : Value → Shared → Prop} {E : Value → Shared → Prop}

variable {sa da ia ra : Addr} {k1 k2 k3 k4 tp tq : Tok} {np nf : Value} {vs : List Value} {ep : Nat} {own : List (Addr × Obj)} {oi : Obj} {G : List NI} {rs : List Str}
set_option maxHeartbeats 4000000 in
theorem prepare_spec 
 (B : Below A₀ base outer h₀) (F : Fr h₀ L s.heap m) (X₀ : (Mine.hq.hd.heap_39 w.params).In h₀) (XB : (Mine.hq.hd.heap_39 w.params).In base) (N : News h₀ L s.heap ((sa, instObj 146 da) :: (da, sAttrs w.params k1 k2 k3 k4 ia .none np nf) :: (ia, oi) :: own)) (T : Top topProg loose mean mg mb h₀) (TB : Top topProg loose mean mg mb base) (D : KtsDicts (outer.filterMap (·.frame)) h₀) (hd : d < 540) (hu : u < 540)
 (e1 : @LT.lt Nat _ da sa) (e2 : @LT.lt Nat _ sa ia) (g : Graph Challenge.rw_pd0114_01.row.prog w oi own G) (ap : Apart own sa da ia) (hlo : (ia == sysModules) = false) (hG : G.length ≤ 100)
 (hun : unseen (G.map NI.pure) (fun _ => false) ≤ 2000) (hcl : ∀ j ∈ G, ∀ y ∈ j.succ, ∃ k ∈ G, k.key = y)
 (hN : ∀ h' tk h₀' ra vs ep, KtsTurn (outer.filterMap (·.frame)) h₀ h₀' → Fr h₀' L h' m → News h₀' L h' ((sa, instObj 146 da) :: (da, sAttrs w.params k1 k2 k3 k4 ia (.ref ra) np nf) :: (ia, oi) :: (ra, listOf vs.toArray ep) :: own) → Below A₀ base outer h₀' → (Mine.hq.hd.heap_39 w.params).In h₀' → Top topProg loose mean mg mb h₀' → KtsDicts (outer.filterMap (·.frame)) h₀' → @Ne Nat sa ra → @Ne Nat da ra → @Ne Nat ia ra → (∀ p ∈ own, p.1 ≠ ra) → StrsAre vs ((G.filter fun i => decide (i.n = 0)).map (·.key)) → Acy (G.map NI.pure) → Q .none { s with heap := h', toks := tk })
 (hC : ∀ h' tk e t ws h₀' G8 ra vs ep, KtsTurn (outer.filterMap (·.frame)) h₀ h₀' → Fr h₀' L G8 m → Below A₀ base outer h₀' → RaisedS base G8 ((⟨⟨.function, nms, ig, ic, mo⟩, L, gl, cls, qn, fn, code, some L, bi⟩ : Env) :: outer) e (.ref 64) t ws ((sa, instObj 146 da) :: (da, sAttrs w.params k1 k2 k3 k4 ia (.ref ra) np nf) :: (ia, oi) :: (ra, listOf vs.toArray ep) :: own) h' → G8.UpToSlots h' → @Ne Nat sa ra → @Ne Nat da ra → @Ne Nat ia ra → (∀ p ∈ own, p.1 ≠ ra) → StrsAre vs ((G.filter fun i => decide (i.n = 0)).map (·.key)) → Cyc (G.map NI.pure) → E (.ref e) { s with heap := h', toks := tk })
 :
 wpAny (model Challenge.rw_pd0114_01.row.prog w) ⟨none, d, some ((⟨⟨.function, nms, ig, ic, mo⟩, L, gl, cls, qn, fn, code, some L, bi⟩ : Env) :: outer), gs, u⟩ (call (.ref 101) [.ref sa]) Q E s := by
  revert X₀; k_fill; intro X₀
  refine packB fun er9 => ?_
  have hd2 := g.dict
  w_top off
  w_strict (
   walk_at "enterS"
   k_steps
   (rename News _ _ _ _ => nN)
   (rename Fr _ _ _ _ => nF)
   (refine hide fun hP => ?_; rcases id hd2 with ⟨es, ep', hex, hdat, hkeys, hpairs, hnod⟩ <;> (refine hP ?_; clear hP))
   have hat : ∀ h : Heap, h.get? ia = some oi → h.DictAt (PySem.strKind Challenge.rw_pd0114_01.row.prog w) ia (G.map fun i => (i.key, Value.ref i.a)) ep' := fun h e => ⟨oi, es, e, hex, hdat, hkeys, hpairs, hnod⟩
   have hia := (nN _ (.tail _ (.tail _ (.tail _ (.head _))))).1
   refine wpAny_pyIter_values ⟨_, (nN _ (.head _)).1, rfl, rfl⟩ (hat _ hia) ?_
   refine ⟨isFree G, keyOf G, exi6 _ _ _ _ _ _ ⟨rfl, Walks.dictValues (knd := PySem.strKind Challenge.rw_pd0114_01.row.prog w) rfl _ ia (Nat.ne_of_lt (Heap.lt_size hia)) _ ep', ?sz, ⟨⟨_, Heap.get?_push_size _ rfl, rfl, rfl⟩, hat _ (Heap.get?_push_of_some _ hia)⟩, ?fp, ⟨?te, ?el⟩, ?fin⟩⟩
   case sz => rw [sizeLine_eq]; simp; omega
   case fp =>
     intro b hb
     rw [Heap.size_push]
     simp only [List.mem_cons, List.not_mem_nil, or_false] at hb
     rcases hb with rfl | rfl
     · exact Nat.lt_succ_self _
     · exact Nat.lt_succ_of_lt (Heap.lt_size hia)
   case te =>
     intro C i v s₃ m₃ E' ⟨k, hkv⟩ hns hm hk htk
     (refine hide fun hP => ?_; rcases val_at hkv with ⟨j, hj, rfl⟩ <;> (refine hP ?_; clear hP))
     (refine hide fun hP => ?_; rcases g.infos j hj with ⟨tj, tnj, vsj, epj, m1, m2, m3, hSj⟩ <;> (refine hP ?_; clear hP))
     have F3 := fr_old nF (get_new_none _) (fun b o hb e => hk b o hb (Heap.get?_push_of_some _ e))
     have N3 := news_old nN (get_new_none _) (fun b o hb e => hk b o hb (Heap.get?_push_of_some _ e))
     clear nF nN
     k_steps
     · rw [isFree_at g hj]; by_cases h0 : j.n = 0 <;> simp [h0]
     · exact exi2 _ _ ⟨rfl, fun _ _ e => e⟩
   case el =>
     intro C i v s₃ m₃ E' ⟨k, hkv⟩ hp hns hm hk htk
     (refine hide fun hP => ?_; rcases val_at hkv with ⟨j, hj, rfl⟩ <;> (refine hP ?_; clear hP))
     (refine hide fun hP => ?_; rcases g.infos j hj with ⟨tj, tnj, vsj, epj, m1, m2, m3, hSj⟩ <;> (refine hP ?_; clear hP))
     have F3 := fr_old nF (get_new_none _) (fun b o hb e => hk b o hb (Heap.get?_push_of_some _ e))
     have N3 := news_old nN (get_new_none _) (fun b o hb e => hk b o hb (Heap.get?_push_of_some _ e))
     clear nF nN
     k_steps
     · exact ⟨j, hj, rfl, tj, rfl⟩
     · exact exi2 _ _ ⟨rfl, fun _ _ e => e⟩
   case fin =>
     intro D' h' tk ys vs hDn hl hpl hlen hP hpair hk
     have F3 := fr_old nF (get_new_none _) (fun b o hb e => hk b o hb (Heap.get?_push_of_some _ e))
     have N3 := news_old nN (get_new_none _) (fun b o hb e => hk b o hb (Heap.get?_push_of_some _ e))
     have hS := ready_strs g hlen hP hpair
     (refine hide fun hP => ?_; rcases hpl with ⟨nD, hD⟩ <;> (refine hP ?_; clear hP))
     (refine hide fun hP => ?_; rcases news_made N3 hD hDn nF nN with ⟨N4, hne4⟩ <;> (refine hP ?_; clear hP))
     have r0 := neN (hne4 _ (.head _))
     have r1 := neN (hne4 _ (.tail _ (.head _)))
     have r2 := neN (hne4 _ (.tail _ (.tail _ (.head _))))
     have r3 := neN (hne4 _ (.tail _ (.tail _ (.tail _ (.head _)))))
     have r4 : ∀ p ∈ own, p.1 ≠ D' := fun p hp => hne4 p (.tail _ (.tail _ (.tail _ (.tail _ hp))))
     have o1 := ap.sa
     have o2 := ap.da
     have o3 := ap.ia
     dsimp only at r0 r1 r2 r3
     clear nF nN N3 hne4
     (repeat' ((fail_if_success (with_reducible show wpAny _ _ (call (Value.ref 136) _) _ _ _)); (walk_at "step9")))
     dsimp only [List.cons_append, List.nil_append, List.append_nil]
     (rename News _ _ _ _ => nN5)
     (rename Fr _ _ _ _ => nF5)
     refine find_spec (own := _ :: _ :: own) (by assumption) nF5 (by assumption) XB (rotF2 nN5) (by assumption) TB (by assumption) (by k_room) (by k_room) e1 e2 (g.mono fun p hp => .tail _ (.tail _ hp)) ((ap.cons ?a1 ?a2 ?a3).cons ?a4 ?a5 ?a6) hlo hun hcl ?_ ?_
     case a1 => exact Nat.ne_of_gt (by assumption)
     case a2 => exact Nat.ne_of_gt (by assumption)
     case a3 => exact Nat.ne_of_gt (by assumption)
     case a4 => exact Ne.symm r1
     case a5 => exact Ne.symm r2
     case a6 => exact Ne.symm r3
     · intro h8 tk8 g8 T8 F8 N8 B8 X8 P8 D8 hA
       clear nN5 nF5
       replace N8 := unrotF2 N8
       k_steps
       (rename News _ _ _ _ => kN)
       exact hN _ _ _ D' ys.toList nD (by assumption) (by assumption) kN (by assumption) (by assumption) (by assumption) (by assumption) r1 r2 r3 r4 hS hA
     · intro h8 tk8 g8 c8 v8 vs8 ep8 T8 F8 N8 hl8 B8 X8 P8 D8 hA
       clear nN5 nF5
       (rename Fr _ _ _ m => fGk)
       (refine hide fun hP => ?_; rcases turn_downX (env := (fE L er9)) rfl B fGk T8 with ⟨h9, T9, F9, B9⟩ <;> (refine hP ?_; clear hP))
       k_steps
       (rename RaisedS _ _ _ _ _ _ _ _ _ => rS)
       exact hC _ _ _ _ _ h9 g8 D' ys.toList nD T9 F9 B9 (raisedS_sub rS fun p hp => mem_c7 hp) (by assumption) r1 r2 r3 r4 hS hA
   )
end
end

end
-- C9
section
open PySem PySem.W PySem.Calls PyProof.Rows
set_option maxRecDepth 100000
set_option linter.unusedVariables false
section
inductive LinksIn (tail : List (Addr × Obj)) : List Value → List (Str × List Str) → Prop
  | nil : LinksIn tail [] []
  | cons {a tp pl ws ep p ps vs ls} : (a, ({ cls := .type "tuple", data := .seq #[.str p tp, .ref pl] } : Obj)) ∈ tail → (pl, listOf ws.toArray ep) ∈ tail → StrsAre ws ps → LinksIn tail vs ls → LinksIn tail (.ref a :: vs) ((p, ps) :: ls)
theorem LinksIn.at {tail : List (Addr × Obj)} : ∀ {vs : List Value} {ls : List (Str × List Str)}, LinksIn tail vs ls → ∀ {i : Nat} {v : Value}, vs[i]? = some v → ∃ a tp pl ws ep p ps, v = .ref a ∧ ls[i]? = some (p, ps) ∧ (a, ({ cls := .type "tuple", data := .seq #[.str p tp, .ref pl] } : Obj)) ∈ tail ∧ (pl, listOf ws.toArray ep) ∈ tail ∧ StrsAre ws ps
  | _, _, .nil, i, v, h => by simp at h
  | _, _, .cons h1 h2 h3 h4, 0, v, h => by simp at h; exact ⟨_, _, _, _, _, _, _, h.symm, rfl, h1, h2, h3⟩
  | _, _, .cons h1 h2 h3 h4, i + 1, v, h => by simp at h; simpa using LinksIn.at h4 h
theorem LinksIn.mono {tail tail' : List (Addr × Obj)} (hs : ∀ p ∈ tail, p ∈ tail') : ∀ {vs : List Value} {ls : List (Str × List Str)}, LinksIn tail vs ls → LinksIn tail' vs ls
  | _, _, .nil => .nil
  | _, _, .cons h1 h2 h3 h4 => .cons (hs _ h1) (hs _ h2) h3 (h4.mono hs)
theorem LinksIn.len {tail : List (Addr × Obj)} : ∀ {vs : List Value} {ls : List (Str × List Str)}, LinksIn tail vs ls → vs.length = ls.length
  | _, _, .nil => rfl
  | _, _, .cons _ _ _ h4 => by simp [h4.len]
end
section
def NormOk (x : Str) : Prop := x.length ≤ 5000 ∧ (x.length : Int) ≠ 0 ∧ (Txt.slice x none (some 1) != Str.ofString "/") = false ∧ (Txt.slice x (some 1) (some 2) != Str.ofString "/") = true ∧
  (Txt.split (Txt.slice x (some 1) none) (Str.ofString "/")).length ≤ 1000 ∧ (((Txt.split (Txt.slice x (some 1) none) (Str.ofString "/")).foldl normStep []).map (·.length)).sum + ((Txt.split (Txt.slice x (some 1) none) (Str.ofString "/")).foldl normStep []).length ≤ 1048576 ∧
  (Txt.join (Str.ofString "/") ((Txt.split (Txt.slice x (some 1) none) (Str.ofString "/")).foldl normStep [])).length ≤ 5000
def normDec (x : Str) : Decidable (NormOk x) := by unfold NormOk; infer_instance
def leadStep (x q : Str) : Str := normF (joinF x q)
def leadF (p : Str) (ps : List Str) : Str := ps.foldl leadStep (dirF p)
def StepsOk : Str → List Str → Prop
  | _, [] => True
  | x, q :: qs => x.length ≤ 1000 ∧ q.length ≤ 1000 ∧ NormOk (joinF x q) ∧ StepsOk (leadStep x q) qs
theorem StepsOk.at : ∀ {ps : List Str} {x : Str}, StepsOk x ps → ∀ {i : Nat} {q : Str}, ps[i]? = some q → ((ps.take i).foldl leadStep x).length ≤ 1000 ∧ q.length ≤ 1000 ∧ NormOk (joinF ((ps.take i).foldl leadStep x) q)
  | [], _, _, _, _, h => by simp at h
  | q :: qs, x, h, 0, _, e => by simp at e; subst e; exact ⟨h.1, h.2.1, h.2.2.1⟩
  | q :: qs, x, h, i + 1, _, e => by simp at e; simpa using StepsOk.at h.2.2.2 e
section
variable {M : Model} {A : Around} {E : Value → Shared → Prop} {s : Shared} {h₀ : Heap} {L : Addr} {m mg mb : Str → Option Value} {p : Program} {loose : List Str} {mean : ExcName → Option Value} {name qual : Str} {params : Arguments} {body : Expr} {scope : Scope} {clos cl : List (Str × Addr)} {cn : Str} {cs : Scope} {a c P : Addr} {ccd : Value} {pos : Pos} {firstLine : Nat} {front own : List (Addr × Obj)} {ps : Array Value}
/-- the table of a def's own codes: bare, or with the one code of its lambda -/
def TabIs (pos : Pos) (qual : Str) (ps : Array Value) (own : List (Addr × Obj)) : Prop :=
  ps = #[] ∨ ∃ c' oc vs t, ps = #[rawInt pos.line, rawInt pos.col, .ref c'] ∧ (c', oc) ∈ own ∧ oc.data = .fields vs ∧ vs[1]? = some (.str qual t)
theorem lam_eval {Q : Value → Shared → Prop} (F : Fr h₀ L s.heap m) (N : News h₀ L s.heap ((P, tabObj ps) :: (front ++ own))) (T : Top p loose mean mg mb h₀) (C : CodeHd h₀ c P) (hcd : ccd = .ref c) (hP1 : ∀ p ∈ front, p.1 ≠ P) (hP2 : ∀ p ∈ own, p.1 ≠ P) (ht : TabIs pos qual ps own)
    (hcl : closureFor scope (envX cn cs L a ccd cl) = pure clos)
    (h : ∀ f c' oc vs t ctv h' tk own', Fr h₀ L h' m → News h₀ L h' ((f, kla_obj name qual params body scope clos ((mg "__name__").getD .none) c' ctv) :: (P, tabObj #[rawInt pos.line, rawInt pos.col, .ref c']) :: (front ++ own')) → (c', oc) ∈ own' → oc.data = .fields vs → vs[1]? = some (.str qual t) →
      (∀ q ∈ own, q ∈ own') → (∀ q ∈ own', q ∈ own ∨ (q.1 = c' ∧ (∀ r ∈ (P, tabObj ps) :: (front ++ own), r.1 < c') ∧ q.2.data = .fields vs)) → (∀ q ∈ (P, tabObj ps) :: (front ++ own), q.1 < f) → (∀ q ∈ own', q.1 < f) → Q (.ref f) { s with heap := h', toks := tk }) :
    wpAny M A (makeFunction name qual params (.expr body) scope (envX cn cs L a ccd cl) [] [] [] pos firstLine) Q E s := by
  rcases ht with rfl | ⟨c', oc, vs, t, rfl, hm, hd, hv⟩
  · have U : UpdF P (tabObj #[]) ((P, tabObj #[]) :: (front ++ own)) (fun o => (P, o) :: (front ++ own)) := UpdF.head fun q hq => by
      rcases List.mem_append.mp hq with hq | hq
      · exact hP1 q hq
      · exact hP2 q hq
    refine kla_nest F N T C hcd U trivial rfl hcl fun f c' oc vs t ctv h' tk F' N' hd hv l1 l2 => ?_
    refine h f c' oc vs t ctv h' tk ((c', oc) :: own) F' (fun q hq => N' q ?_) (.head _) hd hv (fun q hq => .tail _ hq) (fun q hq => ?_) (fun q hq => Nat.lt_trans (l1 q hq) l2) (fun q hq => ?_)
    · simp only [List.mem_cons, List.mem_append] at hq ⊢
      rcases hq with h | h | h | h | h
      · exact .inl h
      · exact .inr (.inr (.inl h))
      · exact .inr (.inr (.inr (.inl h)))
      · exact .inr (.inl h)
      · exact .inr (.inr (.inr (.inr h)))
    · rcases List.mem_cons.mp hq with rfl | hq
      · exact .inr ⟨rfl, l1, hd⟩
      · exact .inl hq
    · rcases List.mem_cons.mp hq with rfl | hq
      · exact l2
      · exact Nat.lt_trans (l1 q (.tail _ (List.mem_append_right _ hq))) l2
  · refine kla_hit (c' := c') F N T C hcd (.head _) (by simp [TriplesOk, rawInt]) (by simp [codeAmong, rawInt]) hcl fun f ctv h' tk F' N' l1 => ?_
    exact h f c' oc vs t ctv h' tk own F' N' hm hd hv (fun _ h => h) (fun q hq => .inl hq) l1 (fun q hq => l1 q (.tail _ (List.mem_append_right _ hq)))
end
end
section
section
variable {prog : Program} {w : World} {A : Around} {s : Shared} {env : Env} {h₀ : Heap} {L : Addr}
theorem for_listT {R : Result → Shared → Prop} {E : Value → Shared → Prop} {target : Expr} {body orelse : List Stmt} {l : Addr} {vs : List Value} {m : Str → Option Value} {news : List (Addr × Obj)}
    (J : (Str → Option Value) → Nat → (Str → Option Value) → List (Addr × Obj) → Prop) (F : Fr h₀ L s.heap m) (N : News h₀ L s.heap news) (hh : A.handled = none)
    (hsrc : ∀ i m' news' h, J m i m' news' → Fr h₀ L h m' → News h₀ L h news' → h.IsList l vs.toArray) (h0 : J m 0 m news)
    (turn : ∀ i v m₁ news₁ h tk I it, vs[i]? = some v → it.cls = Value.type "list_iterator" → (∀ p ∈ news, p.1 < I) → J m i m₁ news₁ → Fr h₀ L h m₁ → News h₀ L h ((I, it) :: news₁) → (∀ p ∈ news₁, p.1 ≠ I) →
      wpAny (model prog w) A (assign target env v) (fun _ s₂ => wpAny (model prog w) A (execs body env) (TPost h₀ L I it (J m (i + 1)) s fun f s₃ => R (.ok f) s₃) (fun _ _ => False) s₂) (fun _ _ => False) { s with heap := h, toks := tk })
    (done : ∀ h tk m' news', J m vs.length m' news' → Fr h₀ L h m' → News h₀ L h news' → wpAny (model prog w) A (execs orelse env) (fun f s₃ => R (.ok f) s₃) (fun _ _ => False) { s with heap := h, toks := tk }) :
    wpAny (model prog w) A (pyIter (.ref l)) (fun it s₂ => codeAny (model prog w) A (.forLoop target it body orelse env) R s₂) E s := for_list hh (J m) hsrc F N h0 turn done
end
/-- the leads dict -/
def LeadsAre : List (Str × Value) → List (Str × List Str) → Prop
  | [], [] => True
  | (k, v) :: kvs, (p, ps) :: ls => k = p ∧ (∃ t, v = .str (leadF p ps) t) ∧ LeadsAre kvs ls
  | _, _ => False
theorem LeadsAre.keys : ∀ {kvs : List (Str × Value)} {ls : List (Str × List Str)}, LeadsAre kvs ls → kvs.map (·.1) = ls.map (·.1)
  | [], [], _ => rfl
  | (k, v) :: kvs, (p, ps) :: ls, h => by simp [h.1, LeadsAre.keys h.2.2]
theorem LeadsAre.snoc : ∀ {kvs : List (Str × Value)} {ls : List (Str × List Str)}, LeadsAre kvs ls → ∀ (p : Str) (ps : List Str) (t : Tok), LeadsAre (kvs ++ [(p, .str (leadF p ps) t)]) (ls ++ [(p, ps)])
  | [], [], _, p, ps, t => ⟨rfl, ⟨t, rfl⟩, trivial⟩
  | (k, v) :: kvs, (p, ps) :: ls, h, q, qs, t => ⟨h.1, h.2.1, LeadsAre.snoc h.2.2 q qs t⟩
def addL (g : List PN) (l : Str × List Str) : List PN := addP g l.1 (leadF l.1 l.2)
end
section
theorem norm7 {h₀ h : Heap} {L : Addr} {fl fi fs fd f2 : Addr × Obj} {fc fk : Addr × Obj} {tail : List (Addr × Obj)} (N : News h₀ L h (fl :: fi :: fs :: fd :: fc :: fk :: f2 :: tail)) : News h₀ L h (f2 :: fl :: fs :: fd :: fi :: fc :: fk :: tail) :=
  fun p hp => N p (by
    simp only [List.mem_cons] at hp ⊢
    rcases hp with h | h | h | h | h | h | h | h <;> simp [h])
/-- what the loop over the links has built -/
structure ToldI (prog : Program) (w : World) (own0 : List (Addr × Obj)) (pos : Pos) (qual : Str) (ld sa da ia : Addr) (links : List (Str × List Str)) (oL oi : Obj) (own : List (Addr × Obj)) (G : List NI) (kvs : List (Str × Value)) (ps : Array Value) : Prop where
  graph : Graph prog w oi own G
  pure : G.map NI.pure = links.foldl addL []
  ap : Apart own sa da ia
  nld : ∀ p ∈ own, p.1 ≠ ld
  ntab : ∀ p ∈ own, p.1 ≠ 274
  keep : ∀ p ∈ own0, p ∈ own
  kept : ∀ p ∈ own0, ∀ i ∈ G, p.1 ≠ i.a ∧ p.1 ≠ i.l
  dict : oL.IsDictOf (PySem.strKind prog w) kvs
  leads : LeadsAre kvs links
  tab : TabIs pos qual ps own
end
section
theorem swap01 {h₀ h : Heap} {L : Addr} {a b : Addr × Obj} {r : List (Addr × Obj)} (N : News h₀ L h (a :: b :: r)) : News h₀ L h (b :: a :: r) := fun p hp => N p (by
  simp only [List.mem_cons] at hp ⊢
  rcases hp with h | h | h <;> simp [h])
theorem ToldI.more {prog : Program} {w : World} {own0 : List (Addr × Obj)} {pos : Pos} {qual : Str} {ld sa da ia : Addr} {links : List (Str × List Str)} {oL oi : Obj} {own own' : List (Addr × Obj)} {G : List NI} {kvs : List (Str × Value)} {ps : Array Value} {c' : Addr}
    (I : ToldI prog w own0 pos qual ld sa da ia links oL oi own G kvs ps) (h1 : ∀ q ∈ own, q ∈ own') (h2 : ∀ q ∈ own', q ∈ own ∨ q.1 = c') (a1 : c' ≠ ld) (a2 : c' ≠ 274) (a3 : c' ≠ sa) (a4 : c' ≠ da) (a5 : c' ≠ ia) {ps' : Array Value} (ht : TabIs pos qual ps' own') :
    ToldI prog w own0 pos qual ld sa da ia links oL oi own' G kvs ps' := by
  have two : ∀ {P : Addr → Prop}, P c' → (∀ p ∈ own, P p.1) → ∀ p ∈ own', P p.1 := fun a b p hp => (h2 p hp).elim (b p) (fun e => by rw [e]; exact a)
  exact { graph := I.graph.mono h1, pure := I.pure, ap := ⟨two (P := (· ≠ sa)) a3 I.ap.sa, two (P := (· ≠ da)) a4 I.ap.da, two (P := (· ≠ ia)) a5 I.ap.ia⟩, nld := two (P := (· ≠ ld)) a1 I.nld, ntab := two (P := (· ≠ 274)) a2 I.ntab, keep := fun p hp => h1 p (I.keep p hp), kept := I.kept, dict := I.dict, leads := I.leads, tab := ht }
end
section
theorem is_str_ref {M : Model} {A : Around} {E : Value → Shared → Prop} {s : Shared} {x : Str} {t : Tok} {a : Addr} {Q : Value → Shared → Prop} (h : Q (.bool false) s) : wpAny M A (compareOp .Is (.str x t) (.ref a)) Q E s :=
  wpAny_is_other rfl (fun e => by cases e) h
end
section
theorem valueAt_stored_self {kvs : List (Str × Value)} {x : Str} {v : Value} : valueAt (stored kvs x v) x = some v := by
  unfold stored
  split
  · rename_i h
    unfold valueAt
    induction kvs with
    | nil => simp at h
    | cons p kvs ih =>
      by_cases hp : p.1 = x
      · simp [hp]
      · simp only [List.any_cons, hp, decide_false, Bool.false_or] at h
        have := ih h
        simp only [List.map_cons, List.find?_cons, hp, if_false, decide_false]
        exact this
  · rename_i h
    have hn : x ∉ kvs.map (·.1) := fun hm => h (by
      obtain ⟨p, hp, e⟩ := List.mem_map.mp hm
      exact List.any_eq_true.mpr ⟨p, hp, by simpa using e⟩)
    unfold valueAt
    rw [List.find?_append, List.find?_eq_none.mpr]
    · simp
    · intro p hp
      simp only [decide_eq_true_eq]
      exact fun e => hn (List.mem_map.mpr ⟨p, hp, e⟩)
theorem dict_item_stored {prog : Program} {w : World} {A : Around} {E : Value → Shared → Prop} {s : Shared} {h₀ : Heap} {L d : Addr} {news : List (Addr × Obj)} {o : Obj} {kvs : List (Str × Value)} {x : Str} {t : Tok} {v : Value} {value slice : Expr} {Q : Value → Shared → Prop} (N : News h₀ L s.heap news) (hm : (d, o) ∈ news) (hd : o.IsDictOf (PySem.strKind prog w) (stored kvs x v)) (k : Q v { s with toks := s.toks + 1 })
    (hs : subscripted slice false (.ref d) (.str x t) = operate [.ref d, .str x t] (getItem (.ref d) (.str x t)) := by with_unfolding_all rfl) :
    wpAny (model prog w) A (subscriptTail value slice (.ref d) (.str x t)) Q E s := dict_item_led N hm hd valueAt_stored_self k hs
end
section
end

end
-- C10
section
open PySem PySem.W PySem.Calls PyProof.Rows
set_option maxRecDepth 100000
set_option linter.unusedVariables false
section
theorem Graph.offA {prog : Program} {w : World} {oi : Obj} {own : List (Addr × Obj)} {G : List NI} (g : Graph prog w oi own G) {a : Addr} (h1 : ∀ i ∈ G, a ≠ i.a ∧ a ≠ i.l) (h2 : ∀ i ∈ G, a ≠ i.d) : Graph prog w oi (off own a) G :=
  ⟨g.dict, fun i hi => let ⟨t, tn, vs, ep, q1, q2, q4, q3⟩ := g.infos i hi
    ⟨t, tn, vs, ep, mem_off.mpr ⟨q1, Ne.symm (h1 i hi).1⟩, mem_off.mpr ⟨q2, Ne.symm (h1 i hi).2⟩, mem_off.mpr ⟨q4, Ne.symm (h2 i hi)⟩, q3⟩, g.apA, g.apL, g.apAL, g.apDA, g.apDL, g.apK⟩
theorem rot_add {h₀ h : Heap} {L : Addr} {a b c d e f g : Addr × Obj} {r : List (Addr × Obj)} (N : News h₀ L h (a :: b :: c :: d :: e :: f :: g :: r)) : News h₀ L h (e :: f :: g :: a :: b :: c :: d :: r) := fun p hp => N p (by
  simp only [List.mem_cons] at hp ⊢
  rcases hp with h | h | h | h | h | h | h | h <;> simp [h])
theorem ensure_len (g : List PN) (x : Str) : (ensure g x).length ≤ g.length + 1 := by
  unfold ensure; split <;> simp
theorem addP_len (g : List PN) (x y : Str) : (addP g x y).length ≤ g.length + 2 := by
  unfold addP pushS bump
  rw [List.length_map]
  refine Nat.le_trans (ensure_len _ _) ?_
  rw [List.length_map]
  exact Nat.succ_le_succ (ensure_len _ _)
theorem ensure_succ {g : List PN} {x : Str} {n : Nat} (h : ∀ p ∈ g, p.2.2.length ≤ n) : ∀ p ∈ ensure g x, p.2.2.length ≤ n := fun p hp => by
  rcases mem_ensure hp with h' | rfl
  · exact h p h'
  · simp
theorem bump_succ {g : List PN} {x : Str} {n : Nat} (h : ∀ p ∈ g, p.2.2.length ≤ n) : ∀ p ∈ bump g x, p.2.2.length ≤ n := fun p hp => by
  obtain ⟨q, hq, rfl⟩ := List.mem_map.mp hp
  split <;> exact h q hq
theorem push_succ {g : List PN} {x y : Str} {n : Nat} (h : ∀ p ∈ g, p.2.2.length ≤ n) : ∀ p ∈ pushS g x y, p.2.2.length ≤ n + 1 := fun p hp => by
  obtain ⟨q, hq, rfl⟩ := List.mem_map.mp hp
  have := h q hq
  split
  · simpa using this
  · exact Nat.le_succ_of_le this
theorem addP_succ {g : List PN} {x y : Str} {n : Nat} (h : ∀ p ∈ g, p.2.2.length ≤ n) : ∀ p ∈ addP g x y, p.2.2.length ≤ n + 1 := push_succ (ensure_succ (bump_succ (ensure_succ h)))
theorem foldl_addL_len : ∀ (ls : List (Str × List Str)) (g : List PN), (ls.foldl addL g).length ≤ g.length + 2 * ls.length
  | [], g => Nat.le_refl _
  | l :: ls, g => by
    have := foldl_addL_len ls (addL g l)
    have h2 : (addL g l).length ≤ g.length + 2 := addP_len g _ _
    simp only [List.foldl_cons, List.length_cons]
    omega
theorem foldl_addL_succ : ∀ (ls : List (Str × List Str)) (g : List PN) (n : Nat), (∀ p ∈ g, p.2.2.length ≤ n) → ∀ p ∈ ls.foldl addL g, p.2.2.length ≤ n + ls.length
  | [], g, n, h => h
  | l :: ls, g, n, h => fun p hp => by
    have := foldl_addL_succ ls (addL g l) (n + 1) (addP_succ h) p hp
    simp only [List.length_cons]
    omega
theorem graph_small {prog : Program} {w : World} {own0 : List (Addr × Obj)} {pos : Pos} {qual : Str} {ld sa da ia : Addr} {links : List (Str × List Str)} {oL oi : Obj} {own : List (Addr × Obj)} {G : List NI} {kvs : List (Str × Value)} {ps : Array Value}
    (I : ToldI prog w own0 pos qual ld sa da ia links oL oi own G kvs ps) (hl : links.length ≤ 6) : G.length ≤ 12 ∧ ∀ i ∈ G, i.succ.length ≤ 6 := by
  refine ⟨?_, fun i hi => ?_⟩
  · have := foldl_addL_len links []
    rw [← I.pure, List.length_map] at this
    simp at this; omega
  · have := foldl_addL_succ links [] 0 (by simp) i.pure (I.pure ▸ List.mem_map.mpr ⟨i, hi, rfl⟩)
    simp [NI.pure] at this
    omega
theorem apart_of {own : List (Addr × Obj)} {prog : Program} {w : World} {oi : Obj} {G : List NI} (g : Graph prog w oi own G) {a : Addr} (h : ∀ p ∈ own, p.1 ≠ a) : ∀ i ∈ G, a ≠ i.a ∧ a ≠ i.l := fun i hi => by
  obtain ⟨t, tn, vs, ep, q1, q2, q4, q3⟩ := g.infos i hi
  exact ⟨(h _ q1).symm, (h _ q2).symm⟩
end

end
-- C11
section
open PySem PySem.W PySem.Calls PyProof.Rows PySem.Spec
set_option maxRecDepth 100000
set_option linter.unusedVariables false
section
section
variable {A₀ : Around} {base g G B h₅ : Heap} {outer : List Env} {L : Addr} {m : Str → Option Value} {env : Env}
theorem kts_groundX (hf : env.frame = some L) (K : Below A₀ base outer g) (F : Fr g L G m) (hBG : ∀ b o, G.get? b = some o → b ∉ (env :: outer).filterMap (·.frame) → B.get? b = some o) (hBh : B.StaysIn h₅) (hsm : G.UpToSlots h₅) :
    ∃ g', KtsTurn (outer.filterMap (·.frame)) g g' ∧ Fr g' L h₅ m ∧ Below A₀ base outer g' := by
  obtain ⟨T, S⟩ := kts_turn_at (h := h₅) (fs := outer.filterMap (·.frame)) (g := g)
    (fun b hb => by
      obtain ⟨_, o, ho, _⟩ := K.frames.mem hb
      exact ⟨o, ho⟩)
    (fun b o e nm => hBh b o (hBG b o (F.keep b o e) (fun hm => by
      rcases kts_memX hf hm with z | z
      · rw [z, kts_self F] at e
        cases e
      · exact nm z)))
    (fun b o e hm => by
      obtain ⟨_, o', ho', hd⟩ := K.frames.mem hm
      rw [e] at ho'
      cases ho'
      exact hsm b o (F.keep b o e) hd)
  refine ⟨_, T, ⟨hsm.ns F.ns, S, by rw [T.size]; exact F.above⟩, ⟨K.stack, fun b o e => T.other b o (K.stays b o e) (fun hm => by
    rw [(K.frames.mem hm).1] at e
    cases e), K.frames.of_keeps fun b o e _ => ?_⟩⟩
  obtain ⟨sl, hs⟩ := T.up e
  exact ⟨_, hs, rfl⟩
end
section
variable {prog : Program} {w : World} {A₀ : Around} {E : Value → Shared → Prop} {s' : Shared} {base g g₀ G : Heap} {outer : List Env} {L e t C : Addr} {m : Str → Option Value} {env : Env}
  {vs : List Value} {b₀ : Stmt} {suite : List Stmt} {pos np : Pos} {rest : List ExceptHandler} {Q : Flow → Shared → Prop} {news : List (Addr × Obj)} {KF : Frag}
  {p : Program} {loose : List Str} {mean : ExcName → Option Value} {mg mb : Str → Option Value} {x : Str}
/-- an exception of an own class out of a callee, taken by the caller's own clause, whatever the caller's frame -/
theorem caught_X (hf : env.frame = some L) (R : RaisedS base G (env :: outer) e (.ref C) t vs news s'.heap) (F : Fr g L G m) (K : Below A₀ base outer g) (hsm : G.UpToSlots s'.heap) (XB : KF.In base) (TB : Top p loose mean mg mb base)
    (D : KtsDicts (outer.filterMap (·.frame)) g) (q : ktsIn KF C "BaseException" = true)
    (hnm : ∀ g₅ h₅ tk Q' E' A', Fr g₅ L h₅ m → KF.In g₅ → TopRead p loose mg mb g₅ → Q' (.ref C) { s' with heap := h₅, toks := tk } → wpAny (model prog w) A' (eval (.Name x np) env) Q' E' { s' with heap := h₅, toks := tk })
    (k : ∀ h' g', KtsTurn (outer.filterMap (·.frame)) g g' → Fr g' L h' m → News g' L h' news → Below A₀ base outer g' → KF.In g' → Top p loose mean mg mb g' → KtsDicts (outer.filterMap (·.frame)) g' →
      wpAny (model prog w) ((A₀.deeper env).mark (some (.ref e))) (execs (b₀ :: suite) env) Q E { s' with heap := h' })
    (hE : PassesOwnAt (model prog w) ((A₀.deeper env).mark (some (.ref e))) (A₀.deeper env) env E := by passes_own) :
    wpAny (model prog w) (A₀.deeper env) (noteFrame (.ref e) env)
      (fun _ s₂ => wpAny (model prog w) (A₀.deeper env) (setFlight (.ref e) none) (fun _ s₃ =>
        wpAny (model prog w) (A₀.deeper env) (handleBy (.ref e) env (.ExceptHandler (some (.Name x np)) none (b₀ :: suite) pos :: rest)) Q E s₃) E s₂) E s' := by
  obtain ⟨⟨B, hB, hBG, hl, hfl, hnew⟩, htup⟩ := R
  have hL : B.get? L = none := by
    obtain ⟨_, ⟨L', _, hf', hn', _⟩, _⟩ := hfl.2.2.1
    obtain rfl : L = L' := Option.some.inj (hf.symm.trans hf')
    exact hn'
  refine wpAny_looks_onW (Around.frames_deeper K.stack) hf hfl fun h₄ hheld₄ hsm₄ => ?_
  refine wpAny_landsW hheld₄ fun h₅ hheld hsm₅' => ?_
  have hsm₅ := hsm₄.trans hsm₅'
  obtain ⟨g₅, T₅, F₅, K₅⟩ := kts_groundX hf K F hBG hheld.1 (hsm.trans hsm₅)
  have X₅ : KF.In g₅ := XB.keeps K₅.stays
  have P₅ : TopRead p loose mg mb g₅ := topRead_of (TB.keeps K₅.stays)
  obtain ⟨ob, hob, hobc⟩ := hheld.there
  obtain ⟨nm, q', N, bs, bm, hdct, sn, sub, ab, col, dd, k0, k1, k2, k3, k5, newId, hC, hbase, hbT⟩ := kts_cls X₅ q
  have hC₅ := F₅.keep _ _ hC
  refine wpAny_handleBy_cons (codeAny_handlers_test (hnm g₅ h₅ _ _ _ _ F₅ X₅ P₅ ?_)) (by intro q; cases q)
  refine wpAny_excMatches_sub_self hC₅ hob hobc hbase (codeAny_handlers_suite ?_)
  refine lands_againW hheld fun h₆ hfl₆ hsm₆ => ?_
  obtain ⟨g₆, T₆, F₆, K₆⟩ := kts_groundX hf K F hBG hfl₆.1 ((hsm.trans hsm₅).trans hsm₆)
  have Nl : News g₆ L h₆ news := fun q hq => ⟨hfl₆.1 _ _ (hl q hq).1, (fun z => by have := (hl q hq).1; rw [z, hL] at this; cases this), T₆.none_ _ (kts_none F.keep (hl q hq).2.1)⟩
  have X₆ : KF.In g₆ := XB.keeps K₆.stays
  have P₆ : Top p loose mean mg mb g₆ := TB.keeps K₆.stays
  have D₆ : KtsDicts (outer.filterMap (·.frame)) g₆ := D.turn T₆
  exact wpAny_passesOwnAt hE (k h₆ g₆ T₆ F₆ Nl K₆ X₆ P₆ D₆)
end
end

end
-- P1
section
open PySem PySem.W PyProof.Rows
set_option linter.unusedVariables false
section
/-! the plain law of the sorter, no program in sight -/
theorem nodup_len {α : Type} [DecidableEq α] : ∀ {xs ys : List α}, xs.Nodup → (∀ x ∈ xs, x ∈ ys) → xs.length ≤ ys.length
  | [], _, _, _ => Nat.zero_le _
  | x :: xs, ys, h, hs => by
    have hx := hs x (.head _)
    have h2 := List.nodup_cons.mp h
    have := nodup_len (xs := xs) (ys := ys.erase x) h2.2 fun z hz => by
      refine (List.mem_erase_of_ne fun e => ?_).mpr (hs z (.tail _ hz))
      exact h2.1 (e ▸ hz)
    rw [List.length_erase_of_mem hx] at this
    have : 0 < ys.length := List.length_pos_of_mem hx
    simp only [List.length_cons]; omega
abbrev Link := Str × List Str
def Link.lead (l : Link) : Str := leadF l.1 l.2
def places (ls : List Link) : List Str := ls.map (·.1)
def inP (ls : List Link) (x : Str) : Bool := (places ls).contains x
theorem inP_iff {ls : List Link} {x : Str} : inP ls x = true ↔ x ∈ places ls := by simp [inP]
structure Shape (ls : List Link) (g : List PN) : Prop where
  nd : (g.map (·.1)).Nodup
  val : ∀ p ∈ g, p.2.1 = (if inP ls p.1 then 1 else 0) ∧ p.2.2 = (ls.filter fun l => decide (l.lead = p.1)).map (·.1)
  has : ∀ l ∈ ls, l.1 ∈ g.map (·.1) ∧ l.lead ∈ g.map (·.1)
theorem mem_ensure' {g : List PN} {x : Str} {p : PN} (h : p ∈ ensure g x) : p ∈ g ∨ (p = (x, 0, []) ∧ x ∉ g.map (·.1)) := by
  unfold ensure at h
  split at h
  · exact .inl h
  · rename_i hn
    rcases List.mem_append.mp h with h | h
    · exact .inl h
    · refine .inr ⟨List.mem_singleton.mp h, fun hm => hn ?_⟩
      obtain ⟨q, hq, e⟩ := List.mem_map.mp hm
      exact List.any_eq_true.mpr ⟨q, hq, by simpa using e⟩
theorem ensure_keys {g : List PN} {x : Str} : (ensure g x).map (·.1) = if x ∈ g.map (·.1) then g.map (·.1) else g.map (·.1) ++ [x] := by
  unfold ensure
  by_cases h : x ∈ g.map (·.1)
  · have : (g.any fun p => decide (p.1 = x)) = true := by
      obtain ⟨q, hq, e⟩ := List.mem_map.mp h
      exact List.any_eq_true.mpr ⟨q, hq, by simpa using e⟩
    rw [if_pos this, if_pos h]
  · have : ¬ (g.any fun p => decide (p.1 = x)) = true := fun hn => by
      obtain ⟨q, hq, e⟩ := List.any_eq_true.mp hn
      exact h (List.mem_map.mpr ⟨q, hq, by simpa using e⟩)
    rw [if_neg this, if_neg h]; simp
theorem ensure_nd {g : List PN} {x : Str} (h : (g.map (·.1)).Nodup) : ((ensure g x).map (·.1)).Nodup := by
  rw [ensure_keys]
  split
  · exact h
  · rename_i hn
    refine List.nodup_append.mpr ⟨h, by simp, fun a ha b hb e => hn ?_⟩
    rw [← List.mem_singleton.mp hb, ← e]; exact ha
theorem ensure_has {g : List PN} {x : Str} : x ∈ (ensure g x).map (·.1) := by
  rw [ensure_keys]; split
  · assumption
  · simp
theorem ensure_old {g : List PN} {x y : Str} (h : y ∈ g.map (·.1)) : y ∈ (ensure g x).map (·.1) := by
  rw [ensure_keys]; split
  · assumption
  · simp [h]
theorem bump_keys {g : List PN} {x : Str} : (bump g x).map (·.1) = g.map (·.1) := by
  unfold bump; rw [List.map_map]; congr 1; funext p; simp only [Function.comp]; split <;> rfl
theorem push_keys {g : List PN} {y x : Str} : (pushS g y x).map (·.1) = g.map (·.1) := by
  unfold pushS; rw [List.map_map]; congr 1; funext p; simp only [Function.comp]; split <;> rfl
theorem shape_nil : Shape [] [] := ⟨by simp, (fun _ h => nomatch h), (fun _ h => nomatch h)⟩
theorem inP_snoc {ls : List Link} {l : Link} {x : Str} : inP (ls ++ [l]) x = (inP ls x || decide (x = l.1)) := by
  unfold inP places
  rw [List.map_append, List.contains_append]
  simp
theorem Shape.out {ls : List Link} {g : List PN} (S : Shape ls g) {x : Str} (h : x ∉ g.map (·.1)) : inP ls x = false ∧ (ls.filter fun l => decide (l.lead = x)) = [] := by
  constructor
  · cases e : inP ls x with
    | false => rfl
    | true =>
      obtain ⟨l, hl, e2⟩ := List.mem_map.mp (inP_iff.mp e)
      exact absurd (e2 ▸ (S.has l hl).1) h
  · rw [List.filter_eq_nil_iff]
    intro l hl e
    exact h ((of_decide_eq_true e) ▸ (S.has l hl).2)
theorem Shape.step {ls : List Link} {g : List PN} (S : Shape ls g) {l : Link} (hl : l.1 ∉ places ls) : Shape (ls ++ [l]) (addL g l) := by
  have k : ∀ {z : Str}, z ∈ g.map (·.1) → z ∈ (addL g l).map (·.1) := fun hz => by
    unfold addL addP
    rw [push_keys]
    exact ensure_old (by rw [bump_keys]; exact ensure_old hz)
  refine ⟨?_, fun p hp => ?_, fun l' hl' => ?_⟩
  · unfold addL addP
    rw [push_keys]
    exact ensure_nd (by rw [bump_keys]; exact ensure_nd S.nd)
  · unfold addL addP pushS at hp
    obtain ⟨q, hq, rfl⟩ := List.mem_map.mp hp
    have hk : (if q.1 = leadF l.1 l.2 then (q.1, q.2.1, q.2.2 ++ [l.1]) else q).1 = q.1 := by split <;> rfl
    have hn : (if q.1 = leadF l.1 l.2 then (q.1, q.2.1, q.2.2 ++ [l.1]) else q).2.1 = q.2.1 := by split <;> rfl
    rw [hk, hn, inP_snoc, List.filter_append, List.map_append]
    have hs : (if q.1 = leadF l.1 l.2 then (q.1, q.2.1, q.2.2 ++ [l.1]) else q).2.2 = q.2.2 ++ (([l].filter fun l => decide (l.lead = q.1)).map (·.1)) := by
      by_cases e : q.1 = leadF l.1 l.2
      · rw [if_pos e]
        have : decide (l.lead = q.1) = true := decide_eq_true e.symm
        simp [this]
      · rw [if_neg e]
        have : decide (l.lead = q.1) = false := decide_eq_false fun h => e h.symm
        simp [this]
    rw [hs]
    have main : q.2.1 = (if (inP ls q.1 || decide (q.1 = l.1)) = true then 1 else 0) ∧ q.2.2 = (ls.filter fun l => decide (l.lead = q.1)).map (·.1) := by
      rcases mem_ensure' hq with hq' | ⟨rfl, hq'⟩
      · unfold bump at hq'
        obtain ⟨r, hr, rfl⟩ := List.mem_map.mp hq'
        have hk2 : (if r.1 = l.1 then (r.1, r.2.1 + 1, r.2.2) else r).1 = r.1 := by split <;> rfl
        have hs2 : (if r.1 = l.1 then (r.1, r.2.1 + 1, r.2.2) else r).2.2 = r.2.2 := by split <;> rfl
        rw [hk2, hs2]
        have base : r.2.1 = (if inP ls r.1 then 1 else 0) ∧ r.2.2 = (ls.filter fun l => decide (l.lead = r.1)).map (·.1) := by
          rcases mem_ensure' hr with hr' | ⟨e0, hr'⟩
          · exact S.val r hr'
          · have := S.out hr'
            rw [e0]
            dsimp only
            rw [this.1, this.2]; exact ⟨rfl, rfl⟩
        refine ⟨?_, base.2⟩
        by_cases e : r.1 = l.1
        · have hf : inP ls r.1 = false := by
            cases h : inP ls r.1 with
            | false => rfl
            | true => exact absurd (e ▸ inP_iff.mp h) hl
          rw [if_pos e, base.1, hf]
          simp [e]
        · rw [if_neg e]
          rw [base.1]; simp [e]
      · rw [bump_keys] at hq'
        have hq2 : leadF l.1 l.2 ∉ g.map (·.1) := fun h => hq' (ensure_old h)
        have := S.out hq2
        dsimp only
        have hne : leadF l.1 l.2 ≠ l.1 := fun e => hq' (by rw [e]; exact ensure_has)
        rw [this.1, this.2]
        simp [hne]
    exact ⟨main.1, by rw [main.2]⟩
  · rcases List.mem_append.mp hl' with h | h
    · exact ⟨k (S.has l' h).1, k (S.has l' h).2⟩
    · rw [List.mem_singleton.mp h]
      unfold addL addP
      rw [push_keys]
      exact ⟨ensure_old (by rw [bump_keys]; exact ensure_has), ensure_has⟩
theorem shape_all : ∀ (rs ls : List Link) (g : List PN), Shape ls g → (places (ls ++ rs)).Nodup → Shape (ls ++ rs) (rs.foldl addL g)
  | [], ls, g, S, _ => by simpa using S
  | r :: rs, ls, g, S, h => by
    have hr : r.1 ∉ places ls := fun hm => by
      unfold places at h hm
      rw [List.map_append] at h
      exact (List.nodup_append.mp h).2.2 r.1 hm r.1 (by simp) rfl
    have := shape_all rs (ls ++ [r]) (addL g r) (S.step hr) (by simpa using h)
    simpa using this
theorem shape_of (ls : List Link) (h : (places ls).Nodup) : Shape ls (ls.foldl addL []) := by
  simpa using shape_all ls [] [] shape_nil (by simpa using h)
/-- one step along the leads -/
def stepL (ls : List Link) (x : Str) : Str := ((ls.find? fun l => decide (l.1 = x)).map Link.lead).getD x
def goL (ls : List Link) : Nat → Str → Str
  | 0, x => x
  | n + 1, x => goL ls n (stepL ls x)
def endL (ls : List Link) (x : Str) : Option Str := if inP ls (goL ls 7 x) then none else some (goL ls 7 x)
theorem find_of {ls : List Link} (h : (places ls).Nodup) : ∀ {l : Link}, l ∈ ls → (ls.find? fun k => decide (k.1 = l.1)) = some l := by
  induction ls with
  | nil => intro l hl; cases hl
  | cons k ls ih =>
    intro l hl
    have h2 := List.nodup_cons.mp h
    rcases List.mem_cons.mp hl with rfl | hl
    · simp
    · have hne : k.1 ≠ l.1 := fun e => h2.1 (show k.1 ∈ ls.map (·.1) by rw [e]; exact List.mem_map.mpr ⟨l, hl, rfl⟩)
      rw [List.find?_cons_of_neg (by simpa using hne)]
      exact ih h2.2 hl
theorem stepL_in {ls : List Link} (h : (places ls).Nodup) {l : Link} (hl : l ∈ ls) : stepL ls l.1 = l.lead := by
  unfold stepL; rw [find_of h hl]; rfl
theorem stepL_out {ls : List Link} {x : Str} (h : inP ls x = false) : stepL ls x = x := by
  unfold stepL
  rw [List.find?_eq_none.mpr]
  · rfl
  · intro l hl e
    have : inP ls x = true := inP_iff.mpr (List.mem_map.mpr ⟨l, hl, of_decide_eq_true e⟩)
    rw [h] at this; cases this
theorem goL_out {ls : List Link} {x : Str} (h : inP ls x = false) : ∀ n, goL ls n x = x
  | 0 => rfl
  | n + 1 => by
    show goL ls n (stepL ls x) = x
    rw [stepL_out h]; exact goL_out h n
theorem goL_add {ls : List Link} : ∀ (a b : Nat) (x : Str), goL ls (a + b) x = goL ls b (goL ls a x)
  | 0, b, x => by rw [Nat.zero_add]; rfl
  | a + 1, b, x => by
    rw [Nat.succ_add]
    exact goL_add a b (stepL ls x)
/-- x ends at e, within m steps -/
def Ends (ls : List Link) (x e : Str) (m : Nat) : Prop := goL ls m x = e ∧ inP ls e = false
theorem Ends.go {ls : List Link} {x e : Str} {m n : Nat} (h : Ends ls x e m) (hm : m ≤ n) : goL ls n x = e := by
  obtain ⟨k, rfl⟩ := Nat.exists_eq_add_of_le hm
  rw [goL_add, h.1, goL_out h.2]
theorem Ends.endL {ls : List Link} {x e : Str} {m : Nat} (h : Ends ls x e m) (hm : m ≤ 7) : endL ls x = some e := by
  unfold Mine.endL
  rw [h.go hm, h.2]; rfl
/-- x never ends -/
def Never (ls : List Link) (x : Str) : Prop := ∀ n, inP ls (goL ls n x) = true
theorem Never.endL {ls : List Link} {x : Str} (h : Never ls x) : endL ls x = none := by
  unfold Mine.endL
  rw [h 7]; rfl
theorem Never.ne {ls : List Link} {x e : Str} {m : Nat} (h : Never ls x) (h2 : Ends ls x e m) : False := by
  have := h m
  rw [h2.1, h2.2] at this; cases this
end

end
-- P2
section
open PySem PySem.W PyProof.Rows
set_option linter.unusedVariables false
section
def shapeOf (g : List PN) : List (Str × List Str) := g.map fun p => (p.1, p.2.2)
def succL (ls : List Link) (y : Str) : List Str := (ls.filter fun l => decide (l.lead = y)).map (·.1)
structure KInv (ls : List Link) (g : List PN) (ds os rs : List Str) : Prop where
  nd : (ds ++ os ++ rs).Nodup
  keys : (g.map (·.1)).Nodup
  succ : ∀ p ∈ g, p.2.2 = succL ls p.1
  has : ∀ l ∈ ls, l.1 ∈ g.map (·.1) ∧ l.lead ∈ g.map (·.1)
  node : ∀ x ∈ ds ++ os ++ rs, x ∈ g.map (·.1)
  sD : ∀ p ∈ g, p.1 ∈ ds → p.2.1 = -2
  sO : ∀ p ∈ g, p.1 ∈ os → p.2.1 = -1
  sW : ∀ p ∈ g, p.1 ∉ ds ++ os ++ rs → p.2.1 = 1
  lk : ∀ l ∈ ls, l.1 ∈ ds ++ os ++ rs ↔ l.lead ∈ ds
  nl : ∀ x ∈ g.map (·.1), inP ls x = false → x ∈ ds ++ os ++ rs
theorem mem_setP {x : Str} {n : Int} {g : List PN} {p : PN} (h : p ∈ setP x n g) : ∃ q ∈ g, p.1 = q.1 ∧ p.2.2 = q.2.2 ∧ p.2.1 = if q.1 = x then n else q.2.1 := by
  (refine hide fun hHid => ?_; rcases List.mem_map.mp h with ⟨q, hq, rfl⟩ <;> (refine hHid ?_; clear hHid))
  refine ⟨q, hq, ?_⟩
  by_cases e : q.1 = x
  · simp [e]
  · simp [e]
theorem setP_keys {x : Str} {n : Int} {g : List PN} : (setP x n g).map (·.1) = g.map (·.1) := by
  unfold setP; rw [List.map_map]; congr 1; funext p; simp only [Function.comp]; split <;> rfl
theorem setPs_keys {n : Int} : ∀ {xs : List Str} {g : List PN}, (xs.foldl (fun g r => setP r n g) g).map (·.1) = g.map (·.1)
  | [], _ => rfl
  | x :: xs, g => by rw [List.foldl_cons, setPs_keys, setP_keys]
theorem mem_setPs {n : Int} : ∀ {xs : List Str} {g : List PN} {p : PN}, p ∈ xs.foldl (fun g r => setP r n g) g → ∃ q ∈ g, p.1 = q.1 ∧ p.2.2 = q.2.2 ∧ p.2.1 = if q.1 ∈ xs then n else q.2.1
  | [], _, p, h => ⟨p, h, rfl, rfl, by simp⟩
  | x :: xs, g, p, h => by
    (refine hide fun hHid => ?_; rcases mem_setPs (xs := xs) h with ⟨q, hq, e1, e2, e3⟩ <;> (refine hHid ?_; clear hHid))
    (refine hide fun hHid => ?_; rcases mem_setP hq with ⟨r, hr, f1, f2, f3⟩ <;> (refine hHid ?_; clear hHid))
    refine ⟨r, hr, e1.trans f1, e2.trans f2, ?_⟩
    rw [e3, f3, f1]
    by_cases a : r.1 ∈ xs
    · simp [a]
    · by_cases b : r.1 = x <;> simp [a, b]
theorem mem_succL {ls : List Link} {x y : Str} : x ∈ succL ls y ↔ ∃ l ∈ ls, l.1 = x ∧ l.lead = y := by
  unfold succL
  simp only [List.mem_map, List.mem_filter, decide_eq_true_eq]
  constructor
  · (intro qq1; refine hide fun hHid => ?_; rcases qq1 with ⟨l, ⟨h1, h2⟩, h3⟩ <;> (refine hHid ?_; clear hHid)); exact ⟨l, h1, h3, h2⟩
  · (intro qq2; refine hide fun hHid => ?_; rcases qq2 with ⟨l, h1, h3, h2⟩ <;> (refine hHid ?_; clear hHid)); exact ⟨l, ⟨h1, h2⟩, h3⟩
theorem succL_nd {ls : List Link} (h : (places ls).Nodup) (y : Str) : (succL ls y).Nodup := by
  unfold succL
  exact List.Nodup.sublist (List.Sublist.map _ List.filter_sublist) h
theorem succL_len {ls : List Link} (y : Str) : (succL ls y).length ≤ ls.length := by
  unfold succL; rw [List.length_map]; exact List.length_filter_le _ _
theorem link_eq {ls : List Link} (h : (places ls).Nodup) {l k : Link} (hl : l ∈ ls) (hk : k ∈ ls) (e : l.1 = k.1) : l = k := by
  have h1 := find_of h hl
  have h2 := find_of h hk
  rw [e] at h1
  exact Option.some.inj (h1.symm.trans h2)
theorem KInv.start {ls : List Link} (hn : (places ls).Nodup) : KInv ls (ls.foldl addL []) [] [] (((ls.foldl addL []).filter fun p => decide (p.2.1 = 0)).map (·.1)) := by
  have S := shape_of ls hn
  have hm : ∀ x, x ∈ ((ls.foldl addL []).filter fun p => decide (p.2.1 = 0)).map (·.1) ↔ x ∈ (ls.foldl addL []).map (·.1) ∧ inP ls x = false := fun x => by
    constructor
    · intro h
      (refine hide fun hHid => ?_; rcases List.mem_map.mp h with ⟨p, hp, rfl⟩ <;> (refine hHid ?_; clear hHid))
      (refine hide fun hHid => ?_; rcases List.mem_filter.mp hp with ⟨h1, h2⟩ <;> (refine hHid ?_; clear hHid))
      refine ⟨List.mem_map.mpr ⟨p, h1, rfl⟩, ?_⟩
      have := (S.val p h1).1
      rw [of_decide_eq_true h2] at this
      cases e : inP ls p.1 with
      | false => rfl
      | true => rw [e] at this; simp at this
    · (intro qq3; refine hide fun hHid => ?_; rcases qq3 with ⟨h1, h2⟩ <;> (refine hHid ?_; clear hHid))
      (refine hide fun hHid => ?_; rcases List.mem_map.mp h1 with ⟨p, hp, rfl⟩ <;> (refine hHid ?_; clear hHid))
      refine List.mem_map.mpr ⟨p, List.mem_filter.mpr ⟨hp, ?_⟩, rfl⟩
      rw [(S.val p hp).1, h2]; rfl
  refine ⟨?_, S.nd, fun p hp => (S.val p hp).2, S.has, fun x hx => ((hm x).mp (by simpa using hx)).1, (fun _ _ h => nomatch h), (fun _ _ h => nomatch h), fun p hp h => ?_, fun l hl => ?_, fun x hx h => ?_⟩
  · simp only [List.nil_append]
    exact List.Nodup.sublist (List.Sublist.map _ List.filter_sublist) S.nd
  · have h2 : ¬ inP ls p.1 = false := fun e => h (by simpa using (hm p.1).mpr ⟨List.mem_map.mpr ⟨p, hp, rfl⟩, e⟩)
    have h3 : inP ls p.1 = true := by simpa using h2
    rw [(S.val p hp).1, h3]; rfl
  · constructor
    · intro h
      have := ((hm l.1).mp (by simpa using h)).2
      rw [inP_iff.mpr (List.mem_map.mpr ⟨l, hl, rfl⟩)] at this; cases this
    · intro h; cases h
  · simpa using (hm x).mpr ⟨hx, h⟩
/-- the batch is handed out -/
theorem KInv.out {ls : List Link} {g : List PN} {ds rs : List Str} (K : KInv ls g ds [] rs) : KInv ls (rs.foldl (fun g r => setP r (-1) g) g) ds rs [] := by
  have n1 := K.nd
  rw [List.append_nil] at n1
  have hdr : ∀ x, x ∈ ds → x ∈ rs → False := fun x h1 h2 => (List.nodup_append.mp n1).2.2 x h1 x h2 rfl
  have mm : ∀ x, x ∈ ds ++ rs ++ [] ↔ x ∈ ds ++ [] ++ rs := fun x => by simp
  refine ⟨by simpa using n1, by rw [setPs_keys]; exact K.keys, fun p hp => ?_, fun l hl => by rw [setPs_keys]; exact K.has l hl, fun x hx => by rw [setPs_keys]; exact K.node x ((mm x).mp hx), fun p hp h => ?_, fun p hp h => ?_, fun p hp h => ?_, fun l hl => by rw [mm]; exact K.lk l hl, fun x hx h => by rw [mm]; rw [setPs_keys] at hx; exact K.nl x hx h⟩
  · (refine hide fun hHid => ?_; rcases mem_setPs hp with ⟨q, hq, e1, e2, e3⟩ <;> (refine hHid ?_; clear hHid))
    rw [e2, e1]; exact K.succ q hq
  · (refine hide fun hHid => ?_; rcases mem_setPs hp with ⟨q, hq, e1, e2, e3⟩ <;> (refine hHid ?_; clear hHid))
    rw [e1] at h
    rw [e3, if_neg fun h2 => hdr _ h h2]; exact K.sD q hq h
  · (refine hide fun hHid => ?_; rcases mem_setPs hp with ⟨q, hq, e1, e2, e3⟩ <;> (refine hHid ?_; clear hHid))
    rw [e1] at h
    rw [e3, if_pos h]
  · (refine hide fun hHid => ?_; rcases mem_setPs hp with ⟨q, hq, e1, e2, e3⟩ <;> (refine hHid ?_; clear hHid))
    rw [e1, mm] at h
    rw [e3, if_neg fun h2 => h (by simp [h2])]; exact K.sW q hq h
/-- one node is done -/
theorem KInv.done {ls : List Link} (hn : (places ls).Nodup) {g : List PN} {ds os rs : List Str} {y : Str} (K : KInv ls g ds (y :: os) rs) :
    KInv ls ((succL ls y).foldl (fun g r => setP r 0 g) (setP y (-2) g)) (ds ++ [y]) os (rs ++ succL ls y) := by
  have n1 := K.nd
  have hy : y ∉ ds := fun h => (List.nodup_append.mp (List.nodup_append.mp n1).1).2.2 y h y (.head _) rfl
  have hyo : y ∉ os := fun h => (List.nodup_cons.mp (List.nodup_append.mp (List.nodup_append.mp n1).1).2.1).1 h
  have hyr : y ∉ rs := fun h => (List.nodup_append.mp n1).2.2 y (by simp) y h rfl
  -- the successors are new
  have hs : ∀ x ∈ succL ls y, x ∉ ds ++ (y :: os) ++ rs := fun x hx hm => by
    (refine hide fun hHid => ?_; rcases mem_succL.mp hx with ⟨l, hl, rfl, e⟩ <;> (refine hHid ?_; clear hHid))
    exact hy (e ▸ (K.lk l hl).mp hm)
  have mm : ∀ x, x ∈ ds ++ [y] ++ os ++ (rs ++ succL ls y) ↔ x ∈ ds ++ (y :: os) ++ rs ∨ x ∈ succL ls y := fun x => by
    simp only [List.mem_append, List.mem_cons, List.not_mem_nil, or_false]
    constructor
    · (intro qq4; refine hide fun hHid => ?_; rcases qq4 with (((h | h) | h) | (h | h)) <;> (refine hHid ?_; clear hHid))
      · exact .inl (.inl (.inl h))
      · exact .inl (.inl (.inr (.inl h)))
      · exact .inl (.inl (.inr (.inr h)))
      · exact .inl (.inr h)
      · exact .inr h
    · (intro qq5; refine hide fun hHid => ?_; rcases qq5 with (((h | (h | h)) | h) | h) <;> (refine hHid ?_; clear hHid))
      · exact .inl (.inl (.inl h))
      · exact .inl (.inl (.inr h))
      · exact .inl (.inr h)
      · exact .inr (.inl h)
      · exact .inr (.inr h)
  have hk : ((succL ls y).foldl (fun g r => setP r 0 g) (setP y (-2) g)).map (·.1) = g.map (·.1) := by rw [setPs_keys, setP_keys]
  have back : ∀ p ∈ (succL ls y).foldl (fun g r => setP r 0 g) (setP y (-2) g), ∃ q ∈ g, p.1 = q.1 ∧ p.2.2 = q.2.2 ∧ p.2.1 = if q.1 ∈ succL ls y then 0 else if q.1 = y then -2 else q.2.1 := fun p hp => by
    (refine hide fun hHid => ?_; rcases mem_setPs hp with ⟨q, hq, e1, e2, e3⟩ <;> (refine hHid ?_; clear hHid))
    (refine hide fun hHid => ?_; rcases mem_setP hq with ⟨r, hr, f1, f2, f3⟩ <;> (refine hHid ?_; clear hHid))
    exact ⟨r, hr, e1.trans f1, e2.trans f2, by rw [e3, f3, f1]⟩
  refine ⟨?_, by rw [hk]; exact K.keys, fun p hp => ?_, fun l hl => by rw [hk]; exact K.has l hl, fun x hx => ?_, fun p hp h => ?_, fun p hp h => ?_, fun p hp h => ?_, fun l hl => ?_, fun x hx h => ?_⟩
  · have e : ds ++ [y] ++ os ++ (rs ++ succL ls y) = (ds ++ (y :: os) ++ rs) ++ succL ls y := by simp
    rw [e]
    exact List.nodup_append.mpr ⟨n1, succL_nd hn y, fun a ha b hb e => hs b hb (e ▸ ha)⟩
  · (refine hide fun hHid => ?_; rcases back p hp with ⟨q, hq, e1, e2, _⟩ <;> (refine hHid ?_; clear hHid))
    rw [e2, e1]; exact K.succ q hq
  · rw [hk]
    rcases (mm x).mp hx with h | h
    · exact K.node x h
    · (refine hide fun hHid => ?_; rcases mem_succL.mp h with ⟨l, hl, rfl, _⟩ <;> (refine hHid ?_; clear hHid))
      exact (K.has l hl).1
  · (refine hide fun hHid => ?_; rcases back p hp with ⟨q, hq, e1, e2, e3⟩ <;> (refine hHid ?_; clear hHid))
    rw [e1] at h
    rw [e3]
    rcases List.mem_append.mp h with h | h
    · rw [if_neg (fun h2 => hs _ h2 (by simp [h])), if_neg (fun (e : q.1 = y) => hy (e ▸ h))]
      exact K.sD q hq h
    · have e := List.mem_singleton.mp h
      rw [if_neg fun h2 => hs _ h2 (by simp [e]), if_pos e]
  · (refine hide fun hHid => ?_; rcases back p hp with ⟨q, hq, e1, e2, e3⟩ <;> (refine hHid ?_; clear hHid))
    rw [e1] at h
    rw [e3, if_neg (fun h2 => hs _ h2 (by simp [h])), if_neg (fun (e : q.1 = y) => hyo (e ▸ h))]
    exact K.sO q hq (.tail _ h)
  · (refine hide fun hHid => ?_; rcases back p hp with ⟨q, hq, e1, e2, e3⟩ <;> (refine hHid ?_; clear hHid))
    rw [e1, mm, not_or] at h
    rw [e3, if_neg h.2, if_neg (fun (e : q.1 = y) => h.1 (by simp [e]))]
    exact K.sW q hq h.1
  · rw [mm]
    constructor
    · (intro qq6; refine hide fun hHid => ?_; rcases qq6 with (h | h) <;> (refine hHid ?_; clear hHid))
      · exact List.mem_append_left _ ((K.lk l hl).mp h)
      · (refine hide fun hHid => ?_; rcases mem_succL.mp h with ⟨k, hk, e, e2⟩ <;> (refine hHid ?_; clear hHid))
        rw [← link_eq hn hk hl e, e2]; simp
    · intro h
      rcases List.mem_append.mp h with h | h
      · exact .inl ((K.lk l hl).mpr h)
      · exact .inr (mem_succL.mpr ⟨l, hl, rfl, List.mem_singleton.mp h⟩)
  · rw [hk] at hx
    exact (mm x).mpr (.inl (K.nl x hx h))
theorem KInv.never {ls : List Link} (hn : (places ls).Nodup) {g : List PN} {ds : List Str} (K : KInv ls g ds [] []) {l : Link} (hl : l ∈ ls) (h : l.1 ∉ ds) : Never ls l.1 := by
  have main : ∀ n (l : Link), l ∈ ls → l.1 ∉ ds → inP ls (goL ls n l.1) = true := fun n => by
    induction n with
    | zero => intro l hl _; exact inP_iff.mpr (List.mem_map.mpr ⟨l, hl, rfl⟩)
    | succ n ih =>
      intro l hl h
      show inP ls (goL ls n (stepL ls l.1)) = true
      rw [stepL_in hn hl]
      have h1 : l.lead ∉ ds := fun hd => h (by simpa using (K.lk l hl).mpr hd)
      cases e : inP ls l.lead with
      | false => exact absurd (by simpa using K.nl l.lead (K.has l hl).2 e) h1
      | true =>
        (refine hide fun hHid => ?_; rcases List.mem_map.mp (inP_iff.mp e) with ⟨k, hk, e2⟩ <;> (refine hHid ?_; clear hHid))
        have := ih k hk (e2.symm ▸ h1)
        rw [e2] at this; exact this
  exact fun n => main n l hl h
/-- what the dict of the ends holds -/
def EndsI (ls : List Link) (ds : List Str) (kvs : List (Str × Value)) : Prop :=
  kvs.map (·.1) = ds ∧ ∀ x ∈ ds, ∃ e t m, valueAt kvs x = some (.str e t) ∧ Ends ls x e m ∧ m ≤ (ds.filter (inP ls)).length
theorem EndsI.nil {ls : List Link} : EndsI ls [] [] := ⟨rfl, fun _ h => nomatch h⟩
theorem EndsI.more {ls : List Link} {ds : List Str} {kvs : List (Str × Value)} (I : EndsI ls ds kvs) {y e : Str} {t : Tok} {m : Nat} (hy : y ∉ ds) (h : Ends ls y e m) (hm : m ≤ ((ds ++ [y]).filter (inP ls)).length) : EndsI ls (ds ++ [y]) (stored kvs y (.str e t)) := by
  have hk : y ∉ kvs.map (·.1) := by rw [I.1]; exact hy
  have hst : stored kvs y (.str e t) = kvs ++ [(y, .str e t)] := stored_new hk
  refine ⟨by rw [hst, List.map_append, I.1]; rfl, fun x hx => ?_⟩
  rcases List.mem_append.mp hx with hx | hx
  · (refine hide fun hHid => ?_; rcases I.2 x hx with ⟨e', t', m', h1, h2, h3⟩ <;> (refine hHid ?_; clear hHid))
    refine ⟨e', t', m', ?_, h2, Nat.le_trans h3 (by rw [List.filter_append, List.length_append]; exact Nat.le_add_right _ _)⟩
    rw [hst]
    unfold valueAt at h1 ⊢
    rw [List.find?_append]
    cases hf : kvs.find? (fun kv => decide (kv.1 = x)) with
    | none => rw [hf] at h1; cases h1
    | some kv => rw [hf] at h1; simpa using h1
  · rw [List.mem_singleton.mp hx]
    exact ⟨e, t, m, valueAt_stored_self, h, hm⟩
theorem ends_out {ls : List Link} {x : Str} (h : inP ls x = false) : Ends ls x x 0 := ⟨rfl, h⟩
theorem ends_in {ls : List Link} (hn : (places ls).Nodup) {l : Link} (hl : l ∈ ls) {e : Str} {m : Nat} (h : Ends ls l.lead e m) : Ends ls l.1 e (m + 1) := ⟨by
  show goL ls m (stepL ls l.1) = e
  rw [stepL_in hn hl]; exact h.1, h.2⟩
theorem EndsI.get {ls : List Link} {ds : List Str} {kvs : List (Str × Value)} (I : EndsI ls ds kvs) (hd : ds.Nodup) (hl : ls.length ≤ 7) {x : Str} (hx : x ∈ ds) : ∃ e t, valueAt kvs x = some (.str e t) ∧ endL ls x = some e := by
  (refine hide fun hHid => ?_; rcases I.2 x hx with ⟨e, t, m, h1, h2, h3⟩ <;> (refine hHid ?_; clear hHid))
  refine ⟨e, t, h1, h2.endL (Nat.le_trans h3 (Nat.le_trans ?_ hl))⟩
  have := nodup_len (xs := ds.filter (inP ls)) (ys := places ls) (List.Nodup.sublist List.filter_sublist hd) fun z hz => inP_iff.mp (List.mem_filter.mp hz).2
  simpa [places] using this
theorem EndsI.none {ls : List Link} {ds : List Str} {kvs : List (Str × Value)} (I : EndsI ls ds kvs) {x : Str} (hx : x ∉ ds) : valueAt kvs x = none := by
  have : (valueAt kvs x).isSome = false := valueAt_none (by rw [I.1]; exact hx)
  simpa using this
/-! the ring -/
def posT (x : Str) : List Str → Nat
  | [] => 0
  | y :: r => if x ∈ r then posT x r else r.length + 1
theorem posT_le (x : Str) : ∀ r, posT x r ≤ r.length
  | [] => Nat.le_refl _
  | y :: r => by
    unfold posT; split
    · exact Nat.le_succ_of_le (posT_le x r)
    · exact Nat.le_refl _
theorem topo_mem {g : List PN} : ∀ {fin : List Str}, Topo g fin → ∀ {x y : Str}, y ∈ fin → Edge g y x → x ∈ fin
  | _, .nil, _, _, h, _ => nomatch h
  | _, .cons (x := z) (fin := fin) ht hz, x, y, h, he => by
    rcases List.mem_cons.mp h with e | hy
    · (refine hide fun hHid => ?_; rcases he with ⟨n, ss, h1, h2⟩ <;> (refine hHid ?_; clear hHid))
      subst e; exact .tail _ (hz n ss h1 x h2)
    · exact .tail _ (topo_mem ht hy he)
theorem topo_up {g : List PN} : ∀ {fin : List Str}, Topo g fin → ∀ {x y : Str}, y ∈ fin → Edge g y x → posT x fin < posT y fin
  | _, .nil, _, _, h, _ => nomatch h
  | _, .cons (x := z) (fin := fin) ht hz, x, y, h, he => by
    unfold posT
    by_cases hy : y ∈ fin
    · rw [if_pos hy, if_pos (topo_mem ht hy he)]
      exact topo_up ht hy he
    · rw [if_neg hy]
      obtain rfl : y = z := (List.mem_cons.mp h).resolve_right hy
      (refine hide fun hHid => ?_; rcases he with ⟨n, ss, h1, h2⟩ <;> (refine hHid ?_; clear hHid))
      rw [if_pos (hz n ss h1 x h2)]
      exact Nat.lt_succ_of_le (posT_le _ _)
theorem Shape.edge {ls : List Link} {g : List PN} (S : Shape ls g) {l : Link} (hl : l ∈ ls) : Edge g l.lead l.1 := by
  (refine hide fun hHid => ?_; rcases List.mem_map.mp (S.has l hl).2 with ⟨p, hp, e⟩ <;> (refine hHid ?_; clear hHid))
  refine ⟨p.2.1, p.2.2, by rw [← e]; exact hp, ?_⟩
  rw [(S.val p hp).2]
  exact List.mem_map.mpr ⟨l, List.mem_filter.mpr ⟨hl, decide_eq_true e.symm⟩, rfl⟩
theorem Shape.edge' {ls : List Link} {g : List PN} (S : Shape ls g) {x y : Str} (h : Edge g x y) : ∃ l ∈ ls, l.1 = y ∧ l.lead = x := by
  (refine hide fun hHid => ?_; rcases h with ⟨n, ss, h1, h2⟩ <;> (refine hHid ?_; clear hHid))
  have := (S.val _ h1).2
  dsimp only at this
  rw [this] at h2
  (refine hide fun hHid => ?_; rcases List.mem_map.mp h2 with ⟨l, hl, e⟩ <;> (refine hHid ?_; clear hHid))
  (refine hide fun hHid => ?_; rcases List.mem_filter.mp hl with ⟨h3, h4⟩ <;> (refine hHid ?_; clear hHid))
  exact ⟨l, h3, e, of_decide_eq_true h4⟩
theorem Never.next {ls : List Link} {x : Str} (h : Never ls x) : Never ls (stepL ls x) := fun n => h (n + 1)
theorem acy_never {ls : List Link} (hn : (places ls).Nodup) {g : List PN} (S : Shape ls g) (hA : Acy g) {x : Str} (h : Never ls x) : False := by
  (refine hide fun hHid => ?_; rcases hA with ⟨fin, ht, hall⟩ <;> (refine hHid ?_; clear hHid))
  have up : ∀ n x, Never ls x → n ≤ posT (goL ls n x) fin := fun n => by
    have main : ∀ n x, Never ls x → n + posT x fin ≤ posT (goL ls n x) fin := fun n => by
      induction n with
      | zero => intro x _; rw [Nat.zero_add]; exact Nat.le_refl _
      | succ n ih =>
        intro x h
        (refine hide fun hHid => ?_; rcases List.mem_map.mp (inP_iff.mp (h 0)) with ⟨l, hl, e⟩ <;> (refine hHid ?_; clear hHid))
        have e : l.1 = x := e
        subst e
        have h2 := ih _ h.next
        have hs := stepL_in hn hl
        (refine hide fun hHid => ?_; rcases List.mem_map.mp (S.has l hl).2 with ⟨p, hp, e2⟩ <;> (refine hHid ?_; clear hHid))
        have h3 : posT l.1 fin < posT l.lead fin := topo_up ht (e2 ▸ hall p hp) (S.edge hl)
        rw [hs] at h2
        show _ ≤ posT (goL ls n (stepL ls l.1)) fin
        rw [hs]; omega
    exact fun x h => Nat.le_trans (Nat.le_add_right _ _) (main n x h)
  have h1 := up (fin.length + 1) x h
  have h2 := posT_le (goL ls (fin.length + 1) x) fin
  omega
theorem pth_go {ls : List Link} (hn : (places ls).Nodup) {g : List PN} (S : Shape ls g) {x y : Str} (h : Pth g x y) : ∃ m, goL ls (m + 1) y = x ∧ ∀ k, k ≤ m → inP ls (goL ls k y) = true := by
  induction h with
  | one h =>
    (refine hide fun hHid => ?_; rcases S.edge' h with ⟨l, hl, e, e2⟩ <;> (refine hHid ?_; clear hHid))
    refine ⟨0, ?_, fun k hk => ?_⟩
    · show stepL ls _ = _
      rw [← e, stepL_in hn hl, e2]
    · rw [Nat.le_zero.mp hk]
      exact inP_iff.mpr (List.mem_map.mpr ⟨l, hl, e⟩)
  | more h1 h2 ih1 ih2 =>
    (refine hide fun hHid => ?_; rcases ih1 with ⟨m1, a1, b1⟩ <;> (refine hHid ?_; clear hHid))
    (refine hide fun hHid => ?_; rcases ih2 with ⟨m2, a2, b2⟩ <;> (refine hHid ?_; clear hHid))
    refine ⟨m2 + 1 + m1, ?_, fun k hk => ?_⟩
    · rw [Nat.add_assoc (m2 + 1) m1 1, goL_add, a2, a1]
    · by_cases h : k ≤ m2
      · exact b2 k h
      · (refine hide fun hHid => ?_; rcases Nat.exists_eq_add_of_le (show m2 + 1 ≤ k by omega) with ⟨j, rfl⟩ <;> (refine hHid ?_; clear hHid))
        rw [goL_add, a2]
        exact b1 j (by omega)
theorem cyc_never {ls : List Link} (hn : (places ls).Nodup) {g : List PN} (S : Shape ls g) (h : Cyc g) : ∃ l ∈ ls, Never ls l.1 := by
  (refine hide fun hHid => ?_; rcases h with ⟨x, hx⟩ <;> (refine hHid ?_; clear hHid))
  (refine hide fun hHid => ?_; rcases pth_go hn S hx with ⟨m, h1, h2⟩ <;> (refine hHid ?_; clear hHid))
  have all : ∀ n, inP ls (goL ls n x) = true := fun n => by
    induction n using Nat.strongRecOn with
    | _ n ih =>
      by_cases h : n ≤ m
      · exact h2 n h
      · (refine hide fun hHid => ?_; rcases Nat.exists_eq_add_of_le (show m + 1 ≤ n by omega) with ⟨j, rfl⟩ <;> (refine hHid ?_; clear hHid))
        rw [goL_add, h1]
        exact ih j (by omega)
  (refine hide fun hHid => ?_; rcases List.mem_map.mp (inP_iff.mp (all 0)) with ⟨l, hl, e⟩ <;> (refine hHid ?_; clear hHid))
  have e : l.1 = x := e
  exact ⟨l, hl, by rw [e]; exact all⟩
/-- the answer: the ends, in the links' order, and whether one lacks -/
def endsL (ls : List Link) : List (Option Str) := ls.map fun l => endL ls l.1
def ringL (ls : List Link) : Bool := (endsL ls).any Option.isNone
theorem ring_acy {ls : List Link} (hn : (places ls).Nodup) (hl : ls.length ≤ 7) {g : List PN} {ds : List Str} {kvs : List (Str × Value)} (hA : Acy (ls.foldl addL [])) (K : KInv ls g ds [] []) (I : EndsI ls ds kvs) : ringL ls = false := by
  unfold ringL endsL
  rw [List.any_eq_false]
  intro o ho
  (refine hide fun hHid => ?_; rcases List.mem_map.mp ho with ⟨l, hm, rfl⟩ <;> (refine hHid ?_; clear hHid))
  have hd : l.1 ∈ ds := Classical.byContradiction fun h => acy_never hn (shape_of ls hn) hA (K.never hn hm h)
  (refine hide fun hHid => ?_; rcases I.get (by simpa using K.nd) hl hd with ⟨e, t, _, h2⟩ <;> (refine hHid ?_; clear hHid))
  rw [h2]; simp
theorem ring_cyc {ls : List Link} (hn : (places ls).Nodup) (hC : Cyc (ls.foldl addL [])) : ringL ls = true := by
  (refine hide fun hHid => ?_; rcases cyc_never hn (shape_of ls hn) hC with ⟨l, hl, h⟩ <;> (refine hHid ?_; clear hHid))
  unfold ringL endsL
  rw [List.any_eq_true]
  exact ⟨endL ls l.1, List.mem_map.mpr ⟨l, hl, rfl⟩, by rw [h.endL]; rfl⟩
theorem ends_value {ls : List Link} (hn : (places ls).Nodup) (hl : ls.length ≤ 7) {g : List PN} {ds : List Str} {kvs : List (Str × Value)} (K : KInv ls g ds [] []) (I : EndsI ls ds kvs) {l : Link} (hm : l ∈ ls) :
    (∃ e t, valueAt kvs l.1 = some (.str e t) ∧ endL ls l.1 = some e) ∨ (valueAt kvs l.1 = none ∧ endL ls l.1 = none) := by
  by_cases h : l.1 ∈ ds
  · exact .inl (I.get (by simpa using K.nd) hl h)
  · exact .inr ⟨I.none h, (K.never hn hm h).endL⟩
end

end
-- C12
section
open PySem PySem.W PySem.Calls PyProof.Rows
set_option maxRecDepth 100000
set_option linter.unusedVariables false
section
theorem news_fun {h₀ h : Heap} {L : Addr} {news : List (Addr × Obj)} (N : News h₀ L h news) {a : Addr} {o o' : Obj} (h1 : (a, o) ∈ news) (h2 : (a, o') ∈ news) : o = o' := Option.some.inj ((N _ h1).1.symm.trans (N _ h2).1)
theorem mem_off3 {own : List (Addr × Obj)} {a b c : Addr} {p : Addr × Obj} : p ∈ off (off (off own a) b) c ↔ p ∈ own ∧ p.1 ≠ a ∧ p.1 ≠ b ∧ p.1 ≠ c := by
  rw [mem_off, mem_off, mem_off]
  constructor
  · rintro ⟨⟨⟨h1, h2⟩, h3⟩, h4⟩; exact ⟨h1, h2, h3, h4⟩
  · rintro ⟨h1, h2, h3, h4⟩; exact ⟨⟨⟨h1, h2⟩, h3⟩, h4⟩
theorem stored_ne {kvs : List (Str × Value)} {x : Str} {v : Value} : stored kvs x v ≠ [] := fun e => by
  have : valueAt (stored kvs x v) x = some v := valueAt_stored_self
  rw [e] at this; cases this
theorem dict_ne_empty {prog : Program} {w : World} {o : Obj} {kvs : List (Str × Value)} (h : o.IsDictOf (PySem.strKind prog w) kvs) (hne : kvs ≠ []) : o ≠ dictOf [] 0 := fun e => by
  obtain ⟨es, ep, _, hd, _, hp, _⟩ := h
  rw [e] at hd
  cases hd
  cases kvs with
  | nil => exact hne rfl
  | cons kv kvs => cases hp
theorem TabIs.mono {pos : Pos} {qual : Str} {ps : Array Value} {own own' : List (Addr × Obj)} (h : TabIs pos qual ps own) (hs : ∀ c oc vs, (c, oc) ∈ own → oc.data = .fields vs → (c, oc) ∈ own') : TabIs pos qual ps own' := by
  rcases h with h | ⟨c', oc, vs, t, h1, h2, h3, h4⟩
  · exact .inl h
  · exact .inr ⟨c', oc, vs, t, h1, hs _ _ _ h2 h3, h3, h4⟩
theorem fields_apart {prog : Program} {w : World} {oi : Obj} {own : List (Addr × Obj)} {G : List NI} (g : Graph prog w oi own G) (fn : ∀ a o o', (a, o) ∈ own → (a, o') ∈ own → o = o') {c : Addr} {oc : Obj} {vs : Array Value} (h : (c, oc) ∈ own) (hd : oc.data = .fields vs) : ∀ i ∈ G, c ≠ i.a ∧ c ≠ i.l := fun i hi => by
  obtain ⟨t, tn, ws, ep, q1, q2, _, _⟩ := g.infos i hi
  constructor
  · intro e
    have := fn c oc _ h (e ▸ q1)
    rw [this] at hd; cases hd
  · intro e
    have := fn c oc _ h (e ▸ q2)
    rw [this] at hd; cases hd
theorem ToldI.add {prog : Program} {w : World} {own0 : List (Addr × Obj)} {pos : Pos} {qual : Str} {ld sa da ia : Addr} {ls : List (Str × List Str)} {oL oi : Obj} {own : List (Addr × Obj)} {G : List NI} {kvs : List (Str × Value)} {ps : Array Value}
    (I : ToldI prog w own0 pos qual ld sa da ia ls oL oi own G kvs ps) {p : Str} {pcs : List Str} {tv : Tok} {oL' oi' : Obj} {own' : List (Addr × Obj)} {G' : List NI} {h₀ h : Heap} {L J : Addr} {it f1 f2 fo : Obj} {f : Addr}
    (hd' : oL'.IsDictOf (PySem.strKind prog w) (stored kvs p (.str (leadF p pcs) tv))) (hp : p ∉ places ls) (fn : ∀ a o o', (a, o) ∈ own → (a, o') ∈ own → o = o')
    (N : News h₀ L h ((sa, f1) :: (da, f2) :: (ia, oi') :: own')) (g' : Graph prog w oi' own' G') (ap' : Apart own' sa da ia) (hpure : G'.map NI.pure = addP (G.map NI.pure) p (leadF p pcs))
    (hk : ∀ q ∈ (f, fo) :: (274, tabObj ps) :: (J, it) :: (ld, oL') :: own, (∀ i ∈ G, q.1 ≠ i.a ∧ q.1 ≠ i.l) → q ∈ own' ∧ ∀ i ∈ G', q.1 ≠ i.a ∧ q.1 ≠ i.l)
    (hJ : ∀ q ∈ own, q.1 ≠ J) (hic : it.cls = .type "list_iterator") (a1 : @Ne Nat J 274) (a2 : @Ne Nat J ld) (a3 : @Ne Nat ld 274) (a4 : @Ne Nat J sa) (a5 : @Ne Nat J da) (a6 : @Ne Nat J ia) :
    ∃ own3, News h₀ L h ((J, it) :: (274, tabObj ps) :: (ld, oL') :: (sa, f1) :: (da, f2) :: (ia, oi') :: own3) ∧ (∀ q ∈ (274, tabObj ps) :: (ld, oL') :: (sa, f1) :: (da, f2) :: (ia, oi') :: own3, q.1 ≠ J) ∧
      ToldI prog w own0 pos qual ld sa da ia (ls ++ [(p, pcs)]) oL' oi' own3 G' (stored kvs p (.str (leadF p pcs) tv)) ps := by
  have kJ := hk _ (.tail _ (.tail _ (.head _))) (apart_of I.graph hJ)
  have kL := hk _ (.tail _ (.tail _ (.tail _ (.head _)))) (apart_of I.graph I.nld)
  have kT := hk _ (.tail _ (.head _)) (apart_of I.graph I.ntab)
  have nf : ∀ {a : Addr} {o o' : Obj}, (a, o) ∈ own' → (a, o') ∈ own' → o = o' := fun h1 h2 => news_fun N (.tail _ (.tail _ (.tail _ h1))) (.tail _ (.tail _ (.tail _ h2)))
  have d1 : ∀ i ∈ G', (274 : Addr) ≠ i.d := fun i hi e => by
    obtain ⟨_, _, _, _, _, _, q4, _⟩ := g'.infos i hi
    exact absurd (nf (e ▸ kT.1) q4) (by simp)
  have d2 : ∀ i ∈ G', ld ≠ i.d := fun i hi e => by
    obtain ⟨_, _, _, _, _, _, q4, _⟩ := g'.infos i hi
    exact dict_ne_empty hd' stored_ne (nf (e ▸ kL.1) q4)
  have d3 : ∀ i ∈ G', J ≠ i.d := fun i hi e => by
    obtain ⟨_, _, _, _, _, _, q4, _⟩ := g'.infos i hi
    have := nf (e ▸ kJ.1) q4
    rw [this] at hic; exact absurd hic (by simp)
  have keepq : ∀ q ∈ own, (∀ i ∈ G, q.1 ≠ i.a ∧ q.1 ≠ i.l) → q ∈ off (off (off own' 274) ld) J := fun q hq ha =>
    mem_off3.mpr ⟨(hk q (.tail _ (.tail _ (.tail _ (.tail _ hq)))) ha).1, I.ntab q hq, I.nld q hq, hJ q hq⟩
  refine ⟨off (off (off own' 274) ld) J, fun q hq => ?_, fun q hq => ?_, ?_⟩
  · rcases List.mem_cons.mp hq with rfl | hq
    · exact N _ (.tail _ (.tail _ (.tail _ kJ.1)))
    rcases List.mem_cons.mp hq with rfl | hq
    · exact N _ (.tail _ (.tail _ (.tail _ kT.1)))
    rcases List.mem_cons.mp hq with rfl | hq
    · exact N _ (.tail _ (.tail _ (.tail _ kL.1)))
    rcases List.mem_cons.mp hq with rfl | hq
    · exact N _ (.head _)
    rcases List.mem_cons.mp hq with rfl | hq
    · exact N _ (.tail _ (.head _))
    rcases List.mem_cons.mp hq with rfl | hq
    · exact N _ (.tail _ (.tail _ (.head _)))
    · exact N _ (.tail _ (.tail _ (.tail _ (mem_off3.mp hq).1)))
  · rcases List.mem_cons.mp hq with rfl | hq
    · exact Ne.symm a1
    rcases List.mem_cons.mp hq with rfl | hq
    · exact Ne.symm a2
    rcases List.mem_cons.mp hq with rfl | hq
    · exact Ne.symm a4
    rcases List.mem_cons.mp hq with rfl | hq
    · exact Ne.symm a5
    rcases List.mem_cons.mp hq with rfl | hq
    · exact Ne.symm a6
    · exact (mem_off3.mp hq).2.2.2
  · exact {
      graph := ((g'.offA kT.2 d1).offA kL.2 d2).offA kJ.2 d3
      pure := by rw [hpure, I.pure, List.foldl_append]; rfl
      ap := (ap'.off.off).off
      nld := fun q hq => (mem_off3.mp hq).2.2.1
      ntab := fun q hq => (mem_off3.mp hq).2.1
      keep := fun q hq => keepq q (I.keep q hq) (I.kept q hq)
      kept := fun q hq => (hk q (.tail _ (.tail _ (.tail _ (.tail _ (I.keep q hq))))) (I.kept q hq)).2
      dict := hd'
      leads := by
        rw [stored_new (by rw [LeadsAre.keys I.leads]; exact hp)]
        exact I.leads.snoc p pcs tv
      tab := I.tab.mono fun c oc vs hm hd => keepq (c, oc) hm (fields_apart I.graph fn hm hd) }
theorem not_in_take {ls : List (Str × List Str)} (h : (ls.map (·.1)).Nodup) {i : Nat} {p : Str} {pcs : List Str} (e : ls[i]? = some (p, pcs)) : p ∉ places (ls.take i) := by
  unfold places
  rw [List.map_take]
  exact nodup_at h (by rw [List.getElem?_map, e]; rfl)
theorem take_next {α : Type} {ls : List α} {i : Nat} {x : α} (e : ls[i]? = some x) : ls.take i ++ [x] = ls.take (i + 1) := by
  rw [List.take_add_one, e]; rfl
theorem told_map {m₀ : Str → Option Value} {a b vp vq : Option Value} : (fun y => if y = Str.ofString "pieces" then b else if y = Str.ofString "place" then a else if y = Str.ofString "place" then vp else if y = Str.ofString "pieces" then vq else m₀ y) = fun y => if y = Str.ofString "place" then a else if y = Str.ofString "pieces" then b else m₀ y := by
  funext y
  by_cases h1 : y = Str.ofString "pieces"
  · have : y ≠ Str.ofString "place" := by rw [h1]; decide
    simp [h1]
    intro h; exact absurd h (by decide)
  · simp only [h1, if_false]
    by_cases h2 : y = Str.ofString "place" <;> simp [h2]
theorem told_map0 {m₀ : Str → Option Value} : m₀ = fun y => if y = Str.ofString "place" then m₀ (Str.ofString "place") else if y = Str.ofString "pieces" then m₀ (Str.ofString "pieces") else m₀ y := by
  funext y
  by_cases h : y = Str.ofString "place"
  · rw [if_pos h, h]
  · rw [if_neg h]
    by_cases h2 : y = Str.ofString "pieces"
    · rw [if_pos h2, h2]
    · rw [if_neg h2]
theorem ne3 {a b : Addr × Obj} {r : List (Addr × Obj)} {x : Addr} (h1 : a.1 ≠ x) (h2 : b.1 ≠ x) (h3 : ∀ p ∈ r, p.1 ≠ x) : ∀ p ∈ a :: b :: r, p.1 ≠ x := fun p hp => by
  rcases List.mem_cons.mp hp with rfl | hp
  · exact h1
  rcases List.mem_cons.mp hp with rfl | hp
  · exact h2
  · exact h3 p hp
theorem told_start {prog : Program} {w : World} {own0 : List (Addr × Obj)} {pos : Pos} {qual : Str} {ld sa da ia : Addr} {oL oi : Obj} (h1 : oi.IsDictOf (PySem.strKind prog w) []) (h2 : oL.IsDictOf (PySem.strKind prog w) [])
    (a1 : ∀ p ∈ own0, p.1 ≠ ld) (a2 : ∀ p ∈ own0, p.1 ≠ 274) (a3 : ∀ p ∈ own0, p.1 ≠ sa) (a4 : ∀ p ∈ own0, p.1 ≠ da) (a5 : ∀ p ∈ own0, p.1 ≠ ia) : ToldI prog w own0 pos qual ld sa da ia [] oL oi own0 [] [] #[] where
  graph := ⟨h1, (fun _ h => nomatch h), (fun _ h => nomatch h), (fun _ h => nomatch h), (fun _ h => nomatch h), (fun _ h => nomatch h), (fun _ h => nomatch h), (fun _ h => nomatch h)⟩
  pure := rfl
  ap := ⟨a3, a4, a5⟩
  nld := a1
  ntab := a2
  keep := fun _ h => h
  kept := fun _ _ _ h => nomatch h
  dict := h2
  leads := trivial
  tab := .inl rfl
end

end
-- C13
section
open PySem PySem.W PySem.Calls PyProof.Rows
set_option maxRecDepth 100000
set_option linter.unusedVariables false
section
theorem unseen_bound (g : List PN) (S : Str → Bool) (n : Nat) (h : ∀ p ∈ g, p.2.2.length ≤ n) : unseen g S ≤ g.length * (n + 2) := by
  unfold unseen
  induction g with
  | nil => simp
  | cons p g ih =>
    have h1 := ih fun q hq => h q (.tail _ hq)
    have h2 := h p (.head _)
    simp only [List.filter_cons, List.length_cons, Nat.succ_mul]
    split
    · simp only [List.map_cons, List.sum_cons]; omega
    · omega
theorem told_unseen {prog : Program} {w : World} {own0 : List (Addr × Obj)} {pos : Pos} {qual : Str} {ld sa da ia : Addr} {links : List (Str × List Str)} {oL oi : Obj} {own : List (Addr × Obj)} {G : List NI} {kvs : List (Str × Value)} {ps : Array Value}
    (I : ToldI prog w own0 pos qual ld sa da ia links oL oi own G kvs ps) (hl : links.length ≤ 6) : unseen (G.map NI.pure) (fun _ => false) ≤ 2000 := by
  have h := graph_small I hl
  refine Nat.le_trans (unseen_bound _ _ 6 fun p hp => ?_) ?_
  · obtain ⟨i, hi, rfl⟩ := List.mem_map.mp hp
    exact h.2 i hi
  · rw [List.length_map]; omega
theorem told_closed {prog : Program} {w : World} {own0 : List (Addr × Obj)} {pos : Pos} {qual : Str} {ld sa da ia : Addr} {links : List (Str × List Str)} {oL oi : Obj} {own : List (Addr × Obj)} {G : List NI} {kvs : List (Str × Value)} {ps : Array Value}
    (I : ToldI prog w own0 pos qual ld sa da ia links oL oi own G kvs ps) (hn : (places links).Nodup) : ∀ j ∈ G, ∀ y ∈ j.succ, ∃ k ∈ G, k.key = y := fun j hj y hy => by
  have S := shape_of links hn
  rw [← I.pure] at S
  have h1 := (S.val j.pure (List.mem_map.mpr ⟨j, hj, rfl⟩)).2
  have hy : y ∈ j.pure.2.2 := hy
  rw [h1] at hy
  obtain ⟨l, hl, rfl⟩ := List.mem_map.mp hy
  obtain ⟨p, hp, e⟩ := List.mem_map.mp (S.has l (List.mem_filter.mp hl).1).1
  obtain ⟨k, hk, rfl⟩ := List.mem_map.mp hp
  exact ⟨k, hk, e⟩
theorem if_midE {prog : Program} {w : World} {A : Around} {s : Shared} {Gd : Heap → Prop} {g : Heap} {L : Addr} {m : Str → Option Value} {x : Sem Flow} {Q : Flow → Shared → Prop} {E : Value → Shared → Prop} (Mid : (Str → Option Value) → (Str → Option Value) → List (Addr × Obj) → Prop) (F : Fr g L s.heap m)
    (h1 : wpAny (model prog w) A x (MidPost Gd L (Mid m) (fun _ _ => False) s) (fun _ _ => False) s) (h2 : ∀ f s₃, MidPost Gd L (Mid m) (fun _ _ => False) s f s₃ → Q f s₃) : wpAny (model prog w) A x Q E s :=
  wpAny_mono h1 h2 fun _ _ e => e.elim
theorem unrotP {h₀ h : Heap} {L : Addr} {a b s1 s2 s3 r : Addr × Obj} {own : List (Addr × Obj)} (N : News h₀ L h (s1 :: s2 :: s3 :: r :: a :: b :: own)) : News h₀ L h (a :: b :: s1 :: s2 :: s3 :: r :: own) :=
  fun p hp => N p (by
    simp only [List.mem_cons] at hp ⊢
    rcases hp with h | h | h | h | h | h | h <;> simp [h])
theorem pullC {h₀ h : Heap} {L : Addr} {a b s1 s2 s3 r : Addr × Obj} {c : Addr} {o : Obj} {own : List (Addr × Obj)} (N : News h₀ L h (a :: b :: s1 :: s2 :: s3 :: r :: own)) (hc : (c, o) ∈ own) : News h₀ L h ((c, o) :: a :: b :: s1 :: s2 :: s3 :: r :: off own c) :=
  fun p hp => by
    rcases List.mem_cons.mp hp with rfl | hp
    · exact N _ (.tail _ (.tail _ (.tail _ (.tail _ (.tail _ (.tail _ hc))))))
    · exact N p (by
        simp only [List.mem_cons] at hp ⊢
        rcases hp with h | h | h | h | h | h | h
        · simp [h]
        · simp [h]
        · simp [h]
        · simp [h]
        · simp [h]
        · simp [h]
        · simp [(mem_off.mp h).1])
theorem ToldI.offC {prog : Program} {w : World} {own0 : List (Addr × Obj)} {pos : Pos} {qual : Str} {ld sa da ia : Addr} {ls : List (Str × List Str)} {oL oi : Obj} {own : List (Addr × Obj)} {G : List NI} {kvs : List (Str × Value)} {ps : Array Value} {c : Addr} {o : Obj} {v : Option Value}
    (I : ToldI prog w own0 pos qual ld sa da ia ls oL oi own G kvs ps) (hc : (c, o) ∈ own0) (hd : o.data = .cell v) {h₀ h : Heap} {L : Addr} {all : List (Addr × Obj)} (N : News h₀ L h all) (hs : ∀ p ∈ own, p ∈ all) : Graph prog w oi (off own c) G :=
  I.graph.offA (I.kept _ hc) fun i hi e => by
    obtain ⟨_, _, _, _, _, _, q4, _⟩ := I.graph.infos i hi
    have := news_fun N (hs _ (I.keep _ hc)) (hs _ (e ▸ q4))
    rw [this] at hd; cases hd
end

end
-- C14
section
open PySem PySem.W PySem.Calls PyProof.Rows
set_option maxRecDepth 100000
set_option linter.unusedVariables false
section
theorem LeadsAre.value : ∀ {kvs : List (Str × Value)} {ls : List (Str × List Str)}, LeadsAre kvs ls → (places ls).Nodup → ∀ {l : Link}, l ∈ ls → ∃ t, valueAt kvs l.1 = some (.str l.lead t)
  | [], [], _, _, l, h => nomatch h
  | (k, v) :: kvs, (p, ps) :: ls, h, hn, l, hl => by
    (refine hide fun hHid => ?_; rcases h with ⟨rfl, ⟨t, rfl⟩, h3⟩ <;> (refine hHid ?_; clear hHid))
    have h2 := List.nodup_cons.mp hn
    rcases List.mem_cons.mp hl with rfl | hl
    · exact ⟨t, by simp [valueAt, Link.lead]⟩
    · (refine hide fun hHid => ?_; rcases LeadsAre.value h3 h2.2 hl with ⟨t', e⟩ <;> (refine hHid ?_; clear hHid))
      refine ⟨t', ?_⟩
      have hne : k ≠ l.1 := fun e => h2.1 (show k ∈ ls.map (·.1) by rw [e]; exact List.mem_map.mpr ⟨l, hl, rfl⟩)
      unfold valueAt at e ⊢
      rw [List.find?_cons_of_neg (by simpa using hne)]
      exact e
theorem LeadsAre.isSome {kvs : List (Str × Value)} {ls : List (Str × List Str)} (h : LeadsAre kvs ls) (x : Str) : (valueAt kvs x).isSome = inP ls x := by
  cases e : inP ls x with
  | true => exact valueAt_isSome.mpr (by rw [LeadsAre.keys h]; exact inP_iff.mp e)
  | false => exact valueAt_none (by
      rw [LeadsAre.keys h]
      intro hm
      have := inP_iff.mpr hm
      rw [e] at this; cases this)
/-- told's state at the head of its while, and within a batch -/
structure WI (prog : Program) (w : World) (links : List Link) (own0 : List (Addr × Obj)) (sa da ia ra dE : Addr) (oi oE : Obj) (own : List (Addr × Obj)) (G : List NI) (kvs : List (Str × Value)) (ds os rs : List Str) (vsR : List Value) : Prop where
  graph : Graph prog w oi own G
  ap : Apart own sa da ia
  nR : ∀ p ∈ own, p.1 ≠ ra
  nE : ∀ p ∈ own, p.1 ≠ dE
  hS : StrsAre vsR rs
  inv : KInv links (G.map NI.pure) ds os rs
  ends : EndsI links ds kvs
  dict : oE.IsDictOf (PySem.strKind prog w) kvs
  len : G.length ≤ 12
  keep : ∀ p ∈ own0, p ∈ own
  kept : ∀ p ∈ own0, ∀ i ∈ G, p.1 ≠ i.a
theorem Graph.free {prog : Program} {w : World} {oi : Obj} {own : List (Addr × Obj)} {G : List NI} (g : Graph prog w oi own G) {x : Addr} (h : ∀ p ∈ own, p.1 ≠ x) : ∀ i ∈ G, x ≠ i.a ∧ x ≠ i.l ∧ x ≠ i.d := fun i hi => by
  (refine hide fun hHid => ?_; rcases g.infos i hi with ⟨t, tn, vs, ep, q1, q2, q4, q3⟩ <;> (refine hHid ?_; clear hHid))
  exact ⟨(h _ q1).symm, (h _ q2).symm, (h _ q4).symm⟩
theorem free_turn {G G' : List NI} (hks : ∀ k ∈ G', ∃ k0 ∈ G, k.a = k0.a ∧ k.l = k0.l ∧ k.kd = k0.kd) {x : Addr} (h : ∀ i ∈ G, x ≠ i.a ∧ x ≠ i.l ∧ x ≠ i.d) : ∀ i ∈ G', x ≠ i.a ∧ x ≠ i.l ∧ x ≠ i.d := fun i hi => by
  (refine hide fun hHid => ?_; rcases hks i hi with ⟨k, hk, e1, e2, e3⟩ <;> (refine hHid ?_; clear hHid))
  have e4 : i.d = k.d := congrArg Prod.snd e3
  rw [e1, e2, e4]; exact h k hk
theorem WI.small {prog : Program} {w : World} {links : List Link} {own0 : List (Addr × Obj)} {sa da ia ra dE : Addr} {oi oE : Obj} {own : List (Addr × Obj)} {G : List NI} {kvs : List (Str × Value)} {ds os rs : List Str} {vsR : List Value}
    (I : WI prog w links own0 sa da ia ra dE oi oE own G kvs ds os rs vsR) : ds.length + os.length + vsR.length ≤ 12 ∧ kvs.length = ds.length := by
  have h1 := nodup_len I.inv.nd I.inv.node
  rw [List.length_map, List.length_map] at h1
  have h2 := I.len
  have h3 := StrsAre.len I.hS
  simp only [List.length_append] at h1
  refine ⟨by omega, ?_⟩
  have := congrArg List.length I.ends.1
  simpa using this
theorem WI.start {prog : Program} {w : World} {links : List Link} {own0 : List (Addr × Obj)} {sa da ia ra dE : Addr} {oi oE : Obj} {own : List (Addr × Obj)} {G : List NI} {vsR : List Value} (hn : (places links).Nodup)
    (g : Graph prog w oi own G) (hp : G.map NI.pure = links.foldl addL []) (ap : Apart own sa da ia) (nR : ∀ p ∈ own, p.1 ≠ ra) (nE : ∀ p ∈ own, p.1 ≠ dE) (hS : StrsAre vsR ((G.filter fun i => decide (i.n = 0)).map (·.key))) (hd : oE.IsDictOf (PySem.strKind prog w) []) (hl : G.length ≤ 12)
    (keep : ∀ p ∈ own0, p ∈ own) (kept : ∀ p ∈ own0, ∀ i ∈ G, p.1 ≠ i.a) : WI prog w links own0 sa da ia ra dE oi oE own G [] [] [] ((G.filter fun i => decide (i.n = 0)).map (·.key)) vsR where
  graph := g
  ap := ap
  nR := nR
  nE := nE
  hS := hS
  inv := by
    have := KInv.start hn
    have e : (G.filter fun i => decide (i.n = 0)).map (·.key) = ((links.foldl addL []).filter fun p => decide (p.2.1 = 0)).map (·.1) := by
      rw [← hp, List.filter_map, List.map_map]; rfl
    rw [e, hp]; exact this
  ends := .nil
  dict := hd
  len := hl
  keep := keep
  kept := kept
/-- a batch is handed out -/
theorem WI.out {prog : Program} {w : World} {links : List Link} {own0 : List (Addr × Obj)} {sa da ia ra dE : Addr} {oi oE : Obj} {own : List (Addr × Obj)} {G : List NI} {kvs : List (Str × Value)} {ds rs : List Str} {vsR : List Value}
    (I : WI prog w links own0 sa da ia ra dE oi oE own G kvs ds [] rs vsR) {own' : List (Addr × Obj)} {G' : List NI} (g' : Graph prog w oi own' G') (ap' : Apart own' sa da ia) (nra' : ∀ p ∈ own', p.1 ≠ ra) (hp : G'.map NI.pure = rs.foldl (fun g r => setP r (-1) g) (G.map NI.pure))
    (hk : ∀ p ∈ (dE, oE) :: own, (∀ k ∈ G, p.1 ≠ k.a) → p ∈ own') (hks : ∀ k ∈ G', ∃ k0 ∈ G, k.a = k0.a ∧ k.l = k0.l ∧ k.kd = k0.kd) :
    (dE, oE) ∈ own' ∧ WI prog w links own0 sa da ia ra dE oi oE (off own' dE) G' kvs ds rs [] [] := by
  have fE := free_turn hks (I.graph.free I.nE)
  refine ⟨hk _ (.head _) fun k hk => (I.graph.free I.nE k hk).1, ?_⟩
  exact {
    graph := g'.offA (fun i hi => ⟨(fE i hi).1, (fE i hi).2.1⟩) fun i hi => (fE i hi).2.2
    ap := ap'.off
    nR := off_sub nra'
    nE := off_ne
    hS := .nil
    inv := by rw [hp]; exact I.inv.out
    ends := I.ends
    dict := I.dict
    len := by
      have := congrArg List.length hp
      rw [List.length_map] at this
      have h2 : ∀ (xs : List Str) (g : List PN), (xs.foldl (fun g r => setP r (-1) g) g).length = g.length := fun xs g => by
        have := congrArg List.length (setPs_keys (n := -1) (xs := xs) (g := g))
        simpa using this
      rw [this, h2, List.length_map]; exact I.len
    keep := fun p hp' => mem_off.mpr ⟨hk p (.tail _ (I.keep p hp')) (I.kept p hp'), I.nE p (I.keep p hp')⟩
    kept := fun p hp' i hi => by
      (refine hide fun hHid => ?_; rcases hks i hi with ⟨k, hk, e, _⟩ <;> (refine hHid ?_; clear hHid))
      rw [e]; exact I.kept p hp' k hk }
/-- what done wants to know of the node at hand -/
theorem WI.node {prog : Program} {w : World} {links : List Link} {own0 : List (Addr × Obj)} {sa da ia ra dE : Addr} {oi oE : Obj} {own : List (Addr × Obj)} {G : List NI} {kvs : List (Str × Value)} {ds os rs : List Str} {y : Str} {vsR : List Value} (hn : (places links).Nodup) (hl : links.length ≤ 6)
    (I : WI prog w links own0 sa da ia ra dE oi oE own G kvs ds (y :: os) rs vsR) : ∃ j ∈ G, j.key = y ∧ j.n = -1 ∧ j.succ = succL links y ∧ j.succ.length ≤ 6 ∧ (∀ s ∈ j.succ, ∃ k ∈ G, k.key = s ∧ k.n = 1) ∧ j.succ.Nodup := by
  (refine hide fun hHid => ?_; rcases List.mem_map.mp (I.inv.node y (by simp)) with ⟨p, hp, e⟩ <;> (refine hHid ?_; clear hHid))
  (refine hide fun hHid => ?_; rcases List.mem_map.mp hp with ⟨j, hj, rfl⟩ <;> (refine hHid ?_; clear hHid))
  have hp2 : j.succ = succL links j.key := I.inv.succ j.pure hp
  have e : j.key = y := e
  subst e
  have hy : j.key ∉ ds := fun h => (List.nodup_append.mp (List.nodup_append.mp I.inv.nd).1).2.2 j.key h j.key (.head _) rfl
  refine ⟨j, hj, rfl, I.inv.sO j.pure hp (.head _), hp2, by rw [hp2]; exact Nat.le_trans (succL_len _) hl, fun s hs => ?_, by rw [hp2]; exact succL_nd hn _⟩
  rw [hp2] at hs
  (refine hide fun hHid => ?_; rcases mem_succL.mp hs with ⟨l, hl, rfl, e2⟩ <;> (refine hHid ?_; clear hHid))
  (refine hide fun hHid => ?_; rcases List.mem_map.mp (I.inv.has l hl).1 with ⟨q, hq, e3⟩ <;> (refine hHid ?_; clear hHid))
  (refine hide fun hHid => ?_; rcases List.mem_map.mp hq with ⟨k, hk, rfl⟩ <;> (refine hHid ?_; clear hHid))
  have e3 : k.key = l.1 := e3
  refine ⟨k, hk, e3, I.inv.sW k.pure hq fun h => hy ?_⟩
  have h : k.key ∈ ds ++ (j.key :: os) ++ rs := h
  rw [e3] at h
  exact e2 ▸ (I.inv.lk l hl).mp h
/-- what the node's end is, as the program reckons it -/
theorem WI.value {prog : Program} {w : World} {links : List Link} {own0 : List (Addr × Obj)} {sa da ia ra dE : Addr} {oi oE : Obj} {own : List (Addr × Obj)} {G : List NI} {kvs : List (Str × Value)} {ds os rs : List Str} {y : Str} {vsR : List Value} (hn : (places links).Nodup)
    (I : WI prog w links own0 sa da ia ra dE oi oE own G kvs ds (y :: os) rs vsR) (h : inP links y = true) : ∃ l ∈ links, l.1 = y ∧ ∃ e t m, valueAt kvs l.lead = some (.str e t) ∧ Ends links y e m ∧ m ≤ ((ds ++ [y]).filter (inP links)).length := by
  (refine hide fun hHid => ?_; rcases List.mem_map.mp (inP_iff.mp h) with ⟨l, hl, rfl⟩ <;> (refine hHid ?_; clear hHid))
  have hd := (I.inv.lk l hl).mp (by simp)
  (refine hide fun hHid => ?_; rcases I.ends.2 _ hd with ⟨e, t, m, h1, h2, h3⟩ <;> (refine hHid ?_; clear hHid))
  refine ⟨l, hl, rfl, e, t, m + 1, h1, ends_in hn hl h2, ?_⟩
  rw [List.filter_append, List.length_append]
  have : ([l.1].filter (inP links)).length = 1 := by simp [h]
  rw [this]; exact Nat.succ_le_succ h3
theorem WI.fresh {prog : Program} {w : World} {links : List Link} {own0 : List (Addr × Obj)} {sa da ia ra dE : Addr} {oi oE : Obj} {own : List (Addr × Obj)} {G : List NI} {kvs : List (Str × Value)} {ds os rs : List Str} {y : Str} {vsR : List Value}
    (I : WI prog w links own0 sa da ia ra dE oi oE own G kvs ds (y :: os) rs vsR) : y ∉ ds := fun h => (List.nodup_append.mp (List.nodup_append.mp I.inv.nd).1).2.2 y h y (.head _) rfl
theorem WI.done {prog : Program} {w : World} {links : List Link} {own0 : List (Addr × Obj)} {sa da ia ra dE : Addr} {oi oE oE' : Obj} {own : List (Addr × Obj)} {G : List NI} {kvs : List (Str × Value)} {ds os rs : List Str} {y : Str} {vsR : List Value} (hn : (places links).Nodup)
    (I : WI prog w links own0 sa da ia ra dE oi oE own G kvs ds (y :: os) rs vsR) {e : Str} {t : Tok} {m : Nat} (he : Ends links y e m) (hm : m ≤ ((ds ++ [y]).filter (inP links)).length) (hd : oE'.IsDictOf (PySem.strKind prog w) (stored kvs y (.str e t)))
    {own' : List (Addr × Obj)} {G' : List NI} {vs' : List Value} {J : Addr} {it : Obj} (g' : Graph prog w oi own' G') (ap' : Apart own' sa da ia) (nra' : ∀ p ∈ own', p.1 ≠ ra) (hp : G'.map NI.pure = (succL links y).foldl (fun g r => setP r 0 g) (setP y (-2) (G.map NI.pure)))
    (hk : ∀ p ∈ (J, it) :: (dE, oE') :: own, (∀ k ∈ G, p.1 ≠ k.a) → p ∈ own') (hks : ∀ k ∈ G', ∃ k0 ∈ G, k.a = k0.a ∧ k.l = k0.l ∧ k.kd = k0.kd) (hS : StrsAre vs' (rs ++ succL links y)) (nJ : ∀ p ∈ own, p.1 ≠ J) :
    (J, it) ∈ own' ∧ (dE, oE') ∈ own' ∧ WI prog w links own0 sa da ia ra dE oi oE' (off (off own' J) dE) G' (stored kvs y (.str e t)) (ds ++ [y]) os (rs ++ succL links y) vs' := by
  have fE := free_turn hks (I.graph.free I.nE)
  have fJ := free_turn hks (I.graph.free nJ)
  refine ⟨hk _ (.head _) fun k hk => (I.graph.free nJ k hk).1, hk _ (.tail _ (.head _)) fun k hk => (I.graph.free I.nE k hk).1, ?_⟩
  exact {
    graph := (g'.offA (fun i hi => ⟨(fJ i hi).1, (fJ i hi).2.1⟩) fun i hi => (fJ i hi).2.2).offA (fun i hi => ⟨(fE i hi).1, (fE i hi).2.1⟩) fun i hi => (fE i hi).2.2
    ap := ap'.off.off
    nR := off_sub (off_sub nra')
    nE := off_ne
    hS := hS
    inv := by rw [hp]; exact I.inv.done hn
    ends := I.ends.more I.fresh he hm
    dict := hd
    len := by
      have := congrArg List.length hp
      rw [List.length_map] at this
      have h2 : ∀ (xs : List Str) (g : List PN), (xs.foldl (fun g r => setP r 0 g) g).length = g.length := fun xs g => by
        have := congrArg List.length (setPs_keys (n := 0) (xs := xs) (g := g))
        simpa using this
      have h3 := congrArg List.length (setP_keys (x := y) (n := -2) (g := G.map NI.pure))
      simp only [List.length_map] at h3
      rw [this, h2, h3]; exact I.len
    keep := fun p hp' => mem_off.mpr ⟨mem_off.mpr ⟨hk p (.tail _ (.tail _ (I.keep p hp'))) (I.kept p hp'), nJ p (I.keep p hp')⟩, I.nE p (I.keep p hp')⟩
    kept := fun p hp' i hi => by
      (refine hide fun hHid => ?_; rcases hks i hi with ⟨k, hk, e, _⟩ <;> (refine hHid ?_; clear hHid))
      rw [e]; exact I.kept p hp' k hk }
/-- the batch's tuple joins what is kept -/
theorem WI.with {prog : Program} {w : World} {links : List Link} {own0 : List (Addr × Obj)} {sa da ia ra dE : Addr} {oi oE : Obj} {own : List (Addr × Obj)} {G : List NI} {kvs : List (Str × Value)} {ds os rs : List Str} {vsR vsR0 : List Value} {ep : Nat} {att : Obj}
    (I : WI prog w links own0 sa da ia ra dE oi oE own G kvs ds os rs vsR) {D : Addr} {xs : Array Value} {h₀ h : Heap} {L : Addr} {all : List (Addr × Obj)} (N : News h₀ L h all) (hD : (D, ({ cls := .type "tuple", data := .seq xs } : Obj)) ∈ all) (hsub : ∀ p ∈ own, p ∈ all)
    (h1 : (sa, instObj 146 da) ∈ all) (h2 : (da, att) ∈ all) (h2' : att.cls = .type "dict") (h3 : (ia, oi) ∈ all) (h4 : (ra, listOf vsR0.toArray ep) ∈ all) (h5 : (dE, oE) ∈ all) :
    WI prog w links ((D, { cls := .type "tuple", data := .seq xs }) :: own0) sa da ia ra dE oi oE ((D, { cls := .type "tuple", data := .seq xs }) :: own) G kvs ds os rs vsR := by
  have c1 : oi.cls = .type "dict" := by (refine hide fun hHid => ?_; rcases I.graph.dict with ⟨_, _, h, _⟩ <;> (refine hHid ?_; clear hHid)); exact h.1
  have c2 : oE.cls = .type "dict" := by (refine hide fun hHid => ?_; rcases I.dict with ⟨_, _, h, _⟩ <;> (refine hHid ?_; clear hHid)); exact h.1
  have n1 : D ≠ sa := ne_of_cls N h1 hD (by simp [instObj])
  have n2 : D ≠ da := ne_of_cls N h2 hD (by rw [h2']; simp)
  have n3 : D ≠ ia := ne_of_cls N h3 hD (by rw [c1]; simp)
  have n4 : D ≠ ra := ne_of_cls N h4 hD (by simp)
  have n5 : D ≠ dE := ne_of_cls N h5 hD (by rw [c2]; simp)
  have two : ∀ {P : Addr → Prop}, P D → (∀ p ∈ own, P p.1) → ∀ p ∈ (D, ({ cls := .type "tuple", data := .seq xs } : Obj)) :: own, P p.1 := fun h1 h2 p hp => by
    rcases List.mem_cons.mp hp with rfl | hp
    · exact h1
    · exact h2 p hp
  exact { I with
    graph := I.graph.mono fun p hp => .tail _ hp
    ap := ⟨two (P := (· ≠ sa)) n1 I.ap.sa, two (P := (· ≠ da)) n2 I.ap.da, two (P := (· ≠ ia)) n3 I.ap.ia⟩
    nR := two (P := (· ≠ ra)) n4 I.nR
    nE := two (P := (· ≠ dE)) n5 I.nE
    keep := fun p hp => by
      rcases List.mem_cons.mp hp with rfl | hp
      · exact .head _
      · exact .tail _ (I.keep p hp)
    kept := fun p hp i hi => by
      rcases List.mem_cons.mp hp with rfl | hp
      · (refine hide fun hHid => ?_; rcases I.graph.infos i hi with ⟨t, tn, vs, ep, q1, q2, q4, q3⟩ <;> (refine hHid ?_; clear hHid))
        exact ne_of_cls N (hsub _ q1) hD (by simp)
      · exact I.kept p hp i hi }
theorem WI.less {prog : Program} {w : World} {links : List Link} {own0 own1 : List (Addr × Obj)} {sa da ia ra dE : Addr} {oi oE : Obj} {own : List (Addr × Obj)} {G : List NI} {kvs : List (Str × Value)} {ds os rs : List Str} {vsR : List Value}
    (I : WI prog w links own0 sa da ia ra dE oi oE own G kvs ds os rs vsR) (h : ∀ p ∈ own1, p ∈ own0) : WI prog w links own1 sa da ia ra dE oi oE own G kvs ds os rs vsR :=
  { I with keep := fun p hp => I.keep p (h p hp), kept := fun p hp => I.kept p (h p hp) }
end

end
-- C15
section
open PySem PySem.W PySem.Calls PyProof.Rows PyProof.Rows.LCg PyProof.Rows.LCp
set_option maxRecDepth 100000
set_option linter.unusedVariables false
section
theorem CompEnd.mono {h₀ : Heap} {L I C D : Addr} {m : Str → Option Value} {s₁ s₂ : Shared} {oI oC oD : Obj} {S : List (Addr × Obj) → Prop} {r r' : Value → List (Addr × Obj) → Prop} {y : Value} (h : CompEnd h₀ L m s₁ I oI C oC D oD S r y s₂) (hr : ∀ n, r y n → r' y n) : CompEnd h₀ L m s₁ I oI C oC D oD S r' y s₂ := by
  (refine hide fun hHid => ?_; rcases h with ⟨h', tk, news', e, F, N, o, hS, hy⟩ <;> (refine hHid ?_; clear hHid))
  exact ⟨h', tk, news', e, F, N, o, hS, hr _ hy⟩
section
variable {prog : Program} {w : World} {A : Around} {E : Value → Shared → Prop} {s : Shared} {h₀ : Heap} {L : Addr} {m : Str → Option Value} {env : Env}
/-- a comprehension over pairs, of any length, by an invariant -/
theorem restP {elt : Expr} {x x₂ : Str} {scope : Scope} {cl : List (Str × Addr)} {S : List (Addr × Obj) → Prop} {P : Nat → Value → Prop} {Fin : List Value → List (Addr × Obj) → Prop} (J : Nat → List Value → List (Addr × Obj) → Prop)
    (turn : ∀ i v ys news, P i v → J i ys news → ∃ (t : Addr) (ot : Obj) (v₁ v₂ : Value) (nt : Nat), v = .ref t ∧ (t, ot) ∈ news ∧ ot.cls = .type "tuple" ∧ ot.data = .seq #[v₁, v₂] nt ∧
      ∀ I oI C oC D m₂ h tk (E' : Value → Shared → Prop), NsObj oC m₂ → m₂ x = some v₁ → m₂ x₂ = some v₂ → Fr h₀ L h m → News h₀ L h ((I, oI) :: (C, oC) :: (D, lst ys) :: news) → Off3 I C D news → ((@Ne Nat I C) ∧ (@Ne Nat I D) ∧ (@Ne Nat C D)) →
      wpAny (model prog w) A (eval elt (compEnvC scope cl C env)) (CompEnd h₀ L m { s with heap := h, toks := tk } I oI C oC D (lst ys) S (fun y news' => J (i + 1) (ys ++ [y]) news')) E' { s with heap := h, toks := tk }) :
    ∀ (k i : Nat) (ys : List Value) (news : List (Addr × Obj)), (∀ ys news, J (i + k) ys news → Fin ys news) → J i ys news → CompRestP prog w A h₀ L m env elt x x₂ scope cl s S P Fin k i ys news
  | 0, i, ys, news, hf, hj => hf ys news hj
  | k + 1, i, ys, news, hf, hj => fun v hv => by
    (refine hide fun hHid => ?_; rcases turn i v ys news hv hj with ⟨t, ot, v₁, v₂, nt, e1, e2, e3, e4, h⟩ <;> (refine hHid ?_; clear hHid))
    refine ⟨t, ot, v₁, v₂, nt, e1, e2, e3, e4, fun I oI C oC D m₂ h1 tk E' a1 a2 a3 a4 a5 a6 a7 => ?_⟩
    refine wpAny_mono (h I oI C oC D m₂ h1 tk E' a1 a2 a3 a4 a5 a6 a7) (fun y s₂ hq => CompEnd.mono hq fun n hn => ?_) fun _ _ e => e
    exact restP J turn k (i + 1) (ys ++ [y]) n (fun ys' news' hj' => hf ys' news' (by rwa [Nat.add_right_comm, Nat.add_assoc] at hj')) hn
end
theorem Off3.ofAll {I C D : Addr} {l : List (Addr × Obj)} (h : ∀ p ∈ l, p.1 ≠ I ∧ p.1 ≠ C ∧ p.1 ≠ D) : Off3 I C D l := Off3.of h
/-- a list of texts and Nones -/
inductive OptsAre : List Value → List (Option Str) → Prop
  | nil : OptsAre [] []
  | none {vs os} : OptsAre vs os → OptsAre (.none :: vs) (none :: os)
  | some {vs os} (e : Str) (t : Tok) : OptsAre vs os → OptsAre (.str e t :: vs) (some e :: os)
theorem OptsAre.snocN : ∀ {vs : List Value} {os : List (Option Str)}, OptsAre vs os → OptsAre (vs ++ [.none]) (os ++ [Option.none])
  | _, _, .nil => .none .nil
  | _, _, .none h => .none h.snocN
  | _, _, .some e t h => .some e t h.snocN
theorem OptsAre.snocS : ∀ {vs : List Value} {os : List (Option Str)}, OptsAre vs os → ∀ (e : Str) (t : Tok), OptsAre (vs ++ [.str e t]) (os ++ [Option.some e])
  | _, _, .nil, e, t => .some e t .nil
  | _, _, .none h, e, t => .none (h.snocS e t)
  | _, _, .some e' t' h, e, t => .some e' t' (h.snocS e t)
theorem OptsAre.len : ∀ {vs : List Value} {os : List (Option Str)}, OptsAre vs os → vs.length = os.length
  | _, _, .nil => rfl
  | _, _, .none h => by simp [h.len]
  | _, _, .some e t h => by simp [h.len]
end

end
-- C16
section
open PySem PySem.W PySem.Calls PyProof.Rows
set_option maxRecDepth 100000
set_option linter.unusedVariables false
section
theorem WI.of_told {prog : Program} {w : World} {own0 : List (Addr × Obj)} {pos : Pos} {qual : Str} {c ra dE ld sa da ia : Addr} {links : List Link} {oC oC' oL oi oE : Obj} {own : List (Addr × Obj)} {G : List NI} {kvs : List (Str × Value)} {ps : Array Value} {vsR : List Value}
    (I : ToldI prog w ((c, oC) :: own0) pos qual ld sa da ia links oL oi own G kvs ps) (hn : (places links).Nodup) (hlen : links.length ≤ 6) (gC : Graph prog w oi (off own c) G) (hS : StrsAre vsR ((G.filter fun i => decide (i.n = 0)).map (·.key))) (hsE : oE.IsDictOf (PySem.strKind prog w) [])
    (x3 : c ≠ sa) (x4 : c ≠ da) (x5 : c ≠ ia) (x6 : c ≠ ra) (r4 : ∀ p ∈ own, p.1 ≠ ra) (r5 : (274 : Addr) ≠ ra) (r6 : ld ≠ ra) (n1 : c ≠ dE) (n2 : (274 : Addr) ≠ dE) (n3 : ld ≠ dE) (n4 : ∀ p ∈ off own c, p.1 ≠ dE) (h0 : ∀ p ∈ own0, p.1 ≠ c)
    (a1 : (274 : Addr) ≠ sa) (a2 : (274 : Addr) ≠ da) (a3 : (274 : Addr) ≠ ia) (b1 : ld ≠ sa) (b2 : ld ≠ da) (b3 : ld ≠ ia) :
    WI prog w links ((c, oC') :: (274, tabObj ps) :: (ld, oL) :: own0) sa da ia ra dE oi oE ((c, oC') :: (274, tabObj ps) :: (ld, oL) :: off own c) G [] [] [] ((G.filter fun i => decide (i.n = 0)).map (·.key)) vsR := by
  have three : ∀ {P : Addr → Prop}, P c → P 274 → P ld → (∀ p ∈ off own c, P p.1) → ∀ p ∈ (c, oC') :: (274, tabObj ps) :: (ld, oL) :: off own c, P p.1 := fun h1 h2 h3 h4 p hp => by
    rcases List.mem_cons.mp hp with rfl | hp
    · exact h1
    rcases List.mem_cons.mp hp with rfl | hp
    · exact h2
    rcases List.mem_cons.mp hp with rfl | hp
    · exact h3
    · exact h4 p hp
  refine WI.start hn (gC.mono fun p hp => .tail _ (.tail _ (.tail _ hp))) I.pure ⟨three (P := (· ≠ sa)) x3 a1 b1 (off_sub I.ap.sa), three (P := (· ≠ da)) x4 a2 b2 (off_sub I.ap.da), three (P := (· ≠ ia)) x5 a3 b3 (off_sub I.ap.ia)⟩
    (three (P := (· ≠ ra)) x6 r5 r6 (off_sub r4)) (three (P := (· ≠ dE)) n1 n2 n3 n4) hS hsE (graph_small I hlen).1 (fun p hp => ?_) (fun p hp i hi => ?_)
  · rcases List.mem_cons.mp hp with rfl | hp
    · exact .head _
    rcases List.mem_cons.mp hp with rfl | hp
    · exact .tail _ (.head _)
    rcases List.mem_cons.mp hp with rfl | hp
    · exact .tail _ (.tail _ (.head _))
    · exact .tail _ (.tail _ (.tail _ (mem_off.mpr ⟨I.keep p (.tail _ hp), h0 p hp⟩)))
  · rcases List.mem_cons.mp hp with rfl | hp
    · exact (I.kept _ (.head _) i hi).1
    rcases List.mem_cons.mp hp with rfl | hp
    · exact (apart_of I.graph I.ntab i hi).1
    rcases List.mem_cons.mp hp with rfl | hp
    · exact (apart_of I.graph I.nld i hi).1
    · exact (I.kept p (.tail _ hp) i hi).1
theorem rotW {h₀ h : Heap} {L : Addr} {e c t l s1 s2 s3 r : Addr × Obj} {own : List (Addr × Obj)} (N : News h₀ L h (e :: c :: t :: l :: s1 :: s2 :: s3 :: r :: own)) : News h₀ L h (s1 :: s2 :: s3 :: r :: e :: c :: t :: l :: own) := fun p hp => N p (by
  simp only [List.mem_cons] at hp ⊢
  rcases hp with h | h | h | h | h | h | h | h | h <;> simp [h])
theorem swap34 {h₀ h : Heap} {L : Addr} {a b c d : Addr × Obj} {own : List (Addr × Obj)} (N : News h₀ L h (a :: b :: c :: d :: own)) : News h₀ L h (a :: b :: d :: c :: own) := fun p hp => N p (by
  simp only [List.mem_cons] at hp ⊢
  rcases hp with h | h | h | h | h <;> simp [h])
theorem own0_ne {lk c : Addr} {o : Obj} {tail : List (Addr × Obj)} (h1 : @LT.lt Nat _ lk c) (h2 : AllLt c tail) : ∀ p ∈ (lk, o) :: tail, p.1 ≠ c + 1 := fun p hp => by
  rcases List.mem_cons.mp hp with rfl | hp
  · exact Nat.ne_of_lt (Nat.lt_succ_of_lt h1)
  · exact Nat.ne_of_lt (Nat.lt_succ_of_lt (allLt_mem h2 p hp))
theorem swap34a {h₀ h : Heap} {L : Addr} {a b i r e : Addr × Obj} {own : List (Addr × Obj)} (N : News h₀ L h (a :: b :: i :: r :: e :: own)) : News h₀ L h (a :: b :: r :: i :: e :: own) := swap34 N
theorem swap34b {h₀ h : Heap} {L : Addr} {a b i r e : Addr × Obj} {own : List (Addr × Obj)} (N : News h₀ L h (a :: b :: r :: i :: e :: own)) : News h₀ L h (a :: b :: i :: r :: e :: own) := swap34 N
theorem map_at {x : Str} {m : Str → Option Value} : (fun y => if y = x then m x else m y) = m := by
  funext y
  by_cases h : y = x <;> simp [h]
theorem pullE {h₀ h : Heap} {L : Addr} {a s1 s2 s3 r : Addr × Obj} {c : Addr} {o : Obj} {own : List (Addr × Obj)} (N : News h₀ L h (a :: s1 :: s2 :: s3 :: r :: own)) (hc : (c, o) ∈ own) : News h₀ L h (s1 :: s2 :: s3 :: r :: (c, o) :: a :: off own c) := fun p hp => N p (by
  simp only [List.mem_cons] at hp ⊢
  rcases hp with h | h | h | h | h | h | h
  · simp [h]
  · simp [h]
  · simp [h]
  · simp [h]
  · rw [h]; simp [hc]
  · simp [h]
  · simp [(mem_off.mp h).1])
theorem pullJE {h₀ h : Heap} {L : Addr} {s1 s2 s3 r : Addr × Obj} {c j : Addr} {o it : Obj} {own : List (Addr × Obj)} (N : News h₀ L h (s1 :: s2 :: s3 :: r :: own)) (hj : (j, it) ∈ own) (hc : (c, o) ∈ own) : News h₀ L h ((j, it) :: s1 :: s2 :: s3 :: r :: (c, o) :: off (off own j) c) := fun p hp => N p (by
  simp only [List.mem_cons] at hp ⊢
  rcases hp with h | h | h | h | h | h | h
  · rw [h]; simp [hj]
  · simp [h]
  · simp [h]
  · simp [h]
  · simp [h]
  · rw [h]; simp [hc]
  · simp [(mem_off.mp (mem_off.mp h).1).1])
theorem rotD {h₀ h : Heap} {L : Addr} {j s1 s2 s3 r e : Addr × Obj} {own : List (Addr × Obj)} (N : News h₀ L h (j :: s1 :: s2 :: s3 :: r :: e :: own)) : News h₀ L h (s1 :: s2 :: s3 :: r :: j :: e :: own) := fun p hp => N p (by
  simp only [List.mem_cons] at hp ⊢
  rcases hp with h | h | h | h | h | h | h <;> simp [h])
theorem ne_five {J : Addr} {f1 f2 f3 f4 f5 f5' : Addr × Obj} {own own' : List (Addr × Obj)} (h : ∀ p ∈ f1 :: f2 :: f3 :: f4 :: f5 :: own, p.1 ≠ J) {a1 a2 a3 a4 : Addr × Obj} (e1 : a1.1 = f1.1) (e2 : a2.1 = f2.1) (e3 : a3.1 = f3.1) (e4 : a4.1 = f4.1) (e5 : f5'.1 = f5.1) : ∀ p ∈ a1 :: a2 :: a3 :: a4 :: f5' :: off (off own' J) f5.1, p.1 ≠ J := fun p hp => by
  rcases List.mem_cons.mp hp with rfl | hp
  · rw [e1]; exact h _ (.head _)
  rcases List.mem_cons.mp hp with rfl | hp
  · rw [e2]; exact h _ (.tail _ (.head _))
  rcases List.mem_cons.mp hp with rfl | hp
  · rw [e3]; exact h _ (.tail _ (.tail _ (.head _)))
  rcases List.mem_cons.mp hp with rfl | hp
  · rw [e4]; exact h _ (.tail _ (.tail _ (.tail _ (.head _))))
  rcases List.mem_cons.mp hp with rfl | hp
  · rw [e5]; exact h _ (.tail _ (.tail _ (.tail _ (.tail _ (.head _)))))
  · exact (mem_off.mp (mem_off.mp hp).1).2
theorem take_snoc {α : Type} {ds rs : List α} {i : Nat} {y : α} (h : rs[i]? = some y) : ds ++ rs.take i ++ [y] = ds ++ rs.take (i + 1) := by
  rw [List.append_assoc, take_next h]
theorem drop_cons {α : Type} {rs : List α} {i : Nat} {y : α} (h : rs[i]? = some y) : rs.drop i = y :: rs.drop (i + 1) := by
  obtain ⟨hi, e⟩ := List.getElem?_eq_some_iff.mp h
  rw [List.drop_eq_getElem_cons hi, e]
theorem map_node {x : Str} {u m : Str → Option Value} {a v : Option Value} : (fun y => if y = x then a else if ([] : List Str).contains y then u y else if y = x then v else m y) = fun y => if y = x then a else m y := by
  funext y
  by_cases h : y = x <;> simp [h]
theorem ends_take {links : List Link} {i : Nat} {l : Link} (h : links[i]? = some l) : (links.take i).map (fun l => endL links l.1) ++ [endL links l.1] = (links.take (i + 1)).map fun l => endL links l.1 := by
  rw [← take_next h, List.map_append]; rfl
theorem arr_at {vs : List Value} {i : Nat} {v : Value} (h : vs.toArray[i]? = some v) : vs[i]? = some v := by simpa using h
theorem WI.rs_nil {prog : Program} {w : World} {links : List Link} {own0 : List (Addr × Obj)} {sa da ia ra dE : Addr} {oi oE : Obj} {own : List (Addr × Obj)} {G : List NI} {kvs : List (Str × Value)} {ds os rs : List Str}
    (I : WI prog w links own0 sa da ia ra dE oi oE own G kvs ds os rs []) : rs = [] := by
  have := I.hS
  cases this; rfl
theorem told_ring {links : List Link} (hn : (places links).Nodup) (hl : links.length ≤ 6) {g g1 : List PN} {ds : List Str} {kvs : List (Str × Value)} {b : Bool} (K : KInv links g ds [] []) (I : EndsI links ds kvs) (hp : g1 = links.foldl addL []) (h : (b = false ∧ Acy g1) ∨ (b = true ∧ Cyc g1)) : b = ringL links := by
  rcases h with ⟨rfl, h⟩ | ⟨rfl, h⟩
  · exact (ring_acy hn (Nat.le_succ_of_le hl) (hp ▸ h) K I).symm
  · exact (ring_cyc hn (hp ▸ h)).symm
theorem told_out {h₀ h : Heap} {L lk : Addr} {o : Obj} {r d s1 s2 s3 ra e t : Addr × Obj} {own tail : List (Addr × Obj)} (N : News h₀ L h (r :: d :: s1 :: s2 :: s3 :: ra :: e :: own)) (h1 : (lk, o) ∈ own) (h3 : t ∈ own) (h2 : ∀ q ∈ tail, q ∈ own) : News h₀ L h (r :: d :: (lk, o) :: t :: tail) := fun p hp => N p (by
  simp only [List.mem_cons] at hp ⊢
  rcases hp with h | h | h | h | h
  · simp [h]
  · simp [h]
  · rw [h]; simp [h1]
  · rw [h]; simp [h3]
  · simp [h2 p h])
end

end
end
end
end
section
local macro_rules | `(tactic| walk_at "eval Name") => `(tactic| (k_here; (with_reducible show wpAny _ _ (eval (Expr.Name (Str.ofString "value") _) _) _ _ _); k_dflt (refine' ld ?k1 ?k2 ?_; (case k1 => k_asm); (case k2 => assumption); k_whole)))
section
local macro_rules | `(tactic| walk_at "eval Name") => `(tactic| ((with_reducible show wpAny _ _ (eval (Expr.Name _ _) (compEnv _ _ _)) _ _ _); k_dflt (refine' name_comp (by rfl) (by rfl) (by assumption) (by assumption) ?_; k_whole)))
section
local macro_rules | `(tactic| walk_at "enterS") => `(tactic| k_dflt (refine wpAny_call ?_; (refine' code_S (by k_asm) (by k_asm) (by k_asm) (by k_asm) (by k_asm) (by assumption) (by assumption) (by assumption) KtsTurn.refl rfl rfl rfl (by k_is) (by k_is) (by k_room) (by first | exact binds_K (by k_in) rfl (by k_is) rfl rfl rfl | exact BindsTo.of_eq rfl) (locs rfl) ?_ rfl rfl rfl (by decide); k_whole; intro g' L' h' FG' F' N' B' X' T' D'; (try dsimp only); (try k_lift B'); (try k_fold))))
section
local macro_rules | `(tactic| walk_at "enterSC") => `(tactic| k_dflt (refine wpAny_call ?_; (refine' code_SC (by k_asm) (by k_asm) (by k_asm) (by k_asm) (by k_asm) (by assumption) (by assumption) (by assumption) KtsTurn.refl rfl rfl rfl (by k_is) (by k_is) (by k_room) (by first | exact binds_K (by k_in) rfl (by k_is) rfl rfl rfl | exact BindsTo.of_eq rfl) rfl (by decide +kernel) ?_ rfl rfl rfl; k_whole; intro g' L' h' tk' cells' FG' F' N' Y' B' X' T' D' l1; (try k_lt l1); k_cells Y'; (try simp only [List.cons_append, List.nil_append] at N'); (try dsimp only); (try k_lift B'); (try k_fold))))
section
local macro_rules | `(tactic| walk_at "call ref") => `(tactic| ((with_reducible show wpAny _ _ (call (Value.ref 265) [Value.str _ _]) _ _ _); k_dflt (refine' normpath_spec (by k_asm) (by k_asm) (by k_asm) (by k_asm) (by k_asm) (by k_room) (by k_room) (by walk_at "asm") (by walk_at "asm") (by walk_at "asm") (by walk_at "asm") (by walk_at "asm") (by walk_at "asm") (by walk_at "asm") ?_); intro h' tk' t' F' N'; (try k_sweep)))
section
local macro_rules | `(tactic| walk_at "compareOp Is str ref") => `(tactic| (k_here; refine is_str_ref ?_))
section
local macro_rules | `(tactic| walk_at "subscriptTail Name Name ref str") => `(tactic| (walk_at "sT"; k_dflt (first | (refine' dict_item_stored (by k_asm) (by k_mem) (by assumption) ?_ (by with_unfolding_all rfl); k_whole) | (refine' dict_item_led (by k_asm) (by k_mem) (by assumption) (by assumption) ?_ (by with_unfolding_all rfl); k_whole))))
section
local macro_rules | `(tactic| walk_at "step6") => `(tactic| first | (k_unfold; (try dsimp only)) | (k_end; wrow_close) | walk1 | (dsimp only; walk1) | (leave1; walk_say "STEP leave1"; try dsimp only) | fail "no step")
-- A6
section
open PySem PySem.W PySem.Calls PyProof.Rows
set_option maxRecDepth 100000
set_option linter.unusedVariables false
section

section
variable {w : World} {s : Shared} {A₀ : Around} {base h₀ : Heap} {outer : List Env} {L a : Addr} {cd code : Value} {nm qn : Str} {gl bi : Addr} {cls : List (Str × Addr)} {fn : Option Addr} {nms : List (Str × NameKind)} {mo : List (Str × Const)} {ig ic : Bool} {m mg mb : Str → Option Value} {news : List (Addr × Obj)} {loose : List Str} {mean : ExcName → Option Value} {d u : Nat} {gs : Option (List Code)} {Q : Value → Shared → Prop} {E : Value → Shared → Prop}

variable {lk : Addr} {vs : List Value} {ep : Nat} {tail : List (Addr × Obj)} {links : List (Str × List Str)}
set_option maxHeartbeats 8000000 in
theorem told_spec 
 (B : Below A₀ base outer h₀) (F : Fr h₀ L s.heap m) (X₀ : (Mine.hq.hd.heap_39 w.params).In h₀) (XB : (Mine.hq.hd.heap_39 w.params).In base) (N : News h₀ L s.heap ((lk, listOf vs.toArray ep) :: (274, tabObj #[]) :: tail)) (T : Top topProg loose mean mg mb h₀) (TB : Top topProg loose mean mg mb base) (D : KtsDicts (outer.filterMap (·.frame)) h₀) (hd : d < 500) (hu : u < 500)
 (codeHd : CodeHd base 276 274) (hl : LinksIn tail vs links) (hn1 : ∀ p ∈ tail, p.1 ≠ 274) (hn2 : @Ne Nat lk 274) (hlen : links.length ≤ 6) (hnod : (links.map (·.1)).Nodup) (hok : ∀ l ∈ links, l.1.length ≤ 1000 ∧ StepsOk (dirF l.1) l.2)
 (hQ : ∀ h' tk h₀' R D ys nD ps, KtsTurn (outer.filterMap (·.frame)) h₀ h₀' → Fr h₀' L h' m → News h₀' L h' ((R, listOf #[.bool (ringL links), .ref D] 0) :: (D, listOf ys.toArray nD) :: (lk, listOf vs.toArray ep) :: (274, tabObj ps) :: tail) → Below A₀ base outer h₀' → (Mine.hq.hd.heap_39 w.params).In h₀' → Top topProg loose mean mg mb h₀' → KtsDicts (outer.filterMap (·.frame)) h₀' → OptsAre ys (endsL links) → Q (.ref R) { s with heap := h', toks := tk })
 :
 wpAny (model Challenge.rw_pd0114_01.row.prog w) ⟨none, d, some ((⟨⟨.function, nms, ig, ic, mo⟩, L, gl, cls, qn, fn, code, some L, bi⟩ : Env) :: outer), gs, u⟩ (call (.ref 277) [.ref lk]) Q E s := by
  revert X₀; k_fill; intro X₀
  refine packB fun er9 => ?_
  w_top off
  w_strict (
   walk_at "enterSC"
   (repeat' (walk_at "step6"))
   refine wpAny_For ?_
   (repeat' (walk_at "step6"))
   (rename News _ _ _ _ => nN)
   (rename Fr _ _ _ _ => nF)
   (rename_i g1 L1 w1 w2 fG bB bX bT bD c1 c2 c3 oC hoC sa da w3 c4 c5 c6 c7 c8 w4 w5 w6 w7 w8 w9 w10 ia w11 oi loI hdI w12 w13 w14 c9 c10 c11 c12 c13 c14 w15 w16 w17 w18 w19 w20 w21 w22 w23 w24 ld w25 oL loL hdL w26 w27 w28 c15 c16 c17 c18 c19 c20 c21 w29)
   clear w19 w20 w7 w8 w9 w22 w23
   replace nN := norm7 nN
   (try k_fold)
   have c2' : @LT.lt Nat _ 274 (L1 + 1) := Nat.lt_succ_of_lt c2
   refine for_listT (vs := vs) (fun m₀ i m' n' => ∃ vp vq oL1 oi1 own1 G1 kvs1 ps1 k1 k2 k3 k4 t1 t2, m' = (fun y => if y = Str.ofString "place" then vp else if y = Str.ofString "pieces" then vq else m₀ y) ∧ n' = (274, tabObj ps1) :: (ld, oL1) :: (sa, instObj 146 da) :: (da, sAttrs w.params k1 k2 k3 k4 ia .none (.int 0 t1) (.int 0 t2)) :: (ia, oi1) :: own1 ∧ ToldI Challenge.rw_pd0114_01.row.prog w ((L1 + 1, oC) :: (lk, listOf vs.toArray ep) :: tail) { line := 277, col := 30, endLine := 277, endCol := 73 } (Str.ofString "_law_told.<locals>.<lambda>") ld sa da ia (links.take i) oL1 oi1 own1 G1 kvs1 ps1) nF nN rfl ?_ ?_ ?_ ?_
   · (intro i m' n' h qq1 _ N'; (try k_fold); refine hide fun hP => ?_; rcases qq1 with ⟨vp, vq, oL1, oi1, own1, G1, kvs1, ps1, k1, k2, k3, k4, t1, t2, rfl, rfl, I1⟩ <;> (refine hP ?_; clear hP))
     exact ⟨_, N'.get (.tail _ (.tail _ (.tail _ (.tail _ (.tail _ (I1.keep _ (.tail _ (.head _)))))))), rfl, _, rfl⟩
   · exact exi2 _ _ ⟨oL, oi, _, [], [], #[], exi6 _ _ _ _ _ _ ⟨told_map0, rfl, told_start hdI hdL (ne3 (Nat.ne_of_lt c18) (Nat.ne_of_lt c19) (allLt_ne c21)) (ne3 (Nat.ne_of_gt c2') hn2 hn1) (ne3 (Nat.ne_of_lt (Nat.lt_trans c4 c8)) (Nat.ne_of_lt (Nat.lt_trans c5 c8)) (fun p hp => Nat.ne_of_lt (Nat.lt_trans (allLt_mem c7 p hp) c8))) (ne3 (Nat.ne_of_lt c4) (Nat.ne_of_lt c5) (allLt_ne c7)) (ne3 (Nat.ne_of_lt c11) (Nat.ne_of_lt c12) (allLt_ne c14))⟩⟩
   · (intro i v m₁ n₁ h tk I it hv hic hlt qq2 F₁ N₁ hne; (try k_fold); refine hide fun hP => ?_; rcases qq2 with ⟨vp, vq, oL1, oi1, own1, G1, kvs1, ps1, k1, k2, k3, k4, t1, t2, rfl, rfl, I1⟩ <;> (refine hP ?_; clear hP))
     (refine hide fun hP => ?_; rcases LinksIn.at hl hv with ⟨a, tp, pl, ws, epl, p, pcs, rfl, hli, hm1, hm2, hS⟩ <;> (refine hP ?_; clear hP))
     have ha := I1.keep _ (.tail _ (.tail _ hm1))
     have hpl := I1.keep _ (.tail _ (.tail _ hm2))
     have b1 := I1.dict
     have b2 := I1.nld
     have b3 := I1.ntab
     have b4 := I1.ap.sa
     have b5 := I1.ap.da
     have b6 := I1.ap.ia
     clear nN nF
     k_lt hlt
     have hle := hok (p, pcs) (List.mem_of_getElem? hli)
     have hp1 : p.length ≤ 10000 := Nat.le_trans hle.1 (by decide)
     refine packF fun pk2Q pk2H => ?_
     (repeat' ((fail_if_success (with_reducible show wpAny _ _ (eval (Expr.Lambda _ _ _ _) _) _ _ _)); (walk_at "step6")))
     (rename News _ _ _ _ => nN2)
     (rename Fr _ _ _ _ => nF2)
     refine kla_eval rfl ?_
     refine lam_eval (c := 276) (P := 274) (front := [_, _, _, _, _]) nF2 (swap01 nN2) bT (codeHd.keeps bB.stays) rfl ?_ b3 I1.tab rfl ?_
     · intro q hq
       simp only [List.mem_cons, List.not_mem_nil, or_false] at hq
       rcases hq with rfl | rfl | rfl | rfl | rfl <;> (refine neN ?_; dsimp only; omega)
     intro f c' oc vsc tc ctv h5 tk5 own2 F5 N5 hcm hcdat hcv hk1 hk2 hf1 hf2
     dsimp only [List.cons_append, List.nil_append] at N5 hf1
     have hc : ∀ q ∈ own2, q ∈ own1 ∨ (q.1 = c' ∧ @LT.lt Nat _ I c' ∧ @LT.lt Nat _ 274 c' ∧ @LT.lt Nat _ ld c' ∧ @LT.lt Nat _ sa c' ∧ @LT.lt Nat _ da c' ∧ @LT.lt Nat _ ia c') := fun q hq => (hk2 q hq).imp id fun ⟨e, hr, _⟩ => ⟨e, hr _ (.tail _ (.head _)), hr _ (.head _), hr _ (.tail _ (.tail _ (.head _))), hr _ (.tail _ (.tail _ (.tail _ (.head _)))), hr _ (.tail _ (.tail _ (.tail _ (.tail _ (.head _))))), hr _ (.tail _ (.tail _ (.tail _ (.tail _ (.tail _ (.head _))))))⟩
     have two : ∀ {P : Addr → Prop}, (∀ p ∈ own1, P p.1) → (@LT.lt Nat _ I c' → @LT.lt Nat _ 274 c' → @LT.lt Nat _ ld c' → @LT.lt Nat _ sa c' → @LT.lt Nat _ da c' → @LT.lt Nat _ ia c' → P c') → ∀ p ∈ own2, P p.1 := fun a b p hp => (hc p hp).elim (a p) (fun ⟨e, x0, x1, x2, x3, x4, x5⟩ => by rw [e]; exact b x0 x1 x2 x3 x4 x5)
     have hpl2 := hk1 _ hpl
     have d2 : ∀ p ∈ own2, p.1 ≠ ld := two (P := (· ≠ ld)) b2 fun _ _ x _ _ _ => Nat.ne_of_gt x
     have d3 : ∀ p ∈ own2, p.1 ≠ 274 := two (P := (· ≠ 274)) b3 fun _ x _ _ _ _ => Nat.ne_of_gt x
     have d4 : ∀ p ∈ own2, p.1 ≠ sa := two (P := (· ≠ sa)) b4 fun _ _ _ x _ _ => Nat.ne_of_gt x
     have d5 : ∀ p ∈ own2, p.1 ≠ da := two (P := (· ≠ da)) b5 fun _ _ _ _ x _ => Nat.ne_of_gt x
     have d6 : ∀ p ∈ own2, p.1 ≠ ia := two (P := (· ≠ ia)) b6 fun _ _ _ _ _ x => Nat.ne_of_gt x
     have d7 : ∀ p ∈ own2, p.1 ≠ I := two (P := (· ≠ I)) (fun p hp => hne p (.tail _ (.tail _ (.tail _ (.tail _ (.tail _ hp)))))) fun x _ _ _ _ _ => Nat.ne_of_gt x
     clear nN2 nF2
     k_lt hf1
     (repeat' ((fail_if_success (with_reducible show wpAny _ _ (exec (Stmt.For _ _ _ _ _) _) _ _ _)); (walk_at "step6")))
     refine wpAny_For ?_
     (repeat' (walk_at "step6"))
     (rename News _ _ _ _ => nN3)
     (rename Fr _ _ _ _ => nF3)
     refine for_iterM (vs := ws) rfl rfl rfl [Str.ofString "value"] (fun m₀ n₀ i u n' => n' = n₀ ∧ ∃ t, u (Str.ofString "value") = some (.str ((pcs.take i).foldl leadStep (dirF p)) t)) ?_ nF3 nN3 ?_ ⟨rfl, _, rfl⟩ ?_ ?_
     · (intro i3 m' n' h9 qq3 _ N'; (try k_fold); refine hide fun hP => ?_; rcases qq3 with ⟨rfl, _⟩ <;> (refine hP ?_; clear hP))
       exact ⟨_, N'.get (by k_mem), rfl, _, rfl⟩
     · k_all
     · (intro i3 v3 u3 n3 h9 tk9 it9 hv9 hic9 qq4 F₃ N₃ hne3; (try k_fold); refine hide fun hP => ?_; rcases qq4 with ⟨rfl, tv, hu3⟩ <;> (refine hP ?_; clear hP))
       (refine hide fun hP => ?_; rcases StrsAre.at hS hv9 with ⟨q, tq, rfl, hq⟩ <;> (refine hP ?_; clear hP))
       (refine hide fun hP => ?_; rcases StepsOk.at hle.2 hq with ⟨q1, q2, q3⟩ <;> (refine hP ?_; clear hP))
       dsimp only at q1 q2 q3
       (refine hide fun hP => ?_; rcases q3 with ⟨x1, x2, x3, x4, x5, x6, x7⟩ <;> (refine hP ?_; clear hP))
       clear nN3 nF3
       refine packQ fun pk1Q pk1H => ?_
       (repeat' (walk_at "step6"))
       refine pk1H _ _ ?_
       exact exi4 _ _ _ _ ⟨rfl, by assumption, by assumption, hne3, (fun y h1 h2 => by simp at h2; simp [upd, h1, h2]), rfl, _, by rw [fold_take hq]; exact rfl⟩
     · (intro h9 tk9 u3 n3 qq5 F₃ N₃; (try k_fold); refine hide fun hP => ?_; rcases qq5 with ⟨rfl, tv, hu3⟩ <;> (refine hP ?_; clear hP))
       rw [List.take_of_length_le (by rw [StrsAre.len hS]; exact Nat.le_refl _)] at hu3
       clear nN3 nF3
       have hkl : kvs1.length ≤ 90000 := by
         have := congrArg List.length (LeadsAre.keys I1.leads)
         simp at this
         omega
       (repeat' ((fail_if_success (with_reducible show wpAny _ _ (call (Value.ref 96) _) _ _ _)); (walk_at "step6")))
       (rename News _ _ _ _ => nN4)
       (rename Fr _ _ _ _ => nF4)
       (rename Obj.IsDictOf _ _ _ => hdS)
       have I2 := I1.more (ps' := #[rawInt 277, rawInt 30, .ref c']) hk1 (fun q hq => (hk2 q hq).imp id And.left) (d2 _ hcm) (d3 _ hcm) (d4 _ hcm) (d5 _ hcm) (d6 _ hcm) (.inr ⟨c', oc, vsc, tc, rfl, hcm, hcdat, hcv⟩)
       have hsm := graph_small I2 (by rw [List.length_take]; omega)
       refine add_spec (own := _ :: _ :: _ :: _ :: own2) (by assumption) nF4 (by assumption) (rot_add nN4) (by assumption) (by k_room) (by k_room) c8 c9 ((((I2.ap.cons ?a1 ?a2 ?a3).cons ?a4 ?a5 ?a6).cons ?a7 ?a8 ?a9).cons ?b1 ?b2 ?b3) (I2.graph.mono fun q hq => .tail _ (.tail _ (.tail _ (.tail _ hq)))) (Nat.le_trans hsm.1 (by decide)) (fun i hi => Nat.le_trans (hsm.2 i hi) (by decide)) loI ?_
       case a1 => exact Nat.ne_of_gt c16
       case a2 => exact Nat.ne_of_gt c17
       case a3 => exact Nat.ne_of_gt c15
       case a4 => exact Nat.ne_of_gt (by assumption)
       case a5 => exact Nat.ne_of_gt (by assumption)
       case a6 => exact Nat.ne_of_gt (by assumption)
       case a7 => exact Nat.ne_of_lt (Nat.lt_trans c6 c8)
       case a8 => exact Nat.ne_of_lt c6
       case a9 => exact Nat.ne_of_lt c13
       case b1 => exact Nat.ne_of_gt (by assumption)
       case b2 => exact Nat.ne_of_gt (by assumption)
       case b3 => exact Nat.ne_of_gt (by assumption)
       intro h8 tk8 oi8 own8 G8 F8 N8 g8 ap8 hpure8 hkeep8
       (refine hide fun hP => ?_; rcases I2.add hdS (not_in_take hnod hli) (fun a o o' h1 h2 => news_fun nN4 (.tail _ (.tail _ (.tail _ (.tail _ (.tail _ (.tail _ (.tail _ h1))))))) (.tail _ (.tail _ (.tail _ (.tail _ (.tail _ (.tail _ (.tail _ h2)))))))) N8 g8 ap8 hpure8 hkeep8 d7 hic (Nat.ne_of_gt (by assumption)) (Nat.ne_of_gt (by assumption)) (Nat.ne_of_gt c20) (Nat.ne_of_gt (by assumption)) (Nat.ne_of_gt (by assumption)) (Nat.ne_of_gt (by assumption)) with ⟨own9, N9, hne9, I9⟩ <;> (refine hP ?_; clear hP))
       clear nN4 nF4 N8
       (repeat' (walk_at "step6"))
       (rename News _ _ _ _ => kN)
       refine pk2H _ _ ?_
       exact exi4 _ _ _ _ ⟨rfl, by assumption, kN, hne9, exi14 _ _ _ _ _ _ _ _ _ _ _ _ _ _ ⟨told_map, rfl, take_next hli ▸ I9⟩⟩
   · (intro h tk m' n' qq6 F₁ N₁; (try k_fold); refine hide fun hP => ?_; rcases qq6 with ⟨vp, vq, oL1, oi1, own1, G1, kvs1, ps1, k1, k2, k3, k4, t1, t2, rfl, rfl, I1⟩ <;> (refine hP ?_; clear hP))
     clear nN nF
     (repeat' ((fail_if_success (with_reducible show wpAny _ _ (call (Value.ref 101) _) _ _ _)); (walk_at "step6")))
     (rename News _ _ _ _ => nN5)
     (rename Fr _ _ _ _ => nF5)
     refine if_midE (Gd := (Gnd (Mine.hq.hd.heap_39 w.params) topProg loose mean mg mb (fA d u L er9 outer) base ((fE L er9) :: outer) g1)) (fun m m' n' => ∃ b ra vsR epR, m' = (fun y => if y = Str.ofString "ring" then some (.bool b) else m y) ∧ n' = (274, tabObj ps1) :: (ld, oL1) :: (sa, instObj 146 da) :: (da, sAttrs w.params k1 k2 k3 k4 ia (.ref ra) (.int 0 t1) (.int 0 t2)) :: (ia, oi1) :: (ra, listOf vsR.toArray epR) :: own1 ∧ @Ne Nat sa ra ∧ @Ne Nat da ra ∧ @Ne Nat ia ra ∧ @Ne Nat 274 ra ∧ @Ne Nat ld ra ∧ (∀ p ∈ own1, p.1 ≠ ra) ∧ StrsAre vsR ((G1.filter fun i => decide (i.n = 0)).map (·.key)) ∧ ((b = false ∧ Acy (G1.map NI.pure)) ∨ (b = true ∧ Cyc (G1.map NI.pure)))) nF5 ?_ ?_
     · refine packQ fun pk3Q pk3H => ?_
       refine wpAny_Try_except ?_
       (repeat' ((fail_if_success (with_reducible show wpAny _ _ (call (Value.ref 101) _) _ _ _)); (walk_at "step6")))
       (rename News _ _ _ _ => nN6)
       (rename Fr _ _ _ _ => nF6)
       have hsm := graph_small I1 (by rw [List.take_of_length_le (by rw [LinksIn.len hl]; exact Nat.le_refl _)]; exact hlen)
       rw [List.take_of_length_le (by rw [LinksIn.len hl]; exact Nat.le_refl _)] at I1
       have e274 := nN6 _ (.head _)
       have eld := nN6 _ (.tail _ (.head _))
       refine prepare_spec (own := _ :: _ :: own1) (by assumption) nF6 (by assumption) XB (rotF2 nN6) (by assumption) TB (by assumption) (by k_room) (by k_room) c8 c9 (I1.graph.mono fun q hq => .tail _ (.tail _ hq)) ((I1.ap.cons ?a1 ?a2 ?a3).cons ?a4 ?a5 ?a6) loI (Nat.le_trans hsm.1 (by decide)) (told_unseen I1 hlen) (told_closed I1 hnod) ?_ ?_
       case a1 => exact Nat.ne_of_gt c16
       case a2 => exact Nat.ne_of_gt c17
       case a3 => exact Nat.ne_of_gt c15
       case a4 => exact Nat.ne_of_lt (Nat.lt_trans c6 c8)
       case a5 => exact Nat.ne_of_lt c6
       case a6 => exact Nat.ne_of_lt c13
       · intro h8 tk8 g8 ra vsR epR T8 F8 N8 B8 X8 P8 D8 r1 r2 r3 r4 hS8 hA8
         have G8 : (Gnd (Mine.hq.hd.heap_39 w.params) topProg loose mean mg mb (fA d u L er9 outer) base ((fE L er9) :: outer) g1) g8 := ⟨T8, B8, X8, P8, D8⟩
         clear nN6 nF6
         replace N8 := unrotP N8
         (repeat' (walk_at "step6"))
         (rename News _ _ _ _ => kN)
         refine pk3H _ _ ?_
         exact exi5 g8 _ _ _ _ ⟨rfl, G8, by assumption, kN, .inl ⟨rfl, false, ra, vsR, epR, map_again.symm, rfl, r1, r2, r3, r4 _ (.head _), r4 _ (.tail _ (.head _)), (fun p hp => r4 p (.tail _ (.tail _ hp))), hS8, .inl ⟨rfl, hA8⟩⟩⟩
       · intro h8 tk8 e8 te8 we8 g8 G8 ra vsR epR T8 F8 B8 R8 U8 r1 r2 r3 r4 hS8 hA8
         clear nN6 nF6
         refine caught_X (L := L1) rfl R8 F8 B8 U8 XB TB (bD.turn T8) (by kts_isx) ?_ ?_
         · intro g5 h5 tk5 Q5 E5 A5 F5 X5 P5 hq
           exact nameX_K F5 X5 P5 (by k_is) hq
         · intro h9 g9 T9 F9 N9 B9 X9 P9 D9
           have G9 : (Gnd (Mine.hq.hd.heap_39 w.params) topProg loose mean mg mb (fA d u L er9 outer) base ((fE L er9) :: outer) g1) g9 := ⟨T8.trans T9, B9, X9, P9, D9⟩
           replace N9 := unrotP N9
           clear F8 B8
           (repeat' (walk_at "step6"))
           (rename News _ _ _ _ => kN)
           refine pk3H _ _ ?_
           exact exi5 g9 _ _ _ _ ⟨rfl, G9, by assumption, kN, .inl ⟨rfl, true, ra, vsR, epR, rfl, rfl, r1, r2, r3, r4 _ (.head _), r4 _ (.tail _ (.head _)), (fun p hp => r4 p (.tail _ (.tail _ hp))), hS8, .inr ⟨rfl, hA8⟩⟩⟩
     · (intro f s9 qq7; (try k_fold); refine hide fun hP => ?_; rcases qq7 with ⟨g₃, h₃, tk₃, m₃, n₃, rfl, G₃, F₃, N₃, (⟨rfl, b, ra, vsR, epR, rfl, rfl, r1, r2, r3, r5, r6, r4, hSR, hAC⟩ | ⟨c, _, hF⟩)⟩ <;> (refine hP ?_; clear hP))
       · (refine hide fun hP => ?_; rcases id G₃ with ⟨T₃, B₃, X₃, P₃, D₃⟩ <;> (refine hP ?_; clear hP))
         rw [List.take_of_length_le (by rw [LinksIn.len hl]; exact Nat.le_refl _)] at I1
         have gC := I1.offC (.head _) hoC N₃ (fun p hp => .tail _ (.tail _ (.tail _ (.tail _ (.tail _ (.tail _ hp))))))
         replace N₃ := pullC N₃ (I1.keep _ (.head _))
         have x1 := neN (I1.nld _ (I1.keep _ (.head _)))
         have x2 := neN (I1.ntab _ (I1.keep _ (.head _)))
         have x3 := neN (I1.ap.sa _ (I1.keep _ (.head _)))
         have x4 := neN (I1.ap.da _ (I1.keep _ (.head _)))
         have x5 := neN (I1.ap.ia _ (I1.keep _ (.head _)))
         have x6 := neN (r4 _ (I1.keep _ (.head _)))
         dsimp only at x1 x2 x3 x4 x5 x6
         clear nN5 nF5
         (repeat' ((fail_if_success (with_reducible show wpAny _ _ (exec (Stmt.While _ _ _ _) _) _ _ _)); (walk_at "step6")))
         (rename News _ _ _ _ => nN7)
         (rename Fr _ _ _ _ => nF7)
         (rename_i dE h71 oE loE hsE fsE hiE fiE y1 y2 y3 y4 y5 y6 y7 y8 h72 oC' hcell)
         have W0 := WI.of_told (oC' := oC') (oE := oE) (dE := dE) I1 hnod hlen gC hSR hsE x3 x4 x5 x6 r4 r5 r6 (Nat.ne_of_lt y1) (Nat.ne_of_lt y2) (Nat.ne_of_lt y3) (allLt_ne y8) (own0_ne c1 c3) (Nat.ne_of_lt (Nat.lt_trans c6 c8)) (Nat.ne_of_lt c6) (Nat.ne_of_lt c13) (Nat.ne_of_gt c16) (Nat.ne_of_gt c17) (Nat.ne_of_gt c15)
         refine while_M (k₀ := 13) (Gd := (Gnd (Mine.hq.hd.heap_39 w.params) topProg loose mean mg mb (fA d u L er9 outer) base ((fE L er9) :: outer) g1)) (fun m₀ k m' n' => ∃ vn ds rs kvs vsR epR oE own G p tp tq, m' = (fun y => if y = Str.ofString "node" then vn else m₀ y) ∧ k = 13 - ds.length ∧ n' = (sa, instObj 146 da) :: (da, sAttrs w.params k1 k2 k3 k4 ia (.ref ra) (.int p tp) (.int p tq)) :: (ia, oi1) :: (ra, listOf vsR.toArray epR) :: (dE, oE) :: own ∧ WI Challenge.rw_pd0114_01.row.prog w links ((L1 + 1, oC') :: (274, tabObj ps1) :: (ld, oL1) :: (lk, listOf vs.toArray ep) :: tail) sa da ia ra dE oi1 oE own G kvs ds [] rs vsR) nF7 (rotW nN7) G₃ ?_ ?_
         · exact ⟨_, [], _, [], vsR, epR, oE, exi2 _ _ ⟨0, t1, t2, map_at.symm, rfl, rfl, W0⟩⟩
         · clear nN7 nF7 T₃ B₃ X₃ P₃ D₃ G₃ W0 hsE hiE fsE fiE
           (intro k g₃ m₃ n₃ h₃ tk₃ G₃ F₃ N₃ qq8; (try k_fold); refine hide fun hP => ?_; rcases qq8 with ⟨vn, ds, rs, kvs, vsR, epR, oE, own, G, p, tp, tq, rfl, rfl, rfl, W⟩ <;> (refine hP ?_; clear hP))
           (refine hide fun hP => ?_; rcases id G₃ with ⟨T₃, B₃, X₃, P₃, D₃⟩ <;> (refine hP ?_; clear hP))
           refine packW fun pk5Q pk5H => ?_
           (repeat' ((fail_if_success (with_reducible show wpAny _ _ (call (Value.ref 115) _) _ _ _)); (walk_at "step6")))
           (rename News _ _ _ _ => nN8)
           (rename Fr _ _ _ _ => nF8)
           have hsm := W.small
           refine active_spec (own := _ :: _ :: own) (by assumption) nF8 (by assumption) (swap34a nN8) (by assumption) (by k_room) (by k_room) (by omega) ?_
           intro h9 tk9 b9 hb9 F9 N9
           clear nN8 nF8
           replace N9 := swap34b N9
           rw [decide_eq_false (Int.lt_irrefl p), Bool.false_or] at hb9
           cases vsR with
           | nil =>
             replace hb9 : b9 = false := hb9
             subst hb9
             obtain rfl := W.rs_nil
             have hends := @ends_value _ hnod (Nat.le_succ_of_le hlen) _ _ _ W.inv W.ends
             have mC := W.keep _ (.head _)
             have mK := W.keep _ (.tail _ (.tail _ (.tail _ (.head _))))
             have mT : ∀ q ∈ tail, q ∈ own := fun q hq => W.keep _ (.tail _ (.tail _ (.tail _ (.tail _ hq))))
             have dE2 := W.dict
             have hbr := told_ring hnod hlen W.inv W.ends I1.pure hAC
             (repeat' ((fail_if_success (with_reducible show wpAny _ _ (eval (Expr.ListComp _ _ _ _) _) _ _ _)); (walk_at "step6")))
             (rename News _ _ _ _ => nN10)
             (rename Fr _ _ _ _ => nF10)
             k_dflt (refine LCp.ListComp_P (F₀ := nF10) (by with_unfolding_all rfl) (by decide) (by rfl) (by decide) (by rfl) (by rfl) (by decide) ?_)
             walk1
             refine LCp.SrcLP.ledger (by rfl) nF10 nN10 (.tail _ (.tail _ (.tail _ (.tail _ (.tail _ mK))))) (by rw [sizeLine_eq, List.size_toArray, LinksIn.len hl]; omega) ?_
             intro g'
             refine restP (fun i ys n' => n' = (sa, instObj 146 da) :: (da, sAttrs w.params k1 k2 k3 k4 ia (.ref ra) (.int p tp) (.int p tq)) :: (ia, oi1) :: (ra, listOf #[] epR) :: (dE, oE) :: own ∧ OptsAre ys ((links.take i).map fun l => endL links l.1)) ?_ _ 0 [] _ ?_ ⟨rfl, .nil⟩
             · (intro i v ys n' hv qq9; (try k_fold); refine hide fun hP => ?_; rcases qq9 with ⟨rfl, hO⟩ <;> (refine hP ?_; clear hP))
               (refine hide fun hP => ?_; rcases LinksIn.at hl (arr_at hv) with ⟨a, tp', pl, ws, epl, pp, pcs, rfl, hli, hm1, hm2, hS⟩ <;> (refine hP ?_; clear hP))
               refine exi5 a _ _ _ 0 ⟨rfl, .tail _ (.tail _ (.tail _ (.tail _ (.tail _ (mT _ hm1))))), rfl, rfl, ?_⟩
               clear nN10 nF10
               intro I' oI' C' oC' D' m' h' tk' E' hC' hx' hy' F' N' off' ne'
               rcases hends (List.mem_of_getElem? hli) with ⟨e, te, hv1, hv2⟩ | ⟨hv1, hv2⟩
               · (repeat' (walk_at "step6"))
                 exact LCg.CompEnd.intro F' N' _ (fun q h => h) off' (.inr ⟨_, .tail _ (.tail _ (.tail _ (.tail _ (.tail _ mK)))), rfl, _, rfl⟩) ⟨rfl, by rw [← ends_take hli, hv2]; exact hO.snocS e te⟩
               · (repeat' (walk_at "step6"))
                 exact LCg.CompEnd.intro F' N' _ (fun q h => h) off' (.inr ⟨_, .tail _ (.tail _ (.tail _ (.tail _ (.tail _ mK)))), rfl, _, rfl⟩) ⟨rfl, by rw [← ends_take hli, hv2]; exact hO.snocN⟩
             · (intro ys n' qq10; (try k_fold); refine hide fun hP => ?_; rcases qq10 with ⟨rfl, hO⟩ <;> (refine hP ?_; clear hP))
               rw [Nat.zero_add, List.size_toArray, List.take_of_length_le (by rw [LinksIn.len hl]; exact Nat.le_refl _)] at hO
               intro D' h' tk' F' N' o1'
               clear nN10 nF10
               (repeat' (walk_at "step6"))
               (rename News _ _ _ _ => kN)
               (rename KtsTurn _ _ _ => kT)
               subst hbr
               exact hQ _ _ _ _ D' ys _ _ kT (by assumption) (told_out kN mK (W.keep _ (.tail _ (.head _))) mT) (by assumption) (by assumption) (by assumption) (by assumption) hO
           | cons v0 vsR =>
             replace hb9 : b9 = true := hb9
             subst hb9
             (repeat' ((fail_if_success (with_reducible show wpAny _ _ (exec (Stmt.For _ _ _ _ _) _) _ _ _)); (walk_at "step6")))
             refine wpAny_For ?_
             (repeat' ((fail_if_success (with_reducible show wpAny _ _ (call (Value.ref 108) _) _ _ _)); (walk_at "step6")))
             dsimp only [List.append_nil]
             (rename News _ _ _ _ => nN10)
             (rename Fr _ _ _ _ => nF10)
             refine ready_spec (own := _ :: own) (by assumption) nF10 (by assumption) nN10 (by assumption) (by k_room) (by k_room) (by simp only [List.length_cons] at hsm ⊢; omega) (by simp) c8 c9 r1 r2 r3 W.hS (W.graph.mono fun q hq => .tail _ hq) (W.ap.cons ?a1 ?a2 ?a3) ?a4 ?a5 ?_
             case a1 => exact Nat.ne_of_gt y4
             case a2 => exact Nat.ne_of_gt y5
             case a3 => exact Nat.ne_of_gt y6
             case a4 =>
               intro q hq
               rcases List.mem_cons.mp hq with rfl | hq
               · exact Nat.ne_of_gt y7
               · exact W.nR q hq
             case a5 =>
               intro r hr
               (refine hide fun hP => ?_; rcases List.mem_map.mp (W.inv.node r (by simp [hr])) with ⟨q, hq, e⟩ <;> (refine hP ?_; clear hP))
               (refine hide fun hP => ?_; rcases List.mem_map.mp hq with ⟨i, hi, rfl⟩ <;> (refine hP ?_; clear hP))
               exact ⟨i, hi, e⟩
             intro h11 tk11 D own11 G11 tp11 ep11 F11 N11 g11 ap11 nra11 hp11 hk11 hks11
             (refine hide fun hP => ?_; rcases W.out g11 ap11 nra11 hp11 hk11 hks11 with ⟨mE, W11⟩ <;> (refine hP ?_; clear hP))
             clear nN10 nF10
             have nN12 := pullE N11 mE
             have W12 := W11.with nN12 (.tail _ (.tail _ (.tail _ (.tail _ (.tail _ (.head _)))))) (fun q hq => .tail _ (.tail _ (.tail _ (.tail _ (.tail _ (.tail _ hq)))))) (.head _) (.tail _ (.head _)) rfl (.tail _ (.tail _ (.head _))) (vsR0 := []) (.tail _ (.tail _ (.tail _ (.head _)))) (.tail _ (.tail _ (.tail _ (.tail _ (.head _)))))
             clear N11
             refine for_tupleM (vs := v0 :: vsR) rfl rfl rfl [] (fun m₀ n₀ i u n' => ∃ kvs2 rs2 vs2 ep2 oE2 own2 G2 q2 tq2, n' = (sa, instObj 146 da) :: (da, sAttrs w.params k1 k2 k3 k4 ia (.ref ra) (.int (p + ((v0 :: vsR).length : Int)) tp11) (.int q2 tq2)) :: (ia, oi1) :: (ra, listOf vs2.toArray ep2) :: (dE, oE2) :: own2 ∧ q2 = p + (i : Int) ∧ WI Challenge.rw_pd0114_01.row.prog w links ((D, ({ cls := Value.type "tuple", data := Data.seq (v0 :: vsR).toArray } : Obj)) :: (L1 + 1, oC') :: (274, tabObj ps1) :: (ld, oL1) :: (lk, listOf vs.toArray ep) :: tail) sa da ia ra dE oi1 oE2 own2 G2 kvs2 (ds ++ rs.take i) (rs.drop i) rs2 vs2) ?_ F11 nN12 ?_ ?_ ?_
             · (intro i m' n' h qq11 _ N'; (try k_fold); refine hide fun hP => ?_; rcases qq11 with ⟨kvs2, rs2, vs2, ep2, oE2, own2, G2, q2, tq2, rfl, _, W2⟩ <;> (refine hP ?_; clear hP))
               exact ⟨_, N'.get (.tail _ (.tail _ (.tail _ (.tail _ (.tail _ (W2.keep _ (.head _))))))), rfl, _, rfl⟩
             · exact ⟨kvs, [], [], ep11, oE, _, G11, p, tq, rfl, by simp, by simpa using W12⟩
             · (intro i v u n₂ h₂ tk₂ I it hv hic hlt qq12 F₂ N₂ hne; (try k_fold); refine hide fun hP => ?_; rcases qq12 with ⟨kvs2, rs2, vs2, ep2, oE2, own2, G2, q2, tq2, rfl, rfl, W2⟩ <;> (refine hP ?_; clear hP))
               (refine hide fun hP => ?_; rcases StrsAre.at W.hS hv with ⟨y, ty, rfl, hy⟩ <;> (refine hP ?_; clear hP))
               rw [drop_cons hy] at W2
               (refine hide fun hP => ?_; rcases W2.node hnod hlen with ⟨j, hj, rfl, hjn, hjs, hjl, hju, hjd⟩ <;> (refine hP ?_; clear hP))
               have mC := W2.keep _ (.tail _ (.head _))
               have mL := W2.keep _ (.tail _ (.tail _ (.tail _ (.head _))))
               have dL := I1.dict
               have dE2 := W2.dict
               have hsm2 := W2.small
               have hk2 : kvs2.length ≤ 100000 := by simp only [List.length_append, List.length_cons] at hsm2; omega
               have z1 := W2.nE
               have z2 := LeadsAre.isSome I1.leads j.key
               have z3 : ∀ q ∈ own2, q.1 ≠ I := fun q hq => hne q (.tail _ (.tail _ (.tail _ (.tail _ (.tail _ hq)))))
               clear nN12 F11
               refine packQ fun pk4Q pk4H => ?_
               k_lt hlt
               cases hp : inP links j.key with
               | true =>
                 (refine hide fun hP => ?_; rcases W2.value hnod hp with ⟨l, hl2, hle, e, t, mm, hv2, hE2, hm2⟩ <;> (refine hP ?_; clear hP))
                 (refine hide fun hP => ?_; rcases LeadsAre.value I1.leads hnod hl2 with ⟨tl, hvl⟩ <;> (refine hP ?_; clear hP))
                 rw [hle] at hvl
                 rw [hp] at z2
                 (repeat' ((fail_if_success (with_reducible show wpAny _ _ (call (Value.ref 129) _) _ _ _)); (walk_at "step6")))
                 (rename News _ _ _ _ => nN13)
                 (rename Fr _ _ _ _ => nF13)
                 (rename Obj.IsDictOf _ _ _ => hdS)
                 refine done_spec (own := _ :: _ :: own2) (by assumption) nF13 (by assumption) (rotD nN13) (by assumption) (by k_room) (by k_room) (by simp only [List.length_append, List.length_cons] at hsm2; omega) c8 c9 r1 r2 r3 W2.hS (W2.graph.mono fun q hq => .tail _ (.tail _ hq)) ((W2.ap.cons (Nat.ne_of_gt y4) (Nat.ne_of_gt y5) (Nat.ne_of_gt y6)).cons ?a4 ?a5 ?a6) ?a7 loI hj hjn hjl hju hjd ?_
                 case a4 => exact Nat.ne_of_gt (by assumption)
                 case a5 => exact Nat.ne_of_gt (by assumption)
                 case a6 => exact Nat.ne_of_gt (by assumption)
                 case a7 =>
                   intro q hq
                   rcases List.mem_cons.mp hq with rfl | hq
                   · exact Nat.ne_of_gt (by assumption)
                   rcases List.mem_cons.mp hq with rfl | hq
                   · exact Nat.ne_of_gt y7
                   · exact W2.nR q hq
                 intro h14 tk14 own14 G14 vs14 ep14 tq14 F14 N14 g14 ap14 nra14 hp14 hk14 hks14 hS14
                 (refine hide fun hP => ?_; rcases W2.done hnod hE2 hm2 hdS g14 ap14 nra14 (by rw [← hjs]; exact hp14) hk14 hks14 (by rw [← hjs]; exact hS14) z3 with ⟨mI, mE14, W14⟩ <;> (refine hP ?_; clear hP))
                 clear nN13 nF13
                 replace N14 := pullJE N14 mI mE14
                 (repeat' (walk_at "step6"))
                 (rename News _ _ _ _ => kN)
                 refine pk4H _ _ ?_
                 exact exi4 _ _ _ _ ⟨rfl, by assumption, kN, ne_five hne rfl rfl rfl rfl rfl, (fun y h1 h2 => by repeat (first | refine upn (by assumption) ?_ | refine itn (by assumption) ?_ | rfl)), exi9 _ _ _ _ _ _ _ _ _ ⟨rfl, by omega, take_snoc hy ▸ W14⟩⟩
               | false =>
                 rw [hp] at z2
                 (repeat' ((fail_if_success (with_reducible show wpAny _ _ (call (Value.ref 129) _) _ _ _)); (walk_at "step6")))
                 (rename News _ _ _ _ => nN13)
                 (rename Fr _ _ _ _ => nF13)
                 (rename Obj.IsDictOf _ _ _ => hdS)
                 refine done_spec (own := _ :: _ :: own2) (by assumption) nF13 (by assumption) (rotD nN13) (by assumption) (by k_room) (by k_room) (by simp only [List.length_append, List.length_cons] at hsm2; omega) c8 c9 r1 r2 r3 W2.hS (W2.graph.mono fun q hq => .tail _ (.tail _ hq)) ((W2.ap.cons (Nat.ne_of_gt y4) (Nat.ne_of_gt y5) (Nat.ne_of_gt y6)).cons ?a4 ?a5 ?a6) ?a7 loI hj hjn hjl hju hjd ?_
                 case a4 => exact Nat.ne_of_gt (by assumption)
                 case a5 => exact Nat.ne_of_gt (by assumption)
                 case a6 => exact Nat.ne_of_gt (by assumption)
                 case a7 =>
                   intro q hq
                   rcases List.mem_cons.mp hq with rfl | hq
                   · exact Nat.ne_of_gt (by assumption)
                   rcases List.mem_cons.mp hq with rfl | hq
                   · exact Nat.ne_of_gt y7
                   · exact W2.nR q hq
                 intro h14 tk14 own14 G14 vs14 ep14 tq14 F14 N14 g14 ap14 nra14 hp14 hk14 hks14 hS14
                 (refine hide fun hP => ?_; rcases W2.done hnod (ends_out hp) (Nat.zero_le _) hdS g14 ap14 nra14 (by rw [← hjs]; exact hp14) hk14 hks14 (by rw [← hjs]; exact hS14) z3 with ⟨mI, mE14, W14⟩ <;> (refine hP ?_; clear hP))
                 clear nN13 nF13
                 replace N14 := pullJE N14 mI mE14
                 (repeat' (walk_at "step6"))
                 (rename News _ _ _ _ => kN)
                 refine pk4H _ _ ?_
                 exact exi4 _ _ _ _ ⟨rfl, by assumption, kN, ne_five hne rfl rfl rfl rfl rfl, (fun y h1 h2 => by repeat (first | refine upn (by assumption) ?_ | refine itn (by assumption) ?_ | rfl)), exi9 _ _ _ _ _ _ _ _ _ ⟨rfl, by omega, take_snoc hy ▸ W14⟩⟩
             · (intro h₂ tk₂ u n₂ qq13 F₂ N₂; (try k_fold); refine hide fun hP => ?_; rcases qq13 with ⟨kvs2, rs2, vs2, ep2, oE2, own2, G2, q2, tq2, rfl, rfl, W2⟩ <;> (refine hP ?_; clear hP))
               have hrl := StrsAre.len W.hS
               rw [List.take_of_length_le (Nat.le_of_eq hrl.symm), List.drop_of_length_le (Nat.le_of_eq hrl.symm)] at W2
               clear nN12 F11
               (repeat' (walk_at "step6"))
               refine pk5H _ _ ?_
               dsimp only [WPost]
               (rename News _ _ _ _ => kN)
               exact exi6 g₃ _ _ _ _ (13 - (ds ++ rs).length) ⟨rfl, G₃, by assumption, kN, by simp only [List.length_append, List.length_cons] at hsm hrl ⊢; omega, _, ds ++ rs, rs2, kvs2, vs2, ep2, oE2, own2, G2, exi3 _ _ _ ⟨map_node, rfl, rfl, W2.less fun _ h => .tail _ h⟩⟩
       · exact hF.elim
   )
end
end

end
-- F1
section
open PySem PySem.W PyProof.Rows
set_option maxRecDepth 100000
set_option linter.unusedVariables false
section
def placesD : List Str := ["/a", "/b", "/a/b", "/c/a", "/c", "/b/c"].map Str.ofString
def piecesD : List Str := ["a", "b", "c", "..", "/b", "/c/a"].map Str.ofString
def stepsB : Str → List Str → Bool
  | _, [] => true
  | x, q :: qs => decide (x.length ≤ 1000) && decide (q.length ≤ 1000) && @decide (NormOk (joinF x q)) (normDec _) && stepsB (leadStep x q) qs
theorem stepsB_ok : ∀ {ps : List Str} {x : Str}, stepsB x ps = true → StepsOk x ps
  | [], _, _ => trivial
  | q :: qs, x, h => by
    simp only [stepsB, Bool.and_eq_true, decide_eq_true_eq] at h
    exact ⟨h.1.1.1, h.1.1.2, h.1.2, stepsB_ok h.2⟩
/-- all that the walks ask of one link -/
def linkOk (p : Str) (ps : List Str) : Bool :=
  decide (leadF p ps = ledF p ps) && decide (p.length ≤ 100) && stepsB (dirF p) ps && decide (ps.length ≤ 2) && ps.all (fun q => decide (q.length ≤ 100) && decide ((Txt.split (Txt.slice q (some 1) none) (Str.ofString "/")).length ≤ 1000)) &&
    decide ((Txt.split (Txt.slice p (some 1) none) (Str.ofString "/")).length ≤ 1000) && decide (((ledN p ps).map (·.length)).sum + (ledN p ps).length ≤ 1048576) && decide ((Txt.join (Str.ofString "/") (ledN p ps)).length ≤ 5000)
theorem all_links1 : (placesD.all fun p => piecesD.all fun a => linkOk p [a]) = true := by decide +kernel
theorem all_links2 : (placesD.all fun p => piecesD.all fun a => piecesD.all fun b => linkOk p [a, b]) = true := by decide +kernel
end

end
-- C17
section
open PySem PySem.W PySem.Calls PyProof.Rows
set_option maxRecDepth 100000
set_option linter.unusedVariables false
section
section
variable {prog : Program} {w : World} {A : Around} {s : Shared} {env : Env} {h₀ : Heap}
/-- a for over range(n), by an invariant -/
theorem for_rangeM {R : Result → Shared → Prop} {E : Value → Shared → Prop} {x : Str} {px : Pos} {body orelse : List Stmt} {r : Addr} {n : Nat} {t u v : Tok} {m : Str → Option Value} {news : List (Addr × Obj)}
    (hh : A.handled = none) (hx : env.kindOf x = some .local) (hp : (env.scope.kind == .class || (env.scope.kind == .module && env.locals != env.globals)) = false)
    (stored : List Str) (J : (Str → Option Value) → List (Addr × Obj) → Nat → (Str → Option Value) → List (Addr × Obj) → Prop)
    (hr : IsRange s.heap r 0 (n : Int) 1 t u v) (hsm : Builtin.Range.small 0 (n : Int) 1 = true) (hsz : Builtin.Range.rangeSize 0 (n : Int) 1 = (n : Int))
    (F : Fr h₀ env.locals s.heap m) (N : News h₀ env.locals s.heap news) (h0 : J m news 0 m news)
    (turn : ∀ i t u news₁ h tk I it, i < n → it.cls = Value.type "range_iterator" → (∀ p ∈ news, p.1 < I) → J m news i u news₁ → Fr h₀ env.locals h (fun y => if y = x then some (.int (i : Int) t) else if stored.contains y then u y else m y) → News h₀ env.locals h ((I, it) :: news₁) → (∀ p ∈ news₁, p.1 ≠ I) →
      wpAny (model prog w) A (execs body env) (TPost1 h₀ env.locals I it x stored m (J m news (i + 1)) s fun f s₃ => R (.ok f) s₃) (fun _ _ => False) { s with heap := h, toks := tk })
    (done : ∀ h tk u news', J m news n u news' → Fr h₀ env.locals h (fun y => if y = x then u x else if stored.contains y then u y else m y) → News h₀ env.locals h news' → wpAny (model prog w) A (execs orelse env) (fun f s₃ => R (.ok f) s₃) (fun _ _ => False) { s with heap := h, toks := tk }) :
    wpAny (model prog w) A (pyIter (.ref r)) (fun it s₂ => codeAny (model prog w) A (.forLoop (.Name x px) it body orelse env) R s₂) E s := by
  have hL : env.locals ≠ s.heap.objs.size := Nat.ne_of_lt F.ns.lt
  refine wpAny_pyIter_range hr hsm ?_
  rw [hsz]
  have W := Walks.range (prog := prog) (w := w) hh s.heap.objs.size 0 1 n
  have W' : Walks prog w A s.heap.objs.size [s.heap.objs.size] [s.heap.objs.size] n (fun i v => ∃ t, v = .int (i : Int) t) (fun i h => IsRangeIter h s.heap.objs.size (0 + (i : Nat) * 1) ((n : Int) - (i : Nat)) 1 ∧ True) :=
    { sub := W.sub, frame := fun i h h' st hk => ⟨W.frame i h h' st.1 hk, trivial⟩, done := fun s Q E st hQ => W.done s Q E st.1 hQ, self := fun i s Q E st hQ => W.self i s Q E st.1 hQ,
      item := fun i s Q E hi st hQ => W.item i s Q E hi st.1 fun v h' tk hP st' hk => hQ v h' tk (by (refine hide fun hHid => ?_; rcases hP with ⟨t, e⟩ <;> (refine hHid ?_; clear hHid)); exact ⟨t, by rw [e]; simp⟩) ⟨st', trivial⟩ hk }
  refine for_led (s := { s with heap := s.heap.push _ }) (It := fun i h => IsRangeIter h s.heap.objs.size (0 + (i : Nat) * 1) ((n : Int) - (i : Nat)) 1) (Src := fun _ => True) W' (fun i h h' x e => e _ x) (ic := .type "range_iterator") (fun i h x => ⟨_, x, rfl⟩) (fun v s₁ Q' _ hq => ?_) hL (next_is_new F) (fun p hp => Nat.ne_of_lt (Heap.lt_size (N p hp).1))
    (fun i m' news' => (∀ y, y ≠ x → stored.contains y = false → m' y = m y) ∧ J m news i m' news') (fun _ _ _ _ _ _ _ => trivial) ?_ (F.push _) (fun p hp => ⟨Heap.get?_push_of_some _ (N p hp).1, (N p hp).2⟩) ⟨fun _ _ _ => rfl, h0⟩ ?_ ?_
  · show wpAny _ _ (letOwnedTupleGo (.Name x px) _ v) _ _ _
    exact wpAny_pure hq
  · show (s.heap.push _).get? _ = some _
    refine (Heap.get?_push_size _ rfl).trans ?_
    simp
  · (intro i v m₁ news₁ h tk it hi qq1 hic qq2 F₁ N₁ hn; refine hide fun hHid => ?_; rcases qq1 with ⟨t, rfl⟩ <;> rcases qq2 with ⟨hm, hj⟩ <;> (refine hHid ?_; clear hHid))
    refine wpAny_assign_Name (wpAny_storeName_local hx F₁.ns (fun h₂ hn₂ hs₂ => ?_) hp)
    have F₂ := F₁.set hn₂ hs₂
    rw [map_stored hm (.int (i : Int) t)] at F₂
    refine wpAny_mono (turn i t m₁ news₁ h₂ _ _ it hi hic (fun p hp => Heap.lt_size (N p hp).1) hj F₂ (N₁.set hs₂) hn) (fun f s₃ h₃ => ?_) (fun _ _ e => e)
    have fin : TEnd1 h₀ env.locals s.heap.objs.size it x stored m (J m news (i + 1)) s s₃ → TEnd h₀ env.locals s.heap.objs.size it (fun m' news' => (∀ y, y ≠ x → stored.contains y = false → m' y = m y) ∧ J m news (i + 1) m' news') s s₃ := by
      (intro qq3; refine hide fun hHid => ?_; rcases qq3 with ⟨h', tk', m', news', e, F', N', hn', hm', hj'⟩ <;> (refine hHid ?_; clear hHid))
      exact ⟨h', tk', m', news', e, F', N', hn', hm', hj'⟩
    cases f with
    | next => exact fin h₃
    | cont => exact fin h₃
    | brk => exact h₃
    | ret v => exact h₃
  · (intro h tk m' news' qq4 F' N'; refine hide fun hHid => ?_; rcases qq4 with ⟨hm, hj⟩ <;> (refine hHid ?_; clear hHid))
    rw [map_stored' hm] at F'
    exact done h tk m' news' hj F' N'
end
end
section
section
variable {prog : Program} {w : World} {A : Around} {E : Value → Shared → Prop} {s : Shared} {h₀ : Heap} {L : Addr} {m : Str → Option Value} {news : List (Addr × Obj)} {vs : List Value} {ns : List Int} {n : Nat}
theorem slice3_ints {value slice : Expr} {l : Addr} {vl vu vk : Value} {lo hi st : Option Int} {ops : List Value} {Q : Value → Shared → Prop}
    (F : Fr h₀ L s.heap m) (N : News h₀ L s.heap news) (hm : (l, listOf vs.toArray n) ∈ news) (hi' : IntsAre vs ns) (pl : IsPart vl lo) (pu : IsPart vu hi) (pk : IsPart vk st) (h0 : st ≠ some 0)
    (h : ∀ D h' ws, Fr h₀ L h' m → News h₀ L h' ((D, listOf ws.toArray 0) :: news) → IntsAre ws (pickNums ns lo hi st) → (∀ p ∈ news, p.1 < D) → Q (.ref D) { s with heap := h' })
    (hs : subscripted slice false (.ref l) (.ref s.heap.objs.size) = operate ops (getItem (.ref l) (.ref s.heap.objs.size))) (ht : ∀ r, letTemporaryGo value (.ref l) r = pure ()) (hz : ns.length ≤ 1000) :
    wpAny (model prog w) A (subscriptTail value slice (.ref l) (.ref s.heap.objs.size)) Q E { s with heap := s.heap.push { cls := .type "slice", data := .fields #[vl, vu, vk] } } := by
  refine slice_list3 F N ⟨_, N.get hm, rfl, _, rfl⟩ pl pu pk h0 (fun h' F' N' => h _ h' (slicePick vs.toArray lo hi st).toList F' (by rw [Array.toArray_toList]; exact N') (hi'.pick lo hi st) fun p hp => Nat.lt_succ_of_lt (Heap.lt_size (N p hp).1)) hs ht ?_
  rw [sizeLine_eq, List.size_toArray, hi'.length]; omega
theorem sum_ints {l : Addr} {Q : Value → Shared → Prop} (hh : A.handled = none) (F : Fr h₀ L s.heap m) (N : News h₀ L s.heap news) (hm : (l, listOf vs.toArray n) ∈ news) (hi : IntsAre vs ns)
    (h : ∀ h' tk t', Fr h₀ L h' m → News h₀ L h' news → Q (.int ns.sum t') { s with heap := h', toks := tk }) :
    wpAny (model prog w) A (call (.builtin "sum") [.ref l]) Q E s := sumK hh F N ⟨_, N.get hm, rfl, _, rfl⟩ hi h
end
end
section
abbrev PIECES (tk : Nat) : Array Value := #[.str (Str.ofString "a") tk, .str (Str.ofString "b") (tk + 1), .str (Str.ofString "c") (tk + 1 + 1), .str (Str.ofString "..") (tk + 1 + 1 + 1), .str (Str.ofString "/b") (tk + 1 + 1 + 1 + 1), .str (Str.ofString "/c/a") (tk + 1 + 1 + 1 + 1 + 1)]
def pieceAt (n : Int) : Str := piecesD.getD n.toNat (Str.ofString "")
def pcsOf (n : Int) : List Str := [pieceAt (n.fmod 6), pieceAt ((n.fdiv 6).fmod 6)].take ((n.fdiv 36).fmod 2 + 1).toNat
def seedsD : List Int := [7, 40, 3, 13, 19, 2]
def linkAt (ns : List Int) (k : Nat) : Link := (placesD.getD k (Str.ofString ""), pcsOf (seedsD.getD k 0 + (pickNums ns (some (k : Int)) none (some 6)).sum))
def drawnL (ns : List Int) : List Link := (List.range 6).map (linkAt ns)
end
section
section
variable {prog : Program} {w : World} {A : Around} {E : Value → Shared → Prop} {s : Shared} {h₀ : Heap} {L : Addr} {m : Str → Option Value} {news : List (Addr × Obj)} {vs : List Value} {ns : List Int} {n : Nat}
theorem piece_item {value slice : Expr} {pl : Addr} {tk : Nat} {k : Int} {u : Tok} {Q : Value → Shared → Prop} (N : News h₀ L s.heap news) (hm : (pl, listOf (PIECES tk) 0) ∈ news) (h0 : 0 ≤ k) (h6 : k < 6) (h : ∀ t, Q (.str (pieceAt k) t) s)
    (hs : subscripted slice false (.ref pl) (.int k u) = operate [.ref pl, .int k u] (getItem (.ref pl) (.int k u)) := by with_unfolding_all rfl) : wpAny (model prog w) A (subscriptTail value slice (.ref pl) (.int k u)) Q E s := by
  have hl : s.heap.IsList pl (PIECES tk) := ⟨_, N.get hm, rfl, _, rfl⟩
  have hx : ∃ t, (PIECES tk)[k.toNat]? = some (.str (pieceAt k) t) := by
    have : k = 0 ∨ k = 1 ∨ k = 2 ∨ k = 3 ∨ k = 4 ∨ k = 5 := by omega
    rcases this with rfl | rfl | rfl | rfl | rfl | rfl <;> exact ⟨_, rfl⟩
  (refine hide fun hHid => ?_; rcases hx with ⟨t, hx⟩ <;> (refine hHid ?_; clear hHid))
  exact tail_any hl.typeIs slot_list_getitem.lookup (wpAny_getItem_list hl h0 (by omega) hx (h t)) hs
theorem slice_pair {value slice : Expr} {l : Addr} {v1 v2 : Value} {e : Int} {u : Tok} {Q : Value → Shared → Prop} (F : Fr h₀ L s.heap m) (N : News h₀ L s.heap news) (hm : (l, listOf #[v1, v2] n) ∈ news) (h0 : 0 ≤ e)
    (h : ∀ D h', Fr h₀ L h' m → News h₀ L h' ((D, listOf ([v1, v2].take e.toNat).toArray 0) :: news) → (∀ p ∈ news, p.1 < D) → Q (.ref D) { s with heap := h' })
    (hs : subscripted slice false (.ref l) (.ref s.heap.objs.size) = operate [.ref s.heap.objs.size, .ref l] (getItem (.ref l) (.ref s.heap.objs.size))) (ht : ∀ r, letTemporaryGo value (.ref l) r = pure ()) :
    wpAny (model prog w) A (subscriptTail value slice (.ref l) (.ref s.heap.objs.size)) Q E { s with heap := s.heap.push { cls := .type "slice", data := .fields #[.none, .int e u, .none] } } := by
  refine slice_led (vs := [v1, v2]) F N hm .none (.int e u) ?_ h hs ht (by simp)
  have ee : e = (e.toNat : Int) := by omega
  conv => lhs; rw [ee]
  exact slicePick_upto' _ _
end
theorem LinksIn.snoc {tail : List (Addr × Obj)} {a pl : Addr} {tp : Tok} {ws : List Value} {ep : Nat} {p : Str} {ps : List Str} (h1 : (a, ({ cls := .type "tuple", data := .seq #[.str p tp, .ref pl] } : Obj)) ∈ tail) (h2 : (pl, listOf ws.toArray ep) ∈ tail) (h3 : StrsAre ws ps) :
    ∀ {vs : List Value} {ls : List (Str × List Str)}, LinksIn tail vs ls → LinksIn tail (vs ++ [.ref a]) (ls ++ [(p, ps)])
  | _, _, .nil => .cons h1 h2 h3 .nil
  | _, _, .cons g1 g2 g3 g4 => .cons g1 g2 g3 (LinksIn.snoc h1 h2 h3 g4)
theorem drawn_take (ns : List Int) {i : Nat} (h : i < 6) : (drawnL ns).take (i + 1) = (drawnL ns).take i ++ [linkAt ns i] := by
  have : (drawnL ns)[i]? = some (linkAt ns i) := by
    unfold drawnL
    rw [List.getElem?_map, List.getElem?_range h]; rfl
  rw [take_next this]
theorem pieces_take (a b : Str) (t u : Tok) (k : Nat) : StrsAre ([Value.str a t, Value.str b u].take k) ([a, b].take k) := (StrsAre.cons a t (.cons b u .nil)).take' k
end
section
theorem links_next {h₀ h : Heap} {L I lk pl a q : Addr} {it lo lo0 po : Obj} {x1 x2 x3 x4 : Addr × Obj} {tp : Tok} {p : Str} {ps : List Str} {ws : List Value} {own tl src : List (Addr × Obj)} {vs : List Value} {ls : List (Str × List Str)}
    (N : News h₀ L h ((a, ({ cls := .type "tuple", data := .seq #[.str p tp, .ref q] } : Obj)) :: (q, listOf ws.toArray 0) :: x1 :: x2 :: x3 :: x4 :: (I, it) :: (lk, lo) :: (pl, po) :: own)) (hS : StrsAre ws ps)
    (hk1 : ∀ x ∈ src, x ∈ own) (hk2 : ∀ x ∈ tl, x ∈ own) (hL : LinksIn tl vs ls) (hn1 : ∀ x ∈ own, x.1 ≠ lk) (hn2 : ∀ x ∈ own, x.1 ≠ pl) (hb : ∀ x ∈ src, x.1 < lk ∧ ∀ p ∈ tl, x.1 < p.1) (hne : ∀ x ∈ (lk, lo0) :: (pl, po) :: own, x.1 ≠ I)
    (a1 : @LT.lt Nat _ lk a) (a2 : @LT.lt Nat _ pl a) (a3 : @LT.lt Nat _ I a) (a4 : AllLt a own) (b1 : @LT.lt Nat _ lk q) (b2 : @LT.lt Nat _ pl q) (b3 : @LT.lt Nat _ I q) (b4 : AllLt q own) :
    let T : Addr × Obj := (a, ({ cls := .type "tuple", data := .seq #[.str p tp, .ref q] } : Obj))
    let S : Addr × Obj := (q, listOf ws.toArray 0)
    News h₀ L h ((I, it) :: (lk, lo) :: (pl, po) :: T :: S :: own) ∧ (∀ x ∈ (lk, lo) :: (pl, po) :: T :: S :: own, x.1 ≠ I) ∧ (∀ x ∈ src, x ∈ T :: S :: own) ∧ (∀ x ∈ T :: S :: tl, x ∈ T :: S :: own) ∧ LinksIn (T :: S :: tl) (vs ++ [.ref a]) (ls ++ [(p, ps)]) ∧
      (∀ x ∈ T :: S :: own, x.1 ≠ lk) ∧ (∀ x ∈ T :: S :: own, x.1 ≠ pl) ∧ ∀ x ∈ src, x.1 < lk ∧ ∀ p ∈ T :: S :: tl, x.1 < p.1 := by
  intro T S
  have two : ∀ {P : Addr → Prop} {r : List (Addr × Obj)}, P a → P q → (∀ x ∈ r, P x.1) → ∀ x ∈ T :: S :: r, P x.1 := fun h1 h2 h3 x hx => by
    rcases List.mem_cons.mp hx with rfl | hx
    · exact h1
    rcases List.mem_cons.mp hx with rfl | hx
    · exact h2
    · exact h3 x hx
  refine ⟨fun x hx => N x ?_, fun x hx => ?_, fun x hx => .tail _ (.tail _ (hk1 x hx)), fun x hx => ?_, LinksIn.snoc (.head _) (.tail _ (.head _)) hS (hL.mono fun _ h => .tail _ (.tail _ h)), two (P := (· ≠ lk)) (Nat.ne_of_gt a1) (Nat.ne_of_gt b1) hn1, two (P := (· ≠ pl)) (Nat.ne_of_gt a2) (Nat.ne_of_gt b2) hn2, fun x hx => ⟨(hb x hx).1, ?_⟩⟩
  · simp only [List.mem_cons] at hx ⊢
    rcases hx with h | h | h | h | h | h
    · simp [h]
    · simp [h]
    · simp [h]
    · exact .inl h
    · exact .inr (.inl h)
    · simp [h]
  · rcases List.mem_cons.mp hx with rfl | hx
    · exact hne (lk, lo0) (.head _)
    rcases List.mem_cons.mp hx with rfl | hx
    · exact hne _ (.tail _ (.head _))
    · exact two (P := (· ≠ I)) (Nat.ne_of_gt a3) (Nat.ne_of_gt b3) (fun y hy => hne y (.tail _ (.tail _ hy))) x hx
  · rcases List.mem_cons.mp hx with rfl | hx
    · exact .head _
    rcases List.mem_cons.mp hx with rfl | hx
    · exact .tail _ (.head _)
    · exact .tail _ (.tail _ (hk2 x hx))
  · exact two (P := (x.1 < ·)) (allLt_mem a4 x (hk1 x hx)) (allLt_mem b4 x (hk1 x hx)) (hb x hx).2
theorem links_out {h₀ h : Heap} {L : Addr} {l p : Addr × Obj} {own tl src : List (Addr × Obj)} (N : News h₀ L h (l :: p :: own)) (h1 : ∀ x ∈ src, x ∈ own) (h2 : ∀ x ∈ tl, x ∈ own) : News h₀ L h (l :: (tl ++ src)) := fun x hx => N x (by
  rcases List.mem_cons.mp hx with rfl | hx
  · exact .head _
  · rcases List.mem_append.mp hx with hx | hx
    · exact .tail _ (.tail _ (h2 x hx))
    · exact .tail _ (.tail _ (h1 x hx)))
end
section
theorem links_lt {a lk : Addr} {o : Obj} {news : List (Addr × Obj)} (h1 : @LT.lt Nat _ a lk) (h2 : AllLt lk news) : ∀ q ∈ (a, o) :: news, q.1 < lk := fun q hq => by
  rcases List.mem_cons.mp hq with rfl | hq
  · exact h1
  · exact allLt_mem h2 q hq
theorem links_ne {a lk : Addr} {o : Obj} {news : List (Addr × Obj)} (h1 : @LT.lt Nat _ a lk) (h2 : AllLt lk news) : ∀ q ∈ (a, o) :: news, q.1 ≠ lk := fun q hq => Nat.ne_of_lt (links_lt h1 h2 q hq)
end

end
end
end
end
end
end
end
end
end
end
end
end
end
end
end
end
end
end
end
end
end
end
end
end
end
end
end
end
end
end
end
end
end
end
end
end
end
end
end
end
end
end
end
end
end
end
end
end
-- A7 (ahead)
section
open PySem PySem.W PySem.Calls PyProof.Rows
set_option maxRecDepth 100000
set_option linter.unusedVariables false
section
section
variable {prog : Program} {w : World} {A : Around} {E : Value → Shared → Prop} {s : Shared} {h₀ : Heap} {L : Addr} {m : Str → Option Value} {news : List (Addr × Obj)}
theorem six {P : Nat → Prop} {i : Nat} (hi : i < 6) (h0 : P 0) (h1 : P 1) (h2 : P 2) (h3 : P 3) (h4 : P 4) (h5 : P 5) : P i := by
  have : i = 0 ∨ i = 1 ∨ i = 2 ∨ i = 3 ∨ i = 4 ∨ i = 5 := by omega
  rcases this with rfl | rfl | rfl | rfl | rfl | rfl <;> assumption
theorem seed_item {value slice : Expr} {l : Addr} {i n : Nat} {u t0 t1 t2 t3 t4 t5 : Tok} {Q : Value → Shared → Prop} (N : News h₀ L s.heap news) (hm : (l, listOf #[.int 7 t0, .int 40 t1, .int 3 t2, .int 13 t3, .int 19 t4, .int 2 t5] n) ∈ news) (hi : i < 6) (h : ∀ t, Q (.int (seedsD.getD i 0) t) s)
    (hs : subscripted slice false (.ref l) (.int (i : Int) u) = operate [.ref l, .int (i : Int) u] (getItem (.ref l) (.int (i : Int) u)) := by with_unfolding_all rfl) : wpAny (model prog w) A (subscriptTail value slice (.ref l) (.int (i : Int) u)) Q E s := by
  have hl : s.heap.IsList l #[.int 7 t0, .int 40 t1, .int 3 t2, .int 13 t3, .int 19 t4, .int 2 t5] := ⟨_, N.get hm, rfl, _, rfl⟩
  have hx : ∃ t, (#[.int 7 t0, .int 40 t1, .int 3 t2, .int 13 t3, .int 19 t4, .int 2 t5] : Array Value)[(i : Int).toNat]? = some (.int (seedsD.getD i 0) t) := by
    refine six (P := fun i => ∃ t, (#[.int 7 t0, .int 40 t1, .int 3 t2, .int 13 t3, .int 19 t4, .int 2 t5] : Array Value)[(i : Int).toNat]? = some (.int (seedsD.getD i 0) t)) hi ?_ ?_ ?_ ?_ ?_ ?_ <;> exact ⟨_, rfl⟩
  obtain ⟨t, hx⟩ := hx
  exact tail_any hl.typeIs slot_list_getitem.lookup (wpAny_getItem_list hl (Int.natCast_nonneg i) (by omega) hx (h t)) hs
theorem place_item {value slice : Expr} {l : Addr} {i n : Nat} {u t0 t1 t2 t3 t4 t5 : Tok} {Q : Value → Shared → Prop} (N : News h₀ L s.heap news) (hm : (l, listOf #[.str (Str.ofString "/a") t0, .str (Str.ofString "/b") t1, .str (Str.ofString "/a/b") t2, .str (Str.ofString "/c/a") t3, .str (Str.ofString "/c") t4, .str (Str.ofString "/b/c") t5] n) ∈ news) (hi : i < 6) (h : ∀ t, Q (.str (placesD.getD i (Str.ofString "")) t) s)
    (hs : subscripted slice false (.ref l) (.int (i : Int) u) = operate [.ref l, .int (i : Int) u] (getItem (.ref l) (.int (i : Int) u)) := by with_unfolding_all rfl) : wpAny (model prog w) A (subscriptTail value slice (.ref l) (.int (i : Int) u)) Q E s := by
  have hl : s.heap.IsList l #[.str (Str.ofString "/a") t0, .str (Str.ofString "/b") t1, .str (Str.ofString "/a/b") t2, .str (Str.ofString "/c/a") t3, .str (Str.ofString "/c") t4, .str (Str.ofString "/b/c") t5] := ⟨_, N.get hm, rfl, _, rfl⟩
  have hx : ∃ t, (#[.str (Str.ofString "/a") t0, .str (Str.ofString "/b") t1, .str (Str.ofString "/a/b") t2, .str (Str.ofString "/c/a") t3, .str (Str.ofString "/c") t4, .str (Str.ofString "/b/c") t5] : Array Value)[(i : Int).toNat]? = some (.str (placesD.getD i (Str.ofString "")) t) := by
    refine six (P := fun i => ∃ t, (#[.str (Str.ofString "/a") t0, .str (Str.ofString "/b") t1, .str (Str.ofString "/a/b") t2, .str (Str.ofString "/c/a") t3, .str (Str.ofString "/c") t4, .str (Str.ofString "/b/c") t5] : Array Value)[(i : Int).toNat]? = some (.str (placesD.getD i (Str.ofString "")) t)) hi ?_ ?_ ?_ ?_ ?_ ?_ <;> exact ⟨_, rfl⟩
  obtain ⟨t, hx⟩ := hx
  exact tail_any hl.typeIs slot_list_getitem.lookup (wpAny_getItem_list hl (Int.natCast_nonneg i) (by omega) hx (h t)) hs
end
end
end
section
local macro_rules | `(tactic| walk_at "allne") => `(tactic| first | exact allLt_ne2 (by assumption) (by first | with_reducible assumption | with_reducible exact Nat.le_refl _ | exact Nat.le_of_lt (by with_reducible assumption) | omega) | ((rename AllLt _ _ => hA9); clear hA9; walk_at "allne"))
section
local macro_rules | `(tactic| k_all) => `(tactic| first | assumption | exact off_ne | exact off_sub off_ne | walk_at "allne")
section
local macro_rules | `(tactic| k_lt $h:ident) => `(tactic| (replace $h := allLt_of $h; (try simp only [AllLt, and_true] at $h:ident); repeat (first | (refine and8 $h ?_; clear $h; intro hl' hl' hl' hl' hl' hl' hl' $h) | (refine and4 $h ?_; clear $h; intro hl' hl' hl' $h) | (refine and2 $h ?_; clear $h; intro hl' $h))))
section
local macro_rules | `(tactic| k_mem) => `(tactic| assumption)
section
local macro_rules | `(tactic| walk_at "i3") => `(tactic| (intro h' F' N'; (try k_sweep)))
section
local macro_rules | `(tactic| walk_at "i5") => `(tactic| (intro D' h' F' N' l1'; (try k_lt l1'); (try k_sweep)))
section
local macro_rules | `(tactic| walk_at "call builtin:list.append") => `(tactic| (k_here; (with_reducible show wpAny _ _ (call (Value.builtin _) [Value.ref _, _]) _ _ _); k_dflt (refine' append_vs (by k_asm) (by k_asm) (by k_upd) (by first | omega | (simp only [List.length_append, List.length_cons, List.length_nil]; omega)) ?_); walk_at "i3"))
section
local macro_rules | `(tactic| walk_at "subscriptTail Name Slice ref ref") => `(tactic| (k_here; (with_reducible show wpAny _ _ (subscriptTail _ (PySem.Expr.Slice (some _) none (some _) _) (Value.ref _) (Value.ref _)) _ _ _); k_dflt (refine' slice3_ints (by k_asm) (by k_asm) (by k_mem) (by assumption) (IsPart.int _ _) IsPart.none (IsPart.int _ _) (by decide) ?_ (by with_unfolding_all rfl) (by intro _; with_unfolding_all rfl) (by omega)); intro D' h' ws' F' N' hi' l1'; (try k_lt l1'); (try k_sweep)))
section
local macro_rules | `(tactic| walk_at "call builtin:sum") => `(tactic| (k_here; (with_reducible show wpAny _ _ (call (Value.builtin "sum") [Value.ref _]) _ _ _); k_dflt (refine' sum_ints (by rfl) (by k_asm) (by k_asm) (by k_mem) (by assumption) ?_); intro h' tk' t' F' N'; (try k_sweep)))
section
local macro_rules | `(tactic| walk_at "subscriptTail Name BinOp ref int") => `(tactic| (k_here; (with_reducible show wpAny _ _ (subscriptTail _ _ (Value.ref _) (Value.int (Int.fmod _ 6) _)) _ _ _); k_dflt (refine' piece_item (by k_asm) (by k_mem) (by exact Int.fmod_nonneg_of_pos _ (by decide)) (by exact Int.fmod_lt_of_pos _ (by decide)) ?_ (by with_unfolding_all rfl)); intro t'))
section
local macro_rules | `(tactic| walk_at "subscriptTail Name Slice ref ref") => `(tactic| (k_here; (with_reducible show wpAny _ _ (subscriptTail _ (PySem.Expr.Slice none (some _) none _) (Value.ref _) (Value.ref _)) _ _ _); k_dflt (refine' slice_pair (by k_asm) (by k_asm) (by k_mem) (by exact Int.add_nonneg (Int.fmod_nonneg_of_pos _ (by decide)) (by decide)) ?_ (by with_unfolding_all rfl) (by intro _; with_unfolding_all rfl)); walk_at "i5"))
section
local macro_rules | `(tactic| walk_at "subscriptTail") => `(tactic| (k_here; (with_reducible show wpAny _ _ (subscriptTail _ _ (Value.ref _) (Value.int (Nat.cast _) _)) _ _ _); k_dflt (first | (refine' seed_item (by k_asm) (by k_mem) (by assumption) ?_ (by with_unfolding_all rfl)) | (refine' place_item (by k_asm) (by k_mem) (by assumption) ?_ (by with_unfolding_all rfl))); intro t'))
-- A7
section
open PySem PySem.W PySem.Calls PyProof.Rows
set_option maxRecDepth 100000
set_option linter.unusedVariables false
section

section
variable {w : World} {s : Shared} {A₀ : Around} {base h₀ : Heap} {outer : List Env} {L a : Addr} {cd code : Value} {nm qn : Str} {gl bi : Addr} {cls : List (Str × Addr)} {fn : Option Addr} {nms : List (Str × NameKind)} {mo : List (Str × Const)} {ig ic : Bool} {m mg mb : Str → Option Value} {news : List (Addr × Obj)} {loose : List Str} {mean : ExcName → Option Value} {d u : Nat} {gs : Option (List Code)} {Q : Value → Shared → Prop} {E : Value → Shared → Prop}

variable {sl : Addr} {svs : List Value} {sep : Nat} {ns : List Int}
set_option maxHeartbeats 8000000 in
theorem links_spec 
 (B : Below A₀ base outer h₀) (F : Fr h₀ L s.heap m) (X₀ : (Mine.hq.hd.heap_39 w.params).In h₀) (N : News h₀ L s.heap ((sl, listOf svs.toArray sep) :: news)) (T : Top topProg loose mean mg mb h₀) (hd : d < 560) (hu : u < 560)
 (hi : IntsAre svs ns) (hsl : ns.length ≤ 18)
 (h : ∀ h' tk lk vs ep tl, Fr h₀ L h' m → News h₀ L h' ((lk, listOf vs.toArray ep) :: (tl ++ (sl, listOf svs.toArray sep) :: news)) → LinksIn tl vs (drawnL ns) → (∀ x ∈ (sl, listOf svs.toArray sep) :: news, x.1 < lk ∧ ∀ p ∈ tl, x.1 < p.1) → Q (.ref lk) { s with heap := h', toks := tk })
 :
 wpAny (model Challenge.rw_pd0114_01.row.prog w) ⟨none, d, some ((⟨⟨.function, nms, ig, ic, mo⟩, L, gl, cls, qn, fn, code, some L, bi⟩ : Env) :: outer), gs, u⟩ (call (.ref 272) [.ref sl]) Q E s := by
  revert X₀; k_fill; intro X₀
  refine packB fun er9 => ?_
  w_top off
  w_strict (
   (repeat' ((fail_if_success (with_reducible show wpAny _ _ (exec (Stmt.For _ _ _ _ _) _) _ _ _)); (walk_at "step9")))
   refine wpAny_For ?_
   (repeat' ((fail_if_success (with_reducible show wpAny _ _ (pyIter (Value.ref _)) _ _ _)); (walk_at "step9")))
   (rename News _ _ _ _ => nN)
   (rename Fr _ _ _ _ => nF)
   (rename IsRange _ _ _ _ _ _ _ _ => hR)
   (rename_i tk1 pl v6 x1 x2 v7 v8 lk v9 x3 x4 x5 v10 vF vN v11 v12 v13 v14 v15 v16)
   refine for_rangeM (n := 6) rfl rfl rfl [Str.ofString "n"] (fun m₀ n₀ i u n' => ∃ vs ep own tl, n' = (lk, listOf vs.toArray ep) :: (pl, listOf (PIECES tk1) 0) :: own ∧ (∀ q ∈ (sl, listOf svs.toArray sep) :: news, q ∈ own) ∧ (∀ q ∈ tl, q ∈ own) ∧ LinksIn tl vs ((drawnL ns).take i) ∧ vs.length = i ∧ (∀ q ∈ own, q.1 ≠ lk) ∧ (∀ q ∈ own, q.1 ≠ pl) ∧ ∀ q ∈ (sl, listOf svs.toArray sep) :: news, q.1 < lk ∧ ∀ p ∈ tl, q.1 < p.1) hR (by decide) (by decide) nF nN ?_ ?_ ?_
   · exact ⟨[], 0, _, [], rfl, fun _ h => h, (fun _ h => nomatch h), .nil, rfl, links_ne x4 x5, links_ne x1 x2, fun q hq => ⟨links_lt x4 x5 q hq, fun _ h => nomatch h⟩⟩
   · (intro i t u n₂ h₂ tk₂ I it hi hic hlt qq1 F₂ N₂ hne; (try k_fold); refine hide fun hP => ?_; rcases qq1 with ⟨vs, ep, own, tl, rfl, hk1, hk2, hL, hlen, hn1, hn2, hb⟩ <;> (refine hP ?_; clear hP))
     have msl := hk1 _ (.head _)
     have hvl : vs.length ≤ 100 := by omega
     clear nN nF
     k_lt hlt
     (repeat' ((fail_if_success (with_reducible show wpAny _ _ (callWith _ (Value.builtin "list.append", _).fst _ _ _) _ _ _)); (walk_at "step9")))
     dsimp only
     refine callWith_method1 ?_
     k_steps
     (rename News _ _ _ _ => kN)
     (refine hide fun hP => ?_; rcases links_next kN (pieces_take _ _ _ _ _) hk1 hk2 hL hn1 hn2 hb hne (by assumption) (by assumption) (by assumption) (by assumption) (by assumption) (by assumption) (by assumption) (by assumption) with ⟨r1, r2, r3, r4, r5, r6, r7, r8⟩ <;> (refine hP ?_; clear hP))
     exact exi4 _ _ _ _ ⟨rfl, by assumption, r1, r2, (fun y h1 h2 => by simp only [List.contains_cons, List.contains_nil, Bool.or_false, beq_eq_false_iff_ne] at h2; simp [upd, h1, h2]), exi4 _ _ _ _ ⟨rfl, r3, r4, by rw [drawn_take ns hi]; exact r5, by simp [hlen], r6, r7, r8⟩⟩
   · (intro h₂ tk₂ u n₂ qq2 F₂ N₂; (try k_fold); refine hide fun hP => ?_; rcases qq2 with ⟨vs, ep, own, tl, rfl, hk1, hk2, hL, hlen, hn1, hn2, hb⟩ <;> (refine hP ?_; clear hP))
     clear nN nF
     k_steps
     (rename News _ _ _ _ => kN)
     rw [show (drawnL ns).take 6 = drawnL ns from rfl] at hL
     exact h _ _ _ _ _ tl (by assumption) (links_out kN hk1 hk2) hL hb
   )
end
end

end
-- C18
section
open PySem PySem.W PySem.Calls PyProof.Rows PyProof.Rows.LCg
set_option maxRecDepth 100000
set_option linter.unusedVariables false
set_option maxHeartbeats 2000000
section
section
variable {prog : Program} {w : World} {A : Around} {E : Value → Shared → Prop} {s : Shared} {h₀ : Heap} {L : Addr} {m : Str → Option Value} {env : Env}
/-- the turns of a comprehension with one test -/
theorem comp_test_loop {elt target iter ct : Expr} {scope : Scope} {pos : Pos} {it acc : Value} {R : Result → Shared → Prop} (I : Nat → Shared → Prop)
    (turn : ∀ n s, I n s → wpAny (model prog w) A (pyNext it) (fun r s₁ => match r with
      | none => R (.ok .next) s₁
      | some v => wpAny (model prog w) A (letOwnedTupleGo target it v) (fun _ s₀ => wpAny (model prog w) A (assign target env v) (fun _ s₂ => wpAny (model prog w) A (isTrue ct env (eval ct env)) (fun ok s₃ =>
          if ok = true then wpAny (model prog w) A (eval elt env) (fun x s₄ => wpAny (model prog w) A (call (.builtin "list.append") [acc, x]) (fun _ s₅ => ∃ k, k < n ∧ I k s₅) (notedBy (model prog w) A env fun e s' => R (.error e) s') s₄) (notedBy (model prog w) A env fun e s' => R (.error e) s') s₃
          else ∃ k, k < n ∧ I k s₃) (notedBy (model prog w) A env fun e s' => R (.error e) s') s₂) (notedBy (model prog w) A env fun e s' => R (.error e) s') s₀) (notedBy (model prog w) A env fun e s' => R (.error e) s') s₁) (notedBy (model prog w) A env fun e s' => R (.error e) s') s)
    (n : Nat) (h : I n s) : codeAny (model prog w) A (.compLoop (.ListComp elt [⟨target, iter, [ct], 0⟩] scope pos) 0 it acc env) R s := by
  refine codeAny_loop rfl I (fun n s hI => ?_) n h
  show wpAny _ A ((compTurn (.ListComp elt [⟨target, iter, [ct], 0⟩] scope pos) 0 it acc env).onRaise (fun x => do noteFrame x env; theTreesLotGoes x)) _ _ s
  refine wpAny_noted ?_
  rw [compTurn_list]
  refine wpAny_bind (wpAny_standAt (wpAny_bind (wpAny_mono (turn n s hI) (fun r s₁ h₁ => ?_) fun _ _ e => e)))
  match r, h₁ with
  | none, h₁ => exact wpAny_pure h₁
  | some v, h₁ =>
    refine wpAny_bind (wpAny_mono h₁ (fun _ s₀ h₂ => wpAny_bind (wpAny_mono h₂ (fun _ s₂ h₃ => wpAny_bind (wpAny_tests_one (wpAny_mono h₃ (fun ok s₃ h₄ => ?_) fun _ _ e => e))) fun _ _ e => e)) fun _ _ e => e)
    match ok, h₄ with
    | false, h₄ => exact wpAny_pure ⟨rfl, h₄⟩
    | true, h₄ => exact wpAny_bind (wpAny_bind (wpAny_mono h₄ (fun x s₄ h₅ => wpAny_bind (wpAny_mono h₅ (fun _ s₅ h₆ => wpAny_pure (wpAny_pure ⟨rfl, h₆⟩)) fun _ _ e => e)) fun _ _ e => e))
/-- what a comprehension over the pairs of a list, with a test, asks of its iterable -/
def SrcPT (prog : Program) (w : World) (A : Around) (h₀ : Heap) (L : Addr) (m : Str → Option Value) (env : Env) (ct elt : Expr) (x x₂ : Str) (scope : Scope) (cl : List (Str × Addr)) (Q : Value → Shared → Prop) (xv : Value) (s₁ : Shared) : Prop :=
  ∃ (ax : Addr) (its : List Value) (nn : Nat) (news : List (Addr × Obj)) (J : Nat → List Value → List (Addr × Obj) → Prop), xv = .ref ax ∧ A.handled = none ∧ Fr h₀ L s₁.heap m ∧ News h₀ L s₁.heap news ∧ its.length ≤ 1000 ∧ J 0 [] news ∧ (∀ i ys n', J i ys n' → (ax, listOf its.toArray nn) ∈ n') ∧
    (∀ (g : Heap) i v ys n₁, its[i]? = some v → J i ys n₁ → ∃ (t : Addr) (v₁ v₂ : Value), v = .ref t ∧ (t, ({ cls := .type "tuple", data := .seq #[v₁, v₂] } : Obj)) ∈ n₁ ∧
      ∀ I oI C oC D m₂ h tk (E' : Value → Shared → Prop), NsObj oC m₂ → m₂ x = some v₁ → m₂ x₂ = some v₂ → Fr h₀ L h m → News h₀ L h ((I, oI) :: (C, oC) :: (D, lst ys) :: n₁) → Off3 I C D n₁ → ((@Ne Nat I C) ∧ (@Ne Nat I D) ∧ (@Ne Nat C D)) →
        wpAny (model prog w) A (isTrue ct (compEnvC scope cl C env) (eval ct (compEnvC scope cl C env))) (fun ok s' => if ok = true then
          wpAny (model prog w) A (eval elt (compEnvC scope cl C env)) (CompEnd h₀ L m { s₁ with heap := h, toks := tk } I oI C oC D (lst ys) (fun _ => True) (fun y n' => J (i + 1) (ys ++ [y]) n')) E' s'
          else CompEnd h₀ L m { s₁ with heap := h, toks := tk } I oI C oC D (lst ys) (fun _ => True) (fun _ n' => J (i + 1) ys n') .none s') E' { s₁ with heap := h, toks := tk }) ∧
    ∀ (g : Heap) ys n', J its.length ys n' → FinE h₀ L m { s₁ with heap := g } Q ys n'
theorem ListComp_PT {ct elt iter : Expr} {x x₂ : Str} {px px₂ tp : Pos} {kk : Nat} {scope : Scope} {cl : List (Str × Addr)} {pos : Pos} {Q : Value → Shared → Prop}
    (hF₀ : Fr h₀ L s.heap m) (hclos : closureFor scope env = pure cl) (hcell : ∀ y ∈ scope.names, y.2 ≠ .cell) (hkind : scope.kind = .function)
    (hnames : ∀ y ∈ scope.names, y.2 = .local → scope.names.lookup y.1 = some .local) (hx : scope.names.lookup x = some .local) (hx₂ : scope.names.lookup x₂ = some .local) (hxx : ¬ x = x₂)
    (h : wpAny (model prog w) A (eval iter env) (SrcPT prog w A h₀ L m env ct elt x x₂ scope cl Q) E s)
    (hs : ∀ x, foldedSetIterable iter env x = pure x := by intro _; rfl) :
    wpAny (model prog w) A (eval (.ListComp elt [⟨.Tuple [.Name x px, .Name x₂ px₂] kk tp, iter, [ct], 0⟩] scope pos) env) Q E s := by
  rw [eval_ListComp]
  refine wpAny_comprehension_free (use := none) rfl hs hclos hkind hnames (wpAny_mono h (fun xv s₁ h₁ => ?_) fun _ _ e => e)
  (refine hide fun hP => ?_; rcases h₁ with ⟨ax, its, nn, news, J, rfl, hh, F, N, hsz, h0, hsrc, turn, fin⟩ <;> (refine hP ?_; clear hP))
  have hl : s₁.heap.IsList ax its.toArray := ⟨_, N.get (hsrc _ _ _ h0), rfl, _, rfl⟩
  have hlt : ax < s₁.heap.objs.size := by (refine hide fun hP => ?_; rcases hl with ⟨_, e, _⟩ <;> (refine hP ?_; clear hP)); exact Heap.lt_size e
  refine wpAny_pyIter_list hl ?_
  -- the iterator
  generalize hH1 : s₁.heap.push { cls := .type "list_iterator", data := .fields #[.ref ax, .int 0 0] } = H1
  have hI1 : H1.get? s₁.heap.objs.size = some { cls := .type "list_iterator", data := .fields #[.ref ax, .int 0 0] } := hH1 ▸ Heap.get?_push_size _ rfl
  have up1 : ∀ b o, s₁.heap.get? b = some o → H1.get? b = some o := fun b o e => hH1 ▸ Heap.get?_push_of_some _ e
  have sz1 : H1.objs.size = s₁.heap.objs.size + 1 := by rw [← hH1, Heap.size_push]
  -- the list to be filled
  refine wpAny_newObj_type (wpAny_newFunctionEnv hcell (by intro y hy; simp at hy) (fun h₁ hns₁ hsb₁ => ?_) hkind)
  dsimp only at hns₁ hsb₁ ⊢
  generalize hH2 : H1.push { cls := .type "list", dict := none, data := .seq ([] : List Value).toArray } = H2 at hns₁ hsb₁ ⊢
  have sz2 : H2.objs.size = H1.objs.size + 1 := by rw [← hH2, Heap.size_push]
  generalize hIe : s₁.heap.objs.size = I at *
  generalize hDe : H1.objs.size = D at *
  generalize hCe : H2.objs.size = C at *
  have sI : @LT.lt Nat _ I D := by rw [sz1]; exact Nat.lt_succ_self _
  have sD : @LT.lt Nat _ D C := by rw [sz2]; exact Nat.lt_succ_self _
  have hID : I ≠ D := Nat.ne_of_lt sI
  have hDC : D ≠ C := Nat.ne_of_lt sD
  have hIC : I ≠ C := Nat.ne_of_lt (Nat.lt_trans sI sD)
  have up2 : ∀ b o, b ≠ C → H1.get? b = some o → h₁.get? b = some o := fun b o hb e => hsb₁.extBut b o hb (Heap.get?_push_of_some _ (hH2 ▸ Heap.get?_push_of_some _ e))
  have old : ∀ b o, s₁.heap.get? b = some o → @LT.lt Nat _ b I := fun b o e => hIe ▸ Heap.lt_size e
  have apart : ∀ b o, s₁.heap.get? b = some o → b ≠ I ∧ b ≠ C ∧ b ≠ D := fun b o e => ⟨Nat.ne_of_lt (old b o e), Nat.ne_of_lt (Nat.lt_trans (old b o e) (Nat.lt_trans sI sD)), Nat.ne_of_lt (Nat.lt_trans (old b o e) sI)⟩
  have keep : ∀ b o, s₁.heap.get? b = some o → h₁.get? b = some o := fun b o e => up2 b o (apart b o e).2.1 (up1 b o e)
  have hacc : h₁.get? D = some (lst []) := hsb₁.extBut _ _ hDC (Heap.get?_push_of_some _ (hH2 ▸ hDe ▸ Heap.get?_push_size _ rfl))
  have fresh : ∀ a, (∀ b o, s₁.heap.get? b = some o → b ≠ a) → h₀.get? a = none := fun a ha => by
    cases e : h₀.get? a with
    | none => rfl
    | some o => exact absurd rfl (ha _ _ (F.keep a o e))
  (refine hide fun hP => ?_; rcases id F.ns with ⟨oL, es, ep, hLo, _⟩ <;> (refine hP ?_; clear hP))
  have hLI : L ≠ I := (apart _ _ hLo).1
  have hLC : L ≠ C := (apart _ _ hLo).2.1
  have hLD : L ≠ D := (apart _ _ hLo).2.2
  have hI₀ := fresh I fun b o e => (apart b o e).1
  have hC₀ := fresh C fun b o e => (apart b o e).2.1
  have hD₀ := fresh D fun b o e => (apart b o e).2.2
  have off₀ : Off3 I C D news := Off3.of fun p hp => apart _ _ (N p hp).1
  have haI : ax ≠ I := by (refine hide fun hP => ?_; rcases hl with ⟨_, e, _⟩ <;> (refine hP ?_; clear hP)); exact (apart _ _ e).1
  have W := Walks.list (prog := prog) (w := w) hh I ax haI its.toArray
  have hsize : its.toArray.size = its.length := by simp
  rw [hsize] at W
  have hst : h₁.IsListIter I ax 0 ∧ h₁.IsList ax its.toArray := ⟨⟨_, up2 _ _ hIC hI1, rfl, rfl⟩, by (refine hide fun hP => ?_; rcases hl with ⟨o, e, r⟩ <;> (refine hP ?_; clear hP)); exact ⟨o, keep _ _ e, r⟩⟩
  have loop : ∀ s₃ : Shared, s₃ = { s₁ with heap := h₁, toks := s₁.toks + ([] : List (Str × Value)).length } → codeAny (model prog w) A (.compLoop (.ListComp elt [⟨.Tuple [.Name x px, .Name x₂ px₂] kk tp, iter, [ct], 0⟩] scope pos) 0 (.ref I) (.ref D) (compEnvC scope cl C env))
      (compPost (model prog w) A E none Q (.ref D) C) s₃ := by
    (intro s₃ qq1; refine hide fun hP => ?_; rcases qq1 with rfl <;> (refine hP ?_; clear hP))
    refine comp_test_loop (fun k s' => ∃ h' tk i ys m' n', s' = { s₁ with heap := h', toks := tk } ∧ i ≤ its.length ∧ k = its.length + 1 - i ∧ ys.length ≤ i ∧ h'.IsListIter I ax i ∧ Fr h₀ L h' m ∧ h'.Ns C m' ∧ News h₀ L h' ((D, lst ys) :: n') ∧ Off3 I C D n' ∧ J i ys n') ?_ (its.length + 1)
      ⟨h₁, _, 0, [], _, news, rfl, Nat.zero_le _, rfl, Nat.le_refl _, hst.1, F.keeps keep, hns₁, fun p hp => ?_, off₀, h0⟩
    rotate_left
    · rcases List.mem_cons.mp hp with rfl | hp
      · exact ⟨hacc, hLD.symm, hD₀⟩
      · exact ⟨keep _ _ (N p hp).1, (N p hp).2⟩
    (intro k s' qq2; refine hide fun hP => ?_; rcases qq2 with ⟨h', tk, i, ys, m', n', rfl, hi, rfl, hyl, hit, F', hn', N', off', hJ⟩ <;> (refine hP ?_; clear hP))
    have offm := off'.mem
    have hax : h'.IsList ax its.toArray := ⟨_, (N' _ (.tail _ (hsrc _ _ _ hJ))).1, rfl, _, rfl⟩
    have next : ∀ h₂ : Heap, (∀ b o, b ∉ [I] → h'.get? b = some o → h₂.get? b = some o) → Fr h₀ L h₂ m ∧ News h₀ L h₂ ((D, lst ys) :: n') ∧ h₂.Ns C m' := fun h₂ hk => by
      refine ⟨fr_but F' hk hLI hI₀, news_but N' hk fun p hp => ?_, hn'.at' fun o e => hk _ o (by simpa using hIC.symm) e⟩
      rcases List.mem_cons.mp hp with rfl | hp
      · exact hID.symm
      · exact (offm p hp).1
    by_cases hlt : i < its.length
    · refine W.item i _ _ _ hlt ⟨hit, hax⟩ fun v h₂ tk₂ hv hst₂ hk₂ => ?_
      (refine hide fun hP => ?_; rcases next h₂ hk₂ with ⟨F₂, N₂, hn₂⟩ <;> (refine hP ?_; clear hP))
      (refine hide fun hP => ?_; rcases turn h₂ i v ys n' (by simpa using hv) hJ with ⟨t, v₁, v₂, rfl, hmt, hgo⟩ <;> (refine hP ?_; clear hP))
      refine wpAny_letOwnedTupleGo_listiter hst₂.1 ?_
      have ht : h₂.IsTuple t #[v₁, v₂] := ⟨_, (N₂ _ (.tail _ hmt)).1, rfl, _, rfl⟩
      refine kcp_assign (env := compEnvC scope cl C env) (s := { s₁ with heap := h₂, toks := tk₂ }) hh ht (lookup_relabel_local hx) (lookup_relabel_local hx₂) (by simp [compEnvC, relabel, hkind]) hn₂ fun h₃ tk₃ hn₃ hk₃ => ?_
      have hk₃ : ∀ c o, c ≠ C → h₂.get? c = some o → h₃.get? c = some o := hk₃
      (refine hide fun hP => ?_; rcases hst₂.1 with ⟨oI, heI, hcI, hdI⟩ <;> (refine hP ?_; clear hP))
      have heI₃ := hk₃ I oI hIC heI
      (refine hide fun hP => ?_; rcases ns_obj hn₃ with ⟨oC, heC, hoC⟩ <;> (refine hP ?_; clear hP))
      have F₃ : Fr h₀ L h₃ m := ⟨F₂.ns.at' fun o e => hk₃ _ o hLC e, fun b o e => hk₃ b o (fun q => by rw [q, hC₀] at e; cases e) (F₂.keep b o e), F₂.above⟩
      have N₃ : News h₀ L h₃ ((I, oI) :: (C, oC) :: (D, lst ys) :: n') := fun p hp => by
        rcases List.mem_cons.mp hp with rfl | hp
        · exact ⟨heI₃, hLI.symm, hI₀⟩
        rcases List.mem_cons.mp hp with rfl | hp
        · exact ⟨heC, hLC.symm, hC₀⟩
        · refine ⟨hk₃ _ _ ?_ (N₂ p hp).1, (N₂ p hp).2⟩
          rcases List.mem_cons.mp hp with rfl | hp
          · exact hDC
          · exact (offm p hp).2.1
      have back : ∀ {y : Value} {s₄ : Shared} {r : Value → List (Addr × Obj) → Prop}, CompEnd h₀ L m { s₁ with heap := h₃, toks := tk₃ } I oI C oC D (lst ys) (fun _ => True) r y s₄ → ∃ h₄ tk₄ n₄, s₄ = { s₁ with heap := h₄, toks := tk₄ } ∧ h₄.IsListIter I ax (i + 1) ∧ Fr h₀ L h₄ m ∧ (∃ m', h₄.Ns C m') ∧ News h₀ L h₄ ((D, lst ys) :: n₄) ∧ Off3 I C D n₄ ∧ r y n₄ := by
        (intro y s₄ r qq3; refine hide fun hP => ?_; rcases qq3 with ⟨h₄, tk₄, n₄, rfl, F₄, N₄, o₄, _, hr⟩ <;> (refine hP ?_; clear hP))
        exact ⟨h₄, tk₄, n₄, rfl, ⟨oI, (N₄ _ (.head _)).1, hcI, hdI⟩, F₄, ⟨_, hoC.ns (N₄ _ (.tail _ (.head _))).1⟩, fun p hp => N₄ p (.tail _ (.tail _ hp)), o₄, hr⟩
      refine wpAny_mono (hgo I oI C oC D _ h₃ tk₃ _ hoC (by simp [hxx]) (by simp) F₃ N₃ off' ⟨hIC, hID, hDC.symm⟩) (fun ok s₄ h₄ => ?_) fun _ _ e => e
      match ok, h₄ with
      | false, h₄ =>
        simp only [Bool.false_eq_true, if_false] at h₄ ⊢
        (refine hide fun hP => ?_; rcases back h₄ with ⟨h₅, tk₅, n₅, rfl, hit₅, F₅, ⟨m₅, hn₅⟩, N₅, o₅, hJ₅⟩ <;> (refine hP ?_; clear hP))
        exact ⟨its.length + 1 - (i + 1), by omega, h₅, tk₅, i + 1, ys, m₅, n₅, rfl, hlt, rfl, Nat.le_succ_of_le hyl, hit₅, F₅, hn₅, N₅, o₅, hJ₅⟩
      | true, h₄ =>
        simp only [if_true] at h₄ ⊢
        refine wpAny_mono h₄ (fun y s₅ h₅ => ?_) fun _ _ e => e
        (refine hide fun hP => ?_; rcases back h₅ with ⟨h₅, tk₅, n₅, rfl, hit₅, F₅, ⟨m₅, hn₅⟩, N₅, o₅, hJ₅⟩ <;> (refine hP ?_; clear hP))
        refine append_at (hsz := by rw [sizeLine_eq, List.size_toArray]; omega) (N₅ _ (.head _)).1 fun h₆ hs₆ hD₆ => ?_
        have o5 := o₅.mem
        (refine hide fun hP => ?_; rcases hit₅ with ⟨o, e, r⟩ <;> (refine hP ?_; clear hP))
        refine ⟨its.length + 1 - (i + 1), by omega, h₆, tk₅, i + 1, ys ++ [y], m₅, n₅, rfl, hlt, rfl, by rw [List.length_append]; exact Nat.succ_le_succ hyl, ⟨o, hs₆.extBut _ _ hID e, r⟩, F₅.change hs₆ hLD.symm hD₀, hn₅.sameBut hs₆ hDC.symm, fun p hp => ?_, o₅, hJ₅⟩
        rcases List.mem_cons.mp hp with rfl | hp
        · exact ⟨hD₆.trans (congrArg some (lst_snoc ys y)), hLD.symm, hD₀⟩
        · exact ⟨hs₆.extBut _ _ (o5 p hp).2.2 (N₅ p (.tail _ hp)).1, (N₅ p (.tail _ hp)).2⟩
    · obtain rfl : i = its.length := Nat.le_antisymm hi (Nat.not_lt.mp hlt)
      refine W.done _ _ _ ⟨hit, hax⟩ fun h₂ tk₂ hk₂ => ?_
      (refine hide fun hP => ?_; rcases next h₂ hk₂ with ⟨F₂, N₂, hn₂⟩ <;> (refine hP ?_; clear hP))
      refine ⟨m', hn₂, fun h₃ hs₃ => fin s₁.heap ys n' hJ D h₃ tk₂ (F₂.change hs₃ hLC.symm hC₀) (fun p hp => ?_) off'.one⟩
      refine ⟨hs₃.extBut _ _ ?_ (N₂ p hp).1, (N₂ p hp).2⟩
      rcases List.mem_cons.mp hp with rfl | hp
      · exact hDC
      · exact (offm p hp).2.1
  exact codeAny_compStart_list (loop _ rfl) (W.self 0 _ _ _ hst (loop _ rfl))
end
end

end
-- C19
section
open PySem PySem.W PySem.Calls PyProof.Rows PyProof.Rows.LCg PySem.SeqAt
set_option maxRecDepth 100000
set_option linter.unusedVariables false
section
inductive PairsIn (tail : List (Addr × Obj)) : List Value → List (Str × Str) → Prop
  | nil : PairsIn tail [] []
  | cons {a p q tp tq vs ls} : (a, ({ cls := .type "tuple", data := .seq #[.str p tp, .str q tq] } : Obj)) ∈ tail → PairsIn tail vs ls → PairsIn tail (.ref a :: vs) ((p, q) :: ls)
theorem PairsIn.at {tail : List (Addr × Obj)} : ∀ {vs : List Value} {ls : List (Str × Str)}, PairsIn tail vs ls → ∀ {i : Nat} {v : Value}, vs[i]? = some v → ∃ a p q tp tq, v = .ref a ∧ ls[i]? = some (p, q) ∧ (a, ({ cls := .type "tuple", data := .seq #[.str p tp, .str q tq] } : Obj)) ∈ tail
  | _, _, .nil, i, v, h => by simp at h
  | _, _, .cons h1 h2, 0, v, h => by simp at h; exact ⟨_, _, _, _, _, h.symm, rfl, h1⟩
  | _, _, .cons h1 h2, i + 1, v, h => by simp at h; simpa using PairsIn.at h2 h
theorem PairsIn.mono {tail tail' : List (Addr × Obj)} (hs : ∀ p ∈ tail, p ∈ tail') : ∀ {vs : List Value} {ls : List (Str × Str)}, PairsIn tail vs ls → PairsIn tail' vs ls
  | _, _, .nil => .nil
  | _, _, .cons h1 h2 => .cons (hs _ h1) (h2.mono hs)
theorem PairsIn.len {tail : List (Addr × Obj)} : ∀ {vs : List Value} {ls : List (Str × Str)}, PairsIn tail vs ls → vs.length = ls.length
  | _, _, .nil => rfl
  | _, _, .cons _ h => by simp [h.len]
theorem PairsIn.snoc {tail : List (Addr × Obj)} {a : Addr} {p q : Str} {tp tq : Tok} (h1 : (a, ({ cls := .type "tuple", data := .seq #[.str p tp, .str q tq] } : Obj)) ∈ tail) :
    ∀ {vs : List Value} {ls : List (Str × Str)}, PairsIn tail vs ls → PairsIn tail (vs ++ [.ref a]) (ls ++ [(p, q)])
  | _, _, .nil => .cons h1 .nil
  | _, _, .cons g1 g2 => .cons g1 (PairsIn.snoc h1 g2)
def ledL (links : List Link) : List (Str × Str) := links.map fun l => (l.1, ledF l.1 l.2)
theorem ledL_take {links : List Link} {i : Nat} {l : Link} (h : links[i]? = some l) : ledL (links.take (i + 1)) = ledL (links.take i) ++ [(l.1, ledF l.1 l.2)] := by
  unfold ledL
  rw [← take_next h, List.map_append]; rfl
theorem ledL_eq {links : List Link} (h : ∀ l ∈ links, l.lead = ledF l.1 l.2) : ledL links = links.map fun l => (l.1, l.lead) := List.map_congr_left fun l hl => by rw [h l hl]
/-- what the search among the leads yields -/
def hitsL (ls : List (Str × Str)) (x : Str) : List Str := (ls.filter fun p => decide (p.1 = x)).map (·.2)
theorem hits_take {ls : List (Str × Str)} {i : Nat} {p : Str × Str} {x : Str} (h : ls[i]? = some p) : hitsL (ls.take (i + 1)) x = hitsL (ls.take i) x ++ (if p.1 = x then [p.2] else []) := by
  unfold hitsL
  rw [← take_next h, List.filter_append, List.map_append]
  by_cases e : p.1 = x <;> simp [e]
theorem hits_step {links : List Link} (x : Str) : (hitsL (links.map fun l => (l.1, l.lead)) x ++ [x])[0]? = some (stepL links x) := by
  unfold hitsL stepL
  induction links with
  | nil => rfl
  | cons l ls ih =>
    by_cases e : l.1 = x
    · simp [e, Link.lead]
    · rw [List.map_cons, List.filter_cons_of_neg (by simpa using e), List.find?_cons_of_neg (by simpa using e)]
      exact ih
theorem strs_at {vs : List Value} {ss : List Str} (h : StrsAre vs ss) {i : Nat} {x : Str} (hx : ss[i]? = some x) : ∃ t, vs[i]? = some (.str x t) := StrsAre.found h hx
theorem goL_succ' (ls : List Link) (n : Nat) (x : Str) : goL ls (n + 1) x = stepL ls (goL ls n x) := by
  rw [goL_add]; rfl
theorem any_inP {links : List Link} {x : Str} : ((ledL links).map (·.1)).any (· == x) = inP links x := by
  unfold inP places ledL
  rw [List.map_map]
  have : ((·.1) ∘ fun l : Link => (l.1, ledF l.1 l.2)) = (·.1) := rfl
  rw [this, List.contains_eq_any_beq]
  congr 1
  funext y
  exact Bool.beq_comm
def isNoneV : Value → Bool
  | .none => true
  | _ => false
theorem OptsAre.kind : ∀ {vs : List Value} {os : List (Option Str)}, OptsAre vs os → ∀ y ∈ vs, y = .none ∨ ∃ e t, y = .str e t
  | _, _, .nil, _, h => nomatch h
  | _, _, .none h, y, hy => by
    rcases List.mem_cons.mp hy with rfl | hy
    · exact .inl rfl
    · exact h.kind y hy
  | _, _, .some e t h, y, hy => by
    rcases List.mem_cons.mp hy with rfl | hy
    · exact .inr ⟨e, t, rfl⟩
    · exact h.kind y hy
theorem OptsAre.anyNone : ∀ {vs : List Value} {os : List (Option Str)}, OptsAre vs os → vs.any isNoneV = os.any Option.isNone
  | _, _, .nil => rfl
  | _, _, .none h => by simp [isNoneV]
  | _, _, .some e t h => by simp [isNoneV, h.anyNone]
theorem none_in {prog : Program} {w : World} {A : Around} {E : Value → Shared → Prop} {s : Shared} {h₀ : Heap} {L : Addr} {news : List (Addr × Obj)} {l : Addr} {vs : List Value} {os : List (Option Str)} {n : Nat} {Q : Value → Shared → Prop} (N : News h₀ L s.heap news) (hm : (l, listOf vs.toArray n) ∈ news) (hO : OptsAre vs os)
    (h : Q (.bool (os.any Option.isNone)) s) : wpAny (model prog w) A (compareOp .In .none (.ref l)) Q E s := by
  refine in_listAt isNoneV ⟨_, N.get hm, rfl, _, rfl⟩ (fun y hy => ?_) ?_
  · rcases hO.kind y (by simpa using hy) with rfl | ⟨e, t, rfl⟩
    · exact EqAt.same _
    · exact EqAt.str_none e t
  · rw [← Array.any_toList, show vs.toArray.toList = vs from rfl, hO.anyNone]; exact h
theorem OptsAre.pair : ∀ {vs ws : List Value} {os : List (Option Str)}, OptsAre vs os → OptsAre ws os → ∀ (A : Around) (s : Shared) (j : Nat) (h1 : j < vs.length) (h2 : j < ws.length), EqAt A s vs[j] ws[j] true
  | _, _, _, .nil, .nil, _, _, j, h1, _ => absurd h1 (Nat.not_lt_zero _)
  | _, _, _, .none h, .none k, _, _, 0, _, _ => EqAt.same _
  | _, _, _, .none h, .none k, A, s, j + 1, h1, h2 => OptsAre.pair h k A s j (Nat.lt_of_succ_lt_succ h1) (Nat.lt_of_succ_lt_succ h2)
  | _, _, _, .some e t h, .some _ u k, A, s, 0, _, _ => by simpa using EqAt.str_str (A := A) (s := s) e t e u
  | _, _, _, .some e t h, .some _ u k, A, s, j + 1, h1, h2 => OptsAre.pair h k A s j (Nat.lt_of_succ_lt_succ h1) (Nat.lt_of_succ_lt_succ h2)
theorem all_true (n : Nat) : ((List.range n).all fun _ => true) = true := by rw [List.all_eq_true]; intro _ _; rfl
theorem eq_result {prog : Program} {w : World} {A : Around} {E : Value → Shared → Prop} {s : Shared} {h₀ : Heap} {L : Addr} {news : List (Addr × Obj)} {R D R' D' : Addr} {ys zs : List Value} {os : List (Option Str)} {n n' k k' : Nat} {b : Bool} {Q : Value → Shared → Prop} (N : News h₀ L s.heap news)
    (hR : (R, listOf #[.bool b, .ref D] k) ∈ news) (hD : (D, listOf ys.toArray n) ∈ news) (hR' : (R', listOf #[.bool b, .ref D'] k') ∈ news) (hD' : (D', listOf zs.toArray n') ∈ news) (hy : OptsAre ys os) (hz : OptsAre zs os) (hu : A.units < 600)
    (h : Q (.bool true) s) : wpAny (model prog w) A (compareOp .Eq (.ref R) (.ref R')) Q E s := by
  have hlen : ys.length = zs.length := hy.len.trans hz.len.symm
  refine eq_listAt (e := fun _ => true) ⟨_, N.get hR, rfl, _, rfl⟩ ⟨_, N.get hR', rfl, _, rfl⟩ rfl ?_ (fun j h1 h2 => ?_) (by rw [all_true]; exact h)
  · unfold cLine; omega
  · have : j = 0 ∨ j = 1 := by simp at h1; omega
    rcases this with rfl | rfl
    · simpa using EqAt.bool_bool (A := A.in1) (s := s) b b
    · show EqAt _ _ (.ref D) (.ref D') true
      by_cases e : D = D'
      · rw [e]; exact EqAt.same _
      · refine EqAt.of_refs e ?_
        have := RcAt.lists (A := A.in1) (s := s) (e := fun _ => true) (l := D) (b := D') ⟨_, N.get hD, rfl, _, rfl⟩ ⟨_, N.get hD', rfl, _, rfl⟩ (by simpa using hlen) (by unfold cLine Around.in1; dsimp only; omega) (fun j h1 h2 => by
          simpa using hy.pair hz A.in1.in1 s j (by simpa using h1) (by simpa using h2))
        rw [all_true] at this; exact this
end
section
structure LinkFacts (p : Str) (ps : List Str) : Prop where
  eq : leadF p ps = ledF p ps
  len : p.length ≤ 100
  steps : StepsOk (dirF p) ps
  two : ps.length ≤ 2
  each : ∀ q ∈ ps, q.length ≤ 100
  cut : ∀ q ∈ ps, (Txt.split (Txt.slice q (some 1) none) (Str.ofString "/")).length ≤ 1000
  cutp : (Txt.split (Txt.slice p (some 1) none) (Str.ofString "/")).length ≤ 1000
  weight : ((ledN p ps).map (·.length)).sum + (ledN p ps).length ≤ 1048576
  glue : (Txt.join (Str.ofString "/") (ledN p ps)).length ≤ 5000
theorem link_facts {p : Str} {ps : List Str} (h : linkOk p ps = true) : LinkFacts p ps := by
  simp only [linkOk, Bool.and_eq_true, decide_eq_true_eq, List.all_eq_true] at h
  obtain ⟨⟨⟨⟨⟨⟨⟨h1, h2⟩, h3⟩, h4⟩, h5⟩, h6⟩, h7⟩, h8⟩ := h
  exact ⟨h1, h2, stepsB_ok h3, h4, fun q hq => (h5 q hq).1, fun q hq => (h5 q hq).2, h6, h7, h8⟩
end
section
theorem lead_sub {a i c d k : Addr × Obj} {own : List (Addr × Obj)} : ∀ p ∈ i :: c :: d :: k :: a :: own, p ∈ a :: i :: c :: d :: k :: own := fun p hp => by
  simp only [List.mem_cons] at hp ⊢
  rcases hp with h | h | h | h | h | h <;> simp [h]
theorem ne_cons {a : Addr × Obj} {own : List (Addr × Obj)} {x : Addr} (h1 : a.1 ≠ x) (h2 : ∀ q ∈ own, q.1 ≠ x) : ∀ q ∈ a :: own, q.1 ≠ x := fun q hq => by
  rcases List.mem_cons.mp hq with rfl | hq
  · exact h1
  · exact h2 q hq
theorem sub_cons {a : Addr × Obj} {own src : List (Addr × Obj)} (h : ∀ q ∈ src, q ∈ own) : ∀ q ∈ src, q ∈ a :: own := fun q hq => .tail _ (h q hq)
theorem swap3 {h₀ h : Heap} {L : Addr} {e l c : Addr × Obj} {own : List (Addr × Obj)} (N : News h₀ L h (e :: l :: c :: own)) : News h₀ L h (c :: e :: l :: own) := fun p hp => N p (by
  simp only [List.mem_cons] at hp ⊢
  rcases hp with h | h | h | h <;> simp [h])
theorem due_map0 {m₀ : Str → Option Value} : m₀ = fun y => if y = Str.ofString "place" then m₀ (Str.ofString "place") else if y = Str.ofString "pieces" then m₀ (Str.ofString "pieces") else if y = Str.ofString "k" then m₀ (Str.ofString "k") else m₀ y := by
  funext y
  by_cases h : y = Str.ofString "place"
  · rw [if_pos h, h]
  · rw [if_neg h]
    by_cases h2 : y = Str.ofString "pieces"
    · rw [if_pos h2, h2]
    · rw [if_neg h2]
      by_cases h3 : y = Str.ofString "k"
      · rw [if_pos h3, h3]
      · rw [if_neg h3]
end
section
theorem head_item {prog : Program} {w : World} {A : Around} {E : Value → Shared → Prop} {s : Shared} {h₀ : Heap} {L : Addr} {news : List (Addr × Obj)} {value slice : Expr} {l : Addr} {vs : List Value} {ss : List Str} {n : Nat} {u : Tok} {x : Str} {Q : Value → Shared → Prop} (N : News h₀ L s.heap news) (hm : (l, listOf vs.toArray n) ∈ news) (hS : StrsAre vs ss) (hx : ss[0]? = some x) (h : ∀ t, Q (.str x t) s)
    (hs : subscripted slice false (.ref l) (.int 0 u) = operate [.ref l, .int 0 u] (getItem (.ref l) (.int 0 u)) := by with_unfolding_all rfl) : wpAny (model prog w) A (subscriptTail value slice (.ref l) (.int 0 u)) Q E s := by
  obtain ⟨t, ht⟩ := strs_at hS hx
  have hl : s.heap.IsList l vs.toArray := ⟨_, N.get hm, rfl, _, rfl⟩
  exact tail_any hl.typeIs slot_list_getitem.lookup (wpAny_getItem_list hl (by decide) (by decide) (by simpa using ht) (h t)) hs
theorem due_drop {h₀ h : Heap} {L : Addr} {a b c i j k e : Addr × Obj} {own : List (Addr × Obj)} (N : News h₀ L h (a :: b :: c :: i :: j :: k :: e :: own)) : News h₀ L h (i :: j :: k :: e :: own) := fun p hp => N p (.tail _ (.tail _ (.tail _ hp)))
theorem ne_three {J : Addr} {a b b' c : Addr × Obj} {own : List (Addr × Obj)} (h : ∀ p ∈ a :: b :: c :: own, p.1 ≠ J) (e : b'.1 = b.1) : ∀ p ∈ a :: b' :: c :: own, p.1 ≠ J := fun p hp => by
  rcases List.mem_cons.mp hp with rfl | hp
  · exact h _ (.head _)
  rcases List.mem_cons.mp hp with rfl | hp
  · rw [e]; exact h _ (.tail _ (.head _))
  · exact h _ (.tail _ (.tail _ hp))
theorem hits_len (ls : List (Str × Str)) (x : Str) : (hitsL ls x).length ≤ ls.length := by
  unfold hitsL; rw [List.length_map]; exact List.length_filter_le _ _
theorem ledL_len (links : List Link) : (ledL links).length = links.length := by unfold ledL; rw [List.length_map]
theorem hits_next {links : List Link} (h : ∀ l ∈ links, l.lead = ledF l.1 l.2) (x : Str) : (hitsL (ledL links) x ++ [x])[0]? = some (stepL links x) := by
  rw [ledL_eq h]; exact hits_step x
end
section
theorem due_map {m₀ u : Str → Option Value} {a b vp vq vk : Option Value} : (fun y => if y = Str.ofString "k" then u (Str.ofString "k") else if ([] : List Str).contains y = true then u y else if y = Str.ofString "pieces" then b else if y = Str.ofString "place" then a else if y = Str.ofString "place" then vp else if y = Str.ofString "pieces" then vq else if y = Str.ofString "k" then vk else m₀ y) =
    fun y => if y = Str.ofString "place" then a else if y = Str.ofString "pieces" then b else if y = Str.ofString "k" then u (Str.ofString "k") else m₀ y := by
  funext y
  have n1 : Str.ofString "k" ≠ Str.ofString "place" := by decide
  have n2 : Str.ofString "k" ≠ Str.ofString "pieces" := by decide
  have n3 : Str.ofString "pieces" ≠ Str.ofString "place" := by decide
  by_cases h1 : y = Str.ofString "k"
  · subst h1; simp [n1, n2]
  · by_cases h2 : y = Str.ofString "pieces"
    · subst h2; simp [n3, n2.symm]
    · by_cases h3 : y = Str.ofString "place"
      · subst h3; simp [n1.symm, n3.symm]
      · simp [h1, h2, h3]
theorem due_out {h₀ h : Heap} {L : Addr} {r c e : Addr × Obj} {own news : List (Addr × Obj)} (N : News h₀ L h (r :: c :: e :: own)) (h1 : ∀ q ∈ news, q ∈ own) : News h₀ L h (r :: e :: news) := fun p hp => N p (by
  rcases List.mem_cons.mp hp with rfl | hp
  · exact .head _
  rcases List.mem_cons.mp hp with rfl | hp
  · exact .tail _ (.tail _ (.head _))
  · exact .tail _ (.tail _ (.tail _ (h1 p hp))))
theorem endL_none {links : List Link} {p : Str} (h : inP links (goL links 7 p) = true) : endL links p = none := by unfold endL; rw [h]; rfl
theorem endL_some {links : List Link} {p : Str} (h : inP links (goL links 7 p) = false) : endL links p = some (goL links 7 p) := by unfold endL; rw [h]; rfl
theorem ne_due {J : Addr} {a a' b b' : Addr × Obj} {own own' : List (Addr × Obj)} (h : ∀ p ∈ a :: b :: own, p.1 ≠ J) (e1 : a'.1 = a.1) (e2 : b'.1 = b.1) (h2 : ∀ p ∈ own', p.1 ≠ J) : ∀ p ∈ a' :: b' :: own', p.1 ≠ J := fun p hp => by
  rcases List.mem_cons.mp hp with rfl | hp
  · rw [e1]; exact h _ (.head _)
  rcases List.mem_cons.mp hp with rfl | hp
  · rw [e2]; exact h _ (.tail _ (.head _))
  · exact h2 _ hp
end
section
theorem News.tl {h₀ h : Heap} {L : Addr} {a : Addr × Obj} {own : List (Addr × Obj)} (N : PyProof.Rows.News h₀ L h (a :: own)) : PyProof.Rows.News h₀ L h own := fun p hp => N p (.tail _ hp)
end

end
end
end
end
end
end
section
local macro_rules | `(tactic| walk_at "binaryOp Add ref ref") => `(tactic| (k_here; (with_reducible show wpAny _ _ (binaryOp _ (Value.ref _) (Value.ref _)) _ _ _); k_dflt (refine' concat_led (by k_asm) (by k_asm) (by k_mem) (by k_mem) ?_ (by simp only [List.length_cons, List.length_nil, List.length_drop]; omega)); walk_at "i5"))
-- A8
section
open PySem PySem.W PySem.Calls PyProof.Rows
set_option maxRecDepth 100000
set_option linter.unusedVariables false
section

section
variable {w : World} {s : Shared} {A₀ : Around} {base h₀ : Heap} {outer : List Env} {L a : Addr} {cd code : Value} {nm qn : Str} {gl bi : Addr} {cls : List (Str × Addr)} {fn : Option Addr} {nms : List (Str × NameKind)} {mo : List (Str × Const)} {ig ic : Bool} {m mg mb : Str → Option Value} {news : List (Addr × Obj)} {loose : List Str} {mean : ExcName → Option Value} {d u : Nat} {gs : Option (List Code)} {Q : Value → Shared → Prop} {E : Value → Shared → Prop}

variable {lk : Addr} {vs : List Value} {ep : Nat} {links : List Link}
set_option maxHeartbeats 8000000 in
theorem due_spec 
 (B : Below A₀ base outer h₀) (F : Fr h₀ L s.heap m) (X₀ : (Mine.hq.hd.heap_39 w.params).In h₀) (N : News h₀ L s.heap news) (T : Top topProg loose mean mg mb h₀) (hd : d < 500) (hu : u < 500)
 (hlk : (lk, listOf vs.toArray ep) ∈ news) (hl : LinksIn news vs links) (hlen : links.length ≤ 6) (hnod : (links.map (·.1)).Nodup) (hok : ∀ l ∈ links, linkOk l.1 l.2 = true)
 (hQ : ∀ h' tk R D ys nD, Fr h₀ L h' m → News h₀ L h' ((R, listOf #[.bool (ringL links), .ref D] 0) :: (D, listOf ys.toArray nD) :: news) → OptsAre ys (endsL links) → Q (.ref R) { s with heap := h', toks := tk })
 :
 wpAny (model Challenge.rw_pd0114_01.row.prog w) ⟨none, d, some ((⟨⟨.function, nms, ig, ic, mo⟩, L, gl, cls, qn, fn, code, some L, bi⟩ : Env) :: outer), gs, u⟩ (call (.ref 289) [.ref lk]) Q E s := by
  revert X₀; k_fill; intro X₀
  refine packB fun er9 => ?_
  w_top off
  w_strict (
   have hlead : ∀ l ∈ links, l.lead = ledF l.1 l.2 := fun l hl => (link_facts (hok l hl)).eq
   (repeat' ((fail_if_success (with_reducible show wpAny _ _ (exec (Stmt.Assign _ (Expr.ListComp _ _ _ _) _) _) _ _ _)); (walk_at "step9")))
   (rename News _ _ _ _ => nN)
   (rename Fr _ _ _ _ => nF)
   (rename_i g1 L1 hh0 tk0 FG1 bB bX bT c0 oC hoC)
   k_dflt (refine LCp.Assign_ListComp_P (F₀ := nF) (by rfl) (by with_unfolding_all rfl) (by with_unfolding_all rfl) (by decide) (by rfl) (by decide) (by rfl) (by rfl) (by decide) (by rfl) (by rfl) ?_)
   walk1
   refine LCp.SrcLP.ledger (by rfl) nF nN (.tail _ hlk) (by rw [sizeLine_eq, List.size_toArray, LinksIn.len hl]; omega) ?_
   intro g'
   refine restP (fun i ys n' => ∃ own, n' = (L1 + 1, oC) :: own ∧ (∀ q ∈ own, q.1 ≠ L1 + 1) ∧ (∀ q ∈ news, q ∈ own) ∧ PairsIn own ys (ledL (links.take i))) ?_ _ 0 [] _ ?_ ⟨news, rfl, (fun q hq => Nat.ne_of_lt (Nat.lt_succ_of_lt (allLt_mem c0 q hq))), fun _ h => h, .nil⟩
   · (intro i v ys n' hv qq1; (try k_fold); refine hide fun hHid => ?_; rcases qq1 with ⟨own, rfl, ho1, ho2, hP⟩ <;> (refine hHid ?_; clear hHid))
     (refine hide fun hHid => ?_; rcases LinksIn.at hl (arr_at hv) with ⟨a, tp, pl, ws, epl, p, pcs, rfl, hli, hm1, hm2, hS⟩ <;> (refine hHid ?_; clear hHid))
     have lf := link_facts (hok _ (List.mem_of_getElem? hli))
     dsimp only at lf
     have mS := ho2 _ hm2
     refine exi5 a _ _ _ 0 ⟨rfl, .tail _ (ho2 _ hm1), rfl, rfl, ?_⟩
     clear nN nF
     intro I' oI' C' oC' D' m' h' tk' E' hC' hx' hy' F' N' off' ne'
     (repeat' ((fail_if_success (with_reducible show wpAny _ _ (call (Value.ref 284) _) _ _ _)); (walk_at "step9")))
     (rename News _ _ _ _ => nN2)
     (rename Fr _ _ _ _ => nF2)
     refine led_spec (n := epl) (by assumption) nF2 (by assumption) nN2 (by assumption) (by k_room) (by k_room) (.tail _ (.tail _ (.tail _ (.tail _ mS)))) hS lf.two lf.each lf.len lf.cutp lf.cut lf.weight lf.glue ?_
     intro h3 tk3 t3 F3 N3
     clear nN2 nF2
     k_steps
     (rename News _ _ _ _ => kN)
     (rename_i aT hT fT e1 e2 e3 e4 eo)
     exact LCg.CompEnd.intro (by assumption) kN _ lead_sub ⟨off'.1, ⟨Nat.ne_of_gt e1, Nat.ne_of_gt e2, Nat.ne_of_gt e3⟩, off'.2⟩ (.inr ⟨_, .tail _ (.tail _ (ho2 _ hlk)), rfl, _, rfl⟩) ⟨_, rfl, ne_cons (Nat.ne_of_gt e4) ho1, sub_cons ho2, by rw [ledL_take hli]; exact (hP.mono fun _ h => .tail _ h).snoc (.head _)⟩
   · (intro ys n' qq2; (try k_fold); refine hide fun hHid => ?_; rcases qq2 with ⟨own, rfl, ho1, ho2, hP⟩ <;> (refine hHid ?_; clear hHid))
     rw [Nat.zero_add, List.size_toArray, List.take_of_length_le (by rw [LinksIn.len hl]; exact Nat.le_refl _)] at hP
     intro lD h4 tk4 F4 N4 o4
     (refine hide fun hHid => ?_; rcases o4 with ⟨o4a, o4b⟩ <;> (refine hHid ?_; clear hHid))
     clear nN nF
     (repeat' ((fail_if_success (with_reducible show wpAny _ _ (exec (Stmt.For _ _ _ _ _) _) _ _ _)); (walk_at "step9")))
     refine wpAny_For ?_
     (repeat' ((fail_if_success (with_reducible show wpAny _ _ (pyIter (Value.ref _)) _ _ _)); (walk_at "step9")))
     (rename News _ _ _ _ => nN5)
     (rename Fr _ _ _ _ => nF5)
     (rename_i eD hh5 d1 d2 dO hh6)
     refine for_listT (vs := vs) (fun m₀ i m' n' => ∃ vp vq vk es en oC2 own2 cv, m' = (fun y => if y = Str.ofString "place" then vp else if y = Str.ofString "pieces" then vq else if y = Str.ofString "k" then vk else m₀ y) ∧ n' = (L1 + 1, oC2) :: (eD, listOf es.toArray en) :: own2 ∧ oC2.data = .cell cv ∧ (∀ q ∈ (lD, LCg.lst ys) :: own, q ∈ own2) ∧ (∀ q ∈ own2, q.1 ≠ L1 + 1) ∧ (∀ q ∈ own2, q.1 ≠ eD) ∧ OptsAre es ((links.take i).map fun l => endL links l.1)) nF5 (swap3 nN5) rfl ?_ ?_ ?_ ?_
     · (intro i m' n' h qq3 _ N'; (try k_fold); refine hide fun hHid => ?_; rcases qq3 with ⟨vp, vq, vk, es, en, oC2, own2, cv, rfl, rfl, hcv, k1, k2, k3, hO⟩ <;> (refine hHid ?_; clear hHid))
       exact ⟨_, N'.get (.tail _ (.tail _ (k1 _ (.tail _ (ho2 _ hlk))))), rfl, _, rfl⟩
     · exact exi8 _ _ _ [] 0 oC _ _ ⟨due_map0, rfl, hoC, fun _ h => h, ne_cons (Ne.symm o4a) ho1, ne_cons (Nat.ne_of_lt d1) (allLt_ne dO), .nil⟩
     · (intro i v m₁ n₁ h tk I it hv hic hlt qq4 F₁ N₁ hne; (try k_fold); refine hide fun hHid => ?_; rcases qq4 with ⟨vp, vq, vk, es, en, oC2, own2, cv, rfl, rfl, hcv, k1, k2, k3, hO⟩ <;> (refine hHid ?_; clear hHid))
       (refine hide fun hHid => ?_; rcases LinksIn.at hl hv with ⟨a, tp, pl, ws, epl, p, pcs, rfl, hli, hm1, hm2, hS⟩ <;> (refine hHid ?_; clear hHid))
       have ma := k1 _ (.tail _ (ho2 _ hm1))
       have mD := k1 _ (.head _)
       have i1 : ∀ q ∈ own2, q.1 ≠ I := fun q hq => hne q (.tail _ (.tail _ hq))
       clear nN5 nF5
       k_lt hlt
       refine packF fun pk7Q pk7H => ?_
       (repeat' ((fail_if_success (with_reducible show wpAny _ _ (exec (Stmt.For _ _ _ _ _) _) _ _ _)); (walk_at "step9")))
       refine wpAny_For ?_
       (repeat' ((fail_if_success (with_reducible show wpAny _ _ (pyIter (Value.ref _)) _ _ _)); (walk_at "step9")))
       (rename News _ _ _ _ => nN6)
       (rename Fr _ _ _ _ => nF6)
       (rename IsRange _ _ _ _ _ _ _ _ => hR)
       (rename_i oC3 f7 n7 hc3 hh8 tk8 t81 u81 v81 a8)
       refine for_rangeM (n := 7) rfl rfl rfl [] (fun m₀ n₀ k u n' => ∃ t oC4 own4, n' = (I, it) :: (L1 + 1, oC4) :: (eD, listOf es.toArray en) :: own4 ∧ oC4.data = .cell (some (.str (goL links k p) t)) ∧ (∀ q ∈ own2, q ∈ own4) ∧ (∀ q ∈ own4, q.1 ≠ L1 + 1) ∧ (∀ q ∈ own4, q.1 ≠ eD) ∧ (∀ q ∈ own4, q.1 ≠ I)) hR (by decide) (by decide) nF6 nN6 ⟨tp, oC3, own2, rfl, hc3, fun _ h => h, k2, k3, i1⟩ ?_ ?_
       · (intro k t u n₃ h₃ tk₃ I3 it3 hk hic3 hlt3 qq5 F₃ N₃ hne3; (try k_fold); refine hide fun hHid => ?_; rcases qq5 with ⟨t4, oC4, own4, rfl, hc4, q1, q2, q3, q4⟩ <;> (refine hHid ?_; clear hHid))
         have mD4 := q1 _ mD
         have hP4 := hP.mono (fun q hq => q1 _ (k1 _ (.tail _ hq)))
         have q5 : ∀ q ∈ own4, q.1 ≠ I3 := fun q hq => hne3 q (.tail _ (.tail _ (.tail _ hq)))
         clear nN6 nF6
         k_lt hlt3
         refine packQ fun pk6Q pk6H => ?_
         (repeat' ((fail_if_success (with_reducible show wpAny _ _ (eval (Expr.ListComp _ _ _ _) _) _ _ _)); (walk_at "step9")))
         (rename News _ _ _ _ => nN7)
         (rename Fr _ _ _ _ => nF7)
         k_dflt (refine ListComp_PT nF7 (by with_unfolding_all rfl) (by decide) (by rfl) (by decide) (by rfl) (by rfl) (by decide) ?_)
         walk1
         refine ⟨lD, ys, ys.length, _, fun i zs n' => n' = (I3, it3) :: (I, it) :: (L1 + 1, oC4) :: (eD, listOf es.toArray en) :: own4 ∧ StrsAre zs (hitsL ((ledL links).take i) (goL links k p)), rfl, rfl, nF7, nN7, by rw [PairsIn.len hP]; simp [ledL]; omega, ⟨rfl, .nil⟩, ?_, ?_, ?_⟩
         · (intro i zs n' qq6; (try k_fold); refine hide fun hHid => ?_; rcases qq6 with ⟨rfl, _⟩ <;> (refine hHid ?_; clear hHid))
           exact .tail _ (.tail _ (.tail _ (.tail _ mD4)))
         · (intro g i v zs n₁ hv qq7; (try k_fold); refine hide fun hHid => ?_; rcases qq7 with ⟨rfl, hz⟩ <;> (refine hHid ?_; clear hHid))
           (refine hide fun hHid => ?_; rcases PairsIn.at hP4 hv with ⟨a, p5, p6, t5, t6, rfl, hli5, hm5⟩ <;> (refine hHid ?_; clear hHid))
           refine exi3 a _ _ ⟨rfl, .tail _ (.tail _ (.tail _ (.tail _ hm5))), ?_⟩
           clear nN7 nF7
           intro I' oI' C' oC' D' m' h' tk' E' hC' hx' hy' F' N' off' ne'
           k_steps
           · exact LCg.CompEnd.intro (by assumption) (by assumption) _ (fun q h => h) off' trivial ⟨rfl, by rw [hits_take hli5, if_pos (eq_of_beq (by assumption))]; exact StrsAre.snoc hz p6 t6⟩
           · exact LCg.CompEnd.intro (by assumption) (by assumption) _ (fun q h => h) off' trivial ⟨rfl, by rw [hits_take hli5, if_neg (ne_of_beq_false (by assumption)), List.append_nil]; exact hz⟩
         · (intro g zs n' qq8; (try k_fold); refine hide fun hHid => ?_; rcases qq8 with ⟨rfl, hz⟩ <;> (refine hHid ?_; clear hHid))
           rw [List.take_of_length_le (by rw [PairsIn.len hP]; exact Nat.le_refl _)] at hz
           have hzl : zs.length ≤ 6 := by
             rw [StrsAre.len hz]
             exact Nat.le_trans (hits_len _ _) (by rw [ledL_len]; exact hlen)
           intro D5 h5 tk5 F5 N5 o5
           (refine hide fun hHid => ?_; rcases o5 with ⟨o51, o52, o53, o54, o55⟩ <;> (refine hHid ?_; clear hHid))
           clear nN7 nF7
           (repeat' ((fail_if_success (with_reducible show wpAny _ _ (subscriptTail _ _ _ _) _ _ _)); (walk_at "step9")))
           (rename News _ _ _ _ => nN8)
           (rename Fr _ _ _ _ => nF8)
           refine head_item nN8 (.head _) (StrsAre.snoc hz _ _) (hits_next hlead _) ?_ (by with_unfolding_all rfl)
           intro t7
           replace o53 := neN o53
           dsimp only at o53
           k_steps
           (rename News _ _ _ _ => kN)
           (rename_i oC6 F6 hc6)
           refine pk6H _ _ ?_
           exact exi4 _ _ _ _ ⟨rfl, by assumption, due_drop kN, ne_three hne3 rfl, (fun y h1 h2 => by repeat (first | refine upn (by assumption) ?_ | refine itn (by assumption) ?_ | rfl)), t7, oC6, own4, rfl, by rw [goL_succ']; exact hc6, q1, q2, q3, q4⟩
       · (intro h₃ tk₃ u n₃ qq9 F₃ N₃; (try k_fold); refine hide fun hHid => ?_; rcases qq9 with ⟨t4, oC4, own4, rfl, hc4, q1, q2, q3, q4⟩ <;> (refine hHid ?_; clear hHid))
         have mD4 := q1 _ mD
         have hP4 := hP.mono (fun q hq => q1 _ (k1 _ (.tail _ hq)))
         have hel : es.length ≤ 6 := by rw [hO.len, List.length_map, List.length_take]; omega
         clear nN6 nF6
         (repeat' ((fail_if_success (with_reducible show wpAny _ _ (callWith _ (Value.builtin "list.append", _).fst _ _ _) _ _ _)); (walk_at "step9")))
         dsimp only
         refine callWith_method1 ?_
         (repeat' ((fail_if_success (with_reducible show wpAny _ _ (eval (Expr.ListComp _ _ _ _) _) _ _ _)); (walk_at "step9")))
         (rename News _ _ _ _ => nN7)
         (rename Fr _ _ _ _ => nF7)
         k_dflt (refine LCp.ListComp_P (F₀ := nF7) (by with_unfolding_all rfl) (by decide) (by rfl) (by decide) (by rfl) (by rfl) (by decide) ?_)
         walk1
         refine LCp.SrcLP.ledger (by rfl) nF7 nN7 (.tail _ (.tail _ (.tail _ mD4))) (by rw [sizeLine_eq, List.size_toArray, PairsIn.len hP, ledL_len]; omega) ?_
         intro g'
         refine restP (fun i zs n' => n' = (I, it) :: (L1 + 1, oC4) :: (eD, listOf es.toArray en) :: own4 ∧ StrsAre zs (((ledL links).take i).map (·.1))) ?_ _ 0 [] _ ?_ ⟨rfl, .nil⟩
         · (intro i v zs n' hv qq10; (try k_fold); refine hide fun hHid => ?_; rcases qq10 with ⟨rfl, hz⟩ <;> (refine hHid ?_; clear hHid))
           (refine hide fun hHid => ?_; rcases PairsIn.at hP4 (arr_at hv) with ⟨a, p5, p6, t5, t6, rfl, hli5, hm5⟩ <;> (refine hHid ?_; clear hHid))
           refine exi5 a _ _ _ 0 ⟨rfl, .tail _ (.tail _ (.tail _ hm5)), rfl, rfl, ?_⟩
           clear nN7 nF7
           intro I' oI' C' oC' D' m' h' tk' E' hC' hx' hy' F' N' off' ne'
           k_steps
           exact LCg.CompEnd.intro (by assumption) (by assumption) _ (fun q h => h) off' (.inr ⟨_, .tail _ (.tail _ (.tail _ mD4)), rfl, _, rfl⟩) ⟨rfl, by rw [← take_next hli5, List.map_append]; exact StrsAre.snoc hz p5 t5⟩
         · (intro zs n' qq11; (try k_fold); refine hide fun hHid => ?_; rcases qq11 with ⟨rfl, hz⟩ <;> (refine hHid ?_; clear hHid))
           rw [Nat.zero_add, List.size_toArray, List.take_of_length_le (by rw [PairsIn.len hP]; exact Nat.le_refl _)] at hz
           intro D5 h5 tk5 F5 N5 o5
           (refine hide fun hHid => ?_; rcases o5 with ⟨o51, o52, o53, o54⟩ <;> (refine hHid ?_; clear hHid))
           replace o53 := neN o53
           dsimp only at o53
           clear nN7 nF7
           (repeat' ((fail_if_success (with_reducible show wpAny _ _ (compareOp CmpOp.In _ (Value.ref _)) _ _ _)); (walk_at "step9")))
           refine in_list_strs ⟨_, N5.get (.head _), rfl, _, rfl⟩ hz ?_
           rw [any_inP]
           cases hin : inP links (goL links 7 p) with
           | true =>
             k_steps
             (rename News _ _ _ _ => kN)
             refine pk7H _ _ ?_
             exact exi4 _ _ _ _ ⟨rfl, by assumption, News.tl kN, ne_due hne rfl rfl q4, exi5 _ _ _ _ _ ⟨oC4, own4, _, due_map, rfl, hc4, fun q hq => q1 _ (k1 _ hq), q2, q3, by rw [← ends_take hli, endL_none hin]; exact hO.snocN⟩⟩
           | false =>
             k_steps
             (rename News _ _ _ _ => kN)
             refine pk7H _ _ ?_
             exact exi4 _ _ _ _ ⟨rfl, by assumption, News.tl kN, ne_due hne rfl rfl q4, exi5 _ _ _ _ _ ⟨oC4, own4, _, due_map, rfl, hc4, fun q hq => q1 _ (k1 _ hq), q2, q3, by rw [← ends_take hli, endL_some hin]; exact hO.snocS _ _⟩⟩
     · (intro h tk m' n' qq12 F₁ N₁; (try k_fold); refine hide fun hHid => ?_; rcases qq12 with ⟨vp, vq, vk, es, en, oC2, own2, cv, rfl, rfl, hcv, k1, k2, k3, hO⟩ <;> (refine hHid ?_; clear hHid))
       rw [List.take_of_length_le (by rw [LinksIn.len hl]; exact Nat.le_refl _)] at hO
       clear nN5 nF5
       (repeat' ((fail_if_success (with_reducible show wpAny _ _ (compareOp CmpOp.In _ (Value.ref _)) _ _ _)); (walk_at "step9")))
       (rename News _ _ _ _ => nN9)
       refine none_in nN9 (.tail _ (.head _)) hO ?_
       k_steps
       (rename News _ _ _ _ => kN)
       exact hQ _ _ _ eD es _ (by assumption) (due_out kN (fun q hq => k1 _ (.tail _ (ho2 q hq)))) hO
   )
end
end

end
-- C20
section
open PySem PySem.W PySem.Calls PyProof.Rows
set_option maxRecDepth 100000
set_option linter.unusedVariables false
section
theorem piece_mem (n : Int) : pieceAt (n.fmod 6) ∈ piecesD := by
  have h0 : 0 ≤ n.fmod 6 := Int.fmod_nonneg_of_pos _ (by decide)
  have h1 : n.fmod 6 < 6 := Int.fmod_lt_of_pos _ (by decide)
  generalize n.fmod 6 = k at h0 h1
  have : k = 0 ∨ k = 1 ∨ k = 2 ∨ k = 3 ∨ k = 4 ∨ k = 5 := by omega
  rcases this with rfl | rfl | rfl | rfl | rfl | rfl <;> decide
theorem pcs_ok (n : Int) {p : Str} (hp : p ∈ placesD) : linkOk p (pcsOf n) = true := by
  have h0 : 0 ≤ (n.fdiv 36).fmod 2 := Int.fmod_nonneg_of_pos _ (by decide)
  have h1 : (n.fdiv 36).fmod 2 < 2 := Int.fmod_lt_of_pos _ (by decide)
  have a := List.all_eq_true.mp all_links1 p hp
  have b := List.all_eq_true.mp all_links2 p hp
  unfold pcsOf
  generalize (n.fdiv 36).fmod 2 = k at h0 h1
  have : k = 0 ∨ k = 1 := by omega
  rcases this with rfl | rfl
  · exact List.all_eq_true.mp a _ (piece_mem n)
  · exact List.all_eq_true.mp (List.all_eq_true.mp b _ (piece_mem n)) _ (piece_mem (n.fdiv 6))
theorem drawn_places (ns : List Int) : (drawnL ns).map (·.1) = placesD := rfl
theorem drawn_nodup (ns : List Int) : ((drawnL ns).map (·.1)).Nodup := by rw [drawn_places]; decide
theorem drawn_len (ns : List Int) : (drawnL ns).length ≤ 6 := Nat.le_refl _
theorem drawn_ok (ns : List Int) : ∀ l ∈ drawnL ns, linkOk l.1 l.2 = true := fun l hl => by
  have hp : l.1 ∈ placesD := by rw [← drawn_places ns]; exact List.mem_map.mpr ⟨l, hl, rfl⟩
  obtain ⟨k, _, rfl⟩ := List.mem_map.mp hl
  exact pcs_ok _ hp
theorem drawn_told (ns : List Int) : ∀ l ∈ drawnL ns, l.1.length ≤ 1000 ∧ StepsOk (dirF l.1) l.2 := fun l hl => by
  have lf := link_facts (drawn_ok ns l hl)
  exact ⟨Nat.le_trans lf.len (by decide), lf.steps⟩
theorem law_led {h₀ h : Heap} {L : Addr} {l d t : Addr × Obj} {tl : List (Addr × Obj)} (N : PyProof.Rows.News h₀ L h (l :: (tl ++ [d, t]))) : PyProof.Rows.News h₀ L h (l :: t :: tl) := fun p hp => N p (by
  rcases List.mem_cons.mp hp with rfl | hp
  · exact .head _
  rcases List.mem_cons.mp hp with rfl | hp
  · exact .tail _ (List.mem_append_right _ (.tail _ (.head _)))
  · exact .tail _ (List.mem_append_left _ hp))
theorem ground_back {g g' h : Heap} {L : Addr} {m : Str → Option Value} {news : List (Addr × Obj)} (T : KtsTurn [] g g') (F : Fr g' L h m) (N : PyProof.Rows.News g' L h news) : Fr g L h m ∧ PyProof.Rows.News g L h news := by
  have k : ∀ b o, g.get? b = some o → g'.get? b = some o := fun b o e => T.other b o e (by simp)
  refine ⟨⟨F.ns, fun b o e => F.keep b o (k b o e), by rw [← T.size]; exact F.above⟩, fun p hp => ⟨(N p hp).1, (N p hp).2.1, ?_⟩⟩
  cases e : g.get? p.1 with
  | none => rfl
  | some o =>
    have := (N p hp).2.2
    rw [k _ _ e] at this; cases this
end

end
end
end
end
end
-- A9
section
open PySem PySem.W PySem.Calls PyProof.Rows
set_option maxRecDepth 100000
set_option linter.unusedVariables false
section

set_option maxHeartbeats 8000000 in
theorem law_holds : PySem.Challenge.rw_pd0114_01.Holds := Mine.hq.hd (by
  w_top off
  w_strict (
   k_go0
   (all_goals try k_fold)
   (repeat' ((fail_if_success (with_reducible show wpAny _ _ (call (Value.ref 272) _) _ _ _)); (walk_at "step9")))
   (rename News _ _ _ _ => nN)
   (rename Fr _ _ _ _ => nF)
   refine links_spec (news := [(274, tabObj #[])]) (by assumption) nF (by assumption) nN (by assumption) (by k_room) (by k_room) (by assumption) (by rw [List.length_take]; exact Nat.min_le_left _ _) ?_
   intro h2 tk2 lk vs ep tl F2 N2 hl hb
   replace N2 := law_led N2
   have hb2 := hb _ (.tail _ (.head _))
   clear nF nN
   (repeat' ((fail_if_success (with_reducible show wpAny _ _ (call (Value.ref 277) _) _ _ _)); (walk_at "step9")))
   (rename News _ _ _ _ => nN3)
   (rename Fr _ _ _ _ => nF3)
   refine told_spec (outer := []) (by assumption) nF3 (by assumption) (by assumption) nN3 (by assumption) (by assumption) ktsDicts_nil (by k_room) (by k_room) codeHd hl (fun p hp => Nat.ne_of_gt (hb2.2 p hp)) (Nat.ne_of_gt hb2.1) (drawn_len _) (drawn_nodup _) (drawn_told _) ?_
   intro h4 tk4 g4 R D ys nD ps T4 F4 N4 B4 X4 P4 D4 hO
   clear nF3 nN3
   (repeat' ((fail_if_success (with_reducible show wpAny _ _ (call (Value.ref 289) _) _ _ _)); (walk_at "step9")))
   (rename News _ _ _ _ => nN5)
   (rename Fr _ _ _ _ => nF5)
   refine due_spec (by assumption) nF5 (by assumption) nN5 (by assumption) (by k_room) (by k_room) (.tail _ (.tail _ (.head _))) (hl.mono fun q hq => .tail _ (.tail _ (.tail _ (.tail _ hq)))) (drawn_len _) (drawn_nodup _) (drawn_ok _) ?_
   intro h6 tk6 R2 D2 zs nD2 F6 N6 hO2
   clear nF5 nN5
   (repeat' ((fail_if_success (with_reducible show wpAny _ _ (compareOp CmpOp.Eq (Value.ref _) (Value.ref _)) _ _ _)); (walk_at "step9")))
   (rename News _ _ _ _ => nN7)
   (rename Fr _ _ _ _ => nF7)
   refine eq_result nN7 (.tail _ (.tail _ (.head _))) (.tail _ (.tail _ (.tail _ (.head _)))) (.head _) (.tail _ (.head _)) hO hO2 (by k_units) ?_
   (refine hide fun hP => ?_; rcases ground_back T4 nF7 nN7 with ⟨F8, N8⟩ <;> (refine hP ?_; clear hP))
   clear nF7 nN7
   k_steps
   all_goals w_report))
end

end
end
end
end
end
end
end
end
end
end
end
end Mine
end
set_option maxRecDepth 100000 in
set_option maxHeartbeats 8000000 in
theorem PySem.Challenge.cw_pd0114_01_holds : PySem.Challenge.rw_pd0114_01.Holds :=
  Mine.law_holds
