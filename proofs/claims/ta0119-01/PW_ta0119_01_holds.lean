import PyProof.Rows.All
import Wide.All
import OpenK.AllK
import Wide.FinOn
import Lean
import PySem.Challenge.RW_ta0119_01
open PySem PySem.W PyProof.Rows PySem.Calls PyProof.V PySem.Spec
set_option Elab.async false
set_option maxRecDepth 100000
set_option genInjectivity false
set_option genSizeOf false
namespace Mine
theorem e0 : @PySem.Manifest.find? = @PySem.Manifest.find? := rfl
name_quick tw2294891915999383885 for PySem.Manifest.find? by Mine.e0
name_quick tw8075568018651887793 for PySem.Manifest.find? by Mine.e0
name_quick tw1565318846834695087 for PySem.Manifest.find? by Mine.e0
name_quick tw12488000419048109807 for PySem.Manifest.find? by Mine.e0
name_quick tw6733733256287894996 for PySem.Manifest.find? by Mine.e0
name_quick tw274648424657512983 for PySem.Manifest.find? by Mine.e0
name_quick tw14979626087600564940 for PySem.Manifest.find? by Mine.e0
name_quick tw20320146153715357 for PySem.Manifest.find? by Mine.e0
name_quick tw14127181297215883289 for PySem.Manifest.find? by Mine.e0
name_quick tw9518460778924858168 for PySem.Manifest.find? by Mine.e0
name_quick tw15890479717591214170 for PySem.Manifest.find? by Mine.e0
name_quick tw17068832509949910217 for PySem.Manifest.find? by Mine.e0
name_quick tw6996786202571425517 for PySem.Manifest.find? by Mine.e0
name_quick tw10146832411891806045 for PySem.Manifest.find? by Mine.e0
name_quick tw619697553891244110 for PySem.Manifest.find? by Mine.e0
name_quick tw9300948228871686676 for PySem.Manifest.find? by Mine.e0
name_quick tw16874561944515371726 for PySem.Manifest.find? by Mine.e0
name_quick tw14440140849115353679 for PySem.Manifest.find? by Mine.e0
name_quick tw7458083566234694290 for PySem.Manifest.find? by Mine.e0
name_quick tw247782244497830338 for PySem.Manifest.find? by Mine.e0
name_quick tw1886563365779066154 for PySem.Manifest.find? by Mine.e0
name_quick tw6722154040420286063 for PySem.Manifest.find? by Mine.e0
name_quick tw11838138170533393997 for PySem.Manifest.find? by Mine.e0
name_quick tw15278061642289888581 for PySem.Manifest.find? by Mine.e0
name_quick tw1055568401681811165 for PySem.Manifest.find? by Mine.e0
name_quick tw13615603153576403970 for PySem.Manifest.find? by Mine.e0
name_quick tw11445135464325071761 for PySem.Manifest.find? by Mine.e0
name_quick tw460243522976405022 for PySem.Manifest.find? by Mine.e0
name_quick tw5396446701170858492 for PySem.Manifest.find? by Mine.e0
name_quick tw3386650904741475044 for PySem.Manifest.find? by Mine.e0
name_quick tw9931943479562821362 for PySem.Manifest.find? by Mine.e0
name_quick tw3470799630455053000 for PySem.Manifest.find? by Mine.e0
name_quick tw282004115355043989 for PySem.Manifest.find? by Mine.e0
name_quick tw12450158673883907302 for PySem.Manifest.find? by Mine.e0
name_quick tw14311459727803291754 for PySem.Manifest.find? by Mine.e0
name_quick tw13900631225919944168 for PySem.Manifest.find? by Mine.e0
name_quick tw2951486255847992690 for PySem.Manifest.find? by Mine.e0
name_quick tw5697894365363955025 for PySem.Manifest.find? by Mine.e0
name_quick tw16643379632663270332 for PySem.Manifest.find? by Mine.e0
name_quick tw7788680626742099145 for PySem.Manifest.find? by Mine.e0
name_quick tw1370275717833778536 for PySem.Manifest.find? by Mine.e0
name_quick tw15480198773659482676 for PySem.Manifest.find? by Mine.e0
name_quick tw15560853006256673968 for PySem.Manifest.find? by Mine.e0
name_quick tw9787396351842916947 for PySem.Manifest.find? by Mine.e0
name_quick tw14224011070414065920 for PySem.Manifest.find? by Mine.e0
name_quick tw15034313371233782410 for PySem.Manifest.find? by Mine.e0
name_quick tw10706342367453228570 for PySem.Manifest.find? by Mine.e0
name_quick tw16176465441171805009 for PySem.Manifest.find? by Mine.e0
name_quick tw13759679279233594173 for PySem.Manifest.find? by Mine.e0
name_quick tw7299303143086499733 for PySem.Manifest.find? by Mine.e0
name_quick tw18101931140130867144 for PySem.Manifest.find? by Mine.e0
name_quick tw313226197891681235 for PySem.Manifest.find? by Mine.e0
name_quick tw15066959818950650227 for PySem.Manifest.find? by Mine.e0
name_quick tw8376441433122354887 for PySem.Manifest.find? by Mine.e0
name_quick tw8727135674562949291 for PySem.Manifest.find? by Mine.e0
name_quick tw3093977132361051618 for PySem.Manifest.find? by Mine.e0
name_quick tw15900120412870309639 for PySem.Manifest.find? by Mine.e0
name_quick tw12945451867199242903 for PySem.Manifest.find? by Mine.e0
name_quick tw4636218855388986860 for PySem.Manifest.find? by Mine.e0
name_quick tw8603108125212654177 for PySem.Manifest.find? by Mine.e0
name_quick tw11519604305632133818 for PySem.Manifest.find? by Mine.e0
name_quick tw5753627639153339801 for PySem.Manifest.find? by Mine.e0
name_quick tw14805350148827880423 for PySem.Manifest.find? by Mine.e0
name_quick tw1218959903707654005 for PySem.Manifest.find? by Mine.e0
name_quick tw4444965560193506482 for PySem.Manifest.find? by Mine.e0
name_quick tw18340240734955500558 for PySem.Manifest.find? by Mine.e0
name_quick tw3436264866546951355 for PySem.Manifest.find? by Mine.e0
name_quick tw3282434896037501709 for PySem.Manifest.find? by Mine.e0
name_quick tw17000155066101142889 for PySem.Manifest.find? by Mine.e0
name_quick tw7365555872484859036 for PySem.Manifest.find? by Mine.e0
name_quick tw2460228577881660442 for PySem.Manifest.find? by Mine.e0
name_quick tw4748654258956052638 for PySem.Manifest.find? by Mine.e0
name_quick tw1735497430108182060 for PySem.Manifest.find? by Mine.e0
name_quick tw667198328695590252 for PySem.Manifest.find? by Mine.e0
name_quick tw8224813933742928703 for PySem.Manifest.find? by Mine.e0
name_quick tw14376985748213822385 for PySem.Manifest.find? by Mine.e0
name_quick tw17100903815162463580 for PySem.Manifest.find? by Mine.e0
name_quick tw13471461260053382970 for PySem.Manifest.find? by Mine.e0
name_quick tw6059929106960060952 for PySem.Manifest.find? by Mine.e0
name_quick tw14023627001141898710 for PySem.Manifest.find? by Mine.e0
name_quick tw5591276700874282246 for PySem.Manifest.find? by Mine.e0
name_quick tw17774800907425398282 for PySem.Manifest.find? by Mine.e0
name_quick tw9948023125614773506 for PySem.Manifest.find? by Mine.e0
name_quick tw11310463157757771331 for PySem.Manifest.find? by Mine.e0
name_quick tw7009043117176579089 for PySem.Manifest.find? by Mine.e0
name_quick tw2334299552400917057 for PySem.Manifest.find? by Mine.e0
name_quick tw4039474712603431140 for PySem.Manifest.find? by Mine.e0
name_quick tw7496433998918960881 for PySem.Manifest.find? by Mine.e0
name_quick tw11682084944484805031 for PySem.Manifest.find? by Mine.e0
name_quick tw16413264400604254196 for PySem.Manifest.find? by Mine.e0
name_quick tw558745408833754511 for PySem.Manifest.find? by Mine.e0
name_quick tw16741492637210864865 for PySem.Manifest.find? by Mine.e0
name_quick tw4075660801711882420 for PySem.Manifest.find? by Mine.e0
name_quick tw9376109419431680627 for PySem.Manifest.find? by Mine.e0
name_quick tw11161088081135249708 for PySem.Manifest.find? by Mine.e0
name_quick tw8424611434330503625 for PySem.Manifest.find? by Mine.e0
name_quick tw9537544019596298400 for PySem.Manifest.find? by Mine.e0
name_quick tw10942035263794033107 for PySem.Manifest.find? by Mine.e0
name_quick tw3286237467618535963 for PySem.Manifest.find? by Mine.e0
name_quick tw11751362788573915603 for PySem.Manifest.find? by Mine.e0
name_quick tw9676229304581654039 for PySem.Manifest.find? by Mine.e0
name_quick tw17730448691065144110 for PySem.Manifest.find? by Mine.e0
name_quick tw15195428891847259777 for PySem.Manifest.find? by Mine.e0
name_quick tw8719427161674164953 for PySem.Manifest.find? by Mine.e0
name_quick tw5732905514179830355 for PySem.Manifest.find? by Mine.e0
name_quick tw9908251947323293946 for PySem.Manifest.find? by Mine.e0
name_quick tw14305139224198610471 for PySem.Manifest.find? by Mine.e0
name_quick tw17652180141503373103 for PySem.Manifest.find? by Mine.e0
name_quick tw319517405115005773 for PySem.Manifest.find? by Mine.e0
name_quick tw6067969926502872990 for PySem.Manifest.find? by Mine.e0
name_quick tw11985326045990495214 for PySem.Manifest.find? by Mine.e0
name_quick tw4797165386629745026 for PySem.Manifest.find? by Mine.e0
name_quick tw15376083050721069600 for PySem.Manifest.find? by Mine.e0
name_quick tw9821368406582625841 for PySem.Manifest.find? by Mine.e0
name_quick tw11729385059970357855 for PySem.Manifest.find? by Mine.e0
name_quick tw7232422423428716515 for PySem.Manifest.find? by Mine.e0
name_quick tw15766043655864335149 for PySem.Manifest.find? by Mine.e0
name_quick tw8253183596043897158 for PySem.Manifest.find? by Mine.e0
name_quick tw11964429278604863157 for PySem.Manifest.find? by Mine.e0
name_quick tw7581816359482902497 for PySem.Manifest.find? by Mine.e0
name_quick tw2354135333415324597 for PySem.Manifest.find? by Mine.e0
name_quick tw325292655437039998 for PySem.Manifest.find? by Mine.e0
name_quick tw1938699423046993634 for PySem.Manifest.find? by Mine.e0
name_quick tw12172078356533094185 for PySem.Manifest.find? by Mine.e0
name_quick tw7286323032743288035 for PySem.Manifest.find? by Mine.e0
name_quick tw16049961110935095269 for PySem.Manifest.find? by Mine.e0
name_quick tw2948108419219029167 for PySem.Manifest.find? by Mine.e0
name_quick tw6452377671372683922 for PySem.Manifest.find? by Mine.e0
name_quick tw2922074901204462755 for PySem.Manifest.find? by Mine.e0
name_quick tw12821735335276811757 for PySem.Manifest.find? by Mine.e0
name_quick tw6380047634161181297 for PySem.Manifest.find? by Mine.e0
name_quick tw14214133299417103183 for PySem.Manifest.find? by Mine.e0
name_quick tw2478078296215019888 for PySem.Manifest.find? by Mine.e0
name_quick tw17532718790514356516 for PySem.Manifest.find? by Mine.e0
name_quick tw9458956999447867950 for PySem.Manifest.find? by Mine.e0
name_quick tw2354101950205528012 for PySem.Manifest.find? by Mine.e0
name_quick tw15079194523842364033 for PySem.Manifest.find? by Mine.e0
name_quick tw15663404670287596823 for PySem.Manifest.find? by Mine.e0
name_quick tw16697116713213952808 for PySem.Manifest.find? by Mine.e0
name_quick tw6789855027759293466 for PySem.Manifest.find? by Mine.e0
name_quick tw8098380416015320538 for PySem.Manifest.find? by Mine.e0
name_quick tw3039592710220408265 for PySem.Manifest.find? by Mine.e0
name_quick tw7401281599722004195 for PySem.Manifest.find? by Mine.e0
name_quick tw13002492023102617099 for PySem.Manifest.find? by Mine.e0
name_quick tw11957962974430299695 for PySem.Manifest.find? by Mine.e0
name_quick tw6148621092414575339 for PySem.Manifest.find? by Mine.e0
name_quick tw6205483292176774078 for PySem.Manifest.find? by Mine.e0
name_quick tw4011157648589011858 for PySem.Manifest.find? by Mine.e0
name_quick tw12371321757623732685 for PySem.Manifest.find? by Mine.e0
name_quick tw10323183001455561277 for PySem.Manifest.find? by Mine.e0
name_quick tw1291980286583624508 for PySem.Manifest.find? by Mine.e0
name_quick tw16018607276475445134 for PySem.Manifest.find? by Mine.e0
name_quick tw11939915149646268982 for PySem.Manifest.find? by Mine.e0
name_quick tw5701610774189311196 for PySem.Manifest.find? by Mine.e0
name_quick tw6019396324639902685 for PySem.Manifest.find? by Mine.e0
name_quick tw6004533443673955352 for PySem.Manifest.find? by Mine.e0
name_quick tw8047484207015712433 for PySem.Manifest.find? by Mine.e0
name_quick tw183835017167291270 for PySem.Manifest.find? by Mine.e0
name_quick tw7581352650102555174 for PySem.Manifest.find? by Mine.e0
name_quick tw14112274594779413971 for PySem.Manifest.find? by Mine.e0
name_quick tw8860024209350480642 for PySem.Manifest.find? by Mine.e0
name_quick tw15880737140895825463 for PySem.Manifest.find? by Mine.e0
name_quick tw14209830616999942402 for PySem.Manifest.find? by Mine.e0
name_quick tw12237943961548833269 for PySem.Manifest.find? by Mine.e0
name_quick tw7745614565497352828 for PySem.Manifest.find? by Mine.e0
name_quick tw17520869792638436183 for PySem.Manifest.find? by Mine.e0
name_quick tw3152983702415266003 for PySem.Manifest.find? by Mine.e0
name_quick tw10073347824450446311 for PySem.Manifest.find? by Mine.e0
name_quick tw15823609455315575823 for PySem.Manifest.find? by Mine.e0
name_quick tw16180582048198870337 for PySem.Manifest.find? by Mine.e0
name_quick tw1333364371103165705 for PySem.Manifest.find? by Mine.e0
name_quick tw3362959441861295915 for PySem.Manifest.find? by Mine.e0
name_quick tw5770868932273138760 for PySem.Manifest.find? by Mine.e0
name_quick tw1355338860687761863 for PySem.Manifest.find? by Mine.e0
name_quick tw11306939235166856333 for PySem.Manifest.find? by Mine.e0
name_quick tw17863021456227041891 for PySem.Manifest.find? by Mine.e0
name_quick tw10684212124059650479 for PySem.Manifest.find? by Mine.e0
name_quick tw18056578402003937789 for PySem.Manifest.find? by Mine.e0
name_quick tw682011567655089306 for PySem.Manifest.find? by Mine.e0
name_quick tw3577408171920636059 for PySem.Manifest.find? by Mine.e0
name_quick tw11588390666370768167 for PySem.Manifest.find? by Mine.e0
name_quick tw11317593695737139937 for PySem.Manifest.find? by Mine.e0
name_quick tw13809362725867891129 for PySem.Manifest.find? by Mine.e0
name_quick tw7619357645376055252 for PySem.Manifest.find? by Mine.e0
name_quick tw8459811325457737761 for PySem.Manifest.find? by Mine.e0
name_quick tw17954471519018878134 for PySem.Manifest.find? by Mine.e0
name_quick tw15583273060660930383 for PySem.Manifest.find? by Mine.e0
name_quick tw11636919720809706868 for PySem.Manifest.find? by Mine.e0
name_quick tw11796506867022685745 for PySem.Manifest.find? by Mine.e0
name_quick tw7198390536060210744 for PySem.Manifest.find? by Mine.e0
name_quick tw16804044748790271530 for PySem.Manifest.find? by Mine.e0
name_quick tw10470071008263537045 for PySem.Manifest.find? by Mine.e0
name_quick tw12635297910168745909 for PySem.Manifest.find? by Mine.e0
name_quick tw1258717718454355964 for PySem.Manifest.find? by Mine.e0
name_quick tw18220123701641295943 for PySem.Manifest.find? by Mine.e0
name_quick tw9467589175468403638 for PySem.Manifest.find? by Mine.e0
name_quick tw3764465048917985505 for PySem.Manifest.find? by Mine.e0
name_quick tw14333388528381170442 for PySem.Manifest.find? by Mine.e0
name_quick tw878741703135273975 for PySem.Manifest.find? by Mine.e0
name_quick tw16439824349840649037 for PySem.Manifest.find? by Mine.e0
name_quick tw1702518465993881591 for PySem.Manifest.find? by Mine.e0
name_quick tw17001327861769816259 for PySem.Manifest.find? by Mine.e0
name_quick tw18416463498863911781 for PySem.Manifest.find? by Mine.e0
name_quick tw4319705520415482375 for PySem.Manifest.find? by Mine.e0
name_quick tw17279654841073493023 for PySem.Manifest.find? by Mine.e0
name_quick tw12813236842856870187 for PySem.Manifest.find? by Mine.e0
name_quick tw3264259588550801142 for PySem.Manifest.find? by Mine.e0
name_quick tw11277716924127702174 for PySem.Manifest.find? by Mine.e0
name_quick tw9501820088010722379 for PySem.Manifest.find? by Mine.e0
name_quick tw2711585505577850959 for PySem.Manifest.find? by Mine.e0
name_quick tw505943868828395459 for PySem.Manifest.find? by Mine.e0
name_quick tw17532440430192770315 for PySem.Manifest.find? by Mine.e0
name_quick tw12329403913580668285 for PySem.Manifest.find? by Mine.e0
name_quick tw10379131730601215995 for PySem.Manifest.find? by Mine.e0
name_quick tw2660918139993853925 for PySem.Manifest.find? by Mine.e0
name_quick tw1749818173716722547 for PySem.Manifest.find? by Mine.e0
name_quick tw17975652961387846372 for PySem.Manifest.find? by Mine.e0
name_quick tw3820604794100220378 for PySem.Manifest.find? by Mine.e0
name_quick tw16593013826814733010 for PySem.Manifest.find? by Mine.e0
name_quick tw219737044198020058 for PySem.Manifest.find? by Mine.e0
name_quick tw12825359941727978080 for PySem.Manifest.find? by Mine.e0
name_quick tw9951705424602377420 for PySem.Manifest.find? by Mine.e0
name_quick tw13317431791736044220 for PySem.Manifest.find? by Mine.e0
name_quick tw5518745428033880147 for PySem.Manifest.find? by Mine.e0
name_quick tw5882768191206486792 for PySem.Manifest.find? by Mine.e0
name_quick tw16979880578912567463 for PySem.Manifest.find? by Mine.e0
name_quick tw4275521005467322725 for PySem.Manifest.find? by Mine.e0
name_quick tw17846936440860909165 for PySem.Manifest.find? by Mine.e0
name_quick tw11625766737575182897 for PySem.Manifest.find? by Mine.e0
name_quick tw12393455550290869266 for PySem.Manifest.find? by Mine.e0
name_quick tw3856783459128436802 for PySem.Manifest.find? by Mine.e0
name_quick tw3118938333895590913 for PySem.Manifest.find? by Mine.e0
name_quick tw4552823106982906706 for PySem.Manifest.find? by Mine.e0
name_quick tw13512673800721320934 for PySem.Manifest.find? by Mine.e0
name_quick tw6929956602132211858 for PySem.Manifest.find? by Mine.e0
name_quick tw4558998842232669794 for PySem.Manifest.find? by Mine.e0
name_quick tw11707433790658880453 for PySem.Manifest.find? by Mine.e0
name_quick tw8693227569615203950 for PySem.Manifest.find? by Mine.e0
name_quick tw16414604833108395602 for PySem.Manifest.find? by Mine.e0
name_quick tw16792545251062261874 for PySem.Manifest.find? by Mine.e0
name_quick tw5529568453561195837 for PySem.Manifest.find? by Mine.e0
name_quick tw2039238271031011813 for PySem.Manifest.find? by Mine.e0
name_quick tw7504490480230193789 for PySem.Manifest.find? by Mine.e0
name_quick tw11543547407058413889 for PySem.Manifest.find? by Mine.e0
name_quick tw8450942572126056277 for PySem.Manifest.find? by Mine.e0
name_quick tw14168537005229113720 for PySem.Manifest.find? by Mine.e0
name_quick tw2599325451414397859 for PySem.Manifest.find? by Mine.e0
name_quick tw5248340912204065574 for PySem.Manifest.find? by Mine.e0
name_quick tw441327347791068078 for PySem.Manifest.find? by Mine.e0
name_quick tw9136488742655976645 for PySem.Manifest.find? by Mine.e0
name_quick tw3315324234476444515 for PySem.Manifest.find? by Mine.e0
name_quick tw4933834842325187142 for PySem.Manifest.find? by Mine.e0
name_quick tw5721027456603625697 for PySem.Manifest.find? by Mine.e0
name_quick tw15742981410569661332 for PySem.Manifest.find? by Mine.e0
name_quick tw951843321253372498 for PySem.Manifest.find? by Mine.e0
name_quick tw17964007177503468958 for PySem.Manifest.find? by Mine.e0
name_quick tw8620020772036689432 for PySem.Manifest.find? by Mine.e0
name_quick tw13776390136698705113 for PySem.Manifest.find? by Mine.e0
name_quick tw9787463984185863102 for PySem.Manifest.find? by Mine.e0
name_quick tw10887116778572429059 for PySem.Manifest.find? by Mine.e0
name_quick tw16494616584097029746 for PySem.Manifest.find? by Mine.e0
name_quick tw11270796479367742343 for PySem.Manifest.find? by Mine.e0
name_quick tw10670733350059645105 for PySem.Manifest.find? by Mine.e0
name_quick tw662354867322794072 for PySem.Manifest.find? by Mine.e0
name_quick tw8595292554425487202 for PySem.Manifest.find? by Mine.e0
name_quick tw12290603225136948437 for PySem.Manifest.find? by Mine.e0
name_quick tw9407582987413476825 for PySem.Manifest.find? by Mine.e0
name_quick tw392140993173905013 for PySem.Manifest.find? by Mine.e0
name_quick tw7483462131439158144 for PySem.Manifest.find? by Mine.e0
name_quick tw13145125596335152023 for PySem.Manifest.find? by Mine.e0
name_quick tw18345786424863182364 for PySem.Manifest.find? by Mine.e0
name_quick tw7250012664060256230 for PySem.Manifest.find? by Mine.e0
name_quick tw17274371674624000324 for PySem.Manifest.find? by Mine.e0
name_quick tw4172830789200971933 for PySem.Manifest.find? by Mine.e0
name_quick tw7721631327575515661 for PySem.Manifest.find? by Mine.e0
name_quick tw10057510723706494237 for PySem.Manifest.find? by Mine.e0
name_quick tw15806122291839087668 for PySem.Manifest.find? by Mine.e0
name_quick tw9970120227022115017 for PySem.Manifest.find? by Mine.e0
name_quick tw14433975572909055671 for PySem.Manifest.find? by Mine.e0
name_quick tw1706496860858754268 for PySem.Manifest.find? by Mine.e0
name_quick tw10948738476641704880 for PySem.Manifest.find? by Mine.e0
name_quick tw15007238320947547705 for PySem.Manifest.find? by Mine.e0
name_quick tw1402947280878808549 for PySem.Manifest.find? by Mine.e0
name_quick tw387338674003428930 for PySem.Manifest.find? by Mine.e0
name_quick tw5345256250457102556 for PySem.Manifest.find? by Mine.e0
name_quick tw15168306246750427876 for PySem.Manifest.find? by Mine.e0
name_quick tw11013792430000457035 for PySem.Manifest.find? by Mine.e0
name_quick tw9011979029575296479 for PySem.Manifest.find? by Mine.e0
name_quick tw4302124980754421698 for PySem.Manifest.find? by Mine.e0
name_quick tw6434138532213402376 for PySem.Manifest.find? by Mine.e0
name_quick tw6426273055680023932 for PySem.Manifest.find? by Mine.e0
name_quick tw5189142188285759775 for PySem.Manifest.find? by Mine.e0
name_quick tw17164873540382356111 for PySem.Manifest.find? by Mine.e0
name_quick tw9305782018832362445 for PySem.Manifest.find? by Mine.e0
name_quick tw14778209649434054790 for PySem.Manifest.find? by Mine.e0
name_quick tw15323854079317868165 for PySem.Manifest.find? by Mine.e0
name_quick tw4071324889030633612 for PySem.Manifest.find? by Mine.e0
name_quick tw9151444980202551346 for PySem.Manifest.find? by Mine.e0
name_quick tw13559156169165276386 for PySem.Manifest.find? by Mine.e0
name_quick tw11452132507678324671 for PySem.Manifest.find? by Mine.e0
set_option maxRecDepth 100000 in
set_option maxHeartbeats 8000000 in
open_top hd for PySem.Challenge.rw_ta0119_01
noncomputable def Kept (ch : List Addr) (h h' : Heap) : Prop := ∀ b o, b ∉ ch → h.get? b = some o → h'.get? b = some o
theorem Kept.news {h₀ h h' : Heap} {L : Addr} {news : List (Addr × Obj)} (k : Kept [L] h h') (N : News h₀ L h news) : News h₀ L h' news :=
  fun p hp => ⟨k _ _ (fun q => (N p hp).2.1 (List.mem_singleton.mp q)) (N p hp).1, (N p hp).2⟩
noncomputable def Con (prog : Program) (w : World) (p : Program) (loose : List Str) (mean : ExcName → Option Value) (mg mb : Str → Option Value) (f : Addr) (vs : List Value) (n : Nat) (H : Heap → Prop) (ch : List Addr) (P : Heap → Heap → Value → Prop) : Prop :=
  ∀ (dp un : Nat) (gd : Option (List Code)) (cn : Str) (cs : Scope) (a : Addr) (ccd : Value) (cl : List (Str × Addr)) (outer : List Env) (A₀ : Around) (base h₀ : Heap) (L : Addr) (m : Str → Option Value) (s : Shared) (Q E : Value → Shared → Prop),
    Below A₀ base outer h₀ → Fr h₀ L s.heap m → (hd.heap_39 w.params).In h₀ → Top p loose mean mg mb h₀ → cs.kind = .function → dp + n < recursionLimit → un + 8 * n < cLine →
    H s.heap → (∀ b ∈ ch, b ≠ L ∧ h₀.get? b = none) →
    (∀ r h' tk', Fr h₀ L h' m → Kept (L :: ch) s.heap h' → P s.heap h' r → Q r { s with heap := h', toks := tk' }) →
    wpAny (model prog w) (ktrTop dp un gd cn cs L a ccd cl outer) (call (.ref f) vs) Q E s
noncomputable def NewIn (s h' : Heap) (led : List (Addr × Obj)) : Prop := ∀ p ∈ led, s.get? p.1 = none ∧ h'.get? p.1 = some p.2
theorem fresh_of {h₀ h : Heap} {L x : Addr} {m : Str → Option Value} (F : Fr h₀ L h m) (e : h.get? x = none) : x ≠ L ∧ h₀.get? x = none := by
  constructor
  · rintro rfl
    obtain ⟨oL, a1, a2, hL, a3⟩ := F.ns
    rw [e] at hL; cases hL
  · cases q : h₀.get? x with
    | none => rfl
    | some o => have := F.keep _ _ q; rw [e] at this; cases this
theorem NewIn.news {h₀ h h' : Heap} {L : Addr} {m : Str → Option Value} {news led : List (Addr × Obj)} (n : NewIn h h' led) (F : Fr h₀ L h m) (k : Kept [L] h h') (N : News h₀ L h news) : News h₀ L h' (led ++ news) := fun p hp => by
  rcases List.mem_append.mp hp with hp | hp
  · exact ⟨(n p hp).2, fresh_of F (n p hp).1⟩
  · exact k.news N p hp
theorem Con.use0 {prog : Program} {w : World} {p : Program} {loose : List Str} {mean : ExcName → Option Value} {mg mb : Str → Option Value} {f : Addr} {vs : List Value} {n : Nat} {H : Heap → Prop} {P : Heap → Heap → Value → Prop}
    (C : Con prog w p loose mean mg mb f vs n H [] P)
    {dp un : Nat} {gd : Option (List Code)} {cn : Str} {cs : Scope} {a : Addr} {ccd : Value} {cl : List (Str × Addr)} {outer : List Env} {A₀ : Around} {base h₀ : Heap} {L : Addr} {m : Str → Option Value} {s : Shared} {Q E : Value → Shared → Prop} {news : List (Addr × Obj)}
    (B : Below A₀ base outer h₀) (F : Fr h₀ L s.heap m) (X : (hd.heap_39 w.params).In h₀) (T : Top p loose mean mg mb h₀) (hk : cs.kind = .function) (hd : dp + n < recursionLimit) (hu : un + 8 * n < cLine) (hH : H s.heap) (N : News h₀ L s.heap news)
    (h : ∀ r h' tk', Fr h₀ L h' m → News h₀ L h' news → Kept [L] s.heap h' → P s.heap h' r → Q r { s with heap := h', toks := tk' }) :
    wpAny (model prog w) (ktrTop dp un gd cn cs L a ccd cl outer) (call (.ref f) vs) Q E s :=
  C dp un gd cn cs a ccd cl outer A₀ base h₀ L m s Q E B F X T hk hd hu hH (fun _ q => nomatch q) fun r h' tk' F' k pp => h r h' tk' F' (k.news N) k pp
noncomputable def ConL (prog : Program) (w : World) (p : Program) (loose : List Str) (mean : ExcName → Option Value) (mg mb : Str → Option Value) (f : Addr) (vs : List Value) (n : Nat) (H : Heap → Prop) (led : List (Addr × Obj)) (ch : List Addr) (P : Heap → Heap → Value → Prop) : Prop :=
  ∀ (dp un : Nat) (gd : Option (List Code)) (cn : Str) (cs : Scope) (a : Addr) (ccd : Value) (cl : List (Str × Addr)) (outer : List Env) (A₀ : Around) (base h₀ : Heap) (L : Addr) (m : Str → Option Value) (s : Shared) (Q E : Value → Shared → Prop),
    Below A₀ base outer h₀ → Fr h₀ L s.heap m → (hd.heap_39 w.params).In h₀ → Top p loose mean mg mb h₀ → cs.kind = .function → dp + n < recursionLimit → un + 8 * n < cLine →
    H s.heap → News h₀ L s.heap led →
    (∀ r h' tk', Fr h₀ L h' m → Kept (L :: ch) s.heap h' → P s.heap h' r → Q r { s with heap := h', toks := tk' }) →
    wpAny (model prog w) (ktrTop dp un gd cn cs L a ccd cl outer) (call (.ref f) vs) Q E s
theorem news_sub {h₀ h : Heap} {L : Addr} {n n' : List (Addr × Obj)} (N : News h₀ L h n) (hs : ∀ p ∈ n', p ∈ n) : News h₀ L h n' := fun p hp => N p (hs p hp)
section
variable {prog : Program} {w : World} {p : Program} {loose : List Str} {mean : ExcName → Option Value} {mg mb : Str → Option Value} {f : Addr} {vs : List Value} {n : Nat} {H : Heap → Prop} {P : Heap → Heap → Value → Prop} {led : List (Addr × Obj)} {ch : List Addr}
    {dp un : Nat} {gd : Option (List Code)} {cn : Str} {cs : Scope} {a : Addr} {ccd : Value} {cl : List (Str × Addr)} {outer : List Env} {A₀ : Around} {base h₀ : Heap} {L : Addr} {m : Str → Option Value} {s : Shared} {Q E : Value → Shared → Prop} {news rest : List (Addr × Obj)}
theorem ConL.use0 (C : ConL prog w p loose mean mg mb f vs n H led [] P)
    (B : Below A₀ base outer h₀) (F : Fr h₀ L s.heap m) (X : (hd.heap_39 w.params).In h₀) (T : Top p loose mean mg mb h₀) (hk : cs.kind = .function) (hd : dp + n < recursionLimit) (hu : un + 8 * n < cLine) (hH : H s.heap) (N : News h₀ L s.heap news) (hN : ∀ q ∈ led, q ∈ news)
    (h : ∀ r h' tk', Fr h₀ L h' m → News h₀ L h' news → Kept [L] s.heap h' → P s.heap h' r → Q r { s with heap := h', toks := tk' }) :
    wpAny (model prog w) (ktrTop dp un gd cn cs L a ccd cl outer) (call (.ref f) vs) Q E s :=
  C dp un gd cn cs a ccd cl outer A₀ base h₀ L m s Q E B F X T hk hd hu hH (news_sub N hN) fun r h' tk' F' k pp => h r h' tk' F' (k.news N) k pp
end
section
variable {prog : Program} {w : World} {p : Program} {loose : List Str} {mean : ExcName → Option Value} {mg mb : Str → Option Value}
theorem ConL.use0n {f : Addr} {vs : List Value} {n : Nat} {H : Heap → Prop} {P : Heap → Heap → Value → Prop} {led : List (Addr × Obj)} (C : ConL prog w p loose mean mg mb f vs n H led [] P)
    {dp un : Nat} {gd : Option (List Code)} {cn : Str} {cs : Scope} {a : Addr} {ccd : Value} {cl : List (Str × Addr)} {outer : List Env} {A₀ : Around} {base h₀ : Heap} {L : Addr} {m : Str → Option Value} {s : Shared} {Q E : Value → Shared → Prop} {news : List (Addr × Obj)}
    (B : Below A₀ base outer h₀) (F : Fr h₀ L s.heap m) (X : (hd.heap_39 w.params).In h₀) (T : Top p loose mean mg mb h₀) (hk : cs.kind = .function) (hd : dp + n < recursionLimit) (hu : un + 8 * n < cLine) (hH : H s.heap) (N : News h₀ L s.heap news) (hN : ∀ q ∈ led, q ∈ news)
    (h : ∀ r h' tk', Fr h₀ L h' m → News h₀ L h' news → Kept [L] s.heap h' → (∀ b, s.heap.get? b = none → ∀ q ∈ news, q.1 ≠ b) → P s.heap h' r → Q r { s with heap := h', toks := tk' }) :
    wpAny (model prog w) (ktrTop dp un gd cn cs L a ccd cl outer) (call (.ref f) vs) Q E s :=
  C.use0 B F X T hk hd hu hH N hN fun r h' tk' F' N' k pp => h r h' tk' F' N' k (fun b hb q hq e => by
    have := (N q hq).1
    rw [e, hb] at this; cases this) pp
end
noncomputable def frs (l : List Env) : List Addr := l.filterMap (·.frame)
noncomputable def KeptF (ch fs : List Addr) (h h' : Heap) : Prop := ∀ b o, b ∉ ch → b ∉ fs → h.get? b = some o → h'.get? b = some o
section
variable {p : Program} {w : World} {loose : List Str} {mean : ExcName → Option Value} {mg mb : Str → Option Value} {base h₀ h₀' : Heap} {L : Addr} {m : Str → Option Value} {outer : List Env} {A₀ : Around}
theorem keptF_get {s h' : Heap} {ch : List Addr} {b : Addr} {o : Obj} (K : KeptF (L :: ch) (frs outer) s h') (B : Below A₀ base outer h₀) (hL : b ≠ L) (h0 : h₀.get? b = none) (hc : b ∉ ch) (h : s.get? b = some o) : h'.get? b = some o :=
  K b o (fun q => (List.mem_cons.mp q).elim hL hc) (fun q => by
    obtain ⟨_, o', ho, _⟩ := B.frames.mem q
    rw [h0] at ho; cases ho) h
theorem keptF_news {s h' : Heap} {ch : List Addr} {news : List (Addr × Obj)} (K : KeptF (L :: ch) (frs outer) s h') (B : Below A₀ base outer h₀) (T : KtsTurn (frs outer) h₀ h₀') (N : News h₀ L s news) (hc : ∀ q ∈ news, q.1 ∉ ch) : News h₀' L h' news := fun q hq =>
  have z := N q hq
  ⟨keptF_get K B z.2.1 z.2.2 (hc q hq) z.1, z.2.1, T.none_ _ z.2.2⟩
end
section
variable {prog : Program} {w : World} {p : Program} {loose : List Str} {mean : ExcName → Option Value} {mg mb : Str → Option Value} {f : Addr} {vs : List Value} {n : Nat} {H : Heap → Prop} {led : List (Addr × Obj)} {ch : List Addr}
noncomputable abbrev Ab := Nat × Nat × Nat × Nat
end
structure RA where
  ta : Nat → List Ab
  le : List (List Ab)
section
variable {prog : Program} {w : World} {p : Program} {loose : List Str} {mean : ExcName → Option Value} {mg mb : Str → Option Value}
noncomputable def lessB (t f t' f' : Nat) : Bool := decide (t + 4 * f < t' + 4 * f') && decide (t ≤ t')
noncomputable def equalB (t f t' f' : Nat) : Bool := decide (t = t') && decide (f = f')
noncomputable def layA (rows : List Ab) (x : Ab) : List Ab :=
  if rows.any (fun a => a.1 == x.1 && (equalB x.2.1 x.2.2.1 a.2.1 a.2.2.1 || lessB x.2.1 x.2.2.1 a.2.1 a.2.2.1)) then rows
  else (rows.filter fun a => !(a.1 == x.1)) ++ (rows.filter fun a => a.1 == x.1 && !lessB a.2.1 a.2.2.1 x.2.1 x.2.2.1) ++ [x]
end
noncomputable def mTA (l : List Ab) : Nat := l.foldl (fun a r => max a r.2.1) 0
noncomputable def mFA (l : List Ab) : Nat := l.foldl (fun a r => max a r.2.2.1) 0
noncomputable def writeA (l : List Ab) (site c fl : Nat) : List Ab := (l.filter fun a => !(a.1 == c)) ++ [(c, if site = 0 then mTA l + 1 else mTA l, if site = 0 then mFA l else mFA l + 1, fl)]
noncomputable def stepA (ns : List Nat) (A : RA) (k : Nat) : RA :=
  let v := ns.getD k 0
  let t := if v / 2 % 60 % (k + 1) < k then (A.le.getD (v / 2 % 60 % (k + 1)) []).foldl layA (A.ta (v % 2)) else A.ta (v % 2)
  let t2 := writeA t (v % 2) (v / 120 % 4 % 2) (v / 480 % 7 + 1)
  ⟨fun i => if i = v % 2 then t2 else A.ta i, A.le ++ [t2]⟩
noncomputable def runA (ns : List Nat) : Nat → RA
  | 0 => ⟨fun _ => [], []⟩
  | k + 1 => stepA ns (runA ns k) k
noncomputable def OkL (l : List Ab) : Prop := l.length ≤ 10 ∧ ∀ a ∈ l, a.1 < 2 ∧ a.2.1 ≤ 5 ∧ a.2.2.1 ≤ 5 ∧ 1 ≤ a.2.1 + a.2.2.1 ∧ 1 ≤ a.2.2.2 ∧ a.2.2.2 ≤ 7
noncomputable def OkRun (ns : List Nat) : Prop := ∀ k, k ≤ 5 → (∀ i, OkL ((runA ns k).ta i)) ∧ ∀ l ∈ (runA ns k).le, OkL l
theorem runA_len (ns : List Nat) : ∀ k, (runA ns k).le.length = k
  | 0 => rfl
  | k + 1 => by
    have := runA_len ns k
    simp [runA, stepA, this]
structure DA where
  kn : Nat → List Nat
  se : List (List Nat)
noncomputable def knownD (ns : List Nat) (D : DA) (k : Nat) : List Nat :=
  let v := ns.getD k 0
  (if v / 2 % 60 % (k + 1) < k then (List.range k).filter (fun e => (D.kn (v % 2)).contains e || (D.se.getD (v / 2 % 60 % (k + 1)) []).contains e) else D.kn (v % 2)) ++ [k]
noncomputable def stepD (ns : List Nat) (D : DA) (k : Nat) : DA :=
  ⟨fun i => if i = ns.getD k 0 % 2 then knownD ns D k else D.kn i, D.se ++ [knownD ns D k]⟩
noncomputable def runD (ns : List Nat) : Nat → DA
  | 0 => ⟨fun _ => [], []⟩
  | k + 1 => stepD ns (runD ns k) k
structure Past (site : Nat → Nat) (sn : Nat → List Nat) (n : Nat) : Prop where
  nd : ∀ e, e < n → (sn e).Nodup
  le : ∀ e, e < n → ∀ x ∈ sn e, x ≤ e
  self : ∀ e, e < n → e ∈ sn e
  tr : ∀ e, e < n → ∀ x ∈ sn e, ∀ y ∈ sn x, y ∈ sn e
  ch : ∀ e, e < n → ∀ x, x ≤ e → site x = site e → x ∈ sn e
  two : ∀ e, site e < 2
noncomputable def cntS (site : Nat → Nat) (i : Nat) (l : List Nat) : Nat := (l.filter fun e => site e == i).length
section
variable {site : Nat → Nat} {sn : Nat → List Nat} {n : Nat}
noncomputable def tE (site : Nat → Nat) (sn : Nat → List Nat) (e : Nat) : Nat := cntS site 0 (sn e)
noncomputable def fE (site : Nat → Nat) (sn : Nat → List Nat) (e : Nat) : Nat := (sn e).length - cntS site 0 (sn e)
noncomputable def abE (site : Nat → Nat) (sn : Nat → List Nat) (nm fl : Nat → Nat) (e : Nat) : Ab := (nm e, tE site sn e, fE site sn e, fl e)
end
section
variable {site : Nat → Nat} {sn : Nat → List Nat} {n : Nat}
variable {nm fl : Nat → Nat}
structure Rep (site : Nat → Nat) (sn : Nat → List Nat) (nm fl : Nat → Nat) (n : Nat) (l : List Ab) (S : Nat → Prop) (es : List Nat) : Prop where
  eq : l = es.map (abE site sn nm fl)
  nd : es.Nodup
  lt : ∀ e, S e → e < n
  sub : ∀ e ∈ es, S e
  up : ∀ e, S e → ∃ f ∈ es, nm f = nm e ∧ e ∈ sn f
  anti : ∀ e ∈ es, ∀ f ∈ es, nm e = nm f → e ∈ sn f → e = f
end
theorem Kept.trans {ch : List Addr} {h h' h'' : Heap} (a : Kept ch h h') (b : Kept ch h' h'') : Kept ch h h'' := fun x o n e => b x o n (a x o n e)
section
variable {site : Nat → Nat} {sn : Nat → List Nat} {n : Nat}
variable {nm fl : Nat → Nat}
theorem rep_mono {l : List Ab} {S S' : Nat → Prop} {es : List Nat} (R : Rep site sn nm fl n l S es) (lt : ∀ e, S' e → e < n) (h1 : ∀ e, S e → S' e) (h2 : ∀ e, S' e → ∃ f, S f ∧ nm f = nm e ∧ e ∈ sn f) (tr : ∀ e, e < n → ∀ x ∈ sn e, ∀ y ∈ sn x, y ∈ sn e) : Rep site sn nm fl n l S' es :=
  ⟨R.eq, R.nd, lt, fun e he => h1 e (R.sub e he), fun e he => by
    obtain ⟨f, hf, hn, hm⟩ := h2 e he
    obtain ⟨g, hg, hn', hm'⟩ := R.up f hf
    exact ⟨g, hg, hn'.trans hn, tr g (R.lt g (R.sub g hg)) f hm' e hm⟩, R.anti⟩
end
theorem sub_len : ∀ {l l' : List Nat}, l.Nodup → (∀ x ∈ l, x ∈ l') → l.length ≤ l'.length
  | [], _, _, _ => Nat.zero_le _
  | a :: l, l', hn, hs => by
    have ha : a ∈ l' := hs a (.head _)
    have h1 : l.length ≤ (l'.erase a).length := sub_len (List.nodup_cons.mp hn).2 fun x hx => by
      refine (List.mem_erase_of_ne ?_).mpr (hs x (.tail _ hx))
      rintro rfl
      exact (List.nodup_cons.mp hn).1 hx
    rw [List.length_erase_of_mem ha] at h1
    have : 0 < l'.length := List.length_pos_of_mem ha
    simp only [List.length_cons]; omega
theorem sub_lt {l l' : List Nat} {x : Nat} (hn : l.Nodup) (hs : ∀ x ∈ l, x ∈ l') (h1 : x ∈ l') (h2 : x ∉ l) : l.length < l'.length :=
  sub_len (l := x :: l) (List.nodup_cons.mpr ⟨h2, hn⟩) fun y hy => (List.mem_cons.mp hy).elim (fun e => e ▸ h1) (hs y)
theorem cnt_le {site : Nat → Nat} {i : Nat} {l l' : List Nat} (hn : l.Nodup) (hs : ∀ x ∈ l, site x = i → x ∈ l') : cntS site i l ≤ cntS site i l' :=
  sub_len (hn.filter _) fun x hx => by
    obtain ⟨a, b⟩ := List.mem_filter.mp hx
    exact List.mem_filter.mpr ⟨hs x a (by simpa using b), b⟩
theorem cnt_two {site : Nat → Nat} : ∀ {l : List Nat}, (∀ x ∈ l, site x < 2) → cntS site 0 l + cntS site 1 l = l.length
  | [], _ => rfl
  | a :: l, h => by
    have ih := cnt_two (site := site) (l := l) fun x hx => h x (.tail _ hx)
    have ha := h a (.head _)
    unfold cntS at ih ⊢
    simp only [List.filter_cons, List.length_cons]
    rcases Nat.lt_or_ge (site a) 1 with h0 | h1
    · have : site a = 0 := by omega
      simp [this]; omega
    · have : site a = 1 := by omega
      simp [this]; omega
section
variable {site : Nat → Nat} {sn : Nat → List Nat} {n : Nat}
theorem fE_eq (P : Past site sn n) (e : Nat) : fE site sn e = cntS site 1 (sn e) := by
  have := cnt_two (site := site) (l := sn e) fun x _ => P.two x
  unfold fE; omega
end
theorem cnt_lt {site : Nat → Nat} {i : Nat} {l l' : List Nat} {x : Nat} (hn : l.Nodup) (hs : ∀ x ∈ l, site x = i → x ∈ l') (hx : site x = i) (h1 : x ∈ l') (h2 : x ∉ l) : cntS site i l < cntS site i l' :=
  sub_lt (x := x) (hn.filter _) (fun x hx => by
    obtain ⟨a, b⟩ := List.mem_filter.mp hx
    exact List.mem_filter.mpr ⟨hs x a (by simpa using b), b⟩) (List.mem_filter.mpr ⟨h1, by simpa using hx⟩) fun h => h2 (List.mem_filter.mp h).1
section
variable {site : Nat → Nat} {sn : Nat → List Nat} {n : Nat}
theorem cnt_at_site (P : Past site sn n) {x y : Nat} (hx : x < n) (hy : y < n) (h : x ∉ sn y) : cntS site (site x) (sn y) < cntS site (site x) (sn x) :=
  cnt_lt (x := x) (P.nd y hy) (fun z hz hs => by
    rcases Nat.lt_or_ge z x with hl | hl
    · exact P.ch x hx z (Nat.le_of_lt hl) hs
    · exact absurd (P.tr y hy z hz x (P.ch z (Nat.lt_of_le_of_lt (P.le y hy z hz) hy) x hl hs.symm)) h) rfl (P.self x hx) h
theorem less_iff (P : Past site sn n) (h5 : n ≤ 5) {x y : Nat} (hx : x < n) (hy : y < n) : lessB (tE site sn x) (fE site sn x) (tE site sn y) (fE site sn y) = true ↔ x ∈ sn y ∧ x ≠ y := by
  rw [fE_eq P, fE_eq P]
  unfold lessB tE
  simp only [Bool.and_eq_true, decide_eq_true_eq]
  constructor
  · intro ⟨h1, h2⟩
    have hm : x ∈ sn y := by
      refine Classical.byContradiction fun hn => ?_
      have hc := cnt_at_site P hx hy hn
      have h2x := P.two x
      rcases Nat.lt_or_ge (site x) 1 with h0 | h0
      · rw [show site x = 0 by omega] at hc; omega
      · have hs : site x = 1 := by omega
        rw [hs] at hc
        have h6 : cntS site 0 (sn y) < (List.range 5).length := sub_lt (x := x) ((P.nd y hy).filter _) (fun z hz => by
          have := P.le y hy z (List.mem_filter.mp hz).1
          exact List.mem_range.mpr (by omega)) (List.mem_range.mpr (by omega)) fun h => hn (List.mem_filter.mp h).1
        rw [List.length_range] at h6
        omega
    refine ⟨hm, ?_⟩
    rintro rfl
    omega
  · intro ⟨hm, hne⟩
    have s : ∀ i, cntS site i (sn x) ≤ cntS site i (sn y) := fun i => cnt_le (P.nd x hx) fun z hz _ => P.tr y hy x hm z hz
    have hyx : y ∉ sn x := fun h => hne (Nat.le_antisymm (P.le y hy x hm) (P.le x hx y h))
    have hl : (sn x).length < (sn y).length := sub_lt (P.nd x hx) (fun z hz => P.tr y hy x hm z hz) (P.self y hy) hyx
    have e1 := cnt_two (site := site) (l := sn x) fun z _ => P.two z
    have e2 := cnt_two (site := site) (l := sn y) fun z _ => P.two z
    have s0 := s 0
    have s1 := s 1
    omega
theorem equal_iff (P : Past site sn n) {x y : Nat} (hx : x < n) (hy : y < n) : equalB (tE site sn x) (fE site sn x) (tE site sn y) (fE site sn y) = true ↔ x = y := by
  rw [fE_eq P, fE_eq P]
  unfold equalB tE
  simp only [Bool.and_eq_true, decide_eq_true_eq]
  constructor
  · intro ⟨h1, h2⟩
    refine Classical.byContradiction fun hne => ?_
    have h : ∀ {a b : Nat}, a < n → b < n → a ∉ sn b → cntS site 0 (sn a) = cntS site 0 (sn b) → cntS site 1 (sn a) = cntS site 1 (sn b) → False := fun {a b} ha hb hn q0 q1 => by
      have hc := cnt_at_site P ha hb hn
      have h2x := P.two a
      rcases Nat.lt_or_ge (site a) 1 with h0 | h0
      · rw [show site a = 0 by omega] at hc; omega
      · rw [show site a = 1 by omega] at hc; omega
    by_cases hm : x ∈ sn y
    · exact h hy hx (fun h' => hne (Nat.le_antisymm (P.le y hy x hm) (P.le x hx y h'))) h1.symm h2.symm
    · exact h hx hy hm h1 h2
  · rintro rfl
    exact ⟨rfl, rfl⟩
end
section
variable {site : Nat → Nat} {sn : Nat → List Nat} {n : Nat}
variable {nm fl : Nat → Nat}
theorem rep_lay (P : Past site sn n) (h5 : n ≤ 5) {l : List Ab} {S : Nat → Prop} {es : List Nat} (R : Rep site sn nm fl n l S es) {x : Nat} (hx : x < n) : ∃ es', Rep site sn nm fl n (layA l (abE site sn nm fl x)) (fun e => S e ∨ e = x) es' := by
  obtain ⟨rfl, nd, lt, sub, up, anti⟩ := R
  have hlt : ∀ e ∈ es, e < n := fun e he => lt e (sub e he)
  have lt' : ∀ e, (S e ∨ e = x) → e < n := fun e h => h.elim (lt e) fun q => q ▸ hx
  by_cases hc : ∃ f ∈ es, nm f = nm x ∧ x ∈ sn f
  · obtain ⟨f, hf, hn, hm⟩ := hc
    have : layA (es.map (abE site sn nm fl)) (abE site sn nm fl x) = es.map (abE site sn nm fl) := by
      unfold layA
      rw [if_pos]
      rw [List.any_eq_true]
      refine ⟨_, List.mem_map_of_mem hf, ?_⟩
      show (nm f == nm x && (equalB (tE site sn x) (fE site sn x) (tE site sn f) (fE site sn f) || lessB (tE site sn x) (fE site sn x) (tE site sn f) (fE site sn f))) = true
      rw [Bool.and_eq_true, Bool.or_eq_true, equal_iff P hx (hlt f hf), less_iff P h5 hx (hlt f hf)]
      refine ⟨by simpa using hn, ?_⟩
      by_cases e : x = f
      · exact .inl e
      · exact .inr ⟨hm, e⟩
    rw [this]
    exact ⟨es, rfl, nd, lt', fun e he => .inl (sub e he), fun e h => h.elim (up e) fun q => q ▸ ⟨f, hf, hn, hm⟩, anti⟩
  · have hno : ∀ f ∈ es, nm f = nm x → x ∉ sn f := fun f hf hn hm => hc ⟨f, hf, hn, hm⟩
    have hxn : x ∉ es := fun h => hno x h rfl (P.self x hx)
    have e1 : ((es.map (abE site sn nm fl)).filter fun a => !(a.1 == (abE site sn nm fl x).1)) = (es.filter fun e => !(nm e == nm x)).map (abE site sn nm fl) := by rw [List.filter_map]; rfl
    have e2 : ((es.map (abE site sn nm fl)).filter fun a => a.1 == (abE site sn nm fl x).1 && !lessB a.2.1 a.2.2.1 (abE site sn nm fl x).2.1 (abE site sn nm fl x).2.2.1) = (es.filter fun e => nm e == nm x && !lessB (tE site sn e) (fE site sn e) (tE site sn x) (fE site sn x)).map (abE site sn nm fl) := by rw [List.filter_map]; rfl
    have : layA (es.map (abE site sn nm fl)) (abE site sn nm fl x) = ((es.filter fun e => !(nm e == nm x)) ++ (es.filter fun e => nm e == nm x && !lessB (tE site sn e) (fE site sn e) (tE site sn x) (fE site sn x)) ++ [x]).map (abE site sn nm fl) := by
      unfold layA
      rw [if_neg, e1, e2, List.map_append, List.map_append]
      · rfl
      · rw [List.any_eq_true]
        rintro ⟨a, ha, hb⟩
        obtain ⟨f, hf, rfl⟩ := List.mem_map.mp ha
        replace hb : (nm f == nm x && (equalB (tE site sn x) (fE site sn x) (tE site sn f) (fE site sn f) || lessB (tE site sn x) (fE site sn x) (tE site sn f) (fE site sn f))) = true := hb
        rw [Bool.and_eq_true, Bool.or_eq_true, equal_iff P hx (hlt f hf), less_iff P h5 hx (hlt f hf)] at hb
        obtain ⟨h1, h2⟩ := hb
        rcases h2 with rfl | h2
        · exact hxn hf
        · exact hno f hf (by simpa using h1) h2.1
    have mem : ∀ e, e ∈ (es.filter fun e => !(nm e == nm x)) ++ (es.filter fun e => nm e == nm x && !lessB (tE site sn e) (fE site sn e) (tE site sn x) (fE site sn x)) ++ [x] ↔ (e ∈ es ∧ ¬ (nm e = nm x ∧ e ∈ sn x)) ∨ e = x := by
      intro e
      simp only [List.mem_append, List.mem_filter, List.mem_singleton, Bool.and_eq_true, Bool.not_eq_true', beq_iff_eq, beq_eq_false_iff_ne]
      constructor
      · rintro ((⟨h, q⟩ | ⟨h, q1, q2⟩) | rfl)
        · exact .inl ⟨h, fun z => q z.1⟩
        · refine .inl ⟨h, fun z => ?_⟩
          have : lessB (tE site sn e) (fE site sn e) (tE site sn x) (fE site sn x) = true := (less_iff P h5 (hlt e h) hx).mpr ⟨z.2, fun q => hxn (q ▸ h)⟩
          rw [this] at q2; cases q2
        · exact .inr rfl
      · rintro (⟨h, q⟩ | rfl)
        · by_cases z : nm e = nm x
          · refine .inl (.inr ⟨h, z, ?_⟩)
            cases hb : lessB (tE site sn e) (fE site sn e) (tE site sn x) (fE site sn x) with
            | false => rfl
            | true => exact absurd ⟨z, ((less_iff P h5 (hlt e h) hx).mp hb).1⟩ q
          · exact .inl (.inl ⟨h, z⟩)
        · exact .inr rfl
    rw [this]
    refine ⟨_, rfl, ?_, lt', fun e he => ?_, fun e h => ?_, fun e he f hf hn hm => ?_⟩
    · rw [List.nodup_append]
      refine ⟨?_, by simp, fun a ha b hb => ?_⟩
      · rw [List.nodup_append]
        refine ⟨nd.filter _, nd.filter _, fun a ha b hb => ?_⟩
        have q1 := (List.mem_filter.mp ha).2
        have q2 := (List.mem_filter.mp hb).2
        rintro rfl
        rw [Bool.and_eq_true] at q2
        rw [q2.1] at q1; cases q1
      · rw [List.mem_singleton.mp hb]
        rintro rfl
        rcases List.mem_append.mp ha with ha | ha
        · exact hxn (List.mem_filter.mp ha).1
        · exact hxn (List.mem_filter.mp ha).1
    · rcases (mem e).mp he with h | h
      · exact .inl (sub e h.1)
      · exact .inr h
    · have top : ∀ e, e ∈ sn x → nm x = nm e → ∃ f ∈ (es.filter fun e => !(nm e == nm x)) ++ (es.filter fun e => nm e == nm x && !lessB (tE site sn e) (fE site sn e) (tE site sn x) (fE site sn x)) ++ [x], nm f = nm e ∧ e ∈ sn f := fun e he hn => ⟨x, (mem x).mpr (.inr rfl), hn, he⟩
      rcases h with h | rfl
      · obtain ⟨f, hf, hn, hm⟩ := up e h
        by_cases z : nm f = nm x ∧ f ∈ sn x
        · exact top e (P.tr x hx f z.2 e hm) (z.1.symm.trans hn)
        · exact ⟨f, (mem f).mpr (.inl ⟨hf, z⟩), hn, hm⟩
      · exact top e (P.self e hx) rfl
    · rcases (mem e).mp he with h | rfl
      · rcases (mem f).mp hf with h' | rfl
        · exact anti e h.1 f h'.1 hn hm
        · exact absurd ⟨hn, hm⟩ h.2
      · rcases (mem f).mp hf with h' | rfl
        · exact absurd hm (hno f h'.1 hn.symm)
        · rfl
theorem rep_fold (P : Past site sn n) (h5 : n ≤ 5) : ∀ (xs : List Nat) {l : List Ab} {S : Nat → Prop} {es : List Nat}, Rep site sn nm fl n l S es → (∀ x ∈ xs, x < n) → ∃ es', Rep site sn nm fl n ((xs.map (abE site sn nm fl)).foldl layA l) (fun e => S e ∨ e ∈ xs) es'
  | [], l, S, es, R, _ => ⟨es, rep_mono R (fun e h => h.elim (R.lt e) fun h => (nomatch h)) (fun e h => .inl h) (fun e h => h.elim (fun h => ⟨e, h, rfl, P.self e (R.lt e h)⟩) fun h => (nomatch h)) P.tr⟩
  | x :: xs, l, S, es, R, hx => by
    obtain ⟨es1, R1⟩ := rep_lay P h5 R (hx x (.head _))
    obtain ⟨es2, R2⟩ := rep_fold P h5 xs R1 fun y hy => hx y (.tail _ hy)
    refine ⟨es2, rep_mono R2 (fun e h => ?_) (fun e h => ?_) (fun e h => ⟨e, ?_, rfl, P.self e ?_⟩) P.tr⟩
    · rcases h with h | h
      · exact R.lt e h
      · exact hx e h
    · rcases h with (h | h) | h
      · exact .inl h
      · exact .inr (h ▸ .head _)
      · exact .inr (.tail _ h)
    · rcases h with h | h
      · exact .inl (.inl h)
      · rcases List.mem_cons.mp h with h | h
        · exact .inl (.inr h)
        · exact .inr h
    · rcases h with h | h
      · exact R.lt e h
      · exact hx e h
theorem rep_join (P : Past site sn n) (h5 : n ≤ 5) {l l' : List Ab} {S S' : Nat → Prop} {es es' : List Nat} (R : Rep site sn nm fl n l S es) (R' : Rep site sn nm fl n l' S' es') : ∃ es2, Rep site sn nm fl n (l'.foldl layA l) (fun e => S e ∨ S' e) es2 := by
  obtain ⟨es2, R2⟩ := rep_fold P h5 es' R fun x hx => R'.lt x (R'.sub x hx)
  rw [← R'.eq] at R2
  refine ⟨es2, rep_mono R2 (fun e h => h.elim (R.lt e) (R'.lt e)) (fun e h => h.elim .inl fun h => .inr (R'.sub e h)) (fun e h => ?_) P.tr⟩
  rcases h with h | h
  · exact ⟨e, .inl h, rfl, P.self e (R.lt e h)⟩
  · obtain ⟨f, hf, q⟩ := R'.up e h
    exact ⟨f, .inr hf, q⟩
theorem fold_max_le {α : Type} (g : α → Nat) : ∀ (l : List α) (a c : Nat), a ≤ c → (∀ x ∈ l, g x ≤ c) → l.foldl (fun a r => max a (g r)) a ≤ c
  | [], a, c, h, _ => h
  | x :: l, a, c, h, k => fold_max_le g l _ c (Nat.max_le.mpr ⟨h, k x (.head _)⟩) fun y hy => k y (.tail _ hy)
theorem fold_max_ge {α : Type} (g : α → Nat) : ∀ (l : List α) (a : Nat), a ≤ l.foldl (fun a r => max a (g r)) a ∧ ∀ x ∈ l, g x ≤ l.foldl (fun a r => max a (g r)) a
  | [], a => ⟨Nat.le_refl _, fun _ h => nomatch h⟩
  | x :: l, a => by
    have ih := fold_max_ge g l (max a (g x))
    refine ⟨Nat.le_trans (Nat.le_max_left _ _) ih.1, fun y hy => ?_⟩
    rcases List.mem_cons.mp hy with rfl | hy
    · exact Nat.le_trans (Nat.le_max_right _ _) ih.1
    · exact ih.2 y hy
theorem last_of (site : Nat → Nat) (i : Nat) : ∀ (K : List Nat), (∃ x ∈ K, site x = i) → ∃ x ∈ K, site x = i ∧ ∀ y ∈ K, site y = i → y ≤ x
  | [], ⟨_, h, _⟩ => nomatch h
  | a :: K, ⟨x, hx, hs⟩ => by
    by_cases h : ∃ x ∈ K, site x = i
    · obtain ⟨z, hz, hzs, hm⟩ := last_of site i K h
      by_cases ha : site a = i ∧ z ≤ a
      · refine ⟨a, .head _, ha.1, fun y hy hys => ?_⟩
        rcases List.mem_cons.mp hy with rfl | hy
        · exact Nat.le_refl _
        · exact Nat.le_trans (hm y hy hys) ha.2
      · refine ⟨z, .tail _ hz, hzs, fun y hy hys => ?_⟩
        rcases List.mem_cons.mp hy with rfl | hy
        · exact Nat.le_of_lt (Nat.lt_of_not_ge fun q => ha ⟨hys, q⟩)
        · exact hm y hy hys
    · rcases List.mem_cons.mp hx with rfl | hx
      · refine ⟨x, .head _, hs, fun y hy hys => ?_⟩
        rcases List.mem_cons.mp hy with rfl | hy
        · exact Nat.le_refl _
        · exact absurd ⟨y, hy, hys⟩ h
      · exact absurd ⟨x, hx, hs⟩ h
theorem max_cnt (P : Past site sn n) {l : List Ab} {K : List Nat} {es : List Nat} (R : Rep site sn nm fl n l (· ∈ K) es) (hK : K.Nodup) (hd : ∀ e ∈ K, ∀ x ∈ sn e, x ∈ K) (i : Nat) : es.foldl (fun a e => max a (cntS site i (sn e))) 0 = cntS site i K := by
  refine Nat.le_antisymm (fold_max_le _ _ _ _ (Nat.zero_le _) fun e he => cnt_le (P.nd e (R.lt e (R.sub e he))) fun x hx _ => hd e (R.sub e he) x hx) ?_
  by_cases h : ∃ x ∈ K, site x = i
  · obtain ⟨x, hx, hs, hm⟩ := last_of site i K h
    obtain ⟨f, hf, _, hxf⟩ := R.up x hx
    have h1 : cntS site i K ≤ cntS site i (sn f) := cnt_le hK fun y hy hys => P.tr f (R.lt f (R.sub f hf)) x hxf y (P.ch x (R.lt x hx) y (hm y hy hys) (hys.trans hs.symm))
    exact Nat.le_trans h1 ((fold_max_ge (fun e => cntS site i (sn e)) es 0).2 f hf)
  · have : cntS site i K = 0 := by
      unfold cntS
      rw [List.length_eq_zero_iff, List.filter_eq_nil_iff]
      intro a ha q
      exact h ⟨a, ha, by simpa using q⟩
    rw [this]; exact Nat.zero_le _
theorem rep_write (P : Past site sn (n + 1)) {l : List Ab} {K : List Nat} {es : List Nat} (R : Rep site sn nm fl n l (· ∈ K) es) (hK : K.Nodup) (hd : ∀ e ∈ K, ∀ x ∈ sn e, x ∈ K) (hsn : ∀ x, x ∈ sn n ↔ x ∈ K ∨ x = n) :
    ∃ es', Rep site sn nm fl (n + 1) (writeA l (site n) (nm n) (fl n)) (· ∈ sn n) es' := by
  have hnK : n ∉ K := fun h => Nat.lt_irrefl _ (R.lt n h)
  have P' : Past site sn n := ⟨fun e h => P.nd e (Nat.lt_succ_of_lt h), fun e h => P.le e (Nat.lt_succ_of_lt h), fun e h => P.self e (Nat.lt_succ_of_lt h), fun e h => P.tr e (Nat.lt_succ_of_lt h), fun e h => P.ch e (Nat.lt_succ_of_lt h), P.two⟩
  have m0 := max_cnt P' R hK hd 0
  have m1 := max_cnt P' R hK hd 1
  have c : ∀ i, cntS site i (sn n) = cntS site i K + (if site n = i then 1 else 0) := by
    intro i
    have e1 : cntS site i (n :: K) = cntS site i K + (if site n = i then 1 else 0) := by
      unfold cntS
      simp only [List.filter_cons]
      by_cases h : site n = i <;> simp [h]
    rw [← e1]
    refine Nat.le_antisymm (cnt_le (P.nd n (Nat.lt_succ_self _)) fun x hx _ => ?_) (cnt_le (List.nodup_cons.mpr ⟨hnK, hK⟩) fun x hx _ => ?_)
    · exact ((hsn x).mp hx).elim (fun h => .tail _ h) fun h => h ▸ .head _
    · exact (hsn x).mpr ((List.mem_cons.mp hx).elim .inr .inl)
  have hes : ∀ e ∈ es, nm e = nm e ∧ e ∈ K := fun e he => ⟨rfl, R.sub e he⟩
  have t1 : mTA l = cntS site 0 K := by
    rw [← m0, R.eq]; unfold mTA; rw [List.foldl_map]; rfl
  have t2 : mFA l = cntS site 1 K := by
    rw [← m1, R.eq]; unfold mFA; rw [List.foldl_map]
    show es.foldl (fun a e => max a (fE site sn e)) 0 = _
    congr 1
    funext a e
    rw [fE_eq P]
  have h2 := P.two n
  have e1 : ((es.map (abE site sn nm fl)).filter fun a => !(a.1 == nm n)) = (es.filter fun e => !(nm e == nm n)).map (abE site sn nm fl) := by rw [List.filter_map]; rfl
  have hw : writeA l (site n) (nm n) (fl n) = ((es.filter fun e => !(nm e == nm n)) ++ [n]).map (abE site sn nm fl) := by
    unfold writeA
    rw [t1, t2, R.eq, e1, List.map_append]
    congr 1
    show [_] = [abE site sn nm fl n]
    unfold abE
    rw [fE_eq P]
    unfold tE
    rw [c 0, c 1]
    rcases Nat.lt_or_ge (site n) 1 with h0 | h0
    · have : site n = 0 := by omega
      simp [this]
    · have : site n = 1 := by omega
      simp [this]
  have mem : ∀ e, e ∈ (es.filter fun e => !(nm e == nm n)) ++ [n] ↔ (e ∈ es ∧ nm e ≠ nm n) ∨ e = n := by
    intro e
    simp [List.mem_filter]
  rw [hw]
  refine ⟨_, rfl, ?_, fun e he => Nat.lt_succ_of_le (P.le n (Nat.lt_succ_self _) e he), fun e he => ?_, fun e he => ?_, fun e he f hf hn hm => ?_⟩
  · rw [List.nodup_append]
    refine ⟨R.nd.filter _, by simp, fun a ha b hb => ?_⟩
    rw [List.mem_singleton.mp hb]
    rintro rfl
    exact hnK (R.sub _ (List.mem_filter.mp ha).1)
  · rcases (mem e).mp he with h | rfl
    · exact (hsn e).mpr (.inl (R.sub e h.1))
    · exact P.self _ (Nat.lt_succ_self _)
  · by_cases hq : nm n = nm e
    · exact ⟨n, (mem n).mpr (.inr rfl), hq, he⟩
    · rcases (hsn e).mp he with h | rfl
      · obtain ⟨f, hf, hn, hm⟩ := R.up e h
        exact ⟨f, (mem f).mpr (.inl ⟨hf, fun q => hq (q.symm.trans hn)⟩), hn, hm⟩
      · exact absurd rfl hq
  · rcases (mem e).mp he with h | rfl
    · rcases (mem f).mp hf with h' | rfl
      · exact R.anti e h.1 f h'.1 hn hm
      · exact absurd hn h.2
    · rcases (mem f).mp hf with h' | rfl
      · exact absurd hn.symm h'.2
      · rfl
end
noncomputable def siteN (ns : List Nat) (k : Nat) : Nat := ns.getD k 0 % 2
noncomputable def nameN (ns : List Nat) (k : Nat) : Nat := ns.getD k 0 / 120 % 4 % 2
noncomputable def flagN (ns : List Nat) (k : Nat) : Nat := ns.getD k 0 / 480 % 7 + 1
noncomputable def earlyN (ns : List Nat) (k : Nat) : Nat := ns.getD k 0 / 2 % 60 % (k + 1)
noncomputable def snN (ns : List Nat) (e : Nat) : List Nat := knownD ns (runD ns e) e
theorem runD_len (ns : List Nat) : ∀ k, (runD ns k).se.length = k
  | 0 => rfl
  | k + 1 => by
    have := runD_len ns k
    simp [runD, stepD, this]
theorem runD_get (ns : List Nat) : ∀ k e, e < k → (runD ns k).se.getD e [] = snN ns e
  | k + 1, e, h => by
    have hl := runD_len ns k
    show ((runD ns k).se ++ [knownD ns (runD ns k) k]).getD e [] = _
    rw [List.getD_eq_getElem?_getD, List.getElem?_append]
    rw [hl]
    by_cases he : e < k
    · rw [if_pos he, ← List.getD_eq_getElem?_getD]
      exact runD_get ns k e he
    · have : e = k := by omega
      subst this
      simp [snN]
structure KnOk (ns : List Nat) (k : Nat) (i : Nat) (K : List Nat) : Prop where
  nd : K.Nodup
  lt : ∀ e ∈ K, e < k
  dn : ∀ e ∈ K, ∀ x ∈ snN ns e, x ∈ K
  ch : ∀ e, e < k → siteN ns e = i → e ∈ K
theorem known_eq (ns : List Nat) (D : DA) (k : Nat) : knownD ns D k = (if earlyN ns k < k then (List.range k).filter (fun e => (D.kn (siteN ns k)).contains e || (D.se.getD (earlyN ns k) []).contains e) else D.kn (siteN ns k)) ++ [k] := rfl
theorem past_run (ns : List Nat) : ∀ k, Past (siteN ns) (snN ns) k ∧ ∀ i, KnOk ns k i ((runD ns k).kn i)
  | 0 => ⟨⟨fun _ h => (nomatch h), fun _ h => (nomatch h), fun _ h => (nomatch h), fun _ h => (nomatch h), fun _ h => (nomatch h), fun _ => Nat.mod_lt _ (by decide)⟩, fun i => ⟨.nil, fun _ h => (nomatch h), fun _ h => (nomatch h), fun _ h => (nomatch h)⟩⟩
  | k + 1 => by
    obtain ⟨P, Kn⟩ := past_run ns k
    have K := Kn (siteN ns k)
    -- what is known ahead of the writing
    have pre : ∃ pre, snN ns k = pre ++ [k] ∧ KnOk ns k (siteN ns k) pre := by
      refine ⟨_, known_eq ns (runD ns k) k, ?_⟩
      split
      · rename_i he
        have hg := runD_get ns k _ he
        refine ⟨List.nodup_range.filter _, fun e h => List.mem_range.mp (List.mem_filter.mp h).1, fun e h x hx => ?_, fun e h1 h2 => ?_⟩
        · obtain ⟨h1, h2⟩ := List.mem_filter.mp h
          have h1 := List.mem_range.mp h1
          simp only [Bool.or_eq_true, List.contains_iff_mem, hg] at h2
          refine List.mem_filter.mpr ⟨List.mem_range.mpr (Nat.lt_of_le_of_lt (P.le e h1 x hx) h1), ?_⟩
          simp only [Bool.or_eq_true, List.contains_iff_mem, hg]
          exact h2.elim (fun q => .inl (K.dn e q x hx)) fun q => .inr (P.tr _ he e q x hx)
        · refine List.mem_filter.mpr ⟨List.mem_range.mpr h1, ?_⟩
          simp only [Bool.or_eq_true, List.contains_iff_mem]
          exact .inl (K.ch e h1 h2)
      · exact K
    obtain ⟨pre, hs, KP⟩ := pre
    have mem : ∀ x, x ∈ snN ns k ↔ x ∈ pre ∨ x = k := fun x => by rw [hs]; simp
    have nd : (snN ns k).Nodup := by
      rw [hs, List.nodup_append]
      refine ⟨KP.nd, by simp, fun a ha b hb => ?_⟩
      rw [List.mem_singleton.mp hb]
      rintro rfl
      exact Nat.lt_irrefl _ (KP.lt _ ha)
    have cs : ∀ {e}, e < k + 1 → e < k ∨ e = k := fun h => Nat.lt_or_eq_of_le (Nat.le_of_lt_succ h)
    have P' : Past (siteN ns) (snN ns) (k + 1) := by
      refine ⟨fun e h => ?_, fun e h x hx => ?_, fun e h => ?_, fun e h x hx y hy => ?_, fun e h x hx hxs => ?_, P.two⟩
      · rcases cs h with h | rfl
        · exact P.nd e h
        · exact nd
      · rcases cs h with h | rfl
        · exact P.le e h x hx
        · exact ((mem x).mp hx).elim (fun q => Nat.le_of_lt (KP.lt x q)) fun q => Nat.le_of_eq q
      · rcases cs h with h | rfl
        · exact P.self e h
        · exact (mem _).mpr (.inr rfl)
      · rcases cs h with h | rfl
        · exact P.tr e h x hx y hy
        · rcases (mem x).mp hx with hx | rfl
          · exact (mem y).mpr (.inl (KP.dn x hx y hy))
          · exact hy
      · rcases cs h with h | rfl
        · exact P.ch e h x hx hxs
        · rcases Nat.lt_or_eq_of_le hx with hx | rfl
          · exact (mem x).mpr (.inl (KP.ch x hx hxs))
          · exact (mem _).mpr (.inr rfl)
    refine ⟨P', fun i => ?_⟩
    show KnOk ns (k + 1) i (if i = siteN ns k then snN ns k else (runD ns k).kn i)
    split
    · rename_i hi
      subst hi
      refine ⟨nd, fun e h => Nat.lt_succ_of_le (P'.le k (Nat.lt_succ_self _) e h), fun e h x hx => P'.tr k (Nat.lt_succ_self _) e h x hx, fun e h hxs => ?_⟩
      exact P'.ch k (Nat.lt_succ_self _) e (Nat.le_of_lt_succ h) hxs
    · rename_i hi
      have Ki := Kn i
      refine ⟨Ki.nd, fun e h => Nat.lt_succ_of_lt (Ki.lt e h), Ki.dn, fun e h hxs => ?_⟩
      rcases cs h with h | rfl
      · exact Ki.ch e h hxs
      · exact absurd hxs.symm hi
theorem past_pre (ns : List Nat) (k : Nat) : ∃ pre, snN ns k = pre ++ [k] ∧ pre = (if earlyN ns k < k then (List.range k).filter (fun e => ((runD ns k).kn (siteN ns k)).contains e || ((runD ns k).se.getD (earlyN ns k) []).contains e) else (runD ns k).kn (siteN ns k)) := ⟨_, known_eq ns (runD ns k) k, rfl⟩
noncomputable abbrev RepN (ns : List Nat) (n : Nat) (l : List Ab) (S : Nat → Prop) : Prop := ∃ es, Rep (siteN ns) (snN ns) (nameN ns) (flagN ns) n l S es
theorem rep_up {ns : List Nat} {n : Nat} {l : List Ab} {S : Nat → Prop} (R : RepN ns n l S) : RepN ns (n + 1) l S := by
  obtain ⟨es, R⟩ := R
  exact ⟨es, R.eq, R.nd, fun e h => Nat.lt_succ_of_lt (R.lt e h), R.sub, R.up, R.anti⟩
theorem rep_ext {ns : List Nat} {n : Nat} {l : List Ab} {S S' : Nat → Prop} (R : RepN ns n l S) (h : ∀ e, S e ↔ S' e) : RepN ns n l S' := by
  have : S = S' := funext fun e => propext (h e)
  rw [← this]; exact R
theorem run_rep (ns : List Nat) : ∀ k, k ≤ 5 → (∀ i, RepN ns k ((runA ns k).ta i) (· ∈ (runD ns k).kn i)) ∧ ∀ e, e < k → RepN ns k ((runA ns k).le.getD e []) (· ∈ snN ns e)
  | 0, _ => ⟨fun i => ⟨[], rfl, .nil, fun _ h => (nomatch h), fun _ h => (nomatch h), fun _ h => (nomatch h), fun _ h => (nomatch h)⟩, fun _ h => (nomatch h)⟩
  | k + 1, hk => by
    obtain ⟨R, Re⟩ := run_rep ns k (Nat.le_of_succ_le hk)
    obtain ⟨P, Kn⟩ := past_run ns k
    have P' := (past_run ns (k + 1)).1
    obtain ⟨pre, hs, hp⟩ := past_pre ns k
    have h5 : k ≤ 5 := Nat.le_of_succ_le hk
    have T : RepN ns k (if earlyN ns k < k then ((runA ns k).le.getD (earlyN ns k) []).foldl layA ((runA ns k).ta (siteN ns k)) else (runA ns k).ta (siteN ns k)) (· ∈ pre) := by
      rw [hp]
      split
      · rename_i he
        obtain ⟨es, R1⟩ := R (siteN ns k)
        obtain ⟨es', R2⟩ := Re _ he
        have R3 : RepN ns k _ _ := rep_join P h5 R1 R2
        refine rep_ext R3 fun e => ?_
        simp only [List.mem_filter, List.mem_range, Bool.or_eq_true, List.contains_iff_mem, runD_get ns k _ he]
        exact ⟨fun h => ⟨h.elim (R1.lt e) (R2.lt e), h⟩, fun h => h.2⟩
      · exact R (siteN ns k)
    obtain ⟨es, T⟩ := T
    have mem : ∀ x, x ∈ snN ns k ↔ x ∈ pre ∨ x = k := fun x => by rw [hs]; simp
    have hnd : pre.Nodup := by
      have := P'.nd k (Nat.lt_succ_self _)
      rw [hs, List.nodup_append] at this
      exact this.1
    have hdn : ∀ e ∈ pre, ∀ x ∈ snN ns e, x ∈ pre := fun e he x hx => by
      have := P'.tr k (Nat.lt_succ_self _) e ((mem e).mpr (.inl he)) x hx
      rcases (mem x).mp this with h | rfl
      · exact h
      · exact absurd (P.le e (T.lt e he) _ hx) (Nat.not_le.mpr (T.lt e he))
    have W : RepN ns (k + 1) (writeA (if earlyN ns k < k then ((runA ns k).le.getD (earlyN ns k) []).foldl layA ((runA ns k).ta (siteN ns k)) else (runA ns k).ta (siteN ns k)) (siteN ns k) (nameN ns k) (flagN ns k)) (· ∈ snN ns k) := rep_write P' T hnd hdn mem
    refine ⟨fun i => ?_, fun e he => ?_⟩
    · show RepN ns (k + 1) (if i = siteN ns k then _ else (runA ns k).ta i) (· ∈ (if i = siteN ns k then snN ns k else (runD ns k).kn i))
      split
      · exact W
      · exact rep_up (R i)
    · show RepN ns (k + 1) (((runA ns k).le ++ [_]).getD e []) _
      rw [List.getD_eq_getElem?_getD, List.getElem?_append, runA_len]
      by_cases h : e < k
      · rw [if_pos h, ← List.getD_eq_getElem?_getD]
        exact rep_up (Re e h)
      · have : e = k := by omega
        subst this
        rw [if_neg h, Nat.sub_self]
        exact W
theorem ok_of_rep {ns : List Nat} {n : Nat} {l : List Ab} {S : Nat → Prop} (h5 : n ≤ 5) (R : RepN ns n l S) : OkL l := by
  obtain ⟨es, R⟩ := R
  obtain ⟨P, _⟩ := past_run ns n
  have hlt : ∀ e ∈ es, e < n := fun e he => R.lt e (R.sub e he)
  have h1 : es.length ≤ (List.range 5).length := sub_len R.nd fun e he => List.mem_range.mpr (Nat.lt_of_lt_of_le (hlt e he) h5)
  rw [List.length_range] at h1
  refine ⟨by rw [R.eq, List.length_map]; omega, fun a ha => ?_⟩
  rw [R.eq] at ha
  obtain ⟨e, he, rfl⟩ := List.mem_map.mp ha
  have hl := hlt e he
  have h2 : (snN ns e).length ≤ (List.range 5).length := sub_len (P.nd e hl) fun x hx => List.mem_range.mpr (Nat.lt_of_le_of_lt (P.le e hl x hx) (Nat.lt_of_lt_of_le hl h5))
  rw [List.length_range] at h2
  have h3 := cnt_two (site := siteN ns) (l := snN ns e) fun x _ => P.two x
  have h4 : 0 < (snN ns e).length := List.length_pos_of_mem (P.self e hl)
  refine ⟨Nat.mod_lt _ (by decide), ?_, ?_, ?_, Nat.le_add_left _ _, Nat.succ_le_of_lt (Nat.mod_lt (ns.getD e 0 / 480) (by decide : 0 < 7))⟩
  · show cntS _ 0 (snN ns e) ≤ 5; omega
  · show fE _ _ e ≤ 5; unfold fE; omega
  · show 1 ≤ tE _ _ e + fE _ _ e; unfold fE tE; omega
theorem ok_run (ns : List Nat) : OkRun ns := by
  intro k hk
  obtain ⟨R, Re⟩ := run_rep ns k hk
  refine ⟨fun i => ok_of_rep hk (R i), fun l hl => ?_⟩
  obtain ⟨e, he, rfl⟩ := List.mem_iff_getElem.mp hl
  have := ok_of_rep hk (Re e (by rw [← runA_len ns k]; exact he))
  rw [List.getD_eq_getElem?_getD, List.getElem?_eq_getElem he] at this
  exact this
section
variable {prog : Program} {w : World} {p : Program} {loose : List Str} {mean : ExcName → Option Value} {mg mb : Str → Option Value}
theorem Con.use0n {f : Addr} {vs : List Value} {n : Nat} {H : Heap → Prop} {P : Heap → Heap → Value → Prop} (C : Con prog w p loose mean mg mb f vs n H [] P)
    {dp un : Nat} {gd : Option (List Code)} {cn : Str} {cs : Scope} {a : Addr} {ccd : Value} {cl : List (Str × Addr)} {outer : List Env} {A₀ : Around} {base h₀ : Heap} {L : Addr} {m : Str → Option Value} {s : Shared} {Q E : Value → Shared → Prop} {news : List (Addr × Obj)}
    (B : Below A₀ base outer h₀) (F : Fr h₀ L s.heap m) (X : (hd.heap_39 w.params).In h₀) (T : Top p loose mean mg mb h₀) (hk : cs.kind = .function) (hd : dp + n < recursionLimit) (hu : un + 8 * n < cLine) (hH : H s.heap) (N : News h₀ L s.heap news)
    (h : ∀ r h' tk', Fr h₀ L h' m → News h₀ L h' news → Kept [L] s.heap h' → (∀ b, s.heap.get? b = none → ∀ q ∈ news, q.1 ≠ b) → P s.heap h' r → Q r { s with heap := h', toks := tk' }) :
    wpAny (model prog w) (ktrTop dp un gd cn cs L a ccd cl outer) (call (.ref f) vs) Q E s :=
  C.use0 B F X T hk hd hu hH N fun r h' tk' F' N' k pp => h r h' tk' F' N' k (fun b hb q hq e => by
    have := (N q hq).1
    rw [e, hb] at this; cases this) pp
end
section
open PyProof.Rows.LCg
noncomputable def CcEnd (h₀ : Heap) (L : Addr) (m : Str → Option Value) (s₁ : Shared) (led : List (Addr × Obj)) (rest : Value → List (Addr × Obj) → Prop) (y : Value) (s₂ : Shared) : Prop :=
  ∃ h' tk news', s₂ = { s₁ with heap := h', toks := tk } ∧ Fr h₀ L h' m ∧ News h₀ L h' (led ++ news') ∧ (∀ p ∈ news', ∀ q ∈ led, p.1 ≠ q.1) ∧ rest y news'
theorem CcEnd.intro {h₀ : Heap} {L : Addr} {m : Str → Option Value} {s₁ : Shared} {led : List (Addr × Obj)} {rest : Value → List (Addr × Obj) → Prop} {y : Value} {h' : Heap} {tk : Nat} {all : List (Addr × Obj)}
    (F : Fr h₀ L h' m) (N : News h₀ L h' all) (news' : List (Addr × Obj)) (sub : ∀ p ∈ led ++ news', p ∈ all) (off : ∀ p ∈ news', ∀ q ∈ led, p.1 ≠ q.1) (r : rest y news') :
    CcEnd h₀ L m s₁ led rest y { s₁ with heap := h', toks := tk } := ⟨h', tk, news', rfl, F, fun p hp => N p (sub p hp), off, r⟩
end
noncomputable def thirdA (ns : List Nat) : Nat → List Ab
  | 0 => []
  | j + 1 => ((runA ns 5).le.getD (ns.getD 5 0 / 5 ^ j % 5) []).foldl layA (thirdA ns j)
section
variable {prog : Program} {w : World} {p : Program} {loose : List Str} {mean : ExcName → Option Value} {mg mb : Str → Option Value}
noncomputable def lstObj (vs : List Value) (e : Nat) : Obj := { cls := .type "list", data := .seq vs.toArray e }
structure S1 (t : Nat) where
  i : Nat
  k : Nat
  K : Addr
  e : Nat
  c : Tok
  ch : Option Value
  tk : Str → Tok
  h : i + k = t
structure S2 (t : Nat) where
  j : Nat
  k : Nat
  ch : Option Value
  tk : Str → Tok
  h : j + k = t
structure ShowZ where
  D : Addr
  S1 : Addr
  S2 : Addr
  v1 : List Value
  v2 : List Value
  s1 : List Str
  s2 : List Str
  e0 : Nat
  e1 : Nat
  e2 : Nat
  n : Nat
  t : Tok
noncomputable def showLed (z : ShowZ) : List (Addr × Obj) := [(z.D, lstObj [.ref z.S1, .ref z.S2, .int (z.n : Int) z.t] z.e0), (z.S1, lstObj z.v1 z.e1), (z.S2, lstObj z.v2 z.e2)]
noncomputable def txtL (t f : Nat) (r : List Nat) : List Nat := List.replicate t 9 ++ (List.replicate (4 * f) 32 ++ r)
noncomputable def codes : Nat → List Nat
  | 1 => [79, 80, 84, 73, 77, 73, 90, 69, 68]
  | 2 => [78, 69, 87, 76, 79, 67, 65, 76, 83]
  | 3 => [79, 80, 84, 73, 77, 73, 90, 69, 68, 44, 32, 78, 69, 87, 76, 79, 67, 65, 76, 83]
  | 4 => [86, 65, 82, 65, 82, 71, 83]
  | 5 => [79, 80, 84, 73, 77, 73, 90, 69, 68, 44, 32, 86, 65, 82, 65, 82, 71, 83]
  | 6 => [78, 69, 87, 76, 79, 67, 65, 76, 83, 44, 32, 86, 65, 82, 65, 82, 71, 83]
  | _ => [79, 80, 84, 73, 77, 73, 90, 69, 68, 44, 32, 78, 69, 87, 76, 79, 67, 65, 76, 83, 44, 32, 86, 65, 82, 65, 82, 71, 83]
noncomputable def txt (t f fl : Nat) : Str := ⟨(txtL t f (codes fl)).toArray⟩
noncomputable def textsA (l : List Ab) (c : Nat) : List Str := (l.filter fun a => a.1 == c).map fun a => txt a.2.1 a.2.2.1 a.2.2.2
noncomputable def Shows (z : ShowZ) (l : List Ab) : Prop := StrsAre z.v1 z.s1 ∧ StrsAre z.v2 z.s2 ∧ z.s1.Perm (textsA l 0) ∧ z.s2.Perm (textsA l 1) ∧ sortedS z.s1 = true ∧ sortedS z.s2 = true ∧ z.n = l.length
noncomputable def ZAll : List ShowZ → List (List Ab) → Prop
  | [], [] => True
  | z :: zs, l :: ls => Shows z l ∧ ZAll zs ls
  | _, _ => False
noncomputable def Tells (s h' : Heap) (r : Value) (ls : List (List Ab)) : Prop := ∃ (zs : List ShowZ) (D : Addr) (e : Nat), r = .ref D ∧ NewIn s h' ((D, lstObj (zs.map fun z => .ref z.D) e) :: zs.flatMap showLed) ∧ ZAll zs ls
end
noncomputable def standD (ns : List Nat) (known : List Nat) : List Nat := known.filter fun e => (known.filter fun f => (f != e && nameN ns f == nameN ns e) && (snN ns f).contains e) == []
noncomputable def abN (ns : List Nat) : Nat → Ab := abE (siteN ns) (snN ns) (nameN ns) (flagN ns)
noncomputable def dueL (ns : List Nat) (k : Nat) : List (List Ab) := (List.range k).map fun e => (standD ns (snN ns e)).map (abN ns)
noncomputable def endN (ns : List Nat) (j : Nat) : Nat := ns.getD 5 0 / 5 ^ j % 5
noncomputable def lastD (ns : List Nat) (es : List (List Nat)) : List Nat := (List.range 5).filter fun e => !((es.filter fun row => row.contains e) == [])
noncomputable def dueE (ns : List Nat) : List Ab := (standD ns (lastD ns [snN ns (endN ns 0), snN ns (endN ns 1), snN ns (endN ns 2)])).map (abN ns)
noncomputable def dataZ (z : ShowZ) : PyData := .list [.list (z.s1.map .str), .list (z.s2.map .str), .int (z.n : Int)]
theorem reads_strs {h : Heap} : ∀ {vs : List Value} {ss : List Str}, StrsAre vs ss → ReadsAll h vs (ss.map PyData.str) []
  | _, _, .nil => .nil
  | _, _, .cons y t r => ReadsAll.cons (as := []) (bs := []) (Reads.str y t) (reads_strs r)
theorem reads_show {h : Heap} {z : ShowZ} {l : List Ab} (hz : Shows z l) (hh : ∀ q ∈ showLed z, h.get? q.1 = some q.2) : ∃ as, Reads h (.ref z.D) (dataZ z) as := by
  obtain ⟨a1, a2, _⟩ := hz
  have r1 : Reads h (.ref z.S1) (.list (z.s1.map .str)) _ := Reads.list (hh _ (.tail _ (.head _))) rfl rfl (by simpa using reads_strs a1)
  have r2 : Reads h (.ref z.S2) (.list (z.s2.map .str)) _ := Reads.list (hh _ (.tail _ (.tail _ (.head _)))) rfl rfl (by simpa using reads_strs a2)
  exact ⟨_, Reads.list (hh _ (.head _)) rfl rfl (.cons r1 (.cons r2 (.cons (.int _ _) .nil)))⟩
theorem reads_all : ∀ {h : Heap} {zs : List ShowZ} {ls : List (List Ab)}, ZAll zs ls → (∀ q ∈ zs.flatMap showLed, h.get? q.1 = some q.2) → ∃ as, ReadsAll h (zs.map fun z => Value.ref z.D) (zs.map dataZ) as
  | _, [], [], _, _ => ⟨_, .nil⟩
  | _, z :: zs, l :: ls, ⟨h1, h2⟩, hh => by
    obtain ⟨as, ih⟩ := reads_all h2 fun q hq => hh q (by rw [List.flatMap_cons]; exact List.mem_append_right _ hq)
    obtain ⟨bs, i1⟩ := reads_show h1 fun q hq => hh q (by rw [List.flatMap_cons]; exact List.mem_append_left _ hq)
    exact ⟨_, .cons i1 ih⟩
theorem tells_reads {s h' h : Heap} {r : Value} {ls : List (List Ab)} (T : Tells s h' r ls) (K : ∀ b o, h'.get? b = some o → s.get? b = none → h.get? b = some o) : ∃ zs as, Reads h r (.list (zs.map dataZ)) as ∧ ZAll zs ls := by
  obtain ⟨zs, D, e, rfl, hn, hz⟩ := T
  have hk : ∀ q ∈ (D, lstObj (zs.map fun z => .ref z.D) e) :: zs.flatMap showLed, h.get? q.1 = some q.2 := fun q hq => K _ _ (hn q hq).2 (hn q hq).1
  obtain ⟨as, hr⟩ := reads_all hz fun q hq => hk q (.tail _ hq)
  exact ⟨zs, _, Reads.list (hk _ (.head _)) rfl rfl (by simpa using hr), hz⟩
theorem lt_str {a b : Str} : ltCps a.cps.toList b.cps.toList = decide (a.cps.toList < b.cps.toList) := ltCps_eq _ _
theorem rising_all : ∀ {p : Str} {l : List Str}, risingS p l = true → ∀ x ∈ l, ¬ x.cps.toList < p.cps.toList
  | p, [], _, _, h => nomatch h
  | p, y :: l, hr, x, hx => by
    have hr' : (!ltCps y.cps.toList p.cps.toList && risingS y l) = true := hr
    rw [Bool.and_eq_true, lt_str] at hr'
    have h1 : ¬ y.cps.toList < p.cps.toList := by simpa using hr'.1
    rcases List.mem_cons.mp hx with rfl | hx
    · exact h1
    · have h2 := rising_all hr'.2 x hx
      exact fun h => List.le_trans (List.not_lt.mp h1) (List.not_lt.mp h2) h
theorem sorted_uniq : ∀ {a b : List Str}, sortedS a = true → sortedS b = true → a.Perm b → a = b
  | [], b, _, _, h => h.nil_eq
  | x :: a, [], _, _, h => absurd h.length_eq (by simp)
  | x :: a, y :: b, ha, hb, h => by
    have hxy : x = y := by
      rcases List.mem_cons.mp (h.mem_iff.mp (.head _)) with q | q
      · exact q
      · rcases List.mem_cons.mp (h.mem_iff.mpr (List.mem_cons_self (a := y) (l := b))) with q' | q'
        · exact q'.symm
        · have h1 := rising_all ha y q'
          have h2 := rising_all hb x q
          have h3 : x.cps.toList = y.cps.toList := List.le_antisymm (List.not_lt.mp h1) (List.not_lt.mp h2)
          cases x; cases y
          simpa using h3
    subst hxy
    have ha' : sortedS a = true := by
      cases a with
      | nil => rfl
      | cons z a => exact (Bool.and_eq_true_iff.mp (show (!ltCps z.cps.toList x.cps.toList && risingS z a) = true from ha)).2
    have hb' : sortedS b = true := by
      cases b with
      | nil => rfl
      | cons z b => exact (Bool.and_eq_true_iff.mp (show (!ltCps z.cps.toList x.cps.toList && risingS z b) = true from hb)).2
    rw [sorted_uniq ha' hb' h.cons_inv]
theorem show_eq {z y : ShowZ} {l l' : List Ab} (hz : Shows z l) (hy : Shows y l') (h : l.Perm l') : dataZ z = dataZ y := by
  obtain ⟨_, _, a1, a2, a3, a4, a5⟩ := hz
  obtain ⟨_, _, b1, b2, b3, b4, b5⟩ := hy
  have ht : ∀ c, (textsA l c).Perm (textsA l' c) := fun c => (h.filter _).map _
  have e1 : z.s1 = y.s1 := sorted_uniq a3 b3 (a1.trans ((ht 0).trans b1.symm))
  have e2 : z.s2 = y.s2 := sorted_uniq a4 b4 (a2.trans ((ht 1).trans b2.symm))
  have e3 : z.n = y.n := by rw [a5, b5]; exact h.length_eq
  unfold dataZ
  rw [e1, e2, e3]
noncomputable def PAll : List (List Ab) → List (List Ab) → Prop
  | [], [] => True
  | a :: as, b :: bs => a.Perm b ∧ PAll as bs
  | _, _ => False
theorem zall_eq : ∀ {ls ls' : List (List Ab)} {zs ys : List ShowZ}, ZAll zs ls → ZAll ys ls' → PAll ls ls' → zs.map dataZ = ys.map dataZ
  | [], [], [], [], _, _, _ => rfl
  | l :: ls, l' :: ls', z :: zs, y :: ys, ⟨h1, h2⟩, ⟨k1, k2⟩, ⟨p1, p2⟩ => by
    rw [List.map_cons, List.map_cons, show_eq h1 k1 p1, zall_eq h2 k2 p2]
theorem rep_stand {ns : List Nat} {n : Nat} {l : List Ab} {K : List Nat} (hn : K.Nodup) (h5 : n ≤ 5) (R : RepN ns n l (· ∈ K)) : l.Perm ((standD ns K).map (abE (siteN ns) (snN ns) (nameN ns) (flagN ns))) := by
  obtain ⟨es, R⟩ := R
  obtain ⟨P, _⟩ := past_run ns n
  rw [R.eq]
  refine List.Perm.map _ ((List.perm_ext_iff_of_nodup R.nd (hn.filter _)).mpr fun e => ?_)
  rw [List.mem_filter, beq_iff_eq, List.filter_eq_nil_iff]
  constructor
  · intro he
    refine ⟨R.sub e he, fun f hf q => ?_⟩
    simp only [Bool.and_eq_true, bne_iff_ne, beq_iff_eq, List.contains_iff_mem] at q
    obtain ⟨⟨q1, q2⟩, q3⟩ := q
    obtain ⟨g, hg, hgn, hgm⟩ := R.up f hf
    have hgl := R.lt g (R.sub g hg)
    have e1 : e = g := R.anti e he g hg (q2.symm.trans hgn.symm) (P.tr g hgl f hgm e q3)
    subst e1
    exact q1 (Nat.le_antisymm (P.le e hgl f hgm) (P.le f (R.lt f hf) e q3))
  · intro ⟨he, hno⟩
    obtain ⟨g, hg, hgn, hgm⟩ := R.up e he
    have := hno g (R.sub g hg)
    simp only [Bool.and_eq_true, bne_iff_ne, beq_iff_eq, List.contains_iff_mem] at this
    by_cases q : g = e
    · exact q ▸ hg
    · exact absurd ⟨⟨q, hgn⟩, hgm⟩ this
theorem run_stand (ns : List Nat) {k e : Nat} (hk : k ≤ 5) (he : e < k) : ((runA ns k).le.getD e []).Perm ((standD ns (snN ns e)).map (abE (siteN ns) (snN ns) (nameN ns) (flagN ns))) :=
  rep_stand ((past_run ns k).1.nd e he) hk ((run_rep ns k hk).2 e he)
theorem third_rep (ns : List Nat) : ∀ j, RepN ns 5 (thirdA ns j) (fun e => ∃ i, i < j ∧ e ∈ snN ns (endN ns i))
  | 0 => ⟨[], rfl, .nil, fun _ ⟨_, h, _⟩ => (nomatch h), fun _ h => (nomatch h), fun _ ⟨_, h, _⟩ => (nomatch h), fun _ h => (nomatch h)⟩
  | j + 1 => by
    obtain ⟨es, R⟩ := third_rep ns j
    have hl : endN ns j < 5 := Nat.mod_lt _ (by decide)
    obtain ⟨es', R'⟩ := (run_rep ns 5 (Nat.le_refl _)).2 (endN ns j) hl
    have J : RepN ns 5 _ _ := rep_join (past_run ns 5).1 (Nat.le_refl _) R R'
    refine rep_ext J fun e => ⟨fun h => ?_, fun ⟨i, hi, h⟩ => ?_⟩
    · rcases h with ⟨i, hi, h⟩ | h
      · exact ⟨i, Nat.lt_succ_of_lt hi, h⟩
      · exact ⟨j, Nat.lt_succ_self _, h⟩
    · rcases Nat.lt_or_eq_of_le (Nat.le_of_lt_succ hi) with hi | rfl
      · exact .inl ⟨i, hi, h⟩
      · exact .inr h
theorem third_stand (ns : List Nat) : (thirdA ns 3).Perm ((standD ns (lastD ns [snN ns (endN ns 0), snN ns (endN ns 1), snN ns (endN ns 2)])).map (abE (siteN ns) (snN ns) (nameN ns) (flagN ns))) := by
  have T := third_rep ns 3
  have lt : ∀ e, (∃ i, i < 3 ∧ e ∈ snN ns (endN ns i)) → e < 5 := by obtain ⟨es, R⟩ := T; exact R.lt
  refine rep_stand (List.nodup_range.filter _) (Nat.le_refl _) (rep_ext T fun e => ?_)
  unfold lastD
  rw [List.mem_filter, List.mem_range]
  constructor
  · intro h
    refine ⟨lt e h, ?_⟩
    obtain ⟨i, hi, h⟩ := h
    rw [Bool.not_eq_true', beq_eq_false_iff_ne]
    intro q
    rw [List.filter_eq_nil_iff] at q
    refine q (snN ns (endN ns i)) ?_ (List.contains_iff_mem.mpr h)
    match i, hi with
    | 0, _ => simp
    | 1, _ => simp
    | 2, _ => simp
  · intro ⟨_, h⟩
    rw [Bool.not_eq_true', beq_eq_false_iff_ne] at h
    refine Classical.byContradiction fun hn => h (List.filter_eq_nil_iff.mpr fun r hr hc => hn ?_)
    have hc := List.contains_iff_mem.mp hc
    simp only [List.mem_cons, List.not_mem_nil, or_false] at hr
    rcases hr with rfl | rfl | rfl
    · exact ⟨0, by decide, hc⟩
    · exact ⟨1, by decide, hc⟩
    · exact ⟨2, by decide, hc⟩
theorem pall_snoc : ∀ {as bs : List (List Ab)} {a b : List Ab}, PAll as bs → a.Perm b → PAll (as ++ [a]) (bs ++ [b])
  | [], [], _, _, _, h => ⟨h, True.intro⟩
  | _ :: _, _ :: _, _, _, ⟨h1, h2⟩, h => ⟨h1, pall_snoc h2 h⟩
theorem run_due (ns : List Nat) : PAll ((runA ns 5).le ++ [thirdA ns 3]) (dueL ns 5 ++ [dueE ns]) := by
  refine pall_snoc ?_ (third_stand ns)
  have hl := runA_len ns 5
  have hp : ∀ e, e < 5 → ((runA ns 5).le.getD e []).Perm ((standD ns (snN ns e)).map (abN ns)) := fun e he => run_stand ns (Nat.le_refl _) he
  generalize (runA ns 5).le = l at hl hp
  match l, hl, hp with
  | [a, b, c, d, e], _, hp => exact ⟨hp 0 (by decide), hp 1 (by decide), hp 2 (by decide), hp 3 (by decide), hp 4 (by decide), True.intro⟩
section
variable {prog : Program} {w : World} {p : Program} {loose : List Str} {mean : ExcName → Option Value} {mg mb : Str → Option Value}
theorem txtL_ascii {t f : Nat} {r : List Nat} (h : r.all (· < 128) = true) : (⟨(txtL t f r).toArray⟩ : Str).cps.all (· < 128) = true := by
  simp only [txtL, List.all_toArray, List.all_append, h, Bool.and_true, Bool.and_eq_true, List.all_eq_true, List.mem_replicate, decide_eq_true_eq]
  exact ⟨fun x hx => by omega, fun x hx => by omega⟩
end
theorem strOk_txt (t f fl : Nat) : PyData.strOk (txt t f fl) = true := by
  have h : (codes fl).all (· < 128) = true := by unfold codes; split <;> decide
  have h1 := txtL_ascii (t := t) (f := f) h
  unfold PyData.strOk
  rw [Array.all_eq_true] at h1 ⊢
  intro i hi
  have := h1 i hi
  simp only [decide_eq_true_eq] at this ⊢
  exact Nat.lt_trans this (by decide)
theorem lay_strs : ∀ {ss : List Str}, (∀ x ∈ ss, PyData.strOk x = true) → PyData.canLayAll0 (ss.map PyData.str) = true ∧ PyData.depthAll (ss.map PyData.str) = 0
  | [], _ => ⟨by simp [PyData.canLayAll0], by simp [PyData.depthAll]⟩
  | x :: ss, h => by
    obtain ⟨a, b⟩ := lay_strs fun y hy => h y (.tail _ hy)
    refine ⟨?_, ?_⟩
    · simp only [List.map_cons, PyData.canLayAll0, PyData.canLay0, h x (.head _), a, Bool.and_true]
    · simp only [List.map_cons, PyData.depthAll, PyData.depth, b]; rfl
theorem lay_show {z : ShowZ} {l : List Ab} (hz : Shows z l) : PyData.canLay0 (dataZ z) = true ∧ PyData.depth (dataZ z) ≤ 2 := by
  obtain ⟨_, _, a1, a2, _⟩ := hz
  have ok : ∀ {c : Nat} {ss : List Str}, ss.Perm (textsA l c) → ∀ x ∈ ss, PyData.strOk x = true := fun hp x hx => by
    obtain ⟨a, _, rfl⟩ := List.mem_map.mp (hp.mem_iff.mp hx)
    exact strOk_txt _ _ _
  obtain ⟨b1, c1⟩ := lay_strs (ok a1)
  obtain ⟨b2, c2⟩ := lay_strs (ok a2)
  unfold dataZ
  refine ⟨?_, ?_⟩
  · simp only [PyData.canLay0, PyData.canLayAll0, b1, b2, Bool.and_true]
  · simp only [PyData.depth, PyData.depthAll, c1, c2]; decide
theorem lay_all : ∀ {zs : List ShowZ} {ls : List (List Ab)}, ZAll zs ls → PyData.canLayAll0 (zs.map dataZ) = true ∧ PyData.depthAll (zs.map dataZ) ≤ 2
  | [], [], _ => ⟨by simp [PyData.canLayAll0], by simp [PyData.depthAll]⟩
  | z :: zs, l :: ls, ⟨h1, h2⟩ => by
    obtain ⟨a, b⟩ := lay_all h2
    obtain ⟨c, d⟩ := lay_show h1
    refine ⟨?_, ?_⟩
    · simp only [List.map_cons, PyData.canLayAll0, a, c, Bool.and_true]
    · simp only [List.map_cons, PyData.depthAll]; omega
theorem shaped_zs {zs : List ShowZ} {ls : List (List Ab)} (h : ZAll zs ls) : PySem.SeqAt.shaped (.list (zs.map dataZ)) = true := by
  obtain ⟨a, b⟩ := lay_all h
  show (PyData.canLay0 _ && decide (PyData.depth _ ≤ 64)) = true
  rw [Bool.and_eq_true]
  refine ⟨by simp only [PyData.canLay0]; exact a, decide_eq_true ?_⟩
  simp only [PyData.depth]
  omega
theorem law_eq {prog : Program} {w : World} {A : Around} {E : Value → Shared → Prop} {s : Shared} {s1 h1 s2 h2 : Heap} {r1 r2 : Value} {ns : List Nat} {Q : Value → Shared → Prop}
    (T1 : Tells s1 h1 r1 ((runA ns 5).le ++ [thirdA ns 3])) (T2 : Tells s2 h2 r2 (dueL ns 5 ++ [dueE ns]))
    (K1 : ∀ b o, h1.get? b = some o → s1.get? b = none → s.heap.get? b = some o) (K2 : ∀ b o, h2.get? b = some o → s2.get? b = none → s.heap.get? b = some o)
    (hu : A.units + 64 < cLine) (h : Q (.bool true) s) : wpAny (model prog w) A (compareOp .Eq r1 r2) Q E s := by
  obtain ⟨zs, as, R1, Z1⟩ := tells_reads T1 K1
  obtain ⟨ys, bs, R2, Z2⟩ := tells_reads T2 K2
  rw [zall_eq Z1 Z2 (run_due ns)] at R1
  have hsh := shaped_zs Z2
  exact PyProof.Rows.eq_dataH R1 R2 hsh hsh hu (by rw [PySem.SeqAt.eqv_refl _ (PySem.SeqAt.canLay_of_shaped hsh)]; exact h)
noncomputable abbrev Nw := List (Addr × Obj)
structure Cg where
  prog : Program
  w : World
  p : Program
  loose : List Str
  mean : ExcName → Option Value
  mg : Str → Option Value
  mb : Str → Option Value
  dp : Nat
  un : Nat
  gd : Option (List Code)
  cn : Str
  L : Addr
  a : Addr
  ccd : Value
  outer : List Env
  A₀ : Around
  base : Heap
  h₀ : Heap
  sc : Scope
  cl : List (Str × Addr)
  ex : Nw
noncomputable abbrev Mp := Str → Option Value
structure Sg where
  m : Mp
  o : Nw
  t : Nw
  b : Nat
noncomputable def loc (cl : List (Str × Addr)) (m : Mp) : Mp := fun x => if (cl.lookup x).isSome then none else m x
noncomputable def Apart (a T : Nw) : Prop := a.Pairwise (fun p q => q.1 ≠ p.1) ∧ ∀ p ∈ a, ∀ q ∈ T, q.1 ≠ p.1
structure St' (c : Cg) (g : Sg) (H cs : Nw) (h : Heap) (tk : Nat) : Prop where
  F : Fr c.h₀ c.L h (loc c.cl g.m)
  Y : CellsAre g.m c.cl cs
  N : News c.h₀ c.L h (cs ++ (H ++ g.o) ++ (g.t ++ c.ex))
  P : Apart (cs ++ (H ++ g.o)) (g.t ++ c.ex)
  b : g.b ≤ tk
noncomputable def St (c : Cg) (g : Sg) (H : Nw) (h : Heap) (tk : Nat) : Prop := ∃ cs, St' c g H cs h tk
section
variable {c : Cg} {g g' : Sg} {H : Nw} {h h' : Heap} {tk tk' : Nat}
theorem St.mem (S : St c g H h tk) {q : Addr × Obj} (hq : q ∈ g.o ++ (g.t ++ c.ex)) : h.get? q.1 = some q.2 ∧ q.1 ≠ c.L ∧ c.h₀.get? q.1 = none :=
  S.elim fun _ x => x.N q ((List.mem_append.mp hq).elim (fun h => List.mem_append_left _ (List.mem_append_right _ (List.mem_append_right _ h))) fun h => List.mem_append_right _ h)
theorem St.news (S : St c g H h tk) : News c.h₀ c.L h (g.o ++ (g.t ++ c.ex)) := fun _ hq => S.mem hq
end
theorem Kept.refl (h : Heap) : Kept [] h h := fun _ _ _ e => e
section
variable {prog : Program} {w : World} {p : Program} {loose : List Str} {mean : ExcName → Option Value} {mg mb : Str → Option Value}
noncomputable def wordsS (fl : Nat) : Str := ⟨(codes fl).toArray⟩
theorem wordsS_len (fl : Nat) : (wordsS fl).length ≤ 32 := by
  unfold wordsS codes; split <;> decide
theorem fold_app (l : List (Array Nat)) : ∀ acc : Array Nat, (l.foldl (· ++ ·) acc).toList = acc.toList ++ (l.map Array.toList).flatten := by
  induction l with
  | nil => intro acc; simp
  | cons x r ih => intro acc; rw [List.foldl_cons, ih]; simp
theorem mul_rep (k c n : Nat) : (Txt.mul ⟨(List.replicate k c).toArray⟩ (n : Int)).cps.toList = List.replicate (n * k) c := by
  unfold Txt.mul
  split
  · rename_i h
    have : n = 0 := by omega
    subst this
    simp [Str.empty]
  · split
    · rename_i h1 h2
      simp only [Bool.or_eq_true, beq_iff_eq] at h2
      rcases h2 with h2 | h2
      · have : n = 1 := by omega
        subst this
        simp
      · have : k = 0 := by simpa [Str.length] using h2
        subst this
        simp
    · rw [fold_app]
      simp [List.map_replicate, List.flatten_replicate_replicate]
theorem txt_val (t f fl : Nat) : Txt.mul (Str.ofString "\t") (t : Int) ++ Txt.mul (Str.ofString "    ") (f : Int) ++ wordsS fl = (⟨(txtL t f (codes fl)).toArray⟩ : Str) := by
  have e1 : Str.ofString "\t" = ⟨(List.replicate 1 9).toArray⟩ := by decide +kernel
  have e2 : Str.ofString "    " = ⟨(List.replicate 4 32).toArray⟩ := by decide +kernel
  have h1 := mul_rep 1 9 t
  have h2 := mul_rep 4 32 f
  rw [← e1] at h1
  rw [← e2] at h2
  refine Str.ext' ?_
  rw [Str.cps_append, Str.cps_append]
  apply Array.ext'
  rw [Array.toList_append, Array.toList_append, h1, h2]
  simp only [wordsS, txtL, Nat.mul_one, Nat.mul_comm f 4, List.append_assoc]
noncomputable def nmS (n : Nat) : Str :=
  match n % 4 with
  | 0 => "k"
  | 1 => "m"
  | 2 => "K"
  | _ => "M"
structure Row where
  a : Addr
  nm : Nat
  t : Nat
  f : Nat
  fl : Nat
  k1 : Tok
  k2 : Tok
  n : Nat
noncomputable def Row.obj (r : Row) : Addr × Obj := (r.a, { cls := .type "tuple", data := .seq #[.str (nmS r.nm) r.k1, .str (txt r.t r.f r.fl) r.k2] r.n })
end
theorem intsAt {vs : List Value} {ns : List Int} {i : Nat} {x : Int} (h : IntsAre vs ns) (e : ns[i]? = some x) : ∃ t, vs[i]? = some (.int x t) := by
  induction h generalizing i with
  | nil => simp at e
  | cons n t _ ih =>
    cases i with
    | zero => simp at e; subst e; exact ⟨t, rfl⟩
    | succ i => simp at e; simpa using ih e
structure LetZ where
  O : Addr
  vs : List Value
  e : Nat
  us : List Ab
noncomputable def LetZ.obj (l : LetZ) : Addr × Obj := (l.O, lstObj l.vs l.e)
section
variable {prog : Program} {w : World} {p : Program} {loose : List Str} {mean : ExcName → Option Value} {mg mb : Str → Option Value}
theorem ZAll.snoc : ∀ {zs : List ShowZ} {ls : List (List Ab)} {z : ShowZ} {l : List Ab}, ZAll zs ls → Shows z l → ZAll (zs ++ [z]) (ls ++ [l])
  | [], [], _, _, _, h => ⟨h, True.intro⟩
  | _ :: _, _ :: _, _, _, ⟨h1, h2⟩, h => ⟨h1, h2.snoc h⟩
theorem ZAll.len : ∀ {zs : List ShowZ} {ls : List (List Ab)}, ZAll zs ls → zs.length = ls.length
  | [], [], _ => rfl
  | _ :: _, _ :: _, ⟨_, h⟩ => congrArg (· + 1) h.len
theorem e_early (x k : Nat) : (((x : Int).fdiv 2).fmod 60).fmod ((k : Int) + 1) = ((x / 2 % 60 % (k + 1) : Nat) : Int) := by
  rw [Int.fmod_eq_emod_of_nonneg _ (b := (k : Int) + 1) (by omega), Int.fdiv_eq_ediv_of_nonneg _ (by decide), Int.fmod_eq_emod_of_nonneg _ (by decide)]
  norm_cast
theorem e_end (x P : Nat) {y : Int} (hy : y = (P : Int)) : ((x : Int).fdiv y).fmod 5 = ((x / P % 5 : Nat) : Int) := by
  subst hy
  rw [Int.fdiv_eq_ediv_of_nonneg _ (Int.natCast_nonneg P), Int.fmod_eq_emod_of_nonneg _ (by decide)]
  norm_cast
theorem e_mod2 (x : Nat) : (x : Int).fmod 2 = ((x % 2 : Nat) : Int) := by rw [Int.fmod_eq_emod_of_nonneg _ (by decide)]; norm_cast
theorem e_name (x : Nat) : ((x : Int).fdiv 120).fmod 4 = ((x / 120 % 4 : Nat) : Int) := by
  rw [Int.fdiv_eq_ediv_of_nonneg _ (by decide), Int.fmod_eq_emod_of_nonneg _ (by decide)]; norm_cast
theorem e_flag (x : Nat) : ((x : Int).fdiv 480).fmod 7 + 1 = ((x / 480 % 7 + 1 : Nat) : Int) := by
  rw [Int.fdiv_eq_ediv_of_nonneg _ (by decide), Int.fmod_eq_emod_of_nonneg _ (by decide)]; norm_cast
end
structure KnZ where
  a : Addr
  vs : List Value
  n : Nat
  ns : List Nat
noncomputable def KnZ.obj (z : KnZ) : Addr × Obj := (z.a, lstObj z.vs z.n)
noncomputable def KnZ.ok (z : KnZ) : Prop := IntsAre z.vs (z.ns.map fun x => ((x : Nat) : Int))
noncomputable abbrev Kt (α : Type) := α → Sg → Prop
noncomputable def ar (c : Cg) : Around := ktrTop c.dp c.un c.gd c.cn c.sc c.L c.a c.ccd c.cl c.outer
structure Ck (c : Cg) : Prop where
  B : Below c.A₀ c.base c.outer c.h₀
  X : (hd.heap_39 c.w.params).In c.h₀
  T : Top c.p c.loose c.mean c.mg c.mb c.h₀
  hk : c.sc.kind = .function
  nd : (c.cl.map (·.1)).Nodup
noncomputable abbrev NoE (_ : Value) (_ : Shared) : Prop := False
structure Wp {α : Type} (c : Cg) (t : Sem α) (g : Sg) (k : Kt α) : Prop where
  run : Ck c → ∀ (H : Nw) (s : Shared) (Q : α → Shared → Prop), St c g H s.heap s.toks →
    (∀ v h' tk' g', St c g' H h' tk' → k v g' → Q v { s with heap := h', toks := tk' }) → wpAny (model c.prog c.w) (ar c) t Q NoE s
structure Vr where
  e : PySem.Expr → Sg → Kt Value → Prop
  t : PySem.Expr → Sg → Kt Bool → Prop
  a : List PySem.Expr → Sg → Kt (List Value) → Prop
  s : List Stmt → Sg → Kt Flow → Prop
noncomputable def vCmp (c : Cg) (op : CmpOp) (a b : Value) (g : Sg) (k : Kt Value) : Prop :=
  match a, b with
  | .int x t, .int y u => match op with
    | .Lt => k (.bool (decide (x < y))) g
    | .LtE => k (.bool (decide (x ≤ y))) g
    | .GtE => k (.bool (decide (y ≤ x))) g
    | .Eq => k (.bool (x == y)) g
    | .NotEq => k (.bool (!(x == y))) g
    | op => Wp c (compareOp op (.int x t) (.int y u)) g k
  | .str x t, .str y u => match op with
    | .Eq => k (.bool (x == y)) g
    | op => Wp c (compareOp op (.str x t) (.str y u)) g k
  | a, b => Wp c (compareOp op a b) g k
noncomputable def vTru (c : Cg) (v : Value) (g : Sg) (k : Kt Bool) : Prop :=
  match v with
  | .bool b => k b g
  | .int a _ => k (a != 0) g
  | v => Wp c (truthy v) g k
section
variable (c : Cg) (env : Env) (nam : Str → Pos → Sg → Kt Value → Prop) (sto : Str → Value → Sg → Kt Unit → Prop) (r : Vr)
noncomputable def vBool (op : BoolOp) (es : List PySem.Expr) (pos : Pos) (g : Sg) (k : Kt Bool) : Prop :=
  match op, es with
  | .Or, x :: rest => r.t x g fun b g => bif b then k true g else r.t (.BoolOp .Or rest pos) g k
  | .Or, [] => k false g
  | .And, x :: rest => r.t x g fun b g => bif b then r.t (.BoolOp .And rest pos) g k else k false g
  | .And, [] => k true g
noncomputable def vT (e : PySem.Expr) (g : Sg) (k : Kt Bool) : Prop :=
  match e with
  | .UnaryOp .Not x _ => r.t x g fun b g => k (!b) g
  | .BoolOp op es pos => vBool r op es pos g k
  | .IfExp a b d pos => Wp c (PySem.isTrue (.IfExp a b d pos) env (eval (.IfExp a b d pos) env)) g k
  | .Compare a [op] [b] pos => bif behindInMarks op b then Wp c (PySem.isTrue (.Compare a [op] [b] pos) env (eval (.Compare a [op] [b] pos) env)) g k else r.e a g fun x g => r.e b g fun y g => vCmp c op x y g fun v g => vTru c v g k
  | .Compare a ops bs pos => Wp c (PySem.isTrue (.Compare a ops bs pos) env (eval (.Compare a ops bs pos) env)) g k
  | e => r.e e g fun v g => vTru c v g k
end
structure StZ where
  kn : KnZ
  SE : Addr
  sz : List KnZ
  eS : Nat
  NA : Addr
  vN : List Value
  eN : Nat
  TX : Addr
  vT : List Value
  eT : Nat
structure StOk (Z : StZ) (nmf : Nat → Nat) (snf : Nat → List Nat) (ab : Nat → Ab) (M : Nat) : Prop where
  kn : Z.kn.ok
  ls : Z.kn.ns.length ≤ 10
  lt : ∀ e ∈ Z.kn.ns, e < M
  m10 : M ≤ 10
  se : ∀ e, e < M → ∃ z, Z.sz[e]? = some z ∧ z.ok ∧ z.ns = snf e ∧ z.ns.length ≤ 10
  na : ∀ e, e < M → ∃ t, Z.vN[e]? = some (.str (nmS (nmf e)) t)
  nm2 : ∀ e, nmf e < 2
  tx : ∀ e, e < M → ∃ t, Z.vT[e]? = some (.str (txt (ab e).2.1 (ab e).2.2.1 (ab e).2.2.2) t)
  ab : ∀ e, (ab e).1 = nmf e
noncomputable def laterF (nmf : Nat → Nat) (snf : Nat → List Nat) (known : List Nat) (e : Nat) : List Nat := known.filter fun f => (f != e && nmf f == nmf e) && (snf f).contains e
noncomputable def standF (nmf : Nat → Nat) (snf : Nat → List Nat) (known : List Nat) : List Nat := known.filter fun e => laterF nmf snf known e == []
section
variable {prog : Program} {w : World} {p : Program} {loose : List Str} {mean : ExcName → Option Value} {mg mb : Str → Option Value}
theorem filter_snoc {α : Type} (p : α → Bool) (l : List α) (x : α) : (l ++ [x]).filter p = if p x = true then l.filter p ++ [x] else l.filter p := by
  rw [List.filter_append]
  cases hp : p x <;> simp [hp]
theorem strs_of {α : Type} (f : α → Value) (g : α → Str) : ∀ (rows : List α), (∀ r ∈ rows, ∃ t, f r = .str (g r) t) → StrsAre (rows.map f) (rows.map g)
  | [], _ => .nil
  | r :: rows, h => by
    obtain ⟨t, e⟩ := h r (.head _)
    rw [List.map_cons, List.map_cons, e]
    exact .cons _ _ (strs_of f g rows fun q hq => h q (.tail _ hq))
structure SZ where
  a : Addr
  vs : List Value
  e : Nat
  ss : List Str
noncomputable def SZ.obj (z : SZ) : Addr × Obj := (z.a, lstObj z.vs z.e)
theorem e_bit (x P : Nat) {y : Int} (hy : y = (P : Int)) : ((x : Int).fdiv y).fmod 2 = ((x / P % 2 : Nat) : Int) := by
  subst hy
  rw [Int.fdiv_eq_ediv_of_nonneg _ (Int.natCast_nonneg P), Int.fmod_eq_emod_of_nonneg _ (by decide)]
  norm_cast
noncomputable def wordW : Nat → Str
  | 0 => Str.ofString "OPTIMIZED"
  | 1 => Str.ofString "NEWLOCALS"
  | _ => Str.ofString "VARARGS"
theorem words_fl : ∀ fl, fl ≤ 7 → 1 ≤ fl → Txt.join (Str.ofString ", ") (((List.range 3).filter fun i => fl / 2 ^ i % 2 == 1).map wordW) = wordsS fl ∧ ((((List.range 3).filter fun i => fl / 2 ^ i % 2 == 1).map wordW).map (·.length)).sum + (((List.range 3).filter fun i => fl / 2 ^ i % 2 == 1).map wordW).length ≤ 1048576 := by decide +kernel
theorem item_kmkm {n : Nat} (h : n < 4) {x : Int} (e : x = (n : Int)) : Txt.item (Str.ofString "kmkm") x = nmS (n % 2) := by
  subst e
  have : ∀ c : Nat, c < 4 → Txt.item (Str.ofString "kmkm") (c : Int) = nmS (c % 2) := by decide +kernel
  exact this n h
theorem snoc_get {α : Type} {l : List α} {x z : α} {e : Nat} (h : (l ++ [x])[e]? = some z) : l[e]? = some z ∨ (e = l.length ∧ z = x) := by
  rcases Nat.lt_or_ge e l.length with q | q
  · rw [List.getElem?_append_left q] at h; exact .inl h
  · rw [List.getElem?_append_right q] at h
    have q0 : e - l.length = 0 := by
      cases hq : e - l.length with
      | zero => rfl
      | succ j => rw [hq] at h; simp at h
    rw [q0] at h
    exact .inr ⟨by omega, (Option.some.inj h).symm⟩
theorem get_snoc {l : List Value} {k : Nat} {x : Value} {f : Nat → Str} (hl : l.length = k) (h : ∀ e, e < k → ∃ t, l[e]? = some (.str (f e) t)) {t : Tok} (hx : x = .str (f k) t) : ∀ e, e < k + 1 → ∃ t, (l ++ [x])[e]? = some (.str (f e) t) := by
  intro e he
  rcases Nat.lt_or_ge e k with q | q
  · obtain ⟨t, ht⟩ := h e q
    exact ⟨t, by rw [List.getElem?_append_left (by omega), ht]⟩
  · have : e = k := by omega
    subst this
    exact ⟨t, by rw [List.getElem?_append_right (by omega), hl, Nat.sub_self, hx]; rfl⟩
end
noncomputable def Sg.set (g : Sg) (x : Str) (v : Value) : Sg := ⟨fun y => if y = x then some v else g.m y, g.o, g.t, g.b⟩
section
variable {c : Cg} {g g' : Sg} {H : Nw} {h h' : Heap} {tk tk' : Nat}
theorem St.le (S : St c g H h tk) : g.b ≤ tk := S.elim fun _ x => x.b
end
theorem fr_congr {h₀ h : Heap} {L : Addr} {m m' : Str → Option Value} (F : Fr h₀ L h m) (e : ∀ z, m z = m' z) : Fr h₀ L h m' := by rw [← funext e]; exact F
noncomputable def ev (c : Cg) : Env := envX c.cn c.sc c.L c.a c.ccd c.cl
section
variable {c : Cg} {g g' : Sg} {H : Nw} {h h' : Heap} {tk tk' : Nat}
theorem St.full (S : St c g H h tk) : ∃ cs, St' c g H cs h tk ∧ News c.h₀ c.L h (cs ++ (H ++ g.o) ++ (g.t ++ c.ex)) := S.elim fun cs x => ⟨cs, x, x.N⟩
end
section
variable {α β : Type} {c : Cg} {g : Sg} {env : Env}
theorem loc_none {m : Mp} {cl : List (Str × Addr)} {x : Str} (h : cl.lookup x = none) : loc cl m x = m x := by
  unfold loc; rw [h]; rfl
noncomputable def okS (sc : Scope) (x : Str) : Bool := (envX "" sc 0 0 .none []).kindOf x == some .local
theorem cells_off {m : Mp} {x : Str} {v : Value} : ∀ {cl : List (Str × Addr)} {cs : Nw}, CellsAre m cl cs → cl.lookup x = none → CellsAre (fun y => if y = x then some v else m y) cl cs
  | _, _, .nil, _ => .nil
  | _, _, .cons (n := n) (o := o) d Y, h => by
    rw [List.lookup_cons] at h
    cases e : x == n with
    | true => rw [e] at h; cases h
    | false =>
      rw [e] at h
      refine .cons ?_ (cells_off Y h)
      rw [if_neg fun e' => by rw [e'] at e; simp at e]; exact d
theorem wp_storeL {x : Str} {v : Value} {k : Kt Unit} (hx : okS c.sc x = true) (hc : c.cl.lookup x = none) (h : k () (g.set x v)) : Wp c (storeName (ev c) x v) g k :=
  ⟨fun O H s Q S q => by
    obtain ⟨cs, x', N⟩ := S.full
    refine storeX_L x'.F N (fun h' F' N' => q _ _ _ (g.set x v) ⟨cs, ?_, cells_off x'.Y hc, N', x'.P, Nat.le_trans x'.b (Nat.le_succ _)⟩ h) O.hk (id (eq_of_beq hx))
    refine fr_congr F' fun z => ?_
    show _ = loc c.cl (fun y => if y = x then some v else g.m y) z
    by_cases e : z = x
    · subst e; rw [if_pos rfl, loc_none hc, if_pos rfl]
    · rw [if_neg e]; unfold loc; split <;> simp [e]⟩
end
section
variable {c : Cg} {g g' : Sg} {H : Nw} {h h' : Heap} {tk tk' : Nat}
theorem St.toks (S : St c g H h tk) (e : g.b ≤ tk') : St c g H h tk' := S.elim fun cs x => ⟨cs, x.F, x.Y, x.N, x.P, e⟩
theorem St.heap (S : St c g H h tk) (F : Fr c.h₀ c.L h' (loc c.cl g.m)) (hk : ∀ b o, b ≠ c.L → c.h₀.get? b = none → h.get? b = some o → h'.get? b = some o) (e : g.b ≤ tk') : St c g H h' tk' :=
  S.elim fun cs x => ⟨cs, F, x.Y, fun q hq => ⟨hk _ _ (x.N q hq).2.1 (x.N q hq).2.2 (x.N q hq).1, (x.N q hq).2⟩, x.P, e⟩
theorem updF_mid {D : Addr} {o : Obj} {post : Nw} : ∀ {pre : Nw}, (∀ p ∈ pre, p.1 ≠ D) → (∀ p ∈ post, p.1 ≠ D) → UpdF D o (pre ++ (D, o) :: post) (fun o' => pre ++ (D, o') :: post)
  | [], _, h2 => UpdF.head h2
  | p :: pre, h1, h2 => UpdF.tail (h1 p (.head _)) (updF_mid (fun q hq => h1 q (.tail _ hq)) h2)
end
section
variable {α β : Type} {c : Cg} {g : Sg} {env : Env}
noncomputable def okC (sc : Scope) (x : Str) : Bool := ((envX "" sc 0 0 .none []).kindOf x == some .cell) && !(x == ("__debug__" : Str))
theorem ok_split {a : Option NameKind} {b : NameKind} {x : Str} (h : (a == some b && !(x == ("__debug__" : Str))) = true) : a = some b ∧ (x == ("__debug__" : Str)) = false := by
  obtain ⟨h1, h2⟩ := Bool.and_eq_true_iff.mp h
  exact ⟨eq_of_beq h1, by simpa using h2⟩
theorem cells_not {m : Mp} {x : Str} {v : Option Value} : ∀ {cl : List (Str × Addr)} {cs : Nw}, CellsAre m cl cs → (∀ y ∈ cl, x ≠ y.1) → CellsAre (fun y => if y = x then v else m y) cl cs
  | _, _, .nil, _ => .nil
  | _, _, .cons (n := n) (o := o) d Y, h => .cons (by rw [if_neg fun e' => h _ (.head _) e'.symm]; exact d) (cells_not Y fun y hy => h y (.tail _ hy))
theorem cells_upd {m : Mp} {x : Str} {v : Value} {a : Addr} : ∀ {cl : List (Str × Addr)} {cs : Nw}, CellsAre m cl cs → (cl.map (·.1)).Nodup → cl.lookup x = some a →
    ∃ pre o post, cs = pre ++ (a, o) :: post ∧ o.data = .cell (m x) ∧ ∀ o', o'.data = .cell (some v) → CellsAre (fun y => if y = x then some v else m y) cl (pre ++ (a, o') :: post)
  | _, _, .nil, _, h => by cases h
  | _, _, .cons (n := n) (c := b) (o := o) (cs := cl) (cells := cs) d Y, hn, h => by
    rw [List.lookup_cons] at h
    cases e : x == n with
    | true =>
      rw [e] at h
      cases h
      have : x = n := eq_of_beq e
      subst this
      refine ⟨[], o, cs, rfl, d, fun o' d' => .cons (by rw [if_pos rfl]; exact d') (cells_not Y fun y hy e => ?_)⟩
      exact (List.nodup_cons.mp hn).1 (List.mem_map.mpr ⟨y, hy, e.symm⟩)
    | false =>
      rw [e] at h
      obtain ⟨pre, o1, post, rfl, h2, h3⟩ := cells_upd Y (List.nodup_cons.mp hn).2 h
      exact ⟨(b, o) :: pre, o1, post, rfl, h2, fun o' d' => .cons (by rw [if_neg fun e' => by rw [e'] at e; simp at e]; exact d) (h3 o' d')⟩
theorem wp_storeC {x : Str} {a : Addr} {v : Value} {k : Kt Unit} (hx : okC c.sc x = true) (hc : c.cl.lookup x = some a) (h : k () (g.set x v)) : Wp c (storeName (ev c) x v) g k :=
  ⟨fun O H s Q S q => by
    obtain ⟨cs, x', N⟩ := S.full
    obtain ⟨pre, o, post, rfl, h2, h3⟩ := cells_upd (v := v) x'.Y O.nd hc
    have hP := x'.P
    rw [List.append_assoc, List.cons_append] at hP
    obtain ⟨p0, hT⟩ := hP
    rw [List.pairwise_append] at p0
    obtain ⟨p1, p2, p3⟩ := p0
    have hp2 := List.pairwise_cons.mp p2
    have N1 : News c.h₀ c.L s.heap (pre ++ (a, o) :: (post ++ (H ++ g.o) ++ (g.t ++ c.ex))) := by simpa using N
    have U : UpdF a o (pre ++ (a, o) :: (post ++ (H ++ g.o) ++ (g.t ++ c.ex))) (fun o' => pre ++ (a, o') :: (post ++ (H ++ g.o) ++ (g.t ++ c.ex))) :=
      updF_mid (fun p hp => Ne.symm (p3 p hp _ (.head _))) fun p hp => (List.mem_append.mp hp).elim (hp2.1 p) (hT _ (List.mem_append_right _ (.head _)) p)
    refine storeX_C x'.F N1 hc U h2 (fun h' o' F' N' d' => q _ _ s.toks (g.set x v) ⟨pre ++ (a, o') :: post, ?_, h3 o' d', by simpa [Sg.set] using N', ⟨?_, ?_⟩, x'.b⟩ h) O.hk (id (ok_split hx).1)
    · refine fr_congr F' fun z => ?_
      show _ = loc c.cl (fun y => if y = x then some v else g.m y) z
      unfold loc
      by_cases e : z = x
      · subst e; rw [hc]; rfl
      · dsimp only; rw [if_neg e]
    · show ((pre ++ (a, o') :: post) ++ (H ++ g.o)).Pairwise _
      rw [List.append_assoc, List.cons_append]
      refine List.pairwise_append.mpr ⟨p1, List.pairwise_cons.mpr ⟨hp2.1, hp2.2⟩, fun y hy z hz => ?_⟩
      rcases List.mem_cons.mp hz with rfl | hz
      · exact p3 y hy (a, o) (.head _)
      · exact p3 y hy z (.tail _ hz)
    · show ∀ p ∈ (pre ++ (a, o') :: post) ++ (H ++ g.o), _
      rw [List.append_assoc, List.cons_append]
      intro p hp z hz
      rcases List.mem_append.mp hp with hp | hp
      · exact hT p (List.mem_append_left _ hp) z hz
      · rcases List.mem_cons.mp hp with rfl | hp
        · exact hT (a, o) (List.mem_append_right _ (.head _)) z hz
        · exact hT p (List.mem_append_right _ (.tail _ hp)) z hz⟩
end
section
variable {c : Cg} {g : Sg} {env : Env}
theorem wp_cons {st : Stmt} {rest : List Stmt} {k : Kt Flow} (h : Wp c (exec st env) g fun fl g => match fl with | .next => Wp c (execs rest env) g k | fl => k fl g) : Wp c (execs (st :: rest) env) g k :=
  ⟨fun O H s Q S q => wpAny_execs_cons (h.run O H s _ S fun fl _ _ _ S1 k1 => by
    cases fl with
    | next => exact k1.run O H _ Q S1 q
    | _ => exact q _ _ _ _ S1 k1)⟩
theorem wp_asgN {x : Str} {pos' pos : Pos} {value : PySem.Expr} {k : Kt Flow} (hs : swapsWith value (some (.Name x pos')) pos.line env = pure false) (h : Wp c (eval value env) g fun v g => Wp c (storeName env x v) g fun _ g => k .next g) : Wp c (exec (.Assign [.Name x pos'] value pos) env) g k :=
  ⟨fun O H s Q S q => wpAny_Assign_Name (h.run O H s _ S fun _ _ _ _ S1 k1 => k1.run O H _ _ S1 fun _ _ _ _ S2 k2 => q _ _ _ _ S2 k2) hs⟩
end
section
variable {prog : Program} {w : World} {A : Around} {E : Value → Shared → Prop} {s : Shared} {h₀ : Heap} {L : Addr} {m : Str → Option Value}
theorem sub_item {value slice : Expr} {D : Addr} {lo : Obj} {vs : List Value} {n k : Nat} {i : Int} {t : Tok} {v : Value} {Q : Value → Shared → Prop} (hg : s.heap.get? D = some lo) (hc : lo.cls = .type "list") (hd : lo.data = .seq vs.toArray n) (hi : i = (k : Int)) (hx : vs[k]? = some v) (hk : k < 2 ^ 60) (h : Q v s)
    (hs : subscripted slice false (.ref D) (.int i t) = operate [.ref D, .int i t] (getItem (.ref D) (.int i t))) (ht : ∀ r, letTemporaryGo value (.ref D) r = pure ()) :
    wpAny (model prog w) A (subscriptTail value slice (.ref D) (.int i t)) Q E s := by
  subst hi
  have hl : s.heap.IsList D vs.toArray := ⟨lo, hg, hc, n, hd⟩
  have b1 : (0 : Int) ≤ (k : Int) := by omega
  have b2 : (k : Int) < 2 ^ 63 := by
    have : (2 : Int) ^ 63 = 9223372036854775808 := by decide
    rw [this]
    have : (2 : Nat) ^ 60 = 1152921504606846976 := by decide
    omega
  exact tail_of_ItemOn ⟨"list", _, slot_list_getitem.lookup, hl.typeIs, wpAny_getItem_list hl b1 b2 (by simpa using hx) h⟩ hs ht
end
section
variable {c : Cg} {g : Sg} {env : Env}
theorem wp_item {value slice : PySem.Expr} {D : Addr} {vs : List Value} {n j : Nat} {i : Int} {t : Tok} {v : Value} {k : Kt Value} (hm : (D, lstObj vs n) ∈ g.o ++ (g.t ++ c.ex)) (hi : i = (j : Int)) (hx : vs[j]? = some v) (hj : j < 2 ^ 60) (h : k v g)
    (hs : subscripted slice false (.ref D) (.int i t) = operate [.ref D, .int i t] (getItem (.ref D) (.int i t)) := by rfl) (ht : ∀ r, letTemporaryGo value (.ref D) r = pure () := by exact fun _ => rfl) : Wp c (subscriptTail value slice (.ref D) (.int i t)) g k :=
  ⟨fun _ H s Q S q => sub_item (S.mem hm).1 rfl rfl hi hx hj (q _ _ s.toks _ S h) hs ht⟩
end
section
variable {c : Cg} {g g' : Sg} {H : Nw} {h h' : Heap} {tk tk' : Nat}
theorem St.toks' (S : St c g H h tk) (e : tk ≤ tk') : St c g H h tk' := S.toks (Nat.le_trans S.le e)
end
section
variable {c : Cg} {g : Sg} {env : Env}
theorem wp_itemS {value slice : PySem.Expr} {x : Str} {t u : Tok} {i : Int} {k : Kt Value} (h0 : 0 ≤ i) (h1 : i < (x.length : Int)) (h2 : i < 1000000) (h : ∀ t, g.b ≤ t → k (.str (Txt.item x i) t) g)
    (hs : subscripted slice false (.str x t) (.int i u) = operate [.str x t, .int i u] (getItem (.str x t) (.int i u)) := by rfl) (ht : ∀ r, letTemporaryGo value (.str x t) r = pure () := by exact fun _ => rfl) : Wp c (subscriptTail value slice (.str x t) (.int i u)) g k :=
  ⟨fun _ H s Q S q => item_str (fitsSsize_of (N := 1000000) (by omega) h2 (by decide)) (by omega) h1 (fun _ => q _ _ _ _ (S.toks' (Nat.le_succ _)) (h _ S.le)) hs ht⟩
end
section
variable {prog : Program} {w : World} {p : Program} {loose : List Str} {mean : ExcName → Option Value} {mg mb : Str → Option Value}
variable {A : Around} {E : Value → Shared → Prop} {s : Shared} {h₀ : Heap} {L D : Addr} {m : Str → Option Value} {news : List (Addr × Obj)} {g : Obj → List (Addr × Obj)} {its : Array Value} {n : Nat}
theorem append_U {x : Value} {Q : Value → Shared → Prop} (F : Fr h₀ L s.heap m) (N : News h₀ L s.heap news) (U : UpdF D (W.listOf its n) news g) (hsz : its.size ≤ 1000)
    (h : ∀ h', Fr h₀ L h' m → News h₀ L h' (g (W.listOf (its.push x) (n + 1))) → Q .none { s with heap := h' }) : wpAny (model prog w) A (call (.builtin "list.append") [.ref D, x]) Q E s := by
  obtain ⟨pre, post, rfl, hg, h1, h2⟩ := U.split
  have z := N (D, W.listOf its n) (List.mem_append_right _ (.head _))
  refine append_at (hsz := Nat.le_trans hsz (by decide)) z.1 fun h' hs ho' => h h' (F.change hs z.2.1 z.2.2) ?_
  rw [hg]
  exact N.setAt h1 h2 hs ho'
end
noncomputable def Sg.push (g : Sg) (D : Addr) (o : Obj) : Sg := ⟨g.m, (D, o) :: g.o, g.t, g.b⟩
noncomputable def Sg.upd (g : Sg) (i : Nat) (D : Addr) (o : Obj) : Sg := ⟨g.m, g.o.set i (D, o), g.t, g.b⟩
section
variable {c : Cg} {g g' : Sg} {H : Nw} {h h' : Heap} {tk tk' : Nat}
theorem apart_push {a b T : Nw} {p : Addr × Obj} (A : Apart (a ++ b) T) (hp : ∀ q ∈ (a ++ b) ++ T, q.1 ≠ p.1) : Apart (a ++ p :: b) T := by
  obtain ⟨h1, h2⟩ := A
  rw [List.pairwise_append] at h1
  obtain ⟨p1, p2, p3⟩ := h1
  refine ⟨List.pairwise_append.mpr ⟨p1, List.pairwise_cons.mpr ⟨fun q hq => hp q (List.mem_append_left _ (List.mem_append_right _ hq)), p2⟩, fun x hx y hy => ?_⟩, fun x hx q hq => ?_⟩
  · rcases List.mem_cons.mp hy with rfl | hy
    · exact Ne.symm (hp x (List.mem_append_left _ (List.mem_append_left _ hx)))
    · exact p3 x hx y hy
  · rcases List.mem_append.mp hx with hx | hx
    · exact h2 x (List.mem_append_left _ hx) q hq
    · rcases List.mem_cons.mp hx with rfl | hx
      · exact hp q (List.mem_append_right _ hq)
      · exact h2 x (List.mem_append_right _ hx) q hq
theorem St.push (S : St c g H h tk) {D : Addr} {o : Obj} (F : Fr c.h₀ c.L h' (loc c.cl g.m)) (hD : h.get? D = none) (hk : ∀ b o, b ≠ c.L → c.h₀.get? b = none → h.get? b = some o → h'.get? b = some o) (hn : h'.get? D = some o) (h1 : D ≠ c.L) (h2 : c.h₀.get? D = none) (e : g.b ≤ tk') : St c (g.push D o) H h' tk' := by
  obtain ⟨cs, x⟩ := S
  have hne : ∀ q ∈ (cs ++ (H ++ g.o)) ++ (g.t ++ c.ex), q.1 ≠ D := fun q hq e => by
    have := (x.N q hq).1
    rw [e, hD] at this; cases this
  refine ⟨cs, F, x.Y, fun q hq => ?_, ?_, e⟩
  · have : q = (D, o) ∨ q ∈ (cs ++ (H ++ g.o)) ++ (g.t ++ c.ex) := by
      simp only [Sg.push, List.mem_append, List.mem_cons] at hq ⊢
      rcases hq with (h | h | h | h) | h
      · exact .inr (.inl (.inl h))
      · exact .inr (.inl (.inr (.inl h)))
      · exact .inl h
      · exact .inr (.inl (.inr (.inr h)))
      · exact .inr (.inr h)
    rcases this with rfl | hq
    · exact ⟨hn, h1, h2⟩
    · exact ⟨hk _ _ (x.N q hq).2.1 (x.N q hq).2.2 (x.N q hq).1, (x.N q hq).2⟩
  · have := apart_push (a := cs ++ H) (b := g.o) (T := g.t ++ c.ex) (p := (D, o)) (by rw [List.append_assoc]; exact x.P) (by rw [List.append_assoc cs]; exact hne)
    rwa [List.append_assoc] at this
theorem set_split {α : Type} {l : List α} {i : Nat} {x : α} (h : l[i]? = some x) : ∃ a b, l = a ++ x :: b ∧ ∀ y, l.set i y = a ++ y :: b := by
  induction l generalizing i with
  | nil => cases h
  | cons z l ih =>
    cases i with
    | zero => cases h; exact ⟨[], l, rfl, fun _ => rfl⟩
    | succ i =>
      obtain ⟨a, b, rfl, h2⟩ := ih h
      exact ⟨z :: a, b, rfl, fun y => by rw [List.set_cons_succ, h2]; rfl⟩
theorem St.upd (S : St c g H h tk) {i : Nat} {D : Addr} {o : Obj} (hi : g.o[i]? = some (D, o)) : ∃ cs news gg, St' c g H cs h tk ∧ News c.h₀ c.L h news ∧ UpdF D o news gg ∧
    ∀ o' h' tk', Fr c.h₀ c.L h' (loc c.cl g.m) → News c.h₀ c.L h' (gg o') → g.b ≤ tk' → St c (g.upd i D o') H h' tk' := by
  obtain ⟨cs, x⟩ := S
  obtain ⟨a, b, ho, hset⟩ := set_split hi
  have hP := x.P
  have e1 : cs ++ (H ++ g.o) = (cs ++ (H ++ a)) ++ (D, o) :: b := by rw [ho]; simp
  rw [e1] at hP
  obtain ⟨h1, h2⟩ := hP
  rw [List.pairwise_append] at h1
  obtain ⟨p1, p2, p3⟩ := h1
  have hp2 := List.pairwise_cons.mp p2
  refine ⟨cs, (cs ++ (H ++ a)) ++ (D, o) :: (b ++ (g.t ++ c.ex)), fun o' => (cs ++ (H ++ a)) ++ (D, o') :: (b ++ (g.t ++ c.ex)), x, ?_, updF_mid (fun p hp => ?_) (fun p hp => ?_), fun o' h' tk' F N e => ⟨cs, F, x.Y, ?_, ?_, e⟩⟩
  · have := x.N; rw [e1] at this; simpa using this
  · exact Ne.symm (p3 p hp _ (.head _))
  · rcases List.mem_append.mp hp with hp | hp
    · exact hp2.1 p hp
    · exact h2 _ (List.mem_append_right _ (.head _)) p hp
  · show News _ _ _ (cs ++ (H ++ g.o.set i (D, o')) ++ (g.t ++ c.ex))
    rw [hset]; simpa using N
  · show Apart (cs ++ (H ++ g.o.set i (D, o'))) (g.t ++ c.ex)
    rw [hset, show cs ++ (H ++ (a ++ (D, o') :: b)) = (cs ++ (H ++ a)) ++ (D, o') :: b by simp]
    refine ⟨List.pairwise_append.mpr ⟨p1, List.pairwise_cons.mpr ⟨hp2.1, hp2.2⟩, fun y hy z hz => ?_⟩, fun y hy q hq => ?_⟩
    · rcases List.mem_cons.mp hz with rfl | hz
      · exact p3 y hy (D, o) (.head _)
      · exact p3 y hy z (.tail _ hz)
    · rcases List.mem_append.mp hy with hy | hy
      · exact h2 y (List.mem_append_left _ hy) q hq
      · rcases List.mem_cons.mp hy with rfl | hy
        · exact h2 (D, o) (List.mem_append_right _ (.head _)) q hq
        · exact h2 y (List.mem_append_right _ (.tail _ hy)) q hq
end
section
variable {c : Cg} {g : Sg} {env : Env}
theorem wp_append {j D : Nat} {its its' : Array Value} {n : Nat} {x : Value} {k : Kt Value} (hD : g.o[j]? = some (D, W.listOf its n)) (hz : its.size ≤ 1000) (e : its.push x = its') (h : k .none (g.upd j D (W.listOf its' (n + 1)))) : Wp c (call (.builtin "list.append") [.ref D, x]) g k :=
  ⟨fun _ H s Q S q => by
    subst e
    obtain ⟨cs, news, gg, y, N, U, back⟩ := S.upd hD
    exact append_U y.F N U hz fun h' F' N' => q _ _ s.toks _ (back _ _ _ F' N' y.b) h⟩
theorem wp_mAppend {D : Addr} {its : Array Value} {n : Nat} {pl : Sem Bool} {k : Kt (Value × List Value)} (hm : (D, W.listOf its n) ∈ g.o ++ (g.t ++ c.ex)) (h : k (.builtin "list.append", [.ref D]) g) : Wp c (getMethod (.ref D) (Str.ofString "append") pl) g k :=
  ⟨fun _ H s Q S q => listMethod_K S.news hm PySem.F.slot_list_append PySem.F.type_list_append (q _ _ s.toks _ S h)⟩
end
section
variable {α β : Type} {c : Cg} {g : Sg} {env : Env}
theorem Wp.tok' {t : Sem α} {f : Tok → α} {k : Kt α} (h : ∀ (s : Shared) (Q : α → Shared → Prop), Q (f s.toks) { s with toks := s.toks + 1 } → wpAny (model c.prog c.w) (ar c) t Q NoE s) (hk : ∀ t, g.b ≤ t → k (f t) g) : Wp c t g k :=
  ⟨fun _ _ s Q S q => h s Q (q _ _ _ _ (S.toks' (Nat.le_succ _)) (hk _ S.le))⟩
end
section
variable {c : Cg} {g : Sg} {env : Env}
theorem wp_fdiv {a b : Int} {t u : Tok} {k : Kt Value} (hb : b ≠ 0) (hs : b.natAbs < 1073741824) (h : ∀ t, g.b ≤ t → k (.int (a.fdiv b) t) g) : Wp c (binaryOp .FloorDiv (.int a t) (.int b u)) g k := Wp.tok' (fun _ _ q => floordiv_int hb q (.inl (PyProof.noPylong_small hs))) h
theorem wp_pow {a n : Int} {t u : Tok} {k : Kt Value} (hn : 0 ≤ n) (h2 : n ≤ 1000000) (ha : a.natAbs < 2 ^ 64) (h : ∀ t, g.b ≤ t → k (.int (a ^ n.toNat) t) g) : Wp c (binaryOp .Pow (.int a t) (.int n u)) g k := Wp.tok' (fun _ _ q => pow_int_small hn h2 ha q) h
end
theorem runs_toks {M : Model} {Γ : PySem.Ctx} {p : Pos} {t : Sem Fin} {fs : List Frame} {s s' : Shared} {e : End} (h : Runs M Γ p t fs s e s') : s.toks ≤ s'.toks := by
  induction h <;> (try simp only [Shared.setGen] at *) <;> omega
theorem wakes_toks {M : Model} {Γ : PySem.Ctx} {p : Pos} {g : Nat} {r : Resume} {s s' : Shared} {res : GenResult} (h : Wakes M Γ p g r s res s') : s.toks ≤ s'.toks := by
  unfold Wakes at h
  split at h
  · exact h.elim
  · split at h
    · obtain ⟨e₁, s₁, h1, _, _, rfl⟩ := h
      have := runs_toks h1
      exact this
    · rw [h.2]; exact Nat.le_refl _
    · rw [h.2]; exact Nat.le_refl _
  · obtain ⟨e₁, s₁, h1, _, _, rfl⟩ := h
    have := runs_toks h1
    exact this
  · rw [h.2]; exact Nat.le_refl _
  · rw [h.2]; exact Nat.le_refl _
theorem wp_toks {X : Type} {M : Model} {Γ : PySem.Ctx} {b : Nat} (t : Sem X) {Q : X → Pos → Shared → Prop} {E : Value → Pos → Shared → Prop} : ∀ (p : Pos) (s : Shared), b ≤ s.toks → Sem.wp M Γ t Q E p s →
    Sem.wp M Γ t (fun a p' s' => b ≤ s'.toks ∧ Q a p' s') (fun e p' s' => b ≤ s'.toks ∧ E e p' s') p s := by
  induction t with
  | pure a => exact fun p s hb h => ⟨hb, h⟩
  | raise e => exact fun p s hb h => ⟨hb, h⟩
  | unsupported | finish | yield | fork | await | register => exact fun _ _ _ h => h
  | rule tag k ih => exact fun p s hb h => ih () p s hb h
  | «at» p' k ih => exact fun p s hb h => ih () p' s hb h
  | load a part k ih => exact fun p s hb ⟨o, ho, h⟩ => ⟨o, ho, ih o p s hb h⟩
  | update a part f k ih => exact fun p s hb ⟨ho, h⟩ => ⟨ho, ih () p _ hb h⟩
  | alloc o k ih => exact fun p s hb h => ih _ p { s with heap := s.heap.push o } hb h
  | loadIfAlive a k ih => exact fun p s hb h => ih _ p s hb h
  | point l k ih => exact fun p s hb h => ih () p s hb h
  | fresh k ih => exact fun p s hb h => ih _ p { s with toks := s.toks + 1 } (Nat.le_succ_of_le hb) h
  | ask k ih => exact fun p s hb h => ih _ p s hb h
  | choose src n k ih => exact fun p s hb ⟨hn, h⟩ => ⟨hn, ih _ p { s with drawn := s.drawn.bump src } hb h⟩
  | os q l k ih => exact fun p s hb h => ih _ p { s with os := (Os.step s.os q).1 } hb h
  | call c hh g l k ih =>
    intro p s hb ⟨r, s', hr, h⟩
    exact ⟨r, s', hr, ih r p s' (Nat.le_trans hb (runs_toks hr)) h⟩
  | handled own k ih => exact fun p s hb h => ih _ p s hb h
  | newGen c k ih => exact fun p s hb h => ih _ p { s with gens := s.gens.push (.fresh c) } hb h
  | genState g k ih => exact fun p s hb ⟨st, hs, h⟩ => ⟨st, hs, ih _ p s hb h⟩
  | resume g r l k ih =>
    intro p s hb ⟨res, s', hr, h⟩
    exact ⟨res, s', hr, ih res p s' (Nat.le_trans hb (wakes_toks hr)) h⟩
  | stack k ih => exact fun p s hb h => ih _ p s hb h
  | thread k ih => exact fun p s hb h => ih _ p s hb h
theorem wpAny_toks {X : Type} {M : Model} {A : Around} {t : Sem X} {Q : X → Shared → Prop} {E : Value → Shared → Prop} {s : Shared} {b : Nat} (hb : b ≤ s.toks) (h : wpAny M A t Q E s) : wpAny M A t (fun a s' => b ≤ s'.toks ∧ Q a s') (fun e s' => b ≤ s'.toks ∧ E e s') s :=
  fun Γ p hΓ => wp_toks t p s hb (h Γ p hΓ)
section
variable {prog : Program} {w : World} {p : Program} {loose : List Str} {mean : ExcName → Option Value} {mg mb : Str → Option Value} {f : Addr} {vs : List Value} {n : Nat} {H : Heap → Prop} {P : Heap → Heap → Value → Prop} {led : List (Addr × Obj)} {ch : List Addr}
    {dp un : Nat} {gd : Option (List Code)} {cn : Str} {cs : Scope} {a : Addr} {ccd : Value} {cl : List (Str × Addr)} {outer : List Env} {A₀ : Around} {base h₀ : Heap} {L : Addr} {m : Str → Option Value} {s : Shared} {Q E : Value → Shared → Prop} {news rest : List (Addr × Obj)}
theorem wpAny_tk {X : Type} {M : Model} {A : Around} {t : Sem X} {Q : X → Shared → Prop} {E : Value → Shared → Prop} {s : Shared} (b : Nat) (hb : b ≤ s.toks) (h : wpAny M A t (fun a s' => b ≤ s'.toks → Q a s') (fun e s' => b ≤ s'.toks → E e s') s) : wpAny M A t Q E s :=
  wpAny_mono (wpAny_toks hb h) (fun _ _ x => x.2 x.1) (fun _ _ x => x.2 x.1)
end
section
variable {α β : Type} {c : Cg} {g : Sg} {env : Env} {t : Sem α} {t' : Sem β}
theorem Wp.leaf {k : Kt α} (h : Ck c → ∀ (H : Nw) (s : Shared) (Q : α → Shared → Prop), St c g H s.heap s.toks → (∀ v h' tk' g', (g.b ≤ tk' → St c g' H h' tk') → k v g' → Q v { s with heap := h', toks := tk' }) → wpAny (model c.prog c.w) (ar c) t Q NoE s) : Wp c t g k :=
  ⟨fun O H s Q S q => wpAny_tk g.b S.le (wpAny_mono (h O H s (fun a s' => g.b ≤ s'.toks → Q a s') S fun v h' tk' g' S' hh hb => q v h' tk' g' (S' hb) hh) (fun _ _ x => x) fun _ _ x => x.elim)⟩
end
section
variable {c : Cg} {g : Sg} {env : Env}
theorem wp_addS {x y : Str} {t u : Tok} {k : Kt Value} (hz : x.length + y.length ≤ 1000000) (h : ∀ t, k (.str (x ++ y) t) g) : Wp c (binaryOp .Add (.str x t) (.str y u)) g k :=
  Wp.leaf fun _ H s Q S q => SB.add (fun _ _ => q _ _ _ _ (fun e => S.toks e) (h _)) (Nat.le_trans hz (by decide))
theorem wp_mulS {x : Str} {n : Int} {t u : Tok} {k : Kt Value} (hx : x.length ≤ 16) (h0 : 0 ≤ n) (h1 : n ≤ 1048576) (h : ∀ t, k (.str (Txt.mul x n) t) g) : Wp c (binaryOp .Mult (.str x t) (.int n u)) g k :=
  Wp.leaf fun _ H s Q S q => SB.mul (mulOk_of 16 1048576 hx h1 (by omega) (by decide) (by decide)) fun _ _ => q _ _ _ _ (fun e => S.toks e) (h _)
end
section
variable {c : Cg} {g g' : Sg} {H : Nw} {h h' : Heap} {tk tk' : Nat}
theorem St.pushN {D : Addr} {o : Obj} {news : Nw} (hs : ∃ cs, St' c g H cs h tk ∧ news = cs ++ (H ++ g.o) ++ (g.t ++ c.ex)) (F : Fr c.h₀ c.L h' (loc c.cl g.m)) (N : News c.h₀ c.L h' ((D, o) :: news)) (l : ∀ p ∈ news, p.1 < D) (e : g.b ≤ tk') : St c (g.push D o) H h' tk' := by
  obtain ⟨cs, x, rfl⟩ := hs
  refine ⟨cs, F, x.Y, fun q hq => N q ?_, ?_, e⟩
  · simp only [Sg.push, List.mem_append, List.mem_cons] at hq ⊢
    rcases hq with (h | h | h | h) | h
    · exact .inr (.inl (.inl h))
    · exact .inr (.inl (.inr (.inl h)))
    · exact .inl h
    · exact .inr (.inl (.inr (.inr h)))
    · exact .inr (.inr h)
  · have := apart_push (a := cs ++ H) (b := g.o) (T := g.t ++ c.ex) (p := (D, o)) (by rw [List.append_assoc]; exact x.P) (by rw [List.append_assoc cs]; exact fun q hq => Nat.ne_of_lt (l q hq))
    rwa [List.append_assoc] at this
end
section
variable {c : Cg} {g : Sg} {env : Env}
theorem wp_addL {a b : Addr} {vs us : List Value} {n l : Nat} {k : Kt Value} (ha : (a, lstObj vs n) ∈ g.o ++ (g.t ++ c.ex)) (hb : (b, lstObj us l) ∈ g.o ++ (g.t ++ c.ex)) (hz : vs.length + us.length ≤ 1000) (h : ∀ D, k (.ref D) (g.push D (W.listOf (vs ++ us).toArray 0))) : Wp c (binaryOp .Add (.ref a) (.ref b)) g k :=
  ⟨fun _ H s Q S q => by
    have h1 := News.isList S.news ha
    have h2 := News.isList S.news hb
    exact S.elim fun cs x => kmk_add_lit (its := vs.toArray) (its2 := us.toArray) (zs := vs ++ us) x.F x.N h1 h2 (by simp) (fun D _ F' N' l => q _ _ s.toks _ (St.pushN ⟨cs, x, rfl⟩ F' N' l x.b) (h D)) (Nat.le_trans hz (by decide))⟩
end
section
variable {α β : Type} {c : Cg} {g : Sg} {env : Env}
noncomputable def okL (sc : Scope) (x : Str) : Bool := ((envX "" sc 0 0 .none []).kindOf x == some .local) && !(x == ("__debug__" : Str))
noncomputable def okG (sc : Scope) (x : Str) : Bool := ((envX "" sc 0 0 .none []).kindOf x == some .globalImplicit) && !(x == ("__debug__" : Str))
end
noncomputable def globK : List (Str × Value) := [("Whitespace", .ref 100), ("COMPILER_FLAG_NAMES", .ref 105), ("pretty_flags", .ref 112), ("_parse_varint", .ref 119), ("add", .ref 126), ("floordiv", .ref 133), ("lshift", .ref 140), ("mul", .ref 147), ("or_", .ref 154), ("sub", .ref 161), ("delitem", .ref 168), ("indexOf", .ref 175), ("setitem", .ref 182), ("length_hint", .ref 190),
  ("Headers", .ref 334), ("_law_numbers", .ref 345), ("_law_text", .ref 352), ("_law_write", .ref 359), ("_law_letter", .ref 366), ("_law_lay", .ref 373), ("_law_take", .ref 380), ("_law_shown", .ref 387), ("_law_run", .ref 394), ("_law_standing", .ref 399), ("_law_due", .ref 404), ("_name_disallowed_re", .ref 200), ("_value_disallowed_re", .ref 205)]
noncomputable def globB : List (Str × Value) := [("range", .type "range"), ("len", .builtin "len"), ("max", .builtin "max"), ("min", .builtin "min"), ("hex", .builtin "hex"), ("sorted", .builtin "sorted"), ("enumerate", .type "enumerate"), ("iter", .builtin "iter"), ("tuple", .type "tuple"), ("type", .type "type"), ("str", .type "str"), ("list", .type "list"), ("int", .type "int"), ("isinstance", .builtin "isinstance"), ("next", .builtin "next")]
noncomputable def vName (c : Cg) (x : Str) (pos : Pos) (g : Sg) (k : Kt Value) : Prop :=
  bif okL c.sc x && (c.cl.lookup x).isNone then (match g.m x with | some v => k v g | none => Wp c (eval (.Name x pos) (ev c)) g k)
  else bif okC c.sc x && (c.cl.lookup x).isSome then (match g.m x with | some v => k v g | none => Wp c (eval (.Name x pos) (ev c)) g k)
  else bif okG c.sc x then (match globK.lookup x with | some v => k v g | none => match globB.lookup x with | some v => k v g | none => Wp c (eval (.Name x pos) (ev c)) g k)
  else Wp c (eval (.Name x pos) (ev c)) g k
theorem Kept.fr {h₀ h h' : Heap} {L : Addr} {m : Str → Option Value} {ch : List Addr} (k : Kept ch h h') (F : Fr h₀ L h m) (hc : ∀ b ∈ ch, b ≠ L ∧ h₀.get? b = none) : Fr h₀ L h' m := by
  obtain ⟨⟨oL, a1, a2, hL, a3⟩, kp, ab⟩ := F
  refine ⟨⟨oL, a1, a2, k _ _ (fun q => (hc _ q).1 rfl) hL, a3⟩, fun b o e => k _ _ (fun q => ?_) (kp b o e), ab⟩
  rw [(hc _ q).2] at e; cases e
section
variable {c : Cg} {g g' : Sg} {H : Nw} {h h' : Heap} {tk tk' : Nat}
theorem St.fr (S : St c g H h tk) : Fr c.h₀ c.L h (loc c.cl g.m) := S.elim fun _ x => x.F
end
section
variable {α β : Type} {c : Cg} {g : Sg} {env : Env}
theorem wp_nameL {x : Str} {pos : Pos} {v : Value} {k : Kt Value} (hx : okL c.sc x = true) (hc : c.cl.lookup x = none) (hv : g.m x = some v) (h : k v g) : Wp c (eval (.Name x pos) (ev c)) g k :=
  ⟨fun O H s Q S q => nameX_L S.fr ((loc_none hc).trans hv) (q _ _ s.toks _ S h) O.hk (id (ok_split hx).1) (ok_split hx).2⟩
theorem cells_at {m : Mp} : ∀ {cl : List (Str × Addr)} {cs : Nw} {x : Str} {a : Addr}, CellsAre m cl cs → cl.lookup x = some a → ∃ o, (a, o) ∈ cs ∧ o.data = .cell (m x)
  | _, _, x, a, .nil, h => by cases h
  | _, _, x, a, .cons (n := n) (c := b) (o := o) d Y, h => by
    rw [List.lookup_cons] at h
    cases e : x == n with
    | true =>
      rw [e] at h
      cases h
      have : x = n := eq_of_beq e
      subst this
      exact ⟨o, .head _, d⟩
    | false =>
      rw [e] at h
      obtain ⟨o', h1, h2⟩ := cells_at Y h
      exact ⟨o', .tail _ h1, h2⟩
theorem wp_nameC {x : Str} {pos : Pos} {a : Addr} {v : Value} {k : Kt Value} (hx : okC c.sc x = true) (hc : c.cl.lookup x = some a) (hv : g.m x = some v) (h : k v g) : Wp c (eval (.Name x pos) (ev c)) g k :=
  ⟨fun O H s Q S q => by
    obtain ⟨cs, x', N⟩ := S.full
    obtain ⟨o, h1, h2⟩ := cells_at x'.Y hc
    exact nameX_C N hc (List.mem_append_left _ (List.mem_append_left _ h1)) (h2.trans (by rw [hv])) (q _ _ s.toks _ S h) O.hk (id (ok_split hx).1) (ok_split hx).2⟩
theorem wp_nameK {x : Str} {pos : Pos} {v : Value} {k : Kt Value} (hx : okG c.sc x = true) (hv : nsIn (hd.heap_39 c.w.params) mainGlobals x = some (some v)) (h : k v g) : Wp c (eval (.Name x pos) (ev c)) g k :=
  ⟨fun O H s Q S q => nameX_K S.fr O.X (topRead_of O.T) hv (q _ _ s.toks _ S h) O.hk (id (ok_split hx).1) (ok_split hx).2⟩
theorem wp_nameB {x : Str} {pos : Pos} {v : Value} {k : Kt Value} (hx : okG c.sc x = true) (hv : nsIn (hd.heap_39 c.w.params) mainGlobals x = some none) (hb : bootBuiltins x = some v) (hn : x ≠ "__name__") (h : k v g) : Wp c (eval (.Name x pos) (ev c)) g k :=
  ⟨fun O H s Q S q => nameX_B S.fr O.X (topRead_of O.T) hv hb hn (q _ _ s.toks _ S h) O.hk (id (ok_split hx).1) (ok_split hx).2⟩
end
theorem globK_ok : ∀ p ∈ globK, ∀ P, nsIn (hd.heap_39 P) mainGlobals p.1 = some (some p.2) := by
  unfold globK
  repeat' (first | exact List.forall_mem_nil _ | refine List.forall_mem_cons.mpr ⟨fun _ => rfl, ?_⟩)
theorem globB_ok : ∀ p ∈ globB, (∀ P, nsIn (hd.heap_39 P) mainGlobals p.1 = some none) ∧ bootBuiltins p.1 = some p.2 ∧ p.1 ≠ "__name__" := by
  unfold globB
  repeat' (first | exact List.forall_mem_nil _ | refine List.forall_mem_cons.mpr ⟨⟨fun _ => rfl, by decide +kernel, by decide +kernel⟩, ?_⟩)
theorem lookup_in {α β : Type} [BEq α] [LawfulBEq α] {x : α} {v : β} : ∀ {l : List (α × β)}, l.lookup x = some v → (x, v) ∈ l
  | [], h => by cases h
  | (y, u) :: l, h => by
    rw [List.lookup_cons] at h
    cases e : x == y with
    | true => rw [e] at h; cases h; rw [eq_of_beq e]; exact .head _
    | false => rw [e] at h; exact .tail _ (lookup_in h)
theorem cond_ok {b : Bool} {A B C : Prop} (h : bif b then A else B) (h1 : b = true → A → C) (h2 : B → C) : C := by cases b; exact h2 h; exact h1 rfl h
theorem vName_ok {c : Cg} {x : Str} {pos : Pos} {g : Sg} {k : Kt Value} (h : vName c x pos g k) : Wp c (eval (.Name x pos) (ev c)) g k := by
  unfold vName at h
  refine cond_ok h (fun e h => ?_) fun h => cond_ok h (fun e h => ?_) fun h => cond_ok h (fun e h => ?_) fun h => h
  · obtain ⟨e1, e2⟩ := Bool.and_eq_true_iff.mp e
    split at h
    · rename_i hv; exact wp_nameL e1 (Option.isNone_iff_eq_none.mp e2) hv h
    · exact h
  · obtain ⟨e1, e2⟩ := Bool.and_eq_true_iff.mp e
    obtain ⟨a, ha⟩ := Option.isSome_iff_exists.mp e2
    split at h
    · rename_i hv; exact wp_nameC e1 ha hv h
    · exact h
  · split at h
    · rename_i hv; exact wp_nameK e (globK_ok _ (lookup_in hv) _) h
    · split at h
      · rename_i hv; have := globB_ok _ (lookup_in hv); exact wp_nameB e (this.1 _) this.2.1 this.2.2 h
      · exact h
noncomputable def vStore (c : Cg) (x : Str) (v : Value) (g : Sg) (k : Kt Unit) : Prop :=
  bif okS c.sc x && (c.cl.lookup x).isNone then k () (g.set x v)
  else bif okC c.sc x && (c.cl.lookup x).isSome then k () (g.set x v)
  else Wp c (storeName (ev c) x v) g k
theorem vStore_ok {c : Cg} {x : Str} {v : Value} {g : Sg} {k : Kt Unit} (h : vStore c x v g k) : Wp c (storeName (ev c) x v) g k := by
  refine cond_ok h (fun e h => ?_) fun h => cond_ok h (fun e h => ?_) fun h => h
  · obtain ⟨e1, e2⟩ := Bool.and_eq_true_iff.mp e
    exact wp_storeL e1 (Option.isNone_iff_eq_none.mp e2) h
  · obtain ⟨e1, e2⟩ := Bool.and_eq_true_iff.mp e
    obtain ⟨a, ha⟩ := Option.isSome_iff_exists.mp e2
    exact wp_storeC e1 ha h
section
variable {c : Cg} {g : Sg} {env : Env}
noncomputable def tupOf (vs : List Value) : Obj := { cls := .type "tuple", data := .seq vs.toArray }
end
noncomputable def vBin (c : Cg) (op : Operator) (a b : Value) (g : Sg) (k : Kt Value) : Prop :=
  match a, b with
  | .int x t, .int y u => match op with
    | .Add => ∀ t, k (.int (x + y) t) g
    | .Sub => ∀ t, k (.int (x - y) t) g
    | .BitAnd => ∀ t, k (.int (Builtin.bitAnd x y) t) g
    | .BitOr => ∀ t, k (.int (Builtin.bitOr x y) t) g
    | .Mod => match y with
      | .ofNat (n + 1) => ∀ t, k (.int (x.fmod (.ofNat (n + 1))) t) g
      | y => Wp c (binaryOp .Mod (.int x t) (.int y u)) g k
    | op => Wp c (binaryOp op (.int x t) (.int y u)) g k
  | a, b => Wp c (binaryOp op a b) g k
noncomputable def isSlice : PySem.Expr → Bool
  | .Slice .. => true
  | _ => false
section
variable (c : Cg) (env : Env) (nam : Str → Pos → Sg → Kt Value → Prop) (sto : Str → Value → Sg → Kt Unit → Prop) (r : Vr)
noncomputable def vConst (v : Const) (n : Nat) (pos : Pos) (g : Sg) (k : Kt Value) : Prop :=
  match v with
  | .int i => ∀ t, k (.int i t) g
  | .str x => ∀ t, k (.str x t) g
  | .bool b => k (.bool b) g
  | .none => k .none g
  | v => Wp c (eval (.Constant v n pos) env) g k
noncomputable def vCompare (a : PySem.Expr) (ops : List CmpOp) (bs : List PySem.Expr) (pos : Pos) (g : Sg) (k : Kt Value) : Prop :=
  match ops, bs with
  | [op], [b] => bif behindInMarks op b then Wp c (eval (.Compare a [op] [b] pos) env) g k else r.e a g fun x g => r.e b g fun y g => vCmp c op x y g k
  | ops, bs => Wp c (eval (.Compare a ops bs pos) env) g k
end
noncomputable def fnsK : List Nat := [100, 112, 119, 126, 133, 140, 147, 154, 161, 168, 175, 182, 190, 242, 249, 254, 273, 291, 298, 331, 334, 345, 352, 359, 366, 373, 380, 387, 394, 399, 404, 62, 69, 76, 90]
noncomputable def fnOk : Value → List Value → List PySem.Expr → Bool
  | .builtin _, _, _ => true
  | .type _, [], _ :: _ => true
  | .ref a, _, _ => fnsK.contains a
  | _, _, _ => false
noncomputable def isStar : PySem.Expr → Bool
  | .Starred .. => true
  | _ => false
noncomputable def vWith (c : Cg) (env : Env) (r : Vr) (pos : Pos) (fv : Value) (first : List Value) (args : List PySem.Expr) (g : Sg) (k : Kt Value) : Prop :=
  bif fnOk fv first args && !(args.any isStar) then r.a args g fun vs g => Wp c (call fv (first ++ vs)) g k else Wp c (callWith pos fv first (backTo pos (starEach args env)) []) g k
noncomputable def okMeth (o : PySem.Expr) (args : List PySem.Expr) (apos pos : Pos) : Bool :=
  (match o with | .Call _ [] _ _ => false | _ => true) && (!(args.any isStar) && (decide (args.length < 30) && apos.endLine == pos.line))
noncomputable def plOf (o : PySem.Expr) (env : Env) : Sem Bool := do return (← importBound o env).getD true
noncomputable def vGet (c : Cg) (env : Env) (o : PySem.Expr) (ov : Value) (name : Str) (g : Sg) (k : Kt (Value × List Value)) : Prop :=
  match ov with
  | .str x t => bif name == "join" then k (.builtin "str.join", [.str x t]) g else bif name == "lower" then k (.builtin "str.lower", [.str x t]) g else bif name == "split" then k (.builtin "str.split", [.str x t]) g
    else Wp c (getMethod (.str x t) name (plOf o env)) g k
  | ov => Wp c (getMethod ov name (plOf o env)) g k
section
variable (c : Cg) (env : Env) (nam : Str → Pos → Sg → Kt Value → Prop) (sto : Str → Value → Sg → Kt Unit → Prop) (r : Vr)
noncomputable def vMeth (o : PySem.Expr) (nm : Str) (apos : Pos) (args : List PySem.Expr) (pos : Pos) (g : Sg) (k : Kt Value) : Prop :=
  bif okMeth o args apos pos then r.e o g fun ov g => vGet c env o ov nm g fun fx g => vWith c env r pos fx.1 fx.2 args g k else Wp c (eval (.Call (.Attribute o nm apos) args [] pos) env) g k
noncomputable def vCall0 (f : PySem.Expr) (args : List PySem.Expr) (pos : Pos) (g : Sg) (k : Kt Value) : Prop :=
  match f with
  | .Attribute o nm apos => vMeth c env r o nm apos args pos g k
  | f => r.e f g fun fv g => vWith c env r pos fv [] args g k
noncomputable def vCall (f : PySem.Expr) (args : List PySem.Expr) (kw : List Keyword) (pos : Pos) (g : Sg) (k : Kt Value) : Prop :=
  match kw with
  | [] => vCall0 c env r f args pos g k
  | kw => Wp c (eval (.Call f args kw pos) env) g k
noncomputable def vAttr (o : PySem.Expr) (nm : Str) (pos : Pos) (g : Sg) (k : Kt Value) : Prop :=
  match o with
  | .Name x xp => r.e (.Name x xp) g fun ov g => Wp c (getAttr ov nm true) g k
  | o => Wp c (eval (.Attribute o nm pos) env) g k
noncomputable def vE (e : PySem.Expr) (g : Sg) (k : Kt Value) : Prop :=
  match e with
  | .Name x pos => nam x pos g k
  | .Constant v n pos => vConst c env v n pos g k
  | .BinOp a op b _ => r.e a g fun x g => r.e b g fun y g => vBin c op x y g k
  | .Compare a ops bs pos => vCompare c env r a ops bs pos g k
  | .Call f args kw pos => vCall c env r f args kw pos g k
  | .List es _ => r.a es g fun vs g => bif decide (vs.length ≤ 1000) then ∀ D, k (.ref D) (g.push D (W.listOf vs.toArray 0)) else Wp c (newList vs) g k
  | .Tuple es _ _ => r.a es g fun vs g => bif decide (vs.length ≤ 1000) then ∀ D, k (.ref D) (g.push D (tupOf vs)) else Wp c (newTuple vs) g k
  | .Subscript o i pos => bif isSlice i then Wp c (eval (.Subscript o i pos) env) g k else r.e o g fun ov g => r.e i g fun iv g => Wp c (subscriptTail o i ov iv) g k
  | .Attribute o nm pos => vAttr c env r o nm pos g k
  | e => Wp c (eval e env) g k
noncomputable def vA (es : List PySem.Expr) (g : Sg) (k : Kt (List Value)) : Prop :=
  match es with
  | [] => k [] g
  | e :: rest => bif isStar e then ∀ pos, Wp c (spliced (backTo pos (starEach (e :: rest) env))) g k else r.e e g fun v g => r.a rest g fun vs g => k (v :: vs) g
end
noncomputable def noSwap : PySem.Expr → Bool
  | .ListComp .. | .SetComp .. | .DictComp .. => false
  | _ => true
section
variable (c : Cg) (env : Env) (nam : Str → Pos → Sg → Kt Value → Prop) (sto : Str → Value → Sg → Kt Unit → Prop) (r : Vr)
noncomputable def vAsg (tgt value : PySem.Expr) (pos : Pos) (g : Sg) (k : Kt Flow) : Prop :=
  bif noSwap value then match tgt with
    | .Name x _ => r.e value g fun v g => sto x v g fun _ g => k .next g
    | .Subscript o i _ => r.e value g fun v g => r.e o g fun ov g => r.e i g fun iv g => Wp c (setItem ov iv v) g fun _ g => k .next g
    | .Attribute o nm _ => r.e value g fun v g => r.e o g fun ov g => Wp c (setAttr ov nm v) g fun _ g => k .next g
    | tgt => Wp c (exec (.Assign [tgt] value pos) env) g k
  else Wp c (exec (.Assign [tgt] value pos) env) g k
noncomputable def vStmt (st : Stmt) (g : Sg) (k : Kt Flow) : Prop :=
  match st with
  | .Assign [tgt] value pos => vAsg c env sto r tgt value pos g k
  | .Expr e pos => bif !interactive env && noSwap e then r.e e g fun _ g => k .next g else Wp c (exec (.Expr e pos) env) g k
  | .If t a b _ => r.t t g fun x g => bif x then r.s a g k else r.s b g k
  | .Return (some e) _ => r.e e g fun v g => k (.ret v) g
  | .Break _ => k .brk g
  | st => Wp c (exec st env) g k
noncomputable def vS (b : List Stmt) (g : Sg) (k : Kt Flow) : Prop :=
  match b with
  | [] => k .next g
  | st :: rest => vStmt c env sto r st g fun fl g => match fl with
    | .next => r.s rest g k
    | fl => k fl g
noncomputable def vstep : Vr := ⟨vE c env nam r, vT c env r, vA c env r, vS c env sto r⟩
end
noncomputable def vgen (c : Cg) (env : Env) (nam : Str → Pos → Sg → Kt Value → Prop) (sto : Str → Value → Sg → Kt Unit → Prop) (n : Nat) : Vr := Nat.rec ⟨fun _ _ _ => False, fun _ _ _ => False, fun _ _ _ => False, fun _ _ _ => False⟩ (fun _ r => vstep c env nam sto r) n
structure Vok (c : Cg) (env : Env) (r : Vr) : Prop where
  e : ∀ {e g k}, r.e e g k → Wp c (eval e env) g k
  t : ∀ {e g k}, r.t e g k → Wp c (PySem.isTrue e env (eval e env)) g k
  a : ∀ {es g k}, r.a es g k → ∀ pos, Wp c (spliced (backTo pos (starEach es env))) g k
  s : ∀ {b g k}, r.s b g k → Wp c (execs b env) g k
section
variable {c : Cg} {env : Env} {nam : Str → Pos → Sg → Kt Value → Prop} {sto : Str → Value → Sg → Kt Unit → Prop} {r : Vr}
structure Vok2 (c : Cg) (env : Env) (r : Vr) : Prop extends Vok c env r where
  nil : ∀ {g k}, r.a [] g k → k [] g
end
theorem Kept.mono {ch ch' : List Addr} {h h' : Heap} (a : Kept ch h h') (hs : ∀ x ∈ ch, x ∈ ch') : Kept ch' h h' := fun x o n e => a x o (fun q => n (hs x q)) e
section
variable {prog : Program} {w : World} {p : Program} {loose : List Str} {mean : ExcName → Option Value} {mg mb : Str → Option Value} {f : Addr} {vs : List Value} {n : Nat} {H : Heap → Prop} {led : List (Addr × Obj)} {ch : List Addr}
theorem ConL.mono {P P' : Heap → Heap → Value → Prop} (C : ConL prog w p loose mean mg mb f vs n H led ch P) (h : ∀ s h' r, P s h' r → P' s h' r) : ConL prog w p loose mean mg mb f vs n H led ch P' :=
  fun dp un gd cn cs a ccd cl outer A₀ base h₀ L m s Q E B F X T hk hdp hun hH N k => C dp un gd cn cs a ccd cl outer A₀ base h₀ L m s Q E B F X T hk hdp hun hH N fun r h' tk' F' K pp => k r h' tk' F' K (h _ _ _ pp)
end
section
variable {α β : Type} {c : Cg} {g : Sg} {env : Env} {t : Sem α} {t' : Sem β}
theorem Wp.mono {k k' : Kt α} (h : Wp c t g k) (hk : ∀ v g, k v g → k' v g) : Wp c t g k' := ⟨fun O H s Q S q => h.run O H s Q S fun v h' tk' g' S' hh => q v h' tk' g' S' (hk _ _ hh)⟩
end
section
variable {c : Cg} {g : Sg} {env : Env}
theorem wp_bin {l r : PySem.Expr} {op : Operator} {pos : Pos} {k : Kt Value} (h : Wp c (eval l env) g fun a g => Wp c (eval r env) g fun b g => Wp c (binaryOp op a b) g k) : Wp c (eval (.BinOp l op r pos) env) g k :=
  ⟨fun O H s Q S q => wpAny_BinOp (h.run O H s _ S fun _ _ _ _ S1 k1 => k1.run O H _ _ S1 fun _ _ _ _ S2 k2 => k2.run O H _ Q S2 q)⟩
theorem wp_list {elts : List PySem.Expr} {pos : Pos} {k : Kt Value} (h : Wp c (spliced (backTo pos (starEach elts env))) g fun vs g => Wp c (newList vs) g k) : Wp c (eval (.List elts pos) env) g k :=
  ⟨fun O H s Q S q => List_ (h.run O H s _ S fun _ _ _ _ S1 k1 => k1.run O H _ Q S1 q)⟩
theorem wp_tuple {elts : List PySem.Expr} {n : Nat} {pos : Pos} {k : Kt Value} (h : Wp c (spliced (backTo pos (starEach elts env))) g fun vs g => Wp c (newTuple vs) g k) : Wp c (eval (.Tuple elts n pos) env) g k :=
  ⟨fun O H s Q S q => Tuple_ (h.run O H s _ S fun _ _ _ _ S1 k1 => k1.run O H _ Q S1 q)⟩
theorem wp_newList {vs : List Value} {k : Kt Value} (hz : vs.length ≤ 1000) (h : ∀ D, k (.ref D) (g.push D (W.listOf vs.toArray 0))) : Wp c (newList vs) g k :=
  ⟨fun _ H s Q S q => S.elim fun cs x => newList_K x.F x.N (fun D _ F' N' l => q _ _ s.toks _ (St.pushN ⟨cs, x, rfl⟩ F' N' l x.b) (h D)) (Nat.le_trans hz (by decide))⟩
theorem wp_newTuple {vs : List Value} {k : Kt Value} (hz : vs.length ≤ 1000) (h : ∀ D, k (.ref D) (g.push D (tupOf vs))) : Wp c (newTuple vs) g k :=
  ⟨fun _ H s Q S q => S.elim fun cs x => kup_newTuple x.F x.N (fun D _ F' N' l => q _ _ s.toks _ (St.pushN ⟨cs, x, rfl⟩ F' N' l x.b) (h D)) (Nat.le_trans hz (by decide))⟩
theorem wp_subs {value slice : PySem.Expr} {pos : Pos} {k : Kt Value} (h : Wp c (eval value env) g fun o g => Wp c (eval slice env) g fun i g => Wp c (subscriptTail value slice o i) g k) : Wp c (eval (.Subscript value slice pos) env) g k :=
  ⟨fun O H s Q S q => Subscript_ (h.run O H s _ S fun _ _ _ _ S1 k1 => k1.run O H _ _ S1 fun _ _ _ _ S2 k2 => k2.run O H _ Q S2 q)⟩
theorem wp_add {a b : Int} {t u : Tok} {k : Kt Value} (h : ∀ t, g.b ≤ t → k (.int (a + b) t) g) : Wp c (binaryOp .Add (.int a t) (.int b u)) g k := Wp.tok' (fun _ _ q => add_int q) h
theorem wp_sub {a b : Int} {t u : Tok} {k : Kt Value} (h : ∀ t, g.b ≤ t → k (.int (a - b) t) g) : Wp c (binaryOp .Sub (.int a t) (.int b u)) g k := Wp.tok' (fun _ _ q => sub_int q) h
theorem wp_mod {a b : Int} {t u : Tok} {k : Kt Value} (hb : b ≠ 0) (h : ∀ t, g.b ≤ t → k (.int (a.fmod b) t) g) : Wp c (binaryOp .Mod (.int a t) (.int b u)) g k := Wp.tok' (fun _ _ q => mod_int' hb q) h
theorem wp_band {a b : Int} {t u : Tok} {k : Kt Value} (h : ∀ t, g.b ≤ t → k (.int (Builtin.bitAnd a b) t) g) : Wp c (binaryOp .BitAnd (.int a t) (.int b u)) g k := Wp.tok' (fun _ _ q => and_int q) h
theorem wp_bor {a b : Int} {t u : Tok} {k : Kt Value} (h : ∀ t, g.b ≤ t → k (.int (Builtin.bitOr a b) t) g) : Wp c (binaryOp .BitOr (.int a t) (.int b u)) g k := Wp.tok' (fun _ _ q => or_int q) h
end
theorem vBin_ok {c : Cg} {op : Operator} {a b : Value} {g : Sg} {k : Kt Value} (h : vBin c op a b g k) : Wp c (binaryOp op a b) g k := by
  unfold vBin at h
  split at h
  · split at h
    · exact wp_add fun t _ => h t
    · exact wp_sub fun t _ => h t
    · exact wp_band fun t _ => h t
    · exact wp_bor fun t _ => h t
    · split at h
      · exact wp_mod (fun e => by cases e) fun t _ => h t
      · exact h
    · exact h
  · exact h
section
variable {α β : Type} {c : Cg} {g : Sg} {env : Env}
theorem Wp.pure' {t : Sem α} {v : α} {k : Kt α} (h : ∀ (s : Shared) (Q : α → Shared → Prop), Q v s → wpAny (model c.prog c.w) (ar c) t Q NoE s) (hk : k v g) : Wp c t g k := ⟨fun _ _ s Q S q => h s Q (q _ _ s.toks _ S hk)⟩
end
section
variable {c : Cg} {env : Env} {nam : Str → Pos → Sg → Kt Value → Prop} {sto : Str → Value → Sg → Kt Unit → Prop} {r : Vr}
theorem vConst_ok {v : Const} {n : Nat} {pos : Pos} {g : Sg} {k : Kt Value} (h : vConst c env v n pos g k) : Wp c (eval (.Constant v n pos) env) g k := by
  cases v with
  | int i => exact Wp.tok' (fun _ _ q => wpAny_Constant_int q) fun t _ => h t
  | str x => exact Wp.tok' (fun _ _ q => Calls.Constant_str q) fun t _ => h t
  | bool b => exact Wp.pure' (fun _ _ q => wpAny_Constant_bool q) h
  | none => exact Wp.pure' (fun _ _ q => wpAny_Constant_none q) h
  | _ => exact h
theorem cond_ok2 {b : Bool} {A B C : Prop} (h : bif b then A else B) (h1 : b = true → A → C) (h2 : b = false → B → C) : C := by cases b; exact h2 rfl h; exact h1 rfl h
end
section
variable {c : Cg} {g : Sg} {env : Env}
theorem wp_cmp {l r : PySem.Expr} {op : CmpOp} {pos : Pos} {k : Kt Value} (hb : behindInMarks op r = false) (h : Wp c (eval l env) g fun a g => Wp c (eval r env) g fun b g => Wp c (compareOp op a b) g k) : Wp c (eval (.Compare l [op] [r] pos) env) g k :=
  ⟨fun O H s Q S q => wpAny_Compare1 (h.run O H s _ S fun _ _ _ _ S1 k1 => k1.run O H _ _ S1 fun _ _ _ _ S2 k2 => k2.run O H _ Q S2 q) hb⟩
theorem wp_lt {a b : Int} {t u : Tok} {k : Kt Value} (h : k (.bool (decide (a < b))) g) : Wp c (compareOp .Lt (.int a t) (.int b u)) g k := Wp.pure' (fun _ _ q => lt_int q) h
theorem wp_le {a b : Int} {t u : Tok} {k : Kt Value} (h : k (.bool (decide (a ≤ b))) g) : Wp c (compareOp .LtE (.int a t) (.int b u)) g k := Wp.pure' (fun _ _ q => le_int q) h
theorem wp_ge {a b : Int} {t u : Tok} {k : Kt Value} (h : k (.bool (decide (b ≤ a))) g) : Wp c (compareOp .GtE (.int a t) (.int b u)) g k := Wp.pure' (fun _ _ q => ge_int q) h
theorem wp_eqi {a b : Int} {t u : Tok} {k : Kt Value} (h : k (.bool (a == b)) g) : Wp c (compareOp .Eq (.int a t) (.int b u)) g k := Wp.pure' (fun _ _ q => eq_int q) h
theorem wp_nei {a b : Int} {t u : Tok} {k : Kt Value} (h : k (.bool (!(a == b))) g) : Wp c (compareOp .NotEq (.int a t) (.int b u)) g k := Wp.pure' (fun _ _ q => ne_int q) h
theorem wp_eqs {a b : Str} {t u : Tok} {k : Kt Value} (h : k (.bool (a == b)) g) : Wp c (compareOp .Eq (.str a t) (.str b u)) g k := Wp.pure' (fun _ _ q => PyProof.Rows.eq_str q) h
end
theorem vCmp_ok {c : Cg} {op : CmpOp} {a b : Value} {g : Sg} {k : Kt Value} (h : vCmp c op a b g k) : Wp c (compareOp op a b) g k := by
  unfold vCmp at h
  split at h
  · split at h
    · exact wp_lt h
    · exact wp_le h
    · exact wp_ge h
    · exact wp_eqi h
    · exact wp_nei h
    · exact h
  · split at h
    · exact wp_eqs h
    · exact h
  · exact h
section
variable {c : Cg} {env : Env} {nam : Str → Pos → Sg → Kt Value → Prop} {sto : Str → Value → Sg → Kt Unit → Prop} {r : Vr}
theorem vCompare_ok (R : Vok c env r) {a : PySem.Expr} {ops : List CmpOp} {bs : List PySem.Expr} {pos : Pos} {g : Sg} {k : Kt Value} (h : vCompare c env r a ops bs pos g k) : Wp c (eval (.Compare a ops bs pos) env) g k := by
  match ops, bs, h with
  | [op], [b], h => exact cond_ok2 h (fun _ h => h) fun e h => wp_cmp e ((R.e h).mono fun _ _ h => (R.e h).mono fun _ _ h => vCmp_ok h)
  | [], _, h => exact h
  | _ :: _ :: _, _, h => exact h
  | [_], [], h => exact h
  | [_], _ :: _ :: _, h => exact h
end
section
variable {c : Cg} {g : Sg} {env : Env}
theorem wp_call {func : PySem.Expr} {args : List PySem.Expr} {pos : Pos} {k : Kt Value} (he : eval (.Call func args [] pos) env = (do callWith pos (← eval func env) [] (backTo pos (starEach args env)) (backToKw pos (keywordEach [] env))))
    (h : Wp c (eval func env) g fun fv g => Wp c (callWith pos fv [] (backTo pos (starEach args env)) []) g k) : Wp c (eval (.Call func args [] pos) env) g k :=
  ⟨fun O H s Q S q => Call_ (h.run O H s _ S fun _ _ _ _ S1 k1 => k1.run O H _ Q S1 q) he⟩
theorem wp_withK {fv : Value} {first : List Value} {e : PySem.Expr} {rest : List PySem.Expr} {pos : Pos} {k : Kt Value} (hk : ∀ P, keepIn (hd.heap_39 P) fv = true) (he : starEach (e :: rest) env = (false, eval e env) :: starEach rest env) (hp : ((backTo pos (starEach rest env)).any fun x => x.1) = false)
    (h : Wp c (spliced (backTo pos (starEach (e :: rest) env))) g fun vs g => Wp c (call fv (first ++ vs)) g k) : Wp c (callWith pos fv first (backTo pos (starEach (e :: rest) env)) []) g k :=
  ⟨fun O H s Q S q => callWith_K O.X (hk _) (h.run O H s _ S fun _ _ _ _ S1 k1 => ⟨O.X.keeps S1.fr.keep, k1.run O H _ Q S1 q⟩) he hp⟩
theorem wp_withK0 {fv : Value} {first : List Value} {pos : Pos} {k : Kt Value} (hk : ∀ P, keepIn (hd.heap_39 P) fv = true) (h : Wp c (call fv (first ++ [])) g k) : Wp c (callWith pos fv first (backTo pos (starEach [] env)) []) g k :=
  ⟨fun O H s Q S q => callWith_K0 (O.X.keeps S.fr.keep) (hk _) (h.run O H s _ S q)⟩
theorem wp_withB {id' : String} {first : List Value} {e : PySem.Expr} {rest : List PySem.Expr} {pos : Pos} {k : Kt Value} (he : starEach (e :: rest) env = (false, eval e env) :: starEach rest env) (hp : ((backTo pos (starEach rest env)).any fun x => x.1) = false)
    (h : Wp c (spliced (backTo pos (starEach (e :: rest) env))) g fun vs g => Wp c (call (.builtin id') (first ++ vs)) g k) : Wp c (callWith pos (.builtin id') first (backTo pos (starEach (e :: rest) env)) []) g k :=
  ⟨fun O H s Q S q => callWith_method1 (h.run O H s _ S fun _ _ _ _ S1 k1 => k1.run O H _ Q S1 q) he hp⟩
theorem wp_withB0 {id' : String} {first : List Value} {pos : Pos} {k : Kt Value} (h : Wp c (call (.builtin id') (first ++ [])) g k) : Wp c (callWith pos (.builtin id') first (backTo pos (starEach [] env)) []) g k :=
  ⟨fun O H s Q S q => callWith_method0 (by rw [List.append_nil] at h; exact h.run O H s _ S q)⟩
theorem wp_withT {T : String} {e : PySem.Expr} {rest : List PySem.Expr} {pos : Pos} {k : Kt Value} (he : starEach (e :: rest) env = (false, eval e env) :: starEach rest env) (hp : ((backTo pos (starEach rest env)).any fun x => x.1) = false)
    (h : Wp c (spliced (backTo pos (starEach (e :: rest) env))) g fun vs g => Wp c (call (.type T) vs) g k) : Wp c (callWith pos (.type T) [] (backTo pos (starEach (e :: rest) env)) []) g k :=
  ⟨fun O H s Q S q => PyProof.Rows.callWith_type1 (h.run O H s _ S fun _ _ _ _ S1 k1 => k1.run O H _ Q S1 q) he hp⟩
end
theorem fnsK_ok : ∀ a ∈ fnsK, ∀ P, keepIn (hd.heap_39 P) (.ref a) = true := by
  unfold fnsK
  repeat' (first | exact List.forall_mem_nil _ | refine List.forall_mem_cons.mpr ⟨fun _ => rfl, ?_⟩)
theorem star_cons {e : PySem.Expr} (h : isStar e = false) (rest : List PySem.Expr) (env : Env) : starEach (e :: rest) env = (false, eval e env) :: starEach rest env := by
  cases e <;> first | rfl | cases h
theorem star_any {es : List PySem.Expr} (h : es.any isStar = false) (pos : Pos) (env : Env) : ((backTo pos (starEach es env)).any fun x => x.1) = false := by
  induction es with
  | nil => rfl
  | cons e es ih =>
    simp only [List.any_cons, Bool.or_eq_false_iff] at h
    rw [star_cons h.1]
    exact ih h.2
theorem vWith_ok {c : Cg} {env : Env} {r : Vr} (R : Vok c env r) {pos : Pos} {fv : Value} {first : List Value} {args : List PySem.Expr} {g : Sg} {k : Kt Value} (hnil : ∀ {g k}, r.a [] g k → k [] g) (h : vWith c env r pos fv first args g k) : Wp c (callWith pos fv first (backTo pos (starEach args env)) []) g k := by
  refine cond_ok h (fun e h => ?_) fun h => h
  obtain ⟨e1, e2⟩ := Bool.and_eq_true_iff.mp e
  replace e2 : args.any isStar = false := by simpa using e2
  cases args with
  | nil =>
    replace h := hnil h
    cases fv with
    | builtin id => exact wp_withB0 h
    | ref a => exact wp_withK0 (fnsK_ok _ (by simpa [fnOk] using e1)) h
    | type T => cases first <;> cases e1
    | _ => cases e1
  | cons x rest =>
    simp only [List.any_cons, Bool.or_eq_false_iff] at e2
    have he := star_cons e2.1 rest env
    have hp := star_any e2.2 pos env
    replace h := R.a h pos
    cases fv with
    | builtin id => exact wp_withB he hp h
    | ref a => exact wp_withK (fnsK_ok _ (by simpa [fnOk] using e1)) he hp h
    | type T =>
      cases first with
      | nil => exact wp_withT he hp h
      | cons => cases e1
    | _ => cases e1
section
variable {c : Cg} {g : Sg} {env : Env}
theorem wp_meth {o : PySem.Expr} {name : Str} {apos pos : Pos} {args : List PySem.Expr} {pl : Sem Bool} {k : Kt Value}
    (he : eval (.Call (.Attribute o name apos) args [] pos) env = (do
      let ov ← eval o env
      standAt apos.atName
      let (f, first) ← holding [ov] (getMethod ov name pl)
      callWith pos f first (backTo pos (starEach args env)) []))
    (h : Wp c (eval o env) g fun ov g => Wp c (getMethod ov name pl) g fun fx g => Wp c (callWith pos fx.1 fx.2 (backTo pos (starEach args env)) []) g k) : Wp c (eval (.Call (.Attribute o name apos) args [] pos) env) g k :=
  ⟨fun O H s Q S q => MethodCall_ (h.run O H s _ S fun _ _ _ _ S1 k1 => k1.run O H _ _ S1 fun _ _ _ _ S2 k2 => k2.run O H _ Q S2 q) he⟩
end
theorem star_all {es : List PySem.Expr} (h : es.any isStar = false) (pos : Pos) (env : Env) : ((backTo pos (starEach es env)).all fun x => !x.1) = true := by
  induction es with
  | nil => rfl
  | cons e es ih =>
    simp only [List.any_cons, Bool.or_eq_false_iff] at h
    rw [star_cons h.1]
    exact ih h.2
theorem meth_eq {o : PySem.Expr} {name : Str} {apos pos : Pos} {args : List PySem.Expr} {env : Env} (h : okMeth o args apos pos = true) :
    eval (.Call (.Attribute o name apos) args [] pos) env = (do
      let ov ← eval o env
      standAt apos.atName
      let (f, first) ← holding [ov] (getMethod ov name (plOf o env))
      callWith pos f first (backTo pos (starEach args env)) []) := by
  simp only [okMeth, Bool.and_eq_true, Bool.not_eq_true', decide_eq_true_eq] at h
  obtain ⟨h1, h2, h3, h4⟩ := h
  have e1 : attributeBase o name env (eval o env) = eval o env := by
    unfold attributeBase
    split
    · cases h1
    · rfl
  have e2 : methodCallForm (args.length + ([] : List Keyword).length) (backTo pos (starEach args env)) (backToKw pos (keywordEach [] env)) = true := by
    unfold methodCallForm
    rw [star_all h2]
    simpa [keywordEach, backToKw] using h3
  show (do let ov ← attributeBase o name env (eval o env); standAt apos.atName; methodCall o name apos pos env ov (args.length + ([] : List Keyword).length) (backTo pos (starEach args env)) (backToKw pos (keywordEach [] env))) = _
  rw [e1]
  unfold methodCall
  rw [e2]
  unfold calleeOf methodCallPos
  rw [h4]
  rfl
theorem vGet_ok {c : Cg} {env : Env} {o : PySem.Expr} {ov : Value} {name : Str} {g : Sg} {k : Kt (Value × List Value)} (h : vGet c env o ov name g k) : Wp c (getMethod ov name (plOf o env)) g k := by
  unfold vGet at h
  split at h
  · refine cond_ok h (fun e h => ?_) fun h => cond_ok h (fun e h => ?_) fun h => cond_ok h (fun e h => ?_) fun h => h
    · rw [eq_of_beq e]; exact Wp.pure' (fun _ _ q => GM.join q) h
    · rw [eq_of_beq e]; exact Wp.pure' (fun _ _ q => GM.lower q) h
    · rw [eq_of_beq e]; exact Wp.pure' (fun _ _ q => GM.split q) h
  · exact h
section
variable {c : Cg} {env : Env} {nam : Str → Pos → Sg → Kt Value → Prop} {sto : Str → Value → Sg → Kt Unit → Prop} {r : Vr}
theorem vMeth_ok (R : Vok2 c env r) {o : PySem.Expr} {nm : Str} {apos : Pos} {args : List PySem.Expr} {pos : Pos} {g : Sg} {k : Kt Value} (h : vMeth c env r o nm apos args pos g k) : Wp c (eval (.Call (.Attribute o nm apos) args [] pos) env) g k :=
  cond_ok2 h (fun e h => wp_meth (meth_eq e) ((R.e h).mono fun _ _ h => (vGet_ok h).mono fun _ _ h => vWith_ok R.toVok R.nil h)) fun _ h => h
theorem vCall_ok (R : Vok2 c env r) {f : PySem.Expr} {args : List PySem.Expr} {kw : List Keyword} {pos : Pos} {g : Sg} {k : Kt Value} (h : vCall c env r f args kw pos g k) : Wp c (eval (.Call f args kw pos) env) g k := by
  match kw, h with
  | [], h =>
    cases f with
    | Attribute o nm apos => exact vMeth_ok R h
    | _ => exact wp_call rfl ((R.e h).mono fun _ _ h => vWith_ok R.toVok R.nil h)
  | _ :: _, h => exact h
theorem wp_attrN {x : Str} {xp pos : Pos} {nm : Str} {g : Sg} {k : Kt Value} (h : Wp c (eval (.Name x xp) env) g fun ov g => Wp c (getAttr ov nm true) g k) : Wp c (eval (.Attribute (.Name x xp) nm pos) env) g k :=
  ⟨fun O H s Q S q => Attribute_name (h.run O H s _ S fun _ _ _ _ S1 k1 => k1.run O H _ Q S1 q)⟩
theorem vE_ok (R : Vok2 c env r) (hn : ∀ {x pos g k}, nam x pos g k → Wp c (eval (.Name x pos) env) g k) {e : PySem.Expr} {g : Sg} {k : Kt Value} (h : vE c env nam r e g k) : Wp c (eval e env) g k := by
  cases e with
  | Name x pos => exact hn h
  | Constant v n pos => exact vConst_ok h
  | BinOp a op b pos => exact wp_bin ((R.e h).mono fun _ _ h => (R.e h).mono fun _ _ h => vBin_ok h)
  | Compare a ops bs pos => exact vCompare_ok R.toVok h
  | Call f args kw pos => exact vCall_ok R h
  | List es pos => exact wp_list ((R.a h pos).mono fun _ _ h => cond_ok2 h (fun e h => wp_newList (of_decide_eq_true e) h) fun _ h => h)
  | Tuple es n pos => exact wp_tuple ((R.a h pos).mono fun _ _ h => cond_ok2 h (fun e h => wp_newTuple (of_decide_eq_true e) h) fun _ h => h)
  | Subscript o i pos => exact cond_ok2 h (fun _ h => h) fun _ h => wp_subs ((R.e h).mono fun _ _ h => R.e h)
  | Attribute o nm pos =>
    cases o with
    | Name x xp => exact wp_attrN (R.e h)
    | _ => exact h
  | _ => exact h
end
section
variable {prog : Program} {w : World} {p : Program} {loose : List Str} {mean : ExcName → Option Value} {mg mb : Str → Option Value}
noncomputable def maxT (rows : List Row) : Nat := rows.foldl (fun a r => max a r.t) 0
noncomputable def maxF (rows : List Row) : Nat := rows.foldl (fun a r => max a r.f) 0
structure S3 (rows : List Row) where
  rest : List Row
  tb : Nat
  bf : Nat
  mv : Option Value
  tx : Option Value
  tk : Str → Tok
  h1 : rest.foldl (fun a r => max a r.t) tb = maxT rows
  h2 : rest.foldl (fun a r => max a r.f) bf = maxF rows
  h3 : ∀ r ∈ rest, r ∈ rows
end
section
variable {c : Cg} {g : Sg} {env : Env}
theorem wp_tcmp {l r : PySem.Expr} {op : CmpOp} {pos : Pos} {whole : Sem Value} {k : Kt Bool} (hb : behindInMarks op r = false) (h : Wp c (eval l env) g fun a g => Wp c (eval r env) g fun b g => Wp c (compareOp op a b) g fun v g => Wp c (truthy v) g k) : Wp c (PySem.isTrue (.Compare l [op] [r] pos) env whole) g k :=
  ⟨fun O H s Q S q => wpAny_isTrue_Compare1 (h.run O H s _ S fun _ _ _ _ S1 k1 => k1.run O H _ _ S1 fun _ _ _ _ S2 k2 => k2.run O H _ _ S2 fun _ _ _ _ S3 k3 => k3.run O H _ Q S3 q) hb⟩
theorem wp_tnot {x : PySem.Expr} {pos : Pos} {whole : Sem Value} {k : Kt Bool} (h : Wp c (PySem.isTrue x env (eval x env)) g fun b g => k (!b) g) : Wp c (PySem.isTrue (.UnaryOp .Not x pos) env whole) g k :=
  ⟨fun O H s Q S q => isTrue_not (h.run O H s _ S fun _ _ _ _ S1 k1 => q _ _ _ _ S1 k1)⟩
theorem wp_plain {e : PySem.Expr} {whole : Sem Value} {k : Kt Bool} (he : PySem.isTrue e env whole = (do let v ← whole; standAt e.pos; holding [v] (truthy v))) (h : Wp c whole g fun v g => Wp c (truthy v) g k) : Wp c (PySem.isTrue e env whole) g k :=
  ⟨fun O H s Q S q => isTrue_plain (h.run O H s _ S fun _ _ _ _ S1 k1 => k1.run O H _ Q S1 q) he⟩
theorem wp_tbool {b : Bool} {k : Kt Bool} (h : k b g) : Wp c (truthy (.bool b)) g k := Wp.pure' (fun _ _ q => wpAny_truthy_bool q) h
theorem wp_tint {a : Int} {t : Tok} {k : Kt Bool} (h : k (a != 0) g) : Wp c (truthy (.int a t)) g k := Wp.pure' (fun _ _ q => truthy_int q) h
end
theorem vTru_ok {c : Cg} {v : Value} {g : Sg} {k : Kt Bool} (h : vTru c v g k) : Wp c (truthy v) g k := by
  unfold vTru at h
  split at h
  · exact wp_tbool h
  · exact wp_tint h
  · exact h
section
variable {c : Cg} {g : Sg} {env : Env}
theorem wp_tor {x : PySem.Expr} {rest : List PySem.Expr} {pos : Pos} {whole : Sem Value} {k : Kt Bool} (h : Wp c (PySem.isTrue x env (eval x env)) g fun b g => bif b then k true g else Wp c (PySem.isTrue (.BoolOp .Or rest pos) env whole) g k) : Wp c (PySem.isTrue (.BoolOp .Or (x :: rest) pos) env whole) g k :=
  ⟨fun O H s Q S q => isTrue_or (h.run O H s _ S fun b _ _ _ S1 k1 => by
    cases b with
    | true => exact q _ _ _ _ S1 k1
    | false => exact k1.run O H _ _ S1 q)⟩
theorem wp_tor0 {pos : Pos} {whole : Sem Value} {k : Kt Bool} (h : k false g) : Wp c (PySem.isTrue (.BoolOp .Or [] pos) env whole) g k := Wp.pure' (fun _ _ q => isTrue_or_nil q) h
theorem wp_tand {x : PySem.Expr} {rest : List PySem.Expr} {pos : Pos} {whole : Sem Value} {k : Kt Bool} (h : Wp c (PySem.isTrue x env (eval x env)) g fun b g => bif b then Wp c (PySem.isTrue (.BoolOp .And rest pos) env whole) g k else k false g) : Wp c (PySem.isTrue (.BoolOp .And (x :: rest) pos) env whole) g k :=
  ⟨fun O H s Q S q => isTrue_and (h.run O H s _ S fun b _ _ _ S1 k1 => by
    cases b with
    | false => exact q _ _ _ _ S1 k1
    | true => exact k1.run O H _ _ S1 q)⟩
theorem wp_tand0 {pos : Pos} {whole : Sem Value} {k : Kt Bool} (h : k true g) : Wp c (PySem.isTrue (.BoolOp .And [] pos) env whole) g k := Wp.pure' (fun _ _ q => isTrue_and_nil q) h
end
section
variable {c : Cg} {env : Env} {nam : Str → Pos → Sg → Kt Value → Prop} {sto : Str → Value → Sg → Kt Unit → Prop} {r : Vr}
theorem vBool_ok (R : Vok c env r) {op : BoolOp} {es : List PySem.Expr} {pos : Pos} {g : Sg} {k : Kt Bool} (h : vBool r op es pos g k) (whole : Sem Value) : Wp c (PySem.isTrue (.BoolOp op es pos) env whole) g k := by
  have any : ∀ {op rest} {w1 w2 : Sem Value}, PySem.isTrue (.BoolOp op rest pos) env w1 = PySem.isTrue (.BoolOp op rest pos) env w2 := by intros; rfl
  match op, es, h with
  | .Or, x :: rest, h => exact wp_tor ((R.t h).mono fun _ _ h => cond_ok2 h (fun e h => by subst e; exact h) fun e h => by subst e; exact any ▸ R.t h)
  | .Or, [], h => exact wp_tor0 h
  | .And, x :: rest, h => exact wp_tand ((R.t h).mono fun _ _ h => cond_ok2 h (fun e h => by subst e; exact any ▸ R.t h) fun e h => by subst e; exact h)
  | .And, [], h => exact wp_tand0 h
theorem vT_ok (R : Vok c env r) {e : PySem.Expr} {g : Sg} {k : Kt Bool} (h : vT c env r e g k) : Wp c (PySem.isTrue e env (eval e env)) g k := by
  cases e with
  | UnaryOp op x pos =>
    cases op with
    | Not => exact wp_tnot (R.t h)
    | _ => exact wp_plain rfl ((R.e h).mono fun _ _ h => vTru_ok h)
  | BoolOp op es pos => exact vBool_ok R h _
  | IfExp => exact h
  | Compare a ops bs pos =>
    match ops, bs, h with
    | [op], [b], h => exact cond_ok2 h (fun _ h => h) fun e h => wp_tcmp e ((R.e h).mono fun _ _ h => (R.e h).mono fun _ _ h => (vCmp_ok h).mono fun _ _ h => vTru_ok h)
    | [], _, h => exact h
    | _ :: _ :: _, _, h => exact h
    | [_], [], h => exact h
    | [_], _ :: _ :: _, h => exact h
  | _ => exact wp_plain rfl ((R.e h).mono fun _ _ h => vTru_ok h)
end
section
variable {c : Cg} {g : Sg} {env : Env}
theorem wp_args {e : PySem.Expr} {rest : List PySem.Expr} {pos : Pos} {k : Kt (List Value)} (he : starEach (e :: rest) env = (false, eval e env) :: starEach rest env)
    (h : Wp c (eval e env) g fun v g => Wp c (spliced (backTo pos (starEach rest env))) g fun vs g => k (v :: vs) g) : Wp c (spliced (backTo pos (starEach (e :: rest) env))) g k :=
  ⟨fun O H s Q S q => args_cons (h.run O H s _ S fun _ _ _ _ S1 k1 => k1.run O H _ _ S1 fun _ _ _ _ S2 k2 => q _ _ _ _ S2 k2) he⟩
theorem wp_args0 {pos : Pos} {k : Kt (List Value)} (h : k [] g) : Wp c (spliced (backTo pos (starEach [] env))) g k := Wp.pure' (fun _ _ q => args_nil q) h
end
section
variable {c : Cg} {env : Env} {nam : Str → Pos → Sg → Kt Value → Prop} {sto : Str → Value → Sg → Kt Unit → Prop} {r : Vr}
theorem vA_ok (R : Vok c env r) {es : List PySem.Expr} {g : Sg} {k : Kt (List Value)} (h : vA c env r es g k) (pos : Pos) : Wp c (spliced (backTo pos (starEach es env))) g k := by
  cases es with
  | nil => exact wp_args0 h
  | cons e rest => exact cond_ok2 h (fun _ h => h pos) fun e h => wp_args (star_cons e _ _) ((R.e h).mono fun _ _ h => R.a h pos)
end
section
variable {c : Cg} {g : Sg} {env : Env}
theorem wp_nil {k : Kt Flow} (h : k .next g) : Wp c (execs [] env) g k := Wp.pure' (fun _ _ q => wpAny_execs_nil q) h
theorem wp_if {test : PySem.Expr} {body orelse : List Stmt} {pos : Pos} {k : Kt Flow} (h : Wp c (PySem.isTrue test env (eval test env)) g fun b g => bif b then Wp c (execs body env) g k else Wp c (execs orelse env) g k) : Wp c (exec (.If test body orelse pos) env) g k :=
  ⟨fun O H s Q S q => wpAny_If (h.run O H s _ S fun b _ _ _ S1 k1 => by
    cases b with
    | true => exact k1.run O H _ Q S1 q
    | false => exact k1.run O H _ Q S1 q)⟩
theorem wp_break {pos : Pos} {k : Kt Flow} (h : k .brk g) : Wp c (exec (.Break pos) env) g k := Wp.pure' (fun _ _ q => wpAny_Break q) h
theorem wp_ret {e : PySem.Expr} {pos : Pos} {k : Kt Flow} (h : Wp c (eval e env) g fun v g => k (.ret v) g) : Wp c (exec (.Return (some e) pos) env) g k :=
  ⟨fun O H s Q S q => wpAny_Return_some (h.run O H s _ S fun _ _ _ _ S1 k1 => q _ _ _ _ S1 k1)⟩
theorem wp_expr {e : PySem.Expr} {pos : Pos} {k : Kt Flow} (h1 : interactive env = false) (h2 : swapsWith e none pos.line env = pure false) (h : Wp c (eval e env) g fun _ g => k .next g) : Wp c (exec (.Expr e pos) env) g k :=
  ⟨fun O H s Q S q => wpAny_Expr_any (h.run O H s _ S fun _ _ _ _ S1 k1 => q _ _ _ _ S1 k1) h1 h2⟩
end
theorem swaps_of {value : PySem.Expr} (h : noSwap value = true) (tgt : Option PySem.Expr) (n : Nat) (env : Env) : swapsWith value tgt n env = pure false := by
  cases value <;> first | rfl | cases h
section
variable {c : Cg} {g : Sg} {env : Env}
theorem wp_asgS {o i value : PySem.Expr} {pos' pos : Pos} {k : Kt Flow} (hs : swapsWith value (some (.Subscript o i pos')) pos.line env = pure false) (h : Wp c (eval value env) g fun v g => Wp c (eval o env) g fun ov g => Wp c (eval i env) g fun iv g => Wp c (setItem ov iv v) g fun _ g => k .next g) : Wp c (exec (.Assign [.Subscript o i pos'] value pos) env) g k :=
  ⟨fun O H s Q S q => wpAny_Assign_Subscript (h.run O H s _ S fun _ _ _ _ S1 k1 => k1.run O H _ _ S1 fun _ _ _ _ S2 k2 => k2.run O H _ _ S2 fun _ _ _ _ S3 k3 => k3.run O H _ _ S3 fun _ _ _ _ S4 k4 => q _ _ _ _ S4 k4) hs⟩
theorem wp_asgA {o value : PySem.Expr} {attr : Str} {pos' pos : Pos} {k : Kt Flow} (hs : swapsWith value (some (.Attribute o attr pos')) pos.line env = pure false) (h : Wp c (eval value env) g fun v g => Wp c (eval o env) g fun ov g => Wp c (setAttr ov attr v) g fun _ g => k .next g) : Wp c (exec (.Assign [.Attribute o attr pos'] value pos) env) g k :=
  ⟨fun O H s Q S q => plainObj_wpAny_Assign_Attribute (h.run O H s _ S fun _ _ _ _ S1 k1 => k1.run O H _ _ S1 fun _ _ _ _ S2 k2 => k2.run O H _ _ S2 fun _ _ _ _ S4 k4 => q _ _ _ _ S4 k4) hs⟩
end
section
variable {c : Cg} {env : Env} {nam : Str → Pos → Sg → Kt Value → Prop} {sto : Str → Value → Sg → Kt Unit → Prop} {r : Vr}
theorem vAsg_ok (R : Vok c env r) (hs : ∀ {x v g k}, sto x v g k → Wp c (storeName env x v) g k) {tgt value : PySem.Expr} {pos : Pos} {g : Sg} {k : Kt Flow} (h : vAsg c env sto r tgt value pos g k) : Wp c (exec (.Assign [tgt] value pos) env) g k := by
  refine cond_ok2 h (fun e h => ?_) fun _ h => h
  cases tgt with
  | Name x p => exact wp_asgN (swaps_of e _ _ _) ((R.e h).mono fun _ _ h => hs h)
  | Subscript o i p => exact wp_asgS (swaps_of e _ _ _) ((R.e h).mono fun _ _ h => (R.e h).mono fun _ _ h => R.e h)
  | Attribute o nm p => exact wp_asgA (swaps_of e _ _ _) ((R.e h).mono fun _ _ h => R.e h)
  | _ => exact h
theorem vStmt_ok (R : Vok c env r) (hs : ∀ {x v g k}, sto x v g k → Wp c (storeName env x v) g k) {st : Stmt} {g : Sg} {k : Kt Flow} (h : vStmt c env sto r st g k) : Wp c (exec st env) g k := by
  cases st with
  | Assign ts value pos =>
    match ts, h with
    | [t], h => exact vAsg_ok R hs h
    | [], h => exact h
    | _ :: _ :: _, h => exact h
  | Expr e pos => exact cond_ok2 h (fun e h => by
      obtain ⟨e1, e2⟩ := Bool.and_eq_true_iff.mp e
      exact wp_expr (by simpa using e1) (swaps_of e2 _ _ _) (R.e h)) fun _ h => h
  | If t a b pos => exact wp_if ((R.t h).mono fun _ _ h => cond_ok2 h (fun e h => by subst e; exact R.s h) fun e h => by subst e; exact R.s h)
  | Return e pos =>
    match e, h with
    | some e, h => exact wp_ret (R.e h)
    | none, h => exact h
  | Break pos => exact wp_break h
  | _ => exact h
theorem vS_ok (R : Vok c env r) (hs : ∀ {x v g k}, sto x v g k → Wp c (storeName env x v) g k) {b : List Stmt} {g : Sg} {k : Kt Flow} (h : vS c env sto r b g k) : Wp c (execs b env) g k := by
  cases b with
  | nil => exact wp_nil h
  | cons st rest => exact wp_cons ((vStmt_ok R hs h).mono fun fl _ h => by
      cases fl with
      | next => exact R.s h
      | _ => exact h)
theorem vgen_ok (hn : ∀ {x pos g k}, nam x pos g k → Wp c (eval (.Name x pos) env) g k) (hs : ∀ {x v g k}, sto x v g k → Wp c (storeName env x v) g k) (n : Nat) : Vok2 c env (vgen c env nam sto n) := by
  induction n with
  | zero => exact ⟨⟨False.elim, False.elim, False.elim, False.elim⟩, False.elim⟩
  | succ n ih => exact ⟨⟨vE_ok ih hn, vT_ok ih.toVok, vA_ok ih.toVok, vS_ok ih.toVok hs⟩, id⟩
theorem vbody {b : List Stmt} {g : Sg} {k : Kt Flow} (n : Nat) (h : (vgen c (ev c) (vName c) (vStore c) n).s b g k) : Wp c (execs b (ev c)) g k := (vgen_ok vName_ok vStore_ok n).s h
theorem vexpr {e : PySem.Expr} {g : Sg} {k : Kt Value} (n : Nat) (h : (vgen c (ev c) (vName c) (vStore c) n).e e g k) : Wp c (eval e (ev c)) g k := (vgen_ok vName_ok vStore_ok n).e h
end
noncomputable def Room (c : Cg) (n : Nat) : Prop := c.dp + n < recursionLimit ∧ c.un + 8 * n < cLine
theorem Room.le {c : Cg} {n m : Nat} (R : Room c n) (h : Nat.ble m n = true) : Room c m :=
  ⟨Nat.lt_of_le_of_lt (Nat.add_le_add_left (Nat.le_of_ble_eq_true h) _) R.1, Nat.lt_of_le_of_lt (Nat.add_le_add_left (Nat.mul_le_mul_left _ (Nat.le_of_ble_eq_true h)) _) R.2⟩
section
variable {prog : Program} {w : World} {A A₀ : Around} {s : Shared} {K : Frag} {L : Addr} {h₀ base : Heap} {m mg mb : Str → Option Value} {news : List (Addr × Obj)} {p : Program} {loose : List Str} {mean : ExcName → Option Value}
theorem enter_cells {env : Env} {outer : List Env} {R : Result → Shared → Prop} {name qual : Str} {params : Arguments} {body : List Stmt} {scope : Scope} {dV kV doc pm cdv ct oc : Value} {an od : Option Addr} {osl : Array (Option Value)} {f : Addr} {args : Args} {binds : List (Str × Value)}
    (B : Below A₀ base outer h₀) (F : Fr h₀ L s.heap m) (X₀ : K.In h₀) (N : News h₀ L s.heap news) (T : Top p loose mean mg mb h₀) (hA : A.frames = some (env :: outer)) (hf : env.frame = some L) (hke : env.scope.kind = .function)
    (ho : K.lookup f = some ⟨oc, od, .func (fnOf name qual params body scope dV kV doc pm an cdv ct), osl⟩) (hcd : codeIn K cdv qual = true) (hroom : A.depth < recursionLimit)
    (hbind : BindsTo s (fnOf name qual params body scope dV kV doc pm an cdv ct) args binds) (hkind : (binds.all fun y => scope.names.lookup y.1 == some .local || scope.names.lookup y.1 == some .cell) = true)
    (hnd : ((cellsFrom 0 scope.names []).map (·.1)).Nodup)
    (h : ∀ g L' h₁ tk cells, Fr h₀ L g m → Fr g L' h₁ (bindL (envOfC qual scope L' f cdv).kindOf binds fun _ => none) → News g L' h₁ (cells ++ news) →
      CellsAre (bindC (envOfC qual scope L' f cdv).kindOf binds fun _ => none) (cellsFrom (L' + 1) scope.names []) cells → Below A base (env :: outer) g → K.In g → Top p loose mean mg mb g →
      (∀ b o, b ∉ news.map (·.1) → s.heap.get? b = some o → g.get? b = some o) → (∀ b o, g.get? b = some o → s.heap.get? b = some o) → (∀ p ∈ news, p.1 < L') →
      wpAny (model prog w) (A.deeper (envOfC qual scope L' f cdv)) (execs body (envOfC qual scope L' f cdv))
        (fun fl s' => LeaveK h₀ L m g R (match fl with | .ret v => v | _ => .none) s')
        (fun e s' => wpAny (model prog w) (A.deeper (envOfC qual scope L' f cdv)) (leaving (envOfC qual scope L' f cdv) e) (fun _ s'' => R (.error e) s'') (fun e' s'' => R (.error e') s'') s')
        { s with heap := h₁, toks := tk })
    (hco : scope.isCoroutine = false) (hgen : scope.isGenerator = false) (hk : scope.kind = .function) : codeAny (model prog w) A (.call (.ref f) args) R s := by
  obtain ⟨FG, BG, st, lv⟩ := groundX (R := R) B F N hA hf hke
  have X : K.In s.heap := X₀.keeps F.keep
  refine codeAny_call_function hroom (X _ _ ho) rfl hco hgen rfl (codeRec_of X hcd) (hbind _ _ _ _ ?_)
  refine wpAny_newFunctionEnv_cells hk (kindsX hkind _) fun env' he s' x => ?_
  subst he
  refine ⟨(T.nolimit.keeps F.keep).keeps x.toInCall.keep, codeAny_func ?_⟩
  obtain ⟨h₁, tk, rfl, _⟩ := x.done
  have hk₁ := x.toInCall.keep
  obtain ⟨cells, NC, Y⟩ := Cl.news (h₀ := s.heap) (Nat.le_refl _) fun n c hm => ⟨x.cell n c (lookup_of_mem_nodup (cellsFrom_names scope.names 0 (s.heap.objs.size + 1) [] [] rfl ▸ hnd) hm), x.above n c hm⟩
  refine wpAny_mono (h _ s.heap.objs.size h₁ tk cells FG ⟨x.toInCall.ns, fun b o e => hk₁ b o (of_hideAll _ e), Nat.le_of_eq (hideAll_size _ _)⟩ (fun p hp => ?_) Y BG (X₀.keeps st) (T.keeps st)
    (fun b o hn e => hideAll_get _ e hn) (fun b o e => of_hideAll _ e) (fun p hp => Heap.lt_size (N p hp).1)) (fun fl s' hl => lv _ _ hl) fun _ _ y => y
  rcases List.mem_append.mp hp with hp | hp
  · refine ⟨(NC p hp).1, (NC p hp).2.1, ?_⟩
    cases q : (hideAll s.heap (news.map (·.1))).get? p.1 with
    | none => rfl
    | some o => have := of_hideAll _ q; rw [(NC p hp).2.2] at this; cases this
  · exact ⟨hk₁ _ _ (N p hp).1, Nat.ne_of_lt (Heap.lt_size (N p hp).1), hideAll_none _ (List.mem_map_of_mem hp)⟩
end
theorem kept_led {s h' g h₀ : Heap} {L L' : Addr} {m' : Str → Option Value} {led n9 : List (Addr × Obj)} {ch : List Addr} (hG : ∀ b o, b ∉ led.map (·.1) → s.get? b = some o → g.get? b = some o) (F : Fr g L' h' m') (N9 : News g L' h' n9) (N : News h₀ L s led) (hs : ∀ q ∈ led, q.1 ∈ ch ∨ q ∈ n9) : Kept (L :: ch) s h' := fun b o hb e => by
  by_cases hm : b ∈ led.map (·.1)
  · obtain ⟨q, hq, rfl⟩ := List.mem_map.mp hm
    rcases hs q hq with h | h
    · exact absurd (List.mem_cons_of_mem _ h) hb
    · have e1 := (N q hq).1
      rw [e] at e1
      have e2 := (N9 q h).1
      rw [e2, ← e1]
  · exact F.keep _ _ (hG b o hm e)
theorem fresh_led {s h' g : Heap} {L' x : Addr} {o : Obj} {led n9 : List (Addr × Obj)} (hG : ∀ b o, b ∉ led.map (·.1) → s.get? b = some o → g.get? b = some o) (N9 : News g L' h' n9) (hm : (x, o) ∈ n9) (hx : x ∉ led.map (·.1)) : s.get? x = none := by
  cases q : s.get? x with
  | none => rfl
  | some o' => have := hG _ _ hx q; rw [(N9 _ hm).2.2] at this; cases this
noncomputable def Cg.fn (c : Cg) (sc : Scope) (cl : List (Str × Addr)) : Cg := { c with sc := sc, cl := cl, ex := [] }
noncomputable def retOf : Flow → Value
  | .ret v => v
  | _ => .none
noncomputable def PostW (led : Nw) (ch : List Addr) (s₀ : Heap) (P : Heap → Heap → Value → Prop) : Kt Flow := fun fl g =>
  (∀ q ∈ led, q.1 ∈ ch ∨ q ∈ g.o ++ g.t) ∧ ∀ h', Apart g.o g.t → (∀ q ∈ g.o ++ g.t, h'.get? q.1 = some q.2 ∧ (q.1 ∉ led.map (·.1) → s₀.get? q.1 = none)) → P s₀ h' (retOf fl)
section
variable {prog : Program} {w : World} {p : Program} {loose : List Str} {mean : ExcName → Option Value} {mg mb : Str → Option Value}
theorem cells_congr {m m' : Mp} : ∀ {cl : List (Str × Addr)} {cs : Nw}, CellsAre m cl cs → (∀ y ∈ cl, m y.1 = m' y.1) → CellsAre m' cl cs
  | _, _, .nil, _ => .nil
  | _, _, .cons (n := n) d Y, h => .cons (by rw [← h _ (.head _)]; exact d) (cells_congr Y fun y hy => h y (.tail _ hy))
theorem cells_fst {m : Mp} : ∀ {cl : List (Str × Addr)} {cs : Nw}, CellsAre m cl cs → cs.map (·.1) = cl.map (·.2)
  | _, _, .nil => rfl
  | _, _, .cons _ Y => congrArg _ (cells_fst Y)
theorem cells_low {L : Addr} : ∀ (names : List (Str × NameKind)) (n : Nat) (acc : List (Str × Addr)), L < n → (∀ y ∈ acc, L < y.2 ∧ y.2 < n) → (acc.map (·.2)).Nodup → (∀ y ∈ cellsFrom n names acc, L < y.2) ∧ ((cellsFrom n names acc).map (·.2)).Nodup
  | [], n, acc, _, h, d => ⟨fun y hy => (h y hy).1, d⟩
  | (x, kd) :: r, n, acc, hn, h, d => by
    unfold cellsFrom
    split
    · refine cells_low r (n + 1) _ (Nat.lt_succ_of_lt hn) (List.forall_mem_cons.mpr ⟨⟨hn, Nat.lt_succ_self n⟩, fun y hy => ⟨(h y hy).1, Nat.lt_succ_of_lt (h y hy).2⟩⟩) (List.nodup_cons.mpr ⟨fun hm => ?_, d⟩)
      obtain ⟨y, hy, e⟩ := List.mem_map.mp hm
      have e' : y.2 = n := e
      exact absurd (h y hy).2 (by rw [e']; exact Nat.lt_irrefl _)
    · exact cells_low r n acc hn h d
theorem cells_mem : ∀ (names : List (Str × NameKind)) (n : Nat) (acc : List (Str × Addr)) (y : Str × Addr), y ∈ cellsFrom n names acc → y ∈ acc ∨ (y.1, NameKind.cell) ∈ names
  | [], _, _, _, h => .inl h
  | (x, kd) :: r, n, acc, y, h => by
    unfold cellsFrom at h
    split at h
    · rename_i e
      rcases cells_mem r _ _ y h with h | h
      · rcases List.mem_cons.mp h with rfl | h
        · exact .inr (by rw [eq_of_beq e]; exact .head _)
        · exact .inl h
      · exact .inr (.tail _ h)
    · exact (cells_mem r _ _ y h).imp id (.tail _)
theorem bindL_cell {kd : Str → Option NameKind} {x : Str} (hx : kd x ≠ some .local) : ∀ (binds : List (Str × Value)) (m : Mp), bindL kd binds m x = m x
  | [], _ => rfl
  | (n, v) :: r, m => by
    show bindL kd r _ x = _
    rw [bindL_cell hx r]
    split
    · rename_i e
      exact if_neg fun q => hx (by rw [q]; exact e)
    · rfl
noncomputable def bindM (sc : Scope) (binds : List (Str × Value)) : Mp := fun x => if sc.names.any (fun y => y.1 == x && y.2 == .cell) then bindC (envX (Str.ofString "") sc 0 0 .none []).kindOf binds (fun _ => none) x else bindL (envX (Str.ofString "") sc 0 0 .none []).kindOf binds (fun _ => none) x
theorem conW_cells {fa : Addr} {vs : List Value} {n : Nat} {led : Nw} {ch : List Addr} {P : Heap → Heap → Value → Prop} {name qual : Str} {params : Arguments} {body : List Stmt} {scope : Scope} {dV kV doc pm cdv ct oc : Value} {an od : Option Addr} {osl : Array (Option Value)} {binds : List (Str × Value)} (o t : Nw)
    (ho : ∀ P, (hd.heap_39 P).lookup fa = some ⟨oc, od, .func (fnOf name qual params body scope dV kV doc pm an cdv ct), osl⟩) (hcd : ∀ P, codeIn (hd.heap_39 P) cdv qual = true)
    (hbind : ∀ s, BindsTo s (fnOf name qual params body scope dV kV doc pm an cdv ct) ⟨vs, []⟩ binds)
    (h : ∀ (c : Cg) (s₀ : Heap), Room c n → (∀ q ∈ led, q.1 < c.L) → Wp (c.fn scope (cellsFrom (c.L + 1) scope.names [])) (execs body (ev (c.fn scope (cellsFrom (c.L + 1) scope.names [])))) ⟨bindM scope binds, o, t, 0⟩ (PostW led ch s₀ P))
    (hA : ∀ h₀ L h, News h₀ L h led → Apart o t) (hot : ∀ q ∈ o ++ t, q ∈ led)
    (hkind : (binds.all fun y => scope.names.lookup y.1 == some .local || scope.names.lookup y.1 == some .cell) = true) (hnd : ((cellsFrom 0 scope.names []).map (·.1)).Nodup) (hnd' : ∀ n, (cellsFrom n scope.names []).map (·.1) = (cellsFrom 0 scope.names []).map (·.1))
    (hck : (scope.names.all fun y => !(y.2 == .cell) || (envX (Str.ofString "") scope 0 0 .none []).kindOf y.1 == some .cell) = true) (hcl : (scope.names.all fun y => !(y.2 == .cell) || ((cellsFrom 0 scope.names []).map (·.1)).contains y.1) = true)
    (hfl : (!scope.isCoroutine && (!scope.isGenerator && decide (scope.kind = .function))) = true) : ConL prog w p loose mean mg mb fa vs (n + 1) (fun _ => True) led ch P := by
  simp only [Bool.and_eq_true, Bool.not_eq_true', decide_eq_true_eq] at hfl
  obtain ⟨f1, f2, f3⟩ := hfl
  intro dp un gd cn cs a ccd cl outer A₀ base h₀ L m s Q E B F X T hkc hdp hun _ N hret
  refine wpAny_call ?_
  refine enter_cells B F X N T rfl rfl hkc (ho _) (hcd _) (by show dp < recursionLimit; omega) (hbind s) hkind hnd ?_ f1 f2 f3
  intro g L' h1 tk1 cells FG F1 N1 Y1 B1 X1 T1 hG hG' hl
  have hu := cLine_is
  have isCell : ∀ x, (scope.names.any fun y => y.1 == x && y.2 == .cell) = ((cellsFrom (L' + 1) scope.names []).lookup x).isSome := by
    intro x
    have e2 : ((cellsFrom (L' + 1) scope.names []).lookup x).isSome = ((cellsFrom 0 scope.names []).map (·.1)).contains x := by
      rw [← hnd' (L' + 1)]
      induction cellsFrom (L' + 1) scope.names [] with
      | nil => rfl
      | cons y r ih =>
        rw [List.lookup_cons, List.map_cons, List.contains_cons]
        cases e : x == y.1 with
        | true => rfl
        | false => simpa using ih
    rw [e2]
    cases e : (scope.names.any fun y => y.1 == x && y.2 == .cell) with
    | true =>
      obtain ⟨y, hy, hb⟩ := List.any_eq_true.mp e
      obtain ⟨b1, b2⟩ := Bool.and_eq_true_iff.mp hb
      have := List.all_eq_true.mp hcl y hy
      rw [b2, eq_of_beq b1] at this
      simpa using this.symm
    | false =>
      cases e3 : ((cellsFrom 0 scope.names []).map (·.1)).contains x with
      | false => rfl
      | true =>
        obtain ⟨y, hy, rfl⟩ := List.mem_map.mp (List.contains_iff_mem.mp e3)
        rcases cells_mem _ _ _ y hy with h | h
        · cases h
        · rw [List.any_eq_false] at e
          exact absurd (by simp) (e _ h)
  obtain ⟨lw, nd⟩ := cells_low (L := L') scope.names (L' + 1) [] (Nat.lt_succ_self _) (fun _ h => nomatch h) .nil
  have nd1 := hnd
  rw [← hnd' (L' + 1)] at nd1
  have Fm : Fr g L' h1 (loc (cellsFrom (L' + 1) scope.names []) (bindM scope binds)) := fr_congr F1 fun z => by
    unfold loc bindM
    rw [isCell]
    split
    · rename_i hc
      refine bindL_cell ?_ _ _
      have := isCell z
      rw [hc] at this
      obtain ⟨y, hy, hb⟩ := List.any_eq_true.mp this
      obtain ⟨b1, b2⟩ := Bool.and_eq_true_iff.mp hb
      have hk := List.all_eq_true.mp hck y hy
      rw [b2, eq_of_beq b1] at hk
      intro e
      have hk2 := eq_of_beq (by simpa using hk : ((envX (Str.ofString "") scope 0 0 .none []).kindOf z == some .cell) = true)
      exact absurd (hk2.symm.trans e) (by decide)
    · rfl
  have Ym : CellsAre (bindM scope binds) (cellsFrom (L' + 1) scope.names []) cells := cells_congr Y1 fun y hy => by
    unfold bindM
    rw [isCell, if_pos]
    · rfl
    · cases e : (cellsFrom (L' + 1) scope.names []).lookup y.1 with
      | some _ => rfl
      | none => exact absurd hy (by
          have := List.lookup_eq_none_iff.mp e
          intro hy
          have := this y hy
          simp at this)
  have hcl2 : ∀ p ∈ cells, L' < p.1 := fun p hp => by
    have : p.1 ∈ cells.map (·.1) := List.mem_map_of_mem hp
    rw [cells_fst Y1] at this
    obtain ⟨y, hy, e⟩ := List.mem_map.mp this
    exact e ▸ lw y hy
  have pw : cells.Pairwise (fun p q => q.1 ≠ p.1) := by
    have nd2 := nd
    rw [← cells_fst Y1] at nd2
    exact (List.pairwise_map.mp nd2).imp fun h => Ne.symm h
  have hne : ∀ q ∈ led, ∀ p ∈ cells, q.1 ≠ p.1 := fun q hq p hp => Nat.ne_of_lt (Nat.lt_trans (hl q hq) (hcl2 p hp))
  refine wpAny_mono ((h ⟨prog, w, p, loose, mean, mg, mb, ((ktrTop dp un gd cn cs L a ccd cl outer).deeper (envOfC qual scope L' fa cdv)).depth, ((ktrTop dp un gd cn cs L a ccd cl outer).deeper (envOfC qual scope L' fa cdv)).units, ((ktrTop dp un gd cn cs L a ccd cl outer).deeper (envOfC qual scope L' fa cdv)).guards, qual, L', fa, cdv, envX cn cs L a ccd cl :: outer, _, base, g, scope, [], []⟩ s.heap ?_ hl).run ⟨B1, X1, T1, f3, nd1⟩ [] _ _ ⟨cells, Fm, Ym, ?_, ?_, Nat.zero_le _⟩ ?_) (fun _ _ x => x) fun _ _ x => x.elim
  · exact ⟨by show dp + 1 + n < recursionLimit; omega, by simp only [units_deeper]; omega⟩
  · intro q hq
    simp only [Cg.fn, List.nil_append, List.append_nil, List.mem_append] at hq
    rcases hq with (hq | hq) | hq
    · exact N1 q (List.mem_append_left _ hq)
    · exact N1 q (List.mem_append_right _ (hot q (List.mem_append_left _ hq)))
    · exact N1 q (List.mem_append_right _ (hot q (List.mem_append_right _ hq)))
  · have A := hA g L' h1 fun q hq => N1 q (List.mem_append_right _ hq)
    simp only [Cg.fn, List.nil_append, List.append_nil]
    refine ⟨List.pairwise_append.mpr ⟨pw, A.1, fun x hx y hy => hne y (hot y (List.mem_append_left _ hy)) x hx⟩, fun x hx q hq => ?_⟩
    rcases List.mem_append.mp hx with hx | hx
    · exact hne q (hot q (List.mem_append_right _ hq)) x hx
    · exact A.2 x hx q hq
  · rintro fl h' tk' g' ⟨cs', S'⟩ ⟨p1, p2⟩
    have N' : News g L' h' (g'.o ++ g'.t) := fun q hq => S'.N q (by
      simp only [Cg.fn, List.nil_append, List.append_nil, List.mem_append] at hq ⊢
      rcases hq with hq | hq
      · exact .inl (.inr hq)
      · exact .inr hq)
    refine leaveK_ (m := m) S'.F N' fun F'' N'' => ?_
    have P' := S'.P
    simp only [Cg.fn, List.nil_append, List.append_nil] at P'
    refine hret _ _ _ F'' (kept_led hG S'.F N' N p1) (p2 h' ⟨?_, ?_⟩ fun q hq => ⟨(N' q hq).1, fun hx => fresh_led hG N' hq hx⟩)
    · exact (List.pairwise_append.mp P'.1).2.1
    · exact fun p hp => P'.2 p (List.mem_append_right _ hp)
end
noncomputable def Sg.To (c : Cg) (g g' : Sg) : Prop := ∀ H h tk, St c g H h tk → St c g' H h tk
section
variable {c : Cg} {g g' g'' : Sg} {H : Nw} {h h' : Heap} {tk tk' : Nat}
theorem Sg.To.refl : Sg.To c g g := fun _ _ _ S => S
theorem Sg.To.trans (a : Sg.To c g g') (b : Sg.To c g' g'') : Sg.To c g g'' := fun _ _ _ S => b _ _ _ (a _ _ _ S)
theorem Sg.To.names {m : Mp} (e : ∀ z, g.m z = m z) : Sg.To c g ⟨m, g.o, g.t, g.b⟩ := by
  have : m = g.m := funext fun z => (e z).symm
  subst this; exact .refl
theorem Sg.To.led {o t : Nw} (ho : o.Sublist g.o) (ht : ∀ q ∈ t, q ∈ g.t ++ c.ex) : Sg.To c g ⟨g.m, o, t, g.b⟩ := fun H _ _ ⟨cs, x⟩ => by
  refine ⟨cs, x.F, x.Y, fun q hq => x.N q ?_, ⟨x.P.1.sublist (.append (.refl _) (.append (.refl _) ho)), fun p hp q hq => x.P.2 p ?_ q ?_⟩, x.b⟩
  · simp only [List.mem_append] at hq ⊢
    rcases hq with (hq | hq | hq) | hq | hq
    · exact .inl (.inl hq)
    · exact .inl (.inr (.inl hq))
    · exact .inl (.inr (.inr (ho.mem hq)))
    · exact .inr (List.mem_append.mp (ht q hq))
    · exact .inr (.inr hq)
  · simp only [List.mem_append] at hp ⊢
    rcases hp with hp | hp | hp
    · exact .inl hp
    · exact .inr (.inl hp)
    · exact .inr (.inr (ho.mem hp))
  · rcases List.mem_append.mp hq with hq | hq
    · exact ht q hq
    · exact List.mem_append_right _ hq
theorem Sg.To.move {a b o t : Nw} (e : g.o = a ++ (b ++ o)) (et : g.t = t) : Sg.To c g ⟨g.m, a ++ o, b ++ t, g.b⟩ := fun H _ _ ⟨cs, x⟩ => by
  subst et
  have hP := x.P
  rw [e] at hP
  obtain ⟨h1, h2⟩ := hP
  rw [show cs ++ (H ++ (a ++ (b ++ o))) = (cs ++ (H ++ a)) ++ (b ++ o) by simp] at h1 h2
  rw [List.pairwise_append] at h1
  obtain ⟨p1, p234, p5⟩ := h1
  obtain ⟨p2, p3, p4⟩ := List.pairwise_append.mp p234
  refine ⟨cs, x.F, x.Y, fun q hq => x.N q ?_, ⟨?_, fun p hp q hq => ?_⟩, x.b⟩
  · rw [e]
    simp only [List.mem_append] at hq ⊢
    rcases hq with (hq | hq | hq | hq) | (hq | hq) | hq
    · exact .inl (.inl hq)
    · exact .inl (.inr (.inl hq))
    · exact .inl (.inr (.inr (.inl hq)))
    · exact .inl (.inr (.inr (.inr (.inr hq))))
    · exact .inl (.inr (.inr (.inr (.inl hq))))
    · exact .inr (.inl hq)
    · exact .inr (.inr hq)
  · show (cs ++ (H ++ (a ++ o))).Pairwise _
    rw [show cs ++ (H ++ (a ++ o)) = (cs ++ (H ++ a)) ++ o by simp]
    exact List.pairwise_append.mpr ⟨p1, p3, fun x hx y hy => p5 x hx y (List.mem_append_right _ hy)⟩
  · have hp' : p ∈ cs ++ (H ++ a) ∨ p ∈ o := by
      simp only [List.mem_append] at hp ⊢
      rcases hp with hp | hp | hp | hp
      · exact .inl (.inl hp)
      · exact .inl (.inr (.inl hp))
      · exact .inl (.inr (.inr hp))
      · exact .inr hp
    have hq' : q ∈ b ∨ q ∈ g.t ++ c.ex := by
      simp only [List.mem_append] at hq ⊢
      rcases hq with (hq | hq) | hq
      · exact .inl hq
      · exact .inr (.inl hq)
      · exact .inr (.inr hq)
    rcases hq' with hq' | hq'
    · rcases hp' with hp' | hp'
      · exact p5 p hp' q (List.mem_append_left _ hq')
      · exact Ne.symm (p4 q hq' p hp')
    · exact h2 p (by
        rcases hp' with hp' | hp'
        · exact List.mem_append_left _ hp'
        · exact List.mem_append_right _ (List.mem_append_right _ hp')) q hq'
theorem Wp.to {α : Type} {t : Sem α} {k : Kt α} (e : Sg.To c g g') (h : Wp c t g' k) : Wp c t g k := ⟨fun O H s Q S q => h.run O H s Q (e _ _ _ S) q⟩
end
noncomputable def Sg.read (g : Sg) (new : Nw) : Sg := ⟨g.m, g.o, new ++ g.t, g.b⟩
section
variable {c : Cg} {g g' g'' : Sg} {H : Nw} {h h' : Heap} {tk tk' : Nat}
theorem St.read {cs : Nw} {new : Nw} (x : St' c g H cs h tk) (hn : ∀ q ∈ new, h.get? q.1 = some q.2 ∧ q.1 ≠ c.L ∧ c.h₀.get? q.1 = none) (off : ∀ q ∈ new, ∀ p ∈ cs ++ (H ++ g.o), q.1 ≠ p.1) : St c (g.read new) H h tk := by
  refine ⟨cs, x.F, x.Y, fun q hq => ?_, ⟨x.P.1, fun p hp q hq => ?_⟩, x.b⟩
  · simp only [Sg.read, List.mem_append] at hq
    rcases hq with hq | (hq | hq) | hq
    · exact x.N q (List.mem_append_left _ (by simpa using hq))
    · exact hn q hq
    · exact x.N q (List.mem_append_right _ (List.mem_append_left _ hq))
    · exact x.N q (List.mem_append_right _ (List.mem_append_right _ hq))
  · simp only [Sg.read, List.mem_append] at hq
    rcases hq with (hq | hq) | hq
    · exact off q hq p hp
    · exact x.P.2 p hp q (List.mem_append_left _ hq)
    · exact x.P.2 p hp q (List.mem_append_right _ hq)
end
section
variable {c : Cg} {g : Sg}
theorem wp_con {fa : Addr} {vs : List Value} {n : Nat} {led : Nw} {P : Heap → Heap → Value → Prop} {k : Kt Value} (C : ConL c.prog c.w c.p c.loose c.mean c.mg c.mb fa vs n (fun _ => True) led [] P) (R : Room c n) (hN : ∀ q ∈ led, q ∈ g.o ++ (g.t ++ c.ex))
    (h : ∀ r s h', (∀ b, s.get? b = none → ∀ q ∈ g.o ++ (g.t ++ c.ex), q.1 ≠ b) → P s h' r → ∃ new, NewIn s h' new ∧ k r (g.read new)) : Wp c (call (.ref fa) vs) g k :=
  Wp.leaf fun O H s Q ⟨cs, x⟩ q => ConL.use0n C O.B x.F O.X O.T O.hk R.1 R.2 True.intro x.N (fun q hq => by
      have := hN q hq
      simp only [List.mem_append] at this ⊢
      rcases this with h | h | h
      · exact .inl (.inr (.inr h))
      · exact .inr (.inl h)
      · exact .inr (.inr h)) fun r h' tk' F' N' K FN p => by
    obtain ⟨new, hn, hk⟩ := h r _ _ (fun b hb z hz => FN b hb z (by
      simp only [List.mem_append] at hz ⊢
      rcases hz with h | h | h
      · exact .inl (.inr (.inr h))
      · exact .inr (.inl h)
      · exact .inr (.inr h))) p
    exact q _ _ _ _ (fun e => St.read ⟨F', x.Y, N', x.P, e⟩ (fun q hq => ⟨(hn q hq).2, fresh_of x.F (hn q hq).1⟩) fun q hq p hp => Ne.symm (FN _ (hn q hq).1 p (List.mem_append_left _ hp))) hk
end
section
variable {prog : Program} {w : World} {A : Around} {E : Value → Shared → Prop} {s : Shared} {env : Env} {h₀ : Heap} {target : Expr} {body orelse : List Stmt} {Q : Flow → Shared → Prop}
noncomputable def LoopE (prog : Program) (w : World) (A : Around) (env : Env) (target : Expr) (body orelse : List Stmt) (Q : Flow → Shared → Prop) (E : Value → Shared → Prop) (it : Value) (s : Shared) : Prop :=
  PassesOwn (model prog w) A env E → codeAny (model prog w) A (.forLoop target it body orelse env) (fun r s' => match r with | .ok f => Q f s' | .error e => cameBackBy (model prog w) A env E e s') s
theorem For_else {iter : Expr} {pos : Pos} {h₀ : Heap} {m : Str → Option Value} (_F : Fr h₀ env.locals s.heap m) (h : wpAny (model prog w) A (eval iter env) (fun xv s₁ => wpAny (model prog w) A (pyIter xv) (fun it s₂ => LoopE prog w A env target body orelse Q E it s₂) E s₁) E s)
    (hs : ∀ x, foldedSetIterable iter env x = pure x := by intro _; rfl) (hE : PassesOwn (model prog w) A env E := by passes_own) :
    wpAny (model prog w) A (exec (.For target iter body orelse pos) env) Q E s :=
  wpAny_For (wpAny_mono h (fun xv s₁ h₁ => wpAny_mono h₁ (fun it s₂ h₂ => h₂ hE) fun _ _ e => e) fun _ _ e => e) hs
end
section
variable {prog : Program} {w : World} {p : Program} {loose : List Str} {mean : ExcName → Option Value} {mg mb : Str → Option Value}
theorem itR_next {j n : Nat} (h : j < n) : itR ((j : Int) + 1) (((n - j : Nat) : Int) - 1) = itR ((j + 1 : Nat) : Int) ((n - (j + 1) : Nat) : Int) := by
  have e : ((n - j : Nat) : Int) - 1 = ((n - (j + 1) : Nat) : Int) := by omega
  rw [e]; rfl
end
section
variable {c : Cg} {g g' g'' : Sg} {H : Nw} {h h' : Heap} {tk tk' : Nat}
theorem St.hold {I : Addr} {o : Obj} (S : St c g H h tk) (F : Fr c.h₀ c.L h' (loc c.cl g.m)) (hk : ∀ b o, h.get? b = some o → b ≠ c.L → h'.get? b = some o) (hI : h.get? I = none) (hn : h'.get? I = some o) : St c g ((I, o) :: H) h' tk := by
  obtain ⟨cs, x⟩ := S
  have hne : ∀ q ∈ cs ++ (H ++ g.o) ++ (g.t ++ c.ex), q.1 ≠ I := fun q hq e => by
    have := (x.N q hq).1
    rw [e, hI] at this; cases this
  have hL : I ≠ c.L := fun e => by
    obtain ⟨oL, _, _, hL, _⟩ := x.F.ns
    rw [e, hL] at hI; cases hI
  have h0 : c.h₀.get? I = none := by
    cases e : c.h₀.get? I with
    | none => rfl
    | some o' => have := x.F.keep _ _ e; rw [hI] at this; cases this
  refine ⟨cs, F, x.Y, fun q hq => ?_, ?_, x.b⟩
  · have : q = (I, o) ∨ q ∈ cs ++ (H ++ g.o) ++ (g.t ++ c.ex) := by
      simp only [List.mem_append, List.cons_append, List.mem_cons] at hq ⊢
      rcases hq with (hq | hq | hq | hq) | hq
      · exact .inr (.inl (.inl hq))
      · exact .inl hq
      · exact .inr (.inl (.inr (.inl hq)))
      · exact .inr (.inl (.inr (.inr hq)))
      · exact .inr (.inr hq)
    rcases this with rfl | hq
    · exact ⟨hn, hL, h0⟩
    · have z := x.N q hq
      exact ⟨hk _ _ z.1 z.2.1, z.2⟩
  · have := apart_push (a := cs) (b := H ++ g.o) (T := g.t ++ c.ex) (p := (I, o)) x.P hne
    simpa using this
end
theorem get_size (h : Heap) : h.get? h.objs.size = none := by
  cases e : h.get? h.objs.size with
  | none => rfl
  | some o => exact absurd (Heap.lt_size e) (Nat.lt_irrefl _)
section
variable {c : Cg} {g : Sg}
noncomputable abbrev TurnW (c : Cg) (W : Nat → Sg → Prop) (j : Nat) (k : Kt Flow) : Kt Flow := fun fl g' => match fl with
  | .next | .cont => ∃ g'', Sg.To c g' g'' ∧ W (j + 1) g''
  | .brk => k .next g'
  | .ret v => k (.ret v) g'
end
section
variable {prog : Program} {w : World} {A : Around} {E : Value → Shared → Prop} {s : Shared} {env : Env} {h₀ : Heap} {target : Expr} {body orelse : List Stmt} {Q : Flow → Shared → Prop}
theorem LoopE.turn {it : Value} (h : wpAny (model prog w) A (pyNext it) (fun r s₁ => match r with
      | none => wpAny (model prog w) A (execs orelse env) Q E s₁
      | some v => wpAny (model prog w) A (letOwnedTupleGo target it v) (fun _ s₁' =>
          wpAny (model prog w) A (assign target env v) (fun _ s₂ => wpAny (model prog w) A (execs body env) (fun f s₃ => match f with
            | .next | .cont => LoopE prog w A env target body orelse Q E it s₃
            | .brk => Q .next s₃
            | .ret v => Q (.ret v) s₃) E s₂) E s₁') E s₁) E s) : LoopE prog w A env target body orelse Q E it s := by
  intro hE
  refine codeAny_of_tree ?_
  show wpAny _ A ((forTurn target it body orelse env).onRaise (fun x => do noteFrame x env; theTreesLotGoes x)) _ _ s
  refine wpAny_noted ?_
  simp only [forTurn]
  refine wpAny_bind (wpAny_standAt (wpAny_bind (wpAny_onRaise (wpAny_mono h (fun r s₁ h₁ => ?_) fun e s' h' => wpAny_standAt (hE e s' h')))))
  cases r with
  | none => exact wpAny_pure ⟨rfl, codeAny_block (wpAny_passesOwn hE h₁)⟩
  | some v =>
    refine wpAny_bind (wpAny_mono h₁ (fun _ s₁' h₁' => ?_) hE)
    refine wpAny_bind (wpAny_mono h₁' (fun _ s₂ h₂ => wpAny_bind (wpAny_mono h₂ (fun f s₃ h₃ => ?_) hE)) hE)
    cases f with
    | next => exact wpAny_pure ⟨rfl, h₃ hE⟩
    | cont => exact wpAny_pure ⟨rfl, h₃ hE⟩
    | brk => exact wpAny_pure h₃
    | ret v => exact wpAny_pure h₃
end
section
variable {c : Cg} {g g' g'' : Sg} {H : Nw} {h h' : Heap} {tk tk' : Nat}
theorem St.drop {q : Addr × Obj} (S : St c g (q :: H) h tk) : St c g H h tk := by
  obtain ⟨cs, x⟩ := S
  refine ⟨cs, x.F, x.Y, fun q hq => x.N q ?_, ⟨x.P.1.sublist (.append (.refl _) (.append (List.sublist_cons_self _ _) (.refl _))), fun p hp => x.P.2 p ?_⟩, x.b⟩
  · simp only [List.mem_append, List.cons_append, List.mem_cons] at hq ⊢
    rcases hq with (hq | hq | hq) | hq
    · exact .inl (.inl hq)
    · exact .inl (.inr (.inr (.inl hq)))
    · exact .inl (.inr (.inr (.inr hq)))
    · exact .inr hq
  · simp only [List.mem_append, List.cons_append, List.mem_cons] at hp ⊢
    rcases hp with hp | hp | hp
    · exact .inl hp
    · exact .inr (.inr (.inl hp))
    · exact .inr (.inr (.inr hp))
theorem St.turn {I : Addr} {o o' : Obj} (S : St c g ((I, o) :: H) h tk) (hs : ∀ b o, b ≠ I → h.get? b = some o → h'.get? b = some o) (hn : h'.get? I = some o') : St c g ((I, o') :: H) h' tk := by
  obtain ⟨cs, x⟩ := S
  have hI := x.N (I, o) (List.mem_append_left _ (List.mem_append_right _ (.head _)))
  have hP : ((cs ++ []) ++ (I, o) :: (H ++ g.o)).Pairwise (fun p q : Addr × Obj => q.1 ≠ p.1) := by rw [List.append_nil]; exact x.P.1
  rw [List.pairwise_append, List.pairwise_cons] at hP
  obtain ⟨p1, ⟨p2, p3⟩, p4⟩ := hP
  have hne : ∀ q ∈ cs ++ (H ++ g.o) ++ (g.t ++ c.ex), q.1 ≠ I := fun q hq => by
    rcases List.mem_append.mp hq with hq | hq
    · rcases List.mem_append.mp hq with hq | hq
      · exact Ne.symm (p4 q (List.mem_append_left _ hq) _ (.head _))
      · exact p2 q hq
    · exact x.P.2 _ (List.mem_append_right _ (.head _)) q hq
  obtain ⟨⟨oL, a1, a2, hL, a3⟩, kp, ab⟩ := x.F
  refine ⟨cs, ⟨⟨oL, a1, a2, hs _ _ (Ne.symm hI.2.1) hL, a3⟩, fun b o e => hs _ _ (fun q => ?_) (kp b o e), ab⟩, x.Y, fun q hq => ?_, ?_, x.b⟩
  · rw [q, hI.2.2] at e; cases e
  · have : q = (I, o') ∨ q ∈ cs ++ (H ++ g.o) ++ (g.t ++ c.ex) := by
      simp only [List.mem_append, List.cons_append, List.mem_cons] at hq ⊢
      rcases hq with (hq | hq | hq | hq) | hq
      · exact .inr (.inl (.inl hq))
      · exact .inl hq
      · exact .inr (.inl (.inr (.inl hq)))
      · exact .inr (.inl (.inr (.inr hq)))
      · exact .inr (.inr hq)
    rcases this with rfl | hq
    · exact ⟨hn, hI.2⟩
    · have z : q ∈ cs ++ ((I, o) :: H ++ g.o) ++ (g.t ++ c.ex) := by
        simp only [List.mem_append, List.cons_append, List.mem_cons] at hq ⊢
        rcases hq with (hq | hq | hq) | hq
        · exact .inl (.inl hq)
        · exact .inl (.inr (.inr (.inl hq)))
        · exact .inl (.inr (.inr (.inr hq)))
        · exact .inr hq
      exact ⟨hs _ _ (hne q hq) (x.N q z).1, (x.N q z).2⟩
  · exact apart_push (a := cs) (b := H ++ g.o) (T := g.t ++ c.ex) (p := (I, o')) ⟨List.pairwise_append.mpr ⟨(List.pairwise_append.mp p1).1, p3, fun x hx y hy => p4 x (List.mem_append_left _ hx) y (.tail _ hy)⟩, fun p hp => x.P.2 p (by
      simp only [List.mem_append, List.cons_append, List.mem_cons] at hp ⊢
      rcases hp with hp | hp | hp
      · exact .inl hp
      · exact .inr (.inr (.inl hp))
      · exact .inr (.inr (.inr hp)))⟩ hne
end
theorem St.off {c : Cg} {g : Sg} {H : Nw} {h h' : Heap} {tk : Nat} {I : Addr} {o : Obj} (S : St c g ((I, o) :: H) h tk) (hs : ∀ b o, b ≠ I → h.get? b = some o → h'.get? b = some o) : St c g H h' tk := by
  obtain ⟨cs, x⟩ := S.drop
  obtain ⟨cs2, x2⟩ := S
  have hI := x2.N (I, o) (List.mem_append_left _ (List.mem_append_right _ (.head _)))
  have hP : ((cs2 ++ []) ++ (I, o) :: (H ++ g.o)).Pairwise (fun p q : Addr × Obj => q.1 ≠ p.1) := by rw [List.append_nil]; exact x2.P.1
  rw [List.pairwise_append, List.pairwise_cons] at hP
  obtain ⟨p1, ⟨p2, p3⟩, p4⟩ := hP
  have hne : ∀ q ∈ cs ++ (H ++ g.o) ++ (g.t ++ c.ex), q.1 ≠ I := fun q hq => by
    rcases List.mem_append.mp hq with hq | hq
    · rcases List.mem_append.mp hq with hq | hq
      · have : q.1 ∈ cs.map (·.1) := List.mem_map_of_mem hq
        rw [cells_fst x.Y, ← cells_fst x2.Y] at this
        obtain ⟨z, hz, e⟩ := List.mem_map.mp this
        exact e ▸ Ne.symm (p4 z (List.mem_append_left _ hz) _ (.head _))
      · exact p2 q hq
    · exact x2.P.2 _ (List.mem_append_right _ (.head _)) q hq
  obtain ⟨⟨oL, a1, a2, hL, a3⟩, kp, ab⟩ := x.F
  exact ⟨cs, ⟨⟨oL, a1, a2, hs _ _ (Ne.symm hI.2.1) hL, a3⟩, fun b o e => hs _ _ (fun q => by rw [q, hI.2.2] at e; cases e) (kp b o e), ab⟩, x.Y, fun q hq => ⟨hs _ _ (hne q hq) (x.N q hq).1, (x.N q hq).2⟩, x.P, x.b⟩
section
variable {c : Cg} {g : Sg}
theorem loop_core {tgt : PySem.Expr} {body orelse : List Stmt} {n : Nat} {W : Nat → Sg → Prop} {val : Nat → Value → Prop} {IA : Addr → Nat → Obj → Prop} {k : Kt Flow}
    (hgo : ∀ I j o v (s : Shared) (Q : Unit → Shared → Prop), IA I j o → s.heap.get? I = some o → Q () s → wpAny (model c.prog c.w) (ar c) (letOwnedTupleGo tgt (.ref I) v) Q NoE s)
    (nx : ∀ j g H (s : Shared) I o (Q : Option Value → Shared → Prop), j < n → W j g → IA I j o → St c g ((I, o) :: H) s.heap s.toks →
      (∀ v h' tk' o', val j v → IA I (j + 1) o' → h'.get? I = some o' → (∀ b o, b ≠ I → s.heap.get? b = some o → h'.get? b = some o) → s.toks ≤ tk' → Q (some v) { s with heap := h', toks := tk' }) → wpAny (model c.prog c.w) (ar c) (pyNext (.ref I)) Q NoE s)
    (nd : ∀ g H (s : Shared) I o (Q : Option Value → Shared → Prop), W n g → IA I n o → St c g ((I, o) :: H) s.heap s.toks → (∀ h', (∀ b o, b ≠ I → s.heap.get? b = some o → h'.get? b = some o) → Q none { s with heap := h' }) → wpAny (model c.prog c.w) (ar c) (pyNext (.ref I)) Q NoE s)
    (turn : ∀ j g v, j < n → W j g → val j v → Wp c (assign tgt (ev c) v) g fun _ g => Wp c (execs body (ev c)) g (TurnW c W j k))
    (fin : ∀ g, W n g → Wp c (execs orelse (ev c)) g k) (O : Ck c) (H : Nw) (Q : Flow → Shared → Prop) (I : Addr) : ∀ m j g (s : Shared) o, j + m = n → W j g → IA I j o → St c g ((I, o) :: H) s.heap s.toks →
      (∀ v h' tk' g', St c g' H h' tk' → k v g' → Q v { s with heap := h', toks := tk' }) → LoopE c.prog c.w (ar c) (ev c) tgt body orelse Q NoE (.ref I) s := by
  intro m
  induction m with
  | zero =>
    intro j g s o hj hW hI S q
    rw [Nat.add_zero] at hj
    subst hj
    exact LoopE.turn (nd g H s I o _ hW hI S fun h' hs => (fin g hW).run O H { s with heap := h' } _ (S.off hs) q)
  | succ m ih =>
    intro j g s o hj hW hI S q
    have hjn : j < n := by omega
    refine LoopE.turn (nx j g H s I o _ hjn hW hI S fun v h' tk' o' hv hI' ho' hs ht => ?_)
    have S1 : St c g ((I, o') :: H) h' tk' := (S.turn hs ho').toks' ht
    refine hgo I _ o' v { s with heap := h', toks := tk' } _ hI' ho' ?_
    refine (turn j g v hjn hW hv).run O ((I, o') :: H) { s with heap := h', toks := tk' } _ S1 fun _ h2 tk2 g2 S2 T2 => ?_
    refine T2.run O ((I, o') :: H) { s with heap := h2, toks := tk2 } _ S2 fun fl h3 tk3 g3 S3 T3 => ?_
    cases fl with
    | next =>
      obtain ⟨g4, e4, W4⟩ := T3
      exact ih (j + 1) g4 { s with heap := h3, toks := tk3 } o' (by omega) W4 hI' (e4 _ _ _ S3) q
    | cont =>
      obtain ⟨g4, e4, W4⟩ := T3
      exact ih (j + 1) g4 { s with heap := h3, toks := tk3 } o' (by omega) W4 hI' (e4 _ _ _ S3) q
    | brk => exact q _ _ _ _ S3.drop T3
    | ret v => exact q _ _ _ _ S3.drop T3
theorem wp_asN {x : Str} {pos : Pos} {v : Value} {k : Kt Unit} (h : Wp c (storeName (ev c) x v) g k) : Wp c (assign (.Name x pos) (ev c) v) g k := ⟨fun O H s Q S q => PyProof.Rows.assign_Name (h.run O H s Q S q)⟩
noncomputable def isTupTgt : PySem.Expr → Bool
  | .Tuple .. | .List .. => true
  | _ => false
theorem go_plain {tgt : PySem.Expr} (h : isTupTgt tgt = false) (it v : Value) : letOwnedTupleGo tgt it v = pure () := by
  cases tgt <;> first | rfl | cases h
theorem small_rangeN : ∀ n : Nat, n ≤ 40 → Builtin.Range.small 0 (n : Int) 1 = true ∧ Builtin.Range.rangeSize 0 (n : Int) 1 = (n : Int) := by decide
noncomputable def okG' (sc : Scope) : Bool := okG sc (Str.ofString "range")
theorem wp_forR {x : Str} {e : PySem.Expr} {body orelse : List Stmt} {px p1 p2 pos : Pos} {k : Kt Flow} (hg : okG' c.sc = true)
    (h : Wp c (eval e (ev c)) g fun v g => ∃ (n : Nat) (t : Tok) (W : Nat → Sg → Prop), v = .int (n : Int) t ∧ n ≤ 40 ∧ W 0 g ∧ (∀ j g t, j < n → W j g → Wp c (storeName (ev c) x (.int (j : Int) t)) g fun _ g => Wp c (execs body (ev c)) g (TurnW c W j k)) ∧ ∀ g, W n g → Wp c (execs orelse (ev c)) g k)
    (hs : isStar e = false) : Wp c (exec (.For (.Name x px) (.Call (.Name (Str.ofString "range") p1) [e] [] p2) body orelse pos) (ev c)) g k := by
  refine ⟨fun O H s Q S q => For_else (env := ev c) S.fr ?_ (fun _ => rfl) PassesOwn.never⟩
  have hn := globB_ok (Str.ofString "range", .type "range") (.head _)
  refine Call_ ((wp_nameB (k := fun v g' => v = .type "range" ∧ g' = g) hg (hn.1 _) hn.2.1 hn.2.2 ⟨rfl, rfl⟩).run O H s _ S ?_) rfl
  rintro v h1 tk1 g1 S1 ⟨rfl, rfl⟩
  refine PyProof.Rows.callWith_type1 (args_cons ?_ (star_cons hs _ _)) (star_cons hs _ _) rfl
  refine h.run O H _ _ S1 ?_
  rintro v h2 tk2 g2 S2 ⟨n, t, W, rfl, hn, h0, turn, fin⟩
  refine args_nil ?_
  obtain ⟨cs, x2⟩ := S2
  refine wpAny_tk g2.b x2.b (range1_rows x2.F x2.N fun h3 tk3 t1 u1 v1 R3 F3 N3 _ le => ?_)
  have hsm : Builtin.Range.small 0 (n : Int) 1 = true ∧ Builtin.Range.rangeSize 0 (n : Int) 1 = (n : Int) := small_rangeN n hn
  refine wpAny_pyIter_range R3 hsm.1 ?_
  have S3 : St c g2 H h3 tk3 := ⟨cs, F3, x2.Y, N3, x2.P, le⟩
  rw [hsm.2]
  refine loop_core (c := c) (n := n) (W := W) (val := fun j v => ∃ t, v = .int (j : Int) t) (IA := fun _ j o => o = itR (j : Int) ((n - j : Nat) : Int))
    (fun I j o v s Q _ _ q => by rw [go_plain rfl]; exact wpAny_pure q) ?_ ?_ ?_ fin O H Q h3.objs.size n 0 g2 { s with heap := h3.push (itR 0 n), toks := tk3 } (itR 0 n) (Nat.zero_add _) h0 rfl (S3.hold (S3.fr.push _) (fun b o e _ => Heap.get?_push_of_some _ e) (get_size _) (Heap.get?_push_size _ rfl)) q
  · intro j g H s I o Q hj hW hI S q
    subst hI
    have hI' := S.elim fun cs x => (x.N (I, _) (List.mem_append_left _ (List.mem_append_right _ (.head _)))).1
    refine wpAny_pyNext_range_item (step := 1) hI' (by omega) fun h' hI hs => ?_
    exact q _ h' _ _ ⟨_, rfl⟩ rfl (by rw [← itR_next hj]; exact hI) (fun b o hb e => hs.extBut b o hb e) (Nat.le_succ _)
  · intro g H s I o Q hW hI S q
    subst hI
    have hI' := S.elim fun cs x => (x.N (I, _) (List.mem_append_left _ (List.mem_append_right _ (.head _)))).1
    refine wpAny_pyNext_range_end (step := 1) rfl hI' (by omega) fun h' hs => ?_
    exact q h' fun b o hb e => hs b o hb e
  · rintro j g v hj hW ⟨t, rfl⟩
    exact wp_asN (turn j g t hj hW)
end
noncomputable def lay (l : List (Str × Option Value)) (m₀ : Mp) : Mp := fun z => match l.lookup z with
  | some v => v
  | none => m₀ z
noncomputable def Offs (l : List (Str × Option Value)) (m m₀ : Mp) : Prop := ∀ z, l.lookup z = none → m z = m₀ z
section
variable {c : Cg} {g : Sg} {l : List (Str × Option Value)} {m₀ : Mp}
theorem Offs.set {x : Str} {v : Value} (h : Offs l g.m m₀) (hx : (l.lookup x).isSome = true) : Offs l (g.set x v).m m₀ := fun z hz => by
  show (if z = x then some v else g.m z) = _
  rw [if_neg fun e => by rw [← e, hz] at hx; cases hx]
  exact h z hz
theorem Offs.lay {l' : List (Str × Option Value)} (h : (l'.all fun p => (l.lookup p.1).isSome) = true) : Offs l (lay l' m₀) m₀ := fun z hz => by
  unfold Mine.lay
  cases e : l'.lookup z with
  | none => rfl
  | some v =>
    have := List.all_eq_true.mp h _ (lookup_in e)
    rw [hz] at this; cases this
inductive Lays (m : Mp) : List (Str × Option Value) → Prop
  | nil : Lays m []
  | cons {x : Str} {v : Option Value} {l : List (Str × Option Value)} : m x = v → Lays m l → Lays m ((x, v) :: l)
theorem Lays.mem {m : Mp} {l : List (Str × Option Value)} (h : Lays m l) : ∀ p ∈ l, m p.1 = p.2 := by
  induction h with
  | nil => exact fun _ h => nomatch h
  | cons e _ ih => exact List.forall_mem_cons.mpr ⟨e, ih⟩
theorem Sg.To.lay (h1 : Lays g.m l) (h2 : Offs l g.m m₀) : Sg.To c g ⟨lay l m₀, g.o, g.t, g.b⟩ := .names fun z => by
  unfold Mine.lay
  cases e : l.lookup z with
  | none => exact h2 z e
  | some v => exact h1.mem _ (lookup_in e)
theorem mem_at (i : Nat) {nw : Nw} {q : Addr × Obj} (h : nw[i]? = some q) : q ∈ nw := List.mem_of_getElem? h
theorem in_all {q : Addr × Obj} (h : q ∈ g.o ++ g.t) : q ∈ g.o ++ (g.t ++ c.ex) := by rw [← List.append_assoc]; exact List.mem_append_left _ h
end
section
variable {c : Cg} {g : Sg}
structure Lw (c : Cg) (xv : Value) (tgt : PySem.Expr) (body orelse : List Stmt) (g : Sg) (k : Kt Flow) : Prop where
  run : Ck c → ∀ (H : Nw) (s : Shared) (Q : Flow → Shared → Prop), St c g H s.heap s.toks → (∀ v h' tk' g', St c g' H h' tk' → k v g' → Q v { s with heap := h', toks := tk' }) →
    wpAny (model c.prog c.w) (ar c) (pyIter xv) (fun it s₂ => LoopE c.prog c.w (ar c) (ev c) tgt body orelse Q NoE it s₂) NoE s
end
section
variable {c : Cg} {g : Sg} {l : List (Str × Option Value)} {m₀ : Mp}
theorem Lw.to {g' : Sg} {xv : Value} {tgt : PySem.Expr} {body orelse : List Stmt} {k : Kt Flow} (e : Sg.To c g g') (h : Lw c xv tgt body orelse g' k) : Lw c xv tgt body orelse g k := ⟨fun O H s Q S q => h.run O H s Q (e _ _ _ S) q⟩
theorem turn_mk {P : Sg → Prop} (g' : Sg) (e : Sg.To c g g') (h : P g') : ∃ g'', Sg.To c g g'' ∧ P g'' := ⟨g', e, h⟩
theorem bif_mk {b : Bool} {A B : Prop} (h1 : b = true → A) (h2 : b = false → B) : bif b then A else B := by cases b; exact h2 rfl; exact h1 rfl
end
section
variable {c : Cg} {g : Sg}
theorem wp_len {l : Addr} {vs : List Value} {e : Nat} {k : Kt Value} (hm : (l, lstObj vs e) ∈ g.o ++ (g.t ++ c.ex)) (hz : vs.length ≤ 1000) (h : ∀ t, k (.int (vs.length : Int) t) g) : Wp c (call (.builtin "len") [.ref l]) g k :=
  Wp.leaf fun _ H s Q S q => call_len_list (items := vs.toArray) ⟨_, (S.mem hm).1, rfl, _, rfl⟩ (by rw [List.size_toArray]; omega) (q _ _ _ _ (fun e => S.toks e) (by rw [List.size_toArray]; exact h _))
theorem wp_join {x : Str} {t : Tok} {D : Addr} {vs : List Value} {n : Nat} {ys : List Str} {k : Kt Value} (hm : (D, lstObj vs n) ∈ g.o ++ (g.t ++ c.ex)) (hs : StrsAre vs ys) (hx : x.length ≤ 16) (hz : (ys.map fun y => y.length).sum + ys.length ≤ 1048576) (h : ∀ t, k (.str (Txt.join x ys) t) g) : Wp c (call (.builtin "str.join") [.str x t, .ref D]) g k :=
  Wp.leaf fun _ H s Q S q => join_listW (items := vs.toArray) ⟨_, (S.mem hm).1, rfl, _, rfl⟩ (by simpa using hs) hx hz fun _ _ => q _ _ _ _ (fun e => S.toks e) (h _)
noncomputable def vNmC (env' : Env) (cl : List (Str × Addr)) (ext : List (Str × Value)) (x : Str) (v : Value) (y : Str) (_ : Pos) (g : Sg) (k : Kt Value) : Prop :=
  bif y == x then k v g
  else bif env'.kindOf y == some .cell && ((cl.lookup y).isSome && !(y == ("__debug__" : Str))) then
    (match ext.lookup y with
    | some u => k u g
    | none => match g.m y with
      | some u => k u g
      | none => False)
  else bif env'.kindOf y == some .globalImplicit && !(y == ("__debug__" : Str)) then (match globB.lookup y with
      | some u => k u g
      | none => False)
  else False
structure NmC (c : Cg) (scope : Scope) (cl : List (Str × Addr)) (ext : List (Str × Value)) (C : Addr) (env : Env) (x : Str) (v : Value) : Prop where
  own : (∃ oC m₂, (C, oC) ∈ c.ex ∧ PyProof.Rows.LCg.NsObj oC m₂ ∧ m₂ x = some v ∧ (compEnvC scope cl C env).kindOf x = some .local) ∨ (∃ a o, cl.lookup x = some a ∧ (a, o) ∈ c.ex ∧ o.data = .cell (some v) ∧ (compEnvC scope cl C env).kindOf x = some .cell)
  xd : (x == ("__debug__" : Str)) = false
  kd : (relabel scope env).kind = .function
  gl : env.globals = mainGlobals ∧ env.builtins = builtinsNs
  cells : ∀ y a, cl.lookup y = some a → y ≠ x → (∃ u o, ext.lookup y = some u ∧ (a, o) ∈ c.ex ∧ o.data = .cell (some u)) ∨ (ext.lookup y = none ∧ c.cl.lookup y = some a)
theorem NmC.ok {scope : Scope} {cl : List (Str × Addr)} {ext : List (Str × Value)} {C : Addr} {env : Env} {x : Str} {v : Value} (Z : NmC c scope cl ext C env x v) {y : Str} {pos : Pos} {g : Sg} {k : Kt Value} (h : vNmC (compEnvC scope cl C env) cl ext x v y pos g k) : Wp c (eval (.Name y pos) (compEnvC scope cl C env)) g k := by
  refine cond_ok2 h (fun e hh => ?_) fun e1 h => cond_ok2 h (fun e h => ?_) fun _ h => cond_ok2 h (fun e h => ?_) fun _ h => h.elim
  · clear h; obtain rfl := eq_of_beq e
    rcases Z.own with ⟨oC, m₂, h1, h2, h3, h4⟩ | ⟨a, o, h1, h2, h3, h4⟩
    · exact ⟨fun O H s Q S q => PySem.W.LCgL.ld_own S.news (List.mem_append_right _ (List.mem_append_right _ h1)) h2 h3 (q _ _ s.toks _ S hh) Z.kd h4 Z.xd⟩
    · exact ⟨fun O H s Q S q => PySem.W.kcf_cell S.news h1 (List.mem_append_right _ (List.mem_append_right _ h2)) h3 (q _ _ s.toks _ S hh) Z.kd h4 Z.xd⟩
  · obtain ⟨e2, e3⟩ := Bool.and_eq_true_iff.mp e
    obtain ⟨e3, e4⟩ := Bool.and_eq_true_iff.mp e3
    obtain ⟨a, ha⟩ := Option.isSome_iff_exists.mp e3
    have hd : (y == ("__debug__" : Str)) = false := by simpa using e4
    have hne : y ≠ x := fun e => by rw [e] at e1; simp at e1
    rcases Z.cells y a ha hne with ⟨u, o, h1, h2, h3⟩ | ⟨h1, h2⟩
    · rw [h1] at h
      exact ⟨fun O H s Q S q => PySem.W.kcf_cell S.news ha (List.mem_append_right _ (List.mem_append_right _ h2)) h3 (q _ _ s.toks _ S h) Z.kd (eq_of_beq e2) hd⟩
    · rw [h1] at h
      replace h : (match g.m y with | some u => k u g | none => False) := h
      split at h
      · rename_i u hu
        refine ⟨fun O H s Q S q => ?_⟩
        obtain ⟨cs, x', N⟩ := S.full
        obtain ⟨o, h3, h4⟩ := cells_at x'.Y h2
        exact PySem.W.kcf_cell N ha (List.mem_append_left _ (List.mem_append_left _ h3)) (h4.trans (by rw [hu])) (q _ _ s.toks _ S h) Z.kd (eq_of_beq e2) hd
      · exact h.elim
  · obtain ⟨e2, e3⟩ := Bool.and_eq_true_iff.mp e
    split at h
    · rename_i u hu
      have hb := globB_ok _ (lookup_in hu)
      exact ⟨fun O H s Q S q => PySem.W.LCgL.ld_built S.fr O.X O.T (hb.1 _) hb.2.1 hb.2.2 (q _ _ s.toks _ S h) Z.gl.1 Z.gl.2 Z.kd (eq_of_beq e2) (by simpa using e3)⟩
    · exact h.elim
theorem cexpr {scope : Scope} {cl : List (Str × Addr)} {ext : List (Str × Value)} {C : Addr} {env : Env} {x : Str} {v : Value} (Z : NmC c scope cl ext C env x v) {e : PySem.Expr} {k : Kt Value} (n : Nat) (h : (vgen c (compEnvC scope cl C env) (vNmC (compEnvC scope cl C env) cl ext x v) (fun _ _ _ _ => False) n).e e g k) : Wp c (eval e (compEnvC scope cl C env)) g k := (vgen_ok Z.ok False.elim n).e h
noncomputable def TurnC (c' : Cg) (env' : Env) (ct elt : PySem.Expr) (g : Sg) (o : Nw) (Yes : Value → Nw → Prop) (No : Nw → Prop) : Prop :=
  Wp c' (PySem.isTrue ct env' (eval ct env')) ⟨g.m, o, g.t, 0⟩ fun b g' => bif b then Wp c' (eval elt env') g' fun y g'' => (g''.m = g.m ∧ g''.t = g.t) ∧ Yes y g''.o else (g'.m = g.m ∧ g'.t = g.t) ∧ No g'.o
theorem ctest {scope : Scope} {cl : List (Str × Addr)} {ext : List (Str × Value)} {C : Addr} {env : Env} {x : Str} {v : Value} (Z : NmC c scope cl ext C env x v) {e : PySem.Expr} {k : Kt Bool} (n : Nat) (h : (vgen c (compEnvC scope cl C env) (vNmC (compEnvC scope cl C env) cl ext x v) (fun _ _ _ _ => False) n).t e g k) : Wp c (PySem.isTrue e (compEnvC scope cl C env) (eval e (compEnvC scope cl C env))) g k := (vgen_ok Z.ok False.elim n).t h
theorem TurnC.by {scope : Scope} {cl : List (Str × Addr)} {ext : List (Str × Value)} {C : Addr} {env : Env} {x : Str} {v : Value} {ct elt : PySem.Expr} {o : Nw} {Yes : Value → Nw → Prop} {No : Nw → Prop} (Z : NmC c scope cl ext C env x v) (n : Nat)
    (h : (vgen c (compEnvC scope cl C env) (vNmC (compEnvC scope cl C env) cl ext x v) (fun _ _ _ _ => False) n).t ct ⟨g.m, o, g.t, 0⟩ fun b g' => bif b then (vgen c (compEnvC scope cl C env) (vNmC (compEnvC scope cl C env) cl ext x v) (fun _ _ _ _ => False) n).e elt g' (fun y g'' => (g''.m = g.m ∧ g''.t = g.t) ∧ Yes y g''.o) else (g'.m = g.m ∧ g'.t = g.t) ∧ No g'.o) : TurnC c (compEnvC scope cl C env) ct elt g o Yes No :=
  (ctest Z n h).mono fun b _ h => by
    cases b with
    | true => exact cexpr Z n h
    | false => exact h
noncomputable def CapC (c : Cg) (ext : List (Str × Value)) (p : Str × Addr) : Prop := (∃ u o, ext.lookup p.1 = some u ∧ (p.2, o) ∈ c.ex ∧ o.data = .cell (some u)) ∨ (ext.lookup p.1 = none ∧ c.cl.lookup p.1 = some p.2)
theorem NmC.loc {scope : Scope} {cl : List (Str × Addr)} {ext : List (Str × Value)} {C : Addr} {env : Env} {x : Str} {v : Value} {oC : Obj} {m₂ : Mp} (hm : (C, oC) ∈ c.ex) (hC : PyProof.Rows.LCg.NsObj oC m₂) (hx : m₂ x = some v) (hk : (compEnvC scope cl C env).kindOf x = some .local) (xd : (x == ("__debug__" : Str)) = false) (kd : (relabel scope env).kind = .function) (gl : env.globals = mainGlobals ∧ env.builtins = builtinsNs)
    (hs : ∀ p ∈ cl, CapC c ext p) : NmC c scope cl ext C env x v := ⟨.inl ⟨oC, m₂, hm, hC, hx, hk⟩, xd, kd, gl, fun y a h _ => hs (y, a) (lookup_in h)⟩
theorem NmC.cell {scope : Scope} {cl : List (Str × Addr)} {ext : List (Str × Value)} {C a : Addr} {env : Env} {x : Str} {v : Value} {o : Obj} (hm : (a, o) ∈ c.ex) (ho : o.data = .cell (some v)) (hk : (compEnvC scope ((x, a) :: cl) C env).kindOf x = some .cell) (xd : (x == ("__debug__" : Str)) = false) (kd : (relabel scope env).kind = .function) (gl : env.globals = mainGlobals ∧ env.builtins = builtinsNs)
    (hs : ∀ p ∈ cl, CapC c ext p) : NmC c scope ((x, a) :: cl) ext C env x v := ⟨.inr ⟨a, o, by rw [List.lookup_cons, beq_self_eq_true], hm, ho, hk⟩, xd, kd, gl, fun y b h hne => hs (y, b) (by
    rw [List.lookup_cons, show (y == x) = false from beq_eq_false_iff_ne.mpr hne] at h
    exact lookup_in h)⟩
end
section
variable {prog : Program} {w : World} {p : Program} {loose : List Str} {mean : ExcName → Option Value} {mg mb : Str → Option Value}
theorem off1_mem {D : Addr} : ∀ {l : List (Addr × Obj)}, PyProof.Rows.LCg.Off1 D l → ∀ p ∈ l, p.1 ≠ D
  | [], _, _, h => nomatch h
  | p :: r, x, q, h => (List.mem_cons.mp h).elim (fun e => e ▸ x.1) fun h => off1_mem x.2 q h
end
noncomputable def Cg.inn (c : Cg) (led : Nw) : Cg := { c with ex := led ++ c.ex }
section
variable {c : Cg} {g : Sg} {H led : Nw} {h : Heap} {tk : Nat}
theorem Ck.inn (O : Ck c) (led : Nw) : Ck (c.inn led) := ⟨O.B, O.X, O.T, O.hk, O.nd⟩
theorem St.inn {m : Mp} {o t cs : Nw} (F : Fr c.h₀ c.L h (loc c.cl m)) (Y : CellsAre m c.cl cs) (N : News c.h₀ c.L h (led ++ (cs ++ (H ++ o) ++ (t ++ c.ex)))) (P : Apart (cs ++ (H ++ o)) (t ++ c.ex)) (off : ∀ p ∈ cs ++ (H ++ o) ++ (t ++ c.ex), ∀ q ∈ led, p.1 ≠ q.1) : St' (c.inn led) ⟨m, o, t, 0⟩ H cs h tk := by
  refine ⟨F, Y, fun q hq => N q ?_, ⟨P.1, fun p hp q hq => ?_⟩, Nat.zero_le _⟩
  · simp only [Cg.inn, List.mem_append] at hq ⊢
    rcases hq with (hq | hq | hq) | hq | hq | hq
    · exact .inr (.inl (.inl hq))
    · exact .inr (.inl (.inr (.inl hq)))
    · exact .inr (.inl (.inr (.inr hq)))
    · exact .inr (.inr (.inl hq))
    · exact .inl hq
    · exact .inr (.inr (.inr hq))
  · simp only [Cg.inn, List.mem_append] at hq
    rcases hq with hq | hq | hq
    · exact P.2 p hp q (List.mem_append_left _ hq)
    · exact Ne.symm (off p (List.mem_append_left _ hp) q hq)
    · exact P.2 p hp q (List.mem_append_right _ hq)
end
section
variable {c : Cg} {g : Sg}
noncomputable abbrev cl3 (I : Addr) (oI : Obj) (C : Addr) (oC : Obj) (D : Addr) (ys : List Value) : Nw := [(I, oI), (C, oC), (D, PyProof.Rows.LCg.lst ys)]
end
section
variable {prog : Program} {w : World} {A : Around} {E : Value → Shared → Prop} {s : Shared} {env : Env} {h₀ : Heap} {target : Expr} {body orelse : List Stmt} {Q : Flow → Shared → Prop}
noncomputable def ItemsT (prog : Program) (w : World) (A : Around) (E : Value → Shared → Prop) (h₀ : Heap) (env : Env) (target : Expr) (body orelse : List Stmt) (Q : Flow → Shared → Prop) (s : Shared) (b : Nat) (ws : List (Addr × String)) (keep : List (Addr × Obj)) : List Itm → (Str → Option Value) → List (Addr × Obj) → Prop
  | [], m, news => ∀ h tk, b ≤ tk → Fr h₀ env.locals h m → News h₀ env.locals h news → wpAny (model prog w) A (execs orelse env) Q E { s with heap := h, toks := tk }
  | a :: r, m, news => ∀ v h tk, b ≤ tk → a.Is v h → Fr h₀ env.locals h m → AllObj ws (fun its => News h₀ env.locals h (its ++ news) →
      wpAny (model prog w) A (assign target env v) (fun _ s₂ => wpAny (model prog w) A (execs body env) (UnrPostW h₀ env.locals { s with heap := h, toks := tk } its (fun m' n' => SubL keep n' ∧ ItemsT prog w A E h₀ env target body orelse Q s b ws keep r m' n') Q) E s₂) E { s with heap := h, toks := tk })
theorem ItemsT.zero {b : Nat} {ws : List (Addr × String)} {keep : List (Addr × Obj)} {m : Str → Option Value} {news : List (Addr × Obj)} (h : ∀ h tk, b ≤ tk → Fr h₀ env.locals h m → News h₀ env.locals h news → wpAny (model prog w) A (execs orelse env) Q E { s with heap := h, toks := tk }) :
    ItemsT prog w A E h₀ env target body orelse Q s b ws keep [] m news := h
end
section
variable {prog : Program} {w : World} {p : Program} {loose : List Str} {mean : ExcName → Option Value} {mg mb : Str → Option Value}
noncomputable def Stop (P : Prop) : Prop := P
theorem Stop.of {P : Prop} (h : Stop P) : P := h
end
section
open PyProof.Rows.LCg
noncomputable def CcRest (prog : Program) (w : World) (A : Around) (h₀ : Heap) (L : Addr) (m : Str → Option Value) (env : Env) (ifs : List Expr) (elt : Expr) (x : Str) (scope : Scope) (cl : List (Str × Addr)) (s : Shared) (P : Nat → Value → Prop)
    (Fin : List Value → List (Addr × Obj) → Prop) : Nat → Nat → List Value → List (Addr × Obj) → Prop
  | 0, _, ys, news => Fin ys news
  | k + 1, i, ys, news => ∀ v I oI C oC c oc D h tk (E' : Value → Shared → Prop), P i v → oc.data = .cell (some v) → Fr h₀ L h m → News h₀ L h ([(I, oI), (C, oC), (c, oc), (D, lst ys)] ++ news) → (∀ p ∈ news, ∀ q ∈ [(I, oI), (C, oC), (c, oc), (D, lst ys)], p.1 ≠ q.1) →
      wpAny (model prog w) A (forIn ifs true fun c' r => if r = true then do let ok ← isTrue c' (compEnvC scope ((x, c) :: cl) C env) (eval c' (compEnvC scope ((x, c) :: cl) C env)); pure (ForInStep.yield ok) else pure (ForInStep.yield r)) (fun ok s' => if ok = true then
        wpAny (model prog w) A (eval elt (compEnvC scope ((x, c) :: cl) C env)) (CcEnd h₀ L m { s with heap := h, toks := tk } [(I, oI), (C, oC), (c, oc), (D, lst ys)] (fun y news' => CcRest prog w A h₀ L m env ifs elt x scope cl s P Fin k (i + 1) (ys ++ [y]) news')) E' s'
        else CcEnd h₀ L m { s with heap := h, toks := tk } [(I, oI), (C, oC), (c, oc), (D, lst ys)] (fun _ news' => CcRest prog w A h₀ L m env ifs elt x scope cl s P Fin k (i + 1) ys news') Value.none s') E' { s with heap := h, toks := tk }
end
section
open PyProof.Rows.LCg
variable {prog : Program} {w : World} {A : Around} {E : Value → Shared → Prop} {s : Shared} {h₀ : Heap} {L : Addr} {m : Str → Option Value} {env : Env}
theorem CcRest.zero {ifs : List Expr} {elt : Expr} {x : Str} {scope : Scope} {cl : List (Str × Addr)} {P : Nat → Value → Prop} {Fin : List Value → List (Addr × Obj) → Prop} {i : Nat} {ys : List Value} {news : List (Addr × Obj)} (h : Fin ys news) :
    CcRest prog w A h₀ L m env ifs elt x scope cl s P Fin 0 i ys news := h
theorem CcRest.succ {ifs : List Expr} {elt : Expr} {x : Str} {scope : Scope} {cl : List (Str × Addr)} {P : Nat → Value → Prop} {Fin : List Value → List (Addr × Obj) → Prop} {k i : Nat} {ys : List Value} {news : List (Addr × Obj)}
    (h : ∀ v I oI C oC c oc D h tk (E' : Value → Shared → Prop), P i v → oc.data = .cell (some v) → Fr h₀ L h m → News h₀ L h ([(I, oI), (C, oC), (c, oc), (D, lst ys)] ++ news) → (∀ p ∈ news, ∀ q ∈ [(I, oI), (C, oC), (c, oc), (D, lst ys)], p.1 ≠ q.1) →
      wpAny (model prog w) A (forIn ifs true fun c' r => if r = true then do let ok ← isTrue c' (compEnvC scope ((x, c) :: cl) C env) (eval c' (compEnvC scope ((x, c) :: cl) C env)); pure (ForInStep.yield ok) else pure (ForInStep.yield r)) (fun ok s' => if ok = true then
        wpAny (model prog w) A (eval elt (compEnvC scope ((x, c) :: cl) C env)) (CcEnd h₀ L m { s with heap := h, toks := tk } [(I, oI), (C, oC), (c, oc), (D, lst ys)] (fun y news' => CcRest prog w A h₀ L m env ifs elt x scope cl s P Fin k (i + 1) (ys ++ [y]) news')) E' s'
        else CcEnd h₀ L m { s with heap := h, toks := tk } [(I, oI), (C, oC), (c, oc), (D, lst ys)] (fun _ news' => CcRest prog w A h₀ L m env ifs elt x scope cl s P Fin k (i + 1) ys news') Value.none s') E' { s with heap := h, toks := tk }) :
    CcRest prog w A h₀ L m env ifs elt x scope cl s P Fin (k + 1) i ys news := h
end
section
variable {c : Cg} {g : Sg} {H led : Nw} {h : Heap} {tk : Nat}
theorem St.out {m : Mp} {o o' t cs cs' : Nw} {b : Nat} (S : St' (c.inn led) ⟨m, o', t, b⟩ H cs' h tk) (off : ∀ p ∈ cs ++ (H ++ o) ++ (t ++ c.ex), ∀ q ∈ led, p.1 ≠ q.1) :
    Fr c.h₀ c.L h (loc c.cl m) ∧ CellsAre m c.cl cs' ∧ News c.h₀ c.L h (led ++ (cs' ++ (H ++ o') ++ (t ++ c.ex))) ∧ Apart (cs' ++ (H ++ o')) (t ++ c.ex) ∧ ∀ p ∈ cs' ++ (H ++ o') ++ (t ++ c.ex), ∀ q ∈ led, p.1 ≠ q.1 := by
  refine ⟨S.F, S.Y, fun q hq => S.N q ?_, ⟨S.P.1, fun p hp q hq => S.P.2 p hp q ?_⟩, fun p hp q hq => ?_⟩
  · simp only [Cg.inn, List.mem_append] at hq ⊢
    rcases hq with hq | (hq | hq | hq) | hq | hq
    · exact .inr (.inr (.inl hq))
    · exact .inl (.inl hq)
    · exact .inl (.inr (.inl hq))
    · exact .inl (.inr (.inr hq))
    · exact .inr (.inl hq)
    · exact .inr (.inr (.inr hq))
  · simp only [Cg.inn, List.mem_append] at hq ⊢
    exact hq.imp id .inr
  · rcases List.mem_append.mp hp with hp | hp
    · exact Ne.symm (S.P.2 p hp q (List.mem_append_right _ (List.mem_append_left _ hq)))
    · exact off p (List.mem_append_right _ hp) q hq
end
section
variable {c : Cg} {g : Sg}
theorem comp_core {env : Env} {scope : Scope} {cl : List (Str × Addr)} {ct elt : PySem.Expr} {x : Str} {P : Nat → Value → Prop} {n : Nat} {Inv : Nat → List Value → Nw → Prop} {s : Shared} {S : Nw → Prop} {Fin : List Value → Nw → Prop} {H : Nw} (O : Ck c)
    (hS : ∀ i ys o cs, Inv i ys o → S (cs ++ (H ++ o) ++ (g.t ++ c.ex)))
    (turn : ∀ i v ys o I oI C oC D m₂, i < n → P i v → Inv i ys o → PyProof.Rows.LCg.NsObj oC m₂ → m₂ x = some v → TurnC (c.inn (cl3 I oI C oC D ys)) (compEnvC scope cl C env) ct elt g o (fun y o' => Inv (i + 1) (ys ++ [y]) o') (fun o' => Inv (i + 1) ys o'))
    (fin : ∀ ys o cs, Inv n ys o → CellsAre g.m c.cl cs → Apart (cs ++ (H ++ o)) (g.t ++ c.ex) → Fin ys (cs ++ (H ++ o) ++ (g.t ++ c.ex))) : ∀ k i ys o cs, i + k = n → Inv i ys o → CellsAre g.m c.cl cs → Apart (cs ++ (H ++ o)) (g.t ++ c.ex) →
    PyProof.Rows.LCt.CompRestT c.prog c.w (ar c) c.h₀ c.L (loc c.cl g.m) env ct elt x scope cl s S P Fin k i ys (cs ++ (H ++ o) ++ (g.t ++ c.ex)) := by
  intro k
  induction k with
  | zero => intro i ys o cs hi hI Y A; rw [Nat.add_zero] at hi; subst hi; exact .zero (fin ys o cs hI Y A)
  | succ k ih =>
    intro i ys o cs hi hI Y A
    refine PyProof.Rows.LCt.CompRestT.succ ?_
    intro v I oI C oC D m₂ h tk E' hP hC hx F N off _
    have offm : ∀ p ∈ cs ++ (H ++ o) ++ (g.t ++ c.ex), ∀ q ∈ cl3 I oI C oC D ys, p.1 ≠ q.1 := fun p hp q hq => by
      have z := PyProof.Rows.LCg.Off3.mem off p hp
      simp only [List.mem_cons, List.not_mem_nil, or_false] at hq
      rcases hq with rfl | rfl | rfl
      · exact z.1
      · exact z.2.1
      · exact z.2.2
    have back : ∀ {h1 : Heap} {tk1 : Tok} {g1 : Sg} {ys' : List Value}, St (c.inn (cl3 I oI C oC D ys)) g1 H h1 tk1 → (g1.m = g.m ∧ g1.t = g.t) → Inv (i + 1) ys' g1.o → ∀ y, PyProof.Rows.LCg.CompEnd c.h₀ c.L (loc c.cl g.m) { s with heap := h, toks := tk } I oI C oC D (PyProof.Rows.LCg.lst ys) S (fun _ news' => PyProof.Rows.LCt.CompRestT c.prog c.w (ar c) c.h₀ c.L (loc c.cl g.m) env ct elt x scope cl s S P Fin k (i + 1) ys' news') y { s with heap := h1, toks := tk1 } := by
      rintro h1 tk1 ⟨m1, o1, t1, b1⟩ ys' ⟨cs1, S1⟩ ⟨e1, e2⟩ hI1 y
      have e1 : m1 = g.m := e1
      have e2 : t1 = g.t := e2
      subst e1 e2
      obtain ⟨F1, Y1, N1, A1, off1⟩ := St.out S1 offm
      exact ⟨h1, tk1, _, rfl, F1, N1, PyProof.Rows.LCg.Off3.of fun p hp => ⟨off1 p hp _ (.head _), off1 p hp _ (.tail _ (.head _)), off1 p hp _ (.tail _ (.tail _ (.head _)))⟩, hS _ _ _ _ hI1, ih (i + 1) ys' o1 cs1 (by omega) hI1 Y1 A1⟩
    refine wpAny_mono ((turn i v ys o I oI C oC D m₂ (by omega) hP hI hC hx).run (O.inn _) H { s with heap := h, toks := tk } _ ⟨cs, St.inn F Y N A offm⟩ ?_) (fun _ _ h => h) fun _ _ h => h.elim
    rintro b h1 tk1 g1 S1 hb
    cases b with
    | true =>
      simp only [if_true]
      refine wpAny_mono (Wp.run hb (O.inn _) H _ _ S1 ?_) (fun _ _ h => h) fun _ _ h => h.elim
      rintro y h2 tk2 g2 S2 ⟨e, hi2⟩
      exact back S2 e hi2 y
    | false =>
      simp only [Bool.false_eq_true, if_false]
      obtain ⟨e, hi2⟩ := hb
      exact back S1 e hi2 _
end
section
variable {c : Cg} {g : Sg} {scope : Scope} {cl : List (Str × Addr)} {ct elt : PySem.Expr} {x : Str}
theorem St.fin {m : Mp} {o t cs H : Nw} {h : Heap} {tk b : Nat} {D : Addr} {ob : Obj} (F : Fr c.h₀ c.L h (loc c.cl m)) (Y : CellsAre m c.cl cs) (N : News c.h₀ c.L h ((D, ob) :: (cs ++ (H ++ o) ++ (t ++ c.ex)))) (A : Apart (cs ++ (H ++ o)) (t ++ c.ex)) (off : ∀ p ∈ cs ++ (H ++ o) ++ (t ++ c.ex), p.1 ≠ D) (hb : b ≤ tk) : St c ⟨m, (D, ob) :: o, t, b⟩ H h tk := by
  refine ⟨cs, F, Y, fun q hq => N q ?_, ?_, hb⟩
  · simp only [List.mem_append, List.mem_cons] at hq ⊢
    rcases hq with (hq | hq | hq | hq) | hq
    · exact .inr (.inl (.inl hq))
    · exact .inr (.inl (.inr (.inl hq)))
    · exact .inl hq
    · exact .inr (.inl (.inr (.inr hq)))
    · exact .inr (.inr hq)
  · have := apart_push (a := cs ++ H) (b := o) (T := t ++ c.ex) (p := (D, ob)) (by rw [List.append_assoc]; exact A) (by rw [List.append_assoc cs]; exact off)
    rwa [List.append_assoc] at this
theorem wp_compL {env : Env} {it : PySem.Expr} {px pos : Pos} {ax : Addr} {vs : List Value} {l : Nat} {Inv : Nat → List Value → Nw → Prop} {k : Kt Value}
    (hclos : closureFor scope env = pure cl) (hcell : ∀ y ∈ scope.names, y.2 ≠ .cell) (hnames : ∀ y ∈ scope.names, y.2 = .local → scope.names.lookup y.1 = some .local) (hkx : scope.kind = .function ∧ scope.names.lookup x = some .local) (hs : ∀ v, foldedSetIterable it env v = pure v)
    (he : Wp c (eval it env) g fun v g' => v = .ref ax ∧ g' = g) (hn : vs.length ≤ 1000) (h0 : Inv 0 [] g.o) (hm : ∀ i ys o, Inv i ys o → (ax, lstObj vs l) ∈ o ++ (g.t ++ c.ex))
    (turn : ∀ i v ys o I oI C oC D m₂, vs[i]? = some v → Inv i ys o → PyProof.Rows.LCg.NsObj oC m₂ → m₂ x = some v → TurnC (c.inn (cl3 I oI C oC D ys)) (compEnvC scope cl C env) ct elt g o (fun y o' => Inv (i + 1) (ys ++ [y]) o') (fun o' => Inv (i + 1) ys o'))
    (fin : ∀ D ys o, Inv vs.length ys o → k (.ref D) ⟨g.m, (D, PyProof.Rows.LCg.lst ys) :: o, g.t, g.b⟩) : Wp c (eval (.ListComp elt [⟨.Name x px, it, [ct], 0⟩] scope pos) env) g k := by
  refine Wp.leaf fun O H s Q S q => ?_
  refine PyProof.Rows.LCt.ListComp_T S.fr hclos hcell hkx.1 hnames hkx.2 (he.run O H s _ S ?_) hs
  rintro v h' tk' g' ⟨cs, x'⟩ ⟨rfl, rfl⟩
  have hz : vs.toArray.size = vs.length := List.size_toArray
  have up : ∀ {cs o : Nw} {q : Addr × Obj}, q ∈ o ++ (g'.t ++ c.ex) → q ∈ cs ++ (H ++ o) ++ (g'.t ++ c.ex) := fun hq => by
    simp only [List.mem_append] at hq ⊢
    exact hq.elim (fun h => .inl (.inr (.inr h))) .inr
  refine PyProof.Rows.LCt.CompSrcT.ledger (its := vs.toArray) (k := l) rfl x'.F x'.N (up (hm 0 [] _ h0)) (by rw [hz]; exact Nat.le_trans hn (by decide)) fun g'' => ?_
  refine comp_core (S := PyProof.Rows.LCg.SrcAt c.h₀ ax vs.toArray) O (fun i ys o cs hI => .inr ⟨_, up (hm i ys o hI), rfl, _, rfl⟩) (fun i v ys o I oI C oC D m₂ _ hv => turn i v ys o I oI C oC D m₂ (by simpa using hv)) (fun ys o cs hI Y A => ?_) vs.toArray.size 0 [] g'.o cs (Nat.zero_add _) h0 x'.Y x'.P
  intro D h3 tk3 F3 N3 off
  exact q _ _ _ _ (fun hb => St.fin F3 Y N3 A (off1_mem off) hb) (fin D ys o (hz ▸ hI))
end
theorem ints_nil {vr : List Value} (h : IntsAre vr []) : vr = [] := by cases h; rfl
theorem ints_cons {vr : List Value} {x : Int} {l : List Int} (h : IntsAre vr (x :: l)) : ∃ t vr', vr = .int x t :: vr' ∧ IntsAre vr' l := by cases h with | cons _ t h => exact ⟨t, _, rfl, h⟩
section
variable {prog : Program} {w : World} {p : Program} {loose : List Str} {mean : ExcName → Option Value} {mg mb : Str → Option Value}
theorem kn_any : ∀ {ns : List Nat} {vs : List Value}, IntsAre vs (ns.map fun x => ((x : Nat) : Int)) → ∀ e : Nat, kf_ints vs = true ∧ vs.any (PyProof.Rows.isInt (e : Int)) = ns.contains e
  | [], vs, h, e => by rw [ints_nil h]; exact ⟨rfl, rfl⟩
  | n :: ns, vs, h, e => by
    obtain ⟨t, vr, rfl, h'⟩ := ints_cons h
    obtain ⟨h1, h2⟩ := kn_any h' e
    refine ⟨by simpa [kf_ints] using h1, ?_⟩
    rw [List.any_cons, h2, List.contains_cons]
    congr 1
    show ((n : Int) == (e : Int)) = (e == n)
    by_cases q : n = e
    · subst q; rw [beq_self_eq_true, beq_self_eq_true]
    · rw [beq_eq_false_iff_ne.mpr (show (n : Int) ≠ (e : Int) by omega), beq_eq_false_iff_ne.mpr (fun z => q z.symm)]
theorem kn_in {A : Around} {E : Value → Shared → Prop} {s : Shared} {h₀ : Heap} {L : Addr} {news : List (Addr × Obj)} {z : KnZ} {e : Nat} {t : Tok} {Q : Value → Shared → Prop} (N : News h₀ L s.heap news) (hok : z.ok) (hm : z.obj ∈ news) (h : Q (.bool (z.ns.contains e)) s) :
    wpAny (model prog w) A (compareOp .In (.int (e : Int) t) (.ref z.a)) Q E s := by
  obtain ⟨h1, h2⟩ := kn_any hok e
  exact kf_in (its := z.vs.toArray) (n := z.n) N hm (by simpa using h1) (by simpa using h2) h
end
section
variable {c : Cg} {g : Sg}
theorem wp_in {z : KnZ} {e : Nat} {t : Tok} {k : Kt Value} (hm : z.obj ∈ g.o ++ (g.t ++ c.ex)) (hok : z.ok) (h : k (.bool (z.ns.contains e)) g) : Wp c (compareOp .In (.int (e : Int) t) (.ref z.a)) g k :=
  ⟨fun _ _ s _ S q => kn_in S.news hok hm (q _ _ s.toks _ S h)⟩
end
section
variable {prog : Program} {w : World} {p : Program} {loose : List Str} {mean : ExcName → Option Value} {mg mb : Str → Option Value}
theorem readsAll_rows {h₀ h : Heap} {L : Addr} {news : List (Addr × Obj)} (N : News h₀ L h news) : ∀ {rows : List KnZ}, (∀ z ∈ rows, z.ok ∧ z.obj ∈ news) → ∃ as, ReadsAll h (rows.map fun z => Value.ref z.a) (rows.map fun z => PyData.list ((z.ns.map fun x => ((x : Nat) : Int)).map PyData.int)) as
  | [], _ => ⟨_, .nil⟩
  | z :: rows, hr => by
    obtain ⟨as, ih⟩ := readsAll_rows N fun y hy => hr y (.tail _ hy)
    obtain ⟨h1, h2⟩ := hr z (.head _)
    exact ⟨_, .cons (Reads.list (N _ h2).1 rfl rfl (by simpa using readsAll_of_ints h1)) ih⟩
theorem shaped_rows (rows : List (List Int)) : PySem.SeqAt.shaped (.list (rows.map fun r => .list (r.map PyData.int))) = true := by
  have h1 : ∀ rows : List (List Int), PyData.canLayAll0 (rows.map fun r => .list (r.map PyData.int)) = true ∧ PyData.depthAll (rows.map fun r => .list (r.map PyData.int)) ≤ 2 := by
    intro rows
    induction rows with
    | nil => exact ⟨by simp [PyData.canLayAll0], by simp [PyData.depthAll]⟩
    | cons r rows ih =>
      have := PySem.W.depthAll_ints r
      refine ⟨?_, ?_⟩
      · simp only [List.map_cons, PyData.canLayAll0, PyData.canLay0, canLayAll0_ints, ih.1, Bool.and_true]
      · simp only [List.map_cons, PyData.depthAll, PyData.depth]
        have := ih.2
        omega
  obtain ⟨a, b⟩ := h1 rows
  show (PyData.canLay0 _ && decide (PyData.depth _ ≤ 64)) = true
  rw [Bool.and_eq_true]
  refine ⟨by simp only [PyData.canLay0]; exact a, decide_eq_true ?_⟩
  simp only [PyData.depth]
  omega
theorem ne_rows {A : Around} {E : Value → Shared → Prop} {s : Shared} {h₀ : Heap} {L : Addr} {news : List (Addr × Obj)} {rows : List KnZ} {a b : Addr} {n k : Nat} {Q : Value → Shared → Prop} (N : News h₀ L s.heap news) (ha : (a, W.listOf (rows.map fun z => Value.ref z.a).toArray n) ∈ news) (hb : (b, W.listOf #[] k) ∈ news)
    (hr : ∀ z ∈ rows, z.ok ∧ z.obj ∈ news) (hu : A.units + 64 < cLine) (h : Q (.bool (!rows.isEmpty)) s) : wpAny (model prog w) A (compareOp .NotEq (.ref a) (.ref b)) Q E s := by
  obtain ⟨as, hR⟩ := readsAll_rows N hr
  have e : (rows.map fun z => PyData.list ((z.ns.map fun x => ((x : Nat) : Int)).map PyData.int)) = (rows.map fun z => z.ns.map fun x => ((x : Nat) : Int)).map fun r => .list (r.map PyData.int) := by rw [List.map_map]; rfl
  rw [e] at hR
  refine ne_dataH_same (Reads.list (N _ ha).1 rfl rfl hR) (Reads.list (N _ hb).1 rfl rfl .nil) (shaped_rows _) (by decide +kernel) hu ?_ ?_
  · cases rows <;> simp [PySem.SeqAt.noMix, PySem.SeqAt.noMixAll]
  · rw [show PySem.Spec.same (.list ((rows.map fun z => z.ns.map fun x => ((x : Nat) : Int)).map fun r => .list (r.map PyData.int))) (.list []) = rows.isEmpty by cases rows <;> simp [PySem.Spec.same, PySem.Spec.sameAll]]
    exact h
end
section
variable {c : Cg} {g : Sg}
theorem wp_neRows {rows : List KnZ} {a b : Addr} {n l : Nat} {k : Kt Value} (ha : (a, W.listOf (rows.map fun z => Value.ref z.a).toArray n) ∈ g.o ++ (g.t ++ c.ex)) (hb : (b, W.listOf #[] l) ∈ g.o ++ (g.t ++ c.ex)) (hr : ∀ z ∈ rows, z.ok ∧ z.obj ∈ g.o ++ (g.t ++ c.ex)) (hu : c.un + 64 < cLine) (h : k (.bool (!rows.isEmpty)) g) : Wp c (compareOp .NotEq (.ref a) (.ref b)) g k :=
  ⟨fun _ _ s _ S q => ne_rows S.news ha hb hr hu (q _ _ s.toks _ S h)⟩
end
section
variable {c : Cg} {g : Sg} {scope : Scope} {cl : List (Str × Addr)} {ct elt : PySem.Expr} {x : Str}
noncomputable def TurnI (c' : Cg) (env' : Env) (ifs : List PySem.Expr) (elt : PySem.Expr) (g : Sg) (o : Nw) (Yes : Value → Nw → Prop) (No : Nw → Prop) : Prop :=
  match ifs with
  | [] => Wp c' (eval elt env') ⟨g.m, o, g.t, 0⟩ fun y g'' => (g''.m = g.m ∧ g''.t = g.t) ∧ Yes y g''.o
  | [ct] => TurnC c' env' ct elt g o Yes No
  | _ => False
theorem range_run {H : Nw} {s : Shared} {e : PySem.Expr} {p1 pos : Pos} {n : Nat} (O : Ck c) (S : St c g H s.heap s.toks) (hg : okG' c.sc = true) (hs : isStar e = false) (he : Wp c (eval e (ev c)) g fun v g' => (∃ t, v = .int (n : Int) t) ∧ g' = g) :
    wpAny (model c.prog c.w) (ar c) (eval (.Call (.Name (Str.ofString "range") p1) [e] [] pos) (ev c)) (fun v s' => ∃ r h' tk' t u w' cs, v = .ref r ∧ s' = { s with heap := h', toks := tk' } ∧ IsRange h' r 0 (n : Int) 1 t u w' ∧ Fr c.h₀ c.L h' (loc c.cl g.m) ∧ CellsAre g.m c.cl cs ∧ News c.h₀ c.L h' (cs ++ (H ++ g.o) ++ (g.t ++ c.ex)) ∧ Apart (cs ++ (H ++ g.o)) (g.t ++ c.ex)) NoE s := by
  have hn := globB_ok (Str.ofString "range", .type "range") (.head _)
  refine Call_ ((wp_nameB (k := fun v g' => v = .type "range" ∧ g' = g) hg (hn.1 _) hn.2.1 hn.2.2 ⟨rfl, rfl⟩).run O H s _ S ?_) rfl
  rintro v h1 tk1 g1 S1 ⟨rfl, rfl⟩
  refine PyProof.Rows.callWith_type1 (args_cons ?_ (star_cons hs _ _)) (star_cons hs _ _) rfl
  refine he.run O H _ _ S1 ?_
  rintro v h2 tk2 g2 ⟨cs, x2⟩ ⟨⟨t, rfl⟩, rfl⟩
  refine args_nil ?_
  refine range1_rows x2.F x2.N fun h3 tk3 t1 u1 v1 R3 F3 N3 _ => ?_
  exact ⟨_, h3, tk3, t1, u1, v1, cs, rfl, rfl, R3, F3, x2.Y, N3, x2.P⟩
theorem wp_asgCR {e : PySem.Expr} {px p1 p2 pos : Pos} {n : Nat} {Inv : Nat → List Value → Nw → Prop} {y : Str} {py spos : Pos} {k : Kt Flow}
    (hclos : closureFor scope (ev c) = pure cl) (hcell : ∀ y ∈ scope.names, y.2 ≠ .cell) (hnames : ∀ y ∈ scope.names, y.2 = .local → scope.names.lookup y.1 = some .local) (hkx : scope.kind = .function ∧ scope.names.lookup x = some .local) (hst : isStar e = false) (hg : okG' c.sc = true)
    (hsw : swapsWith (.ListComp elt [⟨.Name x px, .Call (.Name (Str.ofString "range") p1) [e] [] p2, [ct], 0⟩] scope pos) (some (.Name y py)) spos.line (ev c) = pure true) (hy : okS c.sc y = true) (hyc : c.cl.lookup y = none)
    (he : Wp c (eval e (ev c)) g fun v g' => (∃ t, v = .int (n : Int) t) ∧ g' = g) (hn : n ≤ 40) (h0 : Inv 0 [] g.o)
    (turn : ∀ i v ys o I oI C oC D m₂, i < n → (∃ t, v = .int (i : Int) t) → Inv i ys o → PyProof.Rows.LCg.NsObj oC m₂ → m₂ x = some v → TurnC (c.inn (cl3 I oI C oC D ys)) (compEnvC scope cl C (ev c)) ct elt g o (fun y o' => Inv (i + 1) (ys ++ [y]) o') (fun o' => Inv (i + 1) ys o'))
    (fin : ∀ D ys o, Inv n ys o → k .next (Sg.set ⟨g.m, (D, PyProof.Rows.LCg.lst ys) :: o, g.t, g.b⟩ y (.ref D))) : Wp c (exec (.Assign [.Name y py] (.ListComp elt [⟨.Name x px, .Call (.Name (Str.ofString "range") p1) [e] [] p2, [ct], 0⟩] scope pos) spos) (ev c)) g k := by
  refine Wp.leaf fun O H s Q S q => ?_
  refine PyProof.Rows.LCt.Assign_ListComp_T (L := c.L) S.fr rfl hsw hclos hcell hkx.1 hnames hkx.2 (id (eq_of_beq hy)) (by show (c.sc.kind == _ || (c.sc.kind == _ && _)) = false; rw [O.hk]; rfl) (wpAny_mono (range_run O S hg hst he) ?_ fun _ _ e => e.elim) (fun _ => rfl)
  rintro v s' ⟨r, h', tk', t, u, w', cs, rfl, rfl, hR, F', Y', N', P'⟩
  refine PyProof.Rows.LCt.CompSrcT.range rfl F' N' hR (small_rangeN n hn).1 (small_rangeN n hn).2 (Nat.le_trans hn (by decide)) fun g'' => ?_
  refine comp_core (S := fun _ => True) O (fun _ _ _ _ _ => trivial) (fun i v ys o I oI C oC D m₂ hi hv => turn i v ys o I oI C oC D m₂ hi (by obtain ⟨t, e⟩ := hv; exact ⟨t, by rw [e, Int.zero_add]⟩)) (fun ys o cs hI Y A => ?_) n 0 [] g.o cs (Nat.zero_add _) h0 Y' P'
  intro D h3 tk3 F3 N3 off
  refine q _ _ _ _ (fun hb => St.fin (m := fun z => if z = y then some (.ref D) else g.m z) (fr_congr F3 fun z => ?_) (cells_off Y hyc) N3 A (off1_mem off) hb) (fin D ys o hI)
  show _ = loc c.cl (fun z => if z = y then some (.ref D) else g.m z) z
  by_cases e : z = y
  · subst e; rw [if_pos rfl, loc_none hyc, if_pos rfl]
  · rw [if_neg e]; unfold loc; split <;> simp [e]
theorem wp_compR {e : PySem.Expr} {px p1 p2 pos : Pos} {n : Nat} {Inv : Nat → List Value → Nw → Prop} {k : Kt Value}
    (hclos : closureFor scope (ev c) = pure cl) (hcell : ∀ y ∈ scope.names, y.2 ≠ .cell) (hnames : ∀ y ∈ scope.names, y.2 = .local → scope.names.lookup y.1 = some .local) (hkx : scope.kind = .function ∧ scope.names.lookup x = some .local) (hst : isStar e = false) (hg : okG' c.sc = true)
    (he : Wp c (eval e (ev c)) g fun v g' => (∃ t, v = .int (n : Int) t) ∧ g' = g) (hn : n ≤ 40) (h0 : Inv 0 [] g.o)
    (turn : ∀ i v ys o I oI C oC D m₂, i < n → (∃ t, v = .int (i : Int) t) → Inv i ys o → PyProof.Rows.LCg.NsObj oC m₂ → m₂ x = some v → TurnC (c.inn (cl3 I oI C oC D ys)) (compEnvC scope cl C (ev c)) ct elt g o (fun y o' => Inv (i + 1) (ys ++ [y]) o') (fun o' => Inv (i + 1) ys o'))
    (fin : ∀ D ys o, Inv n ys o → k (.ref D) ⟨g.m, (D, PyProof.Rows.LCg.lst ys) :: o, g.t, g.b⟩) : Wp c (eval (.ListComp elt [⟨.Name x px, .Call (.Name (Str.ofString "range") p1) [e] [] p2, [ct], 0⟩] scope pos) (ev c)) g k := by
  refine Wp.leaf fun O H s Q S q => ?_
  refine PyProof.Rows.LCt.ListComp_T (L := c.L) S.fr hclos hcell hkx.1 hnames hkx.2 (wpAny_mono (range_run O S hg hst he) ?_ fun _ _ e => e.elim) (fun _ => rfl)
  rintro v s' ⟨r, h', tk', t, u, w', cs, rfl, rfl, hR, F', Y', N', P'⟩
  refine PyProof.Rows.LCt.CompSrcT.range rfl F' N' hR (small_rangeN n hn).1 (small_rangeN n hn).2 (Nat.le_trans hn (by decide)) fun g'' => ?_
  refine comp_core (S := fun _ => True) O (fun _ _ _ _ _ => trivial) (fun i v ys o I oI C oC D m₂ hi hv => turn i v ys o I oI C oC D m₂ hi (by obtain ⟨t, e⟩ := hv; exact ⟨t, by rw [e, Int.zero_add]⟩)) (fun ys o cs hI Y A => ?_) n 0 [] g.o cs (Nat.zero_add _) h0 Y' P'
  intro D h3 tk3 F3 N3 off
  exact q _ _ _ _ (fun hb => St.fin F3 Y N3 A (off1_mem off) hb) (fin D ys o hI)
end
section
open PyProof.Rows.LCg
variable {prog : Program} {w : World} {A : Around} {E : Value → Shared → Prop} {s : Shared} {h₀ : Heap} {L : Addr} {m : Str → Option Value} {env : Env}
theorem newEnv_cell1 {scope : Scope} {cl : List (Str × Addr)} {x : Str} {M : Model} {Q : Env → Shared → Prop} (hcl : ∀ k acc, cellsFrom k scope.names acc = (x, k) :: acc) (hpc : ∀ h, pushCells h scope.names = h.push { cls := .type "cell", data := .cell none })
    (h : Q { scope := scope, locals := s.heap.objs.size, globals := env.globals, cells := (x, s.heap.objs.size + 1) :: cl, qual := env.qual, func := none, code := env.code, frame := env.frame, builtins := env.builtins } { s with heap := (s.heap.push { cls := .type "dict", data := .dict #[] }).push { cls := .type "cell", data := .cell none } }) :
    wpAny M A (newFunctionEnv scope env.globals cl [] env.qual none .none (some env)) Q E s := by
  simp only [newFunctionEnv, Option.isSome_some, if_true]
  refine wpAny_bind (wpAny_alloc ?_)
  refine wpAny_bind (wpAny_layCells _ (fun name kind cells => by cases hkc : kind == NameKind.cell <;> simp [hkc]) _ _ _ _ ?_)
  rw [hcl, hpc]
  rw [show ({ s with heap := s.heap.push { cls := .type "dict", data := .dict #[] } } : Shared).heap.objs.size = s.heap.objs.size + 1 from Heap.size_push ..]
  exact wpAny_pure h
theorem block_cell {ifs : List Expr} {elt iter : Expr} {x : Str} {px : Pos} {scope : Scope} {cl : List (Str × Addr)} {pos : Pos} {s₂ : Shared} {I : Addr} {n : Nat} {P : Nat → Value → Prop} {St : Nat → Heap → Prop} {news : List (Addr × Obj)}
    {Fin : List Value → List (Addr × Obj) → Prop} {RR : Value → Addr → Result → Shared → Prop}
    (W : Walks prog w A I [I] [I] n P St) (hsz : n ≤ 1000) (hIo : ∀ i h, St i h → ∃ o, h.get? I = some o)
    (hcl : ∀ k acc, cellsFrom k scope.names acc = (x, k) :: acc) (hpc : ∀ h, pushCells h scope.names = h.push { cls := .type "cell", data := .cell none }) (hkind : scope.kind = .function) (hx : (relabel scope env).names.lookup x = some .cell)
    (hst : St 0 s₂.heap) (F : Fr h₀ L s₂.heap m) (N : News h₀ L s₂.heap news) (hIL : L ≠ I) (hI₀ : h₀.get? I = none) (off : ∀ p ∈ news, p.1 ≠ I)
    (R : CcRest prog w A h₀ L m env ifs elt x scope cl s₂ P Fin n 0 [] news)
    (hRR : ∀ D C h tk m' ys news', Fr h₀ L h m → News h₀ L h ((D, lst ys) :: news') → (∀ p ∈ news', p.1 ≠ D) → h.Ns C m' → h₀.get? C = none → h₀.get? D = none → C ≠ L → D ≠ L → C ≠ D → (∀ p ∈ news', p.1 ≠ C) → Fin ys news' → RR (.ref D) C (.ok .next) { s₂ with heap := h, toks := tk }) :
    wpAny (model prog w) A (newList []) (fun acc s₃ => wpAny (model prog w) A (newFunctionEnv scope env.globals cl [] env.qual none .none (some env)) (fun cenv s₄ =>
      codeAny (model prog w) A (.compStart (.ListComp elt [⟨.Name x px, iter, ifs, 0⟩] scope pos) 0 (.ref I) acc { cenv with scope := relabel scope env }) (RR acc cenv.locals) s₄) E s₃) E s₂ := by
  obtain ⟨oI0, heI0⟩ := hIo _ _ hst
  have hIlt : I < s₂.heap.objs.size := Heap.lt_size heI0
  generalize hz : s₂.heap.objs.size = z at hIlt
  refine wpAny_newObj_type (newEnv_cell1 hcl hpc ?_)
  dsimp only
  rw [Heap.size_push, hz]
  generalize hH : ((s₂.heap.push { cls := .type "list", dict := none, data := .seq ([] : List Value).toArray }).push { cls := .type "dict", data := .dict #[] }).push { cls := .type "cell", data := .cell none } = H
  have old : ∀ b o, s₂.heap.get? b = some o → H.get? b = some o := fun b o e => hH ▸ Heap.get?_push_of_some _ (Heap.get?_push_of_some _ (Heap.get?_push_of_some _ e))
  have hD : H.get? z = some (lst []) := hH ▸ Heap.get?_push_of_some _ (Heap.get?_push_of_some _ (hz ▸ Heap.get?_push_size _ rfl))
  have hC : H.Ns (z + 1) fun _ => none := by
    have e1 : ((s₂.heap.push { cls := .type "list", dict := none, data := .seq ([] : List Value).toArray }).push { cls := .type "dict", data := .dict #[] }).Ns (z + 1) fun _ => none := by
      have := Heap.Ns.new (s₂.heap.push { cls := .type "list", dict := none, data := .seq ([] : List Value).toArray }) (.type "dict")
      rw [Heap.size_push, hz] at this
      exact this
    obtain ⟨o, es, ep, ho, r⟩ := e1
    exact ⟨o, es, ep, hH ▸ Heap.get?_push_of_some _ ho, r⟩
  have hc : H.IsCell (z + 1 + 1) none := by
    refine ⟨{ cls := .type "cell", data := .cell none }, ?_, rfl⟩
    have := Heap.get?_push_size ((s₂.heap.push { cls := .type "list", dict := none, data := .seq ([] : List Value).toArray }).push { cls := .type "dict", data := .dict #[] }) (o := { cls := .type "cell", data := .cell none }) rfl
    rw [Heap.size_push, Heap.size_push, hz, hH] at this
    exact this
  have fresh₀ : ∀ a, z ≤ a → h₀.get? a = none := fun a ha => by
    cases e : h₀.get? a with
    | none => rfl
    | some o' => exact absurd (Heap.lt_size (F.keep a o' e)) (by rw [hz]; exact Nat.not_lt.mpr ha)
  have hLlt : L < z := hz ▸ F.ns.lt
  have nlt : ∀ p ∈ news, p.1 < z := fun p hp => hz ▸ Heap.lt_size (N p hp).1
  have ne1 : ∀ {a : Nat}, a < z → a ≠ z ∧ a ≠ z + 1 ∧ a ≠ z + 1 + 1 := fun h => ⟨by omega, by omega, by omega⟩
  have hI3 := ne1 hIlt
  have hL3 := ne1 hLlt
  have loop : ∀ tk0, codeAny (model prog w) A (.compLoop (.ListComp elt [⟨.Name x px, iter, ifs, 0⟩] scope pos) 0 (.ref I) (.ref z) (compEnvC scope ((x, z + 1 + 1) :: cl) (z + 1) env)) (RR (.ref z) (z + 1)) { s₂ with heap := H, toks := tk0 } := by
    intro tk0
    refine codeAny_compLoop_tests
      (fun k s' => ∃ h' tk i ys news', s' = { s₂ with heap := h', toks := tk } ∧ i ≤ n ∧ k = n + 1 - i ∧ ys.length ≤ i ∧ St i h' ∧ Fr h₀ L h' m ∧ h'.Ns (z + 1) (fun _ => none) ∧ (∃ v0, h'.IsCell (z + 1 + 1) v0) ∧ News h₀ L h' ((z, lst ys) :: news') ∧
        (∀ p ∈ news', @Ne Nat p.1 I ∧ @Ne Nat p.1 z ∧ @Ne Nat p.1 (z + 1) ∧ @Ne Nat p.1 (z + 1 + 1)) ∧ CcRest prog w A h₀ L m env ifs elt x scope cl s₂ P Fin (n - i) i ys news') ?_ (n + 1)
      ⟨H, tk0, 0, [], news, rfl, Nat.zero_le _, rfl, Nat.le_refl _, W.frame _ _ _ hst fun b _ o e => old b o e, F.keeps old, hC, ⟨_, hc⟩, fun p hp => ?_, fun p hp => ⟨off p hp, ne1 (nlt p hp)⟩, R⟩
    · rintro k s' ⟨h', tk, i, ys, news', rfl, hi, rfl, hyl, hst', F', hn', ⟨v0, hc'⟩, N', off', R'⟩
      have N'D := N' _ (.head _)
      by_cases hlt : i < n
      · obtain ⟨j, hj⟩ : ∃ j, n - i = j + 1 := ⟨n - i - 1, by omega⟩
        rw [hj] at R'
        refine W.item i _ _ _ hlt hst' fun v h₂ tk₂ hPv hst₂ hk₂ => ?_
        have kI : ∀ b o, b ≠ I → h'.get? b = some o → h₂.get? b = some o := fun b o hb e => hk₂ b o (fun q => hb (List.mem_singleton.mp q)) e
        have hc₂ : h₂.IsCell (z + 1 + 1) v0 := by obtain ⟨o, ho, hd⟩ := hc'; exact ⟨o, kI _ _ (Ne.symm hI3.2.2) ho, hd⟩
        refine wpAny_assign_Name (wpAny_storeName_cell (c := z + 1 + 1) hkind hx (by simp [compEnvC, List.lookup_cons]) hc₂ fun h₃ hv₃ hs₃ => ?_)
        have k3 : ∀ b o, b ≠ z + 1 + 1 → h₂.get? b = some o → h₃.get? b = some o := fun b o hb e => (hs₃.2 b hb).trans e
        have k23 : ∀ b o, b ≠ I → b ≠ z + 1 + 1 → h'.get? b = some o → h₃.get? b = some o := fun b o h1 h2 e => k3 b o h2 (kI b o h1 e)
        have hst₃ : St (i + 1) h₃ := W.frame _ _ _ hst₂ fun b hb o e => k3 b o (by rw [List.mem_singleton.mp hb]; exact hI3.2.2) e
        obtain ⟨oI, heI⟩ := hIo _ _ hst₃
        obtain ⟨oc, heC, hoc⟩ := hv₃
        have hn₃ : h₃.Ns (z + 1) fun _ => none := by
          obtain ⟨o, es, ep, ho, r⟩ := hn'
          exact ⟨o, es, ep, k23 _ _ (Ne.symm hI3.2.1) (show z + 1 ≠ z + 1 + 1 by omega) ho, r⟩
        obtain ⟨oC, heD, hoC⟩ := ns_obj hn₃
        have F₃ : Fr h₀ L h₃ m := ⟨F'.ns.at' fun o e => k23 _ o hIL hL3.2.2 e, fun b o e => k23 b o (fun q => by rw [q, hI₀] at e; cases e) (fun q => by rw [q, fresh₀ _ (by omega)] at e; cases e) (F'.keep b o e), F'.above⟩
        have N₃ : News h₀ L h₃ ([(I, oI), (z + 1, oC), (z + 1 + 1, oc), (z, lst ys)] ++ news') := fun p hp => by
          simp only [List.cons_append, List.nil_append, List.mem_cons] at hp
          rcases hp with rfl | rfl | rfl | rfl | hp
          · exact ⟨heI, Ne.symm hIL, hI₀⟩
          · exact ⟨heD, Ne.symm hL3.2.1, fresh₀ _ (Nat.le_succ _)⟩
          · exact ⟨heC, Ne.symm hL3.2.2, fresh₀ _ (by omega)⟩
          · exact ⟨k23 _ _ (Ne.symm hI3.1) (show z ≠ z + 1 + 1 by omega) N'D.1, N'D.2⟩
          · exact ⟨k23 _ _ (off' p hp).1 (off' p hp).2.2.2 (N' p (.tail _ hp)).1, (N' p (.tail _ hp)).2⟩
        have off3 : ∀ p ∈ news', ∀ q ∈ [(I, oI), (z + 1, oC), (z + 1 + 1, oc), (z, lst ys)], p.1 ≠ q.1 := fun p hp q hq => by
          simp only [List.mem_cons, List.not_mem_nil, or_false] at hq
          rcases hq with rfl | rfl | rfl | rfl
          · exact (off' p hp).1
          · exact (off' p hp).2.2.1
          · exact (off' p hp).2.2.2
          · exact (off' p hp).2.1
        have off4 : ∀ news₄ : List (Addr × Obj), (∀ p ∈ news₄, ∀ q ∈ [(I, oI), (z + 1, oC), (z + 1 + 1, oc), (z, lst ys)], p.1 ≠ q.1) → ∀ p ∈ news₄, @Ne Nat p.1 I ∧ @Ne Nat p.1 z ∧ @Ne Nat p.1 (z + 1) ∧ @Ne Nat p.1 (z + 1 + 1) := fun news₄ o4 p hp =>
          ⟨o4 p hp _ (.head _), o4 p hp _ (.tail _ (.tail _ (.tail _ (.head _)))), o4 p hp _ (.tail _ (.head _)), o4 p hp _ (.tail _ (.tail _ (.head _)))⟩
        refine wpAny_mono (R' v I oI (z + 1) oC (z + 1 + 1) oc z h₃ _ _ hPv hoc F₃ N₃ off3) (fun ok s₄ h₄ => ?_) fun _ _ e => e
        cases ok with
        | true =>
          simp only [if_true] at h₄ ⊢
          refine wpAny_mono h₄ (fun y s₅ h₅ => ?_) fun _ _ e => e
          obtain ⟨h₄, tk₄, news₄, rfl, F₄, N₄, off₄, R₄⟩ := h₅
          have zI := (N₄ (I, oI) (.head _)).1
          have zC := (N₄ (z + 1, oC) (.tail _ (.head _))).1
          have zc := (N₄ (z + 1 + 1, oc) (.tail _ (.tail _ (.head _)))).1
          have zD := (N₄ (z, lst ys) (.tail _ (.tail _ (.tail _ (.head _)))))
          have hst₄ : St (i + 1) h₄ := W.frame _ _ _ hst₃ fun b hb o e => by
            rw [List.mem_singleton.mp hb] at e ⊢
            rw [heI] at e
            rw [zI]; exact e
          refine append_at (hsz := by rw [List.size_toArray]; exact Nat.le_trans (Nat.le_trans hyl hi) (Nat.le_trans hsz (by decide))) zD.1 fun h₅ hs₅ hD₅ => ?_
          have o4 := off4 news₄ off₄
          have k5 : ∀ b o, b ≠ z → h₄.get? b = some o → h₅.get? b = some o := fun b o hb e => (hs₅.2 b hb).trans e
          refine ⟨n + 1 - (i + 1), by omega, h₅, tk₄, i + 1, ys ++ [y], news₄, rfl, hlt, rfl, by rw [List.length_append, List.length_singleton]; exact Nat.succ_le_succ hyl, W.frame _ _ _ hst₄ fun b hb o e => k5 b o (by rw [List.mem_singleton.mp hb]; exact hI3.1) e, F₄.change hs₅ zD.2.1 zD.2.2,
            ?_, ⟨_, oc, k5 _ _ (by omega) zc, hoc⟩, fun p hp => ?_, o4, ?_⟩
          · have := hoC.ns zC
            exact this.sameBut hs₅ (show z + 1 ≠ z by omega)
          · rcases List.mem_cons.mp hp with rfl | hp
            · exact ⟨hD₅.trans (congrArg some (lst_snoc ys y)), zD.2⟩
            · have q := N₄ p (List.mem_append_right [_, _, _, _] hp)
              exact ⟨k5 _ _ (o4 p hp).2.1 q.1, q.2⟩
          · rw [show n - (i + 1) = j by omega]
            exact R₄
        | false =>
          simp only [Bool.false_eq_true, if_false] at h₄ ⊢
          obtain ⟨h₄, tk₄, news₄, rfl, F₄, N₄, off₄, R₄⟩ := h₄
          have zI := (N₄ (I, oI) (.head _)).1
          have zC := (N₄ (z + 1, oC) (.tail _ (.head _))).1
          have zc := (N₄ (z + 1 + 1, oc) (.tail _ (.tail _ (.head _)))).1
          have hst₄ : St (i + 1) h₄ := W.frame _ _ _ hst₃ fun b hb o e => by
            rw [List.mem_singleton.mp hb] at e ⊢
            rw [heI] at e
            rw [zI]; exact e
          refine ⟨n + 1 - (i + 1), by omega, h₄, tk₄, i + 1, ys, news₄, rfl, hlt, rfl, Nat.le_succ_of_le hyl, hst₄, F₄, hoC.ns zC, ⟨_, oc, zc, hoc⟩, fun p hp => ?_, off4 news₄ off₄, ?_⟩
          · rcases List.mem_cons.mp hp with rfl | hp
            · exact N₄ _ (.tail _ (.tail _ (.tail _ (.head _))))
            · exact N₄ p (List.mem_append_right [_, _, _, _] hp)
          · rw [show n - (i + 1) = j by omega]
            exact R₄
      · obtain rfl : i = n := Nat.le_antisymm hi (Nat.not_lt.mp hlt)
        rw [Nat.sub_self] at R'
        refine W.done _ _ _ hst' fun h₂ tk₂ hk₂ => ?_
        have kI : ∀ b o, b ≠ I → h'.get? b = some o → h₂.get? b = some o := fun b o hb e => hk₂ b o (fun q => hb (List.mem_singleton.mp q)) e
        refine hRR z (z + 1) h₂ tk₂ (fun _ => none) ys news' ⟨F'.ns.at' fun o e => kI _ o hIL e, fun b o e => kI b o (fun q => by rw [q, hI₀] at e; cases e) (F'.keep b o e), F'.above⟩ (fun p hp => ?_) (fun p hp => (off' p hp).2.1)
          (by obtain ⟨o, es, ep, ho, r⟩ := hn'; exact ⟨o, es, ep, kI _ _ (Ne.symm hI3.2.1) ho, r⟩) (fresh₀ _ (Nat.le_succ _)) N'D.2.2 (Ne.symm hL3.2.1) N'D.2.1 (show z + 1 ≠ z by omega) (fun p hp => (off' p hp).2.2.1) R'
        rcases List.mem_cons.mp hp with rfl | hp
        · exact ⟨kI _ _ (Ne.symm hI3.1) N'D.1, N'D.2⟩
        · exact ⟨kI _ _ (off' p hp).1 (N' p (.tail _ hp)).1, (N' p (.tail _ hp)).2⟩
    · rcases List.mem_cons.mp hp with rfl | hp
      · exact ⟨hD, Ne.symm hL3.1, fresh₀ _ (Nat.le_refl _)⟩
      · exact ⟨old _ _ (N p hp).1, (N p hp).2⟩
  exact codeAny_compStart_list (loop _) (W.self 0 _ _ _ (W.frame _ _ _ hst fun b _ o e => old b o e) (loop _))
noncomputable def CcFinE (h₀ : Heap) (L : Addr) (m : Str → Option Value) (s : Shared) (Q : Value → Shared → Prop) (ys : List Value) (news : List (Addr × Obj)) : Prop :=
  ∀ D h tk, Fr h₀ L h m → News h₀ L h ((D, lst ys) :: news) → (∀ p ∈ news, p.1 ≠ D) → Q (.ref D) { s with heap := h, toks := tk }
noncomputable def CcSrcR (prog : Program) (w : World) (A : Around) (h₀ : Heap) (L : Addr) (m : Str → Option Value) (env : Env) (ifs : List Expr) (elt : Expr) (x : Str) (scope : Scope) (cl : List (Str × Addr)) (Fin : Shared → List Value → List (Addr × Obj) → Prop) (xv : Value) (s₁ : Shared) : Prop :=
  ∃ r a b t u v n news, xv = .ref r ∧ A.handled = none ∧ Fr h₀ L s₁.heap m ∧ News h₀ L s₁.heap news ∧ IsRange s₁.heap r a b 1 t u v ∧ Builtin.Range.small a b 1 = true ∧ Builtin.Range.rangeSize a b 1 = ((n : Nat) : Int) ∧ n ≤ 1000 ∧
    ∀ s₂ : Shared, (∃ h, s₂ = { s₁ with heap := h }) → CcRest prog w A h₀ L m env ifs elt x scope cl s₂ (fun i v => ∃ t, v = .int (a + (i : Int)) t) (Fin s₂) n 0 [] news
theorem eval_cell_range {ifs : List Expr} {elt iter : Expr} {x : Str} {px : Pos} {scope : Scope} {cl : List (Str × Addr)} {pos : Pos} {Q : Value → Shared → Prop} (F₀ : Fr h₀ L s.heap m)
    (hclos : closureFor scope env = pure cl) (hcl : ∀ k acc, cellsFrom k scope.names acc = (x, k) :: acc) (hpc : ∀ h, pushCells h scope.names = h.push { cls := .type "cell", data := .cell none }) (hkind : scope.kind = .function)
    (hnames : ∀ z ∈ scope.names, z.2 = .local → scope.names.lookup z.1 = some .local) (hx : (relabel scope env).names.lookup x = some .cell)
    (h : wpAny (model prog w) A (eval iter env) (CcSrcR prog w A h₀ L m env ifs elt x scope cl (fun s₂ => CcFinE h₀ L m s₂ Q)) E s)
    (hs : ∀ x, foldedSetIterable iter env x = pure x := by intro _; rfl) :
    wpAny (model prog w) A (eval (.ListComp elt [⟨.Name x px, iter, ifs, 0⟩] scope pos) env) Q E s := by
  rw [eval_ListComp]
  refine wpAny_comprehension_free (use := none) rfl hs hclos hkind hnames (wpAny_mono h (fun xv s₁ h₁ => ?_) fun _ _ e => e)
  obtain ⟨r, a, b, t, u, v, n, news, rfl, hh, F, N, hr, hsm, hn, hsz, R⟩ := h₁
  refine wpAny_pyIter_range hr hsm ?_
  refine block_cell (range_walks hh a n) hsz (fun i h st => ⟨_, st⟩) hcl hpc hkind hx (by show IsRangeIter _ _ _ _ _; rw [hn]; simpa using Heap.get?_push_size _ rfl)
    (F.push _) (fun p hp => ⟨Heap.get?_push_of_some _ (N p hp).1, (N p hp).2⟩) (Nat.ne_of_lt F.ns.lt) (next_is_new F) (fun p hp => Nat.ne_of_lt (Heap.lt_size (N p hp).1)) (R _ ⟨_, rfl⟩) ?_
  intro D C h tk m' ys news' F' N' o1 hn hC₀ hD₀ hCL hDL hCD offC fin
  refine ⟨m', hn, fun h'' hs'' => fin D h'' tk (F'.change hs'' hCL hC₀) (fun p hp => ?_) o1⟩
  refine ⟨hs''.extBut _ _ ?_ (N' p hp).1, (N' p hp).2⟩
  rcases List.mem_cons.mp hp with rfl | hp
  · exact Ne.symm hCD
  · exact offC p hp
end
section
variable {c : Cg} {g : Sg} {scope : Scope} {cl : List (Str × Addr)} {ct elt : PySem.Expr} {x : Str}
noncomputable abbrev cl4 (I : Addr) (oI : Obj) (C : Addr) (oC : Obj) (a : Addr) (oa : Obj) (D : Addr) (ys : List Value) : Nw := [(I, oI), (C, oC), (a, oa), (D, PyProof.Rows.LCg.lst ys)]
theorem comp_coreC {env : Env} {ifs : List PySem.Expr} {P : Nat → Value → Prop} {n : Nat} {Inv : Nat → List Value → Nw → Prop} {s : Shared} {Fin : List Value → Nw → Prop} {H : Nw} (O : Ck c)
    (turn : ∀ i v ys o I oI C oC a oa D, i < n → P i v → Inv i ys o → oa.data = .cell (some v) → TurnI (c.inn (cl4 I oI C oC a oa D ys)) (compEnvC scope ((x, a) :: cl) C env) ifs elt g o (fun y o' => Inv (i + 1) (ys ++ [y]) o') (fun o' => Inv (i + 1) ys o'))
    (fin : ∀ ys o cs, Inv n ys o → CellsAre g.m c.cl cs → Apart (cs ++ (H ++ o)) (g.t ++ c.ex) → Fin ys (cs ++ (H ++ o) ++ (g.t ++ c.ex))) : ∀ k i ys o cs, i + k = n → Inv i ys o → CellsAre g.m c.cl cs → Apart (cs ++ (H ++ o)) (g.t ++ c.ex) →
    CcRest c.prog c.w (ar c) c.h₀ c.L (loc c.cl g.m) env ifs elt x scope cl s P Fin k i ys (cs ++ (H ++ o) ++ (g.t ++ c.ex)) := by
  intro k
  induction k with
  | zero => intro i ys o cs hi hI Y A; rw [Nat.add_zero] at hi; subst hi; exact .zero (fin ys o cs hI Y A)
  | succ k ih =>
    intro i ys o cs hi hI Y A
    refine CcRest.succ ?_
    intro v I oI C oC a oa D h tk E' hP hoa F N off
    have back : ∀ {h1 : Heap} {tk1 : Tok} {g1 : Sg} {ys' : List Value}, St (c.inn (cl4 I oI C oC a oa D ys)) g1 H h1 tk1 → (g1.m = g.m ∧ g1.t = g.t) → Inv (i + 1) ys' g1.o → ∀ y, CcEnd c.h₀ c.L (loc c.cl g.m) { s with heap := h, toks := tk } (cl4 I oI C oC a oa D ys) (fun _ news' => CcRest c.prog c.w (ar c) c.h₀ c.L (loc c.cl g.m) env ifs elt x scope cl s P Fin k (i + 1) ys' news') y { s with heap := h1, toks := tk1 } := by
      rintro h1 tk1 ⟨m1, o1, t1, b1⟩ ys' ⟨cs1, S1⟩ ⟨e1, e2⟩ hI1 y
      have e1 : m1 = g.m := e1
      have e2 : t1 = g.t := e2
      subst e1 e2
      obtain ⟨F1, Y1, N1, A1, off1⟩ := St.out S1 off
      exact ⟨h1, tk1, _, rfl, F1, N1, off1, ih (i + 1) ys' o1 cs1 (by omega) hI1 Y1 A1⟩
    have T := turn i v ys o I oI C oC a oa D (by omega) hP hI hoa
    rcases ifs with _ | ⟨ct, _ | ⟨ct2, rest⟩⟩
    · refine wpAny_tests_nil ?_
      simp only [if_true]
      refine wpAny_mono (Wp.run T (O.inn _) H { s with heap := h, toks := tk } _ ⟨cs, St.inn F Y N A off⟩ ?_) (fun _ _ h => h) fun _ _ h => h.elim
      rintro y h2 tk2 g2 S2 ⟨e, hi2⟩
      exact back S2 e hi2 y
    · refine wpAny_mono (wpAny_tests_one (Wp.run T (O.inn _) H { s with heap := h, toks := tk } _ ⟨cs, St.inn F Y N A off⟩ ?_)) (fun _ _ h => h) fun _ _ h => h.elim
      rintro b h1 tk1 g1 S1 hb
      cases b with
      | true =>
        simp only [if_true]
        refine wpAny_mono (Wp.run hb (O.inn _) H _ _ S1 ?_) (fun _ _ h => h) fun _ _ h => h.elim
        rintro y h2 tk2 g2 S2 ⟨e, hi2⟩
        exact back S2 e hi2 y
      | false =>
        simp only [Bool.false_eq_true, if_false]
        obtain ⟨e, hi2⟩ := hb
        exact back S1 e hi2 _
    · exact T.elim
theorem wp_compCR {e : PySem.Expr} {ifs : List PySem.Expr} {px p1 p2 pos : Pos} {n : Nat} {Inv : Nat → List Value → Nw → Prop} {k : Kt Value}
    (hclos : closureFor scope (ev c) = pure cl) (hcl : ∀ k acc, cellsFrom k scope.names acc = (x, k) :: acc) (hpc : ∀ h, pushCells h scope.names = h.push { cls := .type "cell", data := .cell none }) (hnames : ∀ z ∈ scope.names, z.2 = .local → scope.names.lookup z.1 = some .local) (hkx : scope.kind = .function ∧ (relabel scope (ev c)).names.lookup x = some .cell) (hst : isStar e = false) (hg : okG' c.sc = true)
    (he : Wp c (eval e (ev c)) g fun v g' => (∃ t, v = .int (n : Int) t) ∧ g' = g) (hn : n ≤ 40) (h0 : Inv 0 [] g.o)
    (turn : ∀ i v ys o I oI C oC a oa D, i < n → (∃ t, v = .int (i : Int) t) → Inv i ys o → oa.data = .cell (some v) → TurnI (c.inn (cl4 I oI C oC a oa D ys)) (compEnvC scope ((x, a) :: cl) C (ev c)) ifs elt g o (fun y o' => Inv (i + 1) (ys ++ [y]) o') (fun o' => Inv (i + 1) ys o'))
    (fin : ∀ D ys o, Inv n ys o → k (.ref D) ⟨g.m, (D, PyProof.Rows.LCg.lst ys) :: o, g.t, g.b⟩) : Wp c (eval (.ListComp elt [⟨.Name x px, .Call (.Name (Str.ofString "range") p1) [e] [] p2, ifs, 0⟩] scope pos) (ev c)) g k := by
  refine Wp.leaf fun O H s Q S q => ?_
  refine eval_cell_range S.fr hclos hcl hpc hkx.1 hnames hkx.2 (wpAny_mono (range_run O S hg hst he) ?_ fun _ _ e => e.elim) (fun _ => rfl)
  rintro v s' ⟨r, h', tk', t, u, w', cs, rfl, rfl, hR, F', Y', N', P'⟩
  refine ⟨r, 0, (n : Int), t, u, w', n, _, rfl, rfl, F', N', hR, (small_rangeN n hn).1, (small_rangeN n hn).2, Nat.le_trans hn (by decide), ?_⟩
  rintro s2 ⟨g'', rfl⟩
  refine comp_coreC O (fun i v ys o I oI C oC a oa D hi hv => turn i v ys o I oI C oC a oa D hi (by obtain ⟨t, e⟩ := hv; exact ⟨t, by rw [e, Int.zero_add]⟩)) (fun ys o cs hI Y A => ?_) n 0 [] g.o cs (Nat.zero_add _) h0 Y' P'
  intro D h3 tk3 F3 N3 off
  exact q _ _ _ _ (fun hb => St.fin F3 Y N3 A off hb) (fin D ys o hI)
end
section
variable {prog : Program} {w : World} {p : Program} {loose : List Str} {mean : ExcName → Option Value} {mg mb : Str → Option Value}
variable {A : Around} {E : Value → Shared → Prop} {s : Shared} {h₀ : Heap} {L D : Addr} {m : Str → Option Value} {news : List (Addr × Obj)} {g : Obj → List (Addr × Obj)} {its : Array Value} {n : Nat}
theorem set_U {k : Int} {t : Tok} {v : Value} {Q : Unit → Shared → Prop} (F : Fr h₀ L s.heap m) (N : News h₀ L s.heap news) (U : UpdF D (W.listOf its n) news g) (h0 : 0 ≤ k) (hk : k < its.size) (hfit : k < 2 ^ 63)
    (h : ∀ h', Fr h₀ L h' m → News h₀ L h' (g (W.listOf (its.setIfInBounds k.toNat v) n)) → Q () { s with heap := h' }) : wpAny (model prog w) A (setItem (.ref D) (.int k t) v) Q E s := by
  obtain ⟨pre, post, rfl, hg, h1, h2⟩ := U.split
  have z := N (D, W.listOf its n) (List.mem_append_right _ (.head _))
  refine ki_setAt z.1 h0 hfit hk (h _ (F.change (Heap.SameBut.update ..) z.2.1 z.2.2) ?_)
  rw [hg]
  exact ki_turn _ N h1 h2 rfl (by simp)
end
section
variable {c : Cg} {g : Sg} {env : Env}
theorem wp_setI {j D : Nat} {its : Array Value} {n : Nat} {i : Int} {t : Tok} {v : Value} {k : Kt Unit} (hD : g.o[j]? = some (D, W.listOf its n)) (h0 : 0 ≤ i) (hi : i < its.size) (hf : i < 2 ^ 63) (h : k () (g.upd j D (W.listOf (its.setIfInBounds i.toNat v) n))) : Wp c (setItem (.ref D) (.int i t) v) g k :=
  ⟨fun _ H s Q S q => by
    obtain ⟨cs, news, gg, x, N, U, back⟩ := S.upd hD
    exact set_U x.F N U h0 hi hf fun h' F' N' => q _ _ s.toks _ (back _ _ _ F' N' x.b) h⟩
end
section
variable {c : Cg} {g : Sg} {scope : Scope} {cl : List (Str × Addr)} {ct elt : PySem.Expr} {x : Str}
theorem wp_setL {j D : Nat} {its its' : Array Value} {n : Nat} {i : Int} {t : Tok} {v : Value} {k : Kt Unit} (hD : g.o[j]? = some (D, W.listOf its n)) (h0 : 0 ≤ i) (hi : i < its.size) (hf : i < 2 ^ 63) (e : its.setIfInBounds i.toNat v = its') (h : k () (g.upd j D (W.listOf its' n))) : Wp c (setItem (.ref D) (.int i t) v) g k := by
  subst e; exact wp_setI hD h0 hi hf h
theorem TurnI.by {c : Cg} {scope : Scope} {cl : List (Str × Addr)} {ext : List (Str × Value)} {C : Addr} {env : Env} {x : Str} {v : Value} {ct elt : PySem.Expr} {o : Nw} {Yes : Value → Nw → Prop} {No : Nw → Prop} (Z : NmC c scope cl ext C env x v) (n : Nat)
    (h : (vgen c (compEnvC scope cl C env) (vNmC (compEnvC scope cl C env) cl ext x v) (fun _ _ _ _ => False) n).t ct ⟨g.m, o, g.t, 0⟩ fun b g' => bif b then (vgen c (compEnvC scope cl C env) (vNmC (compEnvC scope cl C env) cl ext x v) (fun _ _ _ _ => False) n).e elt g' (fun y g'' => (g''.m = g.m ∧ g''.t = g.t) ∧ Yes y g''.o) else (g'.m = g.m ∧ g'.t = g.t) ∧ No g'.o) : TurnI c (compEnvC scope cl C env) [ct] elt g o Yes No := TurnC.by Z n h
theorem wp_comp0 {e : PySem.Expr} {px p1 p2 pos : Pos} {n : Nat} {Inv : Nat → List Value → Nw → Prop} {k : Kt Value}
    (hclos : closureFor scope (ev c) = pure cl) (hcell : ∀ y ∈ scope.names, y.2 ≠ .cell) (hnames : ∀ y ∈ scope.names, y.2 = .local → scope.names.lookup y.1 = some .local) (hkx : scope.kind = .function ∧ scope.names.lookup x = some .local) (hst : isStar e = false) (hg : okG' c.sc = true)
    (he : Wp c (eval e (ev c)) g fun v g' => (∃ t, v = .int (n : Int) t) ∧ g' = g) (hn : n ≤ 40) (h0 : Inv 0 [] g.o)
    (turn : ∀ i v ys o I oI C oC D m₂, i < n → (∃ t, v = .int (i : Int) t) → Inv i ys o → PyProof.Rows.LCg.NsObj oC m₂ → m₂ x = some v → Wp (c.inn (cl3 I oI C oC D ys)) (eval elt (compEnvC scope cl C (ev c))) ⟨g.m, o, g.t, 0⟩ fun y g'' => (g''.m = g.m ∧ g''.t = g.t) ∧ Inv (i + 1) (ys ++ [y]) g''.o)
    (fin : ∀ D ys o, Inv n ys o → k (.ref D) ⟨g.m, (D, PyProof.Rows.LCg.lst ys) :: o, g.t, g.b⟩) : Wp c (eval (.ListComp elt [⟨.Name x px, .Call (.Name (Str.ofString "range") p1) [e] [] p2, [], 0⟩] scope pos) (ev c)) g k := by
  refine Wp.leaf fun O H s Q S q => ?_
  refine PyProof.Rows.LCg.ListComp_U (L := c.L) S.fr hclos hcell hkx.1 hnames hkx.2 (wpAny_mono (range_run O S hg hst he) ?_ fun _ _ e => e.elim) (fun _ => rfl)
  rintro v s' ⟨r, h', tk', t, u, w', cs, rfl, rfl, hR, F', Y', N', P'⟩
  refine PyProof.Rows.LCg.CompSrc.range rfl F' N' hR (small_rangeN n hn).1 (small_rangeN n hn).2 (Nat.le_trans hn (by decide)) fun g'' => ?_
  have all : ∀ k i ys o cs, i + k = n → Inv i ys o → CellsAre g.m c.cl cs → Apart (cs ++ (H ++ o)) (g.t ++ c.ex) →
      PyProof.Rows.LCg.CompRest c.prog c.w (ar c) c.h₀ c.L (loc c.cl g.m) (ev c) elt x scope cl { s with heap := g'', toks := tk' } (fun _ => True) (fun i v => ∃ t, v = .int ((0 : Int) + (i : Int)) t) (PyProof.Rows.LCg.FinE c.h₀ c.L (loc c.cl g.m) { s with heap := g'', toks := tk' } Q) k i ys (cs ++ (H ++ o) ++ (g.t ++ c.ex)) := by
    intro k
    induction k with
    | zero =>
      intro i ys o cs hi hI Y A
      rw [Nat.add_zero] at hi
      subst hi
      refine PyProof.Rows.LCg.CompRest.zero ?_
      intro D h3 tk3 F3 N3 off
      exact q _ _ _ _ (fun hb => St.fin F3 Y N3 A (off1_mem off) hb) (fin D ys o hI)
    | succ k ih =>
      intro i ys o cs hi hI Y A
      refine PyProof.Rows.LCg.CompRest.succ ?_
      intro v I oI C oC D m₂ h tk E' hP hC hx F N off _
      have offm : ∀ p ∈ cs ++ (H ++ o) ++ (g.t ++ c.ex), ∀ q ∈ cl3 I oI C oC D ys, p.1 ≠ q.1 := fun p hp q hq => by
        have z := PyProof.Rows.LCg.Off3.mem off p hp
        simp only [List.mem_cons, List.not_mem_nil, or_false] at hq
        rcases hq with rfl | rfl | rfl
        · exact z.1
        · exact z.2.1
        · exact z.2.2
      refine wpAny_mono ((turn i v ys o I oI C oC D m₂ (by omega) (by obtain ⟨t, e⟩ := hP; exact ⟨t, by rw [e, Int.zero_add]⟩) hI hC hx).run (O.inn _) H { s with heap := h, toks := tk } _ ⟨cs, St.inn F Y N A offm⟩ ?_) (fun _ _ h => h) fun _ _ h => h.elim
      rintro y h2 tk2 ⟨m1, o1, t1, b1⟩ ⟨cs1, S1⟩ ⟨⟨e1, e2⟩, hI1⟩
      have e1 : m1 = g.m := e1
      have e2 : t1 = g.t := e2
      subst e1 e2
      obtain ⟨F1, Y1, N1, A1, off1⟩ := St.out S1 offm
      exact ⟨h2, tk2, _, rfl, F1, N1, PyProof.Rows.LCg.Off3.of fun p hp => ⟨off1 p hp _ (.head _), off1 p hp _ (.tail _ (.head _)), off1 p hp _ (.tail _ (.tail _ (.head _)))⟩, trivial, ih (i + 1) _ o1 cs1 (by omega) hI1 Y1 A1⟩
  exact all n 0 [] g.o cs (Nat.zero_add n) h0 Y' P'
end
section
variable {c : Cg} {g : Sg}
theorem vfirst_gen {env : Env} {nam : Str → Pos → Sg → Kt Value → Prop} {sto : Str → Value → Sg → Kt Unit → Prop} (hn : ∀ {x pos g k}, nam x pos g k → Wp c (eval (.Name x pos) env) g k) (hs : ∀ {x v g k}, sto x v g k → Wp c (storeName env x v) g k) {l2 : List Stmt} {k : Kt Flow} : ∀ (n : Nat) (l1 : List Stmt) (g : Sg),
    (vgen c env nam sto n).s l1 g (fun fl g => match fl with | .next => Wp c (execs l2 env) g k | fl => k fl g) → Wp c (execs (l1 ++ l2) env) g k
  | 0, _, _, h => False.elim h
  | n + 1, [], _, h => h
  | n + 1, st :: l1, g, h => wp_cons ((vStmt_ok (vgen_ok hn hs n).toVok hs h).mono fun fl g h => by
      cases fl with
      | next => exact vfirst_gen hn hs n l1 g h
      | _ => exact h)
theorem vfirst (i n : Nat) {b : List Stmt} {k : Kt Flow} (h : (vgen c (ev c) (vName c) (vStore c) n).s (b.take i) g (fun fl g => match fl with | .next => Wp c (execs (b.drop i) (ev c)) g k | fl => k fl g)) : Wp c (execs b (ev c)) g k := by
  have := vfirst_gen (l2 := b.drop i) vName_ok vStore_ok n (b.take i) g h
  rwa [List.take_append_drop] at this
theorem vstm (n : Nat) {st : Stmt} {k : Kt Flow} (h : vStmt c (ev c) (vStore c) (vgen c (ev c) (vName c) (vStore c) n) st g k) : Wp c (exec st (ev c)) g k := vStmt_ok (vgen_ok vName_ok vStore_ok n).toVok vStore_ok h
theorem wp_cut {st : Stmt} {rest : List Stmt} {env : Env} {k : Kt Flow} (M : Sg → Sg → Prop) (h : Wp c (exec st env) g fun fl g' => fl = .next ∧ ∃ g'', Sg.To c g' g'' ∧ M g g'') (hk : ∀ g', M g g' → Wp c (execs rest env) g' k) : Wp c (execs (st :: rest) env) g k :=
  wp_cons (h.mono fun fl g ⟨e, g', e', h⟩ => by subst e; exact (hk g' h).to e')
theorem set_same {x : Str} {v : Value} (h : g.m x = some v) : g.m = (g.set x v).m := funext fun z => by
  show g.m z = if z = x then some v else g.m z
  by_cases e : z = x
  · rw [if_pos e, e, h]
  · rw [if_neg e]
end
noncomputable def Cg.at (c : Cg) (G : Heap) : Cg := { c with h₀ := G }
noncomputable abbrev Kg (α : Type) := α → Sg → Heap → Prop
structure Tn (c : Cg) (G : Heap) : Prop where
  t : KtsTurn (frs c.outer) c.h₀ G
  B : Below c.A₀ c.base c.outer G
  X : (hd.heap_39 c.w.params).In G
  T : Top c.p c.loose c.mean c.mg c.mb G
  D : KtsDicts (frs c.outer) G
structure Tc (c : Cg) : Prop where
  XB : (hd.heap_39 c.w.params).In c.base
  TB : Top c.p c.loose c.mean c.mg c.mb c.base
  hk : c.sc.kind = .function
  nd : (c.cl.map (·.1)).Nodup
structure Wg {α : Type} (c : Cg) (G : Heap) (t : Sem α) (g : Sg) (k : Kg α) : Prop where
  run : Tc c → Tn c G → ∀ (H : Nw) (s : Shared) (Q : α → Shared → Prop), St (c.at G) g H s.heap s.toks →
    (∀ v h' tk' g' G', Tn c G' → St (c.at G') g' H h' tk' → k v g' G' → Q v { s with heap := h', toks := tk' }) → wpAny (model c.prog c.w) (ar c) t Q NoE s
section
variable {α : Type} {c : Cg} {G : Heap} {g g' : Sg} {env : Env}
theorem Wg.to {t : Sem α} {k : Kg α} (e : Sg.To (c.at G) g g') (h : Wg c G t g' k) : Wg c G t g k := ⟨fun C T H s Q S q => h.run C T H s Q (e _ _ _ S) q⟩
end
section
variable {c : Cg} {G : Heap} {g : Sg}
structure Wh (c : Cg) (G : Heap) (test : PySem.Expr) (body orelse : List Stmt) (g : Sg) (k : Kg Flow) : Prop where
  run : Tc c → Tn c G → ∀ (H : Nw) (s : Shared) (Q : Flow → Shared → Prop) (n : Nat), St (c.at G) g H s.heap s.toks → (∀ v h' tk' g' G', Tn c G' → St (c.at G') g' H h' tk' → k v g' G' → Q v { s with heap := h', toks := tk' }) → WhlRest c.prog c.w (ar c) NoE (ev c) test body orelse Q n s
theorem Wh.to {g' : Sg} {test : PySem.Expr} {body orelse : List Stmt} {k : Kg Flow} (e : Sg.To (c.at G) g g') (h : Wh c G test body orelse g' k) : Wh c G test body orelse g k := ⟨fun C T H s Q n S q => h.run C T H s Q n (e _ _ _ S) q⟩
end
section
variable {prog : Program} {w : World} {p : Program} {loose : List Str} {mean : ExcName → Option Value} {mg mb : Str → Option Value}
theorem ints_at2 {vs : List Value} {ns : List Nat} (h : IntsAre vs (ns.map fun x => ((x : Nat) : Int))) {j : Nat} {v : Value} (e : vs[j]? = some v) : ∃ (n : Nat) (t : Tok), ns[j]? = some n ∧ v = .int (n : Int) t := by
  induction ns generalizing vs j with
  | nil => rw [ints_nil h] at e; simp at e
  | cons n ns ih =>
    obtain ⟨t, vr, rfl, h'⟩ := ints_cons h
    cases j with
    | zero => exact ⟨n, t, rfl, (Option.some.inj e).symm⟩
    | succ j => exact ih h' (by simpa using e)
theorem take_filter {α : Type} {l : List α} {j : Nat} {e : α} (p : α → Bool) (h : l[j]? = some e) : (l.take (j + 1)).filter p = if p e = true then (l.take j).filter p ++ [e] else (l.take j).filter p := by
  rw [List.take_add_one, h]; exact filter_snoc p _ e
theorem nat_beq (a b : Nat) : ((a : Int) == (b : Int)) = (a == b) := Bool.eq_iff_iff.mpr ⟨fun h => beq_iff_eq.mpr (Int.ofNat.inj (eq_of_beq h)), fun h => by rw [eq_of_beq h]; exact beq_self_eq_true _⟩
end
section
variable {prog : Program} {w : World} {p : Program} {loose : List Str} {mean : ExcName → Option Value} {mg mb : Str → Option Value} {f : Addr} {vs : List Value} {n : Nat} {H : Heap → Prop} {led : List (Addr × Obj)} {ch : List Addr}
noncomputable def Row.ab (r : Row) : Ab := (r.nm % 2, r.t, r.f, r.fl)
end
noncomputable def stLed (Z : StZ) : List (Addr × Obj) := Z.kn.obj :: (Z.SE, lstObj (Z.sz.map fun z => .ref z.a) Z.eS) :: (Z.NA, lstObj Z.vN Z.eN) :: (Z.TX, lstObj Z.vT Z.eT) :: Z.sz.map KnZ.obj
section
variable {c : Cg} {g : Sg}
theorem wp_for {tgt iter : PySem.Expr} {body orelse : List Stmt} {pos : Pos} {k : Kt Flow} (hs : ∀ x, foldedSetIterable iter (ev c) x = pure x) (h : Wp c (eval iter (ev c)) g fun xv g => Lw c xv tgt body orelse g k) : Wp c (exec (.For tgt iter body orelse pos) (ev c)) g k :=
  ⟨fun O H s Q S q => For_else (env := ev c) S.fr (h.run O H s _ S fun _ _ _ _ S1 k1 => k1.run O H _ _ S1 q) hs PassesOwn.never⟩
theorem lw_list {tgt : PySem.Expr} {body orelse : List Stmt} {l : Addr} {vs : List Value} {e : Nat} {W : Nat → Sg → Prop} {k : Kt Flow} (h0 : W 0 g) (hm : ∀ j g, W j g → (l, lstObj vs e) ∈ g.o ++ (g.t ++ c.ex))
    (turn : ∀ j g v, j < vs.length → W j g → vs[j]? = some v → Wp c (assign tgt (ev c) v) g fun _ g => Wp c (execs body (ev c)) g (TurnW c W j k)) (fin : ∀ g, W vs.length g → Wp c (execs orelse (ev c)) g k) : Lw c (.ref l) tgt body orelse g k := by
  refine ⟨fun O H s Q S q => ?_⟩
  have hl := (S.mem (hm 0 g h0)).1
  refine wpAny_pyIter_list (items := vs.toArray) ⟨_, hl, rfl, _, rfl⟩ ?_
  refine loop_core (c := c) (n := vs.length) (W := W) (val := fun j v => vs[j]? = some v) (IA := fun _ j o => o.cls = .type "list_iterator" ∧ o.data = .fields #[.ref l, .int j 0])
    (fun I j o v s Q hI ho q => letGo_listiter ⟨o, ho, hI⟩ q) ?_ ?_ turn fin O H Q s.heap.objs.size vs.length 0 g { s with heap := s.heap.push { cls := .type "list_iterator", data := .fields #[.ref l, .int 0 0] } } _ (Nat.zero_add _) h0 ⟨rfl, rfl⟩ (S.hold (S.fr.push _) (fun b o e _ => Heap.get?_push_of_some _ e) (get_size _) (Heap.get?_push_size _ rfl)) q
  · intro j g H s I o Q hj hW hI S q
    have hI' := S.elim fun cs x => (x.N (I, o) (List.mem_append_left _ (List.mem_append_right _ (.head _)))).1
    refine wpAny_pyNext_list_item (items := vs.toArray) ⟨o, hI', hI⟩ ⟨_, (S.mem (hm j g hW)).1, rfl, _, rfl⟩ (by rw [List.getElem?_toArray]; exact List.getElem?_eq_getElem hj) fun h' ⟨o', ho', hI2⟩ hs => ?_
    exact q _ h' s.toks o' (List.getElem?_eq_getElem hj) hI2 ho' (fun b o hb e => hs.extBut b o hb e) (Nat.le_refl _)
  · intro g H s I o Q hW hI S q
    have hI' := S.elim fun cs x => (x.N (I, o) (List.mem_append_left _ (List.mem_append_right _ (.head _)))).1
    refine wpAny_pyNext_list_end (items := vs.toArray) rfl ⟨o, hI', hI⟩ ⟨_, (S.mem (hm _ g hW)).1, rfl, _, rfl⟩ (by rw [List.getElem?_toArray]; exact List.getElem?_eq_none (Nat.le_refl _)) fun h' hs => ?_
    exact q h' fun b o hb e => hs b o hb e
end
section
variable {c : Cg} {g : Sg} {l : List (Str × Option Value)} {m₀ : Mp}
theorem Offs.same : Offs l m₀ m₀ := fun _ _ => rfl
end
section
variable {c : Cg} {g : Sg}
theorem lookup_sub {cl cl' : List (Str × Addr)} (h : ∀ p ∈ cl, cl'.lookup p.1 = some p.2) {y : Str} {a : Addr} (e : cl.lookup y = some a) : cl'.lookup y = some a := h (y, a) (lookup_in e)
end
section
variable {c : Cg} {g : Sg} {scope : Scope} {cl : List (Str × Addr)} {ct elt : PySem.Expr} {x : Str}
theorem wp_asgCL {it : PySem.Expr} {px pos : Pos} {ax : Addr} {vs : List Value} {l : Nat} {Inv : Nat → List Value → Nw → Prop} {y : Str} {py spos : Pos} {k : Kt Flow}
    (hclos : closureFor scope (ev c) = pure cl) (hcell : ∀ y ∈ scope.names, y.2 ≠ .cell) (hnames : ∀ y ∈ scope.names, y.2 = .local → scope.names.lookup y.1 = some .local) (hkx : scope.kind = .function ∧ scope.names.lookup x = some .local) (hs : ∀ v, foldedSetIterable it (ev c) v = pure v)
    (hsw : swapsWith (.ListComp elt [⟨.Name x px, it, [ct], 0⟩] scope pos) (some (.Name y py)) spos.line (ev c) = pure true) (hy : okS c.sc y = true) (hyc : c.cl.lookup y = none)
    (he : Wp c (eval it (ev c)) g fun v g' => v = .ref ax ∧ g' = g) (hn : vs.length ≤ 1000) (h0 : Inv 0 [] g.o) (hm : ∀ i ys o, Inv i ys o → (ax, lstObj vs l) ∈ o ++ (g.t ++ c.ex))
    (turn : ∀ i v ys o I oI C oC D m₂, vs[i]? = some v → Inv i ys o → PyProof.Rows.LCg.NsObj oC m₂ → m₂ x = some v → TurnC (c.inn (cl3 I oI C oC D ys)) (compEnvC scope cl C (ev c)) ct elt g o (fun y o' => Inv (i + 1) (ys ++ [y]) o') (fun o' => Inv (i + 1) ys o'))
    (fin : ∀ D ys o, Inv vs.length ys o → k .next (Sg.set ⟨g.m, (D, PyProof.Rows.LCg.lst ys) :: o, g.t, g.b⟩ y (.ref D))) : Wp c (exec (.Assign [.Name y py] (.ListComp elt [⟨.Name x px, it, [ct], 0⟩] scope pos) spos) (ev c)) g k := by
  refine Wp.leaf fun O H s Q S q => ?_
  refine PyProof.Rows.LCt.Assign_ListComp_T (L := c.L) S.fr rfl hsw hclos hcell hkx.1 hnames hkx.2 (id (eq_of_beq hy)) (by show (c.sc.kind == _ || (c.sc.kind == _ && _)) = false; rw [O.hk]; rfl) (he.run O H s _ S ?_) hs
  rintro v h' tk' g' ⟨cs, x'⟩ ⟨rfl, rfl⟩
  have hz : vs.toArray.size = vs.length := List.size_toArray
  have up : ∀ {cs o : Nw} {q : Addr × Obj}, q ∈ o ++ (g'.t ++ c.ex) → q ∈ cs ++ (H ++ o) ++ (g'.t ++ c.ex) := fun hq => by
    simp only [List.mem_append] at hq ⊢
    exact hq.elim (fun h => .inl (.inr (.inr h))) .inr
  refine PyProof.Rows.LCt.CompSrcT.ledger (its := vs.toArray) (k := l) rfl x'.F x'.N (up (hm 0 [] _ h0)) (by rw [hz]; exact Nat.le_trans hn (by decide)) fun g'' => ?_
  refine comp_core (S := PyProof.Rows.LCg.SrcAt c.h₀ ax vs.toArray) O (fun i ys o cs hI => .inr ⟨_, up (hm i ys o hI), rfl, _, rfl⟩) (fun i v ys o I oI C oC D m₂ _ hv => turn i v ys o I oI C oC D m₂ (by simpa using hv)) (fun ys o cs hI Y A => ?_) vs.toArray.size 0 [] g'.o cs (Nat.zero_add _) h0 x'.Y x'.P
  intro D h3 tk3 F3 N3 off
  refine q _ _ _ _ (fun hb => St.fin (m := fun z => if z = y then some (.ref D) else g'.m z) (fr_congr F3 fun z => ?_) (cells_off Y hyc) N3 A (off1_mem off) hb) (fin D ys o (hz ▸ hI))
  show _ = loc c.cl (fun z => if z = y then some (.ref D) else g'.m z) z
  by_cases e : z = y
  · subst e; rw [if_pos rfl, loc_none hyc, if_pos rfl]
  · rw [if_neg e]; unfold loc; split <;> simp [e]
end
section
variable {c : Cg} {g : Sg}
theorem wp_eqL {a b : Addr} {vs us : List Value} {n l : Nat} {ns ms : List Int} {k : Kt Value} (ha : (a, lstObj vs n) ∈ g.o ++ (g.t ++ c.ex)) (hi : IntsAre vs ns) (hb : (b, lstObj us l) ∈ g.o ++ (g.t ++ c.ex)) (hi' : IntsAre us ms) (hu : c.un + 64 < cLine) (h : k (.bool (decide (ns = ms))) g) : Wp c (compareOp .Eq (.ref a) (.ref b)) g k :=
  ⟨fun _ _ s _ S q => eq_intsK (News.isList S.news ha) hi (News.isList S.news hb) hi' hu (q _ _ s.toks _ S h)⟩
end
section
variable {prog : Program} {w : World} {p : Program} {loose : List Str} {mean : ExcName → Option Value} {mg mb : Str → Option Value}
theorem sorted_T {A : Around} {E : Value → Shared → Prop} {s : Shared} {h₀ : Heap} {L : Addr} {m : Str → Option Value} {news : List (Addr × Obj)} {l : Addr} {lo : Obj} {n : Nat} {vs : List Value} {ss : List Str} {Q : Value → Shared → Prop}
    (F : Fr h₀ L s.heap m) (N : News h₀ L s.heap news) (hm : (l, lo) ∈ news) (hc : lo.cls = .type "list") (hd : lo.data = .seq vs.toArray n) (hS : StrsAre vs ss) (h64 : vs.length < 64)
    (h : ∀ (D : Addr) (h' : Heap) (vs' : List Value) (ss' : List Str) (e : Nat), Fr h₀ L h' m → News h₀ L h' ((D, lstObj vs' e) :: news) → StrsAre vs' ss' → ss'.Perm ss → sortedS ss' = true → (∀ p ∈ news, p.1 < D) → Q (.ref D) { s with heap := h' }) :
    wpAny (model prog w) A (call (.builtin "sorted") [.ref l]) Q E s :=
  sorted_N_str F N ⟨lo, (N _ hm).1, hc, n, hd⟩ hS h64 fun h' vs' ss' e F' N' a b c => h _ h' vs' ss' e F' N' a b c fun p hp => Nat.lt_succ_of_lt (Heap.lt_size (N p hp).1)
end
section
variable {c : Cg} {g : Sg}
theorem wp_sorted {l : Addr} {n : Nat} {vs : List Value} {ss : List Str} {k : Kt Value} (hm : (l, lstObj vs n) ∈ g.o ++ (g.t ++ c.ex)) (hS : StrsAre vs ss) (h64 : vs.length < 64) (h : ∀ D vs' ss' e, StrsAre vs' ss' → ss'.Perm ss → sortedS ss' = true → k (.ref D) (g.push D (lstObj vs' e))) : Wp c (call (.builtin "sorted") [.ref l]) g k :=
  ⟨fun _ H s Q S q => S.elim fun cs x => sorted_T (lo := lstObj vs n) (n := n) x.F x.N (by
      have := hm
      simp only [List.mem_append] at this ⊢
      rcases this with h | h | h
      · exact .inl (.inr (.inr h))
      · exact .inr (.inl h)
      · exact .inr (.inr h)) rfl rfl hS h64 fun D h' vs' ss' e F' N' a1 a2 a3 l => q _ h' s.toks _ (St.pushN ⟨cs, x, rfl⟩ F' N' l x.b) (h D vs' ss' e a1 a2 a3)⟩
end
section
open PyProof.Rows.LCg
variable {prog : Program} {w : World} {A : Around} {E : Value → Shared → Prop} {s : Shared} {h₀ : Heap} {L : Addr} {m : Str → Option Value} {env : Env}
noncomputable def CcFinA (h₀ : Heap) (L : Addr) (m : Str → Option Value) (s : Shared) (y : Str) (Q : Flow → Shared → Prop) (ys : List Value) (news : List (Addr × Obj)) : Prop :=
  ∀ D h tk, Fr h₀ L h (fun z => if z = y then some (.ref D) else m z) → News h₀ L h ((D, lst ys) :: news) → (∀ p ∈ news, p.1 ≠ D) → Q .next { s with heap := h, toks := tk }
noncomputable def CcSrcS (prog : Program) (w : World) (A : Around) (h₀ : Heap) (L : Addr) (m : Str → Option Value) (env : Env) (ifs : List Expr) (elt : Expr) (x : Str) (scope : Scope) (cl : List (Str × Addr)) (Fin : Shared → List Value → List (Addr × Obj) → Prop) (xv : Value) (s₁ : Shared) : Prop :=
  ∃ z t news, xv = .str z t ∧ z.cps.all (· < 128) = true ∧ z.cps.size ≤ 1000 ∧ A.handled = none ∧ Fr h₀ L s₁.heap m ∧ News h₀ L s₁.heap news ∧
    ∀ s₂ : Shared, (∃ h, s₂ = { s₁ with heap := h }) → CcRest prog w A h₀ L m env ifs elt x scope cl s₂ (SignAt z) (Fin s₂) z.cps.size 0 [] news
theorem Assign_cell_str {ifs : List Expr} {elt iter : Expr} {x y : Str} {px py : Pos} {scope : Scope} {cl : List (Str × Addr)} {pos spos : Pos} {Q : Flow → Shared → Prop} (F₀ : Fr h₀ L s.heap m) (hLe : env.locals = L)
    (hsw : swapsWith (.ListComp elt [⟨.Name x px, iter, ifs, 0⟩] scope pos) (some (.Name y py)) spos.line env = pure true)
    (hclos : closureFor scope env = pure cl) (hcl : ∀ k acc, cellsFrom k scope.names acc = (x, k) :: acc) (hpc : ∀ h, pushCells h scope.names = h.push { cls := .type "cell", data := .cell none }) (hkind : scope.kind = .function)
    (hnames : ∀ z ∈ scope.names, z.2 = .local → scope.names.lookup z.1 = some .local) (hx : (relabel scope env).names.lookup x = some .cell)
    (hy : env.kindOf y = some .local) (hp : (env.scope.kind == .class || (env.scope.kind == .module && env.locals != env.globals)) = false)
    (h : wpAny (model prog w) A (eval iter env) (CcSrcS prog w A h₀ L m env ifs elt x scope cl (fun s₂ => CcFinA h₀ L m s₂ y Q)) E s)
    (hs : ∀ x, foldedSetIterable iter env x = pure x := by intro _; rfl) :
    wpAny (model prog w) A (exec (.Assign [.Name y py] (.ListComp elt [⟨.Name x px, iter, ifs, 0⟩] scope pos) spos) env) Q E s := by
  subst hLe
  rw [exec_Assign_Name_used _ _ _ _ hsw]
  refine wpAny_bind (wpAny_standAt (wpAny_bind ?_))
  show wpAny _ A (do let _ ← comprehension (.ListComp elt [⟨.Name x px, iter, ifs, 0⟩] scope pos) scope env _ (newList []) false (eval iter env) (some (assign (.Name y py) env))) _ _ s
  refine wpAny_bind (wpAny_mono (wpAny_comprehension_free (use := some (assign (.Name y py) env)) (Q := fun _ s' => Q .next s') rfl hs hclos hkind hnames
    (wpAny_mono h (fun xv s₁ h₁ => ?_) fun _ _ e => e)) (fun _ s' hq => wpAny_pure (wpAny_pure hq)) fun _ _ e => e)
  obtain ⟨z, t, news, rfl, ha, hsz, hh, F, N, R⟩ := h₁
  refine wpAny_pyIter_ascii ha ?_
  refine block_cell (Walks.strAscii hh s₁.heap.objs.size z t) hsz (fun i h st => by obtain ⟨o, e, _⟩ := st; exact ⟨o, e⟩) hcl hpc hkind hx ⟨_, Heap.get?_push_size _ rfl, rfl, rfl⟩
    (F.push _) (fun p hp => ⟨Heap.get?_push_of_some _ (N p hp).1, (N p hp).2⟩) (Nat.ne_of_lt F.ns.lt) (next_is_new F) (fun p hp => Nat.ne_of_lt (Heap.lt_size (N p hp).1)) (R _ ⟨_, rfl⟩) ?_
  intro D C h' tk m' ys news' F' N' o1 hn hC₀ hD₀ hCL hDL hCD offC fin
  show wpAny _ A (assign (.Name y py) env (.ref D)) _ _ _
  refine wpAny_assign_Name (wpAny_storeName_local hy F'.ns (fun h₂ hn₂ hs₂ => ?_) hp)
  have hL₀ : h₀.get? env.locals = none := Heap.get?_none_of_le F'.above
  have F₂ : Fr h₀ env.locals h₂ (fun z => if z = y then some (.ref D) else m z) := ⟨hn₂, fun b o e => hs₂.extBut b o (fun q => by rw [q, hL₀] at e; cases e) (F'.keep b o e), F'.above⟩
  refine ⟨m', hn.sameBut hs₂ hCL, fun h'' hs'' => fin D h'' _ (F₂.change hs'' hCL hC₀) (fun p hp => ?_) o1⟩
  have z : h₂.get? p.1 = some p.2 := hs₂.extBut _ _ (N' p hp).2.1 (N' p hp).1
  refine ⟨hs''.extBut _ _ ?_ z, (N' p hp).2⟩
  rcases List.mem_cons.mp hp with rfl | hp
  · exact Ne.symm hCD
  · exact offC p hp
end
section
variable {c : Cg} {g : Sg} {scope : Scope} {cl : List (Str × Addr)} {ct elt : PySem.Expr} {x : Str}
theorem wp_asgCS {it : PySem.Expr} {ifs : List PySem.Expr} {px pos : Pos} {z : Str} {Inv : Nat → List Value → Nw → Prop} {y : Str} {py spos : Pos} {k : Kt Flow}
    (hclos : closureFor scope (ev c) = pure cl) (hcl : ∀ k acc, cellsFrom k scope.names acc = (x, k) :: acc) (hpc : ∀ h, pushCells h scope.names = h.push { cls := .type "cell", data := .cell none }) (hnames : ∀ z ∈ scope.names, z.2 = .local → scope.names.lookup z.1 = some .local) (hkx : scope.kind = .function ∧ (relabel scope (ev c)).names.lookup x = some .cell) (hs : ∀ v, foldedSetIterable it (ev c) v = pure v)
    (hsw : swapsWith (.ListComp elt [⟨.Name x px, it, ifs, 0⟩] scope pos) (some (.Name y py)) spos.line (ev c) = pure true) (hy : okS c.sc y = true) (hyc : c.cl.lookup y = none)
    (he : Wp c (eval it (ev c)) g fun v g' => (∃ t, v = .str z t) ∧ g' = g) (ha : z.cps.all (· < 128) = true ∧ z.cps.size ≤ 1000) (h0 : Inv 0 [] g.o)
    (turn : ∀ i v ys o I oI C oC a oa D, i < z.cps.size → SignAt z i v → Inv i ys o → oa.data = .cell (some v) → TurnI (c.inn (cl4 I oI C oC a oa D ys)) (compEnvC scope ((x, a) :: cl) C (ev c)) ifs elt g o (fun y o' => Inv (i + 1) (ys ++ [y]) o') (fun o' => Inv (i + 1) ys o'))
    (fin : ∀ D ys o, Inv z.cps.size ys o → k .next (Sg.set ⟨g.m, (D, PyProof.Rows.LCg.lst ys) :: o, g.t, g.b⟩ y (.ref D))) : Wp c (exec (.Assign [.Name y py] (.ListComp elt [⟨.Name x px, it, ifs, 0⟩] scope pos) spos) (ev c)) g k := by
  refine Wp.leaf fun O H s Q S q => ?_
  refine Assign_cell_str (L := c.L) S.fr rfl hsw hclos hcl hpc hkx.1 hnames hkx.2 (id (eq_of_beq hy)) (by show (c.sc.kind == _ || (c.sc.kind == _ && _)) = false; rw [O.hk]; rfl) (he.run O H s _ S ?_) hs
  rintro v h' tk' g' ⟨cs, x'⟩ ⟨⟨t, rfl⟩, rfl⟩
  refine ⟨z, t, _, rfl, ha.1, ha.2, rfl, x'.F, x'.N, ?_⟩
  rintro s2 ⟨g'', rfl⟩
  refine comp_coreC O turn (fun ys o cs hI Y A => ?_) z.cps.size 0 [] g'.o cs (Nat.zero_add _) h0 x'.Y x'.P
  intro D h3 tk3 F3 N3 off
  refine q _ _ _ _ (fun hb => St.fin (m := fun z => if z = y then some (.ref D) else g'.m z) (fr_congr F3 fun z => ?_) (cells_off Y hyc) N3 A off hb) (fin D ys o hI)
  show _ = loc c.cl (fun z => if z = y then some (.ref D) else g'.m z) z
  by_cases e : z = y
  · subst e; rw [if_pos rfl, loc_none hyc, if_pos rfl]
  · rw [if_neg e]; unfold loc; split <;> simp [e]
end
section
variable {prog : Program} {w : World} {p : Program} {loose : List Str} {mean : ExcName → Option Value} {mg mb : Str → Option Value}
theorem nm_eq (a b : Nat) : (nmS (a % 2) = nmS (b % 2)) ↔ a % 2 = b % 2 := by
  have h : ∀ i, i < 2 → ∀ j, j < 2 → ((nmS i = nmS j) ↔ i = j) := by decide +kernel
  exact h _ (Nat.mod_lt _ (by decide)) _ (Nat.mod_lt _ (by decide))
theorem nm_beq {a b : Nat} (ha : a < 2) (hb : b < 2) : (nmS a == nmS b) = (a == b) := by
  have := nm_eq a b
  rw [Nat.mod_eq_of_lt ha, Nat.mod_eq_of_lt hb] at this
  exact Bool.eq_iff_iff.mpr (by simpa using this)
structure StX where
  vals : List Value
  n : Nat
  v1 : Option Value
  v2 : Option Value
noncomputable def ssG (Z : StZ) (m : Mp) (D1 : Addr) (X : StX) : Sg := ⟨lay [("later", X.v1), ("e", X.v2), ("stand", some (.ref D1))] m, [(D1, W.listOf X.vals.toArray X.n)], stLed Z, 0⟩
noncomputable def ssW (Z : StZ) (nmf : Nat → Nat) (snf : Nat → List Nat) (m : Mp) (D1 : Addr) (j : Nat) (g : Sg) : Prop :=
  ∃ X : StX, IntsAre X.vals (((Z.kn.ns.take j).filter fun e => laterF nmf snf Z.kn.ns e == []).map fun x => ((x : Nat) : Int)) ∧ g = ssG Z m D1 X
theorem c_standing {Z : StZ} {nmf : Nat → Nat} {snf : Nat → List Nat} {ab : Nat → Ab} {M : Nat} (O : StOk Z nmf snf ab M) : ConL prog w p loose mean mg mb 399 [.ref Z.kn.a, .ref Z.SE, .ref Z.NA, .ref Z.TX] 40 (fun _ => True) (stLed Z) []
    (fun s h' r => ∃ z : ShowZ, r = .ref z.D ∧ NewIn s h' (showLed z) ∧ Shows z ((standF nmf snf Z.kn.ns).map ab)) := by
  have hM := O.m10
  have h60 : ∀ e ∈ Z.kn.ns, e < 2 ^ 60 := fun e he => Nat.lt_of_lt_of_le (O.lt e he) (Nat.le_trans hM (by decide))
  have hkl : Z.kn.vs.length ≤ 10 := by have z := O.kn.length; rw [List.length_map] at z; rw [z]; exact O.ls
  refine conW_cells (binds := [("known", .ref Z.kn.a), ("seen", .ref Z.SE), ("names", .ref Z.NA), ("texts", .ref Z.TX)]) [] (stLed Z) (fun _ => rfl) (fun _ => rfl) (fun s => BindsTo.of_eq rfl) (fun c s₀ R l => vbody 40 ?_) (fun _ _ _ _ => ⟨.nil, fun _ h => nomatch h⟩) (fun q hq => hq) (by rfl) (by decide) (fun _ => rfl) (by rfl) (by rfl) (by rfl)
  intro D1
  refine wp_for (fun _ => rfl) (vexpr 4 ?_)
  refine Lw.to (.lay (l := [("later", none), ("e", none), ("stand", some (.ref D1))]) (.cons rfl (.cons rfl (.cons rfl .nil))) (Offs.same.set (g := ⟨_, _, _, _⟩) rfl)) ?_
  refine lw_list (vs := Z.kn.vs) (e := Z.kn.n) (W := ssW Z nmf snf _ D1) ⟨⟨[], 0, none, none⟩, .nil, rfl⟩ ?_ ?_ ?_
  case refine_1 =>
    rintro j g ⟨X, -, rfl⟩
    exact mem_at 1 rfl
  case refine_2 =>
    rintro j g v hj ⟨X, hI, rfl⟩ hv
    obtain ⟨e, te, he, rfl⟩ := ints_at2 O.kn hv
    have hem := List.mem_of_getElem? he
    obtain ⟨tn2, hn2⟩ := O.na e (O.lt _ hem)
    refine wp_asN (wp_storeC rfl rfl (vbody 40 ?_))
    refine wp_asgCL (ax := Z.kn.a) (vs := Z.kn.vs) (l := Z.kn.n) (Inv := fun i ys o => o = [(D1, W.listOf X.vals.toArray X.n)] ∧ IntsAre ys (((Z.kn.ns.take i).filter fun f => (f != e && nmf f == nmf e) && (snf f).contains e).map fun x => ((x : Nat) : Int))) (by with_unfolding_all rfl) (by decide) (by decide) ⟨rfl, rfl⟩ (fun _ => rfl) (by with_unfolding_all rfl) rfl rfl (vexpr 4 ⟨rfl, rfl⟩) (Nat.le_trans hkl (by decide)) ⟨rfl, .nil⟩ (fun i ys o h => List.mem_append_right _ (.head _)) ?_ ?_
    · rintro i v ys o I oI C oC D m₂ hv ⟨rfl, hys⟩ hC hx
      obtain ⟨f, tf, hf, rfl⟩ := ints_at2 O.kn hv
      have hfm := List.mem_of_getElem? hf
      obtain ⟨tn1, hn1⟩ := O.na f (O.lt _ hfm)
      obtain ⟨z5, hz1, hz2, hz3, hz4⟩ := O.se f (O.lt _ hfm)
      have ec := take_filter (fun f => (f != e && nmf f == nmf e) && (snf f).contains e) hf
      refine' TurnC.by (ext := []) (x := "f") (v := .int (f : Int) tf) ?Y 12 ?_
      case Y => exact ⟨.inl ⟨oC, m₂, .tail _ (.head _), hC, hx, rfl⟩, by decide, rfl, ⟨rfl, rfl⟩, fun y a h _ => .inr ⟨rfl, lookup_sub (List.forall_mem_cons.mpr ⟨rfl, List.forall_mem_cons.mpr ⟨rfl, List.forall_mem_cons.mpr ⟨rfl, List.forall_mem_nil _⟩⟩⟩) h⟩⟩
      have hyes : ((f != e && nmf f == nmf e) && (snf f).contains e) = true → IntsAre (ys ++ [.int (f : Int) tf]) (((Z.kn.ns.take (i + 1)).filter fun f => (f != e && nmf f == nmf e) && (snf f).contains e).map fun x => ((x : Nat) : Int)) := fun hp => by
        rw [ec, if_pos hp, List.map_append]; exact hys.append (.cons _ _ .nil)
      have hno : ((f != e && nmf f == nmf e) && (snf f).contains e) = false → IntsAre ys (((Z.kn.ns.take (i + 1)).filter fun f => (f != e && nmf f == nmf e) && (snf f).contains e).map fun x => ((x : Nat) : Int)) := fun hp => by
        rw [ec, if_neg (by rw [hp]; decide)]; exact hys
      have nq := nm_beq (O.nm2 f) (O.nm2 e)
      have fq : (!((f : Int) == (e : Int))) = (f != e) := congrArg (!·) (nat_beq f e)
      refine bif_mk (fun h1 => ?_) fun h1 => ?_
      · rw [fq] at h1
        refine wp_item (j := f) (mem_at 3 rfl) rfl hn1 (h60 f hfm) ?_
        refine wp_item (j := e) (mem_at 3 rfl) rfl hn2 (h60 e hem) ?_
        refine bif_mk (fun h2 => ?_) fun h2 => ?_
        · rw [nq] at h2
          refine wp_item (j := f) (mem_at 2 rfl) rfl (by rw [List.getElem?_map, hz1]; rfl) (h60 f hfm) ?_
          refine wp_in (z := z5) (.tail _ (.tail _ (.tail _ (.tail _ (.tail _ (List.mem_append_left _ (List.mem_map_of_mem (List.mem_of_getElem? hz1)))))))) hz2 ?_
          rw [hz3]
          refine bif_mk (fun h3 => ?_) fun h3 => ?_
          · exact ⟨⟨rfl, rfl⟩, rfl, hyes (by rw [h1, h2, h3]; rfl)⟩
          · exact ⟨⟨rfl, rfl⟩, rfl, hno (by rw [h3, Bool.and_false])⟩
        · rw [nq] at h2
          exact ⟨⟨rfl, rfl⟩, rfl, hno (by rw [h2, Bool.and_false, Bool.false_and])⟩
      · rw [fq] at h1
        exact ⟨⟨rfl, rfl⟩, rfl, hno (by rw [h1, Bool.false_and, Bool.false_and])⟩
    · rintro D ys o ⟨rfl, hys⟩
      have hys : IntsAre ys ((laterF nmf snf Z.kn.ns e).map fun x => ((x : Nat) : Int)) := by
        have z := O.kn.length
        rw [List.length_map] at z
        rw [z, List.take_length] at hys
        exact hys
      have hkeep : decide ((laterF nmf snf Z.kn.ns e).map (fun x => ((x : Nat) : Int)) = []) = (laterF nmf snf Z.kn.ns e == []) := by cases laterF nmf snf Z.kn.ns e <;> rfl
      have hfs := take_filter (fun e => laterF nmf snf Z.kn.ns e == []) he
      intro D2
      refine wp_eqL (mem_at 1 (by with_unfolding_all rfl)) hys (mem_at 0 rfl) .nil ?_ ?_
      · exact Nat.lt_of_le_of_lt (Nat.add_le_add_left (by decide) _) R.2
      rw [hkeep]
      refine bif_mk (fun hb => ?_) fun hb => ?_
      · refine wp_mAppend (mem_at 2 rfl) ?_
        refine wp_append (j := 2) (its' := (X.vals ++ [Value.int (e : Int) te]).toArray) rfl ?_ (by simp) ?_
        · have z := hI.length
          rw [List.length_map] at z
          rw [List.size_toArray, z]
          exact Nat.le_trans (List.length_filter_le _ _) (Nat.le_trans (List.length_take_le' _ _) (Nat.le_trans O.ls (by decide)))
        refine turn_mk _ (.trans (.lay (l := [("later", some (.ref D)), ("e", some (.int (e : Int) te)), ("stand", some (.ref D1))]) (.cons rfl (.cons rfl (.cons rfl .nil))) (((Offs.lay rfl).set (g := ⟨_, _, _, _⟩) rfl).set (g := ⟨_, _, _, _⟩) rfl)) (.led (.cons _ (.cons _ (.refl _))) (t := stLed Z) fun q hq => List.mem_append_left _ hq)) ⟨⟨X.vals ++ [.int (e : Int) te], X.n + 1, some (.ref D), some (.int (e : Int) te)⟩, ?_, rfl⟩
        rw [hfs, if_pos hb, List.map_append]
        exact hI.append (.cons _ _ .nil)
      · refine turn_mk _ (.trans (.lay (l := [("later", some (.ref D)), ("e", some (.int (e : Int) te)), ("stand", some (.ref D1))]) (.cons rfl (.cons rfl (.cons rfl .nil))) (((Offs.lay rfl).set (g := ⟨_, _, _, _⟩) rfl).set (g := ⟨_, _, _, _⟩) rfl)) (.led (.cons _ (.cons _ (.refl _))) (t := stLed Z) fun q hq => List.mem_append_left _ hq)) ⟨⟨X.vals, X.n, some (.ref D), some (.int (e : Int) te)⟩, ?_, rfl⟩
        rw [hfs, if_neg (by rw [hb]; decide)]
        exact hI
  case refine_3 =>
    rintro g ⟨X, hI, rfl⟩
    have hI : IntsAre X.vals ((standF nmf snf Z.kn.ns).map fun x => ((x : Nat) : Int)) := by
      have z := O.kn.length
      rw [List.length_map] at z
      rw [z, List.take_length] at hI
      exact hI
    have hvl : X.vals.length = (standF nmf snf Z.kn.ns).length := by have z := hI.length; rwa [List.length_map] at z
    have hv10 : X.vals.length ≤ 10 := by rw [hvl]; exact Nat.le_trans (List.length_filter_le _ _) O.ls
    have hsm : ∀ e ∈ standF nmf snf Z.kn.ns, e ∈ Z.kn.ns := fun e he => (List.mem_filter.mp he).1
    refine vbody 40 ?_
    refine wp_asgCS (z := "km") (Inv := fun i ys o => (D1, lstObj X.vals X.n) ∈ o ∧ ∃ S : List SZ, (S.length = i ∧ ys = S.map (fun z => .ref z.a) ∧ ∀ z ∈ S, z.obj ∈ o) ∧ ∀ (j : Nat) (z : SZ), S[j]? = some z → StrsAre z.vs z.ss ∧ z.ss.Perm (textsA ((standF nmf snf Z.kn.ns).map ab) j) ∧ sortedS z.ss = true) (by with_unfolding_all rfl) (fun _ _ => rfl) (fun _ => rfl) (by decide) ⟨rfl, by rfl⟩ (fun _ => rfl) (by with_unfolding_all rfl) rfl rfl (vexpr 4 fun t => ⟨⟨t, rfl⟩, rfl⟩) (by decide +kernel) ⟨.head _, [], ⟨rfl, rfl, fun _ h => nomatch h⟩, fun j z h => by simp at h⟩ ?_ ?_
    · rintro i v ys o I oI C oC a oa D hi hv ⟨hD, S, ⟨rfl, rfl, hS⟩, hf⟩ hoa
      obtain ⟨ch, u5, hch, rfl⟩ := hv
      have hi2 : S.length < 2 := hi
      have hnm : (⟨#[ch]⟩ : Str) = nmS S.length := by
        have : ∀ i, i < 2 → ∀ c, (Str.ofString "km").cps[i]? = some c → (⟨#[c]⟩ : Str) = nmS i := by decide +kernel
        exact this _ hi2 ch hch
      rw [hnm] at hoa
      have hSe : ∀ j, ((standF nmf snf Z.kn.ns).filter fun e => nmf e == j).map (fun e => txt (ab e).2.1 (ab e).2.2.1 (ab e).2.2.2) = textsA ((standF nmf snf Z.kn.ns).map ab) j := fun j => by
        unfold textsA
        rw [List.filter_map, List.map_map]
        have : (fun e : Nat => nmf e == j) = ((fun a : Ab => a.1 == j) ∘ ab) := funext fun e => by simp only [Function.comp, O.ab]
        rw [this]; rfl
      refine cexpr (.cell (ext := []) (.tail _ (.tail _ (.head _))) hoa rfl (by decide) rfl ⟨rfl, rfl⟩ (by repeat' (first | exact List.forall_mem_nil _ | refine List.forall_mem_cons.mpr ⟨.inr ⟨rfl, rfl⟩, ?_⟩))) 12 ?_
      refine wp_compL (ax := D1) (vs := X.vals) (l := X.n) (Inv := fun i ys' o' => o' = o ∧ ys' = (((standF nmf snf Z.kn.ns).take i).filter fun e => nmf e == S.length).map fun e => (Z.vT[e]?).getD .none) (by with_unfolding_all rfl) (by decide) (by decide) ⟨rfl, rfl⟩ (fun _ => rfl) (cexpr (.cell (ext := []) (.tail _ (.tail _ (.head _))) hoa rfl (by decide) rfl ⟨rfl, rfl⟩ (by repeat' (first | exact List.forall_mem_nil _ | refine List.forall_mem_cons.mpr ⟨.inr ⟨rfl, rfl⟩, ?_⟩))) 4 ⟨rfl, rfl⟩) (Nat.le_trans hv10 (by decide)) ⟨rfl, rfl⟩ (fun i ys o' h => List.mem_append_left _ (h.1 ▸ hD)) ?_ ?_
      · rintro i v ys o' I2 oI2 C2 oC2 D2 m₂ hv ⟨rfl, rfl⟩ hC hx
        obtain ⟨e, te, he, rfl⟩ := ints_at2 hI hv
        have hem := hsm e (List.mem_of_getElem? he)
        obtain ⟨tn, hn⟩ := O.na e (O.lt _ hem)
        obtain ⟨tx, hx1⟩ := O.tx e (O.lt _ hem)
        have ec := take_filter (fun e => nmf e == S.length) he
        refine TurnC.by (.loc (ext := [("name", .str (nmS S.length) u5)]) (.tail _ (.head _)) hC hx rfl (by decide) rfl ⟨rfl, rfl⟩ (by repeat' (first | exact List.forall_mem_nil _ | refine List.forall_mem_cons.mpr ⟨.inr ⟨rfl, rfl⟩, ?_⟩ | refine List.forall_mem_cons.mpr ⟨.inl ⟨_, _, rfl, .tail _ (.tail _ (.tail _ (.tail _ (.tail _ (.head _))))), hoa⟩, ?_⟩))) 12 ?_
        refine wp_item (j := e) (List.mem_append_right _ (mem_at 2 rfl)) rfl hn (h60 e hem) ?_
        refine bif_mk (fun h1 => ?_) fun h1 => ?_
        · rw [nm_beq (O.nm2 e) hi2] at h1
          refine wp_item (j := e) (List.mem_append_right _ (mem_at 3 rfl)) rfl hx1 (h60 e hem) ?_
          refine ⟨⟨rfl, rfl⟩, rfl, ?_⟩
          rw [ec, if_pos h1, List.map_append, List.map_singleton, hx1]; rfl
        · rw [nm_beq (O.nm2 e) hi2] at h1
          refine ⟨⟨rfl, rfl⟩, rfl, ?_⟩
          rw [ec, if_neg (by rw [h1]; decide)]
      · rintro D2 ys o' ⟨rfl, rfl⟩
        rw [hvl, List.take_length]
        have hST : StrsAre (((standF nmf snf Z.kn.ns).filter fun e => nmf e == S.length).map fun e => (Z.vT[e]?).getD .none) (((standF nmf snf Z.kn.ns).filter fun e => nmf e == S.length).map fun e => txt (ab e).2.1 (ab e).2.2.1 (ab e).2.2.2) := strs_of _ _ _ fun e he => by
          obtain ⟨t, q⟩ := O.tx e (O.lt _ (hsm e (List.mem_filter.mp he).1))
          exact ⟨t, by rw [q]; rfl⟩
        rw [hSe] at hST
        refine wp_sorted (n := _) (.head _) hST ?_ fun D8 vs8 ss8 e8 a1 a2 a3 => ?_
        · rw [List.length_map]
          exact Nat.lt_of_le_of_lt (Nat.le_trans (List.length_filter_le _ _) (hvl ▸ hv10)) (by decide)
        refine ⟨⟨rfl, rfl⟩, .tail _ (.tail _ hD), S ++ [⟨D8, vs8, e8, ss8⟩], ⟨by simp, by simp, fun z hz => ?_⟩, fun j z hz => ?_⟩
        · exact (List.mem_append.mp hz).elim (fun h => .tail _ (.tail _ (hS z h))) fun h => by rw [List.mem_singleton.mp h]; exact .head _
        · rcases Nat.lt_or_ge j S.length with hj | hj
          · rw [List.getElem?_append_left hj] at hz
            exact hf j z hz
          · rw [List.getElem?_append_right hj] at hz
            have hj0 : j - S.length = 0 := by
              cases hq : j - S.length with
              | zero => rfl
              | succ q => rw [hq] at hz; simp at hz
            rw [hj0] at hz
            have hz' := Option.some.inj hz
            subst hz'
            have hj1 : j = S.length := Nat.le_antisymm (Nat.le_of_sub_eq_zero hj0) hj
            rw [hj1]
            exact ⟨a1, a2, a3⟩
    · rintro D ys o ⟨hD, S, ⟨hS1, rfl, hS⟩, hf⟩
      have hS2 : S.length = 2 := hS1
      match S, hS2, hS, hf with
      | [z0, z1], _, hS, hf =>
        obtain ⟨a1, a2, a3⟩ := hf 0 z0 rfl
        obtain ⟨b1, b2, b3⟩ := hf 1 z1 rfl
        refine wp_len (.tail _ (List.mem_append_left _ hD)) (Nat.le_trans hv10 (by decide)) fun t1 => ?_
        intro D5
        refine wp_addL (vs := [.ref z0.a, .ref z1.a]) (us := [.int _ t1]) (mem_at 1 (by with_unfolding_all rfl)) (mem_at 0 rfl) (show 2 + 1 ≤ 1000 by decide) fun D6 => ?_
        have sub : ∀ q ∈ o, q ∈ (D6, W.listOf #[.ref z0.a, .ref z1.a, .int (X.vals.length : Int) t1] 0) :: (D5, W.listOf #[.int (X.vals.length : Int) t1] 0) :: (D, PyProof.Rows.LCg.lst [.ref z0.a, .ref z1.a]) :: o := fun q hq => .tail _ (.tail _ (.tail _ hq))
        refine ⟨fun q hq => .inr (List.mem_append_right _ hq), fun h' A hh => ?_⟩
        have new : ∀ q ∈ (D6, W.listOf #[.ref z0.a, .ref z1.a, .int (X.vals.length : Int) t1] 0) :: (D5, W.listOf #[.int (X.vals.length : Int) t1] 0) :: (D, PyProof.Rows.LCg.lst [.ref z0.a, .ref z1.a]) :: o, s₀.get? q.1 = none ∧ h'.get? q.1 = some q.2 := fun q hq => by
          have z := hh q (List.mem_append_left _ hq)
          refine ⟨z.2 fun hm => ?_, z.1⟩
          obtain ⟨r, hr, e⟩ := List.mem_map.mp hm
          exact A.2 q hq r hr e
        refine ⟨⟨D6, z0.a, z1.a, z0.vs, z1.vs, z0.ss, z1.ss, 0, z0.e, z1.e, X.vals.length, t1⟩, rfl, List.forall_mem_cons.mpr ⟨new _ (.head _), List.forall_mem_cons.mpr ⟨new _ (sub _ (hS z0 (.head _))), List.forall_mem_cons.mpr ⟨new _ (sub _ (hS z1 (.tail _ (.head _)))), List.forall_mem_nil _⟩⟩⟩, a1, b1, a2, b2, a3, b3, ?_⟩
        show X.vals.length = _
        rw [hvl, List.length_map]
structure DuX where
  sz : List KnZ
  eS : Nat
  vN : List Value
  eN : Nat
  vT : List Value
  eT : Nat
  zs : List ShowZ
  eD : Nat
  kk : Nat → KnZ
  eK : Nat
  T : Nw
  v1 : Option Value
  v2 : Option Value
  v3 : Option Value
  v4 : Option Value
  v5 : Option Value
  v6 : Option Value
  v7 : Option Value
structure DuI (ns : List Nat) (pN pW : Addr × Obj) (k : Nat) (st : DuX) : Prop where
  tz : ∀ z ∈ st.sz, z.obj ∈ st.T
  tk : ∀ i, i < 2 → (st.kk i).obj ∈ st.T
  ts : ∀ z ∈ st.zs, ∀ q ∈ showLed z, q ∈ st.T
  tn : pN ∈ st.T
  tw : pW ∈ st.T
  lz : st.sz.length = k
  lN : st.vN.length = k
  lT : st.vT.length = k
  se : ∀ (e : Nat) (z : KnZ), st.sz[e]? = some z → z.ok ∧ z.ns = snN ns e
  na : ∀ e, e < k → ∃ t, st.vN[e]? = some (.str (nmS (nameN ns e)) t)
  tx : ∀ e, e < k → ∃ t, st.vT[e]? = some (.str (txt (abN ns e).2.1 (abN ns e).2.2.1 (abN ns e).2.2.2) t)
  kk : ∀ i, i < 2 → (st.kk i).ok ∧ (st.kk i).ns = (runD ns k).kn i
  zs : ZAll st.zs (dueL ns k)
  nn : ∀ z ∈ st.zs, ∀ q ∈ showLed z, q.1 ≠ pN.1
noncomputable def duN (X : DuX) : List (Str × Option Value) := [("k", X.v1), ("v", X.v2), ("ones", X.v3), ("shown", X.v4), ("early", X.v5), ("known", X.v6), ("flags", X.v7)]
structure DuC where
  m : Mp
  DU : Addr
  NA : Addr
  TX : Addr
  SE : Addr
  KW : Addr
  Wd : Addr
noncomputable def duM (z : DuC) : Mp := fun y => if y = "due" then some (.ref z.DU) else if y = "names" then some (.ref z.NA) else if y = "texts" then some (.ref z.TX) else if y = "seen" then some (.ref z.SE) else if y = "knows" then some (.ref z.KW) else if y = "words" then some (.ref z.Wd) else z.m y
noncomputable def duO (z : DuC) (X : DuX) : Nw := [(z.DU, W.listOf (X.zs.map fun z => .ref z.D).toArray X.eD), (z.NA, W.listOf X.vN.toArray X.eN), (z.TX, W.listOf X.vT.toArray X.eT), (z.SE, W.listOf (X.sz.map fun z => .ref z.a).toArray X.eS), (z.KW, W.listOf #[.ref (X.kk 0).a, .ref (X.kk 1).a] X.eK)]
noncomputable def duG (z : DuC) (X : DuX) : Sg := ⟨lay (duN X) (duM z), duO z X, X.T, 0⟩
noncomputable def duEl (zf : Nat → KnZ) : List Value := ((List.range 3).map zf).map fun z => Value.ref z.a
noncomputable def duE (z : DuC) (X : DuX) (En : Addr) (zf : Nat → KnZ) : Nw := (En, PyProof.Rows.LCg.lst (duEl zf)) :: duO z X
set_option maxHeartbeats 8000000 in
theorem c_due {Nn : Addr} {vs : List Value} {n : Nat} {ns : List Nat} (hns : ns.length = 6) (hvs : IntsAre vs (ns.map fun x => ((x : Nat) : Int))) :
    ConL prog w p loose mean mg mb 404 [.ref Nn] 80 (fun _ => True) [(Nn, lstObj vs n)] [] (fun s h' r => Tells s h' r (dueL ns 5 ++ [dueE ns])) := by
  refine conW_cells (binds := [("numbers", .ref Nn)]) [] [(Nn, lstObj vs n)] (fun _ => rfl) (fun _ => rfl) (fun s => BindsTo.of_eq rfl) (fun c s₀ R l => vfirst 7 60 ?_) (fun _ _ _ _ => ⟨.nil, fun _ h => nomatch h⟩) (fun q hq => hq) (by rfl) (by decide) (fun _ => rfl) (by rfl) (by rfl) (by rfl)
  intro w0 w1 w2 Wd K0 K1 KW SE TX NA DU
  refine Wp.to (.trans (.lay (l := duN ⟨[], 0, [], 0, [], 0, [], 0, fun i => if i = 0 then ⟨K0, [], 0, []⟩ else ⟨K1, [], 0, []⟩, 0, [], none, none, none, none, none, none, none⟩) (m₀ := duM ⟨_, DU, NA, TX, SE, KW, Wd⟩) (.cons rfl (.cons rfl (.cons rfl (.cons rfl (.cons rfl (.cons rfl (.cons rfl .nil))))))) (fun _ _ => rfl)) (.move (a := [_, _, _, _, _]) (b := [_, _, _]) (o := []) rfl rfl)) ?_
  refine wp_forR (by rfl) (vexpr 4 ?_) rfl
  intro t0
  refine ⟨5, t0, fun k g => ∃ X : DuX, DuI ns (Nn, lstObj vs n) (Wd, W.listOf #[.str (Str.ofString "OPTIMIZED") w0, .str (Str.ofString "NEWLOCALS") w1, .str (Str.ofString "VARARGS") w2] 0) k X ∧ g = duG ⟨_, DU, NA, TX, SE, KW, Wd⟩ X, rfl, by decide, ⟨⟨[], 0, [], 0, [], 0, [], 0, fun i => if i = 0 then ⟨K0, [], 0, []⟩ else ⟨K1, [], 0, []⟩, 0, [(K1, W.listOf #[] 0), (K0, W.listOf #[] 0), (Wd, W.listOf #[.str (Str.ofString "OPTIMIZED") w0, .str (Str.ofString "NEWLOCALS") w1, .str (Str.ofString "VARARGS") w2] 0), (Nn, lstObj vs n)], none, none, none, none, none, none, none⟩,
    ⟨fun _ h => (nomatch h), fun i hi => ?_, fun _ h => (nomatch h), mem_at 3 rfl, mem_at 2 rfl, rfl, rfl, rfl, fun e z h => absurd (show ([] : List KnZ)[e]? = some z from h) (by simp), fun _ h => (nomatch h), fun _ h => (nomatch h), fun i hi => ?_, True.intro, fun _ h => (nomatch h)⟩, rfl⟩, ?_, ?_⟩
  · match i, hi with
    | 0, _ => exact mem_at 1 rfl
    | 1, _ => exact mem_at 0 rfl
  · match i, hi with
    | 0, _ => exact ⟨.nil, rfl⟩
    | 1, _ => exact ⟨.nil, rfl⟩
  · rintro k' g t hk1 ⟨⟨sz, eS, vN, eN, vT, eT, zs, eD, kk, eK, T, v1, v2, v3, v4, v5, v6, v7⟩, V, rfl⟩
    have hk5 : k' + 1 ≤ 5 := hk1
    have hkn : k' < ns.length := by rw [hns]; exact Nat.lt_of_lt_of_le hk1 (by decide)
    obtain ⟨x, hx⟩ : ∃ x, x = ns.getD k' 0 := ⟨_, rfl⟩
    have hv : ∃ t, vs[k']? = some (.int (x : Int) t) := intsAt hvs (by rw [List.getElem?_map, List.getElem?_eq_getElem hkn, hx, List.getD_eq_getElem?_getD, List.getElem?_eq_getElem hkn]; rfl)
    obtain ⟨tv, hv⟩ := hv
    have x2 : x % 2 < 2 := Nat.mod_lt _ (by decide)
    have eS2 : siteN ns k' = x % 2 := by unfold siteN; rw [← hx]
    have eE : earlyN ns k' = x / 2 % 60 % (k' + 1) := by unfold earlyN; rw [← hx]
    have hKW : [Value.ref (kk 0).a, .ref (kk 1).a][x % 2]? = some (.ref (kk (x % 2)).a) := by
      rcases Nat.lt_or_ge (x % 2) 1 with h | h
      · rw [show x % 2 = 0 by omega]; rfl
      · rw [show x % 2 = 1 by omega]; rfl
    obtain ⟨hp1, hp2⟩ := past_run ns (k' + 1)
    obtain ⟨pre, hs, hp⟩ := past_pre ns k'
    have hee := e_early x k'
    have hm2 := e_mod2 x
    have h60 : ∀ {e : Nat}, e < 5 → e < 2 ^ 60 := fun h => Nat.lt_of_lt_of_le h (by decide)
    refine wp_storeL rfl rfl (vfirst 3 60 ?_)
    refine wp_item (j := k') (in_all (List.mem_append_right [_, _, _, _, _] V.tn)) rfl hv (h60 hk1) ?_
    intro t1
    refine wp_fdiv (by decide) (by decide) fun t2 _ => ?_
    intro t3 t4 t5 t6 t7 t8 t9
    refine wp_item (j := x % 2) (mem_at 4 rfl) hm2 hKW (Nat.lt_of_lt_of_le x2 (by decide)) ?_
    refine wp_cut (fun g g' => ∃ (P : KnZ) (T' : Nw), (P.ok ∧ P.ns = pre ∧ P.obj ∈ T' ∧ ∀ q ∈ T, q ∈ T') ∧ g' = ⟨(g.set "known" (.ref P.a)).m, g.o, T', g.b⟩) (vstm 60 ?_) ?_
    · refine bif_mk (fun hb => ?_) fun hb => ?_
      · have he : x / 2 % 60 % (k' + 1) < k' := Int.ofNat_lt.mp (hee ▸ of_decide_eq_true hb)
        obtain ⟨ze, hze⟩ : ∃ z, sz[x / 2 % 60 % (k' + 1)]? = some z := ⟨_, List.getElem?_eq_getElem (by rw [show sz.length = k' from V.lz]; exact he)⟩
        obtain ⟨hz1, hz2⟩ := V.se _ _ hze
        obtain ⟨hk1', hk2'⟩ := V.kk _ x2
        refine wp_asgN (by with_unfolding_all rfl) (wp_compR (n := k') (Inv := fun i ys o => o = duO _ _ ∧ IntsAre ys (((List.range i).filter fun e => (kk (x % 2)).ns.contains e || ze.ns.contains e).map fun x => ((x : Nat) : Int))) (by with_unfolding_all rfl) (by decide) (by decide) ⟨rfl, rfl⟩ rfl (by rfl) (vexpr 4 ⟨⟨t, rfl⟩, rfl⟩) (Nat.le_trans (Nat.le_of_lt hk1) (by decide)) ⟨rfl, .nil⟩ ?_ ?_)
        · rintro i v ys o I oI C oC D m₂ hi ⟨ti, rfl⟩ ⟨rfl, hys⟩ hC hxm
          have ec := filter_snoc (fun e => (kk (x % 2)).ns.contains e || ze.ns.contains e) (List.range i) i
          rw [← List.range_succ] at ec
          have hy1 : ((kk (x % 2)).ns.contains i || ze.ns.contains i) = true → IntsAre (ys ++ [.int (i : Int) ti]) (((List.range (i + 1)).filter fun e => (kk (x % 2)).ns.contains e || ze.ns.contains e).map fun x => ((x : Nat) : Int)) := fun hb => by
            rw [ec, if_pos hb, List.map_append]; exact hys.append (.cons _ _ .nil)
          have hy2 : ((kk (x % 2)).ns.contains i || ze.ns.contains i) = false → IntsAre ys (((List.range (i + 1)).filter fun e => (kk (x % 2)).ns.contains e || ze.ns.contains e).map fun x => ((x : Nat) : Int)) := fun hb => by
            rw [ec, if_neg (by rw [hb]; decide)]; exact hys
          refine TurnC.by (.loc (ext := []) (.tail _ (.head _)) hC hxm rfl (by decide) rfl ⟨rfl, rfl⟩ (by repeat' (first | exact List.forall_mem_nil _ | refine List.forall_mem_cons.mpr ⟨.inr ⟨rfl, rfl⟩, ?_⟩))) 12 ?_
          refine wp_in (z := kk (x % 2)) (List.mem_append_right _ (List.mem_append_left _ (V.tk _ x2))) hk1' ?_
          refine bif_mk (fun hb1 => ?_) fun hb1 => ?_
          · exact ⟨⟨rfl, rfl⟩, rfl, hy1 (by rw [hb1]; rfl)⟩
          refine wp_item (j := x / 2 % 60 % (k' + 1)) (mem_at 3 rfl) hee (by rw [List.getElem?_map, hze]; rfl) (h60 (Nat.lt_trans he hk1)) ?_
          refine wp_in (z := ze) (List.mem_append_right _ (List.mem_append_left _ (V.tz _ (List.mem_of_getElem? hze)))) hz1 ?_
          refine bif_mk (fun hb2 => ?_) fun hb2 => ?_
          · exact ⟨⟨rfl, rfl⟩, rfl, hy1 (by rw [hb1, hb2]; rfl)⟩
          · exact ⟨⟨rfl, rfl⟩, rfl, hy2 (by rw [hb1, hb2]; rfl)⟩
        · rintro D ys o ⟨rfl, hys⟩
          refine wp_storeC rfl rfl ?_
          refine ⟨rfl, _, .move (a := []) (b := [_]) (o := duO _ _) rfl rfl, ⟨D, ys, ys.length, _⟩, _ :: T, ⟨hys, ?_, .head _, fun q hq => .tail _ hq⟩, rfl⟩
          show List.filter _ _ = pre
          rw [hp, eE, if_pos he, eS2, runD_get ns k' _ he, ← hz2, hk2']
      · have he : ¬ x / 2 % 60 % (k' + 1) < k' := fun h => by
          rw [decide_eq_true (hee ▸ Int.ofNat_lt.mpr h)] at hb; cases hb
        refine ⟨rfl, _, .names fun z => congrFun (set_same (x := Str.ofString "known") (v := .ref (kk (x % 2)).a) rfl) z, kk (x % 2), T, ⟨(V.kk _ x2).1, ?_, V.tk _ x2, fun q hq => hq⟩, rfl⟩
        rw [hp, eE, if_neg he, eS2, (V.kk _ x2).2]
    · rintro g' ⟨P, T2, ⟨hPok, hPns, hPm, hTT⟩, rfl⟩
      have hsn : snN ns k' = P.ns ++ [k'] := by rw [hs, hPns]
      have hl5 : (snN ns k').length ≤ 5 := by
        have := sub_len (l' := List.range 5) (hp1.nd k' (Nat.lt_succ_self _)) fun e he => List.mem_range.mpr (Nat.lt_of_le_of_lt (hp1.le k' (Nat.lt_succ_self _) e he) hk1)
        simpa using this
      have hPl : P.vs.length + 1 ≤ 5 := by
        have h1 := hPok.length
        rw [List.length_map] at h1
        rw [hsn, List.length_append] at hl5
        rw [h1]; exact hl5
      refine vfirst 5 60 ?_
      intro D10
      refine wp_addL (vs := P.vs) (n := P.n) (us := [.int (k' : Int) t]) (in_all (List.mem_append_right [_, _, _, _, _, _] hPm)) (mem_at 0 rfl) (Nat.le_trans hPl (by decide)) fun Dn => ?_
      obtain ⟨Nz, hNz⟩ : ∃ Nz : KnZ, Nz = ⟨Dn, P.vs ++ [Value.int (k' : Int) t], 0, snN ns k'⟩ := ⟨_, rfl⟩
      have hNa : Nz.a = Dn := by rw [hNz]
      have hNns : Nz.ns = snN ns k' := by rw [hNz]
      have hNok : Nz.ok := by
        rw [hNz]
        show IntsAre (P.vs ++ [Value.int (k' : Int) t]) ((snN ns k').map fun x => ((x : Nat) : Int))
        rw [hsn, List.map_append]
        exact IntsAre.append hPok (.cons _ _ .nil)
      have hNob : Nz.obj = (Dn, W.listOf (P.vs ++ [Value.int (k' : Int) t]).toArray 0) := by rw [hNz]; rfl
      have hNl : Nz.vs.length = (snN ns k').length := by
        have h1 := hNok.length
        rw [List.length_map, hNns] at h1
        exact h1
      rw [← hNa] at hNob
      subst hNa
      obtain ⟨kk2, hkk2, hkks⟩ : ∃ kk2 : Nat → KnZ, (#[Value.ref (kk 0).a, .ref (kk 1).a] : Array Value).setIfInBounds ((x : Int).fmod 2).toNat (.ref Nz.a) = #[.ref (kk2 0).a, .ref (kk2 1).a] ∧ ∀ i, kk2 i = if i = x % 2 then Nz else kk i := by
        refine ⟨fun i => if i = x % 2 then Nz else kk i, ?_, fun _ => rfl⟩
        rw [hm2]
        rcases Nat.lt_or_ge (x % 2) 1 with h | h
        · rw [show x % 2 = 0 by omega]; rfl
        · rw [show x % 2 = 1 by omega]; rfl
      intro t11 t12
      refine wp_setL (j := 6) rfl (show 0 ≤ (x : Int).fmod 2 by rw [hm2]; exact Int.natCast_nonneg _) (show (x : Int).fmod 2 < 2 by rw [hm2]; exact Int.ofNat_lt.mpr x2) (show (x : Int).fmod 2 < 2 ^ 63 by rw [hm2]; exact Int.lt_trans (Int.ofNat_lt.mpr x2) (by decide)) hkk2 ?_
      refine wp_mAppend (mem_at 5 rfl) ?_
      refine wp_append (j := 5) (its' := ((sz ++ [Nz]).map fun z => Value.ref z.a).toArray) rfl (by rw [List.size_toArray, List.length_map, show sz.length = k' from V.lz]; exact Nat.le_trans (Nat.le_of_lt hk1) (by decide)) (by simp) ?_
      refine wp_compL (ax := Nz.a) (vs := Nz.vs) (l := Nz.n) (Inv := fun i ys o => (Nz.obj ∈ o ∧ o = _) ∧ ys.length = ((Nz.ns.take i).filter fun e => siteN ns e == 0).length) (by with_unfolding_all rfl) (by decide) (by decide) ⟨rfl, rfl⟩ (fun _ => rfl) (vexpr 4 ⟨rfl, rfl⟩) ?_ ⟨⟨mem_at 0 (by rw [hNob]; rfl), rfl⟩, rfl⟩ (fun i ys o h => List.mem_append_left _ h.1.1) ?_ ?_
      · rw [hNl]; exact Nat.le_trans hl5 (by decide)
      · rintro i v ys o I oI C oC D m₂ hvi ⟨⟨hNo, rfl⟩, hys⟩ hC hxm
        obtain ⟨e, te, he, rfl⟩ := ints_at2 hNok hvi
        have ec := take_filter (fun e => siteN ns e == 0) he
        have hek : e < ns.length := by
          have := hp1.le k' (Nat.lt_succ_self _) e (hNns ▸ List.mem_of_getElem? he)
          exact Nat.lt_of_le_of_lt this hkn
        have hve : ∃ t, vs[e]? = some (.int ((ns.getD e 0 : Nat) : Int) t) := intsAt hvs (by rw [List.getElem?_map, List.getElem?_eq_getElem hek, List.getD_eq_getElem?_getD, List.getElem?_eq_getElem hek]; rfl)
        obtain ⟨tr, hve⟩ := hve
        have hb : ((((ns.getD e 0 : Nat) : Int).fmod 2) == 0) = (siteN ns e == 0) := by rw [e_mod2]; exact nat_beq _ 0
        refine TurnC.by (.loc (ext := []) (.tail _ (.head _)) hC hxm rfl (by decide) rfl ⟨rfl, rfl⟩ (by repeat' (first | exact List.forall_mem_nil _ | refine List.forall_mem_cons.mpr ⟨.inr ⟨rfl, rfl⟩, ?_⟩))) 12 ?_
        refine wp_item (j := e) (List.mem_append_right _ (List.mem_append_left _ (hTT _ V.tn))) rfl hve (Nat.lt_of_lt_of_le hek (by rw [hns]; decide)) ?_
        intro t13 t14 t15
        refine bif_mk (fun h => ?_) fun h => ?_
        · refine ⟨⟨rfl, rfl⟩, ⟨hNo, rfl⟩, ?_⟩
          rw [ec, if_pos (hb ▸ h), List.length_append, List.length_append, hys]; rfl
        · refine ⟨⟨rfl, rfl⟩, ⟨hNo, rfl⟩, ?_⟩
          rw [ec, if_neg (by rw [hb.symm.trans h]; decide), hys]
      · rintro D ys o ⟨⟨hNo, rfl⟩, hys⟩
        have hones : ys.length = cntS (siteN ns) 0 (snN ns k') := by
          rw [hys, List.take_of_length_le (by have := hNok.length; rw [List.length_map] at this; omega), hNns]; rfl
        have hcl : cntS (siteN ns) 0 (snN ns k') ≤ (snN ns k').length := List.length_filter_le _ _
        refine wp_len (mem_at 0 (by with_unfolding_all rfl)) (by rw [hones]; exact Nat.le_trans hcl (Nat.le_trans hl5 (by decide))) ?_
        rw [hones]
        intro tO t16
        refine wp_fdiv (by decide) (by decide) fun t17 _ => ?_
        intro t18 t19 t20 t21
        have hfl : flagN ns k' = x / 480 % 7 + 1 := by unfold flagN; rw [← hx]
        obtain ⟨fl, hflE⟩ : ∃ fl, fl = flagN ns k' := ⟨_, rfl⟩
        have hfl1 : 1 ≤ fl ∧ fl ≤ 7 := by
          have : x / 480 % 7 < 7 := Nat.mod_lt _ (by decide)
          rw [hflE, hfl]; exact ⟨Nat.succ_le_succ (Nat.zero_le _), this⟩
        have hfe : (((x : Int).fdiv 480).fmod 7 + 1) = (fl : Int) := by rw [hflE, hfl]; exact e_flag x
        refine Wp.to (.trans (.lay (l := duN ⟨sz ++ [Nz], eS + 1, vN, eN, vT, eT, zs, eD, kk2, eK, T2, some (.int (k' : Int) t), some (.int (x : Int) tv), some (.int ((cntS (siteN ns) 0 (snN ns k') : Nat) : Int) tO), v4, _, some (.ref Nz.a), some (.int (fl : Int) t21)⟩) (m₀ := duM ⟨_, DU, NA, TX, SE, KW, Wd⟩)
          (.cons rfl (.cons rfl (.cons rfl (.cons rfl (.cons rfl (.cons rfl (.cons (congrArg (fun y => some (Value.int y t21)) hfe) .nil))))))) ((((((((Offs.lay rfl).set (g := ⟨_, _, _, _⟩) rfl).set rfl).set rfl).set rfl).set (g := ⟨_, _, _, _⟩) rfl).set (g := ⟨_, _, _, _⟩) rfl).set (g := ⟨_, _, _, _⟩) rfl |>.set rfl)) (.trans (.led (o := _ :: duO ⟨_, DU, NA, TX, SE, KW, Wd⟩ ⟨sz ++ [Nz], eS + 1, vN, eN, vT, eT, zs, eD, kk2, eK, T2, none, none, none, none, none, none, none⟩) (.cons _ (.cons_cons _ (.cons _ (.refl _)))) (t := T2) fun q hq => List.mem_append_left _ hq)
          (.trans (.move (a := []) (b := [_]) (o := duO ⟨_, DU, NA, TX, SE, KW, Wd⟩ _) rfl rfl) (.led (.refl _) (t := Nz.obj :: T2) fun q hq => List.mem_append_left _ ((List.mem_cons.mp hq).elim (fun e => e.trans hNob ▸ .head _) fun h => .tail _ h))))) ?_
        have hTT2 : ∀ q ∈ T, q ∈ Nz.obj :: T2 := fun q hq => .tail _ (hTT q hq)
        have hNm : Nz.obj ∈ Nz.obj :: T2 := .head _
        generalize Nz.obj :: T2 = T3 at hTT2 hNm ⊢
        have hw0 : ∀ i, i < 3 → [Value.str (Str.ofString "OPTIMIZED") w0, .str (Str.ofString "NEWLOCALS") w1, .str (Str.ofString "VARARGS") w2][i]? = some (([Value.str (Str.ofString "OPTIMIZED") w0, .str (Str.ofString "NEWLOCALS") w1, .str (Str.ofString "VARARGS") w2][i]?).getD .none)
          | 0, _ => rfl
          | 1, _ => rfl
          | 2, _ => rfl
        obtain ⟨wv, hwv⟩ : ∃ wv : Nat → Value, wv = fun i => ([Value.str (Str.ofString "OPTIMIZED") w0, .str (Str.ofString "NEWLOCALS") w1, .str (Str.ofString "VARARGS") w2][i]?).getD .none := ⟨_, rfl⟩
        refine wp_cons (wp_asgCR (n := 3) (Inv := fun i ys o => o = duO ⟨_, DU, NA, TX, SE, KW, Wd⟩ ⟨sz ++ [Nz], eS + 1, vN, eN, vT, eT, zs, eD, kk2, eK, T2, none, none, none, none, none, none, none⟩ ∧ ys = ((List.range i).filter fun i => fl / 2 ^ i % 2 == 1).map wv) (by with_unfolding_all rfl) (by decide) (by decide) ⟨rfl, rfl⟩ rfl (by rfl) (by with_unfolding_all rfl) rfl rfl (vexpr 4 fun t => ⟨⟨t, rfl⟩, rfl⟩) (by decide) ⟨rfl, rfl⟩ ?_ ?_)
        · rintro i v ys o I oI C oC D2 m₂ hi3 ⟨ti, rfl⟩ ⟨rfl, rfl⟩ hC hxm
          have ec := filter_snoc (fun i => fl / 2 ^ i % 2 == 1) (List.range i) i
          rw [← List.range_succ] at ec
          have hP : 1 ≤ 2 ^ i ∧ 2 ^ i ≤ 4 := by
            match i, hi3 with
            | 0, _ => decide
            | 1, _ => decide
            | 2, _ => decide
          have hy : (2 : Int) ^ Int.toNat (i : Int) = ((2 ^ i : Nat) : Int) := by simp
          have hb : ((((fl : Int)).fdiv ((2 : Int) ^ Int.toNat (i : Int))).fmod 2 == 1) = (fl / 2 ^ i % 2 == 1) := by rw [e_bit fl (2 ^ i) hy]; exact nat_beq _ 1
          refine TurnC.by (.loc (ext := []) (.tail _ (.head _)) hC hxm rfl (by decide) rfl ⟨rfl, rfl⟩ (by repeat' (first | exact List.forall_mem_nil _ | refine List.forall_mem_cons.mpr ⟨.inr ⟨rfl, rfl⟩, ?_⟩))) 12 ?_
          intro tA
          refine wp_pow (Int.natCast_nonneg i) (by omega) (by decide) fun tB _ => ?_
          refine wp_fdiv (by rw [hy]; omega) (by rw [hy, Int.natAbs_natCast]; exact Nat.lt_of_le_of_lt hP.2 (by decide)) fun tC _ => ?_
          intro tD tE tF
          refine bif_mk (fun h => ?_) fun h => ?_
          · refine wp_item (j := i) (List.mem_append_right _ (List.mem_append_left _ (hTT2 _ V.tw))) rfl (hw0 i hi3) (Nat.lt_trans hi3 (by decide)) ?_
            exact ⟨⟨rfl, rfl⟩, rfl, by rw [ec, if_pos (hb.symm.trans h), List.map_append, hwv]; rfl⟩
          · exact ⟨⟨rfl, rfl⟩, rfl, by rw [ec, if_neg (by rw [hb.symm.trans h]; decide)]⟩
        · rintro D2 ys2 o ⟨rfl, rfl⟩
          refine vbody 60 ?_
          refine wp_mAppend (mem_at 3 rfl) ?_
          intro tA
          have htE : tE (siteN ns) (snN ns) k' = cntS (siteN ns) 0 (snN ns k') := rfl
          have hfE : fE (siteN ns) (snN ns) k' = (snN ns k').length - cntS (siteN ns) 0 (snN ns k') := rfl
          obtain ⟨hw1, hw2⟩ := words_fl fl hfl1.2 hfl1.1
          have hw := wordsS_len fl
          have hPl2 : Nz.vs.length ≤ 5 := hNl ▸ hl5
          have hm1 : (Txt.mul (Str.ofString "\t") ((cntS (siteN ns) 0 (snN ns k') : Nat) : Int)).length ≤ 1 * 5 := len_mul_leN (by decide) (Int.ofNat_le.mpr (Nat.le_trans hcl hl5))
          have hsb : (((Nz.vs.length : Nat) : Int) - ((cntS (siteN ns) 0 (snN ns k') : Nat) : Int)) = (((snN ns k').length - cntS (siteN ns) 0 (snN ns k') : Nat) : Int) := by rw [hNl]; exact (Int.ofNat_sub hcl).symm
          have hm2 : (Txt.mul (Str.ofString "    ") (((Nz.vs.length : Nat) : Int) - ((cntS (siteN ns) 0 (snN ns k') : Nat) : Int))).length ≤ 4 * 5 := len_mul_leN (by decide) (by rw [hsb]; exact Int.ofNat_le.mpr (Nat.le_trans (Nat.sub_le _ _) hl5))
          have et : Txt.mul (Str.ofString "\t") ((cntS (siteN ns) 0 (snN ns k') : Nat) : Int) ++ Txt.mul (Str.ofString "    ") (((Nz.vs.length : Nat) : Int) - ((cntS (siteN ns) 0 (snN ns k') : Nat) : Int)) ++ Txt.join (Str.ofString ", ") (((List.range 3).filter fun i => fl / 2 ^ i % 2 == 1).map wordW) = txt (abN ns k').2.1 (abN ns k').2.2.1 (abN ns k').2.2.2 := by
            rw [hw1, hsb, hflE]
            exact txt_val _ _ _
          have hm3 : (Txt.mul (Str.ofString "\t") ((cntS (siteN ns) 0 (snN ns k') : Nat) : Int) ++ Txt.mul (Str.ofString "    ") (((Nz.vs.length : Nat) : Int) - ((cntS (siteN ns) 0 (snN ns k') : Nat) : Int))).length + (Txt.join (Str.ofString ", ") (((List.range 3).filter fun i => fl / 2 ^ i % 2 == 1).map wordW)).length ≤ 1000000 := by
            rw [hw1, Str.length_append]; omega
          have hx4 : x / 120 % 4 < 4 := Nat.mod_lt _ (by decide)
          have hnm : x / 120 % 4 % 2 = nameN ns k' := by unfold nameN; rw [← hx]
          have hnx := e_name x
          refine wp_mulS (by decide) (Int.natCast_nonneg _) (Int.le_trans (Int.ofNat_le.mpr (Nat.le_trans hcl hl5)) (by decide)) fun tB => ?_
          intro tC
          refine wp_len (vs := Nz.vs) (e := Nz.n) (in_all (List.mem_append_right [_, _, _, _, _, _] hNm)) (Nat.le_trans hPl2 (by decide)) fun tD => ?_
          intro tE
          refine wp_mulS (by decide) (by rw [hsb]; exact Int.natCast_nonneg _) (by rw [hsb]; exact Int.le_trans (Int.ofNat_le.mpr (Nat.le_trans (Nat.sub_le _ _) hl5)) (by decide)) fun tF => ?_
          refine wp_addS (Nat.le_trans (Nat.add_le_add hm1 hm2) (by decide)) fun tG => ?_
          intro tH
          refine wp_join (ys := ((List.range 3).filter fun i => fl / 2 ^ i % 2 == 1).map wordW) (mem_at 0 rfl) (strs_of _ _ _ fun r hr => ?_) (by decide +kernel) hw2 fun tI => ?_
          · rw [hwv]
            have hr3 : r < 3 := List.mem_range.mp (List.mem_filter.mp hr).1
            match r, hr3 with
            | 0, _ => exact ⟨w0, rfl⟩
            | 1, _ => exact ⟨w1, rfl⟩
            | 2, _ => exact ⟨w2, rfl⟩
          refine wp_addS hm3 fun tT => ?_
          rw [et]
          refine wp_append (j := 3) rfl (by rw [List.size_toArray, show vT.length = k' from V.lT]; exact Nat.le_trans (Nat.le_of_lt hk1) (by decide)) (List.push_toArray ..) ?_
          refine wp_mAppend (mem_at 2 rfl) ?_
          intro tJ tK
          refine wp_fdiv (by decide) (by decide) fun tL _ => ?_
          intro tM tO
          refine wp_itemS (by rw [show Int.fmod (Int.fdiv (x : Int) 120) (Int.ofNat (3 + 1)) = _ from hnx]; exact Int.natCast_nonneg _) (by rw [show Int.fmod (Int.fdiv (x : Int) 120) (Int.ofNat (3 + 1)) = _ from hnx]; exact Int.ofNat_lt.mpr hx4) (by rw [show Int.fmod (Int.fdiv (x : Int) 120) (Int.ofNat (3 + 1)) = _ from hnx]; exact Int.lt_trans (Int.ofNat_lt.mpr hx4) (by decide)) fun tN _ => ?_
          have hkm : Txt.item (Str.ofString "kmkm") (Int.fmod (Int.fdiv (x : Int) 120) (Int.ofNat (3 + 1))) = nmS (nameN ns k') := by rw [← hnm]; exact item_kmkm hx4 hnx
          rw [hkm]
          refine wp_append (j := 2) rfl (by rw [List.size_toArray, show vN.length = k' from V.lN]; exact Nat.le_trans (Nat.le_of_lt hk1) (by decide)) (List.push_toArray ..) ?_
          refine wp_mAppend (mem_at 1 rfl) ?_
          have hse : ∀ (e : Nat) (z : KnZ), (sz ++ [Nz])[e]? = some z → z.ok ∧ z.ns = snN ns e := fun e z hz => by
            rcases snoc_get hz with h | ⟨h1, h2⟩
            · exact V.se e z h
            · rw [h2, h1, show sz.length = k' from V.lz]; exact ⟨hNok, hNns⟩
          have hlz : (sz ++ [Nz]).length = k' + 1 := by rw [List.length_append, show sz.length = k' from V.lz]; rfl
          have hna : ∀ e, e < k' + 1 → ∃ t, (vN ++ [Value.str (nmS (nameN ns k')) tN])[e]? = some (.str (nmS (nameN ns e)) t) := get_snoc V.lN V.na rfl
          have htx : ∀ e, e < k' + 1 → ∃ t, (vT ++ [Value.str (txt (abN ns k').2.1 (abN ns k').2.2.1 (abN ns k').2.2.2) tT])[e]? = some (.str (txt (abN ns e).2.1 (abN ns e).2.2.1 (abN ns e).2.2.2) t) := get_snoc V.lT V.tx rfl
          have SO : StOk ⟨Nz, SE, sz ++ [Nz], eS + 1, NA, vN ++ [Value.str (nmS (nameN ns k')) tN], eN + 1, TX, vT ++ [Value.str (txt (abN ns k').2.1 (abN ns k').2.2.1 (abN ns k').2.2.2) tT], eT + 1⟩ (nameN ns) (snN ns) (abN ns) (k' + 1) := by
            refine ⟨hNok, by show Nz.ns.length ≤ 10; rw [hNns]; exact Nat.le_trans hl5 (by decide), fun e he => ?_, Nat.le_trans hk5 (by decide), fun e he => ?_, hna, fun e => Nat.mod_lt _ (by decide), htx, fun e => rfl⟩
            · have he' : e ∈ Nz.ns := he
              rw [hNns] at he'
              exact Nat.lt_succ_of_le (hp1.le k' (Nat.lt_succ_self _) e he')
            · obtain ⟨z, hz⟩ : ∃ z, (sz ++ [Nz])[e]? = some z := ⟨_, List.getElem?_eq_getElem (by rw [hlz]; exact he)⟩
              obtain ⟨h1, h2⟩ := hse e z hz
              refine ⟨z, hz, h1, h2, ?_⟩
              have := sub_len (l' := List.range 5) (hp1.nd e he) fun x hx => List.mem_range.mpr (Nat.lt_of_le_of_lt (hp1.le e he x hx) (Nat.lt_of_lt_of_le he hk5))
              rw [List.length_range] at this
              rw [h2]; exact Nat.le_trans this (by decide)
          refine wp_con (c_standing SO) (R.le rfl) (List.forall_mem_cons.mpr ⟨in_all (List.mem_append_right [_, _, _, _, _, _] hNm), List.forall_mem_cons.mpr ⟨mem_at 4 rfl, List.forall_mem_cons.mpr ⟨mem_at 2 rfl, List.forall_mem_cons.mpr ⟨mem_at 3 rfl, fun q hq => ?_⟩⟩⟩⟩) ?_
          · obtain ⟨z, hz, rfl⟩ := List.mem_map.mp hq
            refine in_all (List.mem_append_right [_, _, _, _, _, _] ?_)
            rcases List.mem_append.mp hz with hz | hz
            · exact hTT2 _ (V.tz z hz)
            · rw [List.mem_singleton.mp hz]; exact hNm
          rintro r s h' FN ⟨z, rfl, hzn, hzs⟩
          refine ⟨showLed z, hzn, ?_⟩
          have hz2 : ∀ q ∈ showLed z, q.1 ≠ Nn := fun q hq => Ne.symm (FN q.1 (hzn q hq).1 (Nn, lstObj vs n) (in_all (List.mem_append_right [_, _, _, _, _, _] (hTT2 _ V.tn))))
          have hkn : ∀ i, (runD ns (k' + 1)).kn i = if i = x % 2 then snN ns k' else (runD ns k').kn i := fun i => by rw [hx]; rfl
          have hzl : zs.length = k' := by
            have h1 := V.zs.len
            rw [show (dueL ns k').length = k' by simp [dueL]] at h1
            exact h1
          refine wp_append (j := 1) (its' := ((zs ++ [z]).map fun z => Value.ref z.D).toArray) rfl (by rw [List.size_toArray, List.length_map, hzl]; exact Nat.le_trans (Nat.le_of_lt hk1) (by decide)) (by simp) ?_
          refine turn_mk _ (.trans (.lay (l := duN ⟨sz ++ [Nz], eS + 1, vN ++ [Value.str (nmS (nameN ns k')) tN], eN + 1, vT ++ [Value.str (txt (abN ns k').2.1 (abN ns k').2.2.1 (abN ns k').2.2.2) tT], eT + 1, zs ++ [z], eD + 1, kk2, eK, showLed z ++ T3, _, _, _, some (.ref D2), _, _, _⟩) (m₀ := duM ⟨_, DU, NA, TX, SE, KW, Wd⟩) (.cons rfl (.cons rfl (.cons rfl (.cons rfl (.cons rfl (.cons rfl (.cons rfl .nil))))))) ((Offs.lay rfl).set (g := ⟨_, _, _, _⟩) rfl)) (.led (.cons _ (.refl _)) (t := showLed z ++ T3) fun q hq => List.mem_append_left _ hq)) ⟨⟨sz ++ [Nz], eS + 1, vN ++ [Value.str (nmS (nameN ns k')) tN], eN + 1, vT ++ [Value.str (txt (abN ns k').2.1 (abN ns k').2.2.1 (abN ns k').2.2.2) tT], eT + 1, zs ++ [z], eD + 1, kk2, eK, showLed z ++ T3, _, _, _, some (.ref D2), _, _, _⟩,
            ⟨fun z' hz' => List.mem_append_right _ ((List.mem_append.mp hz').elim (fun h => hTT2 _ (V.tz z' h)) fun h => by rw [List.mem_singleton.mp h]; exact hNm), fun i hi => ?_,
              fun z' hz' q hq => (List.mem_append.mp hz').elim (fun h => List.mem_append_right _ (hTT2 _ (V.ts z' h q hq))) fun h => List.mem_append_left _ (by rw [List.mem_singleton.mp h] at hq; exact hq), List.mem_append_right _ (hTT2 _ V.tn), List.mem_append_right _ (hTT2 _ V.tw), hlz, ?_, ?_, hse, hna, htx, fun i hi => ?_, ?_,
              fun z' hz' => (List.mem_append.mp hz').elim (fun h => V.nn z' h) fun h => by rw [List.mem_singleton.mp h]; exact hz2⟩, rfl⟩
          · refine List.mem_append_right _ ?_
            show (kk2 i).obj ∈ T3
            rw [hkks]
            split
            · exact hNm
            · exact hTT2 _ (V.tk i hi)
          · show (vN ++ [_]).length = _
            rw [List.length_append, show vN.length = k' from V.lN]; rfl
          · show (vT ++ [_]).length = _
            rw [List.length_append, show vT.length = k' from V.lT]; rfl
          · show (kk2 i).ok ∧ (kk2 i).ns = (runD ns (k' + 1)).kn i
            rw [hkks, hkn]
            split
            · exact ⟨hNok, hNns⟩
            · exact V.kk i hi
          · show ZAll (zs ++ [z]) (dueL ns (k' + 1))
            have : dueL ns (k' + 1) = dueL ns k' ++ [(standD ns (snN ns k')).map (abN ns)] := by
              unfold dueL
              rw [List.range_succ, List.map_append]; rfl
            rw [this]
            refine V.zs.snoc ?_
            have hzs' : Shows z ((standF (nameN ns) (snN ns) Nz.ns).map (abN ns)) := hzs
            rw [hNns] at hzs'
            exact hzs'
  · rintro g ⟨⟨sz, eS, vN, eN, vT, eT, zs, eD, kk, eK, T, v1, v2, v3, v4, v5, v6, v7⟩, V, rfl⟩
    have hv : ∃ t, vs[5]? = some (.int ((ns.getD 5 0 : Nat) : Int) t) := intsAt hvs (by rw [List.getElem?_map, List.getElem?_eq_getElem (by omega), List.getD_eq_getElem?_getD, List.getElem?_eq_getElem (by omega)]; rfl)
    obtain ⟨tv, hv⟩ := hv
    have hez : ∀ j, ∃ z, sz[endN ns j]? = some z := fun j => ⟨_, List.getElem?_eq_getElem (by rw [show sz.length = 5 from V.lz]; exact Nat.mod_lt _ (by decide))⟩
    obtain ⟨zf, hzf⟩ := Classical.axiomOfChoice hez
    have hezz : ∀ r ∈ (List.range 3).map zf, r.ok ∧ r.obj ∈ T := fun r hr => by
      obtain ⟨j, _, rfl⟩ := List.mem_map.mp hr
      exact ⟨(V.se _ _ (hzf j)).1, V.tz _ (List.mem_of_getElem? (hzf j))⟩
    have hezn : ((List.range 3).map zf).map (fun z => z.ns) = [snN ns (endN ns 0), snN ns (endN ns 1), snN ns (endN ns 2)] := by
      rw [← (V.se _ _ (hzf 0)).2, ← (V.se _ _ (hzf 1)).2, ← (V.se _ _ (hzf 2)).2]; rfl
    replace hzf : ∀ j, sz[ns.getD 5 0 / 5 ^ j % 5]? = some (zf j) := hzf
    generalize ns.getD 5 0 = x at hv hzf
    refine vbody 4 ?_
    refine wp_cons (wp_asgN (by with_unfolding_all rfl) (wp_comp0 (n := 3) (Inv := fun i ys o => o = duO _ _ ∧ ys = ((List.range i).map zf).map fun z => Value.ref z.a) (by with_unfolding_all rfl) (by decide) (by decide) ⟨rfl, rfl⟩ rfl (by rfl) (vexpr 4 fun t => ⟨⟨t, rfl⟩, rfl⟩) (by decide) ⟨rfl, rfl⟩ ?_ ?_))
    · rintro i v ys o I oI C oC D m₂ hi3 ⟨ti, rfl⟩ ⟨rfl, rfl⟩ hC hxm
      have hP : 1 ≤ 5 ^ i ∧ 5 ^ i ≤ 25 := by
        match i, hi3 with
        | 0, _ => decide
        | 1, _ => decide
        | 2, _ => decide
      have hy : (5 : Int) ^ Int.toNat (i : Int) = ((5 ^ i : Nat) : Int) := by simp
      have hz := hzf i
      have hlt : x / 5 ^ i % 5 < 5 := Nat.mod_lt _ (by decide)
      refine cexpr (.loc (ext := []) (.tail _ (.head _)) hC hxm rfl (by decide) rfl ⟨rfl, rfl⟩ (by repeat' (first | exact List.forall_mem_nil _ | refine List.forall_mem_cons.mpr ⟨.inr ⟨rfl, rfl⟩, ?_⟩))) 12 ?_
      intro tA
      refine wp_item (j := 5) (List.mem_append_right _ (List.mem_append_left _ V.tn)) rfl hv (by decide) ?_
      intro tB
      refine wp_pow (Int.natCast_nonneg i) (by omega) (by decide) fun tC _ => ?_
      refine wp_fdiv (by rw [hy]; omega) (by rw [hy, Int.natAbs_natCast]; exact Nat.lt_of_le_of_lt hP.2 (by decide)) fun tD _ => ?_
      intro tE tF
      refine wp_item (j := x / 5 ^ i % 5) (mem_at 3 rfl) (e_end x (5 ^ i) hy) (by rw [List.getElem?_map, hz]; rfl) (Nat.lt_trans hlt (by decide)) ?_
      exact ⟨⟨rfl, rfl⟩, rfl, by rw [List.range_succ, List.map_append, List.map_append]; rfl⟩
    · rintro En ys o ⟨rfl, rfl⟩
      refine wp_storeC rfl rfl ?_
      refine wp_cons (wp_asgN (by with_unfolding_all rfl) (wp_compCR (n := 5) (Inv := fun i ys o => (∀ q ∈ duE ⟨fun _ => none, DU, NA, TX, SE, KW, Wd⟩ ⟨sz, eS, vN, eN, vT, eT, zs, eD, kk, eK, T, none, none, none, none, none, none, none⟩ En zf, q ∈ o) ∧ (∃ pre, o = pre ++ (duE ⟨fun _ => none, DU, NA, TX, SE, KW, Wd⟩ ⟨sz, eS, vN, eN, vT, eT, zs, eD, kk, eK, T, none, none, none, none, none, none, none⟩ En zf)) ∧ IntsAre ys (((List.range i).filter fun e => !(((((List.range 3).map zf).map fun z => z.ns).filter fun row => row.contains e) == [])).map fun x => ((x : Nat) : Int)))
        (by with_unfolding_all rfl) (fun _ _ => rfl) (fun _ => rfl) (by decide) ⟨rfl, by rfl⟩ rfl (by rfl) (vexpr 4 fun t => ⟨⟨t, rfl⟩, rfl⟩) (by decide) ⟨fun q hq => hq, ⟨[], rfl⟩, .nil⟩ ?_ ?_))
      · rintro i v ys o I oI C oC a oa D hi5 ⟨ti, rfl⟩ ⟨hsub, ⟨pre, hpre⟩, hys⟩ hoa
        refine TurnI.by (.cell (ext := []) (.tail _ (.tail _ (.head _))) hoa rfl (by decide) rfl ⟨rfl, rfl⟩ (by repeat' (first | exact List.forall_mem_nil _ | refine List.forall_mem_cons.mpr ⟨.inr ⟨rfl, rfl⟩, ?_⟩))) 12 ?_
        refine wp_compL (ax := En) (vs := ((List.range 3).map zf).map fun z => Value.ref z.a) (l := 3) (Inv := fun j ys' o' => o' = o ∧ ys' = ((((List.range 3).map zf).take j).filter fun z => z.ns.contains i).map fun z => Value.ref z.a) (by with_unfolding_all rfl) (by decide) (by decide) ⟨rfl, rfl⟩ (fun _ => rfl) (cexpr (.cell (ext := []) (.tail _ (.tail _ (.head _))) hoa rfl (by decide) rfl ⟨rfl, rfl⟩ (by repeat' (first | exact List.forall_mem_nil _ | refine List.forall_mem_cons.mpr ⟨.inr ⟨rfl, rfl⟩, ?_⟩))) 4 ⟨rfl, rfl⟩) (by simp) ⟨rfl, rfl⟩ (fun i ys o' h => List.mem_append_left _ (h.1 ▸ hsub _ (.head _))) ?_ ?_
        · rintro j v ys2 o' I2 oI2 C2 oC2 D2 m₂ hvj ⟨rfl, rfl⟩ hC hxm
          rw [List.getElem?_map] at hvj
          obtain ⟨r, hr, rfl⟩ := Option.map_eq_some_iff.mp hvj
          have ec := take_filter (fun z : KnZ => z.ns.contains i) hr
          obtain ⟨hr1, hr2⟩ := hezz r (List.mem_of_getElem? hr)
          refine TurnC.by (.loc (ext := [(Str.ofString "e", .int (i : Int) ti)]) (.tail _ (.head _)) hC hxm rfl (by decide) rfl ⟨rfl, rfl⟩ (by repeat' (first | exact List.forall_mem_nil _ | refine List.forall_mem_cons.mpr ⟨.inl ⟨_, _, rfl, .tail _ (.tail _ (.tail _ (.tail _ (.tail _ (.head _))))), hoa⟩, ?_⟩ | refine List.forall_mem_cons.mpr ⟨.inr ⟨rfl, rfl⟩, ?_⟩))) 12 ?_
          refine wp_in (z := r) (List.mem_append_right _ (List.mem_append_left _ hr2)) hr1 ?_
          refine bif_mk (fun h => ?_) fun h => ?_
          · exact ⟨⟨rfl, rfl⟩, rfl, by rw [ec, if_pos h, List.map_append]; rfl⟩
          · exact ⟨⟨rfl, rfl⟩, rfl, by rw [ec, if_neg (by rw [h]; decide)]⟩
        · rintro D2 ys2 o' ⟨rfl, rfl⟩
          rw [List.length_map, List.take_length]
          have hP : (!(((((List.range 3).map zf).map fun z => z.ns).filter fun row => row.contains i) == [])) = !(((List.range 3).map zf).filter (fun z => z.ns.contains i)).isEmpty := by
            rw [List.filter_map]
            show (!(List.map _ (((List.range 3).map zf).filter (fun z => z.ns.contains i)) == [])) = _
            cases ((List.range 3).map zf).filter (fun z => z.ns.contains i) <;> rfl
          have ec := filter_snoc (fun e => !(((((List.range 3).map zf).map fun z => z.ns).filter fun row => row.contains e) == [])) (List.range i) i
          rw [← List.range_succ] at ec
          intro E
          refine wp_neRows (rows := ((List.range 3).map zf).filter fun z => z.ns.contains i) (mem_at 1 rfl) (mem_at 0 rfl) (fun r hr => ⟨(hezz r (List.mem_filter.mp hr).1).1, List.mem_append_right _ (List.mem_append_left _ (hezz r (List.mem_filter.mp hr).1).2)⟩) (Nat.lt_of_le_of_lt (Nat.add_le_add_left (by decide) _) R.2) ?_
          rw [← hP]
          refine bif_mk (fun h => ?_) fun h => ?_
          · exact ⟨⟨rfl, rfl⟩, fun q hq => .tail _ (.tail _ (hsub q hq)), ⟨_ :: _ :: pre, by rw [hpre]; rfl⟩, by rw [ec, if_pos h, List.map_append]; exact hys.append (.cons _ _ .nil)⟩
          · exact ⟨⟨rfl, rfl⟩, fun q hq => .tail _ (.tail _ (hsub q hq)), ⟨_ :: _ :: pre, by rw [hpre]; rfl⟩, by rw [ec, if_neg (by rw [h]; decide)]; exact hys⟩
      · rintro KD ys o ⟨-, ⟨pre, rfl⟩, hys⟩
        refine wp_storeC rfl rfl ?_
        rw [hezn] at hys
        have SO : StOk ⟨⟨KD, ys, ys.length, lastD ns [snN ns (endN ns 0), snN ns (endN ns 1), snN ns (endN ns 2)]⟩, SE, sz, eS, NA, vN, eN, TX, vT, eT⟩ (nameN ns) (snN ns) (abN ns) 5 := by
          obtain ⟨hp1, _⟩ := past_run ns 5
          have hKl : ∀ e ∈ lastD ns [snN ns (endN ns 0), snN ns (endN ns 1), snN ns (endN ns 2)], e < 5 := fun e he => List.mem_range.mp (List.mem_filter.mp he).1
          have hK5 : (lastD ns [snN ns (endN ns 0), snN ns (endN ns 1), snN ns (endN ns 2)]).length ≤ 5 := Nat.le_trans (List.length_filter_le _ _) (by simp)
          refine ⟨hys, Nat.le_trans hK5 (by decide), hKl, by decide, fun e he => ?_, V.na, fun e => Nat.mod_lt _ (by decide), V.tx, fun e => rfl⟩
          obtain ⟨z, hz⟩ : ∃ z, sz[e]? = some z := ⟨_, List.getElem?_eq_getElem (by rw [show sz.length = 5 from V.lz]; exact he)⟩
          obtain ⟨h1, h2⟩ := V.se e z hz
          refine ⟨z, hz, h1, h2, ?_⟩
          have := sub_len (l' := List.range 5) (hp1.nd e he) fun x hx => List.mem_range.mpr (Nat.lt_of_le_of_lt (hp1.le e he x hx) he)
          rw [List.length_range] at this
          rw [h2]; exact Nat.le_trans this (by decide)
        refine Wp.to (.led (o := (KD, PyProof.Rows.LCg.lst ys) :: duO ⟨_, DU, NA, TX, SE, KW, Wd⟩ ⟨sz, eS, vN, eN, vT, eT, zs, eD, kk, eK, T, none, none, none, none, none, none, none⟩) (.cons_cons _ (.trans (.cons _ (.refl _)) (List.sublist_append_right _ _))) (t := T) fun q hq => List.mem_append_left _ hq) ?_
        refine vbody 60 ?_
        refine wp_mAppend (mem_at 1 rfl) ?_
        refine wp_con (c_standing SO) (R.le rfl) (List.forall_mem_cons.mpr ⟨mem_at 0 rfl, List.forall_mem_cons.mpr ⟨mem_at 4 rfl, List.forall_mem_cons.mpr ⟨mem_at 2 rfl, List.forall_mem_cons.mpr ⟨mem_at 3 rfl, fun q hq => ?_⟩⟩⟩⟩) ?_
        · obtain ⟨z, hz, rfl⟩ := List.mem_map.mp hq
          exact in_all (List.mem_append_right [_, _, _, _, _, _] (V.tz z hz))
        rintro r s h' FN ⟨z, rfl, hzn, hzs⟩
        refine ⟨showLed z, hzn, ?_⟩
        have hz2 : ∀ q ∈ showLed z, q.1 ≠ Nn := fun q hq => Ne.symm (FN q.1 (hzn q hq).1 (Nn, lstObj vs n) (in_all (List.mem_append_right [_, _, _, _, _, _] V.tn)))
        have hzl : zs.length = 5 := by
          have h1 := V.zs.len
          rw [show (dueL ns 5).length = 5 by simp [dueL]] at h1
          exact h1
        refine wp_append (j := 1) (its' := ((zs ++ [z]).map fun z => Value.ref z.D).toArray) rfl (by rw [List.size_toArray, List.length_map, hzl]; decide) (by simp) ?_
        refine ⟨List.forall_mem_cons.mpr ⟨.inr (List.mem_append_right [_, _, _, _, _, _] (List.mem_append_right (showLed z) V.tn)), fun _ h => nomatch h⟩, fun h' A hh => ?_⟩
        have hnew : ∀ q ∈ [(KD, PyProof.Rows.LCg.lst ys)] ++ duO ⟨fun _ => none, DU, NA, TX, SE, KW, Wd⟩ ⟨sz, eS, vN, eN, vT, eT, zs ++ [z], eD + 1, kk, eK, T, none, none, none, none, none, none, none⟩ ++ (showLed z ++ T), q.1 ≠ Nn → s₀.get? q.1 = none ∧ h'.get? q.1 = some q.2 := fun q hq hne => ⟨(hh q hq).2 fun hm => hne (List.mem_singleton.mp hm), (hh q hq).1⟩
        have hDN : DU ≠ Nn := Ne.symm (A.2 _ (.tail _ (.head _)) (Nn, lstObj vs n) (List.mem_append_right _ V.tn))
        refine ⟨zs ++ [z], DU, eD + 1, rfl, List.forall_mem_cons.mpr ⟨hnew _ (.tail _ (.head _)) hDN, fun q hq => ?_⟩, ?_⟩
        · obtain ⟨y, hy, hqy⟩ := List.mem_flatMap.mp hq
          rcases List.mem_append.mp hy with hy | hy
          · exact hnew q (List.mem_append_right _ (List.mem_append_right _ (V.ts y hy q hqy))) (V.nn y hy q hqy)
          · rw [List.mem_singleton.mp hy] at hqy
            exact hnew q (List.mem_append_right _ (List.mem_append_left _ hqy)) (hz2 q hqy)
        · refine V.zs.snoc ?_
          exact hzs
theorem nat_ints : ∀ {is : List Int}, (∀ i ∈ is, 0 ≤ i) → (is.map Int.toNat).map (fun x => ((x : Nat) : Int)) = is
  | [], _ => rfl
  | i :: is, h => by
    have := nat_ints (is := is) fun j hj => h j (.tail _ hj)
    have := h i (.head _)
    simp only [List.map_cons]
    rw [‹List.map _ (List.map _ is) = is›]
    congr 1
    omega
end
theorem ints_set {vs : List Value} {ns : List Int} (h : IntsAre vs ns) (x : Int) (t : Tok) : ∀ j : Nat, IntsAre (vs.set j (.int x t)) (ns.set j x) := by
  induction h with
  | nil => exact fun _ => .nil
  | cons n u h ih => exact fun j => match j with
    | 0 => .cons _ _ h
    | j + 1 => .cons _ _ (ih j)
theorem set_pos {x : Int} (hx : 0 ≤ x) : ∀ {ns : List Int} {j : Nat}, (∀ i ∈ ns, 0 ≤ i) → ∀ i ∈ ns.set j x, 0 ≤ i := fun h i hi => (List.mem_or_eq_of_mem_set hi).elim (h i) fun e => e ▸ hx
section
variable {c : Cg} {g : Sg}
theorem wp_min {a b : Int} {t u : Tok} {k : Kt Value} (h : ∀ t, k (.int (if b < a then b else a) t) g) : Wp c (call (.builtin "min") [.int a t, .int b u]) g k :=
  Wp.leaf fun _ H s Q ⟨cs, x⟩ q => min_two_N rfl x.F x.N fun h' tk F' N' => q _ h' tk g (fun e => ⟨cs, F', x.Y, N', x.P, e⟩) (h _)
theorem wp_lenB {l : Addr} {vs : List Value} {k : Kt Value} (hl : c.h₀.IsList l vs.toArray) (hz : vs.length ≤ 1000) (h : ∀ t, k (.int (vs.length : Int) t) g) : Wp c (call (.builtin "len") [.ref l]) g k :=
  Wp.leaf fun _ H s Q S q => call_len_list (items := vs.toArray) (hl.at fun o e => S.fr.keep _ o e) (by rw [List.size_toArray]; omega) (q _ _ _ _ (fun e => S.toks e) (by rw [List.size_toArray]; exact h _))
theorem wp_itemB {value slice : PySem.Expr} {D : Addr} {vs : List Value} {j : Nat} {i : Int} {t : Tok} {v : Value} {k : Kt Value} (hl : c.h₀.IsList D vs.toArray) (hi : i = (j : Int)) (hx : vs[j]? = some v) (hj : j < 2 ^ 60) (h : k v g)
    (hs : subscripted slice false (.ref D) (.int i t) = operate [.ref D, .int i t] (getItem (.ref D) (.int i t)) := by rfl) (ht : ∀ r, letTemporaryGo value (.ref D) r = pure () := by exact fun _ => rfl) : Wp c (subscriptTail value slice (.ref D) (.int i t)) g k :=
  ⟨fun _ H s Q S q => by
    obtain ⟨o, ho, hc, n, hd⟩ := hl
    exact sub_item (S.fr.keep _ _ ho) hc hd hi hx hj (q _ _ s.toks _ S h) hs ht⟩
end
section
variable {prog : Program} {w : World} {A A₀ : Around} {s : Shared} {K : Frag} {L : Addr} {h₀ base : Heap} {m mg mb : Str → Option Value} {news : List (Addr × Obj)} {p : Program} {loose : List Str} {mean : ExcName → Option Value}
theorem enter_plain {env : Env} {outer : List Env} {R : Result → Shared → Prop} {name qual : Str} {params : Arguments} {body : List Stmt} {scope : Scope} {dV kV doc pm cdv ct oc : Value} {an od : Option Addr} {osl : Array (Option Value)} {f : Addr} {args : Args} {binds : List (Str × Value)}
    (B : Below A₀ base outer h₀) (F : Fr h₀ L s.heap m) (X₀ : K.In h₀) (N : News h₀ L s.heap news) (T : Top p loose mean mg mb h₀) (hA : A.frames = some (env :: outer)) (hf : env.frame = some L) (hke : env.scope.kind = .function)
    (ho : K.lookup f = some ⟨oc, od, .func (fnOf name qual params body scope dV kV doc pm an cdv ct), osl⟩) (hcd : codeIn K cdv qual = true) (hroom : A.depth < recursionLimit)
    (hbind : BindsTo s (fnOf name qual params body scope dV kV doc pm an cdv ct) args binds) (hloc : ∀ y ∈ binds, scope.names.lookup y.1 = some .local)
    (h : ∀ g L' h₁, Fr h₀ L g m → Fr g L' h₁ (fun y => binds.reverse.lookup y) → News g L' h₁ news → Below A base (env :: outer) g → K.In g → Top p loose mean mg mb g →
      (∀ b o, b ∉ news.map (·.1) → s.heap.get? b = some o → g.get? b = some o) → (∀ b o, g.get? b = some o → s.heap.get? b = some o) → (∀ p ∈ news, p.1 < L') →
      wpAny (model prog w) (A.deeper (envOf qual scope L' f cdv)) (execs body (envOf qual scope L' f cdv))
        (fun fl s' => LeaveK h₀ L m g R (match fl with | .ret v => v | _ => .none) s')
        (fun e s' => wpAny (model prog w) (A.deeper (envOf qual scope L' f cdv)) (leaving (envOf qual scope L' f cdv) e) (fun _ s'' => R (.error e) s'') (fun e' s'' => R (.error e') s'') s')
        { s with heap := h₁, toks := s.toks + binds.length })
    (hco : scope.isCoroutine = false) (hgen : scope.isGenerator = false) (hk : scope.kind = .function)
    (hcell : ∀ x ∈ scope.names, x.2 ≠ .cell) : codeAny (model prog w) A (.call (.ref f) args) R s := by
  obtain ⟨FG, BG, st, lv⟩ := groundX (R := R) B F N hA hf hke
  have X : K.In s.heap := X₀.keeps F.keep
  refine codeAny_call_def (fd := fnOf name qual params body scope dV kV doc pm an cdv ct) (body := body) (binds := binds) hroom (X _ _ ho) rfl (T.nolimit.keeps F.keep) (codeRec_of X hcd) rfl hbind hcell hloc (fun h₁ hns hk₁ => ?_) hco hgen hk
  exact wpAny_mono (h _ s.heap.objs.size h₁ FG ⟨hns, fun b o e => hk₁ b o (of_hideAll _ e), Nat.le_of_eq (hideAll_size _ _)⟩
    (fun p hp => ⟨hk₁ _ _ (N p hp).1, Nat.ne_of_lt (Heap.lt_size (N p hp).1), hideAll_none _ (List.mem_map_of_mem hp)⟩) BG (X₀.keeps st) (T.keeps st)
    (fun b o hn e => hideAll_get _ e hn) (fun b o e => of_hideAll _ e) (fun p hp => Heap.lt_size (N p hp).1)) (fun fl s' hl => lv _ _ hl) fun _ _ y => y
end
section
variable {prog : Program} {w : World} {p : Program} {loose : List Str} {mean : ExcName → Option Value} {mg mb : Str → Option Value}
theorem body_run {α : Type} (c : Cg) (hcl : c.cl = []) (hex : c.ex = []) (O : Ck c) {t : Sem α} {g₀ : Sg} {K : Kt α} (W : Wp c t g₀ K) {led : Nw} {s : Shared} (F : Fr c.h₀ c.L s.heap g₀.m) (N : News c.h₀ c.L s.heap led) (hA : Apart g₀.o g₀.t) (hot : ∀ q ∈ g₀.o ++ g₀.t, q ∈ led) (hb : g₀.b ≤ s.toks) {Q : α → Shared → Prop} {E : Value → Shared → Prop}
    (hq : ∀ v h' tk' g', Fr c.h₀ c.L h' g'.m → News c.h₀ c.L h' (g'.o ++ g'.t) → Apart g'.o g'.t → K v g' → Q v { s with heap := h', toks := tk' }) : wpAny (model c.prog c.w) (ar c) t Q E s := by
  refine wpAny_mono (W.run O [] _ Q ⟨[], ?_, ?_, ?_, ?_, ?_⟩ ?_) (fun _ _ x => x) fun _ _ x => x.elim
  · rw [hcl]; exact F
  · rw [hcl]; exact .nil
  · rw [hex, List.append_nil]; exact fun q hq => N q (hot q hq)
  · rw [hex, List.append_nil]; exact hA
  · exact hb
  · rintro v h' tk' g' ⟨cs', S'⟩ hk
    have Y := S'.Y
    have F' := S'.F
    have N' := S'.N
    rw [hcl] at Y F'
    cases Y
    have A' := S'.P
    rw [hex, List.append_nil] at N' A'
    exact hq v h' tk' g' F' N' A' hk
theorem conH {fa : Addr} {vs : List Value} {n : Nat} {Hh : Heap → Prop} {P : Heap → Heap → Value → Prop} {name qual : Str} {params : Arguments} {body : List Stmt} {scope : Scope} {dV kV doc pm cdv ct oc : Value} {an od : Option Addr} {osl : Array (Option Value)} {binds : List (Str × Value)}
    (ho : ∀ P, (hd.heap_39 P).lookup fa = some ⟨oc, od, .func (fnOf name qual params body scope dV kV doc pm an cdv ct), osl⟩) (hcd : ∀ P, codeIn (hd.heap_39 P) cdv qual = true)
    (hbind : ∀ s, BindsTo s (fnOf name qual params body scope dV kV doc pm an cdv ct) ⟨vs, []⟩ binds) (hH : ∀ s g : Heap, (∀ b o, s.get? b = some o → g.get? b = some o) → Hh s → Hh g)
    (h : ∀ (c : Cg) (s₀ : Heap), Room c n → Hh c.h₀ → Wp (c.fn scope []) (execs body (ev (c.fn scope []))) ⟨fun y => binds.reverse.lookup y, [], [], 0⟩ (PostW [] [] s₀ P))
    (hloc : (binds.all fun y => scope.names.lookup y.1 == some .local) = true)
    (hfl : (!scope.isCoroutine && (!scope.isGenerator && (decide (scope.kind = .function) && scope.names.all fun x => !(x.2 == .cell)))) = true) : Con prog w p loose mean mg mb fa vs (n + 1) Hh [] P := by
  simp only [Bool.and_eq_true, Bool.not_eq_true', decide_eq_true_eq, List.all_eq_true, beq_eq_false_iff_ne] at hfl
  obtain ⟨f1, f2, f3, f4⟩ := hfl
  intro dp un gd cn cs a ccd cl outer A₀ base h₀ L m s Q E B F X T hkc hdp hun hs _ hret
  refine wpAny_call ?_
  refine enter_plain B F X News.nil T rfl rfl hkc (ho _) (hcd _) (Nat.lt_of_le_of_lt (Nat.le_add_right _ _) hdp) (hbind s) (fun y hy => eq_of_beq (List.all_eq_true.mp hloc y hy)) ?_ f1 f2 f3 f4
  intro g L' h1 FG F1 N1 B1 X1 T1 hG hG' hl
  refine body_run (s := { s with heap := h1, toks := _ }) (Cg.fn ⟨prog, w, p, loose, mean, mg, mb, dp + 1, un + 3, ((ktrTop dp un gd cn cs L a ccd cl outer).deeper (envOf qual scope L' fa cdv)).guards, qual, L', fa, cdv, envX cn cs L a ccd cl :: outer, _, base, g, scope, [], []⟩ scope []) rfl rfl ⟨B1, X1, T1, f3, List.nodup_nil⟩ (h _ s.heap ⟨?_, ?_⟩ (hH _ _ (fun b o e => hG b o (fun h => nomatch h) e) hs)) F1 News.nil ⟨.nil, fun _ h => nomatch h⟩ (fun _ h => nomatch h) (Nat.zero_le _) ?_
  · show dp + 1 + n < recursionLimit; omega
  · show un + 3 + 8 * n < cLine; omega
  · rintro fl h' tk' g' F' N' A' ⟨p1, p2⟩
    refine leaveK_ (m := m) F' N' fun F'' N'' => ?_
    exact hret _ _ _ F'' (kept_led hG F' N' (News.nil (h₀ := h₀) (L := L)) p1) (p2 h' A' fun q hq => ⟨(N' q hq).1, fun hx => fresh_led hG N' hq hx⟩)
theorem c_numbers {S : Addr} {ss : List Value} {is : List Int} (hs : IntsAre ss is) (h64 : is.length ≤ 63) :
    Con prog w p loose mean mg mb 345 [.ref S] 20 (fun h => h.IsList S ss.toArray) [] (fun s h' r => ∃ (D : Addr) (vs : List Value) (n : Nat) (ns : List Nat), r = .ref D ∧ NewIn s h' [(D, lstObj vs n)] ∧ ns.length = 6 ∧ IntsAre vs (ns.map fun x => ((x : Nat) : Int))) := by
  refine conH (binds := [("script", .ref S)]) (fun _ => rfl) (fun _ => rfl) (fun s => BindsTo.of_eq rfl) (fun s g hk h => h.at fun o e => hk _ o e) (fun c s₀ R hS => vbody 40 ?_) (by rfl) (by rfl)
  have hl := hs.length
  intro t1 t2 t3 t4 t5 t6 D
  refine Wp.to (.lay (l := [("k", none)]) (m₀ := fun y => if y = "numbers" then some (.ref D) else ([("script", Value.ref S)] : List (Str × Value)).reverse.lookup y) (.cons rfl .nil) (fun _ _ => rfl)) ?_
  refine wp_forR (by rfl) (vexpr 8 ?_) rfl
  refine wp_lenB hS (by rw [hl]; exact Nat.le_trans h64 (by decide)) fun t7 => ?_
  intro t8
  refine wp_min fun t9 => ?_
  obtain ⟨nn, hnn, hn6, hnl⟩ : ∃ nn : Nat, (if 6 < (ss.length : Int) then 6 else (ss.length : Int)) = (nn : Int) ∧ nn ≤ 6 ∧ nn ≤ ss.length := by
    by_cases h : 6 < (ss.length : Int)
    · exact ⟨6, if_pos h, Nat.le_refl _, by omega⟩
    · exact ⟨ss.length, if_neg h, by omega, Nat.le_refl _⟩
  refine ⟨nn, t9, fun j g => ∃ (vs : List Value) (js : List Int) (v1 : Option Value), (js.length = 6 ∧ IntsAre vs js ∧ ∀ i ∈ js, 0 ≤ i) ∧ g = ⟨lay [("k", v1)] fun y => if y = "numbers" then some (.ref D) else ([("script", Value.ref S)] : List (Str × Value)).reverse.lookup y, [(D, W.listOf vs.toArray 0)], [], 0⟩, by rw [hnn], Nat.le_trans hn6 (by decide), ⟨_, [0, 723, 1081, 2282, 2884, 48], none, ⟨rfl, .cons _ _ (.cons _ _ (.cons _ _ (.cons _ _ (.cons _ _ (.cons _ _ .nil))))), show ∀ i ∈ [(0 : Int), 723, 1081, 2282, 2884, 48], 0 ≤ i by decide⟩, rfl⟩, ?_, ?_⟩
  · rintro j g t hj ⟨vs, js, v1, ⟨hl6, hi, hpos⟩, rfl⟩
    have hj6 : j < 6 := Nat.lt_of_lt_of_le hj hn6
    have hvl : vs.length = 6 := hi.length.trans hl6
    obtain ⟨x, hx⟩ : ∃ x, js[j]? = some x := ⟨_, List.getElem?_eq_getElem (by rw [hl6]; exact hj6)⟩
    obtain ⟨tx, hvx⟩ := intsAt hi hx
    obtain ⟨y, hy⟩ : ∃ y, is[j]? = some y := ⟨_, List.getElem?_eq_getElem (by rw [← hl]; exact Nat.lt_of_lt_of_le hj hnl)⟩
    obtain ⟨ty, hvy⟩ := intsAt hs hy
    have h60 : j < 2 ^ 60 := Nat.lt_trans hj6 (by decide)
    refine wp_storeL rfl rfl (vbody 20 ?_)
    refine wp_item (j := j) (mem_at 0 rfl) rfl hvx h60 ?_
    refine wp_itemB (j := j) hS rfl hvy h60 ?_
    intro u1 u2 u3
    refine wp_setL (j := 0) (its' := (vs.set j (.int (Int.fmod (x + y) (Int.ofNat (999999 + 1))) u3)).toArray) rfl (Int.natCast_nonneg _) (by rw [List.size_toArray, hvl]; exact Int.ofNat_lt.mpr hj6) (Int.lt_trans (Int.ofNat_lt.mpr hj6) (by decide)) (by simp) ?_
    refine turn_mk _ (.lay (l := [("k", some (.int (j : Int) t))]) (.cons rfl .nil) ((Offs.lay rfl).set (g := ⟨_, _, _, _⟩) rfl)) ⟨_, js.set j (Int.fmod (x + y) (Int.ofNat (999999 + 1))), _, ⟨by rw [List.length_set, hl6], ints_set hi _ _ j, set_pos (Int.fmod_nonneg_of_pos _ (by decide)) hpos⟩, rfl⟩
  · rintro g ⟨vs, js, v1, ⟨hl6, hi, hpos⟩, rfl⟩
    refine vbody 4 ?_
    exact ⟨fun _ h => (nomatch h), fun h' _ hh => ⟨D, vs, 0, js.map Int.toNat, rfl, List.forall_mem_cons.mpr ⟨⟨(hh _ (.head _)).2 (fun h => nomatch h), (hh _ (.head _)).1⟩, List.forall_mem_nil _⟩, by rw [List.length_map, hl6], by rw [nat_ints hpos]; exact hi⟩⟩
end
noncomputable def ConT (prog : Program) (w : World) (p : Program) (loose : List Str) (mean : ExcName → Option Value) (mg mb : Str → Option Value) (f : Addr) (vs : List Value) (n : Nat) (H : Heap → Prop) (led : List (Addr × Obj)) (ch : List Addr) (P : Heap → Heap → Value → Prop) : Prop :=
  ∀ (dp un : Nat) (gd : Option (List Code)) (cn : Str) (cs : Scope) (a : Addr) (ccd : Value) (cl : List (Str × Addr)) (outer : List Env) (A₀ : Around) (base h₀ : Heap) (L : Addr) (m : Str → Option Value) (s : Shared) (Q E : Value → Shared → Prop),
    Below A₀ base outer h₀ → Fr h₀ L s.heap m → (hd.heap_39 w.params).In h₀ → Top p loose mean mg mb h₀ → (hd.heap_39 w.params).In base → Top p loose mean mg mb base → KtsDicts (frs outer) h₀ → cs.kind = .function → dp + n < recursionLimit → un + 8 * n < cLine →
    H s.heap → News h₀ L s.heap led →
    (∀ r h' tk' h₀', KtsTurn (frs outer) h₀ h₀' → Fr h₀' L h' m → Below A₀ base outer h₀' → (hd.heap_39 w.params).In h₀' → Top p loose mean mg mb h₀' → KtsDicts (frs outer) h₀' → KeptF (L :: ch) (frs outer) s.heap h' → P s.heap h' r → Q r { s with heap := h', toks := tk' }) →
    wpAny (model prog w) (ktrTop dp un gd cn cs L a ccd cl outer) (call (.ref f) vs) Q E s
section
variable {prog : Program} {w : World} {p : Program} {loose : List Str} {mean : ExcName → Option Value} {mg mb : Str → Option Value}
noncomputable def numR (r : Row) : Nat := r.nm % 2 + 2 * (r.t + 6 * (r.f + 6 * r.fl))
noncomputable def octR (r : Row) : List Int := [((192 + numR r / 64 : Nat) : Int), ((numR r % 64 : Nat) : Int)]
noncomputable def octs (rows : List Row) : List Int := rows.flatMap octR
end
noncomputable def numA (x : Ab) : Nat := x.1 + 2 * (x.2.1 + 6 * (x.2.2.1 + 6 * x.2.2.2))
noncomputable def octA (x : Ab) : List Int := [((192 + numA x / 64 : Nat) : Int), ((numA x % 64 : Nat) : Int)]
theorem octs_ab (rows : List Row) : octs rows = (rows.map Row.ab).flatMap octA := by
  unfold octs
  rw [List.flatMap_map]
  rfl
section
variable {prog : Program} {w : World} {p : Program} {loose : List Str} {mean : ExcName → Option Value} {mg mb : Str → Option Value}
structure TabZ where
  t : Addr
  d : Addr
  l : Addr
  g : Int
  k : Tok
  e : Nat
end
structure CR where
  Lt : Addr
  W : Addr
  X : Addr
  Nn : Addr
  vs : List Value
  n : Nat
  T : Nat → TabZ
structure SRr where
  ls : List LetZ
  eL : Nat
  zs : List ShowZ
  eW : Nat
  r : Nat → List Row
  e : Nat → Nat
noncomputable def SRr.put (st : SRr) (i : Nat) (rows : List Row) (e : Nat) : SRr := { st with r := fun j => if j = i then rows else st.r j, e := fun j => if j = i then e else st.e j }
noncomputable def SRr.addL (st : SRr) (l : LetZ) : SRr := { st with ls := st.ls ++ [l], eL := st.eL + 1 }
noncomputable def SRr.addZ (st : SRr) (z : ShowZ) : SRr := { st with zs := st.zs ++ [z], eW := st.eW + 1 }
theorem ok_third (ns : List Nat) (j : Nat) : OkL (thirdA ns j) := ok_of_rep (Nat.le_refl _) (third_rep ns j)
theorem ta_two (ns : List Nat) : ∀ k, (runA ns k).ta 2 = []
  | 0 => rfl
  | k + 1 => by
    show (if 2 = ns.getD k 0 % 2 then _ else (runA ns k).ta 2) = []
    rw [if_neg (by omega)]
    exact ta_two ns k
section
variable {prog : Program} {w : World} {p : Program} {loose : List Str} {mean : ExcName → Option Value} {mg mb : Str → Option Value}
structure RelA (c : CR) (st : SRr) (A : RA) : Prop where
  t : ∀ i, (st.r i).map Row.ab = A.ta i
  l : st.ls.map LetZ.us = A.le
  v : ∀ l ∈ st.ls, IntsAre l.vs (l.us.flatMap octA)
  z : ZAll st.zs A.le
  n : ∀ z ∈ st.zs, ∀ q ∈ showLed z, q.1 ≠ c.Nn
noncomputable def st0 (c : CR) : SRr := ⟨[], 0, [], 0, fun _ => [], fun i => (c.T i).e⟩
theorem ok_rows {rows : List Row} {l : List Ab} (O : OkL l) (e : rows.map Row.ab = l) : rows.length ≤ 10 ∧ ∀ r ∈ rows, r.t ≤ 5 ∧ r.f ≤ 5 ∧ 1 ≤ r.t + r.f ∧ 1 ≤ r.fl ∧ r.fl ≤ 7 := by
  subst e
  refine ⟨by simpa using O.1, fun r hr => ?_⟩
  have := O.2 r.ab (List.mem_map_of_mem hr)
  simp only [Row.ab] at this
  omega
end
theorem layA_mem {l : List Ab} {x a : Ab} (h : a ∈ layA l x) : a ∈ l ∨ a = x := by
  unfold layA at h
  split at h
  · exact .inl h
  · rcases List.mem_append.mp h with h | h
    · rcases List.mem_append.mp h with h | h
      · exact .inl (List.mem_filter.mp h).1
      · exact .inl (List.mem_filter.mp h).1
    · exact .inr (List.mem_singleton.mp h)
theorem foldA_mem {a : Ab} : ∀ (us : List Ab) {l : List Ab}, a ∈ us.foldl layA l → a ∈ l ∨ a ∈ us
  | [], _, h => .inl h
  | u :: us, l, h => by
    rcases foldA_mem us h with h | h
    · rcases layA_mem h with h | h
      · exact .inl h
      · exact .inr (h ▸ .head _)
    · exact .inr (.tail _ h)
theorem layA_len (l : List Ab) (x : Ab) : (layA l x).length ≤ l.length + 1 := by
  unfold layA
  split
  · exact Nat.le_succ _
  · rw [List.length_append, List.length_append]
    have : ∀ (c : Ab → Bool) (d : Ab → Bool) (l : List Ab), (l.filter fun a => !c a).length + (l.filter fun a => c a && d a).length ≤ l.length := by
      intro c d l
      induction l with
      | nil => exact Nat.le_refl _
      | cons a r ih =>
        simp only [List.filter_cons]
        cases c a <;> cases d a <;> simp <;> omega
    have z := this (fun a => a.1 == x.1) (fun a => !lessB a.2.1 a.2.2.1 x.2.1 x.2.2.1) l
    simp only [List.length_singleton]
    omega
theorem foldA_len : ∀ (us l : List Ab), (us.foldl layA l).length ≤ l.length + us.length
  | [], _ => Nat.le_refl _
  | u :: us, l => by
    have z1 := foldA_len us (layA l u)
    have z2 := layA_len l u
    simp only [List.foldl_cons, List.length_cons]
    omega
section
variable {prog : Program} {w : World} {p : Program} {loose : List Str} {mean : ExcName → Option Value} {mg mb : Str → Option Value}
theorem ok_take {l us : List Ab} (O : OkL l) (O' : OkL us) : (us.foldl layA l).length ≤ 20 ∧ ∀ a ∈ us.foldl layA l, a.2.1 ≤ 5 ∧ a.2.2.1 ≤ 5 ∧ 1 ≤ a.2.2.2 ∧ a.2.2.2 ≤ 7 := by
  refine ⟨?_, fun a ha => ?_⟩
  · have := foldA_len us l
    have := O.1
    have := O'.1
    omega
  · rcases foldA_mem us ha with h | h
    · have := O.2 a h; omega
    · have := O'.2 a h; omega
theorem ok_self {l : List Ab} (O : OkL l) : l.length ≤ 20 ∧ ∀ a ∈ l, a.2.1 ≤ 5 ∧ a.2.2.1 ≤ 5 ∧ 1 ≤ a.2.2.2 ∧ a.2.2.2 ≤ 7 :=
  ⟨Nat.le_trans O.1 (by decide), fun a ha => by have := O.2 a ha; omega⟩
theorem rows_of {rows : List Row} {l : List Ab} (O : l.length ≤ 20 ∧ ∀ a ∈ l, a.2.1 ≤ 5 ∧ a.2.2.1 ≤ 5 ∧ 1 ≤ a.2.2.2 ∧ a.2.2.2 ≤ 7) (e : rows.map Row.ab = l) : rows.length ≤ 20 ∧ ∀ r ∈ rows, r.t ≤ 32 ∧ r.f ≤ 32 ∧ 1 ≤ r.fl ∧ r.fl ≤ 7 := by
  subst e
  refine ⟨by simpa using O.1, fun r hr => ?_⟩
  have := O.2 r.ab (List.mem_map_of_mem hr)
  simp only [Row.ab] at this
  omega
theorem item_kmKM {n : Nat} (h : n < 4) {x : Int} (e : x = (n : Int)) : Txt.item (Str.ofString "kmKM") x = nmS n := by
  subst e
  have : ∀ c : Nat, c < 4 → Txt.item (Str.ofString "kmKM") (c : Int) = nmS c := by decide +kernel
  exact this n h
end
section
variable {c : Cg} {env : Env} {nam : Str → Pos → Sg → Kt Value → Prop} {sto : Str → Value → Sg → Kt Unit → Prop} {r : Vr}
theorem vtest {e : PySem.Expr} {g : Sg} {k : Kt Bool} (n : Nat) (h : (vgen c (ev c) (vName c) (vStore c) n).t e g k) : Wp c (PySem.isTrue e (ev c) (eval e (ev c))) g k := (vgen_ok vName_ok vStore_ok n).t h
end
noncomputable def tabRest (T : TabZ) (rows : List Row) : Nw := (T.t, instObj 334 T.d) :: (T.d, dictOf [⟨T.g, .str "_headers" T.k, .ref T.l⟩] 1) :: rows.map Row.obj
section
variable {prog : Program} {w : World} {p : Program} {loose : List Str} {mean : ExcName → Option Value} {mg mb : Str → Option Value}
noncomputable def tabLed (T : TabZ) (rows : List Row) : List (Addr × Obj) :=
  (T.l, lstObj (rows.map fun r => .ref r.a) T.e) :: (T.t, instObj 334 T.d) :: (T.d, dictOf [⟨T.g, .str "_headers" T.k, .ref T.l⟩] 1) :: rows.map Row.obj
end
section
variable {prog : Program} {w : World} {p : Program} {loose : List Str} {mean : ExcName → Option Value} {mg mb : Str → Option Value} {f : Addr} {vs : List Value} {n : Nat} {H : Heap → Prop} {led : List (Addr × Obj)} {ch : List Addr}
noncomputable def Put (T : TabZ) (rows rows' : List Row) (s h' : Heap) : Prop :=
  ∃ e, h'.get? T.l = some (lstObj (rows'.map fun r => .ref r.a) e) ∧ ∀ r ∈ rows', r ∈ rows ∨ (s.get? r.a = none ∧ h'.get? r.a = some r.obj.2)
end
section
variable {c : Cg} {g : Sg}
theorem wp_conU {fa : Addr} {vs : List Value} {n i : Nat} {l : Addr} {o : Obj} {led : Nw} {P : Heap → Heap → Value → Prop} {k : Kt Value} (C : ConL c.prog c.w c.p c.loose c.mean c.mg c.mb fa vs n (fun _ => True) led [l] P) (R : Room c n) (hi : g.o[i]? = some (l, o)) (hN : ∀ q ∈ led, q ∈ g.o ++ (g.t ++ c.ex))
    (h : ∀ r s h', (∀ b, s.get? b = none → ∀ q ∈ g.o ++ (g.t ++ c.ex), q.1 ≠ b) → P s h' r → ∃ new o', NewIn s h' new ∧ h'.get? l = some o' ∧ k r ((g.upd i l o').read new)) : Wp c (call (.ref fa) vs) g k :=
  Wp.leaf fun O H s Q S q => by
    obtain ⟨cs, news, gg, x, N, U, back⟩ := S.upd hi
    obtain ⟨pre, post, e1, e2, e3, e4⟩ := U.split
    refine C _ _ _ _ _ _ _ _ _ _ _ _ _ _ _ _ _ O.B x.F O.X O.T O.hk R.1 R.2 True.intro (fun q hq => S.mem (hN q hq)) fun r h' tk' F' K p => ?_
    obtain ⟨new, o', hn, ho', hk⟩ := h r _ _ (fun b hb z hz e => by
      have := (S.mem hz).1
      rw [e, hb] at this; cases this) p
    refine q _ _ _ _ (fun e => ?_) hk
    have kp : ∀ p ∈ news, p.1 ≠ l → h'.get? p.1 = some p.2 := fun p hp hl => K _ _ (fun hm => by
      rcases List.mem_cons.mp hm with h | h
      · exact (N p hp).2.1 h
      · exact hl (List.mem_singleton.mp h)) (N p hp).1
    have N' : News c.h₀ c.L h' (gg o') := fun p hp => by
      rw [e2] at hp
      rcases List.mem_append.mp hp with hp | hp
      · have hm : p ∈ news := by rw [e1]; exact List.mem_append_left _ hp
        exact ⟨kp p hm (e3 p hp), (N p hm).2⟩
      · rcases List.mem_cons.mp hp with rfl | hp
        · exact ⟨ho', (N (l, o) (by rw [e1]; exact List.mem_append_right _ (.head _))).2⟩
        · have hm : p ∈ news := by rw [e1]; exact List.mem_append_right _ (.tail _ hp)
          exact ⟨kp p hm (e4 p hp), (N p hm).2⟩
    obtain ⟨cs', y⟩ := back o' h' tk' F' N' e
    refine St.read y (fun q hq => ⟨(hn q hq).2, fresh_of x.F (hn q hq).1⟩) fun q hq p hp => ?_
    have hc : ∃ o2, s.heap.get? p.1 = some o2 := by
      rcases List.mem_append.mp hp with hp | hp
      · have : p.1 ∈ cs'.map (·.1) := List.mem_map_of_mem hp
        rw [cells_fst y.Y, ← cells_fst x.Y] at this
        obtain ⟨z, hz, e⟩ := List.mem_map.mp this
        exact ⟨_, e ▸ (x.N z (List.mem_append_left _ (List.mem_append_left _ hz))).1⟩
      · rcases List.mem_append.mp hp with hp | hp
        · exact ⟨_, (x.N p (List.mem_append_left _ (List.mem_append_right _ (List.mem_append_left _ hp)))).1⟩
        · have hp : p ∈ g.o.set i (l, o') := hp
          rcases List.mem_or_eq_of_mem_set hp with hp | rfl
          · exact ⟨_, (x.N p (List.mem_append_left _ (List.mem_append_right _ (List.mem_append_right _ hp)))).1⟩
          · exact ⟨_, (x.N (l, o) (List.mem_append_left _ (List.mem_append_right _ (List.mem_append_right _ (List.mem_of_getElem? hi))))).1⟩
    intro e
    obtain ⟨o2, ho2⟩ := hc
    rw [← e, (hn q hq).1] at ho2; cases ho2
end
noncomputable def tabHead (T : TabZ) (rows : List Row) : Addr × Obj := (T.l, lstObj (rows.map fun r => .ref r.a) T.e)
section
variable {c : Cg} {g : Sg}
open Classical in
/-- a call that puts other rows into the own table -/
theorem wp_put {T : TabZ} {rows : List Row} {R : List Row → Value → Prop} {n : Nat} {fa : Addr} {vs : List Value} {k : Kt Value} (C : ConL c.prog c.w c.p c.loose c.mean c.mg c.mb fa vs n (fun _ => True) (tabLed T rows) [T.l] (fun s h' r => ∃ rows', Put T rows rows' s h' ∧ R rows' r)) (Rm : Room c n) (i : Nat) (hi : g.o[i]? = some (tabHead T rows)) (hN : ∀ q ∈ tabRest T rows, q ∈ g.o ++ (g.t ++ c.ex))
    (h : ∀ v (rows' : List Row) e (new : Nw), R rows' v → (∀ r ∈ rows', r ∈ rows ∨ r.obj ∈ new) → (∀ q ∈ new, ∀ p ∈ g.o ++ (g.t ++ c.ex), p.1 ≠ q.1) → k v ((g.upd i T.l (lstObj (rows'.map fun r => .ref r.a) e)).read new)) : Wp c (call (.ref fa) vs) g k :=
  wp_conU C Rm hi (List.forall_mem_cons.mpr ⟨List.mem_append_left _ (List.mem_of_getElem? hi), hN⟩) fun v s h' FN ⟨rows', ⟨e, p1, p2⟩, hR⟩ => by
    have key : ∀ q ∈ (rows'.filter fun r => decide (r ∉ rows)).map Row.obj, s.get? q.1 = none ∧ h'.get? q.1 = some q.2 := fun q hq => by
      obtain ⟨r, hr, rfl⟩ := List.mem_map.mp hq
      obtain ⟨r1, r2⟩ := List.mem_filter.mp hr
      exact (p2 r r1).resolve_left (of_decide_eq_true r2)
    exact ⟨(rows'.filter fun r => decide (r ∉ rows)).map Row.obj, _, key, p1, h v rows' e _ hR (fun r hr => (Classical.em (r ∈ rows)).imp id fun hn => List.mem_map_of_mem (List.mem_filter.mpr ⟨hr, decide_eq_true hn⟩)) fun q hq => FN _ (key q hq).1⟩
end
section
variable {α : Type} {c : Cg} {G : Heap} {g g' : Sg} {env : Env}
theorem wg_cons {st : Stmt} {rest : List Stmt} {k : Kg Flow} (h : Wg c G (exec st env) g fun fl g G => match fl with | .next => Wg c G (execs rest env) g k | fl => k fl g G) : Wg c G (execs (st :: rest) env) g k :=
  ⟨fun C T H s Q S q => wpAny_execs_cons (h.run C T H s _ S fun fl _ _ _ G1 T1 S1 k1 => by
    cases fl with
    | next => exact k1.run C T1 H _ Q S1 q
    | _ => exact q _ _ _ _ _ T1 S1 k1)⟩
end
theorem Tn.ck {c : Cg} {G : Heap} (T : Tn c G) (C : Tc c) : Ck (c.at G) := ⟨T.B, T.X, T.T, C.hk, C.nd⟩
section
variable {α : Type} {c : Cg} {G : Heap} {g g' : Sg} {env : Env}
theorem wg_if {test : PySem.Expr} {body orelse : List Stmt} {pos : Pos} {k : Kg Flow} (h : Wp (c.at G) (PySem.isTrue test env (eval test env)) g fun b g => bif b then Wg c G (execs body env) g k else Wg c G (execs orelse env) g k) : Wg c G (exec (.If test body orelse pos) env) g k :=
  ⟨fun C T H s Q S q => wpAny_If (h.run (T.ck C) H s _ S fun b _ _ _ S1 k1 => by
    cases b with
    | true => exact k1.run C T H _ Q S1 q
    | false => exact k1.run C T H _ Q S1 q)⟩
theorem Wg.of {t : Sem α} {k : Kg α} (h : Wp (c.at G) t g fun v g' => k v g' G) : Wg c G t g k := ⟨fun C T H s Q S q => h.run (T.ck C) H s Q S fun v h' tk' g' S' k' => q v h' tk' g' G T S' k'⟩
theorem wg_first_gen {l2 : List Stmt} {k : Kg Flow} : ∀ (n : Nat) (l1 : List Stmt) (g : Sg),
    (vgen (c.at G) (ev (c.at G)) (vName (c.at G)) (vStore (c.at G)) n).s l1 g (fun fl g => match fl with | .next => Wg c G (execs l2 (ev c)) g k | fl => k fl g G) → Wg c G (execs (l1 ++ l2) (ev c)) g k
  | 0, _, _, h => False.elim h
  | n + 1, [], _, h => h
  | n + 1, st :: l1, g, h => wg_cons (.of ((vStmt_ok (vgen_ok vName_ok vStore_ok n).toVok vStore_ok h).mono fun fl g h => by
      cases fl with
      | next => exact wg_first_gen n l1 g h
      | _ => exact h))
theorem wg_first (i n : Nat) {b : List Stmt} {k : Kg Flow} (h : (vgen (c.at G) (ev (c.at G)) (vName (c.at G)) (vStore (c.at G)) n).s (b.take i) g (fun fl g => match fl with | .next => Wg c G (execs (b.drop i) (ev c)) g k | fl => k fl g G)) : Wg c G (execs b (ev c)) g k := by
  have := wg_first_gen (l2 := b.drop i) n (b.take i) g h
  rwa [List.take_append_drop] at this
theorem wg_takeS {f : Str} {fa : Nat} {p1 pos pos2 : Pos} {e : PySem.Expr} {rest : List PySem.Expr} {k : Kg Flow} (n : Nat) (hg : okG c.sc f = true) (hv : globK.lookup f = some (.ref fa)) (hk : ∀ P, keepIn (hd.heap_39 P) (.ref fa) = true) (hs : (e :: rest).any isStar = false) (hi : interactive (ev c) = false)
    (h : (vgen (c.at G) (ev (c.at G)) (vName (c.at G)) (vStore (c.at G)) n).a (e :: rest) g fun vs g => Wg c G (call (.ref fa) vs) g fun _ g G' => k .next g G') : Wg c G (exec (.Expr (.Call (.Name f p1) (e :: rest) [] pos) pos2) (ev c)) g k := by
  have hs2 : isStar e = false ∧ rest.any isStar = false := by simpa using hs
  refine ⟨fun C T H s Q S q => wpAny_Expr_any (Call_ ((wp_nameK (c := c.at G) (k := fun v g' => v = .ref fa ∧ g' = g) hg (globK_ok _ (lookup_in hv) _) ⟨rfl, rfl⟩).run (T.ck C) H s _ S ?_) rfl) hi rfl⟩
  rintro v h1 tk1 g1 S1 ⟨rfl, rfl⟩
  exact callWith_K T.X (hk _) (((vgen_ok vName_ok vStore_ok n).a h pos).run (T.ck C) H _ _ S1 fun vs h2 tk2 g2 S2 k2 => ⟨T.X.keeps S2.fr.keep, k2.run C T H _ _ S2 fun _ _ _ _ G3 T3 S3 k3 => q _ _ _ _ _ T3 S3 k3⟩) (star_cons hs2.1 _ _) (star_any hs2.2 _ _)
noncomputable abbrev TurnG (c : Cg) (W : Nat → Sg → Prop) (j : Nat) (k : Kg Flow) : Kg Flow := fun fl g' G' => match fl with
  | .next | .cont => ∃ g'', Sg.To (c.at G') g' g'' ∧ W (j + 1) g''
  | .brk => k .next g' G'
  | .ret v => k (.ret v) g' G'
theorem wg_forR {x : Str} {e : PySem.Expr} {body orelse : List Stmt} {px p1 p2 pos : Pos} {k : Kg Flow} (hg : okG' c.sc = true)
    (h : Wp (c.at G) (eval e (ev c)) g fun v g => ∃ (n : Nat) (t : Tok) (W : Nat → Sg → Prop), v = .int (n : Int) t ∧ n ≤ 40 ∧ W 0 g ∧ (∀ j g t G, j < n → W j g → Wp (c.at G) (storeName (ev c) x (.int (j : Int) t)) g fun _ g => Wg c G (execs body (ev c)) g (TurnG c W j k)) ∧ ∀ g G, W n g → Wg c G (execs orelse (ev c)) g k)
    (hs : isStar e = false) : Wg c G (exec (.For (.Name x px) (.Call (.Name (Str.ofString "range") p1) [e] [] p2) body orelse pos) (ev c)) g k := by
  refine ⟨fun C T H s Q S q => For_else (env := ev c) S.fr ?_ (fun _ => rfl) PassesOwn.never⟩
  have hn := globB_ok (Str.ofString "range", .type "range") (.head _)
  refine Call_ ((wp_nameB (c := c.at G) (k := fun v g' => v = .type "range" ∧ g' = g) hg (hn.1 _) hn.2.1 hn.2.2 ⟨rfl, rfl⟩).run (T.ck C) H s _ S ?_) rfl
  rintro v h1 tk1 g1 S1 ⟨rfl, rfl⟩
  refine PyProof.Rows.callWith_type1 (args_cons ?_ (star_cons hs _ _)) (star_cons hs _ _) rfl
  refine h.run (T.ck C) H _ _ S1 ?_
  rintro v h2 tk2 g2 S2 ⟨n, t, W, rfl, hn, h0, turn, fin⟩
  refine args_nil ?_
  obtain ⟨cs, x2⟩ := S2
  refine wpAny_tk g2.b x2.b (range1_rows x2.F x2.N fun h3 tk3 t1 u1 v1 R3 F3 N3 _ le => ?_)
  have hsm : Builtin.Range.small 0 (n : Int) 1 = true ∧ Builtin.Range.rangeSize 0 (n : Int) 1 = (n : Int) := small_rangeN n hn
  refine wpAny_pyIter_range R3 hsm.1 ?_
  have S3 : St (c.at G) g2 H h3 tk3 := ⟨cs, F3, x2.Y, N3, x2.P, le⟩
  rw [hsm.2]
  have core : ∀ m j g G (s : Shared) I, Tn c G → j + m = n → W j g → St (c.at G) g ((I, itR (j : Int) ((n - j : Nat) : Int)) :: H) s.heap s.toks →
      (∀ v h' tk' g' G', Tn c G' → St (c.at G') g' H h' tk' → k v g' G' → Q v { s with heap := h', toks := tk' }) → LoopE c.prog c.w (ar c) (ev c) (.Name x px) body orelse Q NoE (.ref I) s := by
    intro m
    induction m with
    | zero =>
      intro j g G s I T hj hW S q
      rw [Nat.add_zero] at hj
      subst hj
      have hI := S.elim fun cs x => (x.N (I, _) (List.mem_append_left _ (List.mem_append_right _ (.head _)))).1
      exact LoopE.turn (wpAny_pyNext_range_end (step := 1) rfl hI (by omega) fun h' hs => (fin g G hW).run C T H { s with heap := h' } _ (S.off fun b o hb e => hs b o hb e) q)
    | succ m ih =>
      intro j g G s I T hj hW S q
      have hjn : j < n := by omega
      have hI := S.elim fun cs x => (x.N (I, _) (List.mem_append_left _ (List.mem_append_right _ (.head _)))).1
      refine LoopE.turn (wpAny_pyNext_range_item (step := 1) hI (by omega) fun h' hI hs => ?_)
      have S1 := (S.turn (o' := itR ((j + 1 : Nat) : Int) ((n - (j + 1) : Nat) : Int)) (fun b o hb e => hs.extBut b o hb e) (by rw [← itR_next hjn]; exact hI)).toks' (Nat.le_succ _)
      show wpAny _ _ (letOwnedTupleGo (.Name x px) (.ref I) _) _ _ _
      refine wpAny_pure ?_
      refine (wp_asN (c := c.at G) (turn j g _ G hjn hW)).run (T.ck C) _ { s with heap := h', toks := s.toks + 1 } _ S1 fun _ h2 tk2 g2 S2 T2 => ?_
      refine T2.run C T _ { s with heap := h2, toks := tk2 } _ S2 fun fl h3 tk3 g3 G3 T3 S3 k3 => ?_
      cases fl with
      | next =>
        obtain ⟨g4, e4, W4⟩ := k3
        exact ih (j + 1) g4 G3 { s with heap := h3, toks := tk3 } I T3 (by omega) W4 (e4 _ _ _ S3) q
      | cont =>
        obtain ⟨g4, e4, W4⟩ := k3
        exact ih (j + 1) g4 G3 { s with heap := h3, toks := tk3 } I T3 (by omega) W4 (e4 _ _ _ S3) q
      | brk => exact q _ _ _ _ _ T3 S3.drop k3
      | ret v => exact q _ _ _ _ _ T3 S3.drop k3
  exact core n 0 g2 G { s with heap := h3.push (itR 0 n), toks := tk3 } h3.objs.size T (Nat.zero_add _) h0 (S3.hold (S3.fr.push _) (fun b o e _ => Heap.get?_push_of_some _ e) (get_size _) (Heap.get?_push_size _ rfl)) q
end
noncomputable def LeaveT (prog : Program) (w : World) (p : Program) (loose : List Str) (mean : ExcName → Option Value) (mg mb : Str → Option Value) (A₀ : Around) (base : Heap) (env : Env) (outer : List Env) (h₀ : Heap) (L : Addr) (m : Str → Option Value) (g : Heap) (R : Result → Shared → Prop) (v : Value) (s' : Shared) : Prop :=
  ∃ g' L' m', KtsTurn (frs (env :: outer)) g g' ∧ Fr g' L' s'.heap m' ∧
    ∀ h₀', KtsTurn (frs outer) h₀ h₀' → Fr h₀' L s'.heap m → Below A₀ base outer h₀' → (hd.heap_39 w.params).In h₀' → Top p loose mean mg mb h₀' → KtsDicts (frs outer) h₀' → R (.ok (.ret v)) s'
section
variable {prog : Program} {w : World} {A A₀ : Around} {s : Shared} {L : Addr} {h₀ base : Heap} {m mg mb : Str → Option Value} {news : List (Addr × Obj)} {p : Program} {loose : List Str} {mean : ExcName → Option Value}
theorem frs_cons {env : Env} {outer : List Env} {L b : Addr} (hf : env.frame = some L) (h : b ∈ frs (env :: outer)) : b = L ∨ b ∈ frs outer := by
  obtain ⟨e, he, hb⟩ := List.mem_filterMap.mp h
  rcases List.mem_cons.mp he with rfl | he
  · rw [hf] at hb; exact .inl (Option.some.inj hb).symm
  · exact .inr (List.mem_filterMap.mpr ⟨e, he, hb⟩)
theorem enter_S {env : Env} {outer : List Env} {R : Result → Shared → Prop} {name qual : Str} {params : Arguments} {body : List Stmt} {scope : Scope} {dV kV doc pm cdv ct oc : Value} {an od : Option Addr} {osl : Array (Option Value)} {f : Addr} {args : Args} {binds : List (Str × Value)}
    (B : Below A₀ base outer h₀) (F : Fr h₀ L s.heap m) (X₀ : (hd.heap_39 w.params).In h₀) (N : News h₀ L s.heap news) (T : Top p loose mean mg mb h₀) (XB : (hd.heap_39 w.params).In base) (TB : Top p loose mean mg mb base) (D : KtsDicts (frs outer) h₀)
    (hA : A.frames = some (env :: outer)) (hf : env.frame = some L) (hke : env.scope.kind = .function)
    (ho : (hd.heap_39 w.params).lookup f = some ⟨oc, od, .func (fnOf name qual params body scope dV kV doc pm an cdv ct), osl⟩) (hcd : codeIn (hd.heap_39 w.params) cdv qual = true) (hroom : A.depth < recursionLimit)
    (hbind : BindsTo s (fnOf name qual params body scope dV kV doc pm an cdv ct) args binds) (hloc : ∀ y ∈ binds, scope.names.lookup y.1 = some .local)
    (h : ∀ g L' h₁, Fr h₀ L g m → Fr g L' h₁ (fun y => binds.reverse.lookup y) → News g L' h₁ news → Below A base (env :: outer) g → (hd.heap_39 w.params).In g → Top p loose mean mg mb g → KtsDicts (frs (env :: outer)) g →
      (∀ b o, b ∉ news.map (·.1) → s.heap.get? b = some o → g.get? b = some o) → (∀ b o, g.get? b = some o → s.heap.get? b = some o) → (∀ p ∈ news, p.1 < L') →
      wpAny (model prog w) (A.deeper (envOf qual scope L' f cdv)) (execs body (envOf qual scope L' f cdv))
        (fun fl s' => LeaveT prog w p loose mean mg mb A₀ base env outer h₀ L m g R (match fl with | .ret v => v | _ => .none) s')
        (fun e s' => wpAny (model prog w) (A.deeper (envOf qual scope L' f cdv)) (leaving (envOf qual scope L' f cdv) e) (fun _ s'' => R (.error e) s'') (fun e' s'' => R (.error e') s'') s')
        { s with heap := h₁, toks := s.toks + binds.length })
    (hco : scope.isCoroutine = false) (hgen : scope.isGenerator = false) (hk : scope.kind = .function)
    (hcell : ∀ x ∈ scope.names, x.2 ≠ .cell) : codeAny (model prog w) A (.call (.ref f) args) R s := by
  obtain ⟨FG, BG, st, lv⟩ := groundX (R := R) B F N hA hf hke
  have X : (hd.heap_39 w.params).In s.heap := X₀.keeps F.keep
  obtain ⟨oL, es, ep, hL, hLd, hLk, hLf⟩ := FG.ns
  have DG : KtsDicts (frs (env :: outer)) (hideAll s.heap (news.map (·.1))) := fun b hb => by
    rcases frs_cons hf hb with rfl | hb
    · exact ⟨oL, es, ep, hL, hLd⟩
    · obtain ⟨o, es', n', ho', hd'⟩ := D b hb
      exact ⟨o, es', n', st b o ho', hd'⟩
  refine codeAny_call_def (fd := fnOf name qual params body scope dV kV doc pm an cdv ct) (body := body) (binds := binds) hroom (X _ _ ho) rfl (T.nolimit.keeps F.keep) (codeRec_of X hcd) rfl hbind hcell hloc (fun h₁ hns hk₁ => ?_) hco hgen hk
  refine wpAny_mono (h _ s.heap.objs.size h₁ FG ⟨hns, fun b o e => hk₁ b o (of_hideAll _ e), Nat.le_of_eq (hideAll_size _ _)⟩
    (fun p hp => ⟨hk₁ _ _ (N p hp).1, Nat.ne_of_lt (Heap.lt_size (N p hp).1), hideAll_none _ (List.mem_map_of_mem hp)⟩) BG (X₀.keeps st) (T.keeps st) DG
    (fun b o hn e => hideAll_get _ e hn) (fun b o e => of_hideAll _ e) (fun p hp => Heap.lt_size (N p hp).1)) (fun fl s' hl => ?_) fun _ _ y => y
  obtain ⟨g', L', m', T', F', k⟩ := hl
  have nL₀ : h₀.get? L = none := kts_self F
  obtain ⟨sl, hs⟩ := T'.up hL
  obtain ⟨T₁, S₁⟩ := kts_turn_at (h := s'.heap) (fs := frs outer) (g := h₀)
    (fun b hb => by
      obtain ⟨_, o, ho', _⟩ := B.frames.mem hb
      exact ⟨o, ho'⟩)
    (fun b o e nmem => F'.keep b o (T'.other b o (st b o e) (fun q => by
      rcases frs_cons hf q with z | z
      · rw [z, nL₀] at e
        cases e
      · exact nmem z)))
    (fun b o e hm => by
      obtain ⟨sl', hs'⟩ := T'.up (st b o e)
      exact ⟨sl', F'.keep _ _ hs'⟩)
  have B₃ : Below A₀ base outer (ktsHeap s'.heap (frs outer) h₀) := ⟨B.stack, fun b o e => T₁.other b o (B.stays b o e) (fun hm => by
    rw [(B.frames.mem hm).1] at e
    cases e), B.frames.of_keeps fun b o e _ => by
    obtain ⟨sl', hs'⟩ := T₁.up e
    exact ⟨_, hs', rfl⟩⟩
  exact k _ T₁ ⟨⟨_, es, ep, F'.keep _ _ hs, hLd, hLk, hLf⟩, S₁, by rw [T₁.size]; exact F.above⟩ B₃ (XB.keeps B₃.stays) (TB.keeps B₃.stays) (D.turn T₁)
end
section
variable {prog : Program} {w : World} {p : Program} {loose : List Str} {mean : ExcName → Option Value} {mg mb : Str → Option Value}
theorem keptF_end {s g g' h' : Heap} {L L' : Addr} {m' : Str → Option Value} {ch : List Addr} {env : Env} {outer : List Env} {led n9 : List (Addr × Obj)} (hf : env.frame = some L) (hG : ∀ b o, b ∉ led.map (·.1) → s.get? b = some o → g.get? b = some o) (T : KtsTurn (frs (env :: outer)) g g') (F : Fr g' L' h' m') (N0 : ∀ q ∈ led, s.get? q.1 = some q.2)
    (N9 : ∀ q ∈ n9, h'.get? q.1 = some q.2) (hs : ∀ q ∈ led, q.1 ∈ ch ∨ q ∈ n9) : KeptF (L :: ch) (frs outer) s h' := fun b o hb hb2 e => by
  by_cases hm : b ∈ led.map (·.1)
  · obtain ⟨q, hq, rfl⟩ := List.mem_map.mp hm
    rcases hs q hq with h | h
    · exact absurd (List.mem_cons_of_mem _ h) hb
    · have e1 := N0 q hq
      rw [e] at e1
      rw [N9 q h, ← e1]
  · exact F.keep _ _ (T.other b o (hG b o hm e) fun q => (frs_cons hf q).elim (fun z => hb (z ▸ .head _)) hb2)
theorem fresh_turn {s g G h : Heap} {L : Addr} {fs : List Addr} {led news : List (Addr × Obj)} (hG : ∀ b o, b ∉ led.map (·.1) → s.get? b = some o → g.get? b = some o) (T : KtsTurn fs g G) (N : News G L h news) {q : Addr × Obj} (hq : q ∈ news) (hn : q.1 ∉ led.map (·.1)) : s.get? q.1 = none := by
  cases e : s.get? q.1 with
  | none => rfl
  | some o =>
    obtain ⟨sl, hs⟩ := T.up (hG _ _ hn e)
    rw [(N q hq).2.2] at hs; cases hs
theorem conT {fa : Addr} {vs : List Value} {n : Nat} {led : Nw} {ch : List Addr} {P : Heap → Heap → Value → Prop} {name qual : Str} {params : Arguments} {body : List Stmt} {scope : Scope} {dV kV doc pm cdv ct oc : Value} {an od : Option Addr} {osl : Array (Option Value)} {binds : List (Str × Value)} (o t : Nw)
    (ho : ∀ P, (hd.heap_39 P).lookup fa = some ⟨oc, od, .func (fnOf name qual params body scope dV kV doc pm an cdv ct), osl⟩) (hcd : ∀ P, codeIn (hd.heap_39 P) cdv qual = true)
    (hbind : ∀ s, BindsTo s (fnOf name qual params body scope dV kV doc pm an cdv ct) ⟨vs, []⟩ binds)
    (h : ∀ (c : Cg) (s₀ : Heap), Room c n → (∀ q ∈ led, q.1 < c.L) → c.A₀.deeper (envOf c.cn scope c.L c.a c.ccd) = ar (c.fn scope []) → Wg (c.fn scope []) c.h₀ (execs body (ev (c.fn scope []))) ⟨fun y => binds.reverse.lookup y, o, t, 0⟩ (fun fl g _ => PostW led ch s₀ P fl g))
    (hA : ∀ h₀ L h, News h₀ L h led → Apart o t) (hot : ∀ q ∈ o ++ t, q ∈ led)
    (hloc : (binds.all fun y => scope.names.lookup y.1 == some .local) = true)
    (hfl : (!scope.isCoroutine && (!scope.isGenerator && (decide (scope.kind = .function) && scope.names.all fun x => !(x.2 == .cell)))) = true) : ConT prog w p loose mean mg mb fa vs (n + 1) (fun _ => True) led ch P := by
  simp only [Bool.and_eq_true, Bool.not_eq_true', decide_eq_true_eq, List.all_eq_true, beq_eq_false_iff_ne] at hfl
  obtain ⟨f1, f2, f3, f4⟩ := hfl
  intro dp un gd cn cs a ccd cl outer A₀ base h₀ L m s Q E B F X T XB TB KD hkc hdp hun _ N hret
  refine wpAny_call ?_
  refine enter_S B F X N T XB TB KD rfl rfl hkc (ho _) (hcd _) (Nat.lt_of_le_of_lt (Nat.le_add_right _ _) hdp) (hbind s) (fun y hy => eq_of_beq (List.all_eq_true.mp hloc y hy)) ?_ f1 f2 f3 f4
  intro g L' h1 FG F1 N1 B1 X1 T1 D1 hG hG' hl
  have A0 := hA _ _ _ N1
  refine wpAny_mono ((h ⟨prog, w, p, loose, mean, mg, mb, dp + 1, un + 3, ((ktrTop dp un gd cn cs L a ccd cl outer).deeper (envOf qual scope L' fa cdv)).guards, qual, L', fa, cdv, envX cn cs L a ccd cl :: outer, _, base, g, scope, [], []⟩ s.heap ⟨?_, ?_⟩ hl rfl).run ⟨XB, TB, f3, List.nodup_nil⟩ ⟨KtsTurn.refl, B1, X1, T1, D1⟩ [] { s with heap := h1, toks := _ } _ ⟨[], F1, .nil, ?_, ?_, Nat.zero_le _⟩ ?_) (fun _ _ x => x) fun _ _ x => x.elim
  · show dp + 1 + n < recursionLimit; omega
  · show un + 3 + 8 * n < cLine; omega
  · show News _ _ _ (o ++ (t ++ []))
    rw [List.append_nil]; exact fun q hq => N1 q (hot q hq)
  · show Apart o (t ++ [])
    rw [List.append_nil]; exact A0
  · rintro fl h' tk' g' G' T' ⟨cs', S'⟩ ⟨p1, p2⟩
    have Y := S'.Y
    have F' := S'.F
    have N' := S'.N
    have A' := S'.P
    cases Y
    replace N' : News G' L' h' (g'.o ++ (g'.t ++ [])) := N'
    replace A' : Apart g'.o (g'.t ++ []) := A'
    rw [List.append_nil] at N' A'
    exact ⟨G', L', _, T'.t, F', fun h₀' T₀ F₀ B₀ X₀ P₀ D₀ => hret _ _ _ h₀' T₀ F₀ B₀ X₀ P₀ D₀ (keptF_end rfl hG T'.t F' (fun q hq => (N q hq).1) (fun q hq => (N' q hq).1) p1) (p2 h' A' fun q hq => ⟨(N' q hq).1, fun hx => fresh_turn hG T'.t N' hq hx⟩)⟩
end
section
variable {α : Type} {c : Cg} {G : Heap} {g g' : Sg} {env : Env}
theorem St.updG {H cs : Nw} {h : Heap} {tk i : Nat} {D : Addr} {o : Obj} (x : St' c g H cs h tk) (hi : g.o[i]? = some (D, o)) {o' : Obj} {h' : Heap} {tk' : Nat} (F : Fr G c.L h' (loc c.cl g.m)) (K : ∀ q ∈ cs ++ (H ++ g.o) ++ (g.t ++ c.ex), q.1 ≠ D → h'.get? q.1 = some q.2) (hD : h'.get? D = some o')
    (hn : ∀ b, c.h₀.get? b = none → G.get? b = none) (e : g.b ≤ tk') : St' (c.at G) (g.upd i D o') H cs h' tk' := by
  obtain ⟨a, b, ho, hset⟩ := set_split hi
  have hP := x.P
  have e1 : cs ++ (H ++ g.o) = (cs ++ (H ++ a)) ++ (D, o) :: b := by rw [ho]; simp
  have e2 : cs ++ (H ++ (a ++ (D, o') :: b)) = (cs ++ (H ++ a)) ++ (D, o') :: b := by simp
  rw [e1] at hP K
  have N0 := x.N
  rw [e1] at N0
  obtain ⟨h1, h2⟩ := hP
  rw [List.pairwise_append] at h1
  obtain ⟨p1, p2, p3⟩ := h1
  have hp2 := List.pairwise_cons.mp p2
  refine ⟨F, x.Y, ?_, ?_, e⟩
  · show News G c.L h' (cs ++ (H ++ g.o.set i (D, o')) ++ (g.t ++ c.ex))
    rw [hset, e2]
    intro q hq
    have old : q ∈ (cs ++ (H ++ a)) ++ (D, o) :: b ++ (g.t ++ c.ex) → q.1 ≠ D → h'.get? q.1 = some q.2 ∧ q.1 ≠ c.L ∧ G.get? q.1 = none := fun hq hne => ⟨K q hq hne, (N0 q hq).2.1, hn _ (N0 q hq).2.2⟩
    have hDn := N0 (D, o) (List.mem_append_left _ (List.mem_append_right _ (.head _)))
    rcases List.mem_append.mp hq with hq | hq
    · rcases List.mem_append.mp hq with hq | hq
      · exact old (List.mem_append_left _ (List.mem_append_left _ hq)) (Ne.symm (p3 q hq _ (.head _)))
      · rcases List.mem_cons.mp hq with rfl | hq
        · exact ⟨hD, hDn.2.1, hn _ hDn.2.2⟩
        · exact old (List.mem_append_left _ (List.mem_append_right _ (.tail _ hq))) (hp2.1 q hq)
    · exact old (List.mem_append_right _ hq) (h2 _ (List.mem_append_right _ (.head _)) q hq)
  · show Apart (cs ++ (H ++ g.o.set i (D, o'))) (g.t ++ c.ex)
    rw [hset, e2]
    refine ⟨List.pairwise_append.mpr ⟨p1, List.pairwise_cons.mpr ⟨hp2.1, hp2.2⟩, fun y hy z hz => ?_⟩, fun y hy q hq => ?_⟩
    · rcases List.mem_cons.mp hz with rfl | hz
      · exact p3 y hy (D, o) (.head _)
      · exact p3 y hy z (.tail _ hz)
    · rcases List.mem_append.mp hy with hy | hy
      · exact h2 y (List.mem_append_left _ hy) q hq
      · rcases List.mem_cons.mp hy with rfl | hy
        · exact h2 (D, o) (List.mem_append_right _ (.head _)) q hq
        · exact h2 y (List.mem_append_right _ (.tail _ hy)) q hq
end
theorem news_ne {h₀ h : Heap} {L a b : Addr} {o o' : Obj} {news : List (Addr × Obj)} (N : News h₀ L h news) (h1 : (a, o) ∈ news) (h2 : (b, o') ∈ news) (hc : o.cls ≠ o'.cls) : @Ne Nat a b := fun e => by
  have e1 := (N _ h1).1
  have e2 := (N _ h2).1
  have e' : a = b := e
  subst e'
  rw [e1] at e2
  exact hc (congrArg Obj.cls (Option.some.inj e2))
section
variable {prog : Program} {w : World} {p : Program} {loose : List Str} {mean : ExcName → Option Value} {mg mb : Str → Option Value}
theorem tabLed_rest {T : TabZ} {rows : List Row} {h₀ h : Heap} {L : Addr} {news : List (Addr × Obj)} (N : News h₀ L h news) (hs : ∀ q ∈ tabLed T rows, q ∈ news) : ∀ q ∈ (T.t, instObj 334 T.d) :: (T.d, dictOf [⟨T.g, .str "_headers" T.k, .ref T.l⟩] 1) :: rows.map Row.obj, q ∈ news ∧ q.1 ≠ T.l := by
  intro q hq
  refine ⟨hs q (.tail _ hq), ?_⟩
  refine news_ne N (o := q.2) (hs q (.tail _ hq)) (hs _ (.head _)) ?_
  rcases List.mem_cons.mp hq with rfl | hq
  · simp [lstObj, instObj]
  · rcases List.mem_cons.mp hq with rfl | hq
    · simp [lstObj]
    · obtain ⟨r, _, rfl⟩ := List.mem_map.mp hq
      simp [lstObj, Row.obj]
end
theorem oct_len (us : List Ab) : (us.flatMap octA).length = 2 * us.length := by
  induction us with
  | nil => rfl
  | cons u us ih => simp only [List.flatMap_cons, List.length_append, List.length_cons, octA, ih, List.length_nil]; omega
theorem octs_at {vs : List Value} {fin rest : List Ab} {u : Ab} (h : IntsAre vs ((fin ++ u :: rest).flatMap octA)) : ∃ t1 t2, vs[2 * fin.length]? = some (.int ((192 + numA u / 64 : Nat) : Int) t1) ∧ vs[2 * fin.length + 1]? = some (.int ((numA u % 64 : Nat) : Int) t2) := by
  have e : (fin ++ u :: rest).flatMap octA = fin.flatMap octA ++ (octA u ++ rest.flatMap octA) := by simp
  rw [e] at h
  have hl := oct_len fin
  obtain ⟨t1, h1⟩ := intsAt (i := 2 * fin.length) (x := ((192 + numA u / 64 : Nat) : Int)) h (by rw [List.getElem?_append_right (by omega), hl, Nat.sub_self]; rfl)
  obtain ⟨t2, h2⟩ := intsAt (i := 2 * fin.length + 1) (x := ((numA u % 64 : Nat) : Int)) h (by rw [List.getElem?_append_right (by omega), hl, Nat.add_sub_cancel_left]; rfl)
  exact ⟨t1, t2, h1, h2⟩
section
variable {prog : Program} {w : World} {p : Program} {loose : List Str} {mean : ExcName → Option Value} {mg mb : Str → Option Value}
theorem ints_len {vs : List Value} {ns : List Int} (h : IntsAre vs ns) : vs.length = ns.length := by
  induction h with
  | nil => rfl
  | cons _ _ _ ih => simp [ih]
end
theorem octs_none {vs : List Value} {us : List Ab} (h : IntsAre vs (us.flatMap octA)) : vs[2 * us.length]? = none := by
  have := ints_len h
  rw [oct_len] at this
  exact List.getElem?_eq_none (by omega)
theorem num_at {u : Ab} (h1 : u.1 < 2) (h2 : u.2.1 ≤ 5) (h3 : u.2.2.1 ≤ 5) (h7 : u.2.2.2 ≤ 7) : numA u ≤ 575 ∧ (numA u : Int).fmod 2 = (u.1 : Int) ∧ ((numA u : Int).fdiv 2).fmod 6 = (u.2.1 : Int) ∧ ((numA u : Int).fdiv 12).fmod 6 = (u.2.2.1 : Int) ∧ (numA u : Int).fdiv 72 = (u.2.2.2 : Int) := by
  have e : numA u = u.1 + 2 * (u.2.1 + 6 * (u.2.2.1 + 6 * u.2.2.2)) := rfl
  refine ⟨by omega, ?_, ?_, ?_, ?_⟩
  · rw [Int.fmod_eq_emod_of_nonneg _ (by decide)]; omega
  · rw [Int.fdiv_eq_ediv_of_nonneg _ (by decide), Int.fmod_eq_emod_of_nonneg _ (by decide)]; omega
  · rw [Int.fdiv_eq_ediv_of_nonneg _ (by decide), Int.fmod_eq_emod_of_nonneg _ (by decide)]; omega
  · rw [Int.fdiv_eq_ediv_of_nonneg _ (by decide)]; omega
theorem item_nm {c : Nat} (h : c < 2) {x : Int} (e : x = (c : Int)) : Txt.item (Str.ofString "KM") x = nmS (2 + c) := by
  subst e
  have : ∀ c : Nat, c < 2 → Txt.item (Str.ofString "KM") (c : Int) = nmS (2 + c) := by decide +kernel
  exact this c h
section
variable {c : Cg} {g : Sg}
theorem wp_op {fa : Addr} {vs : List Value} {n : Nat} {P : Heap → Heap → Value → Prop} {k : Kt Value} (C : ConL c.prog c.w c.p c.loose c.mean c.mg c.mb fa vs n (fun _ => True) [] [] P) (R : Room c n) (h : ∀ r s h', P s h' r → k r g) : Wp c (call (.ref fa) vs) g k :=
  wp_con C R (fun _ h => nomatch h) fun r s h' _ p => ⟨[], fun _ h => (nomatch h), h r s h' p⟩
theorem wp_opt {α : Type} {fa : Addr} {vs : List Value} {n : Nat} {f : α → Value} {k : Kt Value} (C : ConL c.prog c.w c.p c.loose c.mean c.mg c.mb fa vs n (fun _ => True) [] [] (fun _ _ r => ∃ t, r = f t)) (R : Room c n) (h : ∀ t, k (f t) g) : Wp c (call (.ref fa) vs) g k :=
  wp_op C R fun r _ _ ⟨t, e⟩ => e ▸ h t
theorem wp_try {body orelse : List Stmt} {h₀ : ExceptHandler} {hs : List ExceptHandler} {pos : Pos} {k : Kt Flow} (h : Wp c (execs body (ev c)) g fun fl g => match fl with | .next => Wp c (execs orelse (ev c)) g k | fl => k fl g) : Wp c (exec (.Try body (h₀ :: hs) orelse [] pos) (ev c)) g k :=
  by
  refine ⟨fun O H s Q S q => wpAny_Try_except (wpAny_mono (h.run O H s (fun fl s1 => match fl with | .next => wpAny (model c.prog c.w) (ar c) (execs orelse (ev c)) Q NoE s1 | f => Q f s1) S ?_) (fun _ _ x => x) fun _ _ x => x.elim)⟩
  intro fl h' tk' g' S' k'
  cases fl with
  | next => exact k'.run O H _ Q S' q
  | _ => exact q _ _ _ _ S' k'
end
section
variable {c : Cg} {G : Heap} {g : Sg}
theorem wg_nil {env : Env} {k : Kg Flow} (h : k .next g G) : Wg c G (execs [] env) g k := .of (wp_nil h)
end
noncomputable def itL (D : Addr) (i : Nat) : Obj := { cls := .type "list_iterator", data := .fields #[.ref D, .int (i : Int) 0] }
section
variable {prog : Program} {w : World} {A : Around} {E : Value → Shared → Prop} {s : Shared} {h₀ : Heap} {L D it : Addr} {m : Str → Option Value} {news : List (Addr × Obj)} {Q : Value → Shared → Prop}
theorem iter_list {lo : Obj} {vs : List Value} {n : Nat} (F : Fr h₀ L s.heap m) (N : News h₀ L s.heap news) (hm : (D, lo) ∈ news) (hc : lo.cls = .type "list") (hd : lo.data = .seq vs.toArray n)
    (h : ∀ (I : Addr) h', Fr h₀ L h' m → News h₀ L h' ((I, itL D 0) :: news) → (∀ p ∈ news, p.1 < I) → Q (.ref I) { s with heap := h' }) :
    wpAny (model prog w) A (call (.builtin "iter") [.ref D]) Q E s := by
  refine call_function_entry (by decide +kernel) (by decide +kernel) kdk_entry_iter (kdk_args_iter _) ?_
  unfold Builtin.«iter»
  refine wpAny_bind (m := someArgs "iter" 1 2 _) (wpAny_of_eq (a := [Value.ref D]) (by first | rfl | kernel_rfl!) ?_)
  show wpAny _ _ (pyIter (.ref D) >>= _) _ _ _
  refine wpAny_bind (wpAny_pyIter_list ⟨lo, (N _ hm).1, hc, n, hd⟩ ?_)
  exact wpAny_pure ⟨_, rfl, h _ _ (F.push _) (News.push F N (itL D 0) rfl) fun q hq => Heap.lt_size (N q hq).1⟩
end
section
variable {c : Cg} {G : Heap} {g : Sg}
theorem wp_iter {D : Addr} {vs : List Value} {n : Nat} {k : Kt Value} (hm : (D, lstObj vs n) ∈ g.o ++ (g.t ++ c.ex)) (h : ∀ I, k (.ref I) (g.push I (itL D 0))) : Wp c (call (.builtin "iter") [.ref D]) g k :=
  ⟨fun _ H s Q ⟨cs, x⟩ q => iter_list x.F x.N (lo := lstObj vs n) (by
      simp only [List.mem_append] at hm ⊢
      rcases hm with h | h | h
      · exact .inl (.inr (.inr h))
      · exact .inr (.inl h)
      · exact .inr (.inr h)) rfl rfl fun I h' F' N' l => q _ h' s.toks _ (St.pushN ⟨cs, x, rfl⟩ F' N' l x.b) (h I)⟩
theorem wh_turn {test : PySem.Expr} {body orelse : List Stmt} {k : Kg Flow} (h : Wp (c.at G) (PySem.isTrue test (ev c) (eval test (ev c))) g fun b g => bif b then Wg c G (execs body (ev c)) g (fun fl g G => match fl with | .next | .cont => Wh c G test body orelse g k | .brk => k .next g G | .ret v => k (.ret v) g G) else Wg c G (execs orelse (ev c)) g k) : Wh c G test body orelse g k := by
  refine ⟨fun C T H s Q n S q => whl_turn (k := n) PassesOwn.never (h.run (T.ck C) H s _ S fun b h1 tk1 g1 S1 k1 => ?_)⟩
  cases b with
  | true =>
    refine k1.run C T H _ _ S1 fun fl h2 tk2 g2 G2 T2 S2 k2 => ?_
    cases fl with
    | next => exact k2.run C T2 H _ Q n S2 q
    | cont => exact k2.run C T2 H _ Q n S2 q
    | brk => exact q _ _ _ _ _ T2 S2 k2
    | ret v => exact q _ _ _ _ _ T2 S2 k2
  | false => exact k1.run C T H _ Q S1 q
theorem wg_while {test : PySem.Expr} {body orelse : List Stmt} {pos : Pos} {k : Kg Flow} (h : Wh c G test body orelse g k) : Wg c G (exec (.While test body orelse pos) (ev c)) g k := ⟨fun C T H s Q S q => whl_start 2 (h.run C T H s Q 2 S q)⟩
end
section
variable {prog : Program} {w : World} {p : Program} {loose : List Str} {mean : ExcName → Option Value} {mg mb : Str → Option Value}
theorem pb1 {q : Nat} (h : q < 64) : PySem.Builtin.bitAnd ((192 + q : Nat) : Int) 63 = (q : Int) ∧ PySem.Builtin.bitAnd ((192 + q : Nat) : Int) 64 = 64 ∧ PySem.Builtin.bitAnd (q : Int) 63 = (q : Int) ∧ PySem.Builtin.bitAnd (q : Int) 64 = 0 := by
  have : ∀ q : Nat, q < 64 → PySem.Builtin.bitAnd ((192 + q : Nat) : Int) 63 = (q : Int) ∧ PySem.Builtin.bitAnd ((192 + q : Nat) : Int) 64 = 64 ∧ PySem.Builtin.bitAnd (q : Int) 63 = (q : Int) ∧ PySem.Builtin.bitAnd (q : Int) 64 = 0 := by decide +kernel
  exact this q h
theorem pb2 {q r : Nat} (h : q < 64) (h' : r < 64) : PySem.Builtin.bitOr ((64 * q : Nat) : Int) (r : Int) = ((64 * q + r : Nat) : Int) := by
  have : ∀ q : Nat, q < 64 → ∀ r : Nat, r < 64 → PySem.Builtin.bitOr ((64 * q : Nat) : Int) (r : Int) = ((64 * q + r : Nat) : Int) := by decide +kernel
  exact this q h r h'
end
section
variable {c : Cg} {g : Sg} {env : Env}
theorem wp_aug {x : Str} {pos' pos : Pos} {op : Operator} {value : PySem.Expr} {k : Kt Flow} (h : Wp c (loadName env x) g fun old g => Wp c (eval value env) g fun v g => Wp c (inplaceOp op old v) g fun r g => Wp c (storeName env x r) g fun _ g => k .next g) : Wp c (exec (.AugAssign (.Name x pos') op value pos) env) g k :=
  ⟨fun O H s Q S q => wpAny_AugAssign_Name (h.run O H s _ S fun _ _ _ _ S1 k1 => k1.run O H _ _ S1 fun _ _ _ _ S2 k2 => k2.run O H _ _ S2 fun _ _ _ _ S3 k3 => k3.run O H _ _ S3 fun _ _ _ _ S4 k4 => q _ _ _ _ S4 k4)⟩
end
section
variable {prog : Program} {w : World} {p : Program} {loose : List Str} {mean : ExcName → Option Value} {mg mb : Str → Option Value}
theorem conWb {fa : Addr} {vs : List Value} {n : Nat} {led : Nw} {ch : List Addr} {P : Heap → Heap → Value → Prop} {name qual : Str} {params : Arguments} {body : List Stmt} {scope : Scope} {dV kV doc pm cdv ct oc : Value} {an od : Option Addr} {osl : Array (Option Value)} {binds : List (Str × Value)} (o t : Nw)
    (ho : ∀ P, (hd.heap_39 P).lookup fa = some ⟨oc, od, .func (fnOf name qual params body scope dV kV doc pm an cdv ct), osl⟩) (hcd : ∀ P, codeIn (hd.heap_39 P) cdv qual = true)
    (hbind : ∀ P s, (hd.heap_39 P).In s.heap → BindsTo s (fnOf name qual params body scope dV kV doc pm an cdv ct) ⟨vs, []⟩ binds)
    (h : ∀ (c : Cg) (s₀ : Heap), Room c n → (∀ q ∈ led, q.1 < c.L) → Wp (c.fn scope []) (execs body (ev (c.fn scope []))) ⟨fun y => binds.reverse.lookup y, o, t, binds.length⟩ (PostW led ch s₀ P))
    (hA : ∀ h₀ L h, News h₀ L h led → Apart o t) (hot : ∀ q ∈ o ++ t, q ∈ led)
    (hloc : (binds.all fun y => scope.names.lookup y.1 == some .local) = true)
    (hfl : (!scope.isCoroutine && (!scope.isGenerator && (decide (scope.kind = .function) && scope.names.all fun x => !(x.2 == .cell)))) = true) : ConL prog w p loose mean mg mb fa vs (n + 1) (fun _ => True) led ch P := by
  simp only [Bool.and_eq_true, Bool.not_eq_true', decide_eq_true_eq, List.all_eq_true, beq_eq_false_iff_ne] at hfl
  obtain ⟨f1, f2, f3, f4⟩ := hfl
  intro dp un gd cn cs a ccd cl outer A₀ base h₀ L m s Q E B F X T hkc hdp hun _ N hret
  refine wpAny_call ?_
  refine enter_plain B F X N T rfl rfl hkc (ho _) (hcd _) (Nat.lt_of_le_of_lt (Nat.le_add_right _ _) hdp) (hbind w.params s (X.keeps F.keep)) (fun y hy => eq_of_beq (List.all_eq_true.mp hloc y hy)) ?_ f1 f2 f3 f4
  intro g L' h1 FG F1 N1 B1 X1 T1 hG hG' hl
  refine body_run (s := { s with heap := h1, toks := _ }) (Cg.fn ⟨prog, w, p, loose, mean, mg, mb, dp + 1, un + 3, ((ktrTop dp un gd cn cs L a ccd cl outer).deeper (envOf qual scope L' fa cdv)).guards, qual, L', fa, cdv, envX cn cs L a ccd cl :: outer, _, base, g, scope, [], []⟩ scope []) rfl rfl ⟨B1, X1, T1, f3, List.nodup_nil⟩ (h _ s.heap ⟨?_, ?_⟩ hl) F1 N1 (hA _ _ _ N1) hot (Nat.le_add_left _ _) ?_
  · show dp + 1 + n < recursionLimit; omega
  · show un + 3 + 8 * n < cLine; omega
  · rintro fl h' tk' g' F' N' A' ⟨p1, p2⟩
    refine leaveK_ (m := m) F' N' fun F'' N'' => ?_
    exact hret _ _ _ F'' (kept_led hG F' N' N p1) (p2 h' A' fun q hq => ⟨(N' q hq).1, fun hx => fresh_led hG N' hq hx⟩)
end
section
variable {c : Cg} {g g' g'' : Sg} {H : Nw} {h h' : Heap} {tk tk' : Nat}
theorem Sg.To.tok {b : Nat} (e : b ≤ g.b) : Sg.To c g ⟨g.m, g.o, g.t, b⟩ := fun _ _ _ ⟨cs, x⟩ => ⟨cs, x.F, x.Y, x.N, x.P, Nat.le_trans e x.b⟩
end
section
variable {prog : Program} {w : World} {p : Program} {loose : List Str} {mean : ExcName → Option Value} {mg mb : Str → Option Value}
theorem conW {fa : Addr} {vs : List Value} {n : Nat} {led : Nw} {ch : List Addr} {P : Heap → Heap → Value → Prop} {name qual : Str} {params : Arguments} {body : List Stmt} {scope : Scope} {dV kV doc pm cdv ct oc : Value} {an od : Option Addr} {osl : Array (Option Value)} {binds : List (Str × Value)} (o t : Nw)
    (ho : ∀ P, (hd.heap_39 P).lookup fa = some ⟨oc, od, .func (fnOf name qual params body scope dV kV doc pm an cdv ct), osl⟩) (hcd : ∀ P, codeIn (hd.heap_39 P) cdv qual = true)
    (hbind : ∀ s, BindsTo s (fnOf name qual params body scope dV kV doc pm an cdv ct) ⟨vs, []⟩ binds)
    (h : ∀ (c : Cg) (s₀ : Heap), Room c n → (∀ q ∈ led, q.1 < c.L) → Wp (c.fn scope []) (execs body (ev (c.fn scope []))) ⟨fun y => binds.reverse.lookup y, o, t, 0⟩ (PostW led ch s₀ P))
    (hA : ∀ h₀ L h, News h₀ L h led → Apart o t) (hot : ∀ q ∈ o ++ t, q ∈ led)
    (hloc : (binds.all fun y => scope.names.lookup y.1 == some .local) = true)
    (hfl : (!scope.isCoroutine && (!scope.isGenerator && (decide (scope.kind = .function) && scope.names.all fun x => !(x.2 == .cell)))) = true) : ConL prog w p loose mean mg mb fa vs (n + 1) (fun _ => True) led ch P :=
  conWb o t ho hcd (fun _ s _ => hbind s) (fun c s₀ R l => (h c s₀ R l).to (.tok (Nat.zero_le _))) hA hot hloc hfl
end
section
variable {c : Cg} {g : Sg} {l : List (Str × Option Value)} {m₀ : Mp}
theorem bif_tt {b : Bool} {A B : Prop} (e : b = true) (h : A) : bif b then A else B := by rw [e]; exact h
theorem bif_ff {b : Bool} {A B : Prop} (e : b = false) (h : B) : bif b then A else B := by rw [e]; exact h
end
section
variable {c : Cg} {g : Sg}
theorem wp_loadL {x : Str} {v : Value} {k : Kt Value} (hx : okS c.sc x = true) (hc : c.cl.lookup x = none) (hv : g.m x = some v) (h : k v g) : Wp c (loadName (ev c) x) g k :=
  ⟨fun O H s Q S q => wpAny_loadName_local (m := loc c.cl g.m) O.hk (id (eq_of_beq hx)) S.fr.ns ((loc_none hc).trans hv) (q _ _ s.toks _ S h)⟩
end
section
variable {prog : Program} {w : World} {A : Around} {E : Value → Shared → Prop} {s : Shared} {h₀ : Heap} {L D it : Addr} {m : Str → Option Value} {news : List (Addr × Obj)} {Q : Value → Shared → Prop}
theorem next_item {lo : Obj} {vs : List Value} {n i : Nat} {x : Value} (F : Fr h₀ L s.heap m) (N : News h₀ L s.heap ((it, itL D i) :: news)) (hm : (D, lo) ∈ news) (hc : lo.cls = .type "list") (hd : lo.data = .seq vs.toArray n) (ho : ∀ q ∈ news, q.1 ≠ it) (hx : vs[i]? = some x)
    (h : ∀ h', Fr h₀ L h' m → News h₀ L h' ((it, itL D (i + 1)) :: news) → Q x { s with heap := h' }) :
    wpAny (model prog w) A (call (.builtin "next") [.ref it]) Q E s := by
  have hit := N _ (.head _)
  have hT : s.TypeIs (.ref it) "list_iterator" := ⟨_, hit.1, rfl⟩
  have hol := (N _ (.tail _ hm)).1
  refine call_function_entry (by decide +kernel) (by decide +kernel) kdk_entry_next (kdk_args_next _) ?_
  unfold Builtin.«next»
  refine wpAny_bind (m := someArgs "next" 1 2 _) (wpAny_of_eq (a := [Value.ref it]) (by first | rfl | kernel_rfl!) ?_)
  dsimp only
  refine wpAny_bind (wpAny_specialOf (name := Str.ofString "__next__") hT slot_listiter_next.lookup ?_)
  refine wpAny_ite_split (fun hab => absurd hab (by decide)) (fun _ => ?_)
  refine wpAny_bind (wpAny_callSpecial?_slot (name := Str.ofString "__next__") hT slot_listiter_next (wpAny_call_entry slot_listiter_next hT entry_listiter_next ?_ (args_listiter_next _)))
  show wpAny _ _ (field (.ref it) 0 >>= _) _ _ s
  refine wpAny_bind (wpAny_field hit.1 rfl (x := .ref D) rfl ?_)
  show wpAny _ _ (if (Value.ref D == Value.none) = true then _ else _) _ _ s
  rw [if_neg (show ¬ ((Value.ref D == Value.none) = true) from Bool.false_ne_true)]
  show wpAny _ _ (field (.ref it) 1 >>= _) _ _ s
  refine wpAny_bind (wpAny_field hit.1 rfl (x := .int i 0) rfl ?_)
  show wpAny _ _ (seqItems? (.ref D) >>= _) _ _ s
  refine wpAny_bind (wpAny_seqItems hol hd ?_)
  simp only [Int.toNat_natCast, List.getElem?_toArray, hx]
  refine wpAny_bind (wpAny_setField hit.1 rfl (by simp) (wpAny_pure ⟨x, rfl, wpAny_pure ⟨_, rfl, ?_⟩⟩))
  refine h _ (F.change (Heap.SameBut.update ..) hit.2.1 hit.2.2) fun q hq => ?_
  rcases List.mem_cons.mp hq with rfl | hq
  · refine ⟨?_, hit.2⟩
    rw [Heap.get?_update_self _ hit.1 rfl]
    rfl
  · have z := N q (.tail _ hq)
    exact ⟨(Heap.get?_update_other _ _ (Ne.symm (ho q hq))).trans z.1, z.2⟩
end
section
variable {c : Cg} {G : Heap} {g : Sg}
theorem wp_next {j i n : Nat} {it D : Addr} {vs : List Value} {x : Value} {k : Kt Value} (hj : g.o[j]? = some (it, itL D i)) (hD : (D, lstObj vs n) ∈ g.t ++ c.ex) (hx : vs[i]? = some x) (h : k x (g.upd j it (itL D (i + 1)))) : Wp c (call (.builtin "next") [.ref it]) g k := by
  refine ⟨fun O H s Q S q => ?_⟩
  obtain ⟨cs, y⟩ := S
  have hit : (it, itL D i) ∈ cs ++ (H ++ g.o) := List.mem_append_right _ (List.mem_append_right _ (List.mem_of_getElem? hj))
  have hne : D ≠ it := y.P.2 _ hit (D, lstObj vs n) hD
  refine next_item (lo := lstObj vs n) (news := (cs ++ (H ++ g.o) ++ (g.t ++ c.ex)).filter fun q => decide (q.1 ≠ it)) y.F (fun q hq => (List.mem_cons.mp hq).elim (fun e => e ▸ y.N _ (List.mem_append_left _ hit)) fun hq => y.N q (List.mem_filter.mp hq).1)
    (List.mem_filter.mpr ⟨List.mem_append_right _ hD, decide_eq_true hne⟩) rfl rfl (fun q hq => of_decide_eq_true (List.mem_filter.mp hq).2) hx fun h' F' N' => ?_
  exact q _ h' s.toks _ ⟨cs, St.updG (G := c.h₀) y hj F' (fun q hq hne => (N' q (.tail _ (List.mem_filter.mpr ⟨hq, decide_eq_true hne⟩))).1) (N' _ (.head _)).1 (fun _ e => e) y.b⟩ h
end
section
variable {prog : Program} {w : World} {p : Program} {loose : List Str} {mean : ExcName → Option Value} {mg mb : Str → Option Value}
theorem ishl_val {A : Around} {E : Value → Shared → Prop} {s : Shared} {q : Nat} {t u : Tok} {Q : Value → Shared → Prop} (hq : q < 64) (k : Q (.int ((64 * q : Nat) : Int) s.toks) { s with toks := s.toks + 1 }) : wpAny (model prog w) A (inplaceOp .LShift (.int (q : Int) t) (.int 6 u)) Q E s :=
  ilshift_int_small (by decide) (by decide) (by rw [Int.natAbs_natCast]; omega) (by rw [show ((q : Int) * 2 ^ (6 : Int).toNat) = ((64 * q : Nat) : Int) by show (q : Int) * 64 = _; omega]; exact k)
end
section
variable {c : Cg} {G : Heap} {g : Sg}
theorem wp_ishl {q : Nat} {t u : Tok} {k : Kt Value} (hq : q < 64) (h : ∀ t, k (.int ((64 * q : Nat) : Int) t) g) : Wp c (inplaceOp .LShift (.int (q : Int) t) (.int 6 u)) g k := Wp.tok' (fun _ _ z => ishl_val hq z) fun t _ => h t
theorem wp_ior {a b : Int} {t u : Tok} {k : Kt Value} (h : ∀ t, k (.int (Builtin.bitOr a b) t) g) : Wp c (inplaceOp .BitOr (.int a t) (.int b u)) g k := Wp.tok' (fun _ _ z => ior_int z) fun t _ => h t
structure Wl (c : Cg) (test : PySem.Expr) (body orelse : List Stmt) (g : Sg) (k : Kt Flow) : Prop where
  run : Ck c → ∀ (H : Nw) (s : Shared) (Q : Flow → Shared → Prop) (n : Nat), St c g H s.heap s.toks → (∀ v h' tk' g', St c g' H h' tk' → k v g' → Q v { s with heap := h', toks := tk' }) → WhlRest c.prog c.w (ar c) NoE (ev c) test body orelse Q n s
theorem wl_turn {test : PySem.Expr} {body orelse : List Stmt} {k : Kt Flow} (h : Wp c (PySem.isTrue test (ev c) (eval test (ev c))) g fun b g => bif b then Wp c (execs body (ev c)) g (fun fl g => match fl with | .next | .cont => Wl c test body orelse g k | .brk => k .next g | .ret v => k (.ret v) g) else Wp c (execs orelse (ev c)) g k) : Wl c test body orelse g k := by
  refine ⟨fun O H s Q n S q => whl_turn (k := n) PassesOwn.never (h.run O H s _ S fun b h1 tk1 g1 S1 k1 => ?_)⟩
  cases b with
  | true =>
    refine k1.run O H _ _ S1 fun fl h2 tk2 g2 S2 k2 => ?_
    cases fl with
    | next => exact k2.run O H _ Q n S2 q
    | cont => exact k2.run O H _ Q n S2 q
    | brk => exact q _ _ _ _ S2 k2
    | ret v => exact q _ _ _ _ S2 k2
  | false => exact k1.run O H _ Q S1 q
theorem wp_while {test : PySem.Expr} {body orelse : List Stmt} {pos : Pos} {k : Kt Flow} (h : Wl c test body orelse g k) : Wp c (exec (.While test body orelse pos) (ev c)) g k := ⟨fun O H s Q S q => whl_start 2 (h.run O H s Q 2 S q)⟩
end
section
variable {prog : Program} {w : World} {p : Program} {loose : List Str} {mean : ExcName → Option Value} {mg mb : Str → Option Value}
theorem c_parse {D I : Addr} {vs : List Value} {n i q r : Nat} {t1 t2 : Tok} (hq : q < 64) (hr : r < 64) (h1 : vs[i]? = some (.int ((192 + q : Nat) : Int) t1)) (h2 : vs[i + 1]? = some (.int (r : Int) t2)) :
    ConL prog w p loose mean mg mb 119 [.ref I] 4 (fun _ => True) [(I, itL D i), (D, lstObj vs n)] [I] (fun s h' v => (∃ t, v = .int ((64 * q + r : Nat) : Int) t) ∧ h'.get? I = some (itL D (i + 2))) := by
  obtain ⟨a1, a2, _, _⟩ := pb1 hq
  obtain ⟨_, _, a3, a4⟩ := pb1 hr
  have a5 := pb2 hq hr
  refine conW (binds := [("iterator", .ref I)]) [(I, itL D i)] [(D, lstObj vs n)] (fun _ => rfl) (fun _ => rfl) (fun s => BindsTo.of_eq rfl) (fun c s₀ R l => vbody 30 ?_) (fun _ _ _ N => ⟨List.pairwise_singleton _ _, fun p hp q hq => by
    rw [List.mem_singleton.mp hp, List.mem_singleton.mp hq]
    exact news_ne N (.tail _ (.head _)) (.head _) (by simp [lstObj, itL])⟩) (fun q hq => hq) (by rfl) (by rfl)
  refine wp_next (j := 0) rfl (.head _) h1 ?_
  intro u1 u2
  refine wp_while (wl_turn (vtest 8 ?_))
  intro u3 u4
  refine bif_tt (by rw [show Builtin.bitAnd ((192 + q : Nat) : Int) 64 = 64 from a2]; rfl) (vbody 20 ?_)
  refine wp_aug (wp_loadL rfl rfl rfl (vexpr 4 ?_))
  intro u5
  rw [a1]
  refine wp_ishl hq fun u6 => wp_storeL rfl rfl ?_
  refine wp_next (j := 0) rfl (.head _) h2 ?_
  refine wp_aug (wp_loadL rfl rfl rfl (vexpr 8 ?_))
  intro u7 u8
  refine wp_ior fun u9 => wp_storeL rfl rfl ?_
  refine wl_turn (vtest 8 ?_)
  intro u10 u11
  refine bif_ff (by rw [show Builtin.bitAnd (r : Int) 64 = 0 from a4]; rfl) (vbody 2 ?_)
  refine ⟨List.forall_mem_cons.mpr ⟨.inl (.head _), fun q hq => .inr (.tail _ hq)⟩, fun h' _ hh => ⟨⟨u9, ?_⟩, (hh _ (.head _)).1⟩⟩
  rw [← a5]
  exact congrArg (fun x => Value.int (Builtin.bitOr ((64 * q : Nat) : Int) x) u9) a3
noncomputable def cnt : Nat → Tok → List Value
  | 0, _ => []
  | i + 1, c => [.int ((i + 1 : Nat) : Int) c]
structure WsZ where
  d : Addr
  nr : Addr
  ct : Addr
  g1 : Int
  g2 : Int
  g3 : Int
  g4 : Int
  g5 : Int
  k1 : Tok
  k2 : Tok
  k3 : Tok
  k4 : Tok
  k5 : Tok
  k6 : Tok
  k7 : Tok
  k8 : Tok
  k9 : Tok
  v : Value
  e1 : Nat
  e2 : Nat
noncomputable def wsLed (t f : Nat) (x : Addr) (z : WsZ) : List (Addr × Obj) :=
  [(x, instObj 100 z.d),
   (z.d, dictOf [⟨z.g1, .str "raw" z.k1, z.v⟩, ⟨z.g2, .str "n" z.k2, .int ((t + 4 * f : Nat) : Int) z.k6⟩, ⟨z.g3, .str "nt" z.k3, .int (t : Int) z.k7⟩, ⟨z.g4, .str "norm" z.k4, .ref z.nr⟩, ⟨z.g5, .str "is_simple" z.k5, .bool true⟩] 5),
   (z.nr, { cls := .type "tuple", data := .seq #[.ref z.ct, .int ((4 * f : Nat) : Int) z.k8] z.e1 }),
   (z.ct, { cls := .type "tuple", data := .seq (cnt t z.k9).toArray z.e2 })]
noncomputable def Added (T : TabZ) (rows : List Row) (nm t f fl : Nat) (s h' : Heap) : Prop :=
  ∃ (r : Row) (e : Nat), r.nm = nm ∧ r.t = t ∧ r.f = f ∧ r.fl = fl ∧ s.get? r.a = none ∧ h'.get? r.a = some r.obj.2 ∧ h'.get? T.l = some (lstObj ((rows ++ [r]).map fun r => .ref r.a) e)
end
section
variable {prog : Program} {w : World} {p : Program} {loose : List Str} {mean : ExcName → Option Value} {mg mb : Str → Option Value} {f : Addr} {vs : List Value} {n : Nat} {H : Heap → Prop} {led : List (Addr × Obj)} {ch : List Addr}
theorem put_added {T : TabZ} {rows : List Row} {nm t f fl : Nat} {s h' : Heap} (h : Added T rows nm t f fl s h') : ∃ rows', Put T rows rows' s h' ∧ rows'.map Row.ab = rows.map Row.ab ++ [(nm % 2, t, f, fl)] := by
  obtain ⟨r, e, rfl, rfl, rfl, rfl, a5, a6, a7⟩ := h
  refine ⟨rows ++ [r], ⟨e, a7, fun q hq => ?_⟩, by simp [Row.ab]⟩
  rcases List.mem_append.mp hq with hq | hq
  · exact .inl hq
  · rw [List.mem_singleton.mp hq]; exact .inr ⟨a5, a6⟩
end
section
variable {prog : Program} {w : World} {p : Program} {loose : List Str} {mean : ExcName → Option Value} {mg mb : Str → Option Value}
theorem codes_len (fl : Nat) : (codes fl).length ≤ 32 := by
  unfold codes; split <;> decide
end
section
open PySem.Builtin PySem.Builtin.Re
noncomputable def goodV (c : Nat) : Prop := c = 9 ∨ (32 ≤ c ∧ c < 127)
end
section
variable {prog : Program} {w : World} {p : Program} {loose : List Str} {mean : ExcName → Option Value} {mg mb : Str → Option Value}
theorem codes_good (fl : Nat) : ∀ c ∈ codes fl, goodV c := by
  unfold codes goodV; split <;> decide
theorem txt_good (t f fl : Nat) : ∀ i, i < (txt t f fl).cps.size → goodV ((txt t f fl).cps.getD i 0) := by
  intro i hi
  have hm : (txt t f fl).cps.getD i 0 ∈ txtL t f (codes fl) := by
    have : (txt t f fl).cps.getD i 0 = (txt t f fl).cps[i] := by simp [Array.getD, hi]
    rw [this]
    exact Array.mem_toList_iff.mpr (Array.getElem_mem hi)
  unfold txtL at hm
  rcases List.mem_append.mp hm with hm | hm
  · rw [(List.mem_replicate.mp hm).2]; exact .inl rfl
  · rcases List.mem_append.mp hm with hm | hm
    · rw [(List.mem_replicate.mp hm).2]; exact .inr ⟨Nat.le_refl _, by decide⟩
    · exact codes_good fl _ hm
theorem txt_size (t f fl : Nat) : (txt t f fl).cps.size = t + (4 * f + (codes fl).length) := by
  simp [txt, txtL]
end
section
open PySem.Builtin PySem.Builtin.Re
noncomputable def goodN (c : Nat) : Prop := 32 ≤ c ∧ c < 127
end
section
variable {prog : Program} {w : World} {p : Program} {loose : List Str} {mean : ExcName → Option Value} {mg mb : Str → Option Value}
theorem nm_good (nm : Nat) : ∀ i, i < (nmS nm).cps.size → goodN ((nmS nm).cps.getD i 0) := by
  have h : ∀ x : Str, x ∈ [nmS 0, nmS 1, nmS 2, nmS 3] → (x.cps.size = 1 ∧ goodN (x.cps.getD 0 0)) := by unfold goodN; decide +kernel
  intro i hi
  have hm : nmS nm ∈ [nmS 0, nmS 1, nmS 2, nmS 3] := by
    have e : nmS nm = nmS (nm % 4) := by unfold nmS; rw [Nat.mod_mod]
    rw [e]
    have : nm % 4 < 4 := Nat.mod_lt _ (by decide)
    generalize nm % 4 = j at this
    match j, this with
    | 0, _ => simp
    | 1, _ => simp
    | 2, _ => simp
    | 3, _ => simp
  obtain ⟨h1, h2⟩ := h _ hm
  have : i = 0 := by omega
  rw [this]; exact h2
theorem nm_size (nm : Nat) : (nmS nm).cps.size = 1 := by
  unfold nmS; split <;> rfl
theorem txt_len (t f fl : Nat) : (txt t f fl).length = t + (4 * f + (codes fl).length) := txt_size t f fl
theorem join_one (x y : Str) : Txt.join x [y] = y := by
  show Builtin.Str.glued x [y] = _
  rw [StrLaws.glued_eq_join]
  rfl
end
section
variable {c : Cg} {g : Sg}
theorem St.inst {H : Nw} {h : Heap} {tk : Nat} {x d C n : Nat} {es : List DictEntry} (S : St c g H h tk) (hx : (x, instObj C d) ∈ g.o ++ (g.t ++ c.ex)) (hD : (d, dictOf es n) ∈ g.o ++ (g.t ++ c.ex)) : InstAt h x (instObj C d) C (some (dictOf es n)) :=
  ⟨(S.mem hx).1, rfl, rfl, (S.mem hD).1⟩
theorem wp_own {x d C n : Nat} {es : List DictEntry} {name : Str} {expr : Bool} {v : Value} {k : Kt Value} (hx : (x, instObj C d) ∈ g.o ++ (g.t ++ c.ex)) (hD : (d, dictOf es n) ∈ g.o ++ (g.t ++ c.ex)) (hl : getL name es = some (some v)) (hk : ∀ P, (plainGet (hd.heap_39 P) C name && hasDictIn (hd.heap_39 P) C) = true)
    (ha : ∀ P, findIn (hd.heap_39 P) (.ref C) name = some none) (hv : handedIn v = true) (h : k v g) : Wp c (getAttr (.ref x) name expr) g k :=
  ⟨fun O H s Q S q => by
    obtain ⟨a, b⟩ := Bool.and_eq_true_iff.mp (hk c.w.params)
    exact get_own (attr := none) S.fr O.X (S.inst hx hD) a b (ha _) rfl hl hv (q _ _ _ _ (S.toks' (Nat.le_succ _)) h)⟩
theorem wp_method {x d C n f : Nat} {es : List DictEntry} {name : Str} {pl : Sem Bool} {k : Kt (Value × List Value)} (hx : (x, instObj C d) ∈ g.o ++ (g.t ++ c.ex)) (hD : (d, dictOf es n) ∈ g.o ++ (g.t ++ c.ex)) (hl : getL name es = some none) (hk : ∀ P, (plainGet (hd.heap_39 P) C name && isFn (hd.heap_39 P) (.ref f)) = true)
    (ha : ∀ P, findIn (hd.heap_39 P) (.ref C) name = some (some (.ref f))) (h : k (.ref f, [.ref x]) g) : Wp c (getMethod (.ref x) name pl) g k :=
  ⟨fun O H s Q S q => by
    obtain ⟨a, b⟩ := Bool.and_eq_true_iff.mp (hk c.w.params)
    exact method_inst S.fr O.X (S.inst hx hD) a (ha _) b hl (q _ _ s.toks _ S h)⟩
end
theorem tab_apart {T : TabZ} {rows : List Row} : ∀ h₀ L h, News h₀ L h (tabLed T rows) → Apart [tabHead T rows] (tabRest T rows) := fun _ _ _ N =>
  ⟨List.pairwise_singleton _ _, fun p hp q hq => by rw [List.mem_singleton.mp hp]; exact (tabLed_rest N (fun _ h => h) q hq).2⟩
noncomputable def ConK (prog : Program) (w : World) (p : Program) (loose : List Str) (mean : ExcName → Option Value) (mg mb : Str → Option Value) (f : Addr) (vs : List Value) (kw : List (Str × Value)) (n : Nat) (v : Value) : Prop :=
  ∀ (dp un : Nat) (gd : Option (List Code)) (cn : Str) (cs : Scope) (a : Addr) (ccd : Value) (cl : List (Str × Addr)) (outer : List Env) (A₀ : Around) (base h₀ : Heap) (L : Addr) (m : Str → Option Value) (s : Shared) (Q E : Value → Shared → Prop),
    Below A₀ base outer h₀ → Fr h₀ L s.heap m → (hd.heap_39 w.params).In h₀ → Top p loose mean mg mb h₀ → cs.kind = .function → dp + n < recursionLimit → un + 8 * n < cLine →
    (∀ h' tk', Fr h₀ L h' m → Kept [L] s.heap h' → Q v { s with heap := h', toks := tk' }) →
    wpAny (model prog w) (ktrTop dp un gd cn cs L a ccd cl outer) (call (.ref f) vs kw) Q E s
section
variable {c : Cg} {g : Sg}
theorem wp_conK {fa : Addr} {vs : List Value} {kw : List (Str × Value)} {n : Nat} {v : Value} {k : Kt Value} (C : ConK c.prog c.w c.p c.loose c.mean c.mg c.mb fa vs kw n v) (R : Room c n) (h : k v g) : Wp c (call (.ref fa) vs kw) g k :=
  Wp.leaf fun O H s Q S q => C _ _ _ _ _ _ _ _ _ _ _ _ _ _ _ _ _ O.B S.fr O.X O.T O.hk R.1 R.2 fun h' tk' F' K => q _ h' tk' g (fun e => S.heap F' (fun b o hb _ e => K b o (fun hm => hb (List.mem_singleton.mp hm)) e) e) h
theorem wp_isNot {a b : Value} {k : Kt Value} (hp : plainIs a b = true) (h : k (.bool (!(a == b))) g) : Wp c (compareOp .IsNot a b) g k := Wp.pure' (fun _ _ q => wpAny_isNot_plain hp q) h
theorem wp_methK {env : Env} {o arg : PySem.Expr} {nm ky : Str} {apos pos kp cp : Pos} {b : Bool} {cn : Nat} {k : Kt Value} (hs : isStar arg = false)
    (he : eval (.Call (.Attribute o nm apos) [arg] [⟨some ky, .Constant (.bool b) cn cp, kp⟩] pos) env = (do
      let ov ← eval o env
      standAt apos.atName
      let (f, first) ← holding [ov] (getMethod ov nm (plOf o env))
      callWith pos f first (backTo pos (starEach [arg] env)) (backToKw pos (keywordEach [⟨some ky, .Constant (.bool b) cn cp, kp⟩] env))))
    (h : Wp c (eval o env) g fun ov g => Wp c (getMethod ov nm (plOf o env)) g fun fx g => (∀ P, keepIn (hd.heap_39 P) fx.1 = true) ∧ Wp c (eval arg env) g fun v g => Wp c (call fx.1 (fx.2 ++ [v]) [(ky, .bool b)]) g k) : Wp c (eval (.Call (.Attribute o nm apos) [arg] [⟨some ky, .Constant (.bool b) cn cp, kp⟩] pos) env) g k :=
  ⟨fun O H s Q S q => methodCall_KW (h.run O H s _ S fun _ _ _ _ S1 k1 => k1.run O H _ _ S1 fun fx h2 tk2 g2 S2 k2 =>
    callWith_KW O.X (k2.1 _) (by rfl) (args_cons (k2.2.run O H _ _ S2 fun v h3 tk3 g3 S3 k3 => args_nil (PyProof.Rows.kwAll_cons (wpAny_Constant_bool (PyProof.Rows.kwAll_nil ⟨O.X.keeps S3.fr.keep, k3.run O H _ Q S3 q⟩)))) (star_cons hs _ _)) (by rw [star_any (by rw [List.any_cons, hs]; rfl)]; rfl) (star_cons hs _ _)) he⟩
end
section
open PySem.Builtin PySem.Builtin.Re
noncomputable def codeN : Array Nat := #[14, 10, 4, 1, 1, 22, 0, 31, 16, 127, 0, 13, 7, 22, 0, 31, 16, 127, 0, 1]
theorem setN (c : Nat) (h : goodN c) (seen : Sre.Seen) : ∃ seen', Sre.inSet codeN c codeN.size 5 true seen = .ok (false, seen') := by
  refine ⟨((seen.add 22).add 16).add 0, ?_⟩
  rw [show codeN.size = 17 + 1 + 1 + 1 from rfl, Sre.inSet]
  dsimp only
  rw [show Sre.ops[codeN.getD (5 + 0) 0]? = some .RANGE from rfl]
  dsimp only
  rw [if_neg (by show ¬ (decide (0 ≤ c) && decide (c ≤ 31)) = true; have := h.1; simp; omega), Sre.inSet]
  dsimp only
  rw [show Sre.ops[codeN.getD (5 + 3 + 0) 0]? = some .LITERAL from rfl]
  dsimp only
  rw [if_neg (by show ¬ (c == 127) = true; have := h.2; simp; omega), Sre.inSet]
  rfl
theorem firstN (m : Sre.M) (e : m.code = codeN) : m.hasFirstSet = true := by unfold Sre.M.hasFirstSet; rw [e]; rfl
end
section
variable {prog : Program} {w : World} {p : Program} {loose : List Str} {mean : ExcName → Option Value} {mg mb : Str → Option Value}
theorem conK {fa : Addr} {vs : List Value} {kw : List (Str × Value)} {n : Nat} {v : Value} {name qual : Str} {params : Arguments} {body : List Stmt} {scope : Scope} {dV kV doc pm cdv ct oc : Value} {an od : Option Addr} {osl : Array (Option Value)} {binds : List (Str × Value)}
    (ho : ∀ P, (hd.heap_39 P).lookup fa = some ⟨oc, od, .func (fnOf name qual params body scope dV kV doc pm an cdv ct), osl⟩) (hcd : ∀ P, codeIn (hd.heap_39 P) cdv qual = true)
    (hbind : ∀ s, BindsTo s (fnOf name qual params body scope dV kV doc pm an cdv ct) ⟨vs, kw⟩ binds)
    (h : ∀ (c : Cg), Room c n → Wp (c.fn scope []) (execs body (ev (c.fn scope []))) ⟨fun y => binds.reverse.lookup y, [], [], 0⟩ (fun fl _ => retOf fl = v))
    (hloc : (binds.all fun y => scope.names.lookup y.1 == some .local) = true)
    (hfl : (!scope.isCoroutine && (!scope.isGenerator && (decide (scope.kind = .function) && scope.names.all fun x => !(x.2 == .cell)))) = true) : ConK prog w p loose mean mg mb fa vs kw (n + 1) v := by
  simp only [Bool.and_eq_true, Bool.not_eq_true', decide_eq_true_eq, List.all_eq_true, beq_eq_false_iff_ne] at hfl
  obtain ⟨f1, f2, f3, f4⟩ := hfl
  intro dp un gd cn cs a ccd cl outer A₀ base h₀ L m s Q E B F X T hkc hdp hun hret
  refine wpAny_call ?_
  refine enter_plain B F X News.nil T rfl rfl hkc (ho _) (hcd _) (Nat.lt_of_le_of_lt (Nat.le_add_right _ _) hdp) (hbind s) (fun y hy => eq_of_beq (List.all_eq_true.mp hloc y hy)) ?_ f1 f2 f3 f4
  intro g L' h1 FG F1 N1 B1 X1 T1 hG hG' hl
  refine body_run (s := { s with heap := h1, toks := _ }) (Cg.fn ⟨prog, w, p, loose, mean, mg, mb, dp + 1, un + 3, ((ktrTop dp un gd cn cs L a ccd cl outer).deeper (envOf qual scope L' fa cdv)).guards, qual, L', fa, cdv, envX cn cs L a ccd cl :: outer, _, base, g, scope, [], []⟩ scope []) rfl rfl ⟨B1, X1, T1, f3, List.nodup_nil⟩ (h _ ⟨?_, ?_⟩) F1 N1 ⟨.nil, fun _ h => nomatch h⟩ (fun _ h => nomatch h) (Nat.zero_le _) ?_
  · show dp + 1 + n < recursionLimit; omega
  · show un + 3 + 8 * n < cLine; omega
  · rintro fl h' tk' g' F' N' A' e
    refine leaveK_ (m := m) F' N' fun F'' N'' => ?_
    show Q (retOf fl) _
    rw [show retOf fl = v from e]
    exact hret _ _ F'' (kept_led hG F' N' (L := L) (News.nil (h₀ := h₀) (L := L)) (fun _ h => nomatch h))
end
section
variable {c : Cg} {g : Sg}
theorem wp_ifexp {env : Env} {test body orelse : PySem.Expr} {pos : Pos} {k : Kt Value} (h : Wp c (PySem.isTrue test env (eval test env)) g fun b g => bif b then Wp c (eval body env) g k else Wp c (eval orelse env) g k) : Wp c (eval (.IfExp test body orelse pos) env) g k :=
  ⟨fun O H s Q S q => IfExp_ (h.run O H s _ S fun b _ _ _ S1 k1 => by
    cases b with
    | true => exact k1.run O H _ Q S1 q
    | false => exact k1.run O H _ Q S1 q)⟩
theorem wp_type {x : Value} {Tx : String} {k : Kt Value} (hx : ∀ s : Shared, s.TypeIs x Tx) (hb : (Value.type Tx == Value.type "builtin_function_or_method") = false) (h : k (.type Tx) g) : Wp c (call (.type "type") [x]) g k := Wp.pure' (fun s _ q => call_type_of (hx s) hb q) h
theorem wp_is {a b : Value} {k : Kt Value} (hp : plainIs a b = true) (h : k (.bool (a == b)) g) : Wp c (compareOp .Is a b) g k := Wp.pure' (fun _ _ q => wpAny_is_plain hp q) h
theorem wp_tnone {k : Kt Bool} (h : k false g) : Wp c (truthy .none) g k := Wp.pure' (fun _ _ q => PyProof.Rows.truthy_none q) h
end
section
open PySem.Builtin PySem.Builtin.Re
theorem re_getattribute : typeLookup (.type "re.Pattern") "__getattribute__" = pure (some (.builtin "object.__getattribute__")) := by rw [typeLookup_type, builtinLookup_eq_fast]; kernel_rfl
theorem re_canon : (Manifest.canonical "object.__getattribute__" != "object.__getattribute__") = false := by decide +kernel
theorem re_getattr_none : typeLookup (.type "re.Pattern") "__getattr__" = pure none := by rw [typeLookup_type, builtinLookup_eq_fast]; kernel_rfl
theorem slot_re_search : Slot "re.Pattern" "search" "re.Pattern.search" :=
  .of (owner := "re.Pattern") (n := "search") (by rw [typeLookup_type, builtinLookup_eq_fast]; kernel_rfl) (by decide +kernel) (by decide +kernel) (by decide +kernel)
    (by first | exact .inl (by decide +kernel) | exact .inr (by decide +kernel)) (by rw [isSubtype_type]; kernel_rfl)
theorem type_re_search : typeOf (.builtin "re.Pattern.search") = pure (.type "method_descriptor") := by show builtinType _ = _; rw [builtinType_eq_fast]; kernel_rfl
theorem getMethod_re_search {M : Model} {A : Around} {E : Value → Shared → Prop} {s : Shared} {l : Addr} {o : Obj} {pl : Sem Bool} {Q : Value × List Value → Shared → Prop} (ho : s.heap.get? l = some o) (hc : o.cls = .type "re.Pattern") (hd : o.dict = none)
    (h : Q (.builtin "re.Pattern.search", [.ref l]) s) : wpAny M A (getMethod (.ref l) "search" pl) Q E s := by
  have hT : s.TypeIs (.ref l) "re.Pattern" := ⟨o, ho, hc⟩
  unfold getMethod
  refine wpAny_bind (wpAny_specialOf hT re_getattribute ?_)
  show wpAny M A (if (Manifest.canonical "object.__getattribute__" != "object.__getattribute__") = true then _ else _) Q E s
  rw [re_canon, if_neg Bool.false_ne_true]
  refine wpAny_bind (wpAny_specialOf hT re_getattr_none ?_)
  refine wpAny_bind (wpAny_specialOf hT slot_re_search.lookup ?_)
  refine wpAny_bind (wpAny_of_eq type_re_search ?_)
  refine wpAny_bind (wpAny_load ho ?_)
  rw [hd]
  exact wpAny_bind (wpAny_rule (wpAny_pure h))
theorem get_searchK {M : Model} {A : Around} {E : Value → Shared → Prop} {s : Shared} {K : Frag} {h₀ : Heap} {L P : Addr} {m : Str → Option Value} {fs : Array Value} {pl : Sem Bool} {Q : Value × List Value → Shared → Prop} (F : Fr h₀ L s.heap m) (X : K.In h₀) (e : K.lookup P = some ⟨.type "re.Pattern", none, .fields fs, #[]⟩)
    (h : Q (.builtin "re.Pattern.search", [.ref P]) s) : wpAny M A (getMethod (.ref P) "search" pl) Q E s := getMethod_re_search ((X.keeps F.keep) _ _ e) rfl rfl h
end
section
variable {c : Cg} {g : Sg}
theorem wp_mSearch {P : Addr} {fs : Array Value} {pl : Sem Bool} {k : Kt (Value × List Value)} (e : ∀ W, (hd.heap_39 W).lookup P = some ⟨.type "re.Pattern", none, .fields fs, #[]⟩) (h : k (.builtin "re.Pattern.search", [.ref P]) g) : Wp c (getMethod (.ref P) (Str.ofString "search") pl) g k :=
  ⟨fun O H s Q S q => get_searchK S.fr O.X (e _) (q _ _ s.toks _ S h)⟩
end
section
open PySem.Builtin PySem.Builtin.Re
theorem entry_re_search : entryFor table "re.Pattern.search" = some Builtin.«re.Pattern.search» := entryFor_of_fast (by kernel_rfl)
theorem runFor_false (m : Sre.M) (ha : m.answer = some false) (hf : m.frames = []) (ho : m.outcome = none) : (m.runFor 4).outcome = some .failed := by
  have h1 : m.step = { m with outcome := some .failed } := by
    unfold Sre.M.step
    rw [ho, ha, hf]
    rfl
  unfold Sre.M.runFor
  rw [ho]
  simp only [Option.isSome_none, Bool.false_eq_true, if_false]
  rw [h1]
  unfold Sre.M.runFor
  simp
theorem admitted_none (m : Sre.M) (P : Nat → Prop) (hset : ∀ c, P c → ∀ seen, ∃ seen', Sre.inSet m.code c m.code.size 5 true seen = .ok (false, seen')) (ht : ∀ i, i < m.lim → P (m.text.getD i 0)) :
    ∀ fuel s seen, ∃ seen', Sre.M.admitted m fuel s seen = .ok (none, seen')
  | 0, s, seen => ⟨seen, rfl⟩
  | fuel + 1, s, seen => by
    unfold Sre.M.admitted
    split
    · exact ⟨seen, rfl⟩
    · rename_i h
      obtain ⟨seen', e⟩ := hset _ (ht s (by omega)) seen
      rw [e]
      exact admitted_none m P hset ht fuel (s + 1) seen'
theorem attempt_failed (m : Sre.M) (P : Nat → Prop) (hset : ∀ c, P c → ∀ seen, ∃ seen', Sre.inSet m.code c m.code.size 5 true seen = .ok (false, seen')) (ht : ∀ i, i < m.lim → P (m.text.getD i 0))
    (hh : m.hasFirstSet = true) (hf : m.frames = []) (ho : m.outcome = none) : ((m.attemptFrom 0 true).runFor 4).outcome = some .failed := by
  unfold Sre.M.attemptFrom
  rw [hh]
  simp only [Bool.not_true, Bool.false_eq_true, if_false]
  obtain ⟨seen', e⟩ := admitted_none m P hset ht (m.lim + 1 - 0) 0 m.seen
  rw [e]
  exact runFor_false _ rfl hf ho
theorem search_failed (code text : Array Nat) (P : Nat → Prop) (hset : ∀ c, P c → ∀ seen, ∃ seen', Sre.inSet code c code.size 5 true seen = .ok (false, seen')) (ht : ∀ i, i < text.size → P (text.getD i 0))
    (hh : ∀ m : Sre.M, m.code = code → m.hasFirstSet = true) (groups : Nat) : ((Sre.forSearch code text groups 0 text.size false).runFor 4).outcome = some .failed := by
  unfold Sre.forSearch
  dsimp only
  split
  · exact runFor_false _ rfl rfl rfl
  · exact attempt_failed _ P hset ht (hh _ rfl) rfl rfl
theorem wp_forIn_unit {M : Model} {A : Around} {E : Value → Shared → Prop} {s : Shared} {f : Nat → PUnit → Sem (ForInStep PUnit)} (hf : ∀ i (Q' : ForInStep PUnit → Shared → Prop), Q' (.yield PUnit.unit) s → wpAny M A (f i PUnit.unit) Q' E s) {Q : PUnit → Shared → Prop} (h : Q PUnit.unit s) : ∀ l : List Nat, wpAny M A (forIn l PUnit.unit f) Q E s
  | [] => wpAny_pure h
  | i :: r => by
    rw [List.forIn_cons]
    exact wpAny_bind (hf i _ (wp_forIn_unit hf h r))
theorem runToEnd_failed {M : Model} {A : Around} {E : Value → Shared → Prop} {s : Shared} {Q : Option Sre.M → Shared → Prop} {m : Sre.M} (hm : (m.runFor 4).outcome = some .failed) (h : Q none s) : wpAny M A (reRunToEnd m) Q E s := by
  unfold reRunToEnd
  refine wpAny_bind ?_
  rw [show (2 : Nat) ^ 64 = (2 ^ 64 - 1) + 1 from rfl]
  unfold reDrive
  dsimp only [reTurnSteps]
  rw [hm]
  simp only [Option.isSome_some, if_true]
  refine wpAny_pure ?_
  refine wpAny_bind (wp_forIn_unit (fun i Q' h' => ?_) ?_ _)
  · split
    · exact wpAny_bind (wpAny_rule (wpAny_pure h'))
    · exact wpAny_pure h'
  · rw [hm]
    exact wpAny_pure h
theorem call_search_none {prog : Program} {w : World} {A : Around} {E : Value → Shared → Prop} {s : Shared} {Q : Value → Shared → Prop} {P T : Addr} {x : Str} {t : Tok} {fs ws : Array Value} {n : Nat} {code : Array Nat} (G : Nat → Prop)
    (hP : s.heap.get? P = some ⟨.type "re.Pattern", none, .fields fs, #[]⟩) (hT : s.heap.get? T = some ⟨.type "tuple", none, .seq ws n, #[]⟩) (h5 : fs.getD 5 .none = .ref T) (h6 : reRawNat (fs.getD 6 .none) = 0) (hc : (ws.map reRawOf).map (·.toNat) = code)
    (hset : ∀ c, G c → ∀ seen, ∃ seen', Sre.inSet code c code.size 5 true seen = .ok (false, seen')) (hh : ∀ m : Sre.M, m.code = code → m.hasFirstSet = true)
    (hx : ∀ i, i < x.cps.size → G (x.cps.getD i 0)) (hsz : x.cps.size < 2 ^ 60) (h : Q .none s) :
    wpAny (model prog w) A (call (.builtin "re.Pattern.search") [.ref P, .str x t]) Q E s := by
  refine wpAny_call_entry slot_re_search ⟨_, hP, rfl⟩ entry_re_search ?_ ?_
  · unfold Builtin.«re.Pattern.search»
    refine wpAny_bind ?_
    unfold reTarget
    refine wpAny_bind (wpAny_of_eq (show reNamed "re.Pattern.search" "search" ["string", "pos", "endpos"] 1 [.str x t] [] = pure [some (.str x t), none, none] from rfl) ?_)
    refine wpAny_bind (wpAny_pure ?_)
    refine wpAny_bind (wpAny_pure ?_)
    refine wpAny_bind (wpAny_fieldsOf hP rfl ?_)
    refine wpAny_bind (wpAny_of_eq (show reTextOf (.str x t) = pure (x.cps, 0) from rfl) ?_)
    dsimp only
    rw [h6, if_neg (by decide), if_neg (by decide)]
    refine wpAny_bind (wpAny_of_eq (show reNoCollectionInside (.str x t) 0 = pure () from rfl) ?_)
    rw [h5]
    unfold reRawItems
    refine wpAny_bind (wpAny_bind (wpAny_seqItems hT rfl (wpAny_pure ?_)))
    refine wpAny_pure ?_
    dsimp only [Option.getD_some]
    rw [hc, show min (Int.toNat 0) x.cps.size = 0 from by simp, show (min ((2 ^ 63 - 1 : Int).toNat) x.cps.size : Nat) = x.cps.size from by omega]
    unfold reAnswer
    refine wpAny_bind (runToEnd_failed (search_failed code x.cps G hset hx hh _) ?_)
    exact wpAny_pure ⟨_, rfl, h⟩
  · unfold argsOk
    kernel_rfl
theorem re_searchK {prog : Program} {w : World} {A : Around} {E : Value → Shared → Prop} {s : Shared} {K : Frag} {h₀ : Heap} {L : Addr} {m : Str → Option Value} {Q : Value → Shared → Prop} {P T : Addr} {x : Str} {t : Tok} {fs ws : Array Value} {n : Nat} (code : Array Nat) (G : Nat → Prop)
    (hset : ∀ c, G c → ∀ seen, ∃ seen', Sre.inSet code c code.size 5 true seen = .ok (false, seen')) (hh : ∀ m : Sre.M, m.code = code → m.hasFirstSet = true) (F : Fr h₀ L s.heap m) (X : K.In h₀) (e : K.lookup P = some ⟨.type "re.Pattern", none, .fields fs, #[]⟩) (h5 : fs.getD 5 .none = .ref T) (e2 : K.lookup T = some ⟨.type "tuple", none, .seq ws n, #[]⟩) (h6 : reRawNat (fs.getD 6 .none) = 0) (hc : (ws.map reRawOf).map (·.toNat) = code)
    (hx : ∀ i, i < x.cps.size → G (x.cps.getD i 0)) (hsz : x.cps.size < 2 ^ 60) (h : Q .none s) :
    wpAny (model prog w) A (call (.builtin "re.Pattern.search") [.ref P, .str x t]) Q E s :=
  call_search_none G ((X.keeps F.keep) _ _ e) ((X.keeps F.keep) _ _ e2) h5 h6 hc hset hh hx hsz h
end
section
variable {c : Cg} {g : Sg}
theorem wp_search {P T : Addr} {x : Str} {t : Tok} {fs ws : Array Value} {n : Nat} {code : Array Nat} {G : Nat → Prop} {k : Kt Value} (hset : ∀ c, G c → ∀ seen, ∃ seen', Sre.inSet code c code.size 5 true seen = .ok (false, seen')) (hh : ∀ m : Sre.M, m.code = code → m.hasFirstSet = true)
    (e : ∀ W, (hd.heap_39 W).lookup P = some ⟨.type "re.Pattern", none, .fields fs, #[]⟩) (h5 : fs.getD 5 .none = .ref T) (e2 : ∀ W, (hd.heap_39 W).lookup T = some ⟨.type "tuple", none, .seq ws n, #[]⟩) (h6 : PySem.Builtin.Re.reRawNat (fs.getD 6 .none) = 0) (hc : (ws.map PySem.Builtin.Re.reRawOf).map (·.toNat) = code)
    (hx : ∀ i, i < x.cps.size → G (x.cps.getD i 0)) (hsz : x.cps.size < 2 ^ 60) (h : k .none g) : Wp c (call (.builtin "re.Pattern.search") [.ref P, .str x t]) g k :=
  ⟨fun O H s Q S q => re_searchK code G hset hh S.fr O.X (e _) h5 (e2 _) h6 hc hx hsz (q _ _ s.toks _ S h)⟩
end
section
variable {prog : Program} {w : World} {p : Program} {loose : List Str} {mean : ExcName → Option Value} {mg mb : Str → Option Value}
theorem c_convN {self : Value} {x : Str} {t : Tok} (hx : ∀ i, i < x.cps.size → goodN (x.cps.getD i 0)) (hz : x.cps.size < 2 ^ 60) : ConK prog w p loose mean mg mb 235 [self, .str x t] [("name", .bool true)] 2 (.str x t) := by
  refine conK (fun _ => rfl) (fun _ => rfl) (fun s => BindsTo.of_eq rfl) (fun c R => vbody 30 ?_) (by rfl) (by rfl)
  refine wp_type (fun s => typeIs_str s _ _) (by decide +kernel) ?_
  refine wp_is (by rfl) ?_
  refine wp_ifexp (vtest 4 (vexpr 4 ?_))
  refine wp_mSearch (fun _ => rfl) ?_
  refine wp_search setN firstN (fun _ => rfl) rfl (fun _ => rfl) rfl (by first | rfl | decide +kernel) hx hz ?_
  refine wp_tnone ?_
  exact rfl
end
section
open PySem.Builtin PySem.Builtin.Re
noncomputable def codeV : Array Nat := #[14, 14, 4, 1, 1, 9, 4294966783, 0, 0, 2147483648, 0, 0, 0, 0, 0, 13, 11, 9, 4294966783, 0, 0, 2147483648, 0, 0, 0, 0, 0, 1]
theorem testV : ∀ c, c < 127 → (c = 9 ∨ 32 ≤ c) → (codeV.getD (5 + (1 + c / 32)) 0).testBit (c % 32) = false := by decide +kernel
theorem setV (c : Nat) (h : goodV c) (seen : Sre.Seen) : ∃ seen', Sre.inSet codeV c codeV.size 5 true seen = .ok (false, seen') := by
  have h1 : c < 127 := by rcases h with h | h <;> omega
  have h2 := testV c h1 (by rcases h with h | h; exact .inl h; exact .inr h.1)
  refine ⟨(seen.add 9).add 0, ?_⟩
  rw [show codeV.size = 26 + 1 + 1 from rfl, Sre.inSet]
  dsimp only
  rw [show Sre.ops[codeV.getD (5 + 0) 0]? = some .CHARSET from rfl]
  dsimp only
  rw [h2, Bool.and_false, if_neg Bool.false_ne_true, Sre.inSet]
  rfl
theorem firstV (m : Sre.M) (e : m.code = codeV) : m.hasFirstSet = true := by unfold Sre.M.hasFirstSet; rw [e]; rfl
end
section
variable {prog : Program} {w : World} {p : Program} {loose : List Str} {mean : ExcName → Option Value} {mg mb : Str → Option Value}
theorem c_convV {self : Value} {x : Str} {t : Tok} (hx : ∀ i, i < x.cps.size → goodV (x.cps.getD i 0)) (hz : x.cps.size < 2 ^ 60) : ConK prog w p loose mean mg mb 235 [self, .str x t] [("name", .bool false)] 2 (.str x t) := by
  refine conK (fun _ => rfl) (fun _ => rfl) (fun s => BindsTo.of_eq rfl) (fun c R => vbody 30 ?_) (by rfl) (by rfl)
  refine wp_type (fun s => typeIs_str s _ _) (by decide +kernel) ?_
  refine wp_is (by rfl) ?_
  refine wp_ifexp (vtest 4 (vexpr 4 ?_))
  refine wp_mSearch (fun _ => rfl) ?_
  refine wp_search setV firstV (fun _ => rfl) rfl (fun _ => rfl) rfl (by first | rfl | decide +kernel) hx hz ?_
  refine wp_tnone ?_
  exact rfl
end
theorem ext_kept {h₀ h h' : Heap} {L : Addr} {m m' : Str → Option Value} {news : List (Addr × Obj)} (F : Fr h₀ L h m) (F' : Fr h₀ L h' m') (N : News h₀ L h' (news ++ PyProof.Rows.ownOf h₀ ((List.range h.objs.size).filter (· ≠ L)) h)) : Kept [L] h h' := by
  intro b o hb e
  cases q : h₀.get? b with
  | some o' =>
    have q1 := F.keep _ _ q
    rw [e] at q1; cases q1
    exact F'.keep _ _ q
  | none => exact (N _ (List.mem_append_right _ (PyProof.Rows.mem_ownOf (by simp [Heap.lt_size e]; simpa using hb) q e))).1
theorem own_news {h₀ h : Heap} {L : Addr} : News h₀ L h (PyProof.Rows.ownOf h₀ ((List.range h.objs.size).filter (· ≠ L)) h) := PyProof.Rows.news_ownOf (by simp)
theorem own_fresh {h₀ h h' : Heap} {L x b : Addr} {o : Obj} {news : List (Addr × Obj)} (N : News h₀ L h' ((x, o) :: news)) (hlt : ∀ p ∈ PyProof.Rows.ownOf h₀ ((List.range h.objs.size).filter (· ≠ L)) h, p.1 < b) (hb : b ≤ x) : h.get? x = none := by
  have n1 := N _ List.mem_cons_self
  cases e : h.get? x with
  | none => rfl
  | some o' =>
    have h1 := hlt _ (PyProof.Rows.mem_ownOf (o := o') (by simp only [List.mem_filter, List.mem_range]; exact ⟨Heap.lt_size e, by simpa using n1.2.1⟩) n1.2.2 e)
    exact absurd h1 (Nat.not_lt.mpr hb)
section
variable {prog : Program} {w : World} {A A₀ : Around} {s : Shared} {K : Frag} {L : Addr} {h₀ base : Heap} {m mg mb : Str → Option Value} {news : List (Addr × Obj)} {p : Program} {loose : List Str} {mean : ExcName → Option Value}
theorem enter_more {env : Env} {outer : List Env} {R : Result → Shared → Prop} {name qual : Str} {params : Arguments} {body : List Stmt} {scope : Scope} {dV kV doc pm cdv ct oc : Value} {an od : Option Addr} {osl : Array (Option Value)} {f : Addr} {args : Args} {g₁ : Addr → Option (List (Str × Value))} {binds : Addr → List (Str × Value)}
    (B : Below A₀ base outer h₀) (F : Fr h₀ L s.heap m) (X₀ : K.In h₀) (N : News h₀ L s.heap news) (T : Top p loose mean mg mb h₀) (hA : A.frames = some (env :: outer)) (hf : env.frame = some L) (hke : env.scope.kind = .function)
    (ho : K.lookup f = some ⟨oc, od, .func (fnOf name qual params body scope dV kV doc pm an cdv ct), osl⟩) (hcd : codeIn K cdv qual = true) (hroom : A.depth < recursionLimit)
    (hp : peek1 K ⟨prog, w.params⟩ (bindArgs (fnOf name qual params body scope dV kV doc pm an cdv ct) args) = some (dictOf [] 0, g₁))
    (hg : ∀ D, g₁ D = some (binds D)) (hloc : ∀ D, ∀ y ∈ binds D, scope.names.lookup y.1 = some .local)
    (h : ∀ D g L' h₁, Fr h₀ L g m → Fr g L' h₁ (fun y => (binds D).reverse.lookup y) → News g L' h₁ ((D, dictOf [] 0) :: news) → Below A base (env :: outer) g → K.In g → Top p loose mean mg mb g →
      (∀ b o, b ≠ L → b ∉ news.map (·.1) → s.heap.get? b = some o → g.get? b = some o) → s.heap.get? D = none → (∀ p ∈ news, p.1 < D) → D < L' →
      wpAny (model prog w) (A.deeper (envOf qual scope L' f cdv)) (execs body (envOf qual scope L' f cdv))
        (fun fl s' => LeaveK h₀ L m g R (match fl with | .ret v => v | _ => .none) s')
        (fun e s' => wpAny (model prog w) (A.deeper (envOf qual scope L' f cdv)) (leaving (envOf qual scope L' f cdv) e) (fun _ s'' => R (.error e) s'') (fun e' s'' => R (.error e') s'') s')
        { s with heap := h₁, toks := s.toks + (binds D).length })
    (hco : scope.isCoroutine = false) (hgen : scope.isGenerator = false) (hk : scope.kind = .function)
    (hcell : ∀ x ∈ scope.names, x.2 ≠ .cell) : codeAny (model prog w) A (.call (.ref f) args) R s := by
  refine codeAny_call_function (fd := fnOf name qual params body scope dV kV doc pm an cdv ct) (body := body) hroom ((X₀.keeps F.keep) _ _ ho) rfl hco hgen rfl (codeRec_of (X₀.keeps F.keep) hcd) ?_
  refine wp_of_peek1 (o := dictOf [] 0) F own_news (X₀.keeps F.keep) rfl (r := binds) (fun D h' F' N' l => ?_) _ g₁ hp hg
  have k : Kept [L] s.heap h' := ext_kept (news := [_]) F F' N'
  have hD : s.heap.get? D = none := own_fresh N' l (Nat.le_refl _)
  have N2 : News h₀ L h' ((D, dictOf [] 0) :: news) := fun q hq => by
    rcases List.mem_cons.mp hq with rfl | hq
    · exact N' _ (.head _)
    · exact k.news N q hq
  obtain ⟨FG, BG, st, lv⟩ := groundX (s := { s with heap := h' }) (R := R) B F' N2 hA hf hke
  refine wpAny_newFunctionEnv hcell (hloc D) (fun h₁ hns hsb => ⟨(T.nolimit.keeps F'.keep).fresh _ hsb, codeAny_func ?_⟩) hk
  have hk₁ : ∀ b o, h'.get? b = some o → h₁.get? b = some o := fun b o e => hsb.extBut b o (Nat.ne_of_lt (Heap.lt_size e)) (Heap.get?_push_of_some _ e)
  show wpAny (model prog w) (A.deeper (envX qual scope h'.objs.size f cdv [])) (execs body (envX qual scope h'.objs.size f cdv [])) _ _ _
  refine wpAny_mono (h D _ h'.objs.size h₁ FG ⟨hns, fun b o e => hk₁ b o (of_hideAll _ e), Nat.le_of_eq (hideAll_size _ _)⟩
    (fun p hp => ⟨hk₁ _ _ (N2 p hp).1, Nat.ne_of_lt (Heap.lt_size (N2 p hp).1), hideAll_none _ (List.mem_map_of_mem hp)⟩) BG (X₀.keeps st) (T.keeps st) (fun b o hb hn e => hideAll_get _ (k b o (by simpa using hb) e) fun q => ?_) hD (fun q hq => l q ?_) (Heap.lt_size (N2 _ (.head _)).1)) (fun fl s' hl => lv _ _ hl) fun _ _ y => y
  · rcases List.mem_cons.mp q with q | q
    · rw [q, hD] at e; cases e
    · exact hn q
  · obtain ⟨q1, q2⟩ := q
    have n1 := N _ hq
    exact PyProof.Rows.mem_ownOf (by simp only [List.mem_filter, List.mem_range]; exact ⟨Heap.lt_size n1.1, by simpa using n1.2.1⟩) n1.2.2 n1.1
end
theorem kept_more {s h' g h₀ : Heap} {L L' : Addr} {m' : Str → Option Value} {led n9 : List (Addr × Obj)} {ch : List Addr} (hG : ∀ b o, b ≠ L → b ∉ led.map (·.1) → s.get? b = some o → g.get? b = some o) (F : Fr g L' h' m') (N9 : News g L' h' n9) (N : News h₀ L s led) (hs : ∀ q ∈ led, q.1 ∈ ch ∨ q ∈ n9) : Kept (L :: ch) s h' := fun b o hb e => by
  by_cases hm : b ∈ led.map (·.1)
  · obtain ⟨q, hq, rfl⟩ := List.mem_map.mp hm
    rcases hs q hq with h | h
    · exact absurd (List.mem_cons_of_mem _ h) hb
    · have e1 := (N q hq).1
      rw [e] at e1
      have e2 := (N9 q h).1
      rw [e2, ← e1]
  · exact F.keep _ _ (hG b o (fun q => hb (q ▸ .head _)) hm e)
section
variable {prog : Program} {w : World} {p : Program} {loose : List Str} {mean : ExcName → Option Value} {mg mb : Str → Option Value}
theorem two_low {a b D : Nat} (h1 : a < D) (h2 : b < D) (h : a ≠ b) : (D == sysModules) = false := by
  have : D ≠ 1 := by omega
  exact beq_eq_false_iff_ne.mpr this
theorem conM {fa : Addr} {vs : List Value} {n : Nat} {led : Nw} {ch : List Addr} {P : Heap → Heap → Value → Prop} {name qual : Str} {params : Arguments} {body : List Stmt} {scope : Scope} {dV kV doc pm cdv ct oc : Value} {an od : Option Addr} {osl : Array (Option Value)} {binds : Addr → List (Str × Value)} {g₁ : World → Addr → Option (List (Str × Value))} (o t : Nw)
    (ho : ∀ P, (hd.heap_39 P).lookup fa = some ⟨oc, od, .func (fnOf name qual params body scope dV kV doc pm an cdv ct), osl⟩) (hcd : ∀ P, codeIn (hd.heap_39 P) cdv qual = true)
    (hp : ∀ prog w, peek1 (hd.heap_39 w.params) ⟨prog, w.params⟩ (bindArgs (fnOf name qual params body scope dV kV doc pm an cdv ct) ⟨vs, []⟩) = some (dictOf [] 0, g₁ w)) (hg : ∀ w D, g₁ w D = some (binds D))
    (h : ∀ (c : Cg) (s₀ : Heap) (D : Addr), Room c n → (D == sysModules) = false → Wp (c.fn scope []) (execs body (ev (c.fn scope []))) ⟨fun y => (binds D).reverse.lookup y, (D, dictOf [] 0) :: o, t, 0⟩ (PostW led ch s₀ P))
    (hA : ∀ h₀ L h, News h₀ L h led → Apart o t) (hot : ∀ q ∈ o ++ t, q ∈ led) (hsm : ∀ h₀ L h, News h₀ L h led → ∃ p ∈ led, ∃ q ∈ led, p.1 ≠ q.1)
    (hloc : ∀ D, ((binds D).all fun y => scope.names.lookup y.1 == some .local) = true)
    (hfl : (!scope.isCoroutine && (!scope.isGenerator && (decide (scope.kind = .function) && scope.names.all fun x => !(x.2 == .cell)))) = true) : ConL prog w p loose mean mg mb fa vs (n + 1) (fun _ => True) led ch P := by
  simp only [Bool.and_eq_true, Bool.not_eq_true', decide_eq_true_eq, List.all_eq_true, beq_eq_false_iff_ne] at hfl
  obtain ⟨f1, f2, f3, f4⟩ := hfl
  intro dp un gd cn cs a ccd cl outer A₀ base h₀ L m s Q E B F X T hkc hdp hun _ N hret
  refine wpAny_call ?_
  refine enter_more B F X N T rfl rfl hkc (ho _) (hcd _) (Nat.lt_of_le_of_lt (Nat.le_add_right _ _) hdp) (hp _ _) (hg _) (fun D y hy => eq_of_beq (List.all_eq_true.mp (hloc D) y hy)) ?_ f1 f2 f3 f4
  intro D g L' h1 FG F1 N1 B1 X1 T1 hG hD hlD hlL
  obtain ⟨p1, hp1, p2, hp2, hne⟩ := hsm _ _ _ N
  have hot' : ∀ q ∈ ((D, dictOf [] 0) :: o) ++ t, q ∈ (D, dictOf [] 0) :: led := fun q hq => (List.mem_cons.mp hq).elim (fun e => e ▸ .head _) fun hq => .tail _ (hot q hq)
  have A0 := hA _ _ _ N
  have off : ∀ q ∈ o ++ t, q.1 ≠ D := fun q hq => Nat.ne_of_lt (hlD q (hot q hq))
  refine body_run (s := { s with heap := h1, toks := _ }) (Cg.fn ⟨prog, w, p, loose, mean, mg, mb, dp + 1, un + 3, ((ktrTop dp un gd cn cs L a ccd cl outer).deeper (envOf qual scope L' fa cdv)).guards, qual, L', fa, cdv, envX cn cs L a ccd cl :: outer, _, base, g, scope, [], []⟩ scope []) rfl rfl ⟨B1, X1, T1, f3, List.nodup_nil⟩ (h _ s.heap D ⟨?_, ?_⟩ (two_low (hlD _ hp1) (hlD _ hp2) hne)) F1 N1
    ⟨List.pairwise_cons.mpr ⟨fun q hq => off q (List.mem_append_left _ hq), A0.1⟩, fun q hq r hr => (List.mem_cons.mp hq).elim (fun e => by rw [e]; exact off r (List.mem_append_right _ hr)) fun hq => A0.2 q hq r hr⟩ hot' (Nat.zero_le _) ?_
  · show dp + 1 + n < recursionLimit; omega
  · show un + 3 + 8 * n < cLine; omega
  · rintro fl h' tk' g' F' N' A' ⟨p1, p2⟩
    refine leaveK_ (m := m) F' N' fun F'' N'' => ?_
    refine hret _ _ _ F'' (kept_more hG F' N' N p1) (p2 h' A' fun q hq => ⟨(N' q hq).1, fun hx => ?_⟩)
    have hy : g.get? q.1 = none := (N' q hq).2.2
    cases e : s.heap.get? q.1 with
    | none => rfl
    | some o' =>
      by_cases hL : q.1 = L
      · obtain ⟨oL, a1, a2, hL', a3⟩ := FG.ns
        rw [hL, hL'] at hy; cases hy
      · rw [hG _ _ hL hx e] at hy; cases hy
end
section
variable {c : Cg} {g : Sg}
theorem wp_forItems {x y : Str} {px py tp ap cp pos : Pos} {n : Nat} {o : PySem.Expr} {body : List Stmt} {d : Addr} {k : Kt Flow} (hm : (d, dictOf [] 0) ∈ g.o ++ (g.t ++ c.ex)) (lo : (d == sysModules) = false) (hx : okS c.sc x = true) (hy : okS c.sc y = true) (hok : okMeth o [] ap cp = true)
    (he : Wp c (eval o (ev c)) g fun v g' => v = .ref d ∧ g' = g) (h : k .next g) : Wp c (exec (.For (.Tuple [.Name x px, .Name y py] n tp) (.Call (.Attribute o (Str.ofString "items") ap) [] [] cp) body [] pos) (ev c)) g k := by
  refine Wp.leaf fun O H s Q S q => ?_
  refine PyProof.Rows.For_pair_unrF (E := NoE) S.fr (MethodCall_ (he.run O H s _ S ?_) (meth_eq hok)) (fun _ => rfl)
  rintro v h1 tk1 g1 ⟨cs, z⟩ ⟨rfl, rfl⟩
  have hmm : (d, dictOf [] 0) ∈ cs ++ (H ++ g1.o) ++ (g1.t ++ c.ex) := by
    simp only [List.mem_append] at hm ⊢
    rcases hm with h | h | h
    · exact .inl (.inr (.inr h))
    · exact .inr (.inl h)
    · exact .inr (.inr h)
  have hd0 : (dictOf [] 0).IsDictOf (strKind c.prog c.w) [] := kp_isDict (ex := []) 0 0 List.nodup_nil
  have T0 := PyProof.Rows.TabAt.ofNews z.N hmm lo hd0 (FlatPairs.nil (enc := PyData.str))
  refine PyProof.Rows.getMethod_tab PySem.F.slot_dict_items PySem.F.type_dict_items T0 ?_
  refine callWith_method0 (PyProof.Rows.call_items_tab T0 z.F z.N fun h2 ob hv F2 N2 => ?_)
  have T2 := PyProof.Rows.TabAt.ofNews N2 (.tail _ hmm) lo hd0 (FlatPairs.nil (enc := PyData.str))
  refine PyProof.Rows.Iter_strItems_unr rfl (eq_of_beq hx) (eq_of_beq hy) (by show (c.sc.kind == _ || (c.sc.kind == _ && _)) = false; rw [O.hk]; rfl) hv T2 F2 N2 (.inr ⟨_, .tail _ hmm⟩) (PyProof.Rows.UnrI.zero fun h3 tk3 F3 N3 => ?_) PassesOwn.never
  exact q _ h3 tk3 g1 (fun e => ⟨cs, F3, z.Y, fun p hp => N3 p (.tail _ hp), z.P, e⟩) h
end
section
variable {prog : Program} {w : World} {p : Program} {loose : List Str} {mean : ExcName → Option Value} {mg mb : Str → Option Value}
theorem added_mk {T : TabZ} {rows rows' : List Row} {nm t f fl e : Nat} {tk tk2 : Tok} {D : Addr} {s₀ h' : Heap} {o t' : Nw} {D' : Obj} (A : Apart ((D, tupOf [.str (nmS nm) tk, .str (txt t f fl) tk2]) :: (T.l, D') :: o) t') (ht : ∀ q ∈ tabRest T rows, q ∈ t')
    (hh : ∀ q ∈ ((D, tupOf [.str (nmS nm) tk, .str (txt t f fl) tk2]) :: (T.l, D') :: o) ++ t', h'.get? q.1 = some q.2 ∧ (q.1 ∉ (tabLed T rows).map (·.1) → s₀.get? q.1 = none)) (hD : D' = lstObj ((rows'.map fun r => Value.ref r.a) ++ [.ref D]) e) : Added T rows' nm t f fl s₀ h' := by
  refine ⟨⟨D, nm, t, f, fl, tk, tk2, 0⟩, e, rfl, rfl, rfl, rfl, (hh _ (.head _)).2 fun hm => ?_, (hh _ (.head _)).1, ?_⟩
  · obtain ⟨q, hq, e⟩ := List.mem_map.mp hm
    rcases List.mem_cons.mp hq with rfl | hq
    · exact (List.pairwise_cons.mp A.1).1 _ (.head _) e
    · exact A.2 _ (.head _) q (ht q hq) e
  · rw [(hh _ (.tail _ (.head _))).1, hD, List.map_append]; rfl
theorem c_add {T : TabZ} {rows : List Row} (hr : rows.length ≤ 1000) {nm t f fl : Nat} (ht : t ≤ 64) (hf : f ≤ 64) {tk tk2 : Tok} : ConL prog w p loose mean mg mb 331 [.ref T.t, .str (nmS nm) tk, .str (txt t f fl) tk2] 20 (fun _ => True) (tabLed T rows) [T.l] (fun s h' r => Added T rows nm t f fl s h') := by
  have hlen : (txt t f fl).length ≤ 1000 := by have := codes_len fl; rw [txt_len]; omega
  refine conM (binds := fun D => [("self", .ref T.t), ("_name", .str (nmS nm) tk), ("_value", .str (txt t f fl) tk2), ("_params", .ref D)]) [tabHead T rows] (tabRest T rows) (fun _ => rfl) (fun _ => rfl) (fun _ _ => rfl) (fun _ _ => rfl) (fun c s₀ D R hD => vbody 30 ?_) tab_apart (fun q hq => hq) (fun _ _ _ N => ⟨_, .head _, _, .tail _ (.head _), news_ne N (.head _) (.tail _ (.head _)) (by simp [lstObj, instObj])⟩) (fun _ => by rfl) (by rfl)
  intro P
  refine wp_isNot (by rfl) ?_
  refine wp_methK rfl rfl (vexpr 4 ?_)
  refine wp_method (mem_at 3 rfl) (mem_at 4 rfl) rfl (fun _ => rfl) (fun _ => rfl) ⟨fun _ => rfl, vexpr 4 ?_⟩
  refine wp_conK (c_convV (txt_good _ _ _) (by rw [txt_size]; have := codes_len fl; omega)) (R.le rfl) ?_
  refine wp_mAppend (mem_at 0 rfl) ?_
  refine wp_append (j := 0) (its' := [Value.str (txt t f fl) tk2].toArray) rfl (Nat.zero_le _) rfl ?_
  refine wp_forItems (mem_at 1 rfl) hD rfl rfl (by rfl) (vexpr 4 ⟨rfl, rfl⟩) ?_
  refine wp_own (mem_at 3 rfl) (mem_at 4 rfl) rfl (fun _ => rfl) (fun _ => rfl) rfl ?_
  refine wp_mAppend (mem_at 2 rfl) ?_
  refine wp_methK rfl rfl (vexpr 4 ?_)
  refine wp_method (mem_at 3 rfl) (mem_at 4 rfl) rfl (fun _ => rfl) (fun _ => rfl) ⟨fun _ => rfl, vexpr 4 ?_⟩
  refine wp_conK (c_convN (nm_good _) (by rw [nm_size]; decide)) (R.le rfl) ?_
  intro t1
  refine wp_join (mem_at 0 rfl) (.cons _ _ .nil) (by decide +kernel) ?_ fun t2 => ?_
  · show (txt t f fl).length + 0 + 1 ≤ _
    exact Nat.le_trans (Nat.add_le_add_right hlen 1) (by decide)
  rw [join_one]
  intro D2
  refine wp_append (j := 3) (its' := ((rows.map fun (r : Row) => Value.ref r.a) ++ [Value.ref D2]).toArray) rfl ?_ (by simp) ?_
  · rw [List.size_toArray, List.length_map]; exact hr
  refine ⟨List.forall_mem_cons.mpr ⟨.inl (.head _), fun q hq => .inr (List.mem_append_right [_, _, _, _] hq)⟩, fun h' A hh => ?_⟩
  have A2 : Apart [(D2, tupOf [.str (nmS nm) tk, .str (txt t f fl) t2]), (T.l, lstObj ((rows.map fun (r : Row) => Value.ref r.a) ++ [Value.ref D2]) (T.e + 1))] (tabRest T rows) := by
    obtain ⟨a1, a2⟩ := A
    exact ⟨a1.sublist (.cons_cons _ (.cons _ (.cons _ (.refl _)))), fun q hq => a2 q (List.Sublist.mem hq (.cons_cons _ (.cons _ (.cons _ (.refl _)))))⟩
  refine added_mk (e := T.e + 1) A2 (fun _ h => h) (fun q hq => hh q ?_) rfl
  rcases List.mem_append.mp hq with hq | hq
  · exact List.mem_append_left _ ((List.mem_cons.mp hq).elim (fun e => e ▸ .head _) fun hq => List.mem_singleton.mp hq ▸ .tail _ (.tail _ (.tail _ (.head _))))
  · exact List.mem_append_right _ hq
theorem P_add {T : TabZ} {rows : List Row} (hr : rows.length ≤ 1000) {nm t f fl : Nat} (ht : t ≤ 64) (hf : f ≤ 64) {tk tk2 : Tok} : ConL prog w p loose mean mg mb 331 [.ref T.t, .str (nmS nm) tk, .str (txt t f fl) tk2] 20 (fun _ => True) (tabLed T rows) [T.l]
    (fun s h' _ => ∃ rows', Put T rows rows' s h' ∧ rows'.map Row.ab = rows.map Row.ab ++ [(nm % 2, t, f, fl)]) := (c_add hr ht hf).mono fun _ _ _ h => put_added h
theorem P_addE {T : TabZ} {rows : List Row} (hr : rows.length ≤ 1000) {nm t f fl : Nat} (ht : t ≤ 64) (hf : f ≤ 64) {tk tk2 : Tok} (e : Nat) : ConL prog w p loose mean mg mb 331 [.ref T.t, .str (nmS nm) tk, .str (txt t f fl) tk2] 20 (fun _ => True) (tabLed { T with e := e } rows) [T.l]
    (fun s h' _ => ∃ rows', Put T rows rows' s h' ∧ rows'.map Row.ab = rows.map Row.ab ++ [(nm % 2, t, f, fl)]) := P_add (T := { T with e := e }) hr ht hf
noncomputable def Cut (T : TabZ) (rows : List Row) (nm : Nat) (h' : Heap) : Prop := ∃ e, h'.get? T.l = some (lstObj ((rows.filter fun r => !(r.nm % 2 == nm % 2)).map fun r => .ref r.a) e)
end
section
variable {prog : Program} {w : World} {p : Program} {loose : List Str} {mean : ExcName → Option Value} {mg mb : Str → Option Value} {f : Addr} {vs : List Value} {n : Nat} {H : Heap → Prop} {led : List (Addr × Obj)} {ch : List Addr}
theorem map_cut (rows : List Row) (nm : Nat) : (rows.filter fun r => !(r.nm % 2 == nm % 2)).map Row.ab = (rows.map Row.ab).filter fun a => !(a.1 == nm % 2) := by
  rw [List.filter_map]; rfl
theorem put_cut {T : TabZ} {rows : List Row} {nm : Nat} {s h' : Heap} (h : Cut T rows nm h') : ∃ rows', Put T rows rows' s h' ∧ rows'.map Row.ab = (rows.map Row.ab).filter fun a => !(a.1 == nm % 2) := by
  obtain ⟨e, h⟩ := h
  exact ⟨_, ⟨e, h, fun r hr => .inl (List.mem_filter.mp hr).1⟩, map_cut _ _⟩
end
section
variable {c : Cg} {g : Sg}
theorem wp_delOwn {o i : PySem.Expr} {p pos : Pos} {k : Kt Flow} (h : Wp c (eval o (ev c)) g fun ov g => Wp c (eval i (ev c)) g fun iv g => Wp c (delItem ov iv) g fun _ g => k .next g) : Wp c (exec (.Delete [.Subscript o i p] pos) (ev c)) g k :=
  ⟨fun O H s Q S q => wpAny_Delete (wpAny_deleteEach_cons (PyProof.Rows.delete_Subscript (h.run O H s _ S fun _ h1 tk1 g1 S1 k1 => k1.run O H _ _ S1 fun _ h2 tk2 g2 S2 k2 => k2.run O H _ _ S2 fun _ h3 tk3 g3 S3 k3 => wpAny_deleteEach_nil (q _ _ _ _ S3 k3))))⟩
end
section
variable {M : Model} {A : Around} {E : Value → Shared → Prop} {s : Shared} {K : Frag} {x C L f : Addr} {h₀ : Heap} {m : Str → Option Value} {ox : Obj} {od : Option Obj} {i : Value}
theorem own_delItem {Q : Unit → Shared → Prop} (F : Fr h₀ L s.heap m) (X₀ : K.In h₀) (I : InstAt s.heap x ox C od) (hq : noSeq K C = true) (hs : findIn K (.ref C) "__delitem__" = some (some (.ref f))) (hf : isFn K (.ref f) = true)
    (h : wpAny M A (call (.ref f) [.ref x, i]) (fun _ s' => Q () s') E s) : wpAny M A (delItem (.ref x) i) Q E s := by
  have X := X₀.keeps F.keep
  unfold delItem sequenceKey
  refine wpAny_holding (wpAny_bind (wpAny_bind (I.type.here ?_)))
  refine wpAny_bind ((anyM_none X hq).here ?_)
  rw [if_pos (show (!false) = true from rfl)]
  exact wpAny_pure (wpAny_bind (special_fn X I hs (beq_iff_eq.mp hf) (wpAny_mono h (fun _ _ z => wpAny_pure z) fun _ _ z => z)))
end
section
variable {c : Cg} {g : Sg}
theorem wp_delI {x d C n f : Nat} {es : List DictEntry} {iv : Value} {k : Kt Unit} (hx : (x, instObj C d) ∈ g.o ++ (g.t ++ c.ex)) (hD : (d, dictOf es n) ∈ g.o ++ (g.t ++ c.ex)) (hq : ∀ P, (noSeq (hd.heap_39 P) C && isFn (hd.heap_39 P) (.ref f)) = true) (hs : ∀ P, findIn (hd.heap_39 P) (.ref C) "__delitem__" = some (some (.ref f)))
    (h : Wp c (call (.ref f) [.ref x, iv]) g fun _ g => k () g) : Wp c (delItem (.ref x) iv) g k :=
  ⟨fun O H s Q S q => by
    obtain ⟨a, b⟩ := Bool.and_eq_true_iff.mp (hq c.w.params)
    exact own_delItem S.fr O.X (S.inst hx hD) a (hs _) b (h.run O H s _ S fun _ h' tk' g' S' k' => q _ _ _ _ S' k')⟩
end
section
variable {prog : Program} {w : World} {p : Program} {loose : List Str} {mean : ExcName → Option Value} {mg mb : Str → Option Value}
theorem nm_mod (nm : Nat) : nmS nm = nmS (nm % 4) := by unfold nmS; rw [Nat.mod_mod]
theorem nm_lower (nm : Nat) : Txt.lower (nmS nm) = nmS (nm % 2) := by
  have h : ∀ i, i < 4 → Txt.lower (nmS i) = nmS (i % 2) := by decide +kernel
  rw [nm_mod, h _ (Nat.mod_lt _ (by decide)), Nat.mod_mod_of_dvd _ (by decide)]
theorem nm_short (nm : Nat) : Builtin.Str.tooLong (Txt.lower (nmS nm)).length = false := by
  have h : ∀ i, i < 2 → Builtin.Str.tooLong (nmS i).length = false := by decide +kernel
  rw [nm_lower]
  exact h _ (Nat.mod_lt _ (by decide))
end
theorem lowerT {prog : Program} {w : World} {A : Around} {E : Value → Shared → Prop} {s : Shared} {x y : Str} {t : Tok} {Q : Value → Shared → Prop} (e : Txt.lower x = y) (hf : PySem.Builtin.Str.tooLong (Txt.lower x).length = false) (h : Q (.str y s.toks) { s with toks := s.toks + 1 }) :
    wpAny (model prog w) A (call (.builtin "str.lower") [.str x t]) Q E s := SC.lower hf (by rw [e]; exact h)
section
variable {c : Cg} {g : Sg}
noncomputable def Sg.flo (g : Sg) (b : Nat) : Sg := ⟨g.m, g.o, g.t, b⟩
theorem wp_lower {x y : Str} {t : Tok} {k : Kt Value} (e : Txt.lower x = y) (hf : PySem.Builtin.Str.tooLong (Txt.lower x).length = false) (h : ∀ t, g.b ≤ t → k (.str y t) (g.flo (t + 1))) : Wp c (call (.builtin "str.lower") [.str x t]) g k :=
  ⟨fun _ H s Q ⟨cs, z⟩ q => lowerT e hf (q _ _ _ (g.flo (s.toks + 1)) ⟨cs, z.F, z.Y, z.N, z.P, Nat.le_refl _⟩ (h _ z.b))⟩
noncomputable def slcObj : Obj := { cls := .type "slice", data := .fields #[.none, .none, .none] }
theorem wp_sliceV {sp : Pos} {k : Kt Value} (h : ∀ D, k (.ref D) (g.push D slcObj)) : Wp c (eval (.Slice none none none sp) (ev c)) g k :=
  ⟨fun O H s Q ⟨cs, x⟩ q => wpAny_Slice (evalPart_none_step (evalPart_none_step (evalPart_none_step (q _ _ s.toks _ (St.pushN ⟨cs, x, rfl⟩ (x.F.push _) (x.N.push x.F _) (fun p hp => Heap.lt_size (x.N p hp).1) x.b) (h _)))))⟩
end
section
variable {prog : Program} {w : World} {A : Around} {E : Value → Shared → Prop} {s : Shared}
theorem setItem_list_all {l sl D : Addr} {items new : Array Value} {n : Nat} {Q : Unit → Shared → Prop} (ho : s.heap.get? l = some (W.listOf items n)) (hD : s.heap.IsList D new) (hne : l ≠ D) (hs : s.heap.IsSliceOf sl .none .none .none) (hsz : items.size + new.size ≤ 2000)
    (hQ : ∀ h' n', Heap.SameBut l s.heap h' → h'.get? l = some (W.listOf new n') → Q () { s with heap := h' }) : wpAny (model prog w) A (setItem (.ref l) (.ref sl) (.ref D)) Q E s := by
  have hl : s.heap.IsList l items := ⟨_, ho, rfl, n, rfl⟩
  obtain ⟨oD, hoD, hcD, nD, hdD⟩ := id hD
  obtain ⟨os, hos, hcs, hds⟩ := id hs
  have hTs : s.TypeIs (.ref sl) "slice" := ⟨os, hos, hcs⟩
  unfold setItem
  try with_reducible refine wpAny_holding ?_
  first | refine wpAny_bind (wpAny_pure ?_) | skip
  refine wpAny_bind (wpAny_sequenceKey hl.typeIs (by decide) ?_)
  refine wpAny_bind (wpAny_callSpecial?_slot (name := Str.ofString "__setitem__") hl.typeIs slot_list_setitem
    (wpAny_call_entry slot_list_setitem hl.typeIs entry_list_setitem ?_ (args_list_setitem _ _ _)))
  show wpAny _ _ (Builtin.List.listSubscript? (.ref sl) >>= _) _ _ s
  refine wpAny_bind ?_
  unfold Builtin.List.listSubscript?
  refine wpAny_bind (wpAny_specialOf hTs slice_no_index ?_)
  simp only [Option.isNone_none, if_true]
  refine wpAny_pure ?_
  show wpAny _ _ (typeOf (.ref sl) >>= _) _ _ s
  refine wpAny_bind (wpAny_typeOf hTs ?_)
  rw [if_neg (by decide)]
  rw [listSliceParts_eq]
  refine wpAny_bind (wpAny_bind (wpAny_field hos hds (x := .none) rfl (wpAny_bind (wpAny_listPart .none ?_))))
  rw [if_neg (show ¬ ((rawPart none == rawInt 0) = true) from Bool.false_ne_true)]
  refine wpAny_bind (wpAny_field hos hds (x := .none) rfl (wpAny_bind (wpAny_listPart .none ?_)))
  refine wpAny_bind (wpAny_field hos hds (x := .none) rfl (wpAny_bind (wpAny_listPart .none (wpAny_pure ?_))))
  have hsr : Builtin.List.listSameRef (.ref l) (.ref D) = false := beq_eq_false_iff_ne.mpr hne
  rw [hsr, if_neg Bool.false_ne_true]
  refine wpAny_bind (m := Builtin.List.listAllItems (.ref D) _) ?_
  unfold Builtin.List.listAllItems
  refine wpAny_bind (wpAny_typeOf hD.typeIs ?_)
  rw [if_pos (by decide)]
  unfold Builtin.List.listItems
  refine wpAny_bind (wpAny_seqItems hoD hdD (wpAny_pure ?_))
  refine wpAny_bind (wpAny_bind (wpAny_seqItems ho rfl (wpAny_pure ?_)))
  refine wpAny_bind (wpAny_of_eq (sliceIndices_raw none none none items.size (by simp)) ?_)
  have e : sliceBounds none none none items.size = (((0 : Nat) : Int), (items.size : Int), 1) := by
    simp [sliceBounds]
  rw [e]
  dsimp only
  rw [if_pos (by decide)]
  refine wpAny_bind (wpAny_rule ?_)
  have htl : Builtin.List.listTooLong (items.size + new.size) = false := by
    unfold Builtin.List.listTooLong
    rw [decide_eq_false_iff_not, Nat.not_lt]
    exact Nat.le_trans hsz (by decide)
  rw [htl, if_neg Bool.false_ne_true]
  have hf : (items.extract 0 (((0 : Nat) : Int)).toNat ++ new ++ items.extract (max (((0 : Nat) : Int)) (items.size : Int)).toNat items.size) = new := by
    have : (max (((0 : Nat) : Int)) (items.size : Int)).toNat = items.size := by omega
    rw [this]
    simp
  refine wpAny_bind (wpAny_updateSeq ho rfl ?_ (Nat.le_trans (Nat.le_trans (Nat.le_add_right _ _) hsz) (by decide)) (by rw [hf]; exact Nat.le_trans (Nat.le_trans (Nat.le_add_left _ _) hsz) (by decide)))
  refine wpAny_bind (wpAny_letGo ?_)
  have q := PySem.IsL.update ho fun xs => xs.extract 0 (((0 : Nat) : Int)).toNat ++ new ++ xs.extract (max (((0 : Nat) : Int)) (items.size : Int)).toNat
  rw [hf] at q
  exact wpAny_pure ⟨.none, rfl, wpAny_pure (hQ _ _ (Heap.SameBut.update ..) q)⟩
end
section
variable {c : Cg} {g : Sg}
theorem apart_ne {a T : Nw} (A : Apart a T) {i j : Nat} {p q : Addr × Obj} (hi : a[i]? = some p) (hj : a[j]? = some q) (hne : i ≠ j) : p.1 ≠ q.1 := by
  have h1 := A.1
  rw [List.pairwise_iff_getElem] at h1
  obtain ⟨i1, rfl⟩ := List.getElem?_eq_some_iff.mp hi
  obtain ⟨j1, rfl⟩ := List.getElem?_eq_some_iff.mp hj
  rcases Nat.lt_or_gt_of_ne hne with h | h
  · exact Ne.symm (h1 i j i1 j1 h)
  · exact h1 j i j1 i1 h
theorem wp_setAll {i j l D sl : Nat} {its : Array Value} {vs : List Value} {n e : Nat} {k : Kt Unit} (hi : g.o[i]? = some (l, W.listOf its n)) (hj : g.o[j]? = some (D, lstObj vs e)) (hne : i ≠ j) (hs : (sl, slcObj) ∈ g.o ++ (g.t ++ c.ex)) (hz : its.size + vs.length ≤ 2000)
    (h : ∀ n', k () (g.upd i l (W.listOf vs.toArray n'))) : Wp c (setItem (.ref l) (.ref sl) (.ref D)) g k :=
  ⟨fun O H s Q S q => by
    obtain ⟨cs, news, gg, y, N, U, back⟩ := S.upd hi
    obtain ⟨pre, post, e1, e2, e3, e4⟩ := U.split
    have hP : Apart g.o (g.t ++ c.ex) := by
      have := y.P.1
      rw [List.pairwise_append, List.pairwise_append] at this
      exact ⟨this.2.1.2.1, fun p hp => y.P.2 p (List.mem_append_right _ (List.mem_append_right _ hp))⟩
    have z := N (l, W.listOf its n) (by rw [e1]; exact List.mem_append_right _ (.head _))
    refine setItem_list_all (items := its) (new := vs.toArray) (n := n) z.1 ⟨_, (S.mem (List.mem_append_left _ (List.mem_of_getElem? hj))).1, rfl, _, rfl⟩ (apart_ne hP hi hj hne) ⟨_, (S.mem hs).1, rfl, rfl⟩ (by rw [List.size_toArray]; exact hz) fun h' n' hsb ho' => ?_
    refine q _ _ s.toks _ (back _ h' _ (y.F.change hsb z.2.1 z.2.2) ?_ y.b) (h n')
    rw [e2]
    intro p hp
    have off : p.1 ≠ l → p ∈ news → h'.get? p.1 = some p.2 ∧ p.1 ≠ c.L ∧ c.h₀.get? p.1 = none := fun hl hm => ⟨(hsb.2 _ hl).trans (N p hm).1, (N p hm).2⟩
    rcases List.mem_append.mp hp with hp | hp
    · exact off (e3 p hp) (by rw [e1]; exact List.mem_append_left _ hp)
    · rcases List.mem_cons.mp hp with rfl | hp
      · exact ⟨ho', z.2⟩
      · exact off (e4 p hp) (by rw [e1]; exact List.mem_append_right _ (.tail _ hp))⟩
theorem wp_itemT {value slice : PySem.Expr} {D : Addr} {vs : List Value} {n j : Nat} {i : Int} {t : Tok} {v : Value} {k : Kt Value} (hm : (D, { cls := .type "tuple", data := .seq vs.toArray n }) ∈ g.o ++ (g.t ++ c.ex)) (hlo : -(2 ^ 63) ≤ i) (hhi : i < 2 ^ 63) (hj : seqIndex? i vs.length = some j) (hx : vs[j]? = some v) (h : k v g)
    (hs : subscripted slice false (.ref D) (.int i t) = operate [.ref D, .int i t] (getItem (.ref D) (.int i t)) := by rfl) : Wp c (subscriptTail value slice (.ref D) (.int i t)) g k :=
  ⟨fun _ H s Q S q => item_tupleT (News.isTup S.news hm) hlo hhi hj hx (q _ _ s.toks _ S h) hs⟩
theorem wp_nes {x y : Str} {t u : Tok} {k : Kt Value} (h : k (.bool (x != y)) g) : Wp c (compareOp .NotEq (.str x t) (.str y u)) g k := Wp.pure' (fun _ _ q => PyProof.Rows.ne_str q) h
end
section
variable {prog : Program} {w : World} {p : Program} {loose : List Str} {mean : ExcName → Option Value} {mg mb : Str → Option Value}
theorem c_delM {T : TabZ} {rows : List Row} (hr : rows.length ≤ 1000) {nm : Nat} {tk : Tok} : ConL prog w p loose mean mg mb 254 [.ref T.t, .str (nmS nm) tk] 20 (fun _ => True) (tabLed T rows) [T.l] (fun s h' r => Cut T rows nm h') := by
  refine conW_cells (binds := [("self", .ref T.t), ("name", .str (nmS nm) tk)]) [tabHead T rows] (tabRest T rows) (fun _ => rfl) (fun _ => rfl) (fun s => BindsTo.of_eq rfl) (fun c s₀ R l => vbody 30 ?_) tab_apart (fun q hq => hq) (by rfl) (by decide) (fun _ => rfl) (by rfl) (by rfl) (by rfl)
  refine wp_methK rfl rfl (vexpr 4 ?_)
  refine wp_method (mem_at 1 rfl) (mem_at 2 rfl) rfl (fun _ => rfl) (fun _ => rfl) ?_
  refine ⟨fun _ => rfl, vexpr 8 ?_⟩
  refine wp_lower (nm_lower nm) (nm_short nm) fun u _ => ?_
  refine wp_conK (c_convN (nm_good _) (by rw [nm_size]; decide)) (R.le rfl) ?_
  refine wp_asgS (by with_unfolding_all rfl) (wp_compL (ax := T.l) (vs := rows.map fun r => .ref r.a) (l := T.e) (Inv := fun i ys o => o = [tabHead T rows] ∧ ys = ((rows.take i).filter fun r => !(r.nm % 2 == nm % 2)).map fun r => .ref r.a) (by with_unfolding_all rfl) (by decide) (by decide) ⟨rfl, rfl⟩ (fun _ => rfl) (vexpr 8 (wp_own (mem_at 1 rfl) (mem_at 2 rfl) rfl (fun _ => rfl) (fun _ => rfl) rfl ⟨rfl, rfl⟩)) (by rw [List.length_map]; exact hr) ⟨rfl, rfl⟩ (fun i ys o h => mem_at 0 (by rw [h.1]; rfl)) ?_ ?_)
  · rintro i v ys o I oI C oC D m₂ hv ⟨rfl, rfl⟩ hC hx
    rw [List.getElem?_map] at hv
    obtain ⟨r, hr', rfl⟩ := Option.map_eq_some_iff.mp hv
    have hm : (r.a, ({ cls := .type "tuple", data := .seq [Value.str (nmS r.nm) r.k1, .str (txt r.t r.f r.fl) r.k2].toArray r.n } : Obj)) ∈ tabRest T rows := .tail _ (.tail _ (List.mem_map_of_mem (f := Row.obj) (List.mem_of_getElem? hr')))
    have ec := take_filter (fun r => !(r.nm % 2 == nm % 2)) hr'
    refine TurnC.by (.loc (ext := []) (.tail _ (.head _)) hC hx rfl (by decide) rfl ⟨rfl, rfl⟩ (by repeat' (first | exact List.forall_mem_nil _ | refine List.forall_mem_cons.mpr ⟨.inr ⟨rfl, rfl⟩, ?_⟩))) 12 ?_
    intro t1
    refine wp_itemT (List.mem_append_right _ (List.mem_append_left _ hm)) (by decide) (by decide) rfl rfl ?_
    refine wp_lower (nm_lower _) (nm_short _) fun u2 _ => ?_
    refine wp_nes ?_
    have hq : (nmS (r.nm % 2) != nmS (nm % 2)) = !(r.nm % 2 == nm % 2) := congrArg (!·) (nm_beq (Nat.mod_lt _ (by decide)) (Nat.mod_lt _ (by decide)))
    refine bif_mk (fun h => ?_) fun h => ?_
    · exact ⟨⟨rfl, rfl⟩, rfl, by rw [ec, if_pos (hq.symm.trans h), List.map_append]; rfl⟩
    · exact ⟨⟨rfl, rfl⟩, rfl, by rw [ec, if_neg (by rw [hq.symm.trans h]; decide)]⟩
  · rintro D ys o ⟨rfl, rfl⟩
    refine vexpr 8 ?_
    refine wp_own (mem_at 2 rfl) (mem_at 3 rfl) rfl (fun _ => rfl) (fun _ => rfl) rfl ?_
    refine wp_sliceV fun sl => ?_
    refine wp_setAll (i := 2) (j := 1) rfl rfl (by decide) (mem_at 0 rfl) ?_ fun n' => ?_
    · rw [List.size_toArray, List.length_map, List.length_map]
      exact Nat.add_le_add hr (Nat.le_trans (List.length_filter_le _ _) (Nat.le_trans (List.length_take_le' _ _) hr))
    rw [List.length_map, List.take_length]
    exact ⟨List.forall_mem_cons.mpr ⟨.inl (.head _), fun q hq => .inr (.tail _ (.tail _ (.tail _ hq)))⟩, fun h' A hh => ⟨n', (hh _ (.tail _ (.tail _ (.head _)))).1⟩⟩
end
section
variable {c : Cg} {g : Sg}
theorem wp_cutT {T : TabZ} {rows : List Row} {nm n : Nat} {fa : Addr} {vs : List Value} {k : Kt Value} (C : ConL c.prog c.w c.p c.loose c.mean c.mg c.mb fa vs n (fun _ => True) (tabLed T rows) [T.l] (fun s h' _ => Cut T rows nm h')) (R : Room c n) (i : Nat) (hi : g.o[i]? = some (tabHead T rows)) (hN : ∀ q ∈ tabRest T rows, q ∈ g.o ++ (g.t ++ c.ex))
    (h : ∀ v e, k v (g.upd i T.l (lstObj ((rows.filter fun r => !(r.nm % 2 == nm % 2)).map fun r => .ref r.a) e))) : Wp c (call (.ref fa) vs) g k :=
  wp_conU C R hi (List.forall_mem_cons.mpr ⟨List.mem_append_left _ (List.mem_of_getElem? hi), hN⟩) fun v _ _ _ ⟨e, he⟩ => ⟨[], _, fun _ h => (nomatch h), he, h v e⟩
end
section
variable {prog : Program} {w : World} {p : Program} {loose : List Str} {mean : ExcName → Option Value} {mg mb : Str → Option Value}
theorem c_delF {T : TabZ} {rows : List Row} (hr : rows.length ≤ 1000) {nm : Nat} {tk : Tok} : ConL prog w p loose mean mg mb 168 [.ref T.t, .str (nmS nm) tk] 24 (fun _ => True) (tabLed T rows) [T.l] (fun s h' r => Cut T rows nm h') := by
  refine conW (binds := [("a", .ref T.t), ("b", .str (nmS nm) tk)]) [tabHead T rows] (tabRest T rows) (fun _ => rfl) (fun _ => rfl) (fun s => BindsTo.of_eq rfl) (fun c s₀ R l => vbody 20 ?_) tab_apart (fun q hq => hq) (by rfl) (by rfl)
  refine wp_delOwn (vexpr 4 (vexpr 4 ?_))
  refine wp_delI (mem_at 1 rfl) (mem_at 2 rfl) (fun _ => rfl) (fun _ => rfl) ?_
  refine wp_cutT (c_delM hr) (R.le rfl) 0 rfl (fun q hq => in_all (.tail _ hq)) fun v e => ?_
  exact ⟨List.forall_mem_cons.mpr ⟨.inl (.head _), fun q hq => .inr (.tail _ hq)⟩, fun h' _ hh => ⟨e, (hh _ (.head _)).1⟩⟩
theorem P_del {T : TabZ} {rows : List Row} (hr : rows.length ≤ 1000) {nm : Nat} {tk : Tok} : ConL prog w p loose mean mg mb 168 [.ref T.t, .str (nmS nm) tk] 24 (fun _ => True) (tabLed T rows) [T.l]
    (fun s h' _ => ∃ rows', Put T rows rows' s h' ∧ rows'.map Row.ab = (rows.map Row.ab).filter fun a => !(a.1 == nm % 2)) := (c_delF hr).mono fun _ _ _ h => put_cut h
noncomputable def sameN (nm : Nat) (r : Row) : Bool := r.nm % 2 == nm % 2
noncomputable def valR (r : Row) : Value := .str (txt r.t r.f r.fl) r.k2
noncomputable def notLess (tf : Nat × Nat) (r : Row) : Bool := !lessB r.t r.f tf.1 tf.2
theorem layA_hit {rows : List Row} {nm t f fl : Nat} {r : Row} (hr : r ∈ rows.filter (sameN nm)) (h : (equalB t f r.t r.f || lessB t f r.t r.f) = true) : rows.map Row.ab = layA (rows.map Row.ab) (nm % 2, t, f, fl) := by
  have : (rows.map Row.ab).any (fun a => a.1 == nm % 2 && (equalB t f a.2.1 a.2.2.1 || lessB t f a.2.1 a.2.2.1)) = true := by
    rw [List.any_eq_true]
    obtain ⟨h1, h2⟩ := List.mem_filter.mp hr
    refine ⟨r.ab, List.mem_map_of_mem h1, ?_⟩
    show (r.nm % 2 == nm % 2 && (equalB t f r.t r.f || lessB t f r.t r.f)) = true
    rw [h, Bool.and_true]
    exact h2
  unfold layA
  rw [if_pos this]
theorem layA_miss {rows : List Row} {nm t f fl : Nat} (h : ∀ r ∈ rows.filter (sameN nm), (equalB t f r.t r.f || lessB t f r.t r.f) = false) :
    layA (rows.map Row.ab) (nm % 2, t, f, fl) = ((rows.map Row.ab).filter fun a => !(a.1 == nm % 2)) ++ ((rows.filter (sameN nm)).filter (notLess (t, f))).map Row.ab ++ [(nm % 2, t, f, fl)] := by
  have : ¬ (rows.map Row.ab).any (fun a => a.1 == nm % 2 && (equalB t f a.2.1 a.2.2.1 || lessB t f a.2.1 a.2.2.1)) = true := by
    rw [List.any_eq_true]
    rintro ⟨a, ha, hc⟩
    obtain ⟨r, hr, rfl⟩ := List.mem_map.mp ha
    rw [Bool.and_eq_true] at hc
    have := h r (List.mem_filter.mpr ⟨hr, hc.1⟩)
    rw [show (equalB t f r.t r.f || lessB t f r.t r.f) = true from hc.2] at this
    cases this
  unfold layA
  rw [if_neg this, List.filter_filter, List.filter_map (p := fun a : Ab => a.1 == nm % 2 && !lessB a.2.1 a.2.2.1 t f)]
  congr 3
  refine List.filter_congr fun r _ => ?_
  show (r.nm % 2 == nm % 2 && !lessB r.t r.f t f) = (!lessB r.t r.f t f && (r.nm % 2 == nm % 2))
  exact Bool.and_comm _ _
end
section
variable {c : Cg} {g : Sg}
theorem wp_conN {α : Type} {f : α → Value} {L : α → Nw} {fa : Addr} {vs : List Value} {n : Nat} {led : Nw} {k : Kt Value} (C : ConL c.prog c.w c.p c.loose c.mean c.mg c.mb fa vs n (fun _ => True) led [] (fun s h' r => ∃ x, r = f x ∧ NewIn s h' (L x))) (R : Room c n) (hN : ∀ q ∈ led, q ∈ g.o ++ (g.t ++ c.ex))
    (h : ∀ x, k (f x) (g.read (L x))) : Wp c (call (.ref fa) vs) g k := wp_con C R hN fun r _ _ _ ⟨x, e, hn⟩ => ⟨_, hn, e ▸ h x⟩
theorem wp_val {fa : Addr} {vs : List Value} {n : Nat} {led : Nw} {v : Value} {k : Kt Value} (C : ConL c.prog c.w c.p c.loose c.mean c.mg c.mb fa vs n (fun _ => True) led [] (fun _ _ r => r = v)) (R : Room c n) (hN : ∀ q ∈ led, q ∈ g.o ++ (g.t ++ c.ex)) (h : k v g) : Wp c (call (.ref fa) vs) g k :=
  wp_con C R hN fun r _ _ _ e => ⟨[], fun _ h => (nomatch h), e ▸ h⟩
end
section
variable {prog : Program} {w : World} {p : Program} {loose : List Str} {mean : ExcName → Option Value} {mg mb : Str → Option Value}
theorem codes_cons (fl : Nat) (h1 : 1 ≤ fl) (h7 : fl ≤ 7) : ∃ c r, codes fl = c :: r ∧ (c :: r).all (· < 128) = true ∧ c ≠ 9 ∧ c ≠ 32 := by
  have h : fl = 1 ∨ fl = 2 ∨ fl = 3 ∨ fl = 4 ∨ fl = 5 ∨ fl = 6 ∨ fl = 7 := by omega
  rcases h with rfl | rfl | rfl | rfl | rfl | rfl | rfl <;> exact ⟨_, _, rfl, by decide, by decide, by decide⟩
end
theorem ConL.con {prog : Program} {w : World} {p : Program} {loose : List Str} {mean : ExcName → Option Value} {mg mb : Str → Option Value} {f : Addr} {vs : List Value} {n : Nat} {H : Heap → Prop} {ch : List Addr} {P : Heap → Heap → Value → Prop} (C : ConL prog w p loose mean mg mb f vs n H [] ch P) : Con prog w p loose mean mg mb f vs n H ch P :=
  fun dp un gd cn cs a ccd cl outer A₀ base h₀ L m s Q E B F X T hk hd hu hH _ q => C dp un gd cn cs a ccd cl outer A₀ base h₀ L m s Q E B F X T hk hd hu hH (fun _ q => nomatch q) q
theorem call_cls' {prog : Program} {w : World} {A : Around} {E : Value → Shared → Prop} {s : Shared} {K : Frag} {C L : Addr} {h₀ : Heap} {m : Str → Option Value} {Q : Value → Shared → Prop}
    {pos : List Value} {kw : List (Str × Value)} {fI : Addr} (F : Fr h₀ L s.heap m) (X₀ : K.In h₀) (hm : makesIn K C = true) (hi : findIn K (.ref C) "__init__" = some (some (.ref fI))) (hf : isFn K (.ref fI) = true)
    (h : ∀ x dx h', Fr h₀ L h' m → News h₀ L h' [(x, instObj C dx), (dx, dictOf [] 0)] → Kept [L] s.heap h' → s.heap.get? x = none → s.heap.get? dx = none → dx < x →
      codeAny (model prog w) (A.under (.builtin "type.__call__" ⟨.ref C :: pos, kw⟩)) (.call (.ref fI) ⟨.ref x :: pos, kw⟩) (InitBack x fun r s' => match r with | .ok (.ret v) => Q v s' | .ok _ => False | .error e => E e s') { s with heap := h' }) :
    wpAny (model prog w) A (call (.ref C) pos kw) Q E s := by
  refine call_cls F X₀ own_news hm hi hf fun x dx h' F' N' l1 l2 => ?_
  refine h x dx h' F' (fun p hp => N' p ?_) (ext_kept (news := [_, _]) F F' N') (own_fresh N' l1 (Nat.le_of_lt l2)) (own_fresh (fun p hp => N' p (.tail _ hp)) l1 (Nat.le_refl _)) l2
  rcases List.mem_cons.mp hp with rfl | hp
  · exact .head _
  · rw [List.mem_singleton.mp hp]; exact .tail _ (.head _)
theorem kept_init {s h1 h' g : Heap} {L L' x d : Addr} {o₁ o₂ : Obj} {m' : Str → Option Value} (hG : ∀ b o, b ∉ [(x, o₁), (d, o₂)].map (·.1) → h1.get? b = some o → g.get? b = some o) (k : Kept [L] s h1) (hx : s.get? x = none) (hd : s.get? d = none) (F : Fr g L' h' m') : Kept [L] s h' :=
  fun b o hb e => F.keep _ _ (hG b o (fun q => by
    simp only [List.map_cons, List.map_nil, List.mem_cons, List.not_mem_nil, or_false] at q
    rcases q with rfl | rfl
    · rw [hx] at e; cases e
    · rw [hd] at e; cases e) (k b o hb e))
theorem fresh_init {s h1 h' g h₀ : Heap} {L L' x d y : Addr} {o₁ o₂ o : Obj} {m : Str → Option Value} {news : List (Addr × Obj)} (hG : ∀ b o, b ∉ [(x, o₁), (d, o₂)].map (·.1) → h1.get? b = some o → g.get? b = some o) (k : Kept [L] s h1) (FG : Fr h₀ L g m) (N : News g L' h' news) (hm : (y, o) ∈ news) (hx : @Ne Nat y x) (hd : @Ne Nat y d) : s.get? y = none := by
  have hy := (N _ hm).2.2
  cases e : s.get? y with
  | none => rfl
  | some o' =>
    by_cases hL : y = L
    · subst hL
      obtain ⟨oL, a1, a2, hL, a3⟩ := FG.ns
      rw [hy] at hL; cases hL
    · have := hG y o' (by simp only [List.map_cons, List.map_nil, List.mem_cons, List.not_mem_nil, or_false, not_or]; exact ⟨hx, hd⟩) (k y o' (by simpa using hL) e)
      rw [hy] at this; cases this
section
variable {prog : Program} {w : World} {p : Program} {loose : List Str} {mean : ExcName → Option Value} {mg mb : Str → Option Value}
noncomputable def PostI (s₀ : Heap) (x : Addr) (P : Heap → Heap → Value → Prop) : Kt Flow := fun fl g =>
  retOf fl = .none ∧ ∀ h', (∀ q ∈ g.o ++ g.t, s₀.get? q.1 = none ∧ h'.get? q.1 = some q.2) → P s₀ h' (.ref x)
theorem conI {C fa : Addr} {vs : List Value} {n : Nat} {P : Heap → Heap → Value → Prop} {name qual : Str} {params : Arguments} {body : List Stmt} {scope : Scope} {dV kV doc pm cdv ct oc : Value} {an od : Option Addr} {osl : Array (Option Value)} {binds : Addr → List (Str × Value)}
    (hm : ∀ P, (makesIn (hd.heap_39 P) C && isFn (hd.heap_39 P) (.ref fa)) = true) (hi : ∀ P, findIn (hd.heap_39 P) (.ref C) "__init__" = some (some (.ref fa)))
    (ho : ∀ P, (hd.heap_39 P).lookup fa = some ⟨oc, od, .func (fnOf name qual params body scope dV kV doc pm an cdv ct), osl⟩) (hcd : ∀ P, codeIn (hd.heap_39 P) cdv qual = true)
    (hbind : ∀ P x s, (hd.heap_39 P).In s.heap → BindsTo s (fnOf name qual params body scope dV kV doc pm an cdv ct) ⟨.ref x :: vs, []⟩ (binds x))
    (h : ∀ (c : Cg) (s₀ : Heap) (x d : Addr), Room c n → Wp (c.fn scope []) (execs body (ev (c.fn scope []))) ⟨fun y => (binds x).reverse.lookup y, [(d, dictOf [] 0), (x, instObj C d)], [], 0⟩ (PostI s₀ x P))
    (hloc : ∀ x, ((binds x).all fun y => scope.names.lookup y.1 == some .local) = true)
    (hfl : (!scope.isCoroutine && (!scope.isGenerator && (decide (scope.kind = .function) && scope.names.all fun x => !(x.2 == .cell)))) = true) : ConL prog w p loose mean mg mb C vs (n + 2) (fun _ => True) [] [] P := by
  simp only [Bool.and_eq_true, Bool.not_eq_true', decide_eq_true_eq, List.all_eq_true, beq_eq_false_iff_ne] at hfl
  obtain ⟨f1, f2, f3, f4⟩ := hfl
  intro dp un gd cn cs a ccd cl outer A₀ base h₀ L m s Q E B F X T hkc hdp hun _ N hret
  obtain ⟨m1, m2⟩ := Bool.and_eq_true_iff.mp (hm w.params)
  refine call_cls' F X m1 (hi _) m2 fun x dx h' F' N' K1 hx hd' hlt => ?_
  have eA : (ktrTop dp un gd cn cs L a ccd cl outer).under (.builtin "type.__call__" ⟨.ref C :: vs, []⟩) = ktrTop (dp + 1) (un + 1) ((ktrTop dp un gd cn cs L a ccd cl outer).under (.builtin "type.__call__" ⟨.ref C :: vs, []⟩)).guards cn cs L a ccd cl outer := by kernel_rfl
  rw [eA]
  generalize ((ktrTop dp un gd cn cs L a ccd cl outer).under (.builtin "type.__call__" ⟨.ref C :: vs, []⟩)).guards = gd'
  refine enter_plain B F' X N' T rfl rfl hkc (ho _) (hcd _) (show dp + 1 < recursionLimit by omega) (hbind w.params x _ (X.keeps F'.keep)) (fun y hy => eq_of_beq (List.all_eq_true.mp (hloc x) y hy)) ?_ f1 f2 f3 f4
  intro g L' h1 FG F1 N1 B1 X1 T1 hG hG' hl
  refine body_run (s := { s with heap := h1, toks := _ }) (Cg.fn ⟨prog, w, p, loose, mean, mg, mb, dp + 2, un + 4, gd', qual, L', fa, cdv, envX cn cs L a ccd cl :: outer, _, base, g, scope, [], []⟩ scope []) rfl rfl ⟨B1, X1, T1, f3, List.nodup_nil⟩ (h _ s.heap x dx ⟨?_, ?_⟩) F1 (led := [(x, instObj C dx), (dx, dictOf [] 0)]) N1 ⟨.cons (fun q hq => ?_) (.cons (fun _ h => nomatch h) .nil), fun _ _ _ h => nomatch h⟩ ?_ (Nat.zero_le _) ?_
  · show dp + 2 + n < recursionLimit; omega
  · show un + 4 + 8 * n < cLine; omega
  · rw [List.mem_singleton.mp hq]; exact Ne.symm (Nat.ne_of_lt hlt)
  · exact fun q hq => (List.mem_cons.mp hq).elim (fun e => e ▸ .tail _ (.head _)) fun h => List.mem_singleton.mp h ▸ .head _
  · rintro fl h' tk' g' F2 N2 _ ⟨p1, p2⟩
    refine leaveK_ (m := m) F2 N2 fun F'' N'' => ⟨p1, ?_⟩
    refine hret _ _ _ F'' (kept_init hG K1 hx hd' F2) (p2 h' fun q hq => ⟨?_, (N2 q hq).1⟩)
    by_cases e1 : q.1 = x
    · rw [e1]; exact hx
    · by_cases e2 : q.1 = dx
      · rw [e2]; exact hd'
      · exact fresh_init hG K1 FG N2 hq e1 e2
end
section
variable {c : Cg} {g : Sg}
theorem lw_str {tgt : PySem.Expr} {body orelse : List Stmt} {x : Str} {t : Tok} {W : Nat → Sg → Prop} {k : Kt Flow} (hgo : isTupTgt tgt = false) (ha : x.cps.all (· < 128) = true) (h0 : W 0 g)
    (turn : ∀ j g v, j < x.cps.size → W j g → (∃ cp u, x.cps[j]? = some cp ∧ v = .str ⟨#[cp]⟩ u) → Wp c (assign tgt (ev c) v) g fun _ g => Wp c (execs body (ev c)) g (TurnW c W j k)) (fin : ∀ g, W x.cps.size g → Wp c (execs orelse (ev c)) g k) : Lw c (.str x t) tgt body orelse g k := by
  refine ⟨fun O H s Q S q => ?_⟩
  refine wpAny_pyIter_ascii ha ?_
  refine loop_core (c := c) (n := x.cps.size) (W := W) (val := fun j v => ∃ cp u, x.cps[j]? = some cp ∧ v = .str ⟨#[cp]⟩ u) (IA := fun _ j o => o.cls = .type "str_ascii_iterator" ∧ o.data = .fields #[.str x t, .int j 0])
    (fun I j o v s Q _ _ q => by rw [go_plain hgo]; exact wpAny_pure q) ?_ ?_ turn fin O H Q s.heap.objs.size x.cps.size 0 g { s with heap := s.heap.push { cls := .type "str_ascii_iterator", data := .fields #[.str x t, .int 0 0] } } _ (Nat.zero_add _) h0 ⟨rfl, rfl⟩ (S.hold (S.fr.push _) (fun b o e _ => Heap.get?_push_of_some _ e) (get_size _) (Heap.get?_push_size _ rfl)) q
  · intro j g H s I o Q hj hW hI S q
    have hI' := S.elim fun cs x => (x.N (I, o) (List.mem_append_left _ (List.mem_append_right _ (.head _)))).1
    refine wpAny_pyNext_ascii_item ⟨o, hI', hI⟩ (Array.getElem?_eq_getElem hj) fun h' ⟨o', ho', hI2⟩ hs => ?_
    exact q _ h' _ o' ⟨_, _, Array.getElem?_eq_getElem hj, rfl⟩ hI2 ho' (fun b o hb e => hs.extBut b o hb e) (Nat.le_succ _)
  · intro g H s I o Q hW hI S q
    have hI' := S.elim fun cs x => (x.N (I, o) (List.mem_append_left _ (List.mem_append_right _ (.head _)))).1
    refine wpAny_pyNext_ascii_end rfl ⟨o, hI', hI⟩ (Array.getElem?_eq_none (Nat.le_refl _)) fun h' hs => ?_
    exact q h' fun b o hb e => hs b o hb e
theorem upd_mid {d : Addr} {o o' : Obj} {post : Nw} : ∀ {pre : Nw}, (∀ p ∈ pre, p.1 ≠ d) → (∀ p ∈ post, p.1 ≠ d) → Upd d o o' (pre ++ (d, o) :: post) (pre ++ (d, o') :: post)
  | [], _, h2 => .head h2
  | _ :: _, h1, h2 => .tail (h1 _ (.head _)) (upd_mid (fun q hq => h1 q (.tail _ hq)) h2)
theorem wp_setA {i x d C n : Nat} {es : List DictEntry} {name : Str} {v : Value} {k : Kt Unit} (hx : (x, instObj C d) ∈ g.o ++ (g.t ++ c.ex)) (hi : g.o[i]? = some (d, dictOf es n)) (hl : (getL name es).isSome = true)
    (hk : ∀ P, (plainOver (hd.heap_39 P) C && hasDictIn (hd.heap_39 P) C) = true) (hs : ∀ P, findIn (hd.heap_39 P) (.ref C) "__setattr__" = some (some (.builtin "object.__setattr__"))) (ht : ∀ P, takerIn (hd.heap_39 P) C name = some none)
    (hz : ∀ t, (putL name (PyData.keyHash c.w.params name) (.str name t) v es).length ≤ 1000) (h : ∀ t, k () (g.upd i d (dictOf (putL name (PyData.keyHash c.w.params name) (.str name t) v es) (putN name es n)))) : Wp c (setAttr (.ref x) name v) g k :=
  Wp.leaf fun O H s Q S q => by
    obtain ⟨a, b⟩ := Bool.and_eq_true_iff.mp (hk c.w.params)
    obtain ⟨cs, news, gg, y, N, U, back⟩ := S.upd hi
    obtain ⟨pre, post, e1, e2, e3, e4⟩ := U.split
    subst e1
    exact set_dict y.F O.X N (S.inst hx (List.mem_append_left _ (List.mem_of_getElem? hi))) rfl (hs _) a (ht _) b hl rfl (upd_mid e3 e4) (hz _) fun h' F' N' => q _ _ _ _ (fun e => back _ _ _ F' (by rw [e2]; exact N') e) (h _)
theorem wp_asg3 {t₁ t₂ t₃ value : PySem.Expr} {pos : Pos} {env : Env} {k : Kt Flow} (h : Wp c (eval value env) g fun v g => Wp c (assign t₁ env v) g fun _ g => Wp c (assign t₂ env v) g fun _ g => Wp c (assign t₃ env v) g fun _ g => k .next g)
    (he : (assignEach [t₁, t₂, t₃] env).map (·.2) = [assign t₁ env, assign t₂ env, assign t₃ env] := by rfl) (hw : swappedStores [t₁, t₂, t₃] value env = pure none := by rfl) : Wp c (exec (.Assign [t₁, t₂, t₃] value pos) env) g k :=
  ⟨fun O H s Q S q => wpAny_Assign_three (h.run O H s _ S fun _ _ _ _ S1 k1 => k1.run O H _ _ S1 fun _ _ _ _ S2 k2 => k2.run O H _ _ S2 fun _ _ _ _ S3 k3 => k3.run O H _ _ S3 fun _ _ _ _ S4 k4 => q _ _ _ _ S4 k4) he hw⟩
theorem wp_asgT2 {elts : List PySem.Expr} {n : Nat} {tpos pos : Pos} {value : PySem.Expr} {x y : Str} {k : Kt Flow} (hs : swapsWithSole [.Tuple elts n tpos] value pos.line (ev c) = pure false) (hw : swappedStores [.Tuple elts n tpos] value (ev c) = pure (some [x, y]))
    (h : Wp c (eval value (ev c)) g fun v g => ∃ t a b, v = .ref t ∧ (t, tupOf [a, b]) ∈ g.o ++ (g.t ++ c.ex) ∧ Wp c (storeName (ev c) y b) g fun _ g => Wp c (storeName (ev c) x a) g fun _ g => k .next g) : Wp c (exec (.Assign [.Tuple elts n tpos] value pos) (ev c)) g k := by
  refine ⟨fun O H s Q S q => Assign_Tuple_swapped (h.run O H s _ S ?_) hs hw⟩
  rintro v h' tk' g' ⟨cs, z⟩ ⟨t, a, b, rfl, hm, hk⟩
  refine unpackItemsN_ (items := #[a, b]) z.F z.N ⟨_, (St.mem ⟨cs, z⟩ hm).1, rfl, 0, rfl⟩ rfl rfl fun h2 F2 N2 => ?_
  refine assignInOrder_cons (bindName_ (hk.run O H _ _ ⟨cs, F2, z.Y, N2, z.P, z.b⟩ fun _ _ _ _ S3 k3 => ?_))
  refine assignInOrder_cons (bindName_ (k3.run O H _ _ S3 fun _ _ _ _ S4 k4 => ?_))
  exact assignInOrder_nil (q _ _ _ _ S4 k4)
theorem wp_tupleL {l : Addr} {vs : List Value} {e : Nat} {k : Kt Value} (hm : (l, lstObj vs e) ∈ g.o ++ (g.t ++ c.ex)) (hz : vs.length ≤ 1000) (h : ∀ D, k (.ref D) (g.push D (tupOf vs))) : Wp c (call (.type "tuple") [.ref l]) g k :=
  ⟨fun _ H s Q S q => S.elim fun cs x => call_tuple_list ⟨_, (S.mem hm).1, rfl, _, rfl⟩ (fun h' hk => by
    have N1 : News c.h₀ c.L h' (cs ++ (H ++ g.o) ++ (g.t ++ c.ex)) := fun p hp => ⟨hk _ _ (x.N p hp).1, (x.N p hp).2⟩
    have F1 := x.F.keeps hk
    exact q _ _ s.toks _ (St.pushN ⟨cs, x, rfl⟩ (F1.push _) (N1.push F1 _) (fun p hp => Heap.lt_size (N1 p hp).1) x.b) (h _)) (by rw [List.size_toArray]; exact Nat.le_trans hz (by decide))⟩
theorem wp_mulL {l : Addr} {vs : List Value} {e : Nat} {x : Int} {u : Tok} {k : Kt Value} (hm : (l, lstObj vs e) ∈ g.o ++ (g.t ++ c.ex)) (hlo : -(2 ^ 63 : Int) ≤ x) (hhi : x < 2 ^ 63) {ws : List Value} (hz : vs.length * x.toNat ≤ 256) (he : (List.replicate x.toNat vs).flatten = ws) (h : ∀ D, k (.ref D) (g.push D (W.listOf ws.toArray 0))) : Wp c (binaryOp .Mult (.ref l) (.int x u)) g k :=
  ⟨fun O H s Q S q => S.elim fun cs z => KMa.mul z.F z.N ⟨_, (S.mem hm).1, rfl, _, rfl⟩ hlo hhi hz he fun D h' F' N' l => q _ h' s.toks _ (St.pushN ⟨cs, z, rfl⟩ F' N' l z.b) (h D)⟩
end
section
variable {prog : Program} {w : World} {A : Around} {E : Value → Shared → Prop} {s : Shared} {env : Env} {h₀ : Heap} {target : Expr} {body orelse : List Stmt} {Q : Flow → Shared → Prop}
theorem ItemsT.val {b : Nat} {ws : List (Addr × String)} {keep : List (Addr × Obj)} {v : Value} {r : List Itm} {m : Str → Option Value} {news : List (Addr × Obj)}
    (h : ∀ h tk, b ≤ tk → Fr h₀ env.locals h m → AllObj ws (fun its => News h₀ env.locals h (its ++ news) →
      wpAny (model prog w) A (assign target env v) (fun _ s₂ => wpAny (model prog w) A (execs body env) (UnrPostW h₀ env.locals { s with heap := h, toks := tk } its (fun m' n' => SubL keep n' ∧ ItemsT prog w A E h₀ env target body orelse Q s b ws keep r m' n') Q) E s₂) E { s with heap := h, toks := tk })) :
    ItemsT prog w A E h₀ env target body orelse Q s b ws keep (.val v :: r) m news := by
  intro u h' tk hb e F
  have e' : u = v := e
  subst e'
  exact h h' tk hb F
end
section
variable {c : Cg} {g : Sg}
theorem wp_cls {C : Addr} {name : Str} {mc a : Value} {expr : Bool} {k : Kt Value} (hm : ∀ P, typeIn (hd.heap_39 P) (.ref C) = some mc) (hr : ∀ P, readsIn (hd.heap_39 P) C mc = true) (e : ∀ P, findCls (hd.heap_39 P) (.ref C) mc name = some (.val a)) (hh : handedIn a = true) (h : k a g) : Wp c (getAttr (.ref C) name expr) g k :=
  ⟨fun O H s Q S q => cls_val S.fr O.X (hm _) (hr _) (e _) hh (q _ _ _ _ (S.toks' (Nat.le_succ _)) h)⟩
end
section
variable {prog : Program} {w : World} {p : Program} {loose : List Str} {mean : ExcName → Option Value} {mg mb : Str → Option Value}
structure WsX where
  k1 : Tok
  k2 : Tok
  k3 : Tok
  ch : Option Value
  K : Addr
  c : Tok
  e : Nat
noncomputable def wsN (n nt b : Nat) (x : WsX) : List (Str × Option Value) := [("b", some (.int (b : Int) x.k1)), ("count", some (.ref x.K)), ("nt", some (.int (nt : Int) x.k2)), ("n", some (.int (n : Int) x.k3)), ("ch", x.ch), ("S", some (.str " " 304)), ("T", some (.str "\t" 305))]
noncomputable def wsG (B : List (Str × Value)) (x d : Addr) (od : Obj) (n nt b : Nat) (X : WsX) : Sg := ⟨lay (wsN n nt b X) fun y => B.reverse.lookup y, [(X.K, W.listOf (cnt nt X.c).toArray X.e), (d, od), (x, instObj 100 d)], [], 0⟩
noncomputable def wsW (t f : Nat) (B : List (Str × Value)) (x d : Addr) (od : Obj) (j : Nat) (g : Sg) : Prop := j ≤ t + 4 * f ∧ ∃ X : WsX, g = wsG B x d od j (min j t) (j - t) X
noncomputable def wsO (hh : Int) (t1 : Tok) (v : Value) : Obj := dictOf [⟨hh, .str "raw" t1, v⟩] 1
theorem cnt_len (i : Nat) (c : Tok) : (cnt i c).length ≤ 1 := by cases i with | zero => exact Nat.zero_le _ | succ i => exact Nat.le_refl _
theorem txtL_at {t f c : Nat} {r : List Nat} {j : Nat} (h : j ≤ t + 4 * f) : (⟨(txtL t f (c :: r)).toArray⟩ : Str).cps[j]? = some (if j < t then 9 else if j < t + 4 * f then 32 else c) := by
  show (txtL t f (c :: r)).toArray[j]? = _
  rw [List.getElem?_toArray]
  unfold txtL
  by_cases h1 : j < t
  · rw [List.getElem?_append_left (by simpa using h1), if_pos h1, List.getElem?_replicate, if_pos h1]
  · rw [List.getElem?_append_right (by simpa using Nat.le_of_not_lt h1), if_neg h1, List.length_replicate]
    by_cases h2 : j < t + 4 * f
    · rw [List.getElem?_append_left (by rw [List.length_replicate]; omega), if_pos h2, List.getElem?_replicate, if_pos (by omega)]
    · rw [List.getElem?_append_right (by rw [List.length_replicate]; omega), if_neg h2, List.length_replicate, show j - t - 4 * f = 0 by omega]; rfl
theorem txtL_size {t f c : Nat} {r : List Nat} : t + 4 * f < (⟨(txtL t f (c :: r)).toArray⟩ : Str).cps.size := by
  show _ < (txtL t f (c :: r)).toArray.size
  simp [txtL]
theorem c_wsV {t f c : Nat} {r : List Nat} {tk : Tok} (hr : (c :: r).all (· < 128) = true) (hc1 : c ≠ 9) (hc2 : c ≠ 32) : ConL prog w p loose mean mg mb 100 [.str ⟨(txtL t f (c :: r)).toArray⟩ tk] 4 (fun _ => True) [] [] (fun s h' r => ∃ x z, r = .ref x ∧ NewIn s h' (wsLed t f x z)) := by
  have q4 : ((⟨#[c]⟩ : Str) == Str.ofString " ") = false := by
    rw [show Str.ofString " " = (⟨#[32]⟩ : Str) from by decide +kernel]; simp [hc2]
  have q5 : ((⟨#[c]⟩ : Str) == Str.ofString "\t") = false := by
    rw [show Str.ofString "\t" = (⟨#[9]⟩ : Str) from by decide +kernel]; simp [hc1]
  refine conI (binds := fun x => [("self", .ref x), ("ws", .str ⟨(txtL t f (c :: r)).toArray⟩ tk)]) (fun _ => rfl) (fun _ => rfl) (fun _ => rfl) (fun _ => rfl) (fun _ x s _ => BindsTo.of_eq rfl) (fun cc s₀ x d R => vbody 40 ?_) (fun _ => rfl) (by rfl)
  refine wp_setA (i := 0) (mem_at 1 rfl) rfl rfl (fun _ => rfl) (fun _ => rfl) (fun _ => rfl) (fun _ => Nat.le_of_ble_eq_true rfl) fun t1 => ?_
  refine wp_asgT2 rfl rfl (vexpr 12 ?_)
  refine wp_cls (fun _ => rfl) (fun _ => rfl) (fun _ => rfl) rfl ?_
  refine wp_cls (fun _ => rfl) (fun _ => rfl) (fun _ => rfl) rfl ?_
  intro D
  refine ⟨_, _, _, rfl, mem_at 0 rfl, wp_storeL rfl rfl (wp_storeL rfl rfl ?_)⟩
  intro K
  refine wp_asg3 (vexpr 4 ?_)
  intro t2
  refine wp_asN (wp_storeL rfl rfl (wp_asN (wp_storeL rfl rfl (wp_asN (wp_storeL rfl rfl ?_)))))
  refine wp_for (fun _ => rfl) (vexpr 6 ?_)
  refine wp_own (mem_at 3 rfl) (mem_at 2 rfl) rfl (fun _ => rfl) (fun _ => rfl) rfl ?_
  generalize PyData.keyHash _ (Str.ofString "raw") = hh
  refine Lw.to (.trans (.lay (l := wsN 0 0 0 ⟨t2, t2, t2, none, K, 0, 0⟩) (.cons rfl (.cons rfl (.cons rfl (.cons rfl (.cons rfl (.cons rfl (.cons rfl .nil))))))) (((((((Offs.same.set (g := ⟨_, _, _, _⟩) rfl).set rfl).set rfl).set rfl).set rfl).set rfl))) (.led (.cons_cons _ (.cons _ (.refl _))) (t := []) fun _ h => nomatch h)) ?_
  refine lw_str (W := wsW t f [("self", .ref x), ("ws", .str ⟨(txtL t f (c :: r)).toArray⟩ tk)] x d (wsO hh t1 (.str ⟨(txtL t f (c :: r)).toArray⟩ tk))) rfl (txtL_ascii hr) ⟨Nat.zero_le _, ⟨t2, t2, t2, none, K, 0, 0⟩, by rw [Nat.zero_min, Nat.zero_sub]; rfl⟩ ?_ ?_
  case refine_2 =>
    rintro g ⟨h1, -⟩
    exact absurd h1 (Nat.not_le.mpr txtL_size)
  case refine_1 =>
    rintro j g v hj ⟨h1, X, rfl⟩ ⟨cp, u, hcp, rfl⟩
    rw [txtL_at h1] at hcp
    cases hcp
    refine wp_asN (wp_storeL rfl rfl (vbody 40 ?_))
    by_cases h2 : j < t
    · rw [if_pos h2]
      have z1 : min j t = j := Nat.min_eq_left (Nat.le_of_lt h2)
      have z2 : j - t = 0 := Nat.sub_eq_zero_of_le (Nat.le_of_lt h2)
      have z3 : min (j + 1) t = j + 1 := Nat.min_eq_left h2
      have z4 : j + 1 - t = 0 := Nat.sub_eq_zero_of_le h2
      have z5 : j + 1 ≤ t + 4 * f := Nat.le_trans h2 (Nat.le_add_right _ _)
      rw [z1, z2]
      cases j with
      | zero =>
        intro t3 t4 t5 t6
        refine wp_len (mem_at 0 rfl) (Nat.zero_le _) fun t7 => ?_
        intro t8 D1
        refine wp_len (mem_at 1 rfl) (Nat.zero_le _) fun t9 => ?_
        intro t10 t11 t12
        refine wp_mulL (mem_at 0 rfl) (ws := [.int 0 t8]) (show -(2 ^ 63 : Int) ≤ 1 by decide) (show (1 : Int) < 2 ^ 63 by decide) (show 1 * 1 ≤ 256 by decide) rfl fun D2 => ?_
        refine wp_addL (mem_at 2 rfl) (mem_at 0 rfl) (show 0 + 1 ≤ 1000 by decide) fun D3 => ?_
        refine wp_item (j := 0) (mem_at 0 rfl) rfl rfl (by decide) ?_
        intro t13 t14
        refine wp_setI (j := 0) rfl (by decide) (show (0 : Int) < 1 by decide) (by decide) ?_
        intro t15
        exact turn_mk _ (.trans (.lay (l := wsN 1 1 0 ⟨t15, t6, t4, some (.str ⟨#[9]⟩ u), D3, t14, 0⟩) (.cons rfl (.cons rfl (.cons rfl (.cons rfl (.cons rfl (.cons rfl (.cons rfl .nil))))))) ((((((Offs.lay rfl).set (g := ⟨_, _, _, _⟩) rfl).set rfl).set rfl).set rfl).set rfl)) (.led (.cons_cons _ (.cons _ (.cons _ (.cons _ (.refl _))))) (t := []) fun _ h => nomatch h)) ⟨z5, ⟨t15, t6, t4, some (.str ⟨#[9]⟩ u), D3, t14, 0⟩, by rw [z3, z4]; rfl⟩
      | succ j =>
        intro t3 t4 t5 t6
        refine wp_len (mem_at 0 rfl) (Nat.le_of_ble_eq_true rfl) fun t7 => ?_
        refine wp_item (j := 0) (mem_at 0 rfl) rfl rfl (by decide) ?_
        intro t13 t14
        refine wp_setI (j := 0) rfl (by decide) (Int.ofNat_lt.mpr (Nat.zero_lt_succ _)) (by decide) ?_
        intro t15
        exact turn_mk _ (.lay (l := wsN (j + 1 + 1) (j + 1 + 1) 0 ⟨t15, t6, t4, some (.str ⟨#[9]⟩ u), X.K, t14, X.e⟩) (.cons rfl (.cons rfl (.cons rfl (.cons rfl (.cons rfl (.cons rfl (.cons rfl .nil))))))) (((((Offs.lay rfl).set (g := ⟨_, _, _, _⟩) rfl).set rfl).set rfl).set rfl)) ⟨z5, ⟨t15, t6, t4, some (.str ⟨#[9]⟩ u), X.K, t14, X.e⟩, by rw [z3, z4]; rfl⟩
    · rw [if_neg h2]
      have h2' := Nat.le_of_not_lt h2
      have z1 : min j t = t := Nat.min_eq_right h2'
      by_cases h3 : j < t + 4 * f
      · rw [if_pos h3]
        intro t3 t4 t5 t6
        refine turn_mk _ (.lay (l := wsN _ _ _ ⟨t6, X.k2, t4, some (.str ⟨#[32]⟩ u), X.K, X.c, X.e⟩) (.cons rfl (.cons rfl (.cons rfl (.cons rfl (.cons rfl (.cons rfl (.cons rfl .nil))))))) ((((Offs.lay rfl).set (g := ⟨_, _, _, _⟩) rfl).set rfl).set rfl)) ⟨h3, ⟨t6, X.k2, t4, some (.str ⟨#[32]⟩ u), X.K, X.c, X.e⟩, ?_⟩
        rw [z1, show min (j + 1) t = t from Nat.min_eq_right (Nat.le_succ_of_le h2'), show j + 1 - t = j - t + 1 from Nat.succ_sub h2']
        rfl
      · rw [if_neg h3]
        have z2 : j = t + 4 * f := Nat.le_antisymm h1 (Nat.le_of_not_lt h3)
        subst z2
        rw [z1, Nat.add_sub_cancel_left]
        refine bif_ff q4 (bif_ff q5 ?_)
        refine wp_setA (i := 1) (mem_at 2 rfl) rfl rfl (fun _ => rfl) (fun _ => rfl) (fun _ => rfl) (fun _ => Nat.le_of_ble_eq_true rfl) fun t2 => ?_
        refine wp_setA (i := 1) (mem_at 2 rfl) rfl rfl (fun _ => rfl) (fun _ => rfl) (fun _ => rfl) (fun _ => Nat.le_of_ble_eq_true rfl) fun t3 => ?_
        refine wp_tupleL (mem_at 0 rfl) (Nat.le_trans (cnt_len _ _) (by decide)) fun D1 => ?_
        intro D2
        refine wp_setA (i := 3) (mem_at 4 rfl) rfl rfl (fun _ => rfl) (fun _ => rfl) (fun _ => rfl) (fun _ => Nat.le_of_ble_eq_true rfl) fun t4 => ?_
        refine wp_len (mem_at 2 rfl) (Nat.le_trans (cnt_len _ _) (by decide)) fun t5 => ?_
        have hl : decide (((cnt t X.c).length : Int) ≤ 1) = true := decide_eq_true (Int.ofNat_le.mpr (cnt_len _ _))
        intro t6
        refine wp_setA (i := 3) (mem_at 4 rfl) rfl rfl (fun _ => rfl) (fun _ => rfl) (fun _ => rfl) (fun _ => Nat.le_of_ble_eq_true rfl) fun t7 => ?_
        rw [hl]
        refine ⟨rfl, fun h' hh => ⟨x, ⟨_, _, _, _, _, _, _, _, _, _, _, _, _, _, _, _, _, _, _, _⟩, rfl, List.forall_mem_cons.mpr ⟨hh _ (mem_at 4 rfl), List.forall_mem_cons.mpr ⟨hh _ (mem_at 3 rfl), List.forall_mem_cons.mpr ⟨hh _ (mem_at 0 rfl), List.forall_mem_cons.mpr ⟨hh _ (mem_at 1 rfl), List.forall_mem_nil _⟩⟩⟩⟩⟩⟩
theorem c_ws {t f c : Nat} {r : List Nat} {tk : Tok} (hr : (c :: r).all (· < 128) = true) (hc1 : c ≠ 9) (hc2 : c ≠ 32) : Con prog w p loose mean mg mb 100 [.str ⟨(txtL t f (c :: r)).toArray⟩ tk] 4 (fun _ => True) [] (fun s h' r => ∃ x z, r = .ref x ∧ NewIn s h' (wsLed t f x z)) := (c_wsV hr hc1 hc2).con
theorem c_wsT {t f fl : Nat} {tk : Tok} (h : 1 ≤ fl ∧ fl ≤ 7) : Con prog w p loose mean mg mb 100 [.str (txt t f fl) tk] 4 (fun _ => True) [] (fun s h' r => ∃ x z, r = .ref x ∧ NewIn s h' (wsLed t f x z)) := by
  obtain ⟨c, r, e, a1, a2, a3⟩ := codes_cons fl h.1 h.2
  have := c_ws (prog := prog) (w := w) (p := p) (loose := loose) (mean := mean) (mg := mg) (mb := mb) (t := t) (f := f) (c := c) (r := r) (tk := tk) a1 a2 a3
  rw [← e] at this
  exact this
end
section
variable {c : Cg} {g : Sg}
theorem Con.toL {prog : Program} {w : World} {p : Program} {loose : List Str} {mean : ExcName → Option Value} {mg mb : Str → Option Value} {fa : Addr} {vs : List Value} {n : Nat} {H : Heap → Prop} {P : Heap → Heap → Value → Prop} (C : Con prog w p loose mean mg mb fa vs n H [] P) : ConL prog w p loose mean mg mb fa vs n H [] [] P :=
  fun dp un gd cn cs a ccd cl outer A₀ base h₀ L m s Q E B F X T hk hd hu hH _ q => C dp un gd cn cs a ccd cl outer A₀ base h₀ L m s Q E B F X T hk hd hu hH (fun _ q => nomatch q) q
end
section
variable {prog : Program} {w : World} {p : Program} {loose : List Str} {mean : ExcName → Option Value} {mg mb : Str → Option Value}
theorem c_wsP {t f fl : Nat} {tk : Tok} (h : 1 ≤ fl ∧ fl ≤ 7) : ConL prog w p loose mean mg mb 100 [.str (txt t f fl) tk] 4 (fun _ => True) [] [] (fun s h' r => ∃ x : Addr × WsZ, r = .ref x.1 ∧ NewIn s h' (wsLed t f x.1 x.2)) :=
  (c_wsT h).toL.mono fun _ _ _ ⟨x, z, h⟩ => ⟨(x, z), h⟩
structure LaC where
  T : TabZ
  rows : List Row
  nm : Nat
  t : Nat
  f : Nat
  fl : Nat
  k1 : Tok
  k2 : Tok
  x : Addr × WsZ
  S : Addr
  D : Addr
noncomputable def laB (z : LaC) : List (Str × Value) := [("table", .ref z.T.t), ("name", .str (nmS z.nm) z.k1), ("text", .str (txt z.t z.f z.fl) z.k2)]
noncomputable def laM (z : LaC) : Mp := fun y => if y = "stay" then some (.ref z.S) else if y = "fresh" then some (.ref z.x.1) else (laB z).reverse.lookup y
noncomputable def laS (z : LaC) : List Row := z.rows.filter (sameN z.nm)
noncomputable def laV (z : LaC) (j : Nat) : List Value := (((laS z).take j).filter (notLess (z.t, z.f))).map valR
noncomputable def laT (z : LaC) : Nw := (z.D, PyProof.Rows.LCg.lst ((laS z).map valR)) :: (wsLed z.t z.f z.x.1 z.x.2 ++ tabRest z.T z.rows)
noncomputable def laG (z : LaC) (o t : Nw) (v1 v2 : Option Value) : Sg := ⟨lay [("old", v1), ("mark", v2)] (laM z), o, t ++ laT z, 0⟩
noncomputable def laW (z : LaC) (j : Nat) (g : Sg) : Prop := ∃ y : Nat × Option Value × Option Value, (∀ r ∈ (laS z).take j, (equalB z.t z.f r.t r.f || lessB z.t z.f r.t r.f) = false) ∧ g = laG z [(z.S, W.listOf (laV z j).toArray y.1), tabHead z.T z.rows] [] y.2.1 y.2.2
noncomputable def laAdds (z : LaC) : List Row := (laS z).filter (notLess (z.t, z.f)) ++ [(⟨0, z.nm, z.t, z.f, z.fl, 0, z.k2, 0⟩ : Row)]
structure LaY where
  cur : List Row
  e : Nat
  new : Nw
  v : Option Value
noncomputable def laU (z : LaC) (D4 : Addr) (v2 : Option Value) (j : Nat) (g : Sg) : Prop := ∃ y : LaY,
  (y.cur.map Row.ab = ((z.rows.map Row.ab).filter fun a => !(a.1 == z.nm % 2)) ++ ((laAdds z).take j).map (fun r => (z.nm % 2, r.t, r.f, r.fl)) ∧ (∀ r ∈ y.cur, r ∈ z.rows ∨ r.obj ∈ y.new) ∧ ∀ q ∈ y.new, ∀ p ∈ tabLed z.T z.rows, p.1 ≠ q.1) ∧
  g = laG z [(D4, W.listOf ((laAdds z).map valR).toArray 0), tabHead { z.T with e := y.e } y.cur] y.new y.v v2
theorem tab_no_new {T : TabZ} {rows : List Row} {ob : Obj} {new o t : Nw} (hn : ∀ q ∈ new, ∀ p ∈ o ++ t, p.1 ≠ q.1) (h1 : (T.l, ob) ∈ o) (h2 : ∀ q ∈ tabRest T rows, q ∈ t) : ∀ q ∈ new, ∀ p ∈ tabLed T rows, p.1 ≠ q.1 := fun q hq p hp => by
  rcases List.mem_cons.mp hp with rfl | hp
  · exact hn q hq (T.l, ob) (List.mem_append_left _ h1)
  · exact hn q hq p (List.mem_append_right _ (h2 p hp))
theorem tab_row {T : TabZ} {rows : List Row} {r : Row} (h : r ∈ rows) : (r.a, ({ cls := .type "tuple", data := .seq [Value.str (nmS r.nm) r.k1, .str (txt r.t r.f r.fl) r.k2].toArray r.n } : Obj)) ∈ tabLed T rows := List.mem_append_right [_, _, _] (List.mem_map_of_mem (f := Row.obj) h)
theorem c_getall {T : TabZ} {rows : List Row} (hr : rows.length ≤ 1000) {nm : Nat} {tk : Tok} : ConL prog w p loose mean mg mb 273 [.ref T.t, .str (nmS nm) tk] 20 (fun _ => True) (tabLed T rows) [] (fun s h' r => ∃ D, r = .ref D ∧ NewIn s h' [(D, PyProof.Rows.LCg.lst ((rows.filter fun r => r.nm % 2 == nm % 2).map fun r => .str (txt r.t r.f r.fl) r.k2))]) := by
  refine conW_cells (binds := [("self", .ref T.t), ("name", .str (nmS nm) tk)]) [] (tabLed T rows) (fun _ => rfl) (fun _ => rfl) (fun s => BindsTo.of_eq rfl) (fun c s₀ R l => vbody 30 ?_) (fun _ _ _ _ => ⟨.nil, fun _ h => nomatch h⟩) (fun q hq => hq) (by rfl) (by decide) (fun _ => rfl) (by rfl) (by rfl) (by rfl)
  refine wp_methK rfl rfl (vexpr 4 ?_)
  refine wp_method (mem_at 1 rfl) (mem_at 2 rfl) rfl (fun _ => rfl) (fun _ => rfl) ?_
  refine ⟨fun _ => rfl, vexpr 8 ?_⟩
  refine wp_lower (nm_lower nm) (nm_short nm) fun u _ => ?_
  refine wp_conK (c_convN (nm_good _) (by rw [nm_size]; decide)) (R.le rfl) ?_
  refine wp_compL (ax := T.l) (vs := rows.map fun r => .ref r.a) (l := T.e) (Inv := fun i ys o => o = [] ∧ ys = ((rows.take i).filter fun r => r.nm % 2 == nm % 2).map fun r => .str (txt r.t r.f r.fl) r.k2) (by with_unfolding_all rfl) (by decide) (by decide) ⟨rfl, rfl⟩ (fun _ => rfl) (vexpr 8 (wp_own (mem_at 1 rfl) (mem_at 2 rfl) rfl (fun _ => rfl) (fun _ => rfl) rfl ⟨rfl, rfl⟩)) (by rw [List.length_map]; exact hr) ⟨rfl, rfl⟩ (fun i ys o h => mem_at 0 (by rw [h.1]; rfl)) ?_ ?_
  · rintro i v ys o I oI C oC D m₂ hv ⟨rfl, rfl⟩ hC hx
    rw [List.getElem?_map] at hv
    obtain ⟨r, hr', rfl⟩ := Option.map_eq_some_iff.mp hv
    have hm := tab_row (T := T) (List.mem_of_getElem? hr')
    have ec := take_filter (fun r => r.nm % 2 == nm % 2) hr'
    refine TurnC.by (.loc (ext := []) (.tail _ (.head _)) hC hx rfl (by decide) rfl ⟨rfl, rfl⟩ (by repeat' (first | exact List.forall_mem_nil _ | refine List.forall_mem_cons.mpr ⟨.inr ⟨rfl, rfl⟩, ?_⟩))) 12 ?_
    intro t1
    refine wp_itemT (List.mem_append_right _ (List.mem_append_left _ hm)) (by decide) (by decide) rfl rfl ?_
    refine wp_lower (nm_lower _) (nm_short _) fun u2 _ => ?_
    have hq : (nmS (r.nm % 2) == nmS (nm % 2)) = (r.nm % 2 == nm % 2) := nm_beq (Nat.mod_lt _ (by decide)) (Nat.mod_lt _ (by decide))
    refine bif_mk (fun h => ?_) fun h => ?_
    · intro t2
      refine wp_itemT (List.mem_append_right _ (List.mem_append_left _ hm)) (by decide) (by decide) rfl rfl ?_
      exact ⟨⟨rfl, rfl⟩, rfl, by rw [ec, if_pos (hq.symm.trans h), List.map_append]; rfl⟩
    · exact ⟨⟨rfl, rfl⟩, rfl, by rw [ec, if_neg (by rw [hq.symm.trans h]; decide)]⟩
  · rintro D ys o ⟨rfl, rfl⟩
    rw [List.length_map, List.take_length]
    exact ⟨fun q hq => .inr (.tail _ hq), fun h' A hh => ⟨D, rfl, List.forall_mem_cons.mpr ⟨⟨(hh _ (.head _)).2 fun hm => by
      obtain ⟨q, hq, e⟩ := List.mem_map.mp hm
      exact A.2 _ (.head _) q hq e, (hh _ (.head _)).1⟩, List.forall_mem_nil _⟩⟩⟩
theorem less_no {t f t' f' : Nat} (h : ((t' + 4 * f' : Nat) : Int) ≤ ((t + 4 * f : Nat) : Int)) : false = lessB t f t' f' := by
  unfold lessB
  rw [decide_eq_false (by omega), Bool.false_and]
theorem less_yes {t f t' f' : Nat} (h : ¬ ((t' + 4 * f' : Nat) : Int) ≤ ((t + 4 * f : Nat) : Int)) : decide ((t : Int) ≤ (t' : Int)) = lessB t f t' f' := by
  unfold lessB
  rw [decide_eq_true (p := t + 4 * f < t' + 4 * f') (by omega), Bool.true_and]
  by_cases q : t ≤ t' <;> simp [q]
theorem c_less {t f t' f' : Nat} {x y : Addr} {z z' : WsZ} : ConL prog w p loose mean mg mb 90 [.ref x, .ref y] 4 (fun _ => True) (wsLed t f x z ++ wsLed t' f' y z') [] (fun _ _ r => r = .bool (lessB t f t' f')) := by
  refine conW (binds := [("self", .ref x), ("other", .ref y)]) [] (wsLed t f x z ++ wsLed t' f' y z') (fun _ => rfl) (fun _ => rfl) (fun s => BindsTo.of_eq rfl) (fun c s₀ R l => vbody 20 ?_) (fun _ _ _ _ => ⟨.nil, fun _ h => nomatch h⟩) (fun q hq => hq) (by rfl) (by rfl)
  refine wp_own (mem_at 0 rfl) (mem_at 1 rfl) rfl (fun _ => rfl) (fun _ => rfl) rfl ?_
  refine wp_own (mem_at 4 rfl) (mem_at 5 rfl) rfl (fun _ => rfl) (fun _ => rfl) rfl ?_
  refine bif_mk (fun hb => ?_) fun hb => ?_
  · exact ⟨fun q hq => .inr hq, fun _ _ _ => congrArg Value.bool (less_no (of_decide_eq_true hb))⟩
  · refine wp_own (mem_at 0 rfl) (mem_at 1 rfl) rfl (fun _ => rfl) (fun _ => rfl) rfl ?_
    refine wp_own (mem_at 4 rfl) (mem_at 5 rfl) rfl (fun _ => rfl) (fun _ => rfl) rfl ?_
    refine wp_own (mem_at 0 rfl) (mem_at 1 rfl) rfl (fun _ => rfl) (fun _ => rfl) rfl ?_
    refine wp_own (mem_at 4 rfl) (mem_at 5 rfl) rfl (fun _ => rfl) (fun _ => rfl) rfl ?_
    exact ⟨fun q hq => .inr hq, fun _ _ _ => congrArg Value.bool (less_yes (of_decide_eq_false hb))⟩
noncomputable def cntD : Nat → List PyData
  | 0 => []
  | t + 1 => [.int ((t + 1 : Nat) : Int)]
theorem reads_cnt {h : Heap} : ∀ {t : Nat} {k : Tok}, ReadsAll h (cnt t k) (cntD t) []
  | 0, _ => .nil
  | _ + 1, _ => .cons (.int _ _) .nil
theorem eq00 {f f' : Nat} : (((4 * f : Nat) : Int) == ((4 * f' : Nat) : Int)) = equalB 0 f 0 f' := by
  unfold equalB
  rw [decide_eq_true rfl, Bool.true_and]
  by_cases q : f = f'
  · subst q; simp
  · rw [decide_eq_false q, beq_eq_false_iff_ne]; omega
theorem eq01 {t f f' : Nat} : false = equalB 0 f (t + 1) f' := by
  unfold equalB
  rw [decide_eq_false (by omega), Bool.false_and]
theorem eq10 {t f f' : Nat} : false = equalB (t + 1) f 0 f' := by
  unfold equalB
  rw [decide_eq_false (by omega), Bool.false_and]
theorem eq11 {t f t' f' : Nat} : ((((t + 1 : Nat) : Int) == ((t' + 1 : Nat) : Int)) && (((4 * f : Nat) : Int) == ((4 * f' : Nat) : Int))) = equalB (t + 1) f (t' + 1) f' := by
  unfold equalB
  congr 1
  · by_cases q : t + 1 = t' + 1
    · rw [q]; simp
    · rw [decide_eq_false q, beq_eq_false_iff_ne]; omega
  · by_cases q : f = f'
    · subst q; simp
    · rw [decide_eq_false q, beq_eq_false_iff_ne]; omega
theorem norm_eqv {t f t' f' : Nat} : PyData.eqv (.tuple [.tuple (cntD t), .int ((4 * f : Nat) : Int)]) (.tuple [.tuple (cntD t'), .int ((4 * f' : Nat) : Int)]) = equalB t f t' f' := by
  cases t <;> cases t' <;> simp only [cntD, PyData.eqv, PyData.eqvAll, Bool.and_true, Bool.true_and, Bool.false_and]
  · exact eq00
  · exact eq01
  · exact eq10
  · exact eq11
theorem c_equal {t f t' f' : Nat} {x y : Addr} {z z' : WsZ} : ConL prog w p loose mean mg mb 76 [.ref x, .ref y] 20 (fun _ => True) (wsLed t f x z ++ wsLed t' f' y z') [] (fun _ _ r => r = .bool (equalB t f t' f')) := by
  refine conW (binds := [("self", .ref x), ("other", .ref y)]) [] (wsLed t f x z ++ wsLed t' f' y z') (fun _ => rfl) (fun _ => rfl) (fun s => BindsTo.of_eq rfl) (fun c s₀ R l => vbody 20 ?_) (fun _ _ _ _ => ⟨.nil, fun _ h => nomatch h⟩) (fun q hq => hq) (by rfl) (by rfl)
  refine wp_own (mem_at 0 rfl) (mem_at 1 rfl) rfl (fun _ => rfl) (fun _ => rfl) rfl ?_
  refine wp_own (mem_at 4 rfl) (mem_at 5 rfl) rfl (fun _ => rfl) (fun _ => rfl) rfl ?_
  refine ⟨fun O H s Q S q => eq_dataH (reads_tuple_at (S.mem (mem_at 2 rfl)).1 rfl rfl (.cons (reads_tuple_at (S.mem (mem_at 3 rfl)).1 rfl rfl (by simpa using reads_cnt)) (.cons (.int _ _) .nil))) (reads_tuple_at (S.mem (mem_at 6 rfl)).1 rfl rfl (.cons (reads_tuple_at (S.mem (mem_at 7 rfl)).1 rfl rfl (by simpa using reads_cnt)) (.cons (.int _ _) .nil))) ?_ ?_ (Nat.lt_of_le_of_lt (Nat.add_le_add_left (by decide) _) R.2) (q _ _ s.toks _ S ?_)⟩
  · cases t <;> rfl
  · cases t' <;> rfl
  exact ⟨fun q hq => .inr hq, fun _ _ _ => congrArg Value.bool norm_eqv⟩
theorem c_lay {T : TabZ} {rows : List Row} (hr : rows.length ≤ 100) {nm t f fl : Nat} (hrow : ∀ r ∈ rows, r.t ≤ 32 ∧ r.f ≤ 32 ∧ 1 ≤ r.fl ∧ r.fl ≤ 7) (hn : t ≤ 32 ∧ f ≤ 32) (hfl : 1 ≤ fl ∧ fl ≤ 7) {k1 k2 : Tok} : ConL prog w p loose mean mg mb 373 [.ref T.t, .str (nmS nm) k1, .str (txt t f fl) k2] 40 (fun _ => True) (tabLed T rows) [T.l]
    (fun s h' _ => ∃ rows', Put T rows rows' s h' ∧ rows'.map Row.ab = layA (rows.map Row.ab) (nm % 2, t, f, fl)) := by
  have hr3 : rows.length ≤ 1000 := Nat.le_trans hr (by decide)
  refine conW (binds := [("table", .ref T.t), ("name", .str (nmS nm) k1), ("text", .str (txt t f fl) k2)]) [tabHead T rows] (tabRest T rows) (fun _ => rfl) (fun _ => rfl) (fun s => BindsTo.of_eq rfl) (fun c s₀ R l => vbody 40 ?_) tab_apart (fun q hq => hq) (by rfl) (by rfl)
  refine wp_conN (c_wsP hfl) (R.le rfl) (fun _ h => nomatch h) fun x => ?_
  intro S
  refine wp_for (fun _ => rfl) (vexpr 8 ?_)
  refine wp_method (mem_at 6 rfl) (mem_at 7 rfl) rfl (fun _ => rfl) (fun _ => rfl) ?_
  refine wp_conN (c_getall hr3) (R.le rfl) (fun q hq => in_all ?_) fun D => ?_
  · exact (List.mem_cons.mp hq).elim (fun e => e ▸ .tail _ (.head _)) fun hq => .tail _ (.tail _ (List.mem_append_right (wsLed t f x.1 x.2) hq))
  refine Lw.to (.trans (.lay (l := [("old", none), ("mark", none)]) (m₀ := laM ⟨T, rows, nm, t, f, fl, k1, k2, x, S, D⟩) (.cons rfl (.cons rfl .nil)) (fun _ _ => rfl)) .refl) ?_
  refine lw_list (vs := (laS ⟨T, rows, nm, t, f, fl, k1, k2, x, S, D⟩).map valR) (e := ((laS ⟨T, rows, nm, t, f, fl, k1, k2, x, S, D⟩).map valR).length) (W := laW ⟨T, rows, nm, t, f, fl, k1, k2, x, S, D⟩) ⟨(0, none, none), fun r (h : r ∈ ([] : List Row)) => (nomatch h), rfl⟩ ?_ ?_ ?_
  case refine_1 =>
    rintro j g ⟨y, -, rfl⟩
    exact mem_at 2 rfl
  case refine_2 =>
    rintro j g v hj ⟨⟨e, v1, v2⟩, no, rfl⟩ hjv
    rw [List.getElem?_map] at hjv
    obtain ⟨r, hr', rfl⟩ := Option.map_eq_some_iff.mp hjv
    have hrs : r ∈ rows.filter (sameN nm) := List.mem_of_getElem? hr'
    have hrm : r ∈ rows := (List.mem_filter.mp hrs).1
    have hV : laV ⟨T, rows, nm, t, f, fl, k1, k2, x, S, D⟩ (j + 1) = if notLess (t, f) r = true then laV ⟨T, rows, nm, t, f, fl, k1, k2, x, S, D⟩ j ++ [valR r] else laV ⟨T, rows, nm, t, f, fl, k1, k2, x, S, D⟩ j := by
      simp only [laV, List.take_add_one, hr']
      by_cases hk : notLess (t, f) r = true
      · simp [hk, List.filter_append]
      · simp [hk, List.filter_append]
    refine wp_asN (wp_storeL rfl rfl (vbody 40 ?_))
    refine wp_conN (c_wsP (hrow r hrm).2.2) (R.le rfl) (fun _ h => nomatch h) fun y => ?_
    have subW : ∀ q ∈ wsLed t f x.1 x.2 ++ wsLed r.t r.f y.1 y.2, q ∈ [(S, W.listOf (laV ⟨T, rows, nm, t, f, fl, k1, k2, x, S, D⟩ j).toArray e), tabHead T rows] ++ (wsLed r.t r.f y.1 y.2 ++ ([] ++ laT ⟨T, rows, nm, t, f, fl, k1, k2, x, S, D⟩)) := fun q hq => List.mem_append_right [_, _] ((List.mem_append.mp hq).elim (fun h => List.mem_append_right (wsLed r.t r.f y.1 y.2) (.tail _ (List.mem_append_left (tabRest T rows) h))) fun h => List.mem_append_left _ h)
    refine wp_method (mem_at 7 rfl) (mem_at 8 rfl) rfl (fun _ => rfl) (fun _ => rfl) ?_
    refine wp_val (c_equal (t := t) (f := f) (t' := r.t) (f' := r.f) (z := x.2) (z' := y.2)) (R.le rfl) ?_ ?_
    · exact fun q hq => in_all (subW q hq)
    have hit : (equalB t f r.t r.f || lessB t f r.t r.f) = true → ∀ g' : Sg, (∀ q ∈ tabHead T rows :: tabRest T rows, q ∈ g'.o ++ g'.t) → PostW (tabLed T rows) [T.l] s₀ (fun s h' _ => ∃ rows', Put T rows rows' s h' ∧ rows'.map Row.ab = layA (rows.map Row.ab) (nm % 2, t, f, fl)) (.ret (.bool false)) g' := fun hE g' hg =>
      ⟨fun q hq => .inr (hg q hq), fun h' _ hh => ⟨rows, ⟨T.e, (hh _ (hg _ (.head _))).1, fun r hr => .inl hr⟩, layA_hit hrs hE⟩⟩
    have sub : ∀ q ∈ tabHead T rows :: tabRest T rows, q ∈ [(S, W.listOf (laV ⟨T, rows, nm, t, f, fl, k1, k2, x, S, D⟩ j).toArray e), tabHead T rows] ++ (wsLed r.t r.f y.1 y.2 ++ ([] ++ laT ⟨T, rows, nm, t, f, fl, k1, k2, x, S, D⟩)) := fun q hq =>
      (List.mem_cons.mp hq).elim (fun e => e ▸ .tail _ (.head _)) fun hq => .tail _ (.tail _ (List.mem_append_right (wsLed r.t r.f y.1 y.2) (.tail _ (List.mem_append_right (wsLed t f x.1 x.2) hq))))
    refine bif_mk (fun hE => ?_) fun hE => ?_
    · exact hit (by rw [hE]; rfl) _ sub
    refine wp_method (mem_at 7 rfl) (mem_at 8 rfl) rfl (fun _ => rfl) (fun _ => rfl) ?_
    refine wp_val (c_less (t := t) (f := f) (t' := r.t) (f' := r.f) (z := x.2) (z' := y.2)) (R.le rfl) ?_ ?_
    · exact fun q hq => in_all (subW q hq)
    refine bif_mk (fun hL => ?_) fun hL => ?_
    · exact hit (by rw [hL, Bool.or_true]) _ sub
    have no' : ∀ q ∈ (laS ⟨T, rows, nm, t, f, fl, k1, k2, x, S, D⟩).take (j + 1), (equalB t f q.t q.f || lessB t f q.t q.f) = false := by
      intro q hq
      rw [List.take_add_one, List.mem_append] at hq
      rcases hq with hq | hq
      · exact no q hq
      · rw [hr'] at hq
        rw [List.mem_singleton.mp hq, hE, hL]; rfl
    refine wp_method (mem_at 2 rfl) (mem_at 3 rfl) rfl (fun _ => rfl) (fun _ => rfl) ?_
    refine wp_val (c_less (t := r.t) (f := r.f) (t' := t) (f' := f) (z := y.2) (z' := x.2)) (R.le rfl) ?_ ?_
    · exact fun q hq => in_all (subW q ((List.mem_append.mp hq).elim (fun h => List.mem_append_right _ h) fun h => List.mem_append_left _ h))
    have drop : ∀ q ∈ laT ⟨T, rows, nm, t, f, fl, k1, k2, x, S, D⟩, q ∈ (wsLed r.t r.f y.1 y.2 ++ ([] ++ laT ⟨T, rows, nm, t, f, fl, k1, k2, x, S, D⟩)) ++ [] := fun q hq => List.mem_append_left _ (List.mem_append_right (wsLed r.t r.f y.1 y.2) hq)
    refine bif_mk (fun hM => ?_) fun hM => ?_
    · have hk : notLess (t, f) r = true := hM
      rw [if_pos hk] at hV
      refine wp_mAppend (mem_at 0 rfl) ?_
      refine wp_append (j := 0) (its' := (laV ⟨T, rows, nm, t, f, fl, k1, k2, x, S, D⟩ (j + 1)).toArray) rfl ?_ (by rw [hV]; simp [valR]) ?_
      · rw [List.size_toArray, laV, List.length_map]
        exact Nat.le_trans (List.length_filter_le _ _) (Nat.le_trans (List.length_take_le' _ _) (Nat.le_trans (List.length_filter_le _ _) hr3))
      exact turn_mk _ (.trans (.lay (l := [("old", some (valR r)), ("mark", some (.ref y.1))]) (.cons rfl (.cons rfl .nil)) (((Offs.lay rfl).set (g := ⟨_, _, _, _⟩) rfl).set rfl)) (.led (.refl _) drop)) ⟨(e + 1, some (valR r), some (.ref y.1)), no', rfl⟩
    · have hk : notLess (t, f) r = false := hM
      rw [if_neg (by rw [hk]; decide)] at hV
      refine turn_mk _ (.trans (.lay (l := [("old", some (valR r)), ("mark", some (.ref y.1))]) (.cons rfl (.cons rfl .nil)) (((Offs.lay rfl).set (g := ⟨_, _, _, _⟩) rfl).set rfl)) (.led (.refl _) drop)) ⟨(e, some (valR r), some (.ref y.1)), no', ?_⟩
      rw [hV]; rfl
  case refine_3 =>
    rintro g ⟨⟨e, v1, v2⟩, no, rfl⟩
    rw [List.length_map, List.take_length] at no
    have hVn : laV ⟨T, rows, nm, t, f, fl, k1, k2, x, S, D⟩ ((laS ⟨T, rows, nm, t, f, fl, k1, k2, x, S, D⟩).map valR).length = ((laS ⟨T, rows, nm, t, f, fl, k1, k2, x, S, D⟩).filter (notLess (t, f))).map valR := by rw [laV, List.length_map, List.take_length]
    have hVa : (laAdds ⟨T, rows, nm, t, f, fl, k1, k2, x, S, D⟩).map valR = laV ⟨T, rows, nm, t, f, fl, k1, k2, x, S, D⟩ ((laS ⟨T, rows, nm, t, f, fl, k1, k2, x, S, D⟩).map valR).length ++ [.str (txt t f fl) k2] := by rw [hVn]; simp [laAdds, valR]
    have hal : (laAdds ⟨T, rows, nm, t, f, fl, k1, k2, x, S, D⟩).length ≤ 101 := by
      have z1 := List.length_filter_le (notLess (t, f)) (laS ⟨T, rows, nm, t, f, fl, k1, k2, x, S, D⟩)
      have z2 := List.length_filter_le (sameN nm) rows
      simp only [laAdds, List.length_append, List.length_singleton]
      exact Nat.succ_le_succ (Nat.le_trans z1 (Nat.le_trans z2 hr))
    have subR : ∀ q ∈ tabRest T rows, q ∈ laT ⟨T, rows, nm, t, f, fl, k1, k2, x, S, D⟩ := fun q hq => .tail _ (List.mem_append_right (wsLed t f x.1 x.2) hq)
    refine vbody 40 ?_
    refine wp_put (P_del hr3) (R.le rfl) 1 rfl (fun q hq => in_all (List.mem_append_right [_, _] (subR q hq))) fun v rows1 e1 new1 h1 h2 h3 => ?_
    refine wp_for (fun _ => rfl) (vexpr 8 ?_)
    intro D3
    refine wp_addL (vs := laV ⟨T, rows, nm, t, f, fl, k1, k2, x, S, D⟩ ((laS ⟨T, rows, nm, t, f, fl, k1, k2, x, S, D⟩).map valR).length) (us := [.str (txt t f fl) k2]) (mem_at 1 rfl) (mem_at 0 rfl) ?_ fun D4 => ?_
    · rw [hVn, List.length_map]
      have : (laAdds ⟨T, rows, nm, t, f, fl, k1, k2, x, S, D⟩).length = ((laS ⟨T, rows, nm, t, f, fl, k1, k2, x, S, D⟩).filter (notLess (t, f))).length + 1 := by simp [laAdds]
      exact this ▸ Nat.le_trans hal (by decide)
    rw [← hVa]
    have hno : ∀ q ∈ new1, ∀ p ∈ tabLed T rows, p.1 ≠ q.1 := tab_no_new (o := [(S, W.listOf (laV ⟨T, rows, nm, t, f, fl, k1, k2, x, S, D⟩ ((laS ⟨T, rows, nm, t, f, fl, k1, k2, x, S, D⟩).map valR).length).toArray e), tabHead T rows]) (t := laT ⟨T, rows, nm, t, f, fl, k1, k2, x, S, D⟩) (fun q hq p hp => h3 q hq p (in_all hp)) (.tail _ (.head _)) subR
    refine Lw.to (.trans (.lay (l := [("old", v1), ("mark", v2)]) (m₀ := laM ⟨T, rows, nm, t, f, fl, k1, k2, x, S, D⟩) (.cons rfl (.cons rfl .nil)) (Offs.lay rfl)) (.led (o := [(D4, W.listOf ((laAdds ⟨T, rows, nm, t, f, fl, k1, k2, x, S, D⟩).map valR).toArray 0), tabHead { T with e := e1 } rows1]) (.cons_cons _ (.cons _ (.cons _ (.refl _)))) (t := new1 ++ laT ⟨T, rows, nm, t, f, fl, k1, k2, x, S, D⟩) fun q hq => List.mem_append_left _ hq)) ?_
    refine lw_list (vs := (laAdds ⟨T, rows, nm, t, f, fl, k1, k2, x, S, D⟩).map valR) (e := 0) (W := laU ⟨T, rows, nm, t, f, fl, k1, k2, x, S, D⟩ D4 v2) ⟨⟨rows1, e1, new1, v1⟩, ⟨by rw [h1]; simp, h2, hno⟩, rfl⟩ ?_ ?_ ?_
    case refine_1 =>
      rintro j g ⟨y, -, rfl⟩
      exact mem_at 0 rfl
    case refine_2 =>
      rintro j g v hj ⟨⟨cur, e2, new, v3⟩, ⟨u1, u2, u3⟩, rfl⟩ hjv
      rw [List.getElem?_map] at hjv
      obtain ⟨r, hr', rfl⟩ := Option.map_eq_some_iff.mp hjv
      have hb : r.t ≤ 64 ∧ r.f ≤ 64 := by
        rcases List.mem_append.mp (List.mem_of_getElem? hr') with h | h
        · have h1 := hrow r (List.mem_filter.mp (List.mem_filter.mp h).1).1
          exact ⟨Nat.le_trans h1.1 (by decide), Nat.le_trans h1.2.1 (by decide)⟩
        · rw [List.mem_singleton.mp h]; exact ⟨Nat.le_trans hn.1 (by decide), Nat.le_trans hn.2 (by decide)⟩
      have hcl : cur.length ≤ 1000 := by
        have z1 : cur.length = (cur.map Row.ab).length := (List.length_map _).symm
        have u1 : cur.map Row.ab = _ := u1
        rw [z1, u1, List.length_append, List.length_map]
        have z2 := List.length_filter_le (fun a : Ab => !(a.1 == nm % 2)) (rows.map Row.ab)
        have z3 := List.length_take_le' j (laAdds ⟨T, rows, nm, t, f, fl, k1, k2, x, S, D⟩)
        rw [List.length_map] at z2
        exact Nat.le_trans (Nat.add_le_add (Nat.le_trans z2 hr) (Nat.le_trans z3 hal)) (by decide)
      refine wp_asN (wp_storeL rfl rfl (vbody 40 ?_))
      have subN : ∀ q ∈ tabRest T rows, q ∈ new ++ laT ⟨T, rows, nm, t, f, fl, k1, k2, x, S, D⟩ := fun q hq => List.mem_append_right new (subR q hq)
      refine wp_method (in_all (List.mem_append_right [_, _] (subN _ (.head _)))) (in_all (List.mem_append_right [_, _] (subN _ (.tail _ (.head _))))) rfl (fun _ => rfl) (fun _ => rfl) ?_
      refine wp_put (T := { T with e := e2 }) (rows := cur) (P_addE hcl hb.1 hb.2 e2) (R.le rfl) 1 rfl (fun q hq => in_all (List.mem_append_right [_, _] ?_)) fun v rows2 e3 new2 w1 w2 w3 => ?_
      · rcases List.mem_cons.mp hq with rfl | hq
        · exact subN _ (.head _)
        · rcases List.mem_cons.mp hq with rfl | hq
          · exact subN _ (.tail _ (.head _))
          · obtain ⟨r, hr, rfl⟩ := List.mem_map.mp hq
            exact (u2 r hr).elim (fun h => subN _ (.tail _ (.tail _ (List.mem_map_of_mem h)))) fun h => List.mem_append_left _ h
      have hno2 : ∀ q ∈ new2, ∀ p ∈ tabLed T rows, p.1 ≠ q.1 := tab_no_new (o := [(D4, W.listOf ((laAdds ⟨T, rows, nm, t, f, fl, k1, k2, x, S, D⟩).map valR).toArray 0), tabHead { T with e := e2 } cur]) (t := new ++ laT ⟨T, rows, nm, t, f, fl, k1, k2, x, S, D⟩) (fun q hq p hp => w3 q hq p (in_all hp)) (.tail _ (.head _)) subN
      refine turn_mk _ (.trans (.lay (l := [("old", some (valR r)), ("mark", v2)]) (.cons rfl (.cons rfl .nil)) ((Offs.lay rfl).set (g := ⟨_, _, _, _⟩) rfl)) (.led (.refl _) (t := (new2 ++ new) ++ laT ⟨T, rows, nm, t, f, fl, k1, k2, x, S, D⟩) fun q hq => ?_)) ⟨⟨rows2, e3, new2 ++ new, some (valR r)⟩, ⟨?_, fun q hq => ?_, fun q hq => ?_⟩, rfl⟩
      · exact List.mem_append_left _ (by rwa [List.append_assoc] at hq)
      · have w1 : rows2.map Row.ab = _ := w1
        have u1 : cur.map Row.ab = _ := u1
        show rows2.map Row.ab = _
        rw [w1, u1, List.take_add_one, hr', List.map_append, List.append_assoc]; rfl
      · exact (w2 q hq).elim (fun h => (u2 q h).imp id fun h => List.mem_append_right _ h) fun h => .inr (List.mem_append_left _ h)
      · exact (List.mem_append.mp hq).elim (hno2 q) (u3 q)
    case refine_3 =>
      rintro g ⟨⟨cur, e2, new, v3⟩, ⟨u1, u2, u3⟩, rfl⟩
      have u1 : cur.map Row.ab = _ := u1
      rw [List.length_map, List.take_length] at u1
      have subN : ∀ q ∈ tabRest T rows, q ∈ new ++ laT ⟨T, rows, nm, t, f, fl, k1, k2, x, S, D⟩ := fun q hq => List.mem_append_right new (subR q hq)
      refine vbody 4 ?_
      refine ⟨List.forall_mem_cons.mpr ⟨.inl (.head _), fun q hq => .inr (List.mem_append_right [_, _] (subN q hq))⟩, fun h' _ hh => ⟨cur, ⟨e2, (hh _ (.tail _ (.head _))).1, fun r hr => (u2 r hr).imp id fun hm => ?_⟩, ?_⟩⟩
      · have z := hh r.obj (List.mem_append_right [_, _] (List.mem_append_left _ hm))
        refine ⟨z.2 fun hm2 => ?_, z.1⟩
        obtain ⟨p, hp, e⟩ := List.mem_map.mp hm2
        exact u3 _ hm p hp e
      · rw [u1, layA_miss no, List.append_assoc, laAdds, List.map_append]
        congr 2
        refine List.map_congr_left fun r hr => ?_
        have z : r.nm % 2 = nm % 2 := eq_of_beq (List.mem_filter.mp (List.mem_filter.mp hr).1).2
        show (nm % 2, r.t, r.f, r.fl) = (r.nm % 2, r.t, r.f, r.fl)
        rw [z]
end
section
variable {c : Cg} {G : Heap} {g : Sg}
theorem wh_ind {σ : Type} (size : σ → Nat) (P : σ → Sg → Prop) {test : PySem.Expr} {body orelse : List Stmt} {k : Kg Flow} (st₀ : σ) (h0 : P st₀ g) (step : ∀ st g G, P st g → (∀ st' g' G', size st' < size st → P st' g' → Wh c G' test body orelse g' k) → Wh c G test body orelse g k) : Wh c G test body orelse g k := by
  have all : ∀ n st g G, size st < n → P st g → Wh c G test body orelse g k := by
    intro n
    induction n with
    | zero => exact fun _ _ _ h => absurd h (Nat.not_lt_zero _)
    | succ n ih => exact fun st g G h p => step st g G p fun st' g' G' h' p' => ih st' g' G' (Nat.lt_of_lt_of_le h' (Nat.le_of_lt_succ h)) p'
  exact all _ st₀ g G (Nat.lt_succ_self _) h0
end
section
variable {prog : Program} {w : World} {p : Program} {loose : List Str} {mean : ExcName → Option Value} {mg mb : Str → Option Value}
theorem isStop : isSubtype (.type "StopIteration") (.type "BaseException") = pure true := by rw [isSubtype_type]; kernel_rfl
theorem notTupStop : isSubtype (.type ((Manifest.find? "StopIteration").elim "type" fun y => y.metatype)) (.type "tuple") = pure false := by rw [isSubtype_type]; kernel_rfl
theorem stopStop : isSubtype (.type "StopIteration") (.type "StopIteration") = pure true := by rw [isSubtype_type]; kernel_rfl
end
section
variable {prog : Program} {w : World} {A : Around} {E : Value → Shared → Prop} {s : Shared} {h₀ : Heap} {L D it : Addr} {m : Str → Option Value} {news : List (Addr × Obj)} {Q : Value → Shared → Prop}
theorem next_end {lo : Obj} {vs : List Value} {n i : Nat} (hh : A.handled = none) (F : Fr h₀ L s.heap m) (N : News h₀ L s.heap ((it, itL D i) :: news)) (hm : (D, lo) ∈ news) (hc : lo.cls = .type "list") (hd : lo.data = .seq vs.toArray n) (ho : ∀ q ∈ news, q.1 ≠ it) (hx : vs[i]? = none)
    (h : ∀ h₁ h' e, Fr h₀ L h₁ m → News h₀ L h₁ news → Heap.NewExc h₁ h' e "StopIteration" → E (.ref e) { s with heap := h' }) :
    wpAny (model prog w) A (call (.builtin "next") [.ref it]) Q E s := by
  have hit := N _ (.head _)
  have hT : s.TypeIs (.ref it) "list_iterator" := ⟨_, hit.1, rfl⟩
  have hol := (N _ (.tail _ hm)).1
  refine call_function_entry (by decide +kernel) (by decide +kernel) kdk_entry_next (kdk_args_next _) ?_
  unfold Builtin.«next»
  refine wpAny_bind (m := someArgs "next" 1 2 _) (wpAny_of_eq (a := [Value.ref it]) (by first | rfl | kernel_rfl!) ?_)
  dsimp only
  refine wpAny_bind (wpAny_specialOf (name := Str.ofString "__next__") hT slot_listiter_next.lookup ?_)
  refine wpAny_ite_split (fun hab => absurd hab (by decide)) (fun _ => ?_)
  refine wpAny_bind (wpAny_callSpecial?_slot (name := Str.ofString "__next__") hT slot_listiter_next (wpAny_call_entry slot_listiter_next hT entry_listiter_next ?_ (args_listiter_next _)))
  show wpAny _ _ (field (.ref it) 0 >>= _) _ _ s
  refine wpAny_bind (wpAny_field hit.1 rfl (x := .ref D) rfl ?_)
  show wpAny _ _ (if (Value.ref D == Value.none) = true then _ else _) _ _ s
  rw [if_neg (show ¬ ((Value.ref D == Value.none) = true) from Bool.false_ne_true)]
  show wpAny _ _ (field (.ref it) 1 >>= _) _ _ s
  refine wpAny_bind (wpAny_field hit.1 rfl (x := .int i 0) rfl ?_)
  show wpAny _ _ (seqItems? (.ref D) >>= _) _ _ s
  refine wpAny_bind (wpAny_seqItems hol hd ?_)
  simp only [Int.toNat_natCast, List.getElem?_toArray, hx]
  refine wpAny_bind (wpAny_rule (wpAny_bind (wpAny_setField hit.1 rfl (by simp) ?_)))
  show wpAny _ _ (newExc (.type "StopIteration") [] >>= _) _ _ _
  refine wpAny_bind ?_
  simp only [newExc, newTuple]
  refine wpAny_bind (wpAny_newObj_type ?_ (by size_fits))
  refine wpAny_bind (m := firstArgMember _ _) (wpAny_of_eq (a := Value.none) (by first | rfl | (simp only [firstArgMember]; rfl)) ?_)
  refine wpAny_newObj_type ?_ (by size_fits)
  simp only [raiseNew]
  refine wpAny_bind (wpAny_handled ?_)
  first | rw [show A.in1.in1.handled = none from hh] | rw [show A.in1.handled = none from hh] | rw [hh]
  refine wpAny_bind (wpAny_pure (wpAny_throw ?_))
  refine h _ _ _ (F.change (Heap.SameBut.update ..) hit.2.1 hit.2.2) (fun q hq => ?_) ⟨fun b o y => Heap.get?_push_of_some _ (Heap.get?_push_of_some _ y), ?_, ⟨_, _, Heap.get?_push_size _ rfl, rfl, rfl⟩⟩
  · have z := N q (.tail _ hq)
    exact ⟨(Heap.get?_update_other _ _ (Ne.symm (ho q hq))).trans z.1, z.2⟩
  · refine Heap.get?_none_of_le ?_
    rw [Heap.size_push]
    exact Nat.le_succ _
end
section
variable {prog : Program} {w : World} {p : Program} {loose : List Str} {mean : ExcName → Option Value} {mg mb : Str → Option Value}
theorem c_parseEnd {D I : Addr} {vs : List Value} {n i : Nat} (hx : vs[i]? = none) {dp un : Nat} {gd : Option (List Code)} {cn : Str} {cs : Scope} {a : Addr} {ccd : Value} {cl : List (Str × Addr)} {outer : List Env} {A₀ : Around} {base h₀ : Heap} {L : Addr} {m : Str → Option Value} {s : Shared} {Q E : Value → Shared → Prop} {news : List (Addr × Obj)}
    (B : Below A₀ base outer h₀) (F : Fr h₀ L s.heap m) (X : (hd.heap_39 w.params).In h₀) (T' : Top p loose mean mg mb h₀) (hk : cs.kind = .function) (hdp : dp + 4 < recursionLimit)
    (N : News h₀ L s.heap ((I, itL D i) :: (D, lstObj vs n) :: news)) (ho : ∀ q ∈ (D, lstObj vs n) :: news, q.1 ≠ I)
    (hE : ∀ e h' tk' G, Fr h₀ L G m → RaisedSN base G (envX cn cs L a ccd cl :: outer) e (.type "StopIteration") ((D, lstObj vs n) :: news) h' → G.UpToSlots h' → E (.ref e) { s with heap := h', toks := tk' }) :
    wpAny (model prog w) (ktrTop dp un gd cn cs L a ccd cl outer) (call (.ref 119) [.ref I]) Q E s := by
  refine wpAny_call ?_
  refine enter_plain B F X N T' rfl rfl hk rfl rfl (Nat.lt_of_le_of_lt (Nat.le_add_right _ _) hdp) (BindsTo.of_eq rfl) (PyProof.Rows.locs rfl) ?_ rfl rfl rfl (by decide)
  intro g L1 h1 FG F1 N1 B1 X1 T1 hG hG' hl1
  refine wpAny_execs_cons (wpAny_Assign_Name (Call_ (nameX_B F1 X1 (topRead_of T1) rfl (by decide +kernel : bootBuiltins (Str.ofString "next") = some (.builtin "next")) (by decide +kernel) ?_ rfl rfl (by decide)) rfl) rfl)
  refine callWith_method1 (args_cons (nameX_L F1 rfl ?_ rfl rfl (by decide)) rfl) rfl rfl
  refine args_nil ?_
  refine next_end rfl F1 N1 (.head _) rfl rfl ho hx ?_
  intro h2 h3 e F2 N2 hx2
  refine leave_newS B1 hx2 F2 N2 ?_
  intro h4 R4 _ U4
  exact hE _ _ _ _ FG R4 U4
end
section
variable {c : Cg} {G : Heap} {g : Sg}
theorem wg_tryEnd {x y tb : Str} {px pf py pc pa np pt pr ph pos : Pos} {I D : Addr} {i n : Nat} {vs : List Value} {o : Nw} {v : Value} {k : Kg Flow} (hev : ev c = envOf c.cn c.sc c.L c.a c.ccd) (har : c.A₀.deeper (envOf c.cn c.sc c.L c.a c.ccd) = ar c) (hcl : c.cl = []) (R : Room c 4)
    (hgf : okG c.sc "_parse_varint" = true) (hgs : (envOf c.cn c.sc c.L c.a c.ccd).kindOf "StopIteration" = some .globalImplicit) (hy : okL c.sc y = true) (ht : okL c.sc tb = true) (hmy : g.m y = some (.ref I)) (hmt : g.m tb = some v) (ho : g.o = (I, itL D i) :: o) (hD : (D, lstObj vs n) ∈ g.t ++ c.ex) (hx : vs[i]? = none) (hb : g.b = 0)
    (h : ∀ G', k (.ret v) ⟨g.m, o, g.t, 0⟩ G') :
    Wg c G (exec (.Try [.Assign [.Name x px] (.Call (.Name "_parse_varint" pf) [.Name y py] [] pc) pa] [.ExceptHandler (some (.Name "StopIteration" np)) none [.Return (some (.Name tb pt)) pr] ph] [] [] pos) (ev c)) g k := by
  refine ⟨fun C T H s Q S q => wpAny_Try_except (wpAny_execs_cons (wpAny_Assign_Name (Call_ ?_ rfl) rfl))⟩
  have hcy : ∀ z, c.cl.lookup z = none := fun z => by rw [hcl]; rfl
  refine wpAny_mono ((wp_nameK (c := c.at G) (k := fun u g' => u = .ref 119 ∧ g' = g) hgf (globK_ok (Str.ofString "_parse_varint", .ref 119) (List.mem_of_getElem? (i := 3) rfl) _) ⟨rfl, rfl⟩).run (T.ck C) H s _ S ?_) (fun _ _ x => x) fun _ _ x => x.elim
  rintro u h1 tk1 g1 S1 ⟨rfl, rfl⟩
  refine callWith_K T.X (fnsK_ok 119 (List.mem_of_getElem? (i := 2) rfl) _) (args_cons (wpAny_mono ((wp_nameL (c := c.at G) (k := fun u g' => u = .ref I ∧ g' = g1) hy (hcy y) hmy ⟨rfl, rfl⟩).run (T.ck C) H _ _ S1 ?_) (fun _ _ x => x) fun _ _ x => x.elim) rfl) rfl rfl
  rintro u h2 tk2 g2 S2 ⟨rfl, rfl⟩
  refine args_nil ⟨T.X.keeps S2.fr.keep, ?_⟩
  obtain ⟨cs, z⟩ := S2
  have hI : (I, itL D i) ∈ cs ++ (H ++ g2.o) := List.mem_append_right _ (List.mem_append_right _ (by rw [ho]; exact .head _))
  have hne : D ≠ I := z.P.2 _ hI (D, lstObj vs n) hD
  have fl : ∀ q, q ∈ (cs ++ (H ++ g2.o) ++ (g2.t ++ c.ex)) → q.1 ≠ I → q ∈ (cs ++ (H ++ g2.o) ++ (g2.t ++ c.ex)).filter fun q => decide (q.1 ≠ I) := fun q hq hn => List.mem_filter.mpr ⟨hq, decide_eq_true hn⟩
  refine c_parseEnd (D := D) (n := n) (news := (cs ++ (H ++ g2.o) ++ (g2.t ++ c.ex)).filter fun q => decide (q.1 ≠ I)) hx T.B z.F T.X T.T C.hk R.1 (fun q hq => ?_) (fun q hq => ?_) fun e h' tk' G1 F1 RS U => ?_
  · rcases List.mem_cons.mp hq with rfl | hq
    · exact z.N _ (List.mem_append_left _ hI)
    · rcases List.mem_cons.mp hq with rfl | hq
      · exact z.N _ (List.mem_append_right _ hD)
      · exact z.N q (List.mem_filter.mp hq).1
  · rcases List.mem_cons.mp hq with rfl | hq
    · exact hne
    · exact of_decide_eq_true (List.mem_filter.mp hq).2
  · have hm0 : ∀ w, loc c.cl g2.m w = g2.m w := fun w => loc_none (hcy w)
    have ev2 : envX c.cn c.sc c.L c.a c.ccd c.cl = envOf c.cn c.sc c.L c.a c.ccd := hev
    dsimp only
    rw [← har, hev]
    rw [ev2] at RS
    refine caught_SN0 (T' := "StopIteration") RS F1 T.B U C.XB C.TB T.D KtsTurn.refl (by rfl) PyProof.Rows.Boot.«StopIteration» (by decide) isStop notTupStop stopStop ?_ C.hk hgs (by decide) ?_
    · intro h3 g3 T3 F3 N3 K3 X3 P3 D3
      refine wpAny_execs_cons (wpAny_Return_some (nameX_L (cl := []) F3 ((hm0 tb).trans hmt) ?_ C.hk (id (ok_split ht).1) (ok_split ht).2))
      refine q _ h3 _ ⟨g2.m, o, g2.t, 0⟩ g3 ⟨T.t.trans T3, K3, X3, P3, D3⟩ ⟨cs, F3, z.Y, fun q hq => N3 q (.tail _ ?_), ?_, Nat.zero_le _⟩ (h g3)
      · have hz := z.P
        rw [ho] at hz
        obtain ⟨z1, z2⟩ := hz
        rw [show cs ++ (H ++ (I, itL D i) :: o) = (cs ++ H) ++ (I, itL D i) :: o by simp] at z1
        rw [List.pairwise_append, List.pairwise_cons] at z1
        obtain ⟨w1, ⟨w2, w3⟩, w4⟩ := z1
        refine fl q ?_ ?_
        · rw [ho]
          simp only [List.mem_append, List.mem_cons] at hq ⊢
          rcases hq with (hq | hq | hq) | hq
          · exact .inl (.inl hq)
          · exact .inl (.inr (.inl hq))
          · exact .inl (.inr (.inr (.inr hq)))
          · exact .inr hq
        · rcases List.mem_append.mp hq with hq | hq
          · rw [← List.append_assoc] at hq
            rcases List.mem_append.mp hq with hq | hq
            · exact Ne.symm (w4 q hq _ (.head _))
            · exact w2 q hq
          · exact z2 _ (List.mem_append_right _ (List.mem_append_right _ (.head _))) q hq
      · have hz := z.P
        rw [ho] at hz
        exact ⟨hz.1.sublist (.append (.refl _) (.append (.refl _) (List.sublist_cons_self _ _))), fun p hp => hz.2 p (by
          rcases List.mem_append.mp hp with hp | hp
          · exact List.mem_append_left _ hp
          · exact List.mem_append_right _ ((List.mem_append.mp hp).elim (fun h => List.mem_append_left _ h) fun h => List.mem_append_right _ (.tail _ h)))⟩
    · exact PassesOwnAt.never
end
theorem post_mk {led : Nw} {ch : List Addr} {s₀ : Heap} {P : Heap → Heap → Value → Prop} {fl : Flow} {g : Sg} (h1 : ∀ q ∈ led, q.1 ∈ ch ∨ q ∈ g.o ++ g.t) (h2 : ∀ h', Apart g.o g.t → (∀ q ∈ g.o ++ g.t, h'.get? q.1 = some q.2 ∧ (q.1 ∉ led.map (·.1) → s₀.get? q.1 = none)) → P s₀ h' (retOf fl)) : PostW led ch s₀ P fl g := ⟨h1, h2⟩
section
variable {prog : Program} {w : World} {p : Program} {loose : List Str} {mean : ExcName → Option Value} {mg mb : Str → Option Value}
theorem o_addS {x y : Str} {t u : Tok} (hz : x.length + y.length ≤ 1000000) : ConL prog w p loose mean mg mb 126 [.str x t, .str y u] 1 (fun _ => True) [] [] (fun _ _ r => ∃ t, r = .str (x ++ y) t) := by
  refine conW [] [] (fun _ => rfl) (fun _ => rfl) (fun s => BindsTo.of_eq rfl) (fun c s₀ R l => vbody 12 ?_) (fun _ _ _ _ => ⟨.nil, fun _ h => nomatch h⟩) (fun _ h => nomatch h) (by rfl) (by rfl)
  refine wp_addS hz fun t => ?_
  refine post_mk (fun _ h => nomatch h) fun _ _ _ => ?_
  exact ⟨_, rfl⟩
theorem o_mulS {x : Str} {n : Int} {t u : Tok} (hx : x.length ≤ 16) (h0 : 0 ≤ n) (h1 : n ≤ 1048576) : ConL prog w p loose mean mg mb 147 [.str x t, .int n u] 1 (fun _ => True) [] [] (fun _ _ r => ∃ t, r = .str (Txt.mul x n) t) := by
  refine conW [] [] (fun _ => rfl) (fun _ => rfl) (fun s => BindsTo.of_eq rfl) (fun c s₀ R l => vbody 12 ?_) (fun _ _ _ _ => ⟨.nil, fun _ h => nomatch h⟩) (fun _ h => nomatch h) (by rfl) (by rfl)
  refine wp_mulS hx h0 h1 fun t => ?_
  refine post_mk (fun _ h => nomatch h) fun _ _ _ => ?_
  exact ⟨_, rfl⟩
end
section
variable {c : Cg} {g : Sg} {env : Env}
theorem wp_shl {a n : Int} {t u : Tok} {k : Kt Value} (hn : 0 ≤ n) (h2 : (Builtin.Int.intBits a : Int) + n ≤ 2 ^ 27) (h : ∀ t, g.b ≤ t → k (.int (a * 2 ^ n.toNat) t) g) : Wp c (binaryOp .LShift (.int a t) (.int n u)) g k := Wp.tok' (fun _ _ q => lshift_int hn h2 q) h
theorem wp_ixor {a b : Int} {t u : Tok} {k : Kt Value} (h : ∀ t, g.b ≤ t → k (.int (Builtin.bitXor a b) t) g) : Wp c (inplaceOp .BitXor (.int a t) (.int b u)) g k := Wp.tok' (fun _ _ q => ixor_int q) h
end
section
variable {c : Cg} {g : Sg}
theorem wp_hex {i : Int} {t : Tok} {k : Kt Value} (hz : (baseText "0x" 16 i).length ≤ 1000) (h : ∀ t, k (.str (baseText "0x" 16 i) t) g) : Wp c (call (.builtin "hex") [.int i t]) g k :=
  Wp.leaf fun _ H s Q S q => PySem.P.hex_of_int (q _ _ _ _ (fun e => S.toks e) (h _)) (Nat.le_trans hz (by decide))
theorem wp_keyed {a : Addr} {D : List (Int × PyData)} (hK : ∀ P, PyProof.Rows.KTD.keyedLook (fun b => (hd.heap_39 P).lookup b) a D = true) {pl : Sem Bool} {k : Kt (Value × List Value)} (h : k (.builtin "dict.get", [.ref a]) g) : Wp c (getMethod (.ref a) (Str.ofString "get") pl) g k :=
  ⟨fun O H s Q S q => PyProof.Rows.KTD.getMethod_keyed (kt_keyed_in O.X (hK _)) S.fr.keep (q _ _ s.toks _ S h)⟩
theorem each_look {h₀ : Heap} {k : Int} {P : Value → Prop} {els : Prop} {u : Str} : ∀ {D : List (Int × PyData)}, D.lookup k = some (.str u) → (∀ t, P (.str u t)) → PyProof.Rows.KTD.Each h₀ k P els (PyProof.Rows.KTD.asDat D)
  | [], h, _ => by cases h
  | (x, d) :: D, h, hp => by
    rw [List.lookup_cons] at h
    cases e : k == x with
    | true =>
      rw [e] at h
      cases h
      exact PyProof.Rows.KTD.each_hit (eq_of_beq e) (PyProof.Rows.KTD.opened_str hp)
    | false =>
      rw [e] at h
      exact PyProof.Rows.KTD.each_miss (by simpa using e) (each_look h hp)
theorem wp_get2 {a : Addr} {D : List (Int × PyData)} (hK : ∀ P, PyProof.Rows.KTD.keyedLook (fun b => (hd.heap_39 P).lookup b) a D = true) {i : Int} {tk tk2 : Tok} {x u : Str} {k : Kt Value} (hD : D.lookup i = some (.str u)) (h : ∀ t, k (.str u t) g) : Wp c (call (.builtin "dict.get") [.ref a, .int i tk, .str x tk2]) g k :=
  Wp.leaf fun O H s Q S q => PyProof.Rows.KTD.get2_keyed (kt_keyed_in O.X (hK _)) S.fr.keep (PyProof.V.Flat.str x tk2) (each_look hD fun t => q _ _ _ _ (fun e => S.toks e) (h t))
end
section
variable {prog : Program} {w : World} {p : Program} {loose : List Str} {mean : ExcName → Option Value} {mg mb : Str → Option Value}
noncomputable def wordOf : Nat → Str
  | 0 => "OPTIMIZED"
  | 1 => "NEWLOCALS"
  | _ => "VARARGS"
noncomputable def flagsD : List (Int × PyData) := [(1, .str "OPTIMIZED"), (2, .str "NEWLOCALS"), (4, .str "VARARGS"), (8, .str "VARKEYWORDS"), (16, .str "NESTED"), (32, .str "GENERATOR"), (64, .str "NOFREE"), (128, .str "COROUTINE"), (256, .str "ITERABLE_COROUTINE"), (512, .str "ASYNC_GENERATOR")]
noncomputable def wd (fl : Nat) : Nat → List Str
  | 0 => []
  | j + 1 => if fl / 2 ^ j % 2 = 1 then wd fl j ++ [wordOf j] else wd fl j
noncomputable def pfH (fl j : Nat) : Nat := fl / 2 ^ j * 2 ^ j
theorem pf_b1 : ∀ fl : Nat, fl < 8 → ∀ j : Nat, j < 3 → (Builtin.bitAnd (pfH fl j : Nat) ((1 : Int) * 2 ^ ((j : Nat) : Int).toNat) != 0) = (fl / 2 ^ j % 2 == 1) := by decide +kernel
theorem pf_b2 : ∀ fl : Nat, fl < 8 → ∀ j : Nat, j < 3 → fl / 2 ^ j % 2 = 1 → Builtin.bitXor (pfH fl j : Nat) ((1 : Int) * 2 ^ ((j : Nat) : Int).toNat) = (pfH fl (j + 1) : Nat) := by decide +kernel
theorem pf_b3 : ∀ fl : Nat, fl < 8 → ∀ j : Nat, j < 3 → (fl / 2 ^ j % 2 = 1 ∨ pfH fl j = pfH fl (j + 1)) ∧ (pfH fl (j + 1) = 0 ∨ j + 1 < 3) ∧ ((wd fl (j + 1)).map fun y => y.length).sum + (wd fl (j + 1)).length ≤ 1000 ∧ (wd fl j).length ≤ 3 ∧ (baseText "0x" 16 ((1 : Int) * 2 ^ ((j : Nat) : Int).toNat)).length ≤ 1000 := by decide +kernel
theorem pf_b4 : ∀ fl : Nat, fl < 8 → ∀ j : Nat, j < 3 → fl = 0 ∨ pfH fl (j + 1) ≠ 0 ∨ Txt.join (Str.ofString ", ") (wd fl (j + 1)) = wordsS fl := by decide +kernel
theorem pf_look : ∀ j : Nat, j < 3 → flagsD.lookup ((1 : Int) * 2 ^ ((j : Nat) : Int).toNat) = some (.str (wordOf j))
  | 0, _ => rfl
  | 1, _ => rfl
  | 2, _ => rfl
structure PfX where
  v : Int
  ns : List Value
  K : Addr
  e : Nat
  k : Tok
  i : Option Value
  fg : Option Value
noncomputable def pfL (X : PfX) : List (Str × Option Value) := [("names", some (.ref X.K)), ("flags", some (.int X.v X.k)), ("i", X.i), ("flag", X.fg)]
noncomputable def pfG (B : List (Str × Value)) (X : PfX) : Sg := ⟨lay (pfL X) fun y => B.reverse.lookup y, [(X.K, W.listOf X.ns.toArray X.e)], [], 0⟩
noncomputable def pfW (fl : Nat) (B : List (Str × Value)) (j : Nat) (g : Sg) : Prop := (j < 3 ∧ pfH fl j ≠ 0) ∧ ∃ X : PfX, (X.v = (pfH fl j : Nat) ∧ StrsAre X.ns (wd fl j)) ∧ g = pfG B X
theorem strs_len : ∀ {vs : List Value} {ys : List Str}, StrsAre vs ys → vs.length = ys.length
  | _, _, .nil => rfl
  | _, _, .cons _ _ h => congrArg (· + 1) (strs_len h)
theorem c_pfV {fl : Nat} (h1 : 1 ≤ fl) (h7 : fl ≤ 7) {tk : Tok} : ConL prog w p loose mean mg mb 112 [.int (fl : Int) tk] 2 (fun _ => True) [] [] (fun _ _ r => ∃ t, r = .str (wordsS fl) t) := by
  have hK : ∀ P, PyProof.Rows.KTD.keyedLook (fun b => (hd.heap_39 P).lookup b) 105 flagsD = true := fun _ => rfl
  have h8 : fl < 8 := Nat.lt_succ_of_le h7
  refine conW (binds := [("flags", .int (fl : Int) tk)]) [] [] (fun _ => rfl) (fun _ => rfl) (fun s => BindsTo.of_eq rfl) (fun c s₀ R l => vbody 40 ?_) (fun _ _ _ _ => ⟨.nil, fun _ h => nomatch h⟩) (fun _ h => nomatch h) (by rfl) (by rfl)
  intro K
  refine Wp.to (.lay (l := pfL ⟨fl, [], K, 0, tk, none, none⟩) (.cons rfl (.cons rfl (.cons rfl (.cons rfl .nil)))) (Offs.same.set (g := ⟨_, _, _, _⟩) rfl)) ?_
  refine wp_forR (by rfl) (vexpr 4 ?_) rfl
  intro t1
  refine ⟨32, t1, pfW fl [("flags", .int (fl : Int) tk)], rfl, by decide, ⟨⟨by decide, by simp [pfH]; omega⟩, ⟨fl, [], K, 0, tk, none, none⟩, ⟨by simp [pfH], .nil⟩, rfl⟩, ?_, ?_⟩
  case refine_2 =>
    rintro g ⟨⟨h, -⟩, -⟩
    exact absurd h (by decide)
  rintro j g t2 hj ⟨⟨j3, nz⟩, X, ⟨hv, hs⟩, rfl⟩
  obtain ⟨b3, b5, b7, b8, b9⟩ := pf_b3 fl h8 j j3
  have b1 := pf_b1 fl h8 j j3
  have b4 := pf_b4 fl h8 j j3
  refine wp_storeL rfl rfl (vbody 40 ?_)
  intro t3
  refine wp_shl (Int.natCast_nonneg _) (kbm_shl (m := 64) (intBits_le_64 (by decide) (by decide)) (by omega) (by decide)) fun t4 _ => ?_
  intro t5
  rw [hv]
  refine bif_mk (fun hb => ?_) fun hb => ?_
  · rw [b1] at hb
    have hb := eq_of_beq hb
    have hw : wd fl (j + 1) = wd fl j ++ [wordOf j] := if_pos hb
    refine wp_mAppend (mem_at 0 rfl) ?_
    refine wp_keyed hK ?_
    refine wp_hex b9 fun t6 => ?_
    refine wp_get2 hK (pf_look j j3) fun t7 => ?_
    refine wp_append (j := 0) rfl (by rw [List.size_toArray, strs_len hs]; exact Nat.le_trans b8 (by decide)) (its' := (X.ns ++ [Value.str (wordOf j) t7]).toArray) (by simp) ?_
    refine wp_aug (wp_loadL rfl rfl rfl (vexpr 4 (wp_ixor fun t8 _ => wp_storeL rfl rfl ?_)))
    rw [hv, pf_b2 fl h8 j j3 hb]
    refine bif_mk (fun hc => ?_) fun hc => ?_
    · have hz : pfH fl (j + 1) = 0 := by simpa using hc
      intro t9
      refine wp_join (mem_at 0 rfl) (hs.append' (.cons (wordOf j) t7 .nil)) (by decide) (by rw [← hw]; exact Nat.le_trans b7 (by decide)) fun t10 => ?_
      refine post_mk (fun _ h => nomatch h) fun _ _ _ => ⟨t10, ?_⟩
      rw [← hw, (b4.resolve_left (Nat.ne_of_gt h1)).resolve_left (fun h => h hz)]; rfl
    · have hz : pfH fl (j + 1) ≠ 0 := by simpa using hc
      exact turn_mk _ (.lay (l := pfL ⟨_, X.ns ++ [.str (wordOf j) t7], X.K, X.e + 1, t8, _, _⟩) (.cons rfl (.cons rfl (.cons rfl (.cons rfl .nil)))) ((((Offs.lay rfl).set (g := ⟨_, _, _, _⟩) rfl).set rfl).set rfl)) ⟨⟨b5.resolve_left hz, hz⟩, ⟨_, X.ns ++ [.str (wordOf j) t7], X.K, X.e + 1, t8, _, _⟩, ⟨rfl, hw ▸ hs.append' (.cons (wordOf j) t7 .nil)⟩, rfl⟩
  · rw [b1] at hb
    have hb : ¬ fl / 2 ^ j % 2 = 1 := by simpa using hb
    have hw : wd fl (j + 1) = wd fl j := if_neg hb
    have he := b3.resolve_left hb
    have hz : pfH fl (j + 1) ≠ 0 := he ▸ nz
    exact turn_mk _ (.lay (l := pfL ⟨X.v, X.ns, X.K, X.e, X.k, some (.int (j : Int) t2), some (.int (1 * 2 ^ ((j : Nat) : Int).toNat) t4)⟩) (.cons rfl (.cons rfl (.cons rfl (.cons rfl .nil)))) (((Offs.lay rfl).set (g := ⟨_, _, _, _⟩) rfl).set rfl)) ⟨⟨b5.resolve_left hz, hz⟩, ⟨X.v, X.ns, X.K, X.e, X.k, some (.int (j : Int) t2), some (.int (1 * 2 ^ ((j : Nat) : Int).toNat) t4)⟩, ⟨he ▸ hv, hw ▸ hs⟩, rfl⟩
theorem c_textV {t f fl : Nat} (ht : t ≤ 64) (hf : f ≤ 64) (h1 : 1 ≤ fl) (h2 : fl ≤ 7) {k1 k2 k3 : Tok} : ConL prog w p loose mean mg mb 352 [.int (t : Int) k1, .int (f : Int) k2, .int (fl : Int) k3] 4 (fun _ => True) [] [] (fun _ _ r => ∃ t', r = .str (txt t f fl) t') := by
  have hw := wordsS_len fl
  have m1 : (Txt.mul (Str.ofString "\t") (t : Int)).length ≤ 1 * 64 := len_mul_leN (by decide) (Int.ofNat_le.mpr ht)
  have m2 : (Txt.mul (Str.ofString "    ") (f : Int)).length ≤ 4 * 64 := len_mul_leN (by decide) (Int.ofNat_le.mpr hf)
  refine conW (binds := [("tabs", .int (t : Int) k1), ("fours", .int (f : Int) k2), ("flags", .int (fl : Int) k3)]) [] [] (fun _ => rfl) (fun _ => rfl) (fun s => BindsTo.of_eq rfl) (fun c s₀ R l => vbody 20 ?_) (fun _ _ _ _ => ⟨.nil, fun _ h => nomatch h⟩) (fun _ h => nomatch h) (by rfl) (by rfl)
  intro t1
  refine wp_opt (o_mulS (by decide) (Int.natCast_nonneg _) (Int.le_trans (Int.ofNat_le.mpr ht) (by decide))) (R.le rfl) fun t2 => ?_
  intro t3
  refine wp_opt (o_mulS (by decide) (Int.natCast_nonneg _) (Int.le_trans (Int.ofNat_le.mpr hf) (by decide))) (R.le rfl) fun t4 => ?_
  refine wp_opt (o_addS (Nat.le_trans (Nat.add_le_add m1 m2) (by decide))) (R.le rfl) fun t5 => ?_
  refine wp_opt (c_pfV h1 h2) (R.le rfl) fun t6 => ?_
  refine wp_opt (o_addS ?_) (R.le rfl) fun t7 => ?_
  · rw [Str.length_append]
    exact Nat.le_trans (Nat.add_le_add (Nat.add_le_add m1 m2) hw) (by decide)
  exact ⟨fun _ h => (nomatch h), fun _ _ _ => ⟨t7, congrArg (fun x => Value.str x t7) (txt_val _ _ _)⟩⟩
theorem c_textE {x y z : Int} {t f fl : Nat} (e1 : x = (t : Int)) (e2 : y = (f : Int)) (e3 : z = (fl : Int)) (ht : t ≤ 64) (hf : f ≤ 64) (h1 : 1 ≤ fl) (h2 : fl ≤ 7) {k1 k2 k3 : Tok} : ConL prog w p loose mean mg mb 352 [.int x k1, .int y k2, .int z k3] 4 (fun _ => True) [] [] (fun _ _ r => ∃ t', r = .str (txt t f fl) t') := by
  subst e1 e2 e3
  exact c_textV ht hf h1 h2
structure TkX where
  fin : List Ab
  rest : List Ab
  cur : List Row
  e : Nat
  I : Addr
  TT : Nw
  v1 : Option Value
noncomputable def tkG (T : TabZ) (D : Addr) (X : TkX) : Sg := ⟨lay [("number", X.v1)] fun y => if y = "tape" then some (.ref X.I) else ([("table", Value.ref T.t), ("octets", .ref D)] : List (Str × Value)).reverse.lookup y, [(X.I, itL D (2 * X.fin.length)), tabHead { T with e := X.e } X.cur], X.TT, 0⟩
structure TkI (T : TabZ) (rows : List Row) (us : List Ab) (D : Addr) (ob : Obj) (X : TkX) : Prop where
  h : X.fin ++ X.rest = us
  ab : X.cur.map Row.ab = X.fin.foldl layA (rows.map Row.ab)
  sub : ∀ q ∈ tabRest T rows ++ [(D, ob)], q ∈ X.TT
  fr : ∀ r ∈ X.cur, r ∈ rows ∨ (r.obj ∈ X.TT ∧ ∀ q ∈ tabLed T rows ++ [(D, ob)], q.1 ≠ r.a)
set_option maxHeartbeats 8000000 in
theorem c_take {T : TabZ} {rows : List Row} {us : List Ab} {D : Addr} {vs : List Value} {n : Nat} (hr : rows.length + us.length ≤ 60) (hD : @Ne Nat D T.l) (hrow : ∀ r ∈ rows, r.t ≤ 32 ∧ r.f ≤ 32 ∧ 1 ≤ r.fl ∧ r.fl ≤ 7)
    (hus : ∀ u ∈ us, u.1 < 2 ∧ u.2.1 ≤ 5 ∧ u.2.2.1 ≤ 5 ∧ 1 ≤ u.2.2.2 ∧ u.2.2.2 ≤ 7) (hvs : IntsAre vs (us.flatMap octA)) :
    ConT prog w p loose mean mg mb 380 [.ref T.t, .ref D] 60 (fun _ => True) (tabLed T rows ++ [(D, lstObj vs n)]) [T.l] (fun s h' r => r = .ref T.t ∧ ∃ rows', Put T rows rows' s h' ∧ rows'.map Row.ab = us.foldl layA (rows.map Row.ab)) := by
  refine conT (binds := [("table", .ref T.t), ("octets", .ref D)]) [tabHead T rows] (tabRest T rows ++ [(D, lstObj vs n)]) (fun _ => rfl) (fun _ => rfl) (fun s => BindsTo.of_eq rfl) (fun c s₀ R l har => wg_first 1 20 ?_) (fun _ _ _ N => ⟨List.pairwise_singleton _ _, fun p hp q hq => by
    rw [List.mem_singleton.mp hp]
    rcases List.mem_append.mp hq with hq | hq
    · exact (tabLed_rest N (fun _ h => List.mem_append_left _ h) q hq).2
    · rw [List.mem_singleton.mp hq]; exact hD⟩) (fun q hq => hq) (by rfl) (by rfl)
  refine wp_iter (vs := vs) (n := n) (List.mem_append_right _ (List.mem_append_left _ (List.mem_append_right (tabRest T rows) (.head _)))) fun I => ?_
  refine Wg.to (g' := tkG T D ⟨[], us, rows, T.e, I, tabRest T rows ++ [(D, lstObj vs n)], none⟩) (.lay (l := [("number", none)]) (m₀ := fun y => if y = "tape" then some (.ref I) else ([("table", Value.ref T.t), ("octets", .ref D)] : List (Str × Value)).reverse.lookup y) (.cons rfl .nil) (fun _ _ => rfl)) ?_
  refine wg_cons (wg_while (wh_ind (σ := TkX) (fun X => X.rest.length) (fun X g => TkI T rows us D (lstObj vs n) X ∧ g = tkG T D X) ⟨[], us, rows, T.e, I, tabRest T rows ++ [(D, lstObj vs n)], none⟩ ⟨⟨rfl, rfl, fun q hq => hq, fun r hr => .inl hr⟩, rfl⟩ ?_))
  rintro ⟨fin, rest, cur, e, I, TT, v1⟩ g G ⟨V, rfl⟩ IH
  have hfr : fin ++ rest = us := V.h
  have hab : cur.map Row.ab = fin.foldl layA (rows.map Row.ab) := V.ab
  refine wh_turn (vtest 4 ?_)
  cases rest with
  | nil =>
    have hfin : fin = us := by rw [← hfr, List.append_nil]
    subst hfin
    refine wg_cons (wg_tryEnd (D := D) (n := n) (vs := vs) rfl har rfl (R.le rfl) (by rfl) (by rfl) (by rfl) (by rfl) rfl rfl rfl (List.mem_append_left _ (V.sub _ (List.mem_append_right _ (.head _)))) (octs_none hvs) rfl fun G' => ?_)
    refine ⟨fun q hq => ?_, fun h' A hh => ⟨rfl, cur, ⟨e, (hh _ (.head _)).1, fun r hr => (V.fr r hr).imp id fun h => ?_⟩, hab⟩⟩
    · rcases List.mem_append.mp hq with hq | hq
      · rcases List.mem_cons.mp hq with rfl | hq
        · exact .inl (.head _)
        · exact .inr (.tail _ (V.sub q (List.mem_append_left _ hq)))
      · exact .inr (.tail _ (V.sub q (List.mem_append_right _ hq)))
    · have z := hh r.obj (.tail _ h.1)
      exact ⟨z.2 fun hm => by
        obtain ⟨q, hq, e⟩ := List.mem_map.mp hm
        exact h.2 q hq e, z.1⟩
  | cons u rest =>
    obtain ⟨b1, b2, b3, b4, b5⟩ := hus u (by rw [← hfr]; simp)
    obtain ⟨c1, c2, c3, c4, c5⟩ := num_at b1 b2 b3 b5
    obtain ⟨t1, t2, d1, d2⟩ := octs_at (hfr ▸ hvs)
    have hq64 : numA u / 64 < 64 := by omega
    have hsum : 64 * (numA u / 64) + numA u % 64 = numA u := Nat.div_add_mod _ _
    have hul : us.length = fin.length + (rest.length + 1) := by rw [← hfr, List.length_append, List.length_cons]
    have hcl : cur.length ≤ 100 := by
      have z1 : cur.length = (cur.map Row.ab).length := (List.length_map _).symm
      have z2 := foldA_len fin (rows.map Row.ab)
      rw [List.length_map] at z2
      rw [z1, hab]
      omega
    have hcb : ∀ r ∈ cur, r.t ≤ 32 ∧ r.f ≤ 32 ∧ 1 ≤ r.fl ∧ r.fl ≤ 7 := by
      intro r hr'
      have hm : r.ab ∈ cur.map Row.ab := List.mem_map_of_mem hr'
      rw [hab] at hm
      rcases foldA_mem fin hm with h | h
      · obtain ⟨q, hq, e⟩ := List.mem_map.mp h
        have := hrow q hq
        simp only [Row.ab, Prod.mk.injEq] at e
        omega
      · have := hus r.ab (by rw [← hfr]; exact List.mem_append_left _ h)
        simp only [Row.ab] at this
        omega
    have eu : ((2 + u.1) % 2, u.2.1, u.2.2.1, u.2.2.2) = u := by
      obtain ⟨u1, u2, u3, u4⟩ := u
      simp only [Prod.mk.injEq]
      dsimp only at b1
      exact ⟨by omega, trivial⟩
    refine wg_first 2 40 ?_
    refine wp_try (vbody 10 ?_)
    refine wp_conU (c_parse (n := n) hq64 (Nat.mod_lt _ (by decide)) d1 d2) (R.le rfl) (i := 0) rfl (List.forall_mem_cons.mpr ⟨.head _, List.forall_mem_cons.mpr ⟨in_all (List.mem_append_right [_, _] (V.sub _ (List.mem_append_right _ (.head _)))), List.forall_mem_nil _⟩⟩) ?_
    rintro r s h' _ ⟨⟨tn, rfl⟩, hI⟩
    refine ⟨[], _, fun _ h => (nomatch h), hI, ?_⟩
    rw [hsum]
    refine vbody 2 ?_
    intro k1 k2 k3
    refine wp_itemS (by rw [show Int.fmod (numA u : Int) (Int.ofNat (1 + 1)) = _ from c2]; exact Int.natCast_nonneg _) (by rw [show Int.fmod (numA u : Int) (Int.ofNat (1 + 1)) = _ from c2]; exact Int.ofNat_lt.mpr b1) (by rw [show Int.fmod (numA u : Int) (Int.ofNat (1 + 1)) = _ from c2]; exact Int.lt_trans (Int.ofNat_lt.mpr b1) (by decide)) fun k4 _ => ?_
    rw [show Txt.item (Str.ofString "KM") (Int.fmod (numA u : Int) (Int.ofNat (1 + 1))) = nmS (2 + u.1) from item_nm b1 c2]
    intro k5
    refine wp_fdiv (by decide) (by decide) fun k6 _ => ?_
    intro k7 k8 k9
    refine wp_fdiv (by decide) (by decide) fun k10 _ => ?_
    intro k11 k12 k13
    refine wp_fdiv (by decide) (by decide) fun k14 _ => ?_
    refine wp_opt (c_textE c3 c4 c5 (Nat.le_trans b2 (by decide)) (Nat.le_trans b3 (by decide)) b4 b5) (R.le rfl) fun k15 => ?_
    refine wp_put (T := { T with e := e }) (rows := cur) (c_lay hcl hcb ⟨Nat.le_trans b2 (by decide), Nat.le_trans b3 (by decide)⟩ ⟨b4, b5⟩) (R.le rfl) 1 rfl (fun q hq => in_all (List.mem_append_right [_, _] ?_)) fun v rows' e' new w1 w2 w3 => ?_
    · rcases List.mem_cons.mp hq with rfl | hq
      · exact V.sub _ (List.mem_append_left _ (.head _))
      · rcases List.mem_cons.mp hq with rfl | hq
        · exact V.sub _ (List.mem_append_left _ (.tail _ (.head _)))
        · obtain ⟨r, hr, rfl⟩ := List.mem_map.mp hq
          exact (V.fr r hr).elim (fun h => V.sub _ (List.mem_append_left _ (.tail _ (.tail _ (List.mem_map_of_mem h))))) fun h => h.1
    rw [eu] at w1
    have hno : ∀ q ∈ new, ∀ p ∈ tabLed T rows ++ [(D, lstObj vs n)], p.1 ≠ q.1 := fun q hq p hp => by
      rcases List.mem_append.mp hp with hp | hp
      · rcases List.mem_cons.mp hp with rfl | hp
        · exact w3 q hq (tabHead { T with e := e } cur) (.tail _ (.head _))
        · exact w3 q hq p (in_all (List.mem_append_right [_, _] (V.sub p (List.mem_append_left _ hp))))
      · exact w3 q hq p (in_all (List.mem_append_right [_, _] (V.sub p (List.mem_append_right _ hp))))
    have e9 : 2 * (fin ++ [u]).length = 2 * fin.length + 2 := by rw [List.length_append]; rfl
    refine wg_nil (Wh.to (.lay (l := [("number", some (.int (numA u : Int) tn))]) (m₀ := fun y => if y = "tape" then some (.ref I) else ([("table", Value.ref T.t), ("octets", .ref D)] : List (Str × Value)).reverse.lookup y) (.cons rfl .nil) ((Offs.lay rfl).set (g := ⟨_, _, _, _⟩) rfl)) (IH ⟨fin ++ [u], rest, rows', e', I, new ++ TT, some (.int (numA u : Int) tn)⟩ _ _ (Nat.lt_succ_self _) ⟨⟨?_, ?_, fun q hq => List.mem_append_right _ (V.sub q hq), fun r hr => ?_⟩, ?_⟩))
    · show (fin ++ [u]) ++ rest = us
      rw [List.append_assoc]; exact hfr
    · show rows'.map Row.ab = _
      rw [w1, hab, List.foldl_append]; rfl
    · rcases w2 r hr with h | h
      · exact (V.fr r h).imp id fun h => ⟨List.mem_append_right _ h.1, h.2⟩
      · exact .inr ⟨List.mem_append_left _ h, fun q hq => hno _ h q hq⟩
    · simp only [tkG, e9]; rfl
end
section
variable {c : Cg} {G : Heap} {g : Sg}
open Classical in
theorem wg_take {T : TabZ} {rows : List Row} {us : List Ab} {D : Addr} {vs : List Value} {n : Nat} {k : Kg Value} (i : Nat) (hi : g.o[i]? = some (tabHead T rows)) (hN : ∀ q ∈ tabRest T rows, q ∈ g.t ++ c.ex) (hD : (D, lstObj vs n) ∈ g.t ++ c.ex) (hb : g.b = 0) (R : Room c 60)
    (hr : rows.length + us.length ≤ 60) (hrow : ∀ r ∈ rows, r.t ≤ 32 ∧ r.f ≤ 32 ∧ 1 ≤ r.fl ∧ r.fl ≤ 7) (hus : ∀ u ∈ us, u.1 < 2 ∧ u.2.1 ≤ 5 ∧ u.2.2.1 ≤ 5 ∧ 1 ≤ u.2.2.2 ∧ u.2.2.2 ≤ 7) (hvs : IntsAre vs (us.flatMap octA))
    (h : ∀ (rows' : List Row) e (new : Nw) G', rows'.map Row.ab = us.foldl layA (rows.map Row.ab) → (∀ r ∈ rows', r ∈ rows ∨ r.obj ∈ new) → k (.ref T.t) ((g.upd i T.l (lstObj (rows'.map fun r => .ref r.a) e)).read new) G') : Wg c G (call (.ref 380) [.ref T.t, .ref D]) g k := by
  refine ⟨fun C Tg H s Q S q => ?_⟩
  obtain ⟨cs, x⟩ := S
  have hm : tabHead T rows ∈ cs ++ (H ++ g.o) := List.mem_append_right _ (List.mem_append_right _ (List.mem_of_getElem? hi))
  have hne : @Ne Nat D T.l := x.P.2 _ hm (D, lstObj vs n) hD
  refine c_take (n := n) hr hne hrow hus hvs _ _ _ _ _ _ _ _ _ _ _ _ _ _ _ _ _ Tg.B x.F Tg.X Tg.T C.XB C.TB Tg.D C.hk R.1 R.2 True.intro (fun q hq => x.N q ?_) fun r h' tk' h₀' KT F' B' X' T' D' K P => ?_
  · rcases List.mem_append.mp hq with hq | hq
    · rcases List.mem_cons.mp hq with rfl | hq
      · exact List.mem_append_left _ hm
      · exact List.mem_append_right _ (hN q hq)
    · rw [List.mem_singleton.mp hq]; exact List.mem_append_right _ hD
  · obtain ⟨rfl, rows', ⟨e', h1, h2⟩, h3⟩ := P
    have key : ∀ q ∈ (rows'.filter fun r => decide (r ∉ rows)).map Row.obj, s.heap.get? q.1 = none ∧ h'.get? q.1 = some q.2 := fun q hq => by
      obtain ⟨r, hr, rfl⟩ := List.mem_map.mp hq
      obtain ⟨r1, r2⟩ := List.mem_filter.mp hr
      exact (h2 r r1).resolve_left (of_decide_eq_true r2)
    have y := St.updG (c := c.at G) (G := h₀') x hi F' (fun q hq hne => keptF_get K Tg.B (x.N q hq).2.1 (x.N q hq).2.2 (fun hm => hne (List.mem_singleton.mp hm)) (x.N q hq).1) h1 (fun b e => KT.none_ b e) (tk' := tk') (by rw [hb]; exact Nat.zero_le _)
    have hG : ∀ q ∈ (rows'.filter fun r => decide (r ∉ rows)).map Row.obj, q.1 ≠ c.L ∧ h₀'.get? q.1 = none := fun q hq => by
      have := fresh_of x.F (key q hq).1
      exact ⟨this.1, KT.none_ _ this.2⟩
    refine q _ _ _ _ h₀' ⟨Tg.t.trans KT, B', X', T', D'⟩ (St.read (new := (rows'.filter fun r => decide (r ∉ rows)).map Row.obj) y (fun q hq => ⟨(key q hq).2, hG q hq⟩) fun q hq p hp => ?_) (h rows' e' _ h₀' h3 fun r hr => (Classical.em (r ∈ rows)).imp id fun hn => List.mem_map_of_mem (List.mem_filter.mpr ⟨hr, decide_eq_true hn⟩))
    intro e
    have hp' : ∃ o, s.heap.get? p.1 = some o := by
      rcases List.mem_append.mp hp with hp | hp
      · exact ⟨_, (x.N p (List.mem_append_left _ (List.mem_append_left _ hp))).1⟩
      · rcases List.mem_append.mp hp with hp | hp
        · exact ⟨_, (x.N p (List.mem_append_left _ (List.mem_append_right _ (List.mem_append_left _ hp)))).1⟩
        · rcases List.mem_or_eq_of_mem_set hp with hp | rfl
          · exact ⟨_, (x.N p (List.mem_append_left _ (List.mem_append_right _ (List.mem_append_right _ hp)))).1⟩
          · exact ⟨_, (x.N _ (List.mem_append_left _ hm)).1⟩
    obtain ⟨o, ho⟩ := hp'
    rw [← e, (key q hq).1] at ho; cases ho
theorem wp_conP {fa : Addr} {vs : List Value} {n : Nat} {led : Nw} {P : Heap → Heap → Value → Prop} {k : Kt Value} (C : ConL c.prog c.w c.p c.loose c.mean c.mg c.mb fa vs n (fun _ => True) led [] P) (R : Room c n) (hN : ∀ q ∈ led, q ∈ g.o ++ (g.t ++ c.ex))
    (h : ∀ r s h', P s h' r → ∃ (D : Addr) (o : Obj) (new : Nw), NewIn s h' ((D, o) :: new) ∧ (∀ q ∈ new, q.1 ≠ D) ∧ k r ((g.push D o).read new)) : Wp c (call (.ref fa) vs) g k :=
  Wp.leaf fun O H s Q ⟨cs, x⟩ q => ConL.use0n C O.B x.F O.X O.T O.hk R.1 R.2 True.intro x.N (fun q hq => by
      have := hN q hq
      simp only [List.mem_append] at this ⊢
      rcases this with h | h | h
      · exact .inl (.inr (.inr h))
      · exact .inr (.inl h)
      · exact .inr (.inr h)) fun r h' tk' F' N' K FN p => by
    obtain ⟨D, o, new, hn, hne, hk⟩ := h r _ _ p
    refine q _ _ _ _ (fun e => ?_) hk
    obtain ⟨cs2, y⟩ := St.read ⟨F', x.Y, N', x.P, e⟩ (fun q hq => ⟨(hn q (.tail _ hq)).2, fresh_of x.F (hn q (.tail _ hq)).1⟩) fun q hq p hp => Ne.symm (FN _ (hn q (.tail _ hq)).1 p (List.mem_append_left _ hp))
    have hD : ∀ q ∈ (cs2 ++ H) ++ g.o ++ ((new ++ g.t) ++ c.ex), q.1 ≠ D := fun q hq => by
      rcases List.mem_append.mp hq with hq | hq
      · rw [List.append_assoc] at hq
        rcases List.mem_append.mp hq with hq | hq
        · have : q.1 ∈ cs2.map (·.1) := List.mem_map_of_mem hq
          rw [cells_fst y.Y, ← cells_fst x.Y] at this
          obtain ⟨z, hz, e⟩ := List.mem_map.mp this
          exact e ▸ FN _ (hn _ (.head _)).1 z (List.mem_append_left _ (List.mem_append_left _ hz))
        · exact FN _ (hn _ (.head _)).1 q (List.mem_append_left _ (List.mem_append_right _ hq))
      · rw [List.append_assoc] at hq
        rcases List.mem_append.mp hq with hq | hq
        · exact hne q hq
        · exact FN _ (hn _ (.head _)).1 q (List.mem_append_right _ hq)
    refine ⟨cs2, y.F, y.Y, fun q hq => ?_, ?_, y.b⟩
    · have : q = (D, o) ∨ q ∈ cs2 ++ (H ++ g.o) ++ ((new ++ g.t) ++ c.ex) := by
        simp only [Sg.push, Sg.read, List.mem_append, List.mem_cons] at hq ⊢
        rcases hq with (h | h | h | h) | h
        · exact .inr (.inl (.inl h))
        · exact .inr (.inl (.inr (.inl h)))
        · exact .inl h
        · exact .inr (.inl (.inr (.inr h)))
        · exact .inr (.inr h)
      rcases this with rfl | hq
      · exact ⟨(hn _ (.head _)).2, fresh_of x.F (hn _ (.head _)).1⟩
      · exact y.N q hq
    · have := apart_push (a := cs2 ++ H) (b := g.o) (T := (new ++ g.t) ++ c.ex) (p := (D, o)) (by rw [List.append_assoc]; exact y.P) hD
      rwa [List.append_assoc] at this
theorem wg_cut {st : Stmt} {rest : List Stmt} {env : Env} {k : Kg Flow} (M : Sg → Prop) (h : Wg c G (exec st env) g fun fl g' G' => fl = .next ∧ ∃ g'', Sg.To (c.at G') g' g'' ∧ M g'') (hk : ∀ g' G', M g' → Wg c G' (execs rest env) g' k) : Wg c G (execs (st :: rest) env) g k :=
  wg_cons ⟨fun C T H s Q S q => h.run C T H s Q S fun fl h' tk' g' G' T' S' ⟨e, g'', e', m⟩ => by
    subst e
    exact q .next h' tk' g' G' T' S' ((hk g'' G' m).to e')⟩
end
structure RnX where
  S : SRr
  T : Nw
  v1 : Option Value
  v2 : Option Value
  v3 : Option Value
  v4 : Option Value
noncomputable def CR.tb (z : CR) (S : SRr) (i : Nat) : TabZ := { z.T i with e := S.e i }
noncomputable def rnN (X : RnX) : List (Str × Option Value) := [("k", X.v1), ("v", X.v2), ("table", X.v3), ("early", X.v4)]
noncomputable def rnM (z : CR) : Mp := fun y => if y = "told" then some (.ref z.W) else if y = "letters" then some (.ref z.Lt) else if y = "tables" then some (.ref z.X) else ([("numbers", Value.ref z.Nn)] : List (Str × Value)).reverse.lookup y
noncomputable def rnO (z : CR) (S : SRr) : Nw := [(z.W, lstObj (S.zs.map fun y => .ref y.D) S.eW), (z.Lt, lstObj (S.ls.map fun l => .ref l.O) S.eL), tabHead (z.tb S 2) (S.r 2), tabHead (z.tb S 1) (S.r 1), tabHead (z.tb S 0) (S.r 0)]
noncomputable def rnG (z : CR) (X : RnX) : Sg := ⟨lay (rnN X) (rnM z), rnO z X.S, X.T, 0⟩
structure RnI (z : CR) (X : RnX) : Prop where
  tr : ∀ i, i < 3 → ∀ q ∈ tabRest (z.T i) (X.S.r i), q ∈ X.T
  tl : ∀ l ∈ X.S.ls, l.obj ∈ X.T
  ts : ∀ y ∈ X.S.zs, ∀ q ∈ showLed y, q ∈ X.T
  tx : (z.X, lstObj [.ref (z.T 0).t, .ref (z.T 1).t, .ref (z.T 2).t] 0) ∈ X.T
  tn : (z.Nn, lstObj z.vs z.n) ∈ X.T
theorem rnO_get {z : CR} {S : SRr} : ∀ {i : Nat}, i < 3 → (rnO z S)[4 - i]? = some (tabHead (z.tb S i) (S.r i))
  | 0, _ => rfl
  | 1, _ => rfl
  | 2, _ => rfl
theorem rnO_put {z : CR} {S : SRr} {rows : List Row} {e : Nat} : ∀ {i : Nat}, i < 3 → (rnO z S).set (4 - i) ((z.tb S i).l, lstObj (rows.map fun r => .ref r.a) e) = rnO z (S.put i rows e)
  | 0, _ => rfl
  | 1, _ => rfl
  | 2, _ => rfl
theorem rn_upd {g : Sg} {z : CR} {S : SRr} {rows : List Row} {e i : Nat} (hi : i < 3) (hg : g.o = rnO z S) : g.upd (4 - i) (z.tb S i).l (lstObj (rows.map fun r => .ref r.a) e) = ⟨g.m, rnO z (S.put i rows e), g.t, g.b⟩ := by
  obtain ⟨m, o, t, b⟩ := g
  have hg : o = rnO z S := hg
  subst hg
  exact congrArg (fun o => (⟨m, o, t, b⟩ : Sg)) (rnO_put hi)
theorem RnI.put {z : CR} {S : SRr} {T new : Nw} {v1 v2 v3 v4 u1 u2 u3 u4 : Option Value} (V : RnI z ⟨S, T, v1, v2, v3, v4⟩) {i : Nat} {rows : List Row} {e : Nat} (hi : i < 3) (hr : ∀ r ∈ rows, r ∈ S.r i ∨ r.obj ∈ new) : RnI z ⟨S.put i rows e, new ++ T, u1, u2, u3, u4⟩ := by
  refine ⟨fun j hj q hq => ?_, fun l hl => List.mem_append_right _ (V.tl l hl), fun y hy q hq => List.mem_append_right _ (V.ts y hy q hq), List.mem_append_right _ V.tx, List.mem_append_right _ V.tn⟩
  by_cases h : j = i
  · subst h
    rcases List.mem_cons.mp hq with rfl | hq
    · exact List.mem_append_right _ (V.tr j hj _ (.head _))
    · rcases List.mem_cons.mp hq with rfl | hq
      · exact List.mem_append_right _ (V.tr j hj _ (.tail _ (.head _)))
      · obtain ⟨r, hr', rfl⟩ := List.mem_map.mp hq
        have hr' : r ∈ rows := by simpa [SRr.put] using hr'
        exact (hr r hr').elim (fun h => List.mem_append_right _ (V.tr j hj _ (.tail _ (.tail _ (List.mem_map_of_mem h))))) fun h => List.mem_append_left _ h
  · refine List.mem_append_right _ (V.tr j hj q ?_)
    have e : (S.put i rows e).r j = S.r j := if_neg h
    rwa [e] at hq
section
variable {prog : Program} {w : World} {p : Program} {loose : List Str} {mean : ExcName → Option Value} {mg mb : Str → Option Value} {f : Addr} {vs : List Value} {n : Nat} {H : Heap → Prop} {led : List (Addr × Obj)} {ch : List Addr}
theorem put_added_cut {T : TabZ} {rows : List Row} {nm t f fl : Nat} {s h' : Heap} (h : Added T (rows.filter fun r => !(r.nm % 2 == nm % 2)) nm t f fl s h') :
    ∃ rows', Put T rows rows' s h' ∧ rows'.map Row.ab = ((rows.map Row.ab).filter fun a => !(a.1 == nm % 2)) ++ [(nm % 2, t, f, fl)] := by
  obtain ⟨rows', ⟨e, h1, h2⟩, h3⟩ := put_added h
  refine ⟨rows', ⟨e, h1, fun r hr => (h2 r hr).elim (fun q => .inl (List.mem_filter.mp q).1) .inr⟩, ?_⟩
  rw [h3, map_cut]
end
theorem maxT_ab (rows : List Row) : maxT rows = mTA (rows.map Row.ab) := by unfold maxT mTA; rw [List.foldl_map]; rfl
theorem maxF_ab (rows : List Row) : maxF rows = mFA (rows.map Row.ab) := by unfold maxF mFA; rw [List.foldl_map]; rfl
section
variable {prog : Program} {w : World} {p : Program} {loose : List Str} {mean : ExcName → Option Value} {mg mb : Str → Option Value}
theorem foldmax_le (f : Row → Nat) (b : Nat) : ∀ (rows : List Row) (a : Nat), a ≤ b → (∀ r ∈ rows, f r ≤ b) → rows.foldl (fun a r => max a (f r)) a ≤ b
  | [], _, h, _ => h
  | r :: rs, a, h, hr => foldmax_le f b rs _ (Nat.max_le.mpr ⟨h, hr r (.head _)⟩) fun q hq => hr q (.tail _ hq)
theorem maxT_le {rows : List Row} {b : Nat} (h : ∀ r ∈ rows, r.t ≤ b) : maxT rows ≤ b := foldmax_le Row.t b rows 0 (Nat.zero_le _) h
theorem maxF_le {rows : List Row} {b : Nat} (h : ∀ r ∈ rows, r.f ≤ b) : maxF rows ≤ b := foldmax_le Row.f b rows 0 (Nat.zero_le _) h
theorem c_text {t f fl : Nat} (ht : t ≤ 64) (hf : f ≤ 64) (h1 : 1 ≤ fl) (h2 : fl ≤ 7) {k1 k2 k3 : Tok} : Con prog w p loose mean mg mb 352 [.int (t : Int) k1, .int (f : Int) k2, .int (fl : Int) k3] 4 (fun _ => True) [] (fun _ _ r => ∃ t', r = .str (txt t f fl) t') := (c_textV ht hf h1 h2).con
theorem c_textI {x y z : Int} (hx : 0 ≤ x ∧ x ≤ 64) (hy : 0 ≤ y ∧ y ≤ 64) (hz : 1 ≤ z ∧ z ≤ 7) {k1 k2 k3 : Tok} : Con prog w p loose mean mg mb 352 [.int x k1, .int y k2, .int z k3] 4 (fun _ => True) [] (fun _ _ r => ∃ t', r = .str (txt x.toNat y.toNat z.toNat) t') := by
  have h := c_text (prog := prog) (w := w) (p := p) (loose := loose) (mean := mean) (mg := mg) (mb := mb) (t := x.toNat) (f := y.toNat) (fl := z.toNat) (k1 := k1) (k2 := k2) (k3 := k3) (by omega) (by omega) (by omega) (by omega)
  rw [show ((x.toNat : Nat) : Int) = x by omega, show ((y.toNat : Nat) : Int) = y by omega, show ((z.toNat : Nat) : Int) = z by omega] at h
  exact h
theorem max_int (a b : Nat) : (if (b : Int) > (a : Int) then (b : Int) else (a : Int)) = ((max a b : Nat) : Int) := by split <;> omega
theorem max_blank (t f bf : Nat) : (if ((t + 4 * f : Nat) : Int) - (t : Int) > ((4 * bf : Nat) : Int) then ((t + 4 * f : Nat) : Int) - (t : Int) else ((4 * bf : Nat) : Int)) = ((4 * max bf f : Nat) : Int) := by split <;> omega
theorem o_add {a b : Int} {t u : Tok} : ConL prog w p loose mean mg mb 126 [.int a t, .int b u] 1 (fun _ => True) [] [] (fun _ _ r => ∃ t, r = .int (a + b) t) := by
  refine conW [] [] (fun _ => rfl) (fun _ => rfl) (fun s => BindsTo.of_eq rfl) (fun c s₀ R l => vbody 12 ?_) (fun _ _ _ _ => ⟨.nil, fun _ h => nomatch h⟩) (fun _ h => nomatch h) (by rfl) (by rfl)
  intro t
  refine post_mk (fun _ h => nomatch h) fun _ _ _ => ?_
  exact ⟨_, rfl⟩
end
section
variable {c : Cg} {g : Sg} {l : List (Str × Option Value)} {m₀ : Mp}
theorem wp_max {a b : Int} {t u : Tok} {k : Kt Value} (h : ∀ t, k (.int (if b > a then b else a) t) g) : Wp c (call (.builtin "max") [.int a t, .int b u]) g k :=
  Wp.leaf fun _ H s Q ⟨cs, x⟩ q => max_two_N rfl x.F x.N fun h' tk F' N' => q _ h' tk g (fun e => ⟨cs, F', x.Y, N', x.P, e⟩) (h _)
end
section
variable {prog : Program} {w : World} {p : Program} {loose : List Str} {mean : ExcName → Option Value} {mg mb : Str → Option Value}
theorem o_sub {a b : Int} {t u : Tok} : ConL prog w p loose mean mg mb 161 [.int a t, .int b u] 1 (fun _ => True) [] [] (fun _ _ r => ∃ t, r = .int (a - b) t) := by
  refine conW [] [] (fun _ => rfl) (fun _ => rfl) (fun s => BindsTo.of_eq rfl) (fun c s₀ R l => vbody 12 ?_) (fun _ _ _ _ => ⟨.nil, fun _ h => nomatch h⟩) (fun _ h => nomatch h) (by rfl) (by rfl)
  intro t
  refine post_mk (fun _ h => nomatch h) fun _ _ _ => ?_
  exact ⟨_, rfl⟩
theorem o_fdiv {a b : Int} {t u : Tok} (hb : b ≠ 0) (hs : b.natAbs < 1073741824) : ConL prog w p loose mean mg mb 133 [.int a t, .int b u] 1 (fun _ => True) [] [] (fun _ _ r => ∃ t, r = .int (a.fdiv b) t) := by
  refine conW [] [] (fun _ => rfl) (fun _ => rfl) (fun s => BindsTo.of_eq rfl) (fun c s₀ R l => vbody 12 ?_) (fun _ _ _ _ => ⟨.nil, fun _ h => nomatch h⟩) (fun _ h => nomatch h) (by rfl) (by rfl)
  refine wp_fdiv hb hs fun t _ => ?_
  refine post_mk (fun _ h => nomatch h) fun _ _ _ => ?_
  exact ⟨_, rfl⟩
end
section
variable {c : Cg} {g : Sg}
theorem wp_added {T : TabZ} {rows rows' : List Row} {nm t f fl n : Nat} {fa : Addr} {vs : List Value} {k : Kt Value} (C : ConL c.prog c.w c.p c.loose c.mean c.mg c.mb fa vs n (fun _ => True) (tabLed T rows) [T.l] (fun s h' _ => Added T rows' nm t f fl s h')) (R : Room c n) (i : Nat) (hi : g.o[i]? = some (tabHead T rows)) (hN : ∀ q ∈ tabRest T rows, q ∈ g.o ++ (g.t ++ c.ex))
    (h : ∀ v (r : Row) e, r.nm = nm ∧ r.t = t ∧ r.f = f ∧ r.fl = fl → (∀ q ∈ g.o ++ (g.t ++ c.ex), q.1 ≠ r.a) → k v ((g.upd i T.l (lstObj ((rows' ++ [r]).map fun r => .ref r.a) e)).read [r.obj])) : Wp c (call (.ref fa) vs) g k :=
  wp_conU C R hi (List.forall_mem_cons.mpr ⟨List.mem_append_left _ (List.mem_of_getElem? hi), hN⟩) fun v _ _ FN ⟨r, e, a1, a2, a3, a4, a5, a6, a7⟩ => ⟨[r.obj], _, fun q hq => by rw [List.mem_singleton.mp hq]; exact ⟨a5, a6⟩, a7, h v r e ⟨a1, a2, a3, a4⟩ (FN _ a5)⟩
end
section
variable {prog : Program} {w : World} {p : Program} {loose : List Str} {mean : ExcName → Option Value} {mg mb : Str → Option Value}
structure WrX where
  tb : Nat
  bf : Nat
  k1 : Tok
  k2 : Tok
  mv : Option Value
  tx : Option Value
noncomputable def wrL (x : WrX) : List (Str × Option Value) := [("tabs", some (.int x.tb x.k1)), ("blanks", some (.int ((4 * x.bf : Nat) : Int) x.k2)), ("mark", x.mv), ("text", x.tx)]
noncomputable def wrB (T : TabZ) (site nm fl : Nat) (ts tn tf : Tok) : List (Str × Value) := [("table", .ref T.t), ("site", .int (site : Int) ts), ("name", .str (nmS nm) tn), ("flags", .int (fl : Int) tf)]
noncomputable def wrV (rows : List Row) : List Value := rows.map fun r => .str (txt r.t r.f r.fl) r.k2
noncomputable def wrG (T : TabZ) (rows : List Row) (B : List (Str × Value)) (D : Addr) (x : WrX) : Sg := ⟨lay (wrL x) fun y => B.reverse.lookup y, [tabHead T rows], (D, PyProof.Rows.LCg.lst (wrV rows)) :: tabRest T rows, 0⟩
noncomputable def wrW (T : TabZ) (rows : List Row) (B : List (Str × Value)) (D : Addr) (j : Nat) (g : Sg) : Prop := ∃ x : WrX, (x.tb = maxT (rows.take j) ∧ x.bf = maxF (rows.take j)) ∧ g = wrG T rows B D x
theorem max_take (f : Row → Nat) {rows : List Row} {j : Nat} {r : Row} (h : rows[j]? = some r) : (rows.take (j + 1)).foldl (fun a r => max a (f r)) 0 = max ((rows.take j).foldl (fun a r => max a (f r)) 0) (f r) := by
  rw [List.take_succ, h]; simp
end
theorem compP_ind {R : Nat → Nat → List Value → List (Addr × Obj) → Prop} {α : Type} (rows : List α) (val : α → Value) {led : List (Addr × Obj)} {n : Nat} (hn : n = rows.length) (zero : R 0 rows.length (rows.map val) led)
    (succ : ∀ done r rest, rows = done ++ r :: rest → R rest.length (done.length + 1) (done.map val ++ [val r]) led → R (rest.length + 1) done.length (done.map val) led) : R n 0 [] led := by
  have all : ∀ rest done, rows = done ++ rest → R rest.length done.length (done.map val) led := by
    intro rest
    induction rest with
    | nil => intro done e; rw [List.append_nil] at e; subst e; exact zero
    | cons r rest ih =>
      intro done e
      refine succ done r rest e ?_
      have := ih (done ++ [r]) (by rw [e]; simp)
      simpa using this
  have := all rows [] rfl
  rw [hn]; simpa using this
section
variable {c : Cg} {g : Sg}
theorem wp_compP {it : PySem.Expr} {x y : Str} {px py tp ep pos : Pos} {tk : Nat} {scope : Scope} {cl : List (Str × Addr)} {ax : Addr} {rows : List Row} {l : Nat} {k : Kt Value}
    (hclos : closureFor scope (ev c) = pure cl) (hcell : ∀ y ∈ scope.names, y.2 ≠ .cell) (hnames : ∀ y ∈ scope.names, y.2 = .local → scope.names.lookup y.1 = some .local) (hx : scope.names.lookup x = some .local) (hy : scope.names.lookup y = some .local) (hxy : x ≠ y) (hk : scope.kind = .function) (hs : ∀ v, foldedSetIterable it (ev c) v = pure v)
    (hyk : ∀ C, (compEnvC scope cl C (ev c)).kindOf y = some .local) (yd : (y == ("__debug__" : Str)) = false) (kd : (relabel scope (ev c)).kind = .function)
    (he : Wp c (eval it (ev c)) g fun v g' => v = .ref ax ∧ g' = g) (hn : rows.length ≤ 1000) (hm : (ax, lstObj (rows.map fun r => .ref r.a) l) ∈ g.o ++ (g.t ++ c.ex)) (hr : ∀ r ∈ rows, r.obj ∈ g.o ++ (g.t ++ c.ex))
    (fin : ∀ D, k (.ref D) (g.push D (PyProof.Rows.LCg.lst (rows.map fun r => .str (txt r.t r.f r.fl) r.k2)))) : Wp c (eval (.ListComp (.Name y ep) [⟨.Tuple [.Name x px, .Name y py] tk tp, it, [], 0⟩] scope pos) (ev c)) g k := by
  refine Wp.leaf fun O H s Q S q => ?_
  refine PyProof.Rows.LCp.ListComp_P S.fr hclos hcell hk hnames hx hy hxy (he.run O H s _ S ?_) hs
  rintro v h' tk' g' ⟨cs, x'⟩ ⟨rfl, rfl⟩
  have up : ∀ {q : Addr × Obj}, q ∈ g'.o ++ (g'.t ++ c.ex) → q ∈ cs ++ (H ++ g'.o) ++ (g'.t ++ c.ex) := fun hq => by
    simp only [List.mem_append] at hq ⊢
    exact hq.elim (fun h => .inl (.inr (.inr h))) .inr
  refine PyProof.Rows.LCp.SrcLP.ledger (its := (rows.map fun (r : Row) => Value.ref r.a).toArray) (k := l) rfl x'.F x'.N (up hm) (by rw [List.size_toArray, List.length_map]; exact Nat.le_trans hn (by decide)) fun g'' => ?_
  refine compP_ind rows (fun r => .str (txt r.t r.f r.fl) r.k2) (by simp) ?_ ?_
  · refine PyProof.Rows.LCp.CompRestP.zero ?_
    intro D h3 tk3 F3 N3 off
    exact q _ _ _ _ (fun hb => St.fin (m := g'.m) (o := g'.o) F3 x'.Y N3 x'.P (off1_mem off) hb) (fin D)
  · intro done r rest e IH
    refine PyProof.Rows.LCp.CompRestP.succ ?_
    intro v hv
    have hv' : v = .ref r.a := by
      rw [e] at hv; simp at hv; exact hv.symm
    refine ⟨r.a, r.obj.2, .str (nmS r.nm) r.k1, .str (txt r.t r.f r.fl) r.k2, r.n, hv', up (hr r (by rw [e]; simp)), rfl, rfl, ?_⟩
    intro I oI C oC D m2 h2 tk2 E' hC hx hy F2 N2 off ne
    refine PySem.W.LCgL.ld_own N2 (.tail _ (.head _)) hC hy ?_ kd (hyk C) yd
    exact ⟨h2, tk2, _, rfl, F2, N2, off, .inr ⟨_, up hm, rfl, _, rfl⟩, IH⟩
end
section
variable {prog : Program} {w : World} {p : Program} {loose : List Str} {mean : ExcName → Option Value} {mg mb : Str → Option Value}
theorem c_values {T : TabZ} {rows : List Row} (hr : rows.length ≤ 1000) : ConL prog w p loose mean mg mb 291 [.ref T.t] 4 (fun _ => True) (tabLed T rows) [] (fun s h' r => ∃ D, r = .ref D ∧ NewIn s h' [(D, PyProof.Rows.LCg.lst (rows.map fun r => .str (txt r.t r.f r.fl) r.k2))]) := by
  refine conW (binds := [("self", .ref T.t)]) [] (tabLed T rows) (fun _ => rfl) (fun _ => rfl) (fun s => BindsTo.of_eq rfl) (fun c s₀ R l => vbody 20 ?_) (fun _ _ _ _ => ⟨.nil, fun _ h => nomatch h⟩) (fun q hq => hq) (by rfl) (by rfl)
  refine wp_compP (by with_unfolding_all rfl) (by decide) (by decide) rfl rfl (by decide) rfl (fun _ => rfl) (fun _ => rfl) (by decide) rfl (vexpr 8 (wp_own (mem_at 1 rfl) (mem_at 2 rfl) rfl (fun _ => rfl) (fun _ => rfl) rfl ⟨rfl, rfl⟩)) hr (mem_at 0 rfl) (fun r hm => in_all (List.mem_append_right [_, _, _] (List.mem_map_of_mem hm))) fun D => ?_
  exact ⟨fun q hq => .inr (.tail _ hq), fun h' A hh => ⟨D, rfl, List.forall_mem_cons.mpr ⟨⟨(hh _ (.head _)).2 fun hm => by
    obtain ⟨q, hq, e⟩ := List.mem_map.mp hm
    exact A.2 _ (.head _) q hq e, (hh _ (.head _)).1⟩, List.forall_mem_nil _⟩⟩⟩
end
section
variable {c : Cg} {g : Sg}
theorem wp_setOwn {x d C n f : Nat} {es : List DictEntry} {iv v : Value} {k : Kt Unit} (hx : (x, instObj C d) ∈ g.o ++ (g.t ++ c.ex)) (hD : (d, dictOf es n) ∈ g.o ++ (g.t ++ c.ex)) (hq : ∀ P, (noSeq (hd.heap_39 P) C && isFn (hd.heap_39 P) (.ref f)) = true) (hs : ∀ P, findIn (hd.heap_39 P) (.ref C) "__setitem__" = some (some (.ref f)))
    (h : Wp c (call (.ref f) [.ref x, iv, v]) g fun _ g => k () g) : Wp c (setItem (.ref x) iv v) g k :=
  ⟨fun O H s Q S q => by
    obtain ⟨a, b⟩ := Bool.and_eq_true_iff.mp (hq c.w.params)
    exact ksp_setItem S.fr O.X (S.inst hx hD) a (hs _) b (h.run O H s _ S fun _ h' tk' g' S' k' => q _ _ _ _ S' k')⟩
end
section
variable {prog : Program} {w : World} {p : Program} {loose : List Str} {mean : ExcName → Option Value} {mg mb : Str → Option Value}
theorem c_setM {T : TabZ} {rows : List Row} (hr : rows.length ≤ 999) {nm t f fl : Nat} (ht : t ≤ 64) (hf : f ≤ 64) {tk tk2 : Tok} : ConL prog w p loose mean mg mb 249 [.ref T.t, .str (nmS nm) tk, .str (txt t f fl) tk2] 28 (fun _ => True) (tabLed T rows) [T.l] (fun s h' r => Added T (rows.filter fun r => !(r.nm % 2 == nm % 2)) nm t f fl s h') := by
  refine conW (binds := [("self", .ref T.t), ("name", .str (nmS nm) tk), ("val", .str (txt t f fl) tk2)]) [tabHead T rows] (tabRest T rows) (fun _ => rfl) (fun _ => rfl) (fun s => BindsTo.of_eq rfl) (fun c s₀ R l => vbody 30 ?_) tab_apart (fun q hq => hq) (by rfl) (by rfl)
  refine wp_delOwn (vexpr 4 (vexpr 4 ?_))
  refine wp_delI (mem_at 1 rfl) (mem_at 2 rfl) (fun _ => rfl) (fun _ => rfl) ?_
  refine wp_cutT (c_delM (Nat.le_succ_of_le hr)) (R.le rfl) 0 rfl (fun q hq => in_all (.tail _ hq)) fun v e => ?_
  refine wp_own (mem_at 1 rfl) (mem_at 2 rfl) rfl (fun _ => rfl) (fun _ => rfl) rfl ?_
  refine wp_mAppend (mem_at 0 rfl) ?_
  refine wp_methK rfl rfl (vexpr 4 ?_)
  refine wp_method (mem_at 1 rfl) (mem_at 2 rfl) rfl (fun _ => rfl) (fun _ => rfl) ⟨fun _ => rfl, vexpr 4 ?_⟩
  refine wp_conK (c_convN (nm_good _) (by rw [nm_size]; decide)) (R.le rfl) ?_
  refine wp_methK rfl rfl (vexpr 4 ?_)
  refine wp_method (mem_at 1 rfl) (mem_at 2 rfl) rfl (fun _ => rfl) (fun _ => rfl) ⟨fun _ => rfl, vexpr 4 ?_⟩
  refine wp_conK (c_convV (txt_good _ _ _) (by rw [txt_size]; have := codes_len fl; omega)) (R.le rfl) ?_
  intro D
  refine wp_append (j := 1) (its' := (((rows.filter fun (r : Row) => !(r.nm % 2 == nm % 2)).map fun (r : Row) => Value.ref r.a) ++ [Value.ref D]).toArray) rfl ?_ (by simp) ?_
  · rw [List.size_toArray, List.length_map]
    exact Nat.le_trans (List.length_filter_le _ _) (Nat.le_trans hr (by decide))
  exact ⟨List.forall_mem_cons.mpr ⟨.inl (.head _), fun q hq => .inr (.tail _ (.tail _ hq))⟩, fun h' A hh => added_mk A (fun _ h => h) hh rfl⟩
theorem c_setF {T : TabZ} {rows : List Row} (hr : rows.length ≤ 999) {nm t f fl : Nat} (ht : t ≤ 64) (hf : f ≤ 64) {tk tk2 : Tok} : ConL prog w p loose mean mg mb 182 [.ref T.t, .str (nmS nm) tk, .str (txt t f fl) tk2] 32 (fun _ => True) (tabLed T rows) [T.l] (fun s h' r => Added T (rows.filter fun r => !(r.nm % 2 == nm % 2)) nm t f fl s h') := by
  refine conW (binds := [("a", .ref T.t), ("b", .str (nmS nm) tk), ("c", .str (txt t f fl) tk2)]) [tabHead T rows] (tabRest T rows) (fun _ => rfl) (fun _ => rfl) (fun s => BindsTo.of_eq rfl) (fun c s₀ R l => vbody 20 ?_) tab_apart (fun q hq => hq) (by rfl) (by rfl)
  refine wp_setOwn (mem_at 1 rfl) (mem_at 2 rfl) (fun _ => rfl) (fun _ => rfl) ?_
  refine wp_added (c_setM hr ht hf) (R.le rfl) 0 rfl (fun q hq => in_all (.tail _ hq)) fun v r e hh off => ?_
  refine ⟨List.forall_mem_cons.mpr ⟨.inl (.head _), fun q hq => .inr (.tail _ (.tail _ hq))⟩, fun h' _ hh2 => ?_⟩
  have z := hh2 r.obj (.tail _ (.head _))
  refine ⟨r, e, hh.1, hh.2.1, hh.2.2.1, hh.2.2.2, z.2 (fun hm => ?_), z.1, (hh2 _ (.head _)).1⟩
  obtain ⟨q, hq, e⟩ := List.mem_map.mp hm
  exact off q (in_all hq) e
theorem c_write {T : TabZ} {rows : List Row} (hr : rows.length ≤ 20) {nm fl : Nat} {site : Nat} (hs : site ≤ 1) (h1 : 1 ≤ fl) (h7 : fl ≤ 7) (hrow : ∀ r ∈ rows, r.t ≤ 32 ∧ r.f ≤ 32 ∧ 1 ≤ r.fl ∧ r.fl ≤ 7) {ts tn tf : Tok} : ConL prog w p loose mean mg mb 359 [.ref T.t, .int (site : Int) ts, .str (nmS nm) tn, .int (fl : Int) tf] 40 (fun _ => True) (tabLed T rows) [T.l]
    (fun s h' r => Added T (rows.filter fun r => !(r.nm % 2 == nm % 2)) nm (if site = 0 then maxT rows + 1 else maxT rows) (if site = 0 then maxF rows else maxF rows + 1) fl s h') := by
  have hr2 : rows.length ≤ 1000 := Nat.le_trans hr (by decide)
  refine conW (binds := wrB T site nm fl ts tn tf) [tabHead T rows] (tabRest T rows) (fun _ => rfl) (fun _ => rfl) (fun s => BindsTo.of_eq rfl) (fun c s₀ R l => vbody 40 ?_) tab_apart (fun q hq => hq) (by rfl) (by rfl)
  intro t1 t2
  refine wp_for (fun _ => rfl) (vexpr 12 ?_)
  refine wp_method (mem_at 1 rfl) (mem_at 2 rfl) rfl (fun _ => rfl) (fun _ => rfl) ?_
  refine wp_conN (c_values hr2) (R.le rfl) (fun q hq => in_all hq) fun D => ?_
  refine Lw.to (Sg.To.lay (l := wrL ⟨0, 0, t1, t2, none, none⟩) (.cons rfl (.cons rfl (.cons rfl (.cons rfl .nil)))) ((Offs.same.set (g := ⟨_, _, _, _⟩) rfl).set rfl)) ?_
  refine lw_list (vs := wrV rows) (e := (wrV rows).length) (W := wrW T rows (wrB T site nm fl ts tn tf) D) ⟨⟨0, 0, t1, t2, none, none⟩, ⟨rfl, rfl⟩, rfl⟩ ?_ ?_ ?_
  case refine_1 =>
    rintro j g ⟨x, -, rfl⟩
    exact mem_at 1 (by with_unfolding_all rfl)
  case refine_2 =>
    rintro j g v hj ⟨y, ⟨e1, e2⟩, rfl⟩ hv
    rw [wrV, List.getElem?_map] at hv
    obtain ⟨r, hr', rfl⟩ := Option.map_eq_some_iff.mp hv
    refine wp_asN (wp_storeL rfl rfl (vbody 40 ?_))
    refine wp_conN (c_wsP (hrow r (List.mem_of_getElem? hr')).2.2) (R.le rfl) (fun _ h => nomatch h) fun x => ?_
    refine wp_own (mem_at 1 rfl) (mem_at 2 rfl) rfl (fun _ => rfl) (fun _ => rfl) rfl ?_
    refine wp_max fun t3 => ?_
    refine wp_own (mem_at 1 rfl) (mem_at 2 rfl) rfl (fun _ => rfl) (fun _ => rfl) rfl ?_
    refine wp_own (mem_at 1 rfl) (mem_at 2 rfl) rfl (fun _ => rfl) (fun _ => rfl) rfl ?_
    refine wp_opt o_sub (R.le rfl) fun t4 => ?_
    refine wp_max fun t5 => ?_
    refine turn_mk _ (.trans (.lay (l := wrL ⟨max y.tb r.t, max y.bf r.f, t3, t5, _, _⟩) (.cons (congrArg (fun x => some (Value.int x t3)) (max_int _ _)) (.cons (congrArg (fun x => some (Value.int x t5)) (max_blank _ _ _)) (.cons rfl (.cons rfl .nil)))) (((((Offs.lay rfl).set (g := ⟨_, _, _, _⟩) rfl).set rfl).set rfl).set rfl)) (.led (.refl _) ?_)) ⟨⟨max y.tb r.t, max y.bf r.f, t3, t5, _, _⟩, ⟨?_, ?_⟩, rfl⟩
    · exact fun q hq => List.mem_append_left _ (List.mem_append_right (wsLed r.t r.f x.1 x.2) hq)
    · exact e1 ▸ (max_take Row.t hr').symm
    · exact e2 ▸ (max_take Row.f hr').symm
  case refine_3 =>
    rintro g ⟨y, ⟨e1, e2⟩, rfl⟩
    rw [show rows.take (wrV rows).length = rows by rw [wrV, List.length_map, List.take_length]] at e1 e2
    have b1 : y.tb ≤ 32 := e1 ▸ maxT_le fun r hr => (hrow r hr).1
    have b2 : y.bf ≤ 32 := e2 ▸ maxF_le fun r hr => (hrow r hr).2.1
    have q1 : ((4 * y.bf : Nat) : Int).fdiv 4 = (y.bf : Int) := by rw [Int.fdiv_eq_ediv_of_nonneg _ (by decide)]; omega
    refine vbody 40 ?_
    intro t6
    refine wp_opt (o_fdiv (by decide) (by decide)) (R.le rfl) ?_
    rw [q1]
    intro t7 t8
    have fin : ∀ (v : Value) (r : Row) (e : Nat) (T' F' : Nat), (r.nm = nm ∧ r.t = T' ∧ r.f = F' ∧ r.fl = fl) → (∀ q ∈ tabHead T rows :: tabRest T rows, q.1 ≠ r.a) → T' = (if site = 0 then maxT rows + 1 else maxT rows) → F' = (if site = 0 then maxF rows else maxF rows + 1) → ∀ m : Mp,
        PostW (tabLed T rows) [T.l] s₀ (fun s h' r => Added T (rows.filter fun r => !(r.nm % 2 == nm % 2)) nm (if site = 0 then maxT rows + 1 else maxT rows) (if site = 0 then maxF rows else maxF rows + 1) fl s h') .next
          ⟨m, [(T.l, lstObj (((rows.filter fun r => !(r.nm % 2 == nm % 2)) ++ [r]).map fun r => .ref r.a) e)], r.obj :: (D, PyProof.Rows.LCg.lst (wrV rows)) :: tabRest T rows, 0⟩ := by
      rintro v r e T' F' ⟨a1, a2, a3, a4⟩ off rfl rfl m
      refine post_mk (List.forall_mem_cons.mpr ⟨.inl (.head _), fun q hq => .inr (.tail _ (.tail _ (.tail _ hq)))⟩) fun h' _ hh => ?_
      have z := hh r.obj (.tail _ (.head _))
      exact ⟨r, e, a1, a2, a3, a4, z.2 (fun hm => by
        obtain ⟨q, hq, e⟩ := List.mem_map.mp hm
        exact off q hq e), z.1, (hh _ (.head _)).1⟩
    refine bif_mk (fun hb => ?_) fun hb => ?_
    · have hz : site = 0 := by simpa using hb
      intro t9
      refine wp_opt o_add (R.le rfl) fun t10 => ?_
      refine wp_opt (c_textI (by omega) (by omega) (by omega)).toL (R.le rfl) fun t11 => ?_
      refine wp_added (c_setF (Nat.le_trans hr (by decide)) (by omega) (by omega)) (R.le rfl) 0 rfl (fun q hq => .tail _ (.tail _ (List.mem_append_left _ hq))) fun v r e hh off => ?_
      refine fin v r e _ _ hh (fun q hq => off q ?_) (by rw [if_pos hz]; omega) (by rw [if_pos hz]; omega) _
      exact (List.mem_cons.mp hq).elim (fun e => e ▸ .head _) fun hq => .tail _ (.tail _ (List.mem_append_left _ hq))
    · have hz : ¬ site = 0 := by simpa using hb
      intro t9
      refine wp_opt o_add (R.le rfl) fun t10 => ?_
      refine wp_opt (c_textI (by omega) (by omega) (by omega)).toL (R.le rfl) fun t11 => ?_
      refine wp_added (c_setF (Nat.le_trans hr (by decide)) (by omega) (by omega)) (R.le rfl) 0 rfl (fun q hq => .tail _ (.tail _ (List.mem_append_left _ hq))) fun v r e hh off => ?_
      refine fin v r e _ _ hh (fun q hq => off q ?_) (by rw [if_neg hz]; omega) (by rw [if_neg hz]; omega) _
      exact (List.mem_cons.mp hq).elim (fun e => e ▸ .head _) fun hq => .tail _ (.tail _ (List.mem_append_left _ hq))
theorem c_writeE {T : TabZ} {rows : List Row} (hr : rows.length ≤ 20) {nm fl : Nat} {site : Nat} (hs : site ≤ 1) (h1 : 1 ≤ fl) (h7 : fl ≤ 7) (hrow : ∀ r ∈ rows, r.t ≤ 32 ∧ r.f ≤ 32 ∧ 1 ≤ r.fl ∧ r.fl ≤ 7) {ts tn tf : Tok} {y1 y3 : Int} {y2 : Str} (e1 : y1 = (site : Int)) (e2 : y2 = nmS nm) (e3 : y3 = (fl : Int)) :
    ConL prog w p loose mean mg mb 359 [.ref T.t, .int y1 ts, .str y2 tn, .int y3 tf] 40 (fun _ => True) (tabLed T rows) [T.l] (fun s h' _ => ∃ rows', Put T rows rows' s h' ∧ rows'.map Row.ab = writeA (rows.map Row.ab) site (nm % 2) fl) := by
  subst e1 e2 e3
  refine (c_write hr hs h1 h7 hrow).mono fun s h' r P => ?_
  obtain ⟨rows', h2, h3⟩ := put_added_cut P
  exact ⟨rows', h2, by rw [h3, maxT_ab, maxF_ab]; rfl⟩
noncomputable def wordN : Nat → Str
  | 0 => "OPTIMIZED"
  | 1 => "NEWLOCALS"
  | _ => "VARARGS"
end
noncomputable def bitsL : Nat → List Nat
  | 1 => [0]
  | 2 => [1]
  | 3 => [0, 1]
  | 4 => [2]
  | 5 => [0, 2]
  | 6 => [1, 2]
  | _ => [0, 1, 2]
theorem split_words (fl : Nat) (h1 : 1 ≤ fl) (h7 : fl ≤ 7) : Txt.split (wordsS fl) (Str.ofString ", ") = (bitsL fl).map wordN := by
  have h : fl = 1 ∨ fl = 2 ∨ fl = 3 ∨ fl = 4 ∨ fl = 5 ∨ fl = 6 ∨ fl = 7 := by omega
  rcases h with rfl | rfl | rfl | rfl | rfl | rfl | rfl <;> decide +kernel
section
variable {prog : Program} {w : World} {p : Program} {loose : List Str} {mean : ExcName → Option Value} {mg mb : Str → Option Value}
theorem words_js {js : List (Nat × Nat)} {a k t : Nat} (ej : js.map (fun x : Nat × Nat => x.1) = bitsL 7) (hj : ∀ q : Nat × Nat, q ∈ js → (a ≤ q.2 ∧ q.2 < k) ∨ (wordN q.1 = wordsS 7 ∧ q.2 = t)) :
    ∃ w0 w1 w2, js = [(0, w0), (1, w1), (2, w2)] ∧ (a ≤ w0 ∧ w0 < k) ∧ (a ≤ w1 ∧ w1 < k) ∧ (a ≤ w2 ∧ w2 < k) := by
  match js, ej with
  | [(b0, w0), (b1, w1), (b2, w2)], ej =>
    simp only [List.map_cons, List.map_nil, bitsL, List.cons.injEq, and_true] at ej
    obtain ⟨rfl, rfl, rfl⟩ := ej
    refine ⟨w0, w1, w2, rfl, ?_, ?_, ?_⟩
    · exact (hj _ (.head _)).resolve_right fun q => absurd q.1 (show ¬ wordN 0 = wordsS 7 by decide +kernel)
    · exact (hj _ (.tail _ (.head _))).resolve_right fun q => absurd q.1 (show ¬ wordN 1 = wordsS 7 by decide +kernel)
    · exact (hj _ (.tail _ (.tail _ (.head _)))).resolve_right fun q => absurd q.1 (show ¬ wordN 2 = wordsS 7 by decide +kernel)
theorem intsAre_app {vs us : List Value} {ns ms : List Int} (h : IntsAre vs ns) (h' : IntsAre us ms) : IntsAre (vs ++ us) (ns ++ ms) := by
  induction h with
  | nil => exact h'
  | cons _ _ _ ih => exact .cons _ _ ih
theorem octs_len (rows : List Row) : (octs rows).length = 2 * rows.length := by
  induction rows with
  | nil => rfl
  | cons r rs ih => simp only [octs, List.flatMap_cons, List.length_append, List.length_cons, octR] at *; simp at *; omega
theorem octs_vals (r : Row) (t1 t2 : Tok) : IntsAre [.int (192 + (((r.nm % 2 : Nat) : Int) + 2 * ((r.t : Int) + 6 * ((((r.t + 4 * r.f : Nat) : Int) - (r.t : Int)).fdiv 4 + 6 * (r.fl : Int)))).fdiv 64) t1,
    .int ((((r.nm % 2 : Nat) : Int) + 2 * ((r.t : Int) + 6 * ((((r.t + 4 * r.f : Nat) : Int) - (r.t : Int)).fdiv 4 + 6 * (r.fl : Int)))).fmod 64) t2] (octR r) := by
  have e : ((r.nm % 2 : Nat) : Int) + 2 * ((r.t : Int) + 6 * ((((r.t + 4 * r.f : Nat) : Int) - (r.t : Int)).fdiv 4 + 6 * (r.fl : Int))) = (numR r : Int) := by
    rw [Int.fdiv_eq_ediv_of_nonneg _ (by decide)]
    unfold numR
    omega
  rw [e, Int.fdiv_eq_ediv_of_nonneg _ (by decide), Int.fmod_eq_emod_of_nonneg _ (by decide)]
  have e1 : (192 + (numR r : Int) / 64) = ((192 + numR r / 64 : Nat) : Int) := by omega
  have e2 : ((numR r : Int) % 64) = ((numR r % 64 : Nat) : Int) := by omega
  rw [e1, e2]
  exact .cons _ _ (.cons _ _ .nil)
theorem or_lt {a j : Nat} (h : a < 8) (hj : j < 3) : a ||| 2 ^ j < 8 := by
  have : ∀ j, j < 3 → ∀ a, a < 8 → a ||| 2 ^ j < 8 := by decide
  exact this j hj a h
theorem or_val {a j : Nat} (h : a < 8) (hj : j < 3) : PySem.Builtin.bitOr (a : Int) (1 * 2 ^ ((j : Int)).toNat) = ((a ||| 2 ^ j : Nat) : Int) := by
  have : ∀ j, j < 3 → ∀ a, a < 8 → PySem.Builtin.bitOr ((a : Nat) : Int) (1 * 2 ^ (((j : Nat) : Int)).toNat) = ((a ||| 2 ^ j : Nat) : Int) := by decide +kernel
  exact this j hj a h
noncomputable def orFold (js : List (Nat × Nat)) (a : Nat) : Nat := js.foldl (fun a q => a ||| 2 ^ q.1) a
theorem bits_or (fl : Nat) (h1 : 1 ≤ fl) (h7 : fl ≤ 7) {js : List (Nat × Nat)} (e : js.map (fun x : Nat × Nat => x.1) = bitsL fl) : orFold js 0 = fl ∧ ∀ q ∈ js, q.1 < 3 := by
  have e1 : orFold js 0 = (bitsL fl).foldl (fun a j => a ||| 2 ^ j) 0 := by rw [← e, List.foldl_map]; rfl
  have e2 : ∀ j ∈ bitsL fl, j < 3 := by
    have h : fl = 1 ∨ fl = 2 ∨ fl = 3 ∨ fl = 4 ∨ fl = 5 ∨ fl = 6 ∨ fl = 7 := by omega
    rcases h with rfl | rfl | rfl | rfl | rfl | rfl | rfl <;> decide
  refine ⟨?_, fun q hq => e2 _ (by rw [← e]; exact List.mem_map_of_mem hq)⟩
  rw [e1]
  have h : fl = 1 ∨ fl = 2 ∨ fl = 3 ∨ fl = 4 ∨ fl = 5 ∨ fl = 6 ∨ fl = 7 := by omega
  rcases h with rfl | rfl | rfl | rfl | rfl | rfl | rfl <;> decide
end
section
variable {c : Cg} {g : Sg} {env : Env}
theorem wp_mul {a b : Int} {t u : Tok} {k : Kt Value} (hz : IntMulOk a b) (h : ∀ t, g.b ≤ t → k (.int (a * b) t) g) : Wp c (binaryOp .Mult (.int a t) (.int b u)) g k := Wp.tok' (fun _ _ q => mul_int q hz) h
end
section
variable {c : Cg} {g : Sg}
theorem wp_optL {α : Type} {fa : Addr} {vs : List Value} {n : Nat} {led : Nw} {f : α → Value} {k : Kt Value} (C : ConL c.prog c.w c.p c.loose c.mean c.mg c.mb fa vs n (fun _ => True) led [] (fun _ _ r => ∃ t, r = f t)) (R : Room c n) (hN : ∀ q ∈ led, q ∈ g.o ++ (g.t ++ c.ex)) (h : ∀ t, k (f t) g) : Wp c (call (.ref fa) vs) g k :=
  wp_con C R hN fun r _ _ _ ⟨t, e⟩ => ⟨[], fun _ h => (nomatch h), e ▸ h t⟩
end
section
variable {prog : Program} {w : World} {p : Program} {loose : List Str} {mean : ExcName → Option Value} {mg mb : Str → Option Value}
theorem o_or {a b : Int} {t u : Tok} : ConL prog w p loose mean mg mb 154 [.int a t, .int b u] 1 (fun _ => True) [] [] (fun _ _ r => ∃ t, r = .int (Builtin.bitOr a b) t) := by
  refine conW [] [] (fun _ => rfl) (fun _ => rfl) (fun s => BindsTo.of_eq rfl) (fun c s₀ R l => vbody 12 ?_) (fun _ _ _ _ => ⟨.nil, fun _ h => nomatch h⟩) (fun _ h => nomatch h) (by rfl) (by rfl)
  intro t
  refine post_mk (fun _ h => nomatch h) fun _ _ _ => ?_
  exact ⟨_, rfl⟩
theorem o_shl {a n : Int} {t u : Tok} (hn : 0 ≤ n) (h2 : (Builtin.Int.intBits a : Int) + n ≤ 2 ^ 27) : ConL prog w p loose mean mg mb 140 [.int a t, .int n u] 1 (fun _ => True) [] [] (fun _ _ r => ∃ t, r = .int (a * 2 ^ n.toNat) t) := by
  refine conW [] [] (fun _ => rfl) (fun _ => rfl) (fun s => BindsTo.of_eq rfl) (fun c s₀ R l => vbody 12 ?_) (fun _ _ _ _ => ⟨.nil, fun _ h => nomatch h⟩) (fun _ h => nomatch h) (by rfl) (by rfl)
  refine wp_shl hn h2 fun t _ => ?_
  refine post_mk (fun _ h => nomatch h) fun _ _ _ => ?_
  exact ⟨_, rfl⟩
end
section
variable {prog : Program} {w : World} {A : Around} {E : Value → Shared → Prop} {s : Shared} {x y : Str} {t u : Tok} {h₀ : Heap} {L : Addr} {m : Str → Option Value} {news : List (Addr × Obj)} {Q : Value → Shared → Prop}
theorem numbered_range : ∀ (l : List Str) (k : Nat), ∀ q ∈ numbered k l, ∃ n : Nat, q.2 = n ∧ k ≤ n ∧ n < k + l.length
  | [], _, _, h => by cases h
  | a :: r, k, q, h => by
    rcases List.mem_cons.mp h with rfl | h
    · exact ⟨k, rfl, Nat.le_refl _, by simp⟩
    · obtain ⟨n, e, h1, h2⟩ := numbered_range r (k + 1) q h
      have e' : (a :: r).length = r.length + 1 := rfl
      exact ⟨n, e, by omega, by omega⟩
theorem split1T (hF : Fr h₀ L s.heap m) (hN : News h₀ L s.heap news) (hy : (y.length == 0) = false)
    (h : ∀ l h' k, l.map (·.1) = Txt.split x y → (∀ q ∈ l, (∃ n : Nat, q.2 = n ∧ s.toks ≤ n ∧ n < k) ∨ q = (x, t)) → s.toks ≤ k → Fr h₀ L h' m → News h₀ L h' ((s.heap.objs.size, lstObj (strValues l) 0) :: news) → (∀ p ∈ news, p.1 < s.heap.objs.size) → Q (.ref s.heap.objs.size) { s with heap := h', toks := k })
    (hsz : x.length + 2 ≤ sizeLine) :
    wpAny (model prog w) A (call (.builtin "str.split") [.str x t, .str y u]) Q E s := by
  have hlt : ∀ p ∈ news, p.1 < s.heap.objs.size := fun p hp => Heap.lt_size (hN p hp).1
  have hn : (PySem.Builtin.Str.partsBetween x (PySem.Builtin.Str.occurrences x y 0 x.length (x.length + 1)) y.length).length ≤ sizeLine := by
    have e1 := StrLaws.occ_length_le x y 0 x.length (x.length + 1)
    rw [length_partsBetween]; omega
  cases h1 : (decide (x.length < y.length) || decide (PySem.Builtin.Str.strKind x < PySem.Builtin.Str.strKind y))
  · cases hf : (PySem.Builtin.Str.occurrences x y 0 x.length (x.length + 1)).isEmpty
    · refine call_meets F.slot_str_split (typeIs_str _ _ _) F.entry_str_split (F.args_str_split_2 _ _) (meets_str_split_sep x y t u h1 hy hf (by omega) hn) ?_
      show wants Q E _ { s with toks := _, heap := s.heap.push (lstObj (strsFrom s.toks (PySem.Builtin.Str.partsBetween x (PySem.Builtin.Str.occurrences x y 0 x.length (x.length + 1)) y.length)) 0) }
      rw [strsFrom_eq]
      exact h (numbered s.toks _) _ _ ((numbered_texts _ _).trans ((if_neg (ne_true_of_eq_false h1)).trans (if_neg (ne_true_of_eq_false hf))).symm) (fun q hq => .inl (numbered_range _ _ q hq)) (Nat.le_add_right _ _) (Fr.pushS hF _) (News.push hF hN _) hlt
    · exact call_meets F.slot_str_split (typeIs_str _ _ _) F.entry_str_split (F.args_str_split_2 _ _) (meets_str_split_not_found x y t u h1 hy hf)
        (h [(x, t)] _ s.toks ((if_neg (ne_true_of_eq_false h1)).trans (if_pos hf)).symm (fun q hq => .inr (List.mem_singleton.mp hq)) (Nat.le_refl _) (Fr.pushS hF _) (News.push hF hN _) hlt)
  · exact call_meets F.slot_str_split (typeIs_str _ _ _) F.entry_str_split (F.args_str_split_2 _ _) (meets_str_split_cannot_occur x y t u h1)
      (h [(x, t)] _ s.toks (if_pos h1).symm (fun q hq => .inr (List.mem_singleton.mp hq)) (Nat.le_refl _) (Fr.pushS hF _) (News.push hF hN _) hlt)
theorem js_of : ∀ (l : List (Str × Tok)) (bits : List Nat) (P : Str → Nat → Prop), l.map (·.1) = bits.map wordN → (∀ q ∈ l, ∃ n : Nat, q.2 = n ∧ P q.1 n) →
    ∃ js : List (Nat × Nat), strValues l = js.map (fun q => Value.str (wordN q.1) q.2) ∧ js.map (·.1) = bits ∧ ∀ q ∈ js, P (wordN q.1) q.2
  | [], [], _, _, _ => ⟨[], rfl, rfl, fun _ h => nomatch h⟩
  | [], _ :: _, _, e, _ => nomatch e
  | _ :: _, [], _, e, _ => nomatch e
  | (x, t) :: r, b :: bs, P, e, h => by
    have e1 : x = wordN b := (List.cons.inj e).1
    have e2 : r.map (·.1) = bs.map wordN := (List.cons.inj e).2
    obtain ⟨js, a1, a2, a3⟩ := js_of r bs P e2 fun q hq => h q (.tail _ hq)
    obtain ⟨n, hn, hp⟩ := h _ (.head _)
    refine ⟨(b, n) :: js, ?_, by rw [List.map_cons, a2], fun q hq => ?_⟩
    · show Value.str x t :: strValues r = Value.str (wordN b) n :: _
      rw [a1, e1]
      exact congrArg (fun z => Value.str (wordN b) z :: _) hn
    · rcases List.mem_cons.mp hq with rfl | hq
      · exact e1 ▸ hp
      · exact a3 q hq
theorem split1W {t : Nat} (bits : List Nat) (hb : Txt.split x y = bits.map wordN) (hF : Fr h₀ L s.heap m) (hN : News h₀ L s.heap news) (hy : (y.length == 0) = false)
    (h : ∀ D (js : List (Nat × Nat)) h' k, js.map (·.1) = bits → (∀ q ∈ js, (s.toks ≤ q.2 ∧ q.2 < k) ∨ (wordN q.1 = x ∧ q.2 = t)) → s.toks ≤ k → Fr h₀ L h' m → News h₀ L h' ((D, lstObj (js.map fun q : Nat × Nat => Value.str (wordN q.1) q.2) 0) :: news) → (∀ p ∈ news, p.1 < D) → Q (.ref D) { s with heap := h', toks := k })
    (hsz : x.length + 2 ≤ sizeLine) :
    wpAny (model prog w) A (call (.builtin "str.split") [.str x t, .str y u]) Q E s := by
  refine split1T hF hN hy (fun l h' k e ht hk F N hlt => ?_) hsz
  obtain ⟨js, a1, a2, a3⟩ := js_of l bits (fun z n => (s.toks ≤ n ∧ n < k) ∨ (z = x ∧ n = t)) (e.trans hb) fun q hq => by
    rcases ht q hq with ⟨n, hn, h1⟩ | rfl
    · exact ⟨n, hn, .inl h1⟩
    · exact ⟨t, rfl, .inr ⟨rfl, rfl⟩⟩
  rw [a1] at N
  exact h _ js h' k a2 a3 hk F N hlt
end
section
variable {c : Cg} {g : Sg}
theorem wp_split {x y : Str} {t u : Tok} {bits : List Nat} {k : Kt Value} (hb : Txt.split x y = bits.map wordN) (hy : (y.length == 0) = false) (hz : x.length + 2 ≤ 1000)
    (h : ∀ D (js : List (Nat × Nat)) kk, js.map (·.1) = bits → (∀ q ∈ js, (g.b ≤ q.2 ∧ q.2 < kk) ∨ (wordN q.1 = x ∧ q.2 = t)) → g.b ≤ kk → k (.ref D) ((g.push D (lstObj (js.map fun q : Nat × Nat => Value.str (wordN q.1) q.2) 0)).flo kk)) : Wp c (call (.builtin "str.split") [.str x t, .str y u]) g k :=
  ⟨fun _ H s Q S q => S.elim fun cs z => split1W bits hb z.F z.N hy (fun D js h' kk e hj hk F' N' l => by
    refine q _ _ _ _ ?_ (h D js kk e (fun p hp => (hj p hp).imp (fun a => ⟨Nat.le_trans z.b a.1, a.2⟩) id) (Nat.le_trans z.b hk))
    obtain ⟨cs', y⟩ := St.pushN (H := H) (tk := s.toks) ⟨cs, z, rfl⟩ F' N' l (Nat.le_trans z.b hk)
    exact ⟨cs', y.F, y.Y, y.N, y.P, Nat.le_refl _⟩) (Nat.le_trans hz (by decide))⟩
end
theorem idx_from {a len : Nat} (h : a ≤ len) : (PySem.Builtin.Str.strSliceIndices (some (a : Int)) none 1 len).length = len - a := by
  have h1 : ¬ ((a : Int) < 0) := by omega
  have e1 : max (0 : Int) (min (a : Int) (len : Int)) = a := by omega
  simp only [PySem.Builtin.Str.strSliceIndices, PySem.sliceRange, h1, if_false, e1, show ((1 : Int) > 0) = True from by simp, if_true]
  by_cases hlt : (a : Int) < len
  · simp only [hlt, if_true, List.length_map, List.length_range]; omega
  · simp only [hlt, if_false]; simp; omega
theorem slice_txt (t f fl : Nat) : Txt.slice (txt t f fl) (some ((t + 4 * f : Nat) : Int)) none = wordsS fl := by
  have hl := txt_len t f fl
  rw [slice_from_eq (b := ((txt t f fl).length : Int)) (by omega) (by omega) rfl]
  have e1 : ((t + 4 * f : Nat) : Int).toNat = t + 4 * f := by omega
  have e2 : (((txt t f fl).length : Int) - ((t + 4 * f : Nat) : Int)).toNat = (codes fl).length := by omega
  rw [e1, e2]
  have e3 : (txt t f fl).cps.toList = (List.replicate t 9 ++ List.replicate (4 * f) 32) ++ codes fl := by simp [txt, txtL]
  rw [e3, List.drop_left' (by simp), List.take_length]
  rfl
section
variable {prog : Program} {w : World} {A : Around} {E : Value → Shared → Prop} {s : Shared} {value slice : Expr} {t : Tok} {h₀ : Heap} {L : Addr} {m : Str → Option Value} {news : List (Addr × Obj)} {Q : Value → Shared → Prop}
theorem slice_txtT {a f fl : Nat} {ui : Tok} (h1 : 1 ≤ a + f) (hF : Fr h₀ L s.heap m) (hN : News h₀ L s.heap news) (h : ∀ h', Fr h₀ L h' m → News h₀ L h' news → Q (.str (wordsS fl) s.toks) { s with heap := h', toks := s.toks + 1 })
    (hs : subscripted slice false (.str (txt a f fl) t) (.ref s.heap.objs.size) = operate [.ref s.heap.objs.size, .str (txt a f fl) t] (getItem (.str (txt a f fl) t) (.ref s.heap.objs.size)))
    (ht : ∀ r, letTemporaryGo value (.str (txt a f fl) t) r = pure ()) :
    wpAny (model prog w) A (subscriptTail value slice (.str (txt a f fl) t) (.ref s.heap.objs.size)) Q E { s with heap := s.heap.push { cls := .type "slice", data := .fields #[.int ((a + 4 * f : Nat) : Int) ui, .none, .none] } } := by
  have hl := txt_len a f fl
  have e : (slicePicked (txt a f fl) (some (((a + 4 * f : Nat) : Int), ui)) none none).length = (txt a f fl).length - (a + 4 * f) := idx_from (by omega)
  have q := slice_txt a f fl
  unfold Txt.slice at q
  rw [if_neg (by show ¬ ((slicePicked (txt a f fl) (some (((a + 4 * f : Nat) : Int), ui)) none none).length == (txt a f fl).length) = true; rw [e]; simp; omega)] at q
  have I : ItemOn (model prog w) A E (.str (txt a f fl) t) (.ref s.heap.objs.size) Q { s with heap := s.heap.push { cls := .type "slice", data := .fields #[.int ((a + 4 * f : Nat) : Int) ui, .none, .none] } } := by
    refine ⟨"str", _, F.slot_str_getitem.lookup, typeIs_str _ _ _, wpAny_getItem_str_slice (l := some (((a + 4 * f : Nat) : Int), ui)) (u := none) (st := none) ⟨_, Heap.get?_push_size s.heap (o := { cls := .type "slice", data := .fields #[.int ((a + 4 * f : Nat) : Int) ui, .none, .none] }) rfl, rfl, rfl⟩ rfl ?_⟩
    unfold sliceMade
    rw [if_neg (by rw [e]; simp; omega)]
    show Made.post (.str ⟨((slicePicked (txt a f fl) (some (((a + 4 * f : Nat) : Int), ui)) none none).filterMap ((txt a f fl).cps[·]?)).toArray⟩) _ _
    rw [show (⟨((slicePicked (txt a f fl) (some (((a + 4 * f : Nat) : Int), ui)) none none).filterMap ((txt a f fl).cps[·]?)).toArray⟩ : Str) = wordsS fl from q]
    exact ⟨Nat.le_trans (wordsS_len fl) (by decide), h _ (Fr.pushS hF _) fun p hp => ⟨Heap.get?_push_of_some _ (hN p hp).1, (hN p hp).2⟩⟩
  exact tail_of_ItemOn I hs ht
end
section
variable {c : Cg} {g : Sg}
theorem wp_slice {value lo : PySem.Expr} {sp pos : Pos} {k : Kt Value} (hs : ∀ a b o, subscripted (.Slice (some lo) none none sp) false (.str a b) (.ref o) = operate [.ref o, .str a b] (getItem (.str a b) (.ref o))) (ht : ∀ a b r, letTemporaryGo value (.str a b) r = pure ())
    (h : Wp c (eval value (ev c)) g fun v g => Wp c (eval lo (ev c)) g fun i g => ∃ a f fl t u, v = .str (txt a f fl) t ∧ i = .int ((a + 4 * f : Nat) : Int) u ∧ 1 ≤ a + f ∧ ∀ t', g.b ≤ t' → k (.str (wordsS fl) t') g) : Wp c (eval (.Subscript value (.Slice (some lo) none none sp) pos) (ev c)) g k := by
  refine ⟨fun O H s Q S q => Subscript_ (h.run O H s _ S fun v h1 tk1 g1 S1 h => wpAny_Slice (evalPart_some_step (h.run O H _ _ S1 ?_)))⟩
  rintro i h2 tk2 g2 ⟨cs, z⟩ ⟨a, f, fl, t, u, rfl, rfl, ha, hk⟩
  refine evalPart_none_step (evalPart_none_step (slice_txtT ha z.F z.N (fun h' F' N' => ?_) (hs _ _ _) (ht _ _)))
  exact q _ _ _ _ ⟨cs, F', z.Y, N', z.P, Nat.le_succ_of_le z.b⟩ (hk _ z.b)
theorem wp_asT2 {x y : Str} {px py pos : Pos} {n : Nat} {t : Addr} {a b : Value} {e : Nat} {k : Kt Unit} (hm : (t, { cls := .type "tuple", data := .seq #[a, b] e }) ∈ g.o ++ (g.t ++ c.ex)) (h : Wp c (storeName (ev c) x a) g fun _ g => Wp c (storeName (ev c) y b) g k) : Wp c (assign (.Tuple [.Name x px, .Name y py] n pos) (ev c) (.ref t)) g k :=
  ⟨fun O H s Q ⟨cs, z⟩ q => unpackN_ (items := #[a, b]) z.F z.N ⟨_, (St.mem ⟨cs, z⟩ hm).1, rfl, e, rfl⟩ rfl rfl rfl fun h2 F2 N2 => by
    refine assignInOrder_cons (PyProof.Rows.assign_Name (h.run O H _ _ ⟨cs, F2, z.Y, N2, z.P, z.b⟩ fun _ _ _ _ S3 k3 => ?_))
    refine assignInOrder_cons (PyProof.Rows.assign_Name (k3.run O H _ _ S3 fun _ _ _ _ S4 k4 => ?_))
    exact assignInOrder_nil (q _ _ _ _ S4 k4)⟩
theorem wp_mExtend {D : Addr} {its : Array Value} {n : Nat} {pl : Sem Bool} {k : Kt (Value × List Value)} (hm : (D, W.listOf its n) ∈ g.o ++ (g.t ++ c.ex)) (h : k (.builtin "list.extend", [.ref D]) g) : Wp c (getMethod (.ref D) (Str.ofString "extend") pl) g k :=
  ⟨fun _ H s Q S q => kl_method S.news hm PySem.F.slot_list_extend PySem.F.type_list_extend (q _ _ s.toks _ S h)⟩
theorem wp_extend {i D b : Nat} {vs us : List Value} {n e : Nat} {k : Kt Value} (hD : g.o[i]? = some (D, W.listOf vs.toArray n)) (hb : (b, W.listOf us.toArray e) ∈ g.o ++ (g.t ++ c.ex)) (hu : us.length ≠ 0) (hz : vs.length + us.length ≤ 1000) (h : k .none (g.upd i D (W.listOf (vs ++ us).toArray (n + 1)))) : Wp c (call (.builtin "list.extend") [.ref D, .ref b]) g k :=
  ⟨fun _ H s Q S q => by
    obtain ⟨cs, news, gg, y, N, U, back⟩ := S.upd hD
    obtain ⟨pre, post, e1, e2, e3, e4⟩ := U.split
    subst e1
    have hbm : News c.h₀ c.L s.heap ((b, W.listOf us.toArray e) :: (pre ++ (D, W.listOf vs.toArray n) :: post)) := List.forall_mem_cons.mpr ⟨S.mem hb, N⟩
    have hl : (1000 : Nat) ≤ sizeLine := by decide
    by_cases hbD : b = D
    · subst hbD
      have e5 := (S.mem (q := (b, W.listOf vs.toArray n)) (List.mem_append_left _ (List.mem_of_getElem? hD))).1
      rw [(S.mem hb).1] at e5
      have hN : (b, W.listOf us.toArray e) ∈ pre ++ (b, W.listOf vs.toArray n) :: post := by
        have e6 : W.listOf us.toArray e = W.listOf vs.toArray n := Option.some.inj e5
        rw [e6]; exact List.mem_append_right _ (.head _)
      refine kl_extend (l := vs ++ us) y.F N hN (by simp) (by simpa using hu) (upd_mid e3 e4) ?_ (by simp; omega) (by simp; omega) fun h' F' N' => q _ _ s.toks _ (back _ _ _ F' (by rw [e2]; exact N') y.b) h
      simp [PySem.Builtin.List.listTooLong]; omega
    · refine kl_extend (l := vs ++ us) (news' := (b, W.listOf us.toArray e) :: (pre ++ (D, W.listOf (vs ++ us).toArray (n + 1)) :: post)) y.F hbm (.head _) (by simp) (by simpa using hu) (.tail (fun e => hbD e) (upd_mid e3 e4)) ?_ (by simp; omega) (by simp; omega) fun h' F' N' => q _ _ s.toks _ (back _ _ _ F' (by rw [e2]; exact fun q hq => N' q (.tail _ hq)) y.b) h
      simp [PySem.Builtin.List.listTooLong]; omega⟩
end
section
variable {prog : Program} {w : World} {p : Program} {loose : List Str} {mean : ExcName → Option Value} {mg mb : Str → Option Value}
structure LeX where
  vs : List Value
  e : Nat
  v1 : Option Value
  v2 : Option Value
  v3 : Option Value
  v4 : Option Value
  v5 : Option Value
  v6 : Option Value
  v7 : Option Value
noncomputable def leN (X : LeX) : List (Str × Option Value) := [("name", X.v1), ("text", X.v2), ("mark", X.v3), ("flags", X.v4), ("word", X.v5), ("fours", X.v6), ("number", X.v7)]
structure LeC where
  T : TabZ
  rows : List Row
  O : Addr
  W : Addr
  tW : Tok
  w0 : Nat
  w1 : Nat
  w2 : Nat
  D : Addr
  kk : Nat
noncomputable def leM (z : LeC) : Mp := fun y => if y = "octets" then some (.ref z.O) else if y = "words" then some (.ref z.W) else ([("table", .ref z.T.t)] : List (Str × Value)).reverse.lookup y
noncomputable def leO (z : LeC) (X : LeX) : Nw := [(z.O, W.listOf X.vs.toArray X.e), (z.W, lstObj [.str (wordN 0) z.w0, .str (wordN 1) z.w1, .str (wordN 2) z.w2] 0)]
noncomputable def leT (z : LeC) : Nw := (z.D, lstObj (z.rows.map fun r => .ref r.a) 0) :: tabLed z.T z.rows
noncomputable def leG (z : LeC) (o t : Nw) (b : Nat) (X : LeX) : Sg := ⟨lay (leN X) (leM z), o ++ leO z X, t ++ leT z, b⟩
noncomputable def leW (z : LeC) (j : Nat) (g : Sg) : Prop := ∃ X : LeX, IntsAre X.vs (octs (z.rows.take j)) ∧ g = leG z [] [] z.kk X
theorem octs_take {rows : List Row} {j : Nat} {r : Row} (h : rows[j]? = some r) : octs (rows.take (j + 1)) = octs (rows.take j) ++ octR r := by
  rw [List.take_succ, h]; simp [octs]
end
section
variable {c : Cg} {g : Sg}
theorem wp_sliceAll {value : PySem.Expr} {sp pos : Pos} {k : Kt Value} (hs : ∀ a b, subscripted (.Slice none none none sp) false (.ref a) (.ref b) = operate [.ref b, .ref a] (getItem (.ref a) (.ref b))) 
    (h : Wp c (eval value (ev c)) g fun v g => ∃ l vs n, v = .ref l ∧ (l, lstObj vs n) ∈ g.o ++ (g.t ++ c.ex) ∧ vs.length ≤ 1000 ∧ ∀ D, k (.ref D) (g.push D (lstObj vs 0))) : Wp c (eval (.Subscript value (.Slice none none none sp) pos) (ev c)) g k := by
  refine ⟨fun O H s Q S q => Subscript_ (h.run O H s _ S fun v h1 tk1 g1 S1 h => wpAny_Slice (evalPart_none_step (evalPart_none_step (evalPart_none_step ?_))))⟩
  obtain ⟨l, vs, n, rfl, hm, hz, hk⟩ := h
  obtain ⟨cs, x⟩ := id S1
  refine kba_turn (value' := .Name (Str.ofString "") pos) (fun _ => rfl) (slice_list (items := vs.toArray) x.F x.N ⟨_, (S1.mem hm).1, rfl, _, rfl⟩ .none .none (fun h' F' N' => ?_) (hs _ _) (fun _ => rfl) (by rw [List.size_toArray]; exact Nat.le_trans hz (by decide)))
  rw [slicePick_all] at N'
  exact q _ _ _ _ (St.pushN ⟨cs, x, rfl⟩ F' N' (fun p hp => Nat.lt_succ_of_lt (Heap.lt_size (x.N p hp).1)) x.b) (hk _)
end
section
variable {prog : Program} {w : World} {p : Program} {loose : List Str} {mean : ExcName → Option Value} {mg mb : Str → Option Value}
theorem c_items {T : TabZ} {rows : List Row} (hr : rows.length ≤ 1000) : ConL prog w p loose mean mg mb 298 [.ref T.t] 4 (fun _ => True) (tabLed T rows) [] (fun s h' r => ∃ D, r = .ref D ∧ NewIn s h' [(D, lstObj (rows.map fun r => .ref r.a) 0)]) := by
  refine conW (binds := [("self", .ref T.t)]) [] (tabLed T rows) (fun _ => rfl) (fun _ => rfl) (fun s => BindsTo.of_eq rfl) (fun c s₀ R l => vbody 20 ?_) (fun _ _ _ _ => ⟨.nil, fun _ h => nomatch h⟩) (fun q hq => hq) (by rfl) (by rfl)
  refine wp_sliceAll (fun _ _ => rfl) (vexpr 8 ?_)
  refine wp_own (mem_at 1 rfl) (mem_at 2 rfl) rfl (fun _ => rfl) (fun _ => rfl) rfl ?_
  refine ⟨T.l, _, _, rfl, mem_at 0 rfl, by rw [List.length_map]; exact hr, fun D => ?_⟩
  exact ⟨fun q hq => .inr (.tail _ hq), fun h' A hh => ⟨D, rfl, List.forall_mem_cons.mpr ⟨⟨(hh _ (.head _)).2 fun hm => by
    obtain ⟨q, hq, e⟩ := List.mem_map.mp hm
    exact A.2 _ (.head _) q hq e, (hh _ (.head _)).1⟩, List.forall_mem_nil _⟩⟩⟩
end
section
variable {prog : Program} {w : World} {A : Around} {E : Value → Shared → Prop} {s : Shared}
noncomputable def enumObj (it : Addr) (i : Int) (old : Value) : Obj := { cls := .type "enumerate", data := .fields #[.none, .bool false, .ref it, rawInt i, .none, old] }
end
section
variable {c : Cg} {g : Sg}
theorem apart_fst {a a' T : Nw} (h : a.map (·.1) = a'.map (·.1)) (A : Apart a T) : Apart a' T := by
  have h1 : (a.map (·.1)).Pairwise (fun p q => q ≠ p) := List.pairwise_map.mpr A.1
  refine ⟨List.pairwise_map.mp (h ▸ h1), fun p hp q hq => ?_⟩
  have hm : p.1 ∈ a'.map (·.1) := List.mem_map_of_mem hp
  rw [← h] at hm
  obtain ⟨r, hr, e⟩ := List.mem_map.mp hm
  exact e ▸ A.2 r hr q hq
theorem St.turn2 {H : Nw} {h h' : Heap} {tk : Nat} {e J : Addr} {o o' oJ oJ' : Obj} (S : St c g ((e, o) :: (J, oJ) :: H) h tk) (hs : ∀ b ob, b ≠ e → b ≠ J → h.get? b = some ob → h'.get? b = some ob) (he : h'.get? e = some o') (hJ : h'.get? J = some oJ') : St c g ((e, o') :: (J, oJ') :: H) h' tk := by
  obtain ⟨cs, x⟩ := S
  have e0 := x.N (e, o) (List.mem_append_left _ (List.mem_append_right _ (.head _)))
  have j0 := x.N (J, oJ) (List.mem_append_left _ (List.mem_append_right _ (.tail _ (.head _))))
  have hP := x.P.1
  rw [List.pairwise_append, List.cons_append, List.cons_append, List.pairwise_cons, List.pairwise_cons] at hP
  obtain ⟨p1, ⟨p2, p3, p4⟩, p5⟩ := hP
  obtain ⟨⟨oL, a1, a2, hL, a3⟩, kp, ab⟩ := x.F
  refine ⟨cs, ⟨⟨oL, a1, a2, hs _ _ (Ne.symm e0.2.1) (Ne.symm j0.2.1) hL, a3⟩, fun b ob h0 => hs _ _ (fun q => by rw [q, e0.2.2] at h0; cases h0) (fun q => by rw [q, j0.2.2] at h0; cases h0) (kp b ob h0), ab⟩, x.Y, fun q hq => ?_, apart_fst (by simp) x.P, x.b⟩
  have old : q.1 ≠ e → q.1 ≠ J → q ∈ cs ++ (((e, o) :: (J, oJ) :: H) ++ g.o) ++ (g.t ++ c.ex) → h'.get? q.1 = some q.2 ∧ q.1 ≠ c.L ∧ c.h₀.get? q.1 = none := fun h1 h2 hm => ⟨hs _ _ h1 h2 (x.N q hm).1, (x.N q hm).2⟩
  rcases List.mem_append.mp hq with hq | hq
  · rcases List.mem_append.mp hq with hq | hq
    · exact old (Ne.symm (p5 q hq _ (.head _))) (Ne.symm (p5 q hq _ (.tail _ (.head _)))) (List.mem_append_left _ (List.mem_append_left _ hq))
    · rw [List.cons_append, List.cons_append] at hq
      rcases List.mem_cons.mp hq with rfl | hq
      · exact ⟨he, e0.2⟩
      · rcases List.mem_cons.mp hq with rfl | hq
        · exact ⟨hJ, j0.2⟩
        · exact old (p2 q (.tail _ hq)) (p3 q hq) (List.mem_append_left _ (List.mem_append_right _ (.tail _ (.tail _ hq))))
  · exact old (x.P.2 _ (List.mem_append_right _ (.head _)) q hq) (x.P.2 _ (List.mem_append_right _ (.tail _ (.head _))) q hq) (List.mem_append_right _ hq)
theorem enum_loop {x y : Str} {px py tp : Pos} {kk n : Nat} {body orelse : List Stmt} {W : Nat → Sg → Prop} {val : Nat → Value → Prop} {IJ : Nat → Obj → Prop} {k : Kt Flow}
    (nx : ∀ j g (s : Shared) H e J old oJ (Q : Option Value → Shared → Prop), j < n → W j g → IJ j oJ → e ≠ J → St c g ((e, enumObj J (j : Int) old) :: (J, oJ) :: H) s.heap s.toks →
      (∀ v T h' oJ' t tk', val j v → IsEnumOut h' e J ((j : Int) + 1) v T → h'.get? J = some oJ' → IJ (j + 1) oJ' → h'.get? T = some { cls := .type "tuple", data := .seq #[.int (j : Int) t, v] } → s.heap.get? T = none →
        (∀ b o, b ≠ e → b ≠ J → s.heap.get? b = some o → h'.get? b = some o) → s.toks ≤ tk' → Q (some (.ref T)) { s with heap := h', toks := tk' }) → wpAny (model c.prog c.w) (ar c) (pyNext (.ref e)) Q NoE s)
    (turn : ∀ j g v t T, j < n → W j g → val j v → Wp c (storeName (ev c) x (.int (j : Int) t)) (g.read [(T, { cls := .type "tuple", data := .seq #[.int (j : Int) t, v] })]) fun _ g => Wp c (storeName (ev c) y v) g fun _ g => Wp c (execs body (ev c)) g (TurnW c W j k))
    (fin : ∀ g, ¬ W n g) (O : Ck c) (H : Nw) (Q : Flow → Shared → Prop) (e J : Addr) (hne : e ≠ J) : ∀ m j g (s : Shared) old oJ, j + m = n → W j g → IJ j oJ → St c g ((e, enumObj J (j : Int) old) :: (J, oJ) :: H) s.heap s.toks →
      (∀ v h' tk' g', St c g' H h' tk' → k v g' → Q v { s with heap := h', toks := tk' }) → LoopE c.prog c.w (ar c) (ev c) (.Tuple [.Name x px, .Name y py] kk tp) body orelse Q NoE (.ref e) s := by
  intro m
  induction m with
  | zero =>
    intro j g s old oJ hj hW
    rw [Nat.add_zero] at hj
    subst hj
    exact absurd hW (fin g)
  | succ m ih =>
    intro j g s old oJ hj hW hIJ S q
    have hjn : j < n := by omega
    refine LoopE.turn (nx j g s H e J old oJ _ hjn hW hIJ hne S fun v T h1 oJ' t tk' hv he1 hJ1 hIJ' hT hT0 hs1 htk => ?_)
    dsimp only
    have S1 : St c g ((e, _) :: (J, oJ') :: H) h1 tk' := (St.turn2 S hs1 he1 hJ1).toks' htk
    obtain ⟨cs, z⟩ := id S
    have ne0 := S.elim fun cs x => x.N (e, _) (List.mem_append_left _ (List.mem_append_right _ (.head _)))
    refine wpAny_letOwnedTupleGo_enum he1 fun h2 he2 hs2 => ?_
    have hTe : T ≠ e := fun q => by rw [q, ne0.1] at hT0; cases hT0
    have S2 : St c g ((e, enumObj J ((j + 1 : Nat) : Int) v) :: (J, oJ') :: H) h2 tk' := S1.turn (fun b o hb h => (hs2.2 b hb).trans h) he2
    have S3 : St c (g.read [(T, { cls := .type "tuple", data := .seq #[.int (j : Int) t, v] })]) ((e, enumObj J ((j + 1 : Nat) : Int) v) :: (J, oJ') :: H) h2 tk' := by
      obtain ⟨cs2, y⟩ := S2
      refine St.read y (fun q hq => ?_) fun q hq p hp => ?_
      · rw [List.mem_singleton.mp hq]
        exact ⟨(hs2.2 _ hTe).trans hT, fresh_of z.F hT0⟩
      · rw [List.mem_singleton.mp hq]
        have hm : p.1 ∈ (cs2 ++ (((e, enumObj J ((j + 1 : Nat) : Int) v) :: (J, oJ') :: H) ++ g.o)).map (·.1) := List.mem_map_of_mem hp
        have ec : cs2.map (·.1) = cs.map (·.1) := (cells_fst y.Y).trans (cells_fst z.Y).symm
        have hm2 : p.1 ∈ (cs ++ (((e, enumObj J (j : Int) old) :: (J, oJ) :: H) ++ g.o)).map (·.1) := by
          simp only [List.map_append, List.map_cons, ec] at hm ⊢; exact hm
        obtain ⟨r, hr, e'⟩ := List.mem_map.mp hm2
        exact fun q => by
          have := (z.N r (List.mem_append_left _ hr)).1
          have q : T = p.1 := q
          rw [e', ← q, hT0] at this; cases this
    refine (wp_asT2 (t := T) (a := .int (j : Int) t) (b := v) (e := 0) (in_all (List.mem_append_right _ (.head _))) (turn j g v t T hjn hW hv)).run O _ { s with heap := h2, toks := tk' } _ S3 fun _ h3 tk3 g3 S4 T4 => ?_
    refine T4.run O _ { s with heap := h3, toks := tk3 } _ S4 fun fl h4 tk4 g4 S5 T5 => ?_
    cases fl with
    | next =>
      obtain ⟨g5, e5, W5⟩ := T5
      exact ih (j + 1) g5 { s with heap := h4, toks := tk4 } v oJ' (by omega) W5 hIJ' (e5 _ _ _ S5) q
    | cont =>
      obtain ⟨g5, e5, W5⟩ := T5
      exact ih (j + 1) g5 { s with heap := h4, toks := tk4 } v oJ' (by omega) W5 hIJ' (e5 _ _ _ S5) q
    | brk => exact q _ _ _ _ S5.drop.drop T5
    | ret v => exact q _ _ _ _ S5.drop.drop T5
theorem St.hold2 {H cs : Nw} {h h' : Heap} {tk : Nat} {e J : Addr} {oe oJ : Obj} (x : St' c g H cs h tk) (F : Fr c.h₀ c.L h' (loc c.cl g.m)) (hk : ∀ b o, h.get? b = some o → h'.get? b = some o) (lJ : h.objs.size ≤ J) (le : h.objs.size ≤ e) (hne : e ≠ J) (hJ : h'.get? J = some oJ) (he : h'.get? e = some oe) : St c g ((e, oe) :: (J, oJ) :: H) h' tk := by
  have lt : ∀ q ∈ cs ++ (H ++ g.o) ++ (g.t ++ c.ex), q.1 < h.objs.size := fun q hq => Heap.lt_size (x.N q hq).1
  have new : ∀ a, h.objs.size ≤ a → a ≠ c.L ∧ c.h₀.get? a = none := fun a ha => fresh_of x.F (by
    cases e : h.get? a with
    | none => rfl
    | some o => exact absurd (Heap.lt_size e) (Nat.not_lt.mpr ha))
  have A1 := apart_push (a := cs) (b := H ++ g.o) (p := (J, oJ)) x.P fun q hq => Nat.ne_of_lt (Nat.lt_of_lt_of_le (lt q hq) lJ)
  have A2 := apart_push (a := cs) (b := (J, oJ) :: (H ++ g.o)) (p := (e, oe)) A1 fun q hq => by
    rcases List.mem_append.mp hq with hq | hq
    · rcases List.mem_append.mp hq with hq | hq
      · exact Nat.ne_of_lt (Nat.lt_of_lt_of_le (lt q (List.mem_append_left _ (List.mem_append_left _ hq))) le)
      · rcases List.mem_cons.mp hq with rfl | hq
        · exact Ne.symm hne
        · exact Nat.ne_of_lt (Nat.lt_of_lt_of_le (lt q (List.mem_append_left _ (List.mem_append_right _ hq))) le)
    · exact Nat.ne_of_lt (Nat.lt_of_lt_of_le (lt q (List.mem_append_right _ hq)) le)
  refine ⟨cs, F, x.Y, fun q hq => ?_, A2, x.b⟩
  have : q = (e, oe) ∨ q = (J, oJ) ∨ q ∈ cs ++ (H ++ g.o) ++ (g.t ++ c.ex) := by
    simp only [List.cons_append, List.mem_append, List.mem_cons] at hq ⊢
    rcases hq with (h | h | h | h) | h
    · exact .inr (.inr (.inl (.inl h)))
    · exact .inl h
    · exact .inr (.inl h)
    · exact .inr (.inr (.inl (.inr h)))
    · exact .inr (.inr (.inr h))
  rcases this with rfl | rfl | hq
  · exact ⟨he, new _ le⟩
  · exact ⟨hJ, new _ lJ⟩
  · exact ⟨hk _ _ (x.N q hq).1, (x.N q hq).2⟩
theorem pyNext_enumL {prog : Program} {w : World} {A : Around} {E : Value → Shared → Prop} {s : Shared} {e it l : Addr} {i : Nat} {items : Array Value} {x old : Value} {Q : Option Value → Shared → Prop}
    (he : IsEnum s.heap e it i old) (hit : s.heap.IsListIter it l i) (hl : s.heap.IsList l items) (hx : items[i]? = some x) (hne : e ≠ it)
    (hQ : ∀ h', IsEnumOut h' e it ((i : Int) + 1) x s.heap.objs.size → h'.IsListIter it l (i + 1) → h'.get? s.heap.objs.size = some { cls := .type "tuple", data := .seq #[.int i s.toks, x] } →
      (∀ b o, b ≠ e → b ≠ it → s.heap.get? b = some o → h'.get? b = some o) → Q (some (.ref s.heap.objs.size)) { s with heap := h', toks := s.toks + 1 }) : wpAny (model prog w) A (pyNext (.ref e)) Q E s := by
  have hT : s.TypeIs (.ref e) "enumerate" := ⟨_, he, rfl⟩
  unfold pyNext
  exact wpAny_bind (wpAny_attempt (wpAny_callSpecial?_slot (name := Str.ofString "__next__") hT F.slot_enumerate_next
    (wpAny_call_entry F.slot_enumerate_next hT F.entry_enumerate_next
      (enumerate_next_item he hit hl hx hne fun h' a b d _ k => wpAny_pure (hQ h' a b d k)) (F.args_enumerate_next_1 _))))
theorem enum_for {x y : Str} {px py tp p1 p2 pos : Pos} {kk : Nat} {e : PySem.Expr} {body orelse : List Stmt} {P : Value → Prop} {k : Kt Flow} (hg : okG c.sc (Str.ofString "enumerate") = true) (hst : isStar e = false) (he : Wp c (eval e (ev c)) g fun v g' => P v ∧ g' = g)
    (h : Ck c → ∀ v (H : Nw) (s : Shared) (Q : Flow → Shared → Prop), P v → St c g H s.heap s.toks → (∀ v h' tk' g', St c g' H h' tk' → k v g' → Q v { s with heap := h', toks := tk' }) →
      wpAny (model c.prog c.w) (ar c) (call (.type "enumerate") [v]) (fun xv s₁ => wpAny (model c.prog c.w) (ar c) (pyIter xv) (fun it s₂ => LoopE c.prog c.w (ar c) (ev c) (.Tuple [.Name x px, .Name y py] kk tp) body orelse Q NoE it s₂) NoE s₁) NoE s) :
    Wp c (exec (.For (.Tuple [.Name x px, .Name y py] kk tp) (.Call (.Name (Str.ofString "enumerate") p1) [e] [] p2) body orelse pos) (ev c)) g k := by
  refine ⟨fun O H s Q S q => For_else (env := ev c) S.fr ?_ (fun _ => rfl) PassesOwn.never⟩
  have hn := globB_ok (Str.ofString "enumerate", .type "enumerate") (List.mem_of_getElem? (i := 6) rfl)
  refine Call_ ((wp_nameB (k := fun v g' => v = .type "enumerate" ∧ g' = g) hg (hn.1 _) hn.2.1 hn.2.2 ⟨rfl, rfl⟩).run O H s _ S ?_) rfl
  rintro v h1 tk1 g1 S1 ⟨rfl, rfl⟩
  refine PyProof.Rows.callWith_type1 (args_cons ?_ (star_cons hst _ _)) (star_cons hst _ _) rfl
  refine he.run O H _ _ S1 ?_
  rintro v h2 tk2 g2 S2 ⟨hv, rfl⟩
  exact args_nil (h O v H _ Q hv S2 q)
theorem wp_enumL {x y : Str} {px py tp p1 p2 pos : Pos} {kk : Nat} {e : PySem.Expr} {body orelse : List Stmt} {l : Addr} {vs : List Value} {n : Nat} {W : Nat → Sg → Prop} {k : Kt Flow} (hg : okG c.sc (Str.ofString "enumerate") = true) (hst : isStar e = false) (he : Wp c (eval e (ev c)) g fun v g' => v = .ref l ∧ g' = g)
    (h0 : W 0 g) (hm : ∀ j g, W j g → (l, lstObj vs n) ∈ g.o ++ (g.t ++ c.ex))
    (turn : ∀ j g v t T, j < vs.length → W j g → vs[j]? = some v → Wp c (storeName (ev c) x (.int (j : Int) t)) (g.read [(T, { cls := .type "tuple", data := .seq #[.int (j : Int) t, v] })]) fun _ g => Wp c (storeName (ev c) y v) g fun _ g => Wp c (execs body (ev c)) g (TurnW c W j k))
    (fin : ∀ g, ¬ W vs.length g) : Wp c (exec (.For (.Tuple [.Name x px, .Name y py] kk tp) (.Call (.Name (Str.ofString "enumerate") p1) [e] [] p2) body orelse pos) (ev c)) g k := by
  refine enum_for hg hst he fun O v H s Q hv S q => ?_
  subst hv
  refine call_enumerate_list (items := vs.toArray) ⟨_, (S.mem (hm 0 g h0)).1, rfl, _, rfl⟩ fun h' hE ⟨oJ, hJ, hJc, hJd⟩ _ hk => wpAny_pyIter_enum hE ?_
  obtain ⟨cs, z⟩ := S
  refine enum_loop (n := vs.length) (W := W) (val := fun j v => vs[j]? = some v) (IJ := fun j o => o.cls = .type "list_iterator" ∧ o.data = .fields #[.ref l, .int j 0]) ?_ turn fin O H Q (s.heap.objs.size + 1) s.heap.objs.size (Nat.succ_ne_self _) vs.length 0 g { s with heap := h' } .none oJ (Nat.zero_add _) h0 ⟨hJc, hJd⟩
    (St.hold2 z (z.F.keeps hk) hk (Nat.le_refl _) (Nat.le_succ _) (Nat.succ_ne_self _) hJ hE) q
  intro j g s H e J old oJ Q hj hW hIJ hne S q
  have e1 := S.elim fun cs x => x.N (e, _) (List.mem_append_left _ (List.mem_append_right _ (.head _)))
  have e2 := S.elim fun cs x => x.N (J, _) (List.mem_append_left _ (List.mem_append_right _ (.tail _ (.head _))))
  refine pyNext_enumL (items := vs.toArray) e1.1 ⟨oJ, e2.1, hIJ⟩ ⟨_, (S.mem (hm j g hW)).1, rfl, _, rfl⟩ (by rw [List.getElem?_toArray]; exact List.getElem?_eq_getElem hj) hne fun h' a ⟨oJ', b1, b2⟩ d kp => ?_
  exact q _ _ h' oJ' _ _ (List.getElem?_eq_getElem hj) a b1 b2 d (get_size _) kp (Nat.le_succ _)
end
theorem nb39 {P : Params} {h : Heap} (X : (hd.heap_39 P).In h) : PySem.NoneBooked h := by
  refine ⟨_, ⟨_, _, _, X 2 _ rfl, rfl, ?_, fun _ => rfl⟩, rfl⟩
  intro i hi
  simp only [List.mem_toArray, List.mem_cons, List.not_mem_nil, or_false] at hi
  rcases hi with rfl | rfl | rfl | rfl | rfl | rfl | rfl | rfl | rfl <;> exact ⟨_, _, rfl⟩
section
variable {prog : Program} {w : World} {A : Around} {E : Value → Shared → Prop} {s : Shared} {env : Env} {h₀ : Heap} {elts : List Expr} {kk : Nat} {pos : Pos} {body orelse : List Stmt} {Q : Flow → Shared → Prop}
theorem is_str_same {prog : Program} {w : World} {A : Around} {E : Value → Shared → Prop} {s : Shared} {y z : Str} {u v : Nat} {Q : Value → Shared → Prop} {h₀ : Heap} {L : Addr} {m : Str → Option Value} (X : (hd.heap_39 w.params).In h₀) (F : Fr h₀ L s.heap m)
    (h0 : u ≠ 0 ∧ v ≠ 0) (_ : y = z) (h : ∀ b, Q (.bool b) s) : wpAny (model prog w) A (compareOp .Is (.str y u) (.str z v)) Q E s := by
  show wpAny _ A (do return .bool (← isSame _ _)) Q E s
  exact wpAny_bind (wpAny_isSame_str (by simp [h0.1, h0.2]) (nb39 fun a o e => F.keep _ _ (X a o e)) fun b => wpAny_pure (h b))
end
section
variable {c : Cg} {g : Sg}
theorem wp_isSame {y z : Str} {u v : Nat} {k : Kt Value} (h0 : u ≠ 0 ∧ v ≠ 0) (e : y = z) (h : ∀ b, k (.bool b) g) : Wp c (compareOp .Is (.str y u) (.str z v)) g k :=
  ⟨fun O _ s _ S q => is_str_same O.X S.fr h0 e fun b => q _ _ s.toks _ S (h b)⟩
end
section
variable {prog : Program} {w : World} {A : Around} {E : Value → Shared → Prop} {s : Shared} {env : Env} {h₀ : Heap} {elts : List Expr} {kk : Nat} {pos : Pos} {body orelse : List Stmt} {Q : Flow → Shared → Prop}
theorem is_str_other {M : Model} {A : Around} {E : Value → Shared → Prop} {s : Shared} {y z : Str} {u v : Nat} {Q : Value → Shared → Prop} (h0 : u ≠ 0 ∧ v ≠ 0) (hne : u ≠ v) (hyz : (y == z) = false) (h : Q (.bool false) s) : wpAny M A (compareOp .Is (.str y u) (.str z v)) Q E s := by
  show wpAny _ A (do return .bool (← isSame _ _)) Q E s
  rw [isSame_str_other y z u v (by simp [h0.1, h0.2]) (by simpa using hne) hyz]
  exact wpAny_bind (wpAny_pure (wpAny_pure h))
end
section
variable {c : Cg} {g : Sg}
theorem wp_isOther {y z : Str} {u v : Nat} {k : Kt Value} (h0 : u ≠ 0 ∧ v ≠ 0) (hne : u ≠ v) (e : (y == z) = false) (h : k (.bool false) g) : Wp c (compareOp .Is (.str y u) (.str z v)) g k := Wp.pure' (fun _ _ q => is_str_other h0 hne e q) h
end
theorem word_beq : ∀ i, i < 3 → ∀ j, j < 3 → (wordN i == wordN j) = (i == j) := by decide +kernel
section
variable {prog : Program} {w : World} {p : Program} {loose : List Str} {mean : ExcName → Option Value} {mg mb : Str → Option Value}
theorem c_idxL {W : Addr} {e : Nat} {k0 k1 k2 u : Nat} {j : Nat} (hj : j < 3) (p0 : k0 ≠ 0 ∧ u ≠ 0) (p1 : k1 ≠ 0 ∧ u ≠ 0) (p2 : k2 ≠ 0 ∧ u ≠ 0) (d0 : k0 ≠ u) (d1 : k1 ≠ u) :
    ConL prog w p loose mean mg mb 175 [.ref W, .str (wordN j) u] 8 (fun _ => True) [(W, lstObj [.str (wordN 0) k0, .str (wordN 1) k1, .str (wordN 2) k2] e)] [] (fun _ _ r => ∃ t, r = .int (j : Int) t) := by
  refine conW (binds := [("a", .ref W), ("b", .str (wordN j) u)]) [] [(W, lstObj [.str (wordN 0) k0, .str (wordN 1) k1, .str (wordN 2) k2] e)] (fun _ => rfl) (fun _ => rfl) (fun s => BindsTo.of_eq rfl) (fun c s₀ R l => vbody 20 ?_) (fun _ _ _ _ => ⟨.nil, fun _ h => nomatch h⟩) (fun q hq => hq) (by rfl) (by rfl)
  refine Wp.to (.lay (l := [("i", none), ("j", none)]) (m₀ := fun y => ([("a", Value.ref W), ("b", .str (wordN j) u)] : List (Str × Value)).reverse.lookup y) (.cons rfl (.cons rfl .nil)) (fun _ _ => rfl)) ?_
  refine wp_enumL (vs := [.str (wordN 0) k0, .str (wordN 1) k1, .str (wordN 2) k2]) (n := e) (W := fun i g => i ≤ j ∧ ∃ v1 v2, g = ⟨lay [("i", v1), ("j", v2)] fun y => ([("a", Value.ref W), ("b", .str (wordN j) u)] : List (Str × Value)).reverse.lookup y, [], [(W, lstObj [.str (wordN 0) k0, .str (wordN 1) k1, .str (wordN 2) k2] e)], 0⟩) (by rfl) rfl (vexpr 4 ⟨rfl, rfl⟩) ⟨Nat.zero_le _, _, _, rfl⟩ ?_ ?_ ?_
  · rintro i g ⟨-, v1, v2, rfl⟩
    exact .head _
  · rintro i g v t T hi ⟨hij, v1, v2, rfl⟩ hv
    have hvi : ∃ k, v = .str (wordN i) k ∧ (k ≠ 0 ∧ u ≠ 0) ∧ (i < 2 → k ≠ u) := by
      match i, hi, hv with
      | 0, _, hv => exact ⟨k0, (Option.some.inj hv).symm, p0, fun _ => d0⟩
      | 1, _, hv => exact ⟨k1, (Option.some.inj hv).symm, p1, fun _ => d1⟩
      | 2, _, hv => exact ⟨k2, (Option.some.inj hv).symm, p2, fun h => absurd h (by decide)⟩
    obtain ⟨k, rfl, hk, hd⟩ := hvi
    have hw := word_beq i hi j hj
    have fin : ∀ g', g'.t = (T, { cls := .type "tuple", data := .seq #[.int (i : Int) t, .str (wordN i) k] }) :: [(W, lstObj [.str (wordN 0) k0, .str (wordN 1) k1, .str (wordN 2) k2] e)] → i = j → PostW [(W, lstObj [.str (wordN 0) k0, .str (wordN 1) k1, .str (wordN 2) k2] e)] [] s₀ (fun _ _ r => ∃ t, r = .int (j : Int) t) (.ret (.int (i : Int) t)) g' := fun g' hg hij => ⟨fun q hq => .inr (List.mem_append_right _ (by rw [hg]; exact .tail _ hq)), fun _ _ _ => ⟨t, by subst hij; rfl⟩⟩
    refine wp_storeL rfl rfl (wp_storeL rfl rfl (vbody 20 ?_))
    by_cases h : i = j
    · refine wp_isSame hk (by rw [h]) fun b => ?_
      cases b with
      | true => exact fin _ rfl h
      | false => exact bif_tt (by rw [hw, h]; exact beq_self_eq_true j) (fin _ rfl h)
    · have hlt : i < j := Nat.lt_of_le_of_ne hij h
      refine wp_isOther hk (hd (by omega)) (by rw [hw]; exact beq_eq_false_iff_ne.mpr h) ?_
      refine bif_ff (by rw [hw]; exact beq_eq_false_iff_ne.mpr h) ?_
      exact turn_mk _ (.trans (.lay (l := [("i", some (.int (i : Int) t)), ("j", some (.str (wordN i) k))]) (m₀ := fun y => ([("a", Value.ref W), ("b", .str (wordN j) u)] : List (Str × Value)).reverse.lookup y) (.cons rfl (.cons rfl .nil)) (((Offs.lay rfl).set (g := ⟨_, _, _, _⟩) rfl).set rfl)) (.led (.refl _) (t := [(W, lstObj [.str (wordN 0) k0, .str (wordN 1) k1, .str (wordN 2) k2] e)]) fun q hq => List.mem_append_left _ (.tail _ hq))) ⟨hlt, _, _, rfl⟩
  · rintro g ⟨h, -⟩
    exact absurd h (Nat.not_le.mpr hj)
end
section
variable {prog : Program} {w : World} {A : Around} {E : Value → Shared → Prop} {s : Shared}
theorem enum_nextS {e it : Addr} {x : Str} {t : Tok} {i c : Nat} {old : Value} {Q : Value → Shared → Prop}
    (he : IsEnum s.heap e it i old) (hst : s.heap.IsStrIter it "str_ascii_iterator" x t i) (hx : x.cps[i]? = some c) (hne : e ≠ it)
    (hQ : ∀ h', IsEnumOut h' e it ((i : Int) + 1) (.str ⟨#[c]⟩ s.toks) s.heap.objs.size → h'.IsStrIter it "str_ascii_iterator" x t (i + 1) →
      h'.get? s.heap.objs.size = some { cls := .type "tuple", data := .seq #[.int i (s.toks + 1), .str ⟨#[c]⟩ s.toks] } →
      (∀ b o, b ≠ e → b ≠ it → s.heap.get? b = some o → h'.get? b = some o) → Q (.ref s.heap.objs.size) { s with heap := h', toks := s.toks + 2 }) :
    wpAny (model prog w) A (Builtin.«enumerate.__next__» ⟨[.ref e], []⟩) (fun fin s' => ∃ v, fin = .done (.ret v) ∧ Q v s') E s := by
  obtain ⟨hp, g, d, tk, os⟩ := s
  have hel : e < hp.objs.size := Heap.lt_size he
  have hil : it < hp.objs.size := by obtain ⟨_, y, _⟩ := hst; exact Heap.lt_size y
  show wpAny _ _ (field (.ref e) 2 >>= _) _ _ _
  refine wpAny_bind (wpAny_field he rfl (x := .ref it) rfl (wpAny_bind (wpAny_nextOf_ascii_item hst hx fun h₁ hi₁ hs₁ => ?_)))
  replace hs₁ : Heap.SameBut it hp h₁ := hs₁
  have he₁ : IsEnum h₁ e it i old := (hs₁.2 e hne).trans he
  show wpAny _ _ (field (.ref e) 3 >>= _) _ _ ⟨h₁, g, d, tk + 1, os⟩
  refine wpAny_bind (wpAny_field he₁ rfl (x := rawInt i) rfl ?_)
  show wpAny _ _ (field (.ref e) 4 >>= _) _ _ ⟨h₁, g, d, tk + 1, os⟩
  refine wpAny_bind (wpAny_field he₁ rfl (x := .none) rfl ?_)
  show wpAny _ _ (mkInt i >>= _) _ _ ⟨h₁, g, d, tk + 1, os⟩
  refine wpAny_bind (wpAny_mkInt ?_)
  show wpAny _ _ (setField (.ref e) 3 (rawInt ((i : Int) + 1)) >>= _) _ _ ⟨h₁, g, d, tk + 2, os⟩
  refine wpAny_bind (wpAny_setField_rec he₁ (by simp) fun h₂ he₂ hs₂ => ?_)
  replace hs₂ : Heap.SameBut e h₁ h₂ := hs₂
  replace he₂ : IsEnum h₂ e it ((i : Int) + 1) old := he₂
  show wpAny _ _ (setField (.ref e) 4 .none >>= _) _ _ ⟨h₂, g, d, tk + 2, os⟩
  refine wpAny_bind (wpAny_setField_rec he₂ (by simp) fun h₃ he₃ hs₃ => ?_)
  replace hs₃ : Heap.SameBut e h₂ h₃ := hs₃
  replace he₃ : IsEnum h₃ e it ((i : Int) + 1) old := he₃
  show wpAny _ _ (newTuple [.int i (tk + 1), .str ⟨#[c]⟩ tk] >>= _) _ _ ⟨h₃, g, d, tk + 2, os⟩
  refine wpAny_bind (wpAny_newTuple ?_)
  have hz : h₃.objs.size = hp.objs.size := by rw [hs₃.1, hs₂.1, hs₁.1]
  have he₄ : IsEnum (h₃.push { cls := .type "tuple", data := .seq #[.int i (tk + 1), .str ⟨#[c]⟩ tk] }) e it ((i : Int) + 1) old := Heap.get?_push_of_some _ he₃
  have ht₄ : (h₃.push { cls := .type "tuple", data := .seq #[.int i (tk + 1), .str ⟨#[c]⟩ tk] }).get? hp.objs.size = some { cls := .type "tuple", data := .seq #[.int i (tk + 1), .str ⟨#[c]⟩ tk] } := by
    rw [← hz]; exact Heap.get?_push_size _ rfl
  have hk₄ : ∀ b o, b ≠ e → b ≠ it → hp.get? b = some o → (h₃.push { cls := .type "tuple", data := .seq #[.int i (tk + 1), .str ⟨#[c]⟩ tk] }).get? b = some o := fun b o hb hi y =>
    Heap.get?_push_of_some _ (hs₃.extBut b o hb (hs₂.extBut b o hb (hs₁.extBut b o hi y)))
  have hi₄ : (h₃.push { cls := .type "tuple", data := .seq #[.int i (tk + 1), .str ⟨#[c]⟩ tk] }).IsStrIter it "str_ascii_iterator" x t (i + 1) := by
    obtain ⟨o, y, r⟩ := hi₁
    exact ⟨o, Heap.get?_push_of_some _ (hs₃.extBut _ o (Ne.symm hne) (hs₂.extBut _ o (Ne.symm hne) y)), r⟩
  rw [hz]
  generalize (h₃.push { cls := .type "tuple", data := .seq #[.int i (tk + 1), .str ⟨#[c]⟩ tk] }) = h₄ at he₄ ht₄ hk₄ hi₄
  show wpAny _ _ (Builtin.SmallTypes.ownedTupleIsFree (.ref e) >>= _) _ _ ⟨h₄, g, d, tk + 2, os⟩
  refine wpAny_bind ?_
  unfold Builtin.SmallTypes.ownedTupleIsFree
  refine wpAny_bind (wpAny_field he₄ rfl (x := .none) rfl (wpAny_pure ?_))
  simp only [if_true]
  refine wpAny_bind (wpAny_rule (wpAny_bind (wpAny_field he₄ rfl (x := old) rfl (wpAny_bind (wpAny_setField_rec he₄ (by simp) fun h₅ he₅ hs₅ => ?_)))))
  replace hs₅ : Heap.SameBut e h₄ h₅ := hs₅
  replace he₅ : IsEnum h₅ e it ((i : Int) + 1) (.str ⟨#[c]⟩ tk) := he₅
  show wpAny _ _ (Builtin.SmallTypes.ownedTupleHandOut (.ref e) (.ref hp.objs.size) >>= _) _ _ ⟨h₅, g, d, tk + 2, os⟩
  refine wpAny_bind ?_
  unfold Builtin.SmallTypes.ownedTupleHandOut
  refine wpAny_bind (wpAny_setField_rec he₅ (by simp) fun h₆ he₆ hs₆ => ?_)
  replace hs₆ : Heap.SameBut e h₅ h₆ := hs₆
  replace he₆ : IsEnumOut h₆ e it ((i : Int) + 1) (.str ⟨#[c]⟩ tk) hp.objs.size := he₆
  refine wpAny_setField_rec he₆ (by simp) fun h₇ he₇ hs₇ => ?_
  replace hs₇ : Heap.SameBut e h₆ h₇ := hs₇
  replace he₇ : IsEnumOut h₇ e it ((i : Int) + 1) (.str ⟨#[c]⟩ tk) hp.objs.size := he₇
  have off : ∀ b o, b ≠ e → h₄.get? b = some o → h₇.get? b = some o := fun b o hb y => hs₇.extBut b o hb (hs₆.extBut b o hb (hs₅.extBut b o hb y))
  refine wpAny_bind (wpAny_letGo (wpAny_pure ⟨_, rfl, hQ h₇ he₇ ?_ (off _ _ (Nat.ne_of_gt hel) ht₄) fun b o hb hi y => off b o hb (hk₄ b o hb hi y)⟩))
  obtain ⟨o, y, r⟩ := hi₄
  exact ⟨o, off _ _ (Ne.symm hne) y, r⟩
theorem pyNext_enumS {e it : Addr} {x : Str} {t : Tok} {i c : Nat} {old : Value} {Q : Option Value → Shared → Prop}
    (he : IsEnum s.heap e it i old) (hst : s.heap.IsStrIter it "str_ascii_iterator" x t i) (hx : x.cps[i]? = some c) (hne : e ≠ it)
    (hQ : ∀ h', IsEnumOut h' e it ((i : Int) + 1) (.str ⟨#[c]⟩ s.toks) s.heap.objs.size → h'.IsStrIter it "str_ascii_iterator" x t (i + 1) →
      h'.get? s.heap.objs.size = some { cls := .type "tuple", data := .seq #[.int i (s.toks + 1), .str ⟨#[c]⟩ s.toks] } →
      (∀ b o, b ≠ e → b ≠ it → s.heap.get? b = some o → h'.get? b = some o) → Q (some (.ref s.heap.objs.size)) { s with heap := h', toks := s.toks + 2 }) :
    wpAny (model prog w) A (pyNext (.ref e)) Q E s := by
  have hT : s.TypeIs (.ref e) "enumerate" := ⟨_, he, rfl⟩
  unfold pyNext
  exact wpAny_bind (wpAny_attempt (wpAny_callSpecial?_slot (name := Str.ofString "__next__") hT F.slot_enumerate_next
    (wpAny_call_entry F.slot_enumerate_next hT F.entry_enumerate_next
      (enum_nextS he hst hx hne fun h' a b d k => wpAny_pure (hQ h' a b d k)) (F.args_enumerate_next_1 _))))
end
section
variable {c : Cg} {g : Sg}
theorem wp_enumS {x y : Str} {px py tp p1 p2 pos : Pos} {kk : Nat} {e : PySem.Expr} {body orelse : List Stmt} {z : Str} {b0 : Nat} {W : Nat → Sg → Prop} {k : Kt Flow} (hg : okG c.sc (Str.ofString "enumerate") = true) (hst : isStar e = false) (hz : strIterType z = "str_ascii_iterator") (he : Wp c (eval e (ev c)) g fun v g' => (∃ t, v = .str z t) ∧ g' = g)
    (h0 : W 0 g) (hb : ∀ j g, W j g → b0 ≤ g.b)
    (turn : ∀ j g v t T, j < z.cps.size → W j g → (∃ cp u, z.cps[j]? = some cp ∧ v = .str ⟨#[cp]⟩ u ∧ b0 ≤ u) → Wp c (storeName (ev c) x (.int (j : Int) t)) (g.read [(T, { cls := .type "tuple", data := .seq #[.int (j : Int) t, v] })]) fun _ g => Wp c (storeName (ev c) y v) g fun _ g => Wp c (execs body (ev c)) g (TurnW c W j k))
    (fin : ∀ g, ¬ W z.cps.size g) : Wp c (exec (.For (.Tuple [.Name x px, .Name y py] kk tp) (.Call (.Name (Str.ofString "enumerate") p1) [e] [] p2) body orelse pos) (ev c)) g k := by
  refine enum_for hg hst he fun O v H s Q hv S q => ?_
  obtain ⟨t, rfl⟩ := hv
  refine call_enumerate_str fun h' hE hI _ hk => wpAny_pyIter_enum hE ?_
  rw [hz] at hI
  obtain ⟨oJ, hJ, hJc, hJd⟩ := hI
  obtain ⟨cs, x0⟩ := S
  refine enum_loop (n := z.cps.size) (W := W) (val := fun j v => ∃ cp u, z.cps[j]? = some cp ∧ v = .str ⟨#[cp]⟩ u ∧ b0 ≤ u) (IJ := fun j o => o.cls = .type "str_ascii_iterator" ∧ o.data = .fields #[.str z t, .int j 0]) ?_ turn fin O H Q (s.heap.objs.size + 1) s.heap.objs.size (Nat.succ_ne_self _) z.cps.size 0 g { s with heap := h' } .none oJ (Nat.zero_add _) h0 ⟨hJc, hJd⟩
    (St.hold2 x0 (x0.F.keeps hk) hk (Nat.le_refl _) (Nat.le_succ _) (Nat.succ_ne_self _) hJ hE) q
  intro j g s H e J old oJ Q hj hW hIJ hne S q
  have e1 := S.elim fun cs x => x.N (e, _) (List.mem_append_left _ (List.mem_append_right _ (.head _)))
  have e2 := S.elim fun cs x => x.N (J, _) (List.mem_append_left _ (List.mem_append_right _ (.tail _ (.head _))))
  refine pyNext_enumS e1.1 ⟨oJ, e2.1, hIJ⟩ (Array.getElem?_eq_getElem hj) hne fun h' a ⟨oJ', b1, b2⟩ d kp => ?_
  exact q _ _ h' oJ' _ _ ⟨_, _, Array.getElem?_eq_getElem hj, rfl, Nat.le_trans (hb j g hW) S.le⟩ a b1 b2 d (get_size _) kp (Nat.le_add_right _ _)
theorem wp_inl {fa : Addr} {vs : List Value} {n : Nat} {P : Value → Prop} {k : Kt Value} {name qual : Str} {params : Arguments} {body : List Stmt} {scope : Scope} {dV kV doc pm cdv ct oc : Value} {an od : Option Addr} {osl : Array (Option Value)} {binds : List (Str × Value)} (R : Room c (n + 1))
    (ho : ∀ P, (hd.heap_39 P).lookup fa = some ⟨oc, od, .func (fnOf name qual params body scope dV kV doc pm an cdv ct), osl⟩) (hcd : ∀ P, codeIn (hd.heap_39 P) cdv qual = true)
    (hbind : ∀ s, BindsTo s (fnOf name qual params body scope dV kV doc pm an cdv ct) ⟨vs, []⟩ binds)
    (h : ∀ (c : Cg), Wp (c.fn scope []) (execs body (ev (c.fn scope []))) ⟨fun y => binds.reverse.lookup y, [], [], g.b⟩ (fun fl _ => P (retOf fl)))
    (hloc : (binds.all fun y => scope.names.lookup y.1 == some .local) = true)
    (hfl : (!scope.isCoroutine && (!scope.isGenerator && (decide (scope.kind = .function) && scope.names.all fun x => !(x.2 == .cell)))) = true) (hk : ∀ v, P v → k v g) : Wp c (call (.ref fa) vs) g k := by
  simp only [Bool.and_eq_true, Bool.not_eq_true', decide_eq_true_eq, List.all_eq_true, beq_eq_false_iff_ne] at hfl
  obtain ⟨f1, f2, f3, f4⟩ := hfl
  refine Wp.leaf fun O H s Q S q => ?_
  refine wpAny_call ?_
  refine enter_plain O.B S.fr O.X News.nil O.T rfl rfl O.hk (ho _) (hcd _) (Nat.lt_of_le_of_lt (Nat.le_add_right _ _) R.1) (hbind s) (fun y hy => eq_of_beq (List.all_eq_true.mp hloc y hy)) ?_ f1 f2 f3 f4
  intro g1 L' h1 FG F1 N1 B1 X1 T1 hG hG' hl
  refine body_run (s := { s with heap := h1, toks := _ }) (Cg.fn ⟨c.prog, c.w, c.p, c.loose, c.mean, c.mg, c.mb, c.dp + 1, c.un + 3, ((ar c).deeper (envOf qual scope L' fa cdv)).guards, qual, L', fa, cdv, ev c :: c.outer, _, c.base, g1, scope, [], []⟩ scope []) rfl rfl ⟨B1, X1, T1, f3, List.nodup_nil⟩ (h _) F1 News.nil ⟨.nil, fun _ h => nomatch h⟩ (fun _ h => nomatch h) (Nat.le_trans S.le (Nat.le_add_right _ _)) ?_
  rintro fl h' tk' g' F' N' A' hP
  refine leaveK_ (m := loc c.cl g.m) F' N' fun F'' N'' => ?_
  have K := kept_led hG F' N' (L := c.L) (News.nil (h₀ := c.h₀) (L := c.L)) (ch := []) (fun _ h => nomatch h)
  exact q _ h' tk' g (fun e => S.heap F'' (fun b o hb _ e => K b o (fun hm => hb (List.mem_singleton.mp hm)) e) e) (hk _ hP)
end
theorem km_at : ∀ i, i < 2 → ∀ c, (Str.ofString "km").cps[i]? = some c → (⟨#[c]⟩ : Str) = nmS i := by decide +kernel
theorem km_iter : strIterType (Str.ofString "km") = "str_ascii_iterator" := by decide +kernel
section
variable {c : Cg} {g : Sg}
theorem wp_idxS2 {j : Nat} (hj : j < 2) {t0 u : Nat} {k : Kt Value} (R : Room c 8) (h0 : 0 < u) (hu : u < g.b) (h : ∀ t, k (.int (j : Int) t) g) : Wp c (call (.ref 175) [.str "km" t0, .str (nmS j) u]) g k := by
  refine wp_inl (P := fun r => ∃ t, r = .int (j : Int) t) (binds := [("a", .str "km" t0), ("b", .str (nmS j) u)]) R (fun _ => rfl) (fun _ => rfl) (fun s => BindsTo.of_eq rfl) (fun c => vbody 20 ?_) (by rfl) (by rfl) fun v ⟨t, e⟩ => e ▸ h t
  refine Wp.to (.lay (l := [("i", none), ("j", none)]) (m₀ := fun y => ([("a", Value.str "km" t0), ("b", .str (nmS j) u)] : List (Str × Value)).reverse.lookup y) (.cons rfl (.cons rfl .nil)) (fun _ _ => rfl)) ?_
  refine wp_enumS (b0 := g.b) (W := fun i g' => i ≤ j ∧ ∃ v1 v2, g' = ⟨lay [("i", v1), ("j", v2)] fun y => ([("a", Value.str "km" t0), ("b", .str (nmS j) u)] : List (Str × Value)).reverse.lookup y, [], [], g.b⟩) (by rfl) rfl km_iter (vexpr 4 ⟨⟨_, rfl⟩, rfl⟩) ⟨Nat.zero_le _, _, _, rfl⟩ ?_ ?_ ?_
  · rintro i g' ⟨-, v1, v2, rfl⟩
    exact Nat.le_refl _
  · rintro i g' v t T hi ⟨hij, v1, v2, rfl⟩ ⟨cp, k, hcp, rfl, hk⟩
    have hi2 : i < 2 := hi
    rw [km_at i hi2 cp hcp]
    have hw := nm_beq hi2 hj
    have hz : k ≠ 0 ∧ u ≠ 0 := ⟨Nat.ne_of_gt (Nat.lt_of_lt_of_le (Nat.lt_trans h0 hu) hk), Nat.ne_of_gt h0⟩
    refine wp_storeL rfl rfl (wp_storeL rfl rfl (vbody 20 ?_))
    by_cases h : i = j
    · refine wp_isSame hz (by rw [h]) fun b => ?_
      cases b with
      | true => exact ⟨t, by subst h; rfl⟩
      | false => exact bif_tt (by rw [hw, h]; exact beq_self_eq_true j) ⟨t, by subst h; rfl⟩
    · have hlt : i < j := Nat.lt_of_le_of_ne hij h
      refine wp_isOther hz (Nat.ne_of_gt (Nat.lt_of_lt_of_le hu hk)) (by rw [hw]; exact beq_eq_false_iff_ne.mpr h) ?_
      refine bif_ff (by rw [hw]; exact beq_eq_false_iff_ne.mpr h) ?_
      exact turn_mk _ (.trans (.lay (l := [("i", some (.int (i : Int) t)), ("j", some (.str (nmS i) k))]) (m₀ := fun y => ([("a", Value.str "km" t0), ("b", .str (nmS j) u)] : List (Str × Value)).reverse.lookup y) (.cons rfl (.cons rfl .nil)) (((Offs.lay rfl).set (g := ⟨_, _, _, _⟩) rfl).set rfl)) (.led (.refl _) (t := []) fun q hq => nomatch hq)) ⟨hlt, _, _, rfl⟩
  · rintro g' ⟨h, -⟩
    exact absurd h (Nat.not_le.mpr hj)
end
section
variable {prog : Program} {w : World} {p : Program} {loose : List Str} {mean : ExcName → Option Value} {mg mb : Str → Option Value}
theorem c_pf {fl : Nat} (h1 : 1 ≤ fl) (h2 : fl ≤ 7) {tk : Tok} : Con prog w p loose mean mg mb 112 [.int (fl : Int) tk] 2 (fun _ => True) [] (fun _ _ r => ∃ t, r = .str (wordsS fl) t) := (c_pfV h1 h2).con
theorem c_letter {T : TabZ} {rows : List Row} {r0 : Row} (hne : r0 ∈ rows) (hr : rows.length ≤ 20) (hrow : ∀ r ∈ rows, r.t ≤ 32 ∧ r.f ≤ 32 ∧ 1 ≤ r.t + r.f ∧ 1 ≤ r.fl ∧ r.fl ≤ 7) : ConL prog w p loose mean mg mb 366 [.ref T.t] 40 (fun _ => True) (tabLed T rows) []
    (fun s h' r => ∃ O vs e, r = .ref O ∧ NewIn s h' [(O, lstObj vs e)] ∧ IntsAre vs (octs rows)) := by
  have hr2 : rows.length ≤ 1000 := Nat.le_trans hr (by decide)
  refine conWb (binds := [("table", .ref T.t)]) [] (tabLed T rows) (fun _ => rfl) (fun _ => rfl) (fun _ s _ => BindsTo.of_eq rfl) (fun c s₀ R l => vbody 40 ?_) (fun _ _ _ _ => ⟨.nil, fun _ h => nomatch h⟩) (fun q hq => hq) (by rfl) (by rfl)
  intro t1
  refine wp_opt (c_pf (fl := 7) (by decide) (by decide)).toL (R.le rfl) fun t2 => ?_
  intro t3
  refine wp_split (split_words 7 (by decide) (by decide)) (by decide) (by decide) fun W js kk ej hj hkk => ?_
  obtain ⟨w0, w1, w2, hjs, wb0, wb1, wb2⟩ := words_js ej hj
  subst hjs
  have c0 : 1 ≤ w0 ∧ w0 < kk := wb0
  have c1 : 1 ≤ w1 ∧ w1 < kk := wb1
  have c2 : 1 ≤ w2 ∧ w2 < kk := wb2
  intro O
  refine wp_for (fun _ => rfl) (vexpr 6 ?_)
  refine wp_method (mem_at 3 rfl) (mem_at 4 rfl) rfl (fun _ => rfl) (fun _ => rfl) ?_
  refine wp_conN (c_items hr2) (R.le rfl) (fun q hq => in_all (List.mem_append_right _ hq)) fun D => ?_
  refine Lw.to (.trans (.lay (l := leN ⟨[], 0, none, none, none, none, none, none, none⟩) (m₀ := leM ⟨T, rows, O, W, t2, w0, w1, w2, D, kk⟩) (.cons rfl (.cons rfl (.cons rfl (.cons rfl (.cons rfl (.cons rfl (.cons rfl .nil))))))) (fun _ _ => rfl)) (.led (.refl _) fun q hq => List.mem_append_left _ hq)) ?_
  refine lw_list (vs := rows.map fun r => .ref r.a) (e := 0) (W := leW ⟨T, rows, O, W, t2, w0, w1, w2, D, kk⟩) ⟨⟨[], 0, none, none, none, none, none, none, none⟩, .nil, rfl⟩ ?_ ?_ ?_
  case refine_1 =>
    rintro j g ⟨X, -, rfl⟩
    exact mem_at 2 rfl
  case refine_3 =>
    rintro g ⟨X, hv, rfl⟩
    rw [List.length_map, List.take_length] at hv
    refine vbody 6 ?_
    refine ⟨?_, fun h' A hh => ?_⟩
    · exact fun q hq => .inr (.tail _ (.tail _ (.tail _ hq)))
    have z := hh _ (.head _)
    refine ⟨O, X.vs, X.e, rfl, List.forall_mem_cons.mpr ⟨⟨z.2 fun hm => ?_, z.1⟩, List.forall_mem_nil _⟩, hv⟩
    obtain ⟨q, hq, e⟩ := List.mem_map.mp hm
    exact A.2 _ (.head _) q (.tail _ hq) e
  rintro j g v hj ⟨X, hv, rfl⟩ hjv
  rw [List.getElem?_map] at hjv
  obtain ⟨r, hr', rfl⟩ := Option.map_eq_some_iff.mp hjv
  have hrm := List.mem_of_getElem? hr'
  obtain ⟨b1, b2, b3, b4⟩ := hrow r hrm
  refine wp_asT2 (a := .str (nmS r.nm) r.k1) (b := .str (txt r.t r.f r.fl) r.k2) (e := r.n) (in_all (List.mem_append_right (leO _ X) (show r.obj ∈ (_ :: _ :: _ :: _ :: rows.map Row.obj : Nw) from .tail _ (.tail _ (.tail _ (.tail _ (List.mem_map_of_mem hrm))))))) (wp_storeL rfl rfl (wp_storeL rfl rfl (vbody 40 ?_)))
  refine wp_conN (c_wsP b4) (R.le rfl) (fun _ h => nomatch h) fun x => ?_
  intro t4
  refine wp_for (fun _ => rfl) (vexpr 12 ?_)
  refine wp_slice (fun _ _ _ => rfl) (fun _ _ _ => rfl) (vexpr 4 (vexpr 4 ?_))
  refine wp_own (mem_at 2 rfl) (mem_at 3 rfl) rfl (fun _ => rfl) (fun _ => rfl) rfl ?_
  refine ⟨r.t, r.f, r.fl, _, _, rfl, rfl, b3, fun t5 ht5 => ?_⟩
  intro t6
  refine wp_split (split_words r.fl b4.1 b4.2) (by decide) (Nat.le_trans (Nat.add_le_add_right (wordsS_len _) 2) (by decide)) fun D3 js k2 ej2 hj2 hk2 => ?_
  obtain ⟨eo, eb⟩ := bits_or r.fl b4.1 b4.2 ej2
  refine Lw.to (.trans (.lay (l := leN ⟨[], 0, some (.str (nmS r.nm) r.k1), some (.str (txt r.t r.f r.fl) r.k2), some (.ref x.1), some (.int 0 t4), X.v5, X.v6, X.v7⟩) (.cons rfl (.cons rfl (.cons rfl (.cons rfl (.cons rfl (.cons rfl (.cons rfl .nil))))))) (m₀ := leM ⟨T, rows, O, W, t2, w0, w1, w2, D, kk⟩) (((((Offs.lay rfl).set (g := ⟨_, _, _, _⟩) rfl).set rfl).set rfl).set rfl)) .refl) ?_
  refine lw_list (vs := js.map fun q : Nat × Nat => Value.str (wordN q.1) q.2) (e := 0) (W := fun i g => ∃ y : Nat × Tok × Option Value, (y.1 = orFold (js.take i) 0 ∧ y.1 < 8) ∧ g = leG ⟨T, rows, O, W, t2, w0, w1, w2, D, kk⟩ [(D3, lstObj (js.map fun q : Nat × Nat => Value.str (wordN q.1) q.2) 0)] (wsLed r.t r.f x.1 x.2) k2 ⟨X.vs, X.e, some (.str (nmS r.nm) r.k1), some (.str (txt r.t r.f r.fl) r.k2), some (.ref x.1), some (.int (y.1 : Int) y.2.1), y.2.2, X.v6, X.v7⟩) ⟨(0, t4, X.v5), ⟨rfl, (by decide : 0 < 8)⟩, rfl⟩ ?_ ?_ ?_
  case refine_1 =>
    rintro i g ⟨y, -, rfl⟩
    exact mem_at 0 rfl
  case refine_2 =>
    rintro i g v hi ⟨⟨fv, tf, wv⟩, ⟨e1, e2⟩, rfl⟩ hiv
    rw [List.getElem?_map] at hiv
    obtain ⟨q, hq', rfl⟩ := Option.map_eq_some_iff.mp hiv
    have hqm := List.mem_of_getElem? hq'
    have hq3 := eb q hqm
    have hk3 : kk ≤ q.2 := (hj2 q hqm).elim (fun a => a.1) fun a => a.2 ▸ ht5
    have e2 : fv < 8 := e2
    have qz : q.2 ≠ 0 := Nat.ne_of_gt (Nat.lt_of_lt_of_le (Nat.zero_lt_of_lt c0.2) hk3)
    refine wp_asN (wp_storeL rfl rfl (vbody 40 ?_))
    intro t7
    refine wp_optL (c_idxL hq3 ⟨Nat.ne_of_gt c0.1, qz⟩ ⟨Nat.ne_of_gt c1.1, qz⟩ ⟨Nat.ne_of_gt c2.1, qz⟩ (Nat.ne_of_lt (Nat.lt_of_lt_of_le c0.2 hk3)) (Nat.ne_of_lt (Nat.lt_of_lt_of_le c1.2 hk3))) (R.le rfl) (List.forall_mem_cons.mpr ⟨mem_at 2 rfl, List.forall_mem_nil _⟩) fun t8 => ?_
    refine wp_opt (o_shl (Int.natCast_nonneg _) (kbm_shl (m := 64) (intBits_le_64 (by decide) (by decide)) (by omega) (by decide))) (R.le rfl) fun t9 => ?_
    refine wp_opt o_or (R.le rfl) ?_
    rw [or_val e2 hq3]
    intro t10
    refine turn_mk _ (.lay (l := leN ⟨[], 0, some (.str (nmS r.nm) r.k1), some (.str (txt r.t r.f r.fl) r.k2), some (.ref x.1), some (.int ((fv ||| 2 ^ q.1 : Nat) : Int) t10), some (.str (wordN q.1) q.2), X.v6, X.v7⟩) (.cons rfl (.cons rfl (.cons rfl (.cons rfl (.cons rfl (.cons rfl (.cons rfl .nil))))))) (((Offs.lay rfl).set (g := ⟨_, _, _, _⟩) rfl).set rfl)) ⟨(fv ||| 2 ^ q.1, t10, some (.str (wordN q.1) q.2)), ⟨?_, or_lt e2 hq3⟩, rfl⟩
    show fv ||| 2 ^ q.1 = _
    have e1 : fv = _ := e1
    rw [e1, List.take_succ, hq']
    simp [orFold]
  case refine_3 =>
    rintro g ⟨⟨fv, tf, wv⟩, ⟨e1, -⟩, rfl⟩
    have e1 : fv = _ := e1
    rw [List.length_map, List.take_length, eo] at e1
    subst e1
    refine vbody 6 ?_
    refine wp_own (mem_at 3 rfl) (mem_at 4 rfl) rfl (fun _ => rfl) (fun _ => rfl) rfl ?_
    refine wp_own (mem_at 3 rfl) (mem_at 4 rfl) rfl (fun _ => rfl) (fun _ => rfl) rfl ?_
    refine wp_opt o_sub (R.le rfl) fun t7 => ?_
    intro t8
    refine wp_opt (o_fdiv (by decide) (by decide)) (R.le rfl) fun t9 => ?_
    intro t10
    refine wp_lower (nm_lower r.nm) (nm_short r.nm) fun u hu => ?_
    refine wp_idxS2 (Nat.mod_lt _ (by decide)) (R.le rfl) (Nat.lt_of_lt_of_le ?_ hu) (Nat.lt_succ_self _) fun t11 => ?_
    · exact Nat.lt_of_lt_of_le (Nat.lt_of_lt_of_le Nat.one_pos hkk) hk2
    intro t12
    refine wp_own (mem_at 3 rfl) (mem_at 4 rfl) rfl (fun _ => rfl) (fun _ => rfl) rfl ?_
    intro t13 t14
    refine wp_mul (.of_left (intBits_le_64 (by decide) (by decide))) fun t15 _ => ?_
    intro t16
    refine wp_mul (.of_left (intBits_le_64 (by decide) (by decide))) fun t17 _ => ?_
    intro t18
    refine wp_mul (.of_left (intBits_le_64 (by decide) (by decide))) fun t19 _ => ?_
    intro t20
    refine wp_mExtend (mem_at 1 rfl) ?_
    intro t21 t22
    refine wp_fdiv (by decide) (by decide) fun t23 _ => ?_
    intro t24 t25 t26 D4
    refine wp_extend (i := 2) (vs := X.vs) (us := [_, _]) rfl (mem_at 0 rfl) (Nat.succ_ne_zero _) ?_ ?_
    · rw [ints_len hv, octs_len]
      exact Nat.le_trans (Nat.add_le_add_right (Nat.mul_le_mul_left 2 (Nat.le_trans (List.length_take_le' _ _) hr)) 2) (by decide)
    refine turn_mk _ (.trans (.lay (l := leN ⟨[], 0, some (.str (nmS r.nm) r.k1), some (.str (txt r.t r.f r.fl) r.k2), some (.ref x.1), some (.int (r.fl : Int) tf), wv, some (.int _ t9), some (.int _ t20)⟩) (.cons rfl (.cons rfl (.cons rfl (.cons rfl (.cons rfl (.cons rfl (.cons rfl .nil))))))) (((Offs.lay rfl).set (g := ⟨_, _, _, _⟩) rfl).set rfl)) (.trans (.led (.cons _ (.cons _ (.refl _))) (t := leT _) fun q hq => List.mem_append_left _ (List.mem_append_right (wsLed r.t r.f x.1 x.2) hq)) (.tok (b := kk) ?_))) ⟨⟨X.vs ++ [_, _], X.e + 1, some (.str (nmS r.nm) r.k1), some (.str (txt r.t r.f r.fl) r.k2), some (.ref x.1), some (.int (r.fl : Int) tf), wv, some (.int _ t9), some (.int _ t20)⟩, ?_, rfl⟩
    · exact Nat.le_trans hk2 (Nat.le_succ_of_le hu)
    · rw [octs_take hr']
      exact intsAre_app hv (octs_vals r _ _)
end
section
variable {c : Cg} {g : Sg}
theorem wp_typeList {D : Addr} {vs : List Value} {n : Nat} {k : Kt Value} (hm : (D, W.listOf vs.toArray n) ∈ g.o ++ (g.t ++ c.ex)) (h : k (.type "list") g) : Wp c (call (.type "type") [.ref D]) g k :=
  ⟨fun _ H s Q S q => kto_cont (kitAt_N S.news hm rfl) (by decide +kernel) (q _ _ s.toks _ S h)⟩
end
section
variable {prog : Program} {w : World} {p : Program} {loose : List Str} {mean : ExcName → Option Value} {mg mb : Str → Option Value}
theorem c_hdrV : ConL prog w p loose mean mg mb 334 [] 8 (fun _ => True) [] [] (fun s h' r => ∃ T : TabZ, r = .ref T.t ∧ NewIn s h' (tabLed T []) ∧ T.l ≠ T.t ∧ T.l ≠ T.d) := by
  refine conI (n := 6) (binds := fun x => [("self", .ref x), ("headers", .none)]) (fun _ => rfl) (fun _ => rfl) (fun _ => rfl) (fun _ => rfl) (fun P x s X => binds_K X rfl rfl rfl rfl rfl) (fun c s₀ x d R => vbody 20 ?_) (fun _ => rfl) (by rfl)
  refine wp_ifexp (vtest 8 (wp_isNot (by rfl) (vexpr 4 ?_)))
  intro D
  refine wp_typeList (vs := []) (mem_at 0 rfl) ?_
  refine wp_isNot (by rfl) ?_
  refine wp_setA (i := 1) (mem_at 2 rfl) rfl rfl (fun _ => rfl) (fun _ => rfl) (fun _ => rfl) (fun _ => Nat.le_of_ble_eq_true rfl) fun t1 => ?_
  refine wp_for (fun _ => rfl) (vexpr 4 ?_)
  refine lw_list (vs := []) (e := 0) (W := fun _ g' => g' = _) rfl ?_ ?_ ?_
  · rintro j g rfl
    exact mem_at 0 rfl
  · rintro j g v hj
    exact absurd hj (Nat.not_lt_zero _)
  · rintro g rfl
    refine vbody 4 ?_
    refine ⟨rfl, fun h' hh => ?_⟩
    have z1 := hh _ (mem_at 0 rfl)
    have z2 := hh _ (mem_at 1 rfl)
    have z3 := hh _ (mem_at 2 rfl)
    refine ⟨⟨x, d, D, _, t1, 0⟩, rfl, List.forall_mem_cons.mpr ⟨z1, List.forall_mem_cons.mpr ⟨z3, List.forall_mem_cons.mpr ⟨z2, List.forall_mem_nil _⟩⟩⟩, fun e => ?_, fun e => ?_⟩
    · have e : D = x := e
      rw [e] at z1
      have := Option.some.inj (z1.2.symm.trans z3.2)
      simp [W.listOf, instObj] at this
    · have e : D = d := e
      rw [e] at z1
      have := Option.some.inj (z1.2.symm.trans z2.2)
      simp [W.listOf, dictOf] at this
theorem strs_map (l : List Row) : StrsAre (l.map fun r => .str (txt r.t r.f r.fl) r.k2) (l.map fun r => txt r.t r.f r.fl) := by
  induction l with
  | nil => exact .nil
  | cons r l ih => exact .cons _ _ ih
theorem texts_ab (rows : List Row) (nm : Nat) : ((rows.filter fun r => r.nm % 2 == nm % 2).map fun r => txt r.t r.f r.fl) = textsA (rows.map Row.ab) (nm % 2) := by
  unfold textsA
  rw [List.filter_map, List.map_map]
  rfl
end
section
variable {c : Cg} {g : Sg}
theorem ar_in1 (c : Cg) : (ar c).in1 = ktrTop c.dp (c.un + 1) c.gd c.cn c.sc c.L c.a c.ccd c.cl c.outer := rfl
theorem wp_lenOwn {x d C f n : Nat} {es : List DictEntry} {n0 : Nat} {led : Nw} {m : Nat} {k : Kt Value} (hx : (x, instObj C d) ∈ g.o ++ (g.t ++ c.ex)) (hD : (d, dictOf es n) ∈ g.o ++ (g.t ++ c.ex)) (hs : ∀ P, findIn (hd.heap_39 P) (.ref C) "__len__" = some (some (.ref f))) (hf : ∀ P, isFn (hd.heap_39 P) (.ref f) = true)
    (K : ConL c.prog c.w c.p c.loose c.mean c.mg c.mb f [.ref x] n0 (fun _ => True) led [] (fun _ _ r => ∃ t, r = .int (m : Int) t)) (R : Room c (n0 + 1)) (hN : ∀ q ∈ led, q ∈ g.o ++ (g.t ++ c.ex)) (hm : m < 2 ^ 62) (h : ∀ t, k (.int (m : Int) t) g) : Wp c (call (.builtin "len") [.ref x]) g k :=
  Wp.leaf fun O H s Q ⟨cs, y⟩ q => PySem.W.len_K y.F O.X (St.inst ⟨cs, y⟩ hx hD) (hs _) (hf _) (by
    rw [ar_in1]
    refine ConL.use0n K O.B y.F O.X O.T O.hk (Nat.lt_of_succ_lt R.1) (by have := R.2; omega) True.intro y.N (fun q hq => by
      have := hN q hq
      simp only [List.mem_append] at this ⊢
      rcases this with h | h | h
      · exact .inl (.inr (.inr h))
      · exact .inr (.inl h)
      · exact .inr (.inr h)) fun r h' tk' F' N' K' FN p => ?_
    obtain ⟨t, rfl⟩ := p
    exact ⟨⟨Int.natCast_nonneg m, Int.lt_trans (Int.ofNat_lt.mpr hm) (by decide)⟩, q _ h' _ g (fun e => ⟨cs, F', y.Y, N', y.P, e⟩) (h _)⟩)
theorem wp_isInt {i : Int} {t : Tok} {k : Kt Value} (h : k (.bool true) g) : Wp c (call (.builtin "isinstance") [.int i t, .type "int"]) g k := Wp.pure' (fun _ _ q => IsiPair.int_int q) h
end
section
variable {prog : Program} {w : World} {p : Program} {loose : List Str} {mean : ExcName → Option Value} {mg mb : Str → Option Value}
theorem c_len {T : TabZ} {rows : List Row} (hr : rows.length ≤ 1000) : ConL prog w p loose mean mg mb 242 [.ref T.t] 4 (fun _ => True) (tabLed T rows) [] (fun s h' r => ∃ t, r = .int (rows.length : Int) t) := by
  refine conW (binds := [("self", .ref T.t)]) [] (tabLed T rows) (fun _ => rfl) (fun _ => rfl) (fun s => BindsTo.of_eq rfl) (fun c s₀ R l => vbody 20 ?_) (fun _ _ _ _ => ⟨.nil, fun _ h => nomatch h⟩) (fun q hq => hq) (by rfl) (by rfl)
  refine wp_own (mem_at 1 rfl) (mem_at 2 rfl) rfl (fun _ => rfl) (fun _ => rfl) rfl ?_
  refine wp_len (mem_at 0 rfl) (by rw [List.length_map]; exact hr) fun t => ?_
  exact ⟨fun q hq => .inr hq, fun _ _ _ => ⟨t, by rw [List.length_map]; rfl⟩⟩
theorem c_hint {T : TabZ} {rows : List Row} (hr : rows.length ≤ 1000) : ConL prog w p loose mean mg mb 190 [.ref T.t] 8 (fun _ => True) (tabLed T rows) [] (fun s h' r => ∃ t, r = .int (rows.length : Int) t) := by
  refine conWb (binds := [("obj", .ref T.t), ("default", .int 0 _)]) [] (tabLed T rows) (fun _ => rfl) (fun _ => rfl) (fun P s X => binds_K X rfl rfl rfl rfl rfl) (fun c s₀ R l => vbody 20 ?_) (fun _ _ _ _ => ⟨.nil, fun _ h => nomatch h⟩) (fun q hq => hq) (by rfl) (by rfl)
  refine wp_isInt ?_
  refine wp_try (vbody 10 ?_)
  refine wp_lenOwn (mem_at 1 rfl) (mem_at 2 rfl) (fun _ => rfl) (fun _ => rfl) (c_len hr) (R.le rfl) (fun q hq => in_all hq) (Nat.lt_of_le_of_lt hr (by decide)) fun t => ?_
  exact ⟨fun q hq => .inr hq, fun _ _ _ => ⟨t, rfl⟩⟩
theorem c_shown {T : TabZ} {rows : List Row} (hr : rows.length < 64) : ConL prog w p loose mean mg mb 387 [.ref T.t] 40 (fun _ => True) (tabLed T rows) []
    (fun s h' r => ∃ z : ShowZ, r = .ref z.D ∧ NewIn s h' (showLed z) ∧ Shows z (rows.map Row.ab)) := by
  have hr2 : rows.length ≤ 1000 := Nat.le_trans (Nat.le_of_lt hr) (by decide)
  have hl : ∀ n, ((rows.filter fun r => r.nm % 2 == n % 2).map fun (r : Row) => Value.str (txt r.t r.f r.fl) r.k2).length < 64 := fun n => by rw [List.length_map]; exact Nat.lt_of_le_of_lt (List.length_filter_le _ _) hr
  have t0 : ((rows.filter fun r => r.nm % 2 == 0 % 2).map fun r => txt r.t r.f r.fl) = textsA (rows.map Row.ab) 0 := texts_ab rows 0
  have t1 : ((rows.filter fun r => r.nm % 2 == 3 % 2).map fun r => txt r.t r.f r.fl) = textsA (rows.map Row.ab) 1 := texts_ab rows 3
  refine conW (binds := [("table", .ref T.t)]) [] (tabLed T rows) (fun _ => rfl) (fun _ => rfl) (fun s => BindsTo.of_eq rfl) (fun c s₀ R l => vbody 20 ?_) (fun _ _ _ _ => ⟨.nil, fun _ h => nomatch h⟩) (fun q hq => hq) (by rfl) (by rfl)
  refine wp_method (mem_at 1 rfl) (mem_at 2 rfl) rfl (fun _ => rfl) (fun _ => rfl) ?_
  intro k1
  refine wp_conN (c_getall hr2 (nm := 0)) (R.le rfl) (fun q hq => in_all hq) fun D1 => ?_
  refine wp_sorted (n := _) (.head _) (strs_map _) (hl 0) fun S1 v1 s1 e1 a1 a2 a3 => ?_
  refine wp_method (mem_at 3 rfl) (mem_at 4 rfl) rfl (fun _ => rfl) (fun _ => rfl) ?_
  intro k2
  refine wp_conN (c_getall hr2 (nm := 3)) (R.le rfl) (fun q hq => in_all (.tail _ (.tail _ hq))) fun D2 => ?_
  refine wp_sorted (n := _) (mem_at 1 rfl) (strs_map _) (hl 3) fun S2 v2 s2 e2 b1 b2 b3 => ?_
  refine wp_optL (c_hint hr2) (R.le rfl) (fun q hq => in_all (.tail _ (.tail _ (.tail _ (.tail _ hq))))) fun k3 => ?_
  intro D
  refine ⟨fun q hq => .inr (.tail _ (.tail _ (.tail _ (.tail _ (.tail _ hq))))), fun h' A hh => ⟨⟨D, S1, S2, v1, v2, s1, s2, 0, e1, e2, rows.length, k3⟩, rfl, ?_, a1, b1, t0 ▸ a2, t1 ▸ b2, a3, b3, (List.length_map _).symm⟩⟩
  have new : ∀ q ∈ [(D, W.listOf #[.ref S1, .ref S2, .int (rows.length : Int) k3] 0), (S2, lstObj v2 e2), (S1, lstObj v1 e1)], s₀.get? q.1 = none ∧ h'.get? q.1 = some q.2 := fun q hq => by
    have z := hh q (List.mem_append_left _ hq)
    refine ⟨z.2 fun hm => ?_, z.1⟩
    obtain ⟨r, hr, e⟩ := List.mem_map.mp hm
    exact A.2 q hq r (.tail _ (.tail _ hr)) e
  exact List.forall_mem_cons.mpr ⟨new _ (.head _), List.forall_mem_cons.mpr ⟨new _ (.tail _ (.tail _ (.head _))), List.forall_mem_cons.mpr ⟨new _ (.tail _ (.head _)), List.forall_mem_nil _⟩⟩⟩
theorem rn_tab {z : CR} {X : RnX} {g : Sg} {c : Cg} (V : RnI z X) (ho : g.o = rnO z X.S) (ht : ∀ q ∈ X.T, q ∈ g.t) {i : Nat} (hi : i < 3) : ∀ q ∈ tabLed (z.tb X.S i) (X.S.r i), q ∈ g.o ++ (g.t ++ c.ex) := fun q hq => by
  rcases List.mem_cons.mp hq with rfl | hq
  · exact List.mem_append_left _ (by rw [ho]; exact List.mem_of_getElem? (rnO_get hi))
  · exact List.mem_append_right _ (List.mem_append_left _ (ht _ (V.tr i hi q hq)))
theorem rn_item {z : CR} : ∀ {i : Nat}, i < 3 → [Value.ref (z.T 0).t, .ref (z.T 1).t, .ref (z.T 2).t][i]? = some (.ref (z.T i).t)
  | 0, _ => rfl
  | 1, _ => rfl
  | 2, _ => rfl
set_option maxHeartbeats 8000000 in
theorem c_run {Nn : Addr} {vs : List Value} {n : Nat} {ns : List Nat} (hns : ns.length = 6) (hvs : IntsAre vs (ns.map fun x => ((x : Nat) : Int))) (OK : OkRun ns) :
    ConT prog w p loose mean mg mb 394 [.ref Nn] 80 (fun _ => True) [(Nn, lstObj vs n)] [] (fun s h' r => Tells s h' r ((runA ns 5).le ++ [thirdA ns 3])) := by
  refine conT (binds := [("numbers", .ref Nn)]) [] [(Nn, lstObj vs n)] (fun _ => rfl) (fun _ => rfl) (fun s => BindsTo.of_eq rfl) (fun c s₀ R l _ => wg_first 3 60 ?_) (fun _ _ _ _ => ⟨.nil, fun _ h => nomatch h⟩) (fun q hq => hq) (by rfl) (by rfl)
  refine wp_conP c_hdrV (R.le rfl) (fun _ h => nomatch h) fun _ _ _ ⟨T0, e0, n0, a0, b0⟩ => ⟨T0.l, _, tabRest T0 [], n0, List.forall_mem_cons.mpr ⟨Ne.symm a0, List.forall_mem_cons.mpr ⟨Ne.symm b0, fun _ h => nomatch h⟩⟩, ?_⟩
  subst e0
  refine wp_conP c_hdrV (R.le rfl) (fun _ h => nomatch h) fun _ _ _ ⟨T1, e1, n1, a1, b1⟩ => ⟨T1.l, _, tabRest T1 [], n1, List.forall_mem_cons.mpr ⟨Ne.symm a1, List.forall_mem_cons.mpr ⟨Ne.symm b1, fun _ h => nomatch h⟩⟩, ?_⟩
  subst e1
  refine wp_conP c_hdrV (R.le rfl) (fun _ h => nomatch h) fun _ _ _ ⟨T2, e2, n2, a2, b2⟩ => ⟨T2.l, _, tabRest T2 [], n2, List.forall_mem_cons.mpr ⟨Ne.symm a2, List.forall_mem_cons.mpr ⟨Ne.symm b2, fun _ h => nomatch h⟩⟩, ?_⟩
  subst e2
  intro X Lt Wd
  obtain ⟨z, hz⟩ : ∃ z : CR, z = ⟨Lt, Wd, X, Nn, vs, n, fun i => if i = 0 then T0 else if i = 1 then T1 else T2⟩ := ⟨_, rfl⟩
  refine Wg.to (g' := rnG z ⟨st0 z, _ :: (tabRest T2 [] ++ (tabRest T1 [] ++ (tabRest T0 [] ++ [(Nn, lstObj vs n)]))), none, none, none, none⟩) (by
    subst hz
    exact .trans (.lay (l := rnN ⟨st0 ⟨Lt, Wd, X, Nn, vs, n, fun i => if i = 0 then T0 else if i = 1 then T1 else T2⟩, [], none, none, none, none⟩) (m₀ := rnM ⟨Lt, Wd, X, Nn, vs, n, fun i => if i = 0 then T0 else if i = 1 then T1 else T2⟩) (.cons rfl (.cons rfl (.cons rfl (.cons rfl .nil)))) (fun _ _ => rfl)) (.move (a := [_, _]) (b := [_]) (o := [_, _, _]) rfl rfl)) ?_
  have I0 : RnI z ⟨st0 z, (X, W.listOf #[.ref T0.t, .ref T1.t, .ref T2.t] 0) :: (tabRest T2 [] ++ (tabRest T1 [] ++ (tabRest T0 [] ++ [(Nn, lstObj vs n)]))), none, none, none, none⟩ := by
    subst hz
    refine ⟨fun i hi q hq => ?_, fun _ h => (nomatch h), fun _ h => (nomatch h), .head _, .tail _ (List.mem_append_right _ (List.mem_append_right _ (List.mem_append_right _ (.head _))))⟩
    match i, hi, hq with
    | 0, _, hq => exact .tail _ (List.mem_append_right _ (List.mem_append_right _ (List.mem_append_left _ hq)))
    | 1, _, hq => exact .tail _ (List.mem_append_right _ (List.mem_append_left _ hq))
    | 2, _, hq => exact .tail _ (List.mem_append_left _ hq)
  have RE0 : RelA z (st0 z) (runA ns 0) := ⟨fun _ => rfl, rfl, fun _ h => (nomatch h), True.intro, fun _ h => (nomatch h)⟩
  obtain ⟨hzN, hzv, hzn⟩ : z.Nn = Nn ∧ z.vs = vs ∧ z.n = n := by subst hz; exact ⟨rfl, rfl, rfl⟩
  subst hzN hzv hzn
  clear n0 n1 n2 a0 a1 a2 b0 b1 b2
  generalize (X, W.listOf #[.ref T0.t, .ref T1.t, .ref T2.t] 0) :: (tabRest T2 [] ++ (tabRest T1 [] ++ (tabRest T0 [] ++ [(z.Nn, lstObj z.vs z.n)]))) = TT at I0 ⊢
  clear hz
  refine wg_cons (wg_forR (by rfl) (vexpr 4 ?_) rfl)
  intro t0
  refine ⟨5, t0, fun k g => ∃ Y : RnX, (RnI z Y ∧ RelA z Y.S (runA ns k)) ∧ g = rnG z Y, rfl, by decide, ⟨_, ⟨I0, RE0⟩, rfl⟩, ?_, ?_⟩
  · clear I0 RE0
    rintro k g t G hk ⟨⟨S, T, v1, v2, v3, v4⟩, ⟨V, RE⟩, rfl⟩
    have hkn : k < ns.length := by rw [hns]; exact Nat.lt_of_lt_of_le hk (by decide)
    have OKk := OK k (Nat.le_of_lt hk)
    have hll : S.ls.length = k := by rw [← runA_len ns k, ← RE.l, List.length_map]
    have hA : runA ns (k + 1) = stepA ns (runA ns k) k := rfl
    have hstep : ∀ A, stepA ns A k = (let v := ns.getD k 0; let t := if v / 2 % 60 % (k + 1) < k then (A.le.getD (v / 2 % 60 % (k + 1)) []).foldl layA (A.ta (v % 2)) else A.ta (v % 2); let t2 := writeA t (v % 2) (v / 120 % 4 % 2) (v / 480 % 7 + 1); ⟨fun i => if i = v % 2 then t2 else A.ta i, A.le ++ [t2]⟩) := fun _ => rfl
    have hv : ∃ t, z.vs[k]? = some (.int ((ns.getD k 0 : Nat) : Int) t) := intsAt hvs (by rw [List.getElem?_map, List.getElem?_eq_getElem hkn, List.getD_eq_getElem?_getD, List.getElem?_eq_getElem hkn]; rfl)
    generalize ns.getD k 0 = x at hv hstep
    obtain ⟨tv, hv⟩ := hv
    have x2 : x % 2 < 2 := Nat.mod_lt _ (by decide)
    have x3 : x % 2 < 3 := Nat.lt_succ_of_lt x2
    have hee := e_early x k
    have h60 : ∀ {e : Nat}, e < 5 → e < 2 ^ 60 := fun h => Nat.lt_of_lt_of_le h (by decide)
    refine wp_storeL rfl rfl (wg_first 3 60 ?_)
    refine wp_item (j := k) (in_all (List.mem_append_right [_, _, _, _, _] V.tn)) rfl hv (h60 hk) ?_
    intro t1 t2
    refine wp_item (j := x % 2) (in_all (List.mem_append_right [_, _, _, _, _] V.tx)) (e_mod2 x) (rn_item x3) (Nat.lt_trans x3 (by decide)) ?_
    intro t3
    refine wp_fdiv (by decide) (by decide) fun t4 _ => ?_
    intro t5 t6 t7 t8 t9
    refine Wg.to (.lay (l := rnN ⟨S, T, some (.int (k : Int) t), some (.int (x : Int) tv), some (.ref (z.T (x % 2)).t), some (.int ((x / 2 % 60 % (k + 1) : Nat) : Int) t9)⟩) (m₀ := rnM z) (.cons rfl (.cons rfl (.cons rfl (.cons (congrArg (fun y => some (Value.int y t9)) hee) .nil)))) (((((Offs.lay rfl).set rfl).set rfl).set rfl).set rfl)) ?_
    refine wg_cut (fun g' => ∃ (S' : SRr) (T' : Nw), (RnI z ⟨S', T', some (.int (k : Int) t), some (.int (x : Int) tv), some (.ref (z.T (x % 2)).t), some (.int ((x / 2 % 60 % (k + 1) : Nat) : Int) t9)⟩ ∧
      (S'.r (x % 2)).map Row.ab = (if x / 2 % 60 % (k + 1) < k then ((runA ns k).le.getD (x / 2 % 60 % (k + 1)) []).foldl layA ((runA ns k).ta (x % 2)) else (runA ns k).ta (x % 2)) ∧ (∀ j, j ≠ x % 2 → (S'.r j).map Row.ab = (runA ns k).ta j) ∧ S'.ls = S.ls ∧ S'.zs = S.zs) ∧
      g' = rnG z ⟨S', T', some (.int (k : Int) t), some (.int (x : Int) tv), some (.ref (z.T (x % 2)).t), some (.int ((x / 2 % 60 % (k + 1) : Nat) : Int) t9)⟩) (wg_if (vtest 8 ?_)) ?_
    · refine bif_mk (fun hb => ?_) fun hb => ?_
      · have he : x / 2 % 60 % (k + 1) < k := Int.ofNat_lt.mp (of_decide_eq_true hb)
        obtain ⟨l, hl⟩ : ∃ l, S.ls[x / 2 % 60 % (k + 1)]? = some l := ⟨_, List.getElem?_eq_getElem (by rw [hll]; exact he)⟩
        have hlm : l ∈ S.ls := List.mem_of_getElem? hl
        have hlu : l.us = (runA ns k).le.getD (x / 2 % 60 % (k + 1)) [] := by rw [← RE.l, List.getD_eq_getElem?_getD, List.getElem?_map, hl]; rfl
        have OKl : OkL l.us := OKk.2 _ (by rw [← RE.l]; exact List.mem_map_of_mem hlm)
        have OR := rows_of (ok_self (OKk.1 (x % 2))) (RE.t (x % 2))
        refine wg_cons (wg_takeS 20 (by rfl) (by rfl) (fun _ => rfl) (by rfl) (by rfl) ?_)
        refine wp_item (j := x / 2 % 60 % (k + 1)) (mem_at 1 rfl) rfl (by rw [List.getElem?_map, hl]; rfl) (h60 (Nat.lt_trans he hk)) ?_
        refine wg_take (T := z.tb S (x % 2)) (rows := S.r (x % 2)) (us := l.us) (vs := l.vs) (n := l.e) (4 - x % 2) (rnO_get x3) (fun q hq => List.mem_append_left _ (V.tr _ x3 q hq)) (List.mem_append_left _ (V.tl l hlm)) rfl (R.le rfl) (Nat.le_trans (Nat.add_le_add OR.1 OKl.1) (by decide)) OR.2 (fun u hu => ?_) (RE.v l hlm) fun rows' e new G' hrow hnew => ?_
        · obtain ⟨u1, u2, u3, u4, u5, u6⟩ := OKl.2 u hu
          exact ⟨u1, u2, u3, u5, u6⟩
        refine wg_nil ⟨rfl, ⟨_, rnO z (S.put (x % 2) rows' e), new ++ T, _⟩, ?_, S.put (x % 2) rows' e, new ++ T, ⟨V.put x3 hnew, ?_, fun j hj => ?_, rfl, rfl⟩, rfl⟩
        · rw [rn_upd x3 rfl]; exact .refl
        · rw [if_pos he, ← hlu, ← RE.t, ← hrow]; simp [SRr.put]
        · rw [show (S.put (x % 2) rows' e).r j = S.r j from if_neg hj]; exact RE.t j
      · have he : ¬ x / 2 % 60 % (k + 1) < k := fun h => by
          rw [decide_eq_true (Int.ofNat_lt.mpr h)] at hb; cases hb
        exact wg_nil ⟨rfl, _, .refl, S, T, ⟨⟨V.tr, V.tl, V.ts, V.tx, V.tn⟩, by rw [if_neg he]; exact RE.t _, fun j _ => RE.t j, rfl, rfl⟩, rfl⟩
    · rintro g' G' ⟨S1, T1, ⟨V1, R1, R2, eL, eZ⟩, rfl⟩
      obtain ⟨t0, ht0⟩ : ∃ t0, t0 = (if x / 2 % 60 % (k + 1) < k then ((runA ns k).le.getD (x / 2 % 60 % (k + 1)) []).foldl layA ((runA ns k).ta (x % 2)) else (runA ns k).ta (x % 2)) := ⟨_, rfl⟩
      rw [← ht0] at R1
      have OT : t0.length ≤ 20 ∧ ∀ a ∈ t0, a.2.1 ≤ 5 ∧ a.2.2.1 ≤ 5 ∧ 1 ≤ a.2.2.2 ∧ a.2.2.2 ≤ 7 := by
        rw [ht0]
        split
        · refine ok_take (OKk.1 (x % 2)) ?_
          cases hq : (runA ns k).le[x / 2 % 60 % (k + 1)]? with
          | none => rw [List.getD_eq_getElem?_getD, hq]; exact ⟨Nat.zero_le _, fun _ h => nomatch h⟩
          | some l => rw [List.getD_eq_getElem?_getD, hq]; exact OKk.2 l (List.mem_of_getElem? hq)
        · exact ok_self (OKk.1 (x % 2))
      have RB := rows_of OT R1
      have hta : ∀ i, (runA ns (k + 1)).ta i = if i = x % 2 then writeA t0 (x % 2) (x / 120 % 4 % 2) (x / 480 % 7 + 1) else (runA ns k).ta i := fun i => by rw [hA, hstep, ht0]
      have hle : (runA ns (k + 1)).le = (runA ns k).le ++ [writeA t0 (x % 2) (x / 120 % 4 % 2) (x / 480 % 7 + 1)] := by rw [hA, hstep, ht0]
      have hx4 : x / 120 % 4 < 4 := Nat.mod_lt _ (by decide)
      have hnx := e_name x
      have hfl := e_flag x
      refine wg_first 3 60 ?_
      intro u1 u2 u3 u4
      refine wp_fdiv (by decide) (by decide) fun u5 _ => ?_
      intro u6 u7
      refine wp_itemS (by rw [show Int.fmod (Int.fdiv (x : Int) 120) (Int.ofNat (3 + 1)) = _ from hnx]; exact Int.natCast_nonneg _) (by rw [show Int.fmod (Int.fdiv (x : Int) 120) (Int.ofNat (3 + 1)) = _ from hnx]; exact Int.ofNat_lt.mpr hx4) (by rw [show Int.fmod (Int.fdiv (x : Int) 120) (Int.ofNat (3 + 1)) = _ from hnx]; exact Int.lt_trans (Int.ofNat_lt.mpr hx4) (by decide)) fun u8 _ => ?_
      intro u9
      refine wp_fdiv (by decide) (by decide) fun u10 _ => ?_
      intro u11 u12 u13 u14
      refine wp_put (T := z.tb S1 (x % 2)) (c_writeE (nm := x / 120 % 4) (fl := x / 480 % 7 + 1) (site := x % 2) RB.1 (Nat.le_of_lt_succ x2) (Nat.le_add_left _ _) (Nat.succ_le_of_lt (Nat.mod_lt _ (by decide))) RB.2 (e_mod2 x) (item_kmKM hx4 hnx) hfl) (R.le rfl) (4 - x % 2) (rnO_get x3) (fun q hq => List.mem_append_right _ (List.mem_append_left _ (V1.tr _ x3 q hq))) fun v5 rows' e new R4 hnew _ => ?_
      rw [rn_upd x3 rfl]
      have V2 := V1.put (e := e) (u1 := none) (u2 := none) (u3 := none) (u4 := none) x3 hnew
      have R5 : ∀ j, ((S1.put (x % 2) rows' e).r j).map Row.ab = (runA ns (k + 1)).ta j := fun j => by
        rw [hta]
        by_cases hj : j = x % 2
        · simp only [SRr.put, if_pos hj]; rw [R4, R1]
        · simp only [SRr.put, if_neg hj]; exact R2 j hj
      have R6 : (runA ns (k + 1)).ta (x % 2) = writeA t0 (x % 2) (x / 120 % 4 % 2) (x / 480 % 7 + 1) := by rw [hta, if_pos rfl]
      have eL2 : (S1.put (x % 2) rows' e).ls = S.ls := eL
      have eZ2 : (S1.put (x % 2) rows' e).zs = S.zs := eZ
      clear V1 R1 R2 R4 OT RB eL eZ
      generalize S1.put (x % 2) rows' e = S2 at V2 R5 eL2 eZ2 ⊢
      have OB := ok_rows ((OK (k + 1) hk).1 (x % 2)) (R5 _)
      obtain ⟨r0, hr0⟩ : ∃ r0, r0 ∈ S2.r (x % 2) := by
        cases hq : S2.r (x % 2) with
        | nil => have := R5 (x % 2); rw [R6, hq] at this; simp [writeA] at this
        | cons r _ => exact ⟨r, .head _⟩
      refine wp_mAppend (mem_at 1 rfl) ?_
      refine wp_con (c_letter (T := z.tb S2 (x % 2)) hr0 (Nat.le_trans OB.1 (by decide)) fun r hr => by have := OB.2 r hr; omega) (R.le rfl) (rn_tab V2 rfl (fun q hq => hq) x3) ?_
      rintro _ s h' FN ⟨O, ws, eO, rfl, hn, hv5⟩
      refine ⟨_, hn, ?_⟩
      refine wp_append (j := 1) (its' := ((S2.ls ++ [(⟨O, ws, eO, (S2.r (x % 2)).map Row.ab⟩ : LetZ)]).map fun (l : LetZ) => Value.ref l.O).toArray) rfl (by rw [List.size_toArray, List.length_map, eL2, hll]; exact Nat.le_trans (Nat.le_of_lt hk) (by decide)) (by simp) ?_
      refine wp_mAppend (mem_at 0 rfl) ?_
      refine wp_con (c_shown (T := z.tb S2 (x % 2)) (Nat.lt_of_le_of_lt OB.1 (by decide))) (R.le rfl) (fun q hq => ?_) ?_
      · rcases List.mem_cons.mp hq with rfl | hq
        · refine List.mem_append_left _ (List.mem_of_getElem? (i := 4 - x % 2) ?_)
          show ((rnO z S2).set 1 _)[4 - x % 2]? = _
          rw [List.getElem?_set_ne (by omega)]
          exact rnO_get x3
        · exact in_all (List.mem_append_right [_, _, _, _, _] (.tail _ (V2.tr _ x3 q hq)))
      rintro _ s2 h2 FN2 ⟨y, rfl, hyn, hys⟩
      refine ⟨_, hyn, ?_⟩
      have hyN : ∀ q ∈ showLed y, q.1 ≠ z.Nn := fun q hq => Ne.symm (FN2 q.1 (hyn q hq).1 (z.Nn, lstObj z.vs z.n) (in_all (List.mem_append_right [_, _, _, _, _] (.tail _ V2.tn))))
      have hzl := RE.z.len
      rw [runA_len] at hzl
      refine wp_append (j := 0) (its' := ((S2.zs ++ [y]).map fun (y : ShowZ) => Value.ref y.D).toArray) rfl (by rw [List.size_toArray, List.length_map, eZ2, hzl]; exact Nat.le_trans (Nat.le_of_lt hk) (by decide)) (by simp) ?_
      refine wg_nil ⟨_, .lay (l := rnN ⟨S2, T, some (.int (k : Int) t), some (.int (x : Int) tv), some (.ref (z.T (x % 2)).t), some (.int ((x / 2 % 60 % (k + 1) : Nat) : Int) t9)⟩) (m₀ := rnM z) (.cons rfl (.cons rfl (.cons rfl (.cons rfl .nil)))) (Offs.lay rfl), ⟨(S2.addL ⟨O, ws, eO, (S2.r (x % 2)).map Row.ab⟩).addZ y, showLed y ++ ([(O, lstObj ws eO)] ++ (new ++ T1)), _, _, _, _⟩, ⟨⟨fun i hi q hq => List.mem_append_right _ (List.mem_append_right _ (V2.tr i hi q hq)), fun l hl => ?_, fun y' hy q hq => ?_, List.mem_append_right _ (List.mem_append_right _ V2.tx), List.mem_append_right _ (List.mem_append_right _ V2.tn)⟩, ⟨R5, ?_, fun l hl => ?_, ?_, fun y' hy => ?_⟩⟩, rfl⟩
      · exact (List.mem_append.mp (show l ∈ S2.ls ++ [_] from hl)).elim (fun h => List.mem_append_right _ (List.mem_append_right _ (V2.tl l h))) fun h => by rw [List.mem_singleton.mp h]; exact List.mem_append_right _ (.head _)
      · exact (List.mem_append.mp (show y' ∈ S2.zs ++ [y] from hy)).elim (fun h => List.mem_append_right _ (List.mem_append_right _ (V2.ts y' h q hq))) fun h => by rw [List.mem_singleton.mp h] at hq; exact List.mem_append_left _ hq
      · show (S2.ls ++ [_]).map LetZ.us = _
        rw [List.map_append, eL2, RE.l, hle, ← R6, ← R5]; rfl
      · exact (List.mem_append.mp (show l ∈ S2.ls ++ [_] from hl)).elim (fun h => RE.v l (eL2 ▸ h)) fun h => by rw [List.mem_singleton.mp h, ← octs_ab]; exact hv5
      · show ZAll (S2.zs ++ [y]) _
        rw [eZ2, hle, ← R6, ← R5]
        exact RE.z.snoc hys
      · exact (List.mem_append.mp (show y' ∈ S2.zs ++ [y] from hy)).elim (fun h => RE.n y' (eZ2 ▸ h)) fun h => by rw [List.mem_singleton.mp h]; exact hyN
  · clear I0 RE0
    rintro g G ⟨⟨S, T, v1, v2, v3, v4⟩, ⟨V, RE⟩, rfl⟩
    have hv : ∃ t, z.vs[5]? = some (.int ((ns.getD 5 0 : Nat) : Int) t) := intsAt hvs (by rw [List.getElem?_map, List.getElem?_eq_getElem (by omega), List.getD_eq_getElem?_getD, List.getElem?_eq_getElem (by omega)]; rfl)
    obtain ⟨tv, hv⟩ := hv
    have hth : ∀ j, thirdA ns (j + 1) = ((runA ns 5).le.getD (ns.getD 5 0 / 5 ^ j % 5) []).foldl layA (thirdA ns j) := fun _ => rfl
    generalize ns.getD 5 0 = x at hv hth
    have R0 : (S.r 2).map Row.ab = thirdA ns 0 := (RE.t 2).trans (ta_two ns 5)
    have hll : S.ls.length = 5 := by rw [← runA_len ns 5, ← RE.l, List.length_map]
    refine wg_nil ?_
    refine wg_cons (wg_forR (by rfl) (vexpr 4 ?_) rfl)
    intro t1
    refine ⟨3, t1, fun j g => ∃ Y : RnX, (RnI z Y ∧ (Y.S.r 2).map Row.ab = thirdA ns j ∧ Y.S.ls = S.ls ∧ Y.S.zs = S.zs) ∧ g = rnG z Y, rfl, by decide, ⟨_, ⟨V, R0, rfl, rfl⟩, rfl⟩, ?_, ?_⟩
    · rintro j g t G hj ⟨⟨S1, T1, u1, u2, u3, u4⟩, ⟨V1, R1, eL, eZ⟩, rfl⟩
      have R1 : (S1.r 2).map Row.ab = thirdA ns j := R1
      have eL : S1.ls = S.ls := eL
      have eZ : S1.zs = S.zs := eZ
      have hP : 1 ≤ 5 ^ j ∧ 5 ^ j ≤ 25 := by
        match j, hj with
        | 0, _ => decide
        | 1, _ => decide
        | 2, _ => decide
      have hy : (5 : Int) ^ Int.toNat (j : Int) = ((5 ^ j : Nat) : Int) := by simp
      have hlt : x / 5 ^ j % 5 < 5 := Nat.mod_lt _ (by decide)
      obtain ⟨l, hl⟩ : ∃ l, S1.ls[x / 5 ^ j % 5]? = some l := ⟨_, List.getElem?_eq_getElem (by rw [eL, hll]; exact hlt)⟩
      have hlm : l ∈ S1.ls := List.mem_of_getElem? hl
      have hlu : l.us = (runA ns 5).le.getD (x / 5 ^ j % 5) [] := by rw [← RE.l, ← eL, List.getD_eq_getElem?_getD, List.getElem?_map, hl]; rfl
      have OKl : OkL l.us := (OK 5 (Nat.le_refl _)).2 _ (by rw [← RE.l, ← eL]; exact List.mem_map_of_mem hlm)
      have OR := rows_of (ok_self (ok_third ns j)) R1
      refine wp_storeL rfl rfl (wg_cons (wg_takeS 20 (by rfl) (by rfl) (fun _ => rfl) (by rfl) (by rfl) ?_))
      intro t2
      refine wp_item (j := 2) (in_all (List.mem_append_right [_, _, _, _, _] V1.tx)) rfl rfl (by decide) ?_
      intro t3
      refine wp_item (j := 5) (in_all (List.mem_append_right [_, _, _, _, _] V1.tn)) rfl hv (by decide) ?_
      intro t4
      refine wp_pow (Int.natCast_nonneg j) (by omega) (by decide) fun t5 _ => ?_
      refine wp_fdiv (by rw [hy]; omega) (by rw [hy, Int.natAbs_natCast]; exact Nat.lt_of_le_of_lt hP.2 (by decide)) fun t6 _ => ?_
      intro t7 t8
      refine wp_item (j := x / 5 ^ j % 5) (mem_at 1 rfl) (e_end x (5 ^ j) hy) (by rw [List.getElem?_map, hl]; rfl) (Nat.lt_trans hlt (by decide)) ?_
      refine wg_take (T := z.tb S1 2) (rows := S1.r 2) (us := l.us) (vs := l.vs) (n := l.e) 2 rfl (fun q hq => List.mem_append_left _ (V1.tr 2 (by decide) q hq)) (List.mem_append_left _ (V1.tl l hlm)) rfl (R.le rfl) (Nat.le_trans (Nat.add_le_add OR.1 OKl.1) (by decide)) OR.2 (fun u hu => ?_) (RE.v l (eL ▸ hlm)) fun rows' e new G' hrow hnew => ?_
      · obtain ⟨w1, w2, w3, w4, w5, w6⟩ := OKl.2 u hu
        exact ⟨w1, w2, w3, w5, w6⟩
      refine wg_nil ⟨_, .lay (l := rnN ⟨S1, T, some (.int (j : Int) t), u2, u3, u4⟩) (m₀ := rnM z) (.cons rfl (.cons rfl (.cons rfl (.cons rfl .nil)))) ((Offs.lay rfl).set (g := ⟨_, _, _, _⟩) rfl), ⟨S1.put 2 rows' e, new ++ T1, _, u2, u3, u4⟩, ⟨V1.put (by decide) hnew, ?_, eL, eZ⟩, rfl⟩
      show (if (2 : Nat) = 2 then rows' else S1.r 2).map Row.ab = _
      rw [if_pos rfl, hrow, R1, hlu]; exact (hth j).symm
    · rintro g G ⟨⟨S1, T1, u1, u2, u3, u4⟩, ⟨V1, R1, eL, eZ⟩, rfl⟩
      have R1 : (S1.r 2).map Row.ab = thirdA ns 3 := R1
      have eZ : S1.zs = S.zs := eZ
      refine wg_nil (wg_first 2 60 ?_)
      refine wp_mAppend (mem_at 0 rfl) ?_
      intro t2
      refine wp_item (j := 2) (in_all (List.mem_append_right [_, _, _, _, _] V1.tx)) rfl rfl (by decide) ?_
      refine wp_con (c_shown (T := z.tb S1 2) (Nat.lt_of_le_of_lt (ok_rows (ok_third ns 3) R1).1 (by decide))) (R.le rfl) (rn_tab V1 rfl (fun q hq => hq) (by decide)) ?_
      rintro _ s2 h2 FN2 ⟨y, rfl, hyn, hys⟩
      refine ⟨_, hyn, ?_⟩
      have hyN : ∀ q ∈ showLed y, q.1 ≠ z.Nn := fun q hq => Ne.symm (FN2 q.1 (hyn q hq).1 (z.Nn, lstObj z.vs z.n) (in_all (List.mem_append_right [_, _, _, _, _] V1.tn)))
      have hzl := RE.z.len
      rw [runA_len] at hzl
      refine wp_append (j := 0) (its' := ((S1.zs ++ [y]).map fun (y : ShowZ) => Value.ref y.D).toArray) rfl (by rw [List.size_toArray, List.length_map, eZ, hzl]; decide) (by simp) ?_
      refine ⟨List.forall_mem_cons.mpr ⟨.inr (List.mem_append_right [_, _, _, _, _] (List.mem_append_right _ V1.tn)), fun _ h => nomatch h⟩, fun h' A hh => ?_⟩
      have new : ∀ q, q.1 ≠ z.Nn → q ∈ (rnO z (S1.addZ y)) ++ (showLed y ++ T1) → s₀.get? q.1 = none ∧ h'.get? q.1 = some q.2 := fun q hne hq => ⟨(hh q hq).2 fun hm => hne (List.mem_singleton.mp hm), (hh q hq).1⟩
      have hW : z.W ≠ z.Nn := Ne.symm (A.2 _ (.head _) (z.Nn, lstObj z.vs z.n) (List.mem_append_right _ V1.tn))
      refine ⟨S1.zs ++ [y], z.W, S1.eW + 1, rfl, List.forall_mem_cons.mpr ⟨new _ hW (.head _), fun q hq => ?_⟩, ?_⟩
      · obtain ⟨y', hy', hq'⟩ := List.mem_flatMap.mp hq
        rcases List.mem_append.mp hy' with hy' | hy'
        · exact new q (RE.n y' (eZ ▸ hy') q hq') (List.mem_append_right _ (List.mem_append_right _ (V1.ts y' hy' q hq')))
        · rw [List.mem_singleton.mp hy'] at hq'
          exact new q (hyN q hq') (List.mem_append_right _ (List.mem_append_left _ hq'))
      · rw [eZ]
        exact RE.z.snoc (by rw [← R1]; exact hys)
end
theorem lt_ns2 {h : Heap} {L b : Addr} {m : Str → Option Value} (F : h.Ns L m) (hb : b = L) (e : h.get? b = none) : False := by
  obtain ⟨o, _, _, ho, _⟩ := F
  rw [hb, ho] at e; cases e
theorem fr_turn2 {g g' h : Heap} {L : Addr} {m : Str → Option Value} (T : KtsTurn (frs []) g g') (F : Fr g' L h m) : Fr g L h m := ⟨F.ns, fun b o e => F.keep _ _ (T.other b o e fun q => nomatch q), by have := F.above; rw [T.size] at this; exact this⟩
set_option maxHeartbeats 8000000 in
theorem fin0 : PySem.Challenge.rw_ta0119_01.Holds := hd (by
  k_go0
  (all_goals try k_fold)
  rename Fr _ _ _ _ => F1
  rename News _ _ _ _ => N1
  rename Below _ _ _ _ => B1
  rename Top _ _ _ _ _ _ => T1
  rename Frag.In _ _ => X1
  rename IntsAre _ _ => hI
  rename Heap.IsList _ _ _ => hL
  refine wpAny_execs_cons (wpAny_Assign_Name (Call_ (nameX_K F1 X1 (topRead_of T1) rfl ?_ rfl rfl (by decide)) rfl) rfl)
  refine callWith_K X1 rfl (args_cons (nameX_L F1 rfl ?_ rfl rfl (by decide)) rfl) rfl rfl
  refine args_nil ⟨X1.keeps F1.keep, ?_⟩
  refine Con.use0n (c_numbers hI ?hlen) B1 F1 X1 T1 rfl ?hd ?hu (by obtain ⟨o, a, b⟩ := hL; exact ⟨o, F1.keep _ _ a, b⟩) N1 ?_
  case hlen => omega
  case hd => decide +kernel
  case hu => decide +kernel
  intro r h2 tk2 F2 N2 K2 _ P2
  obtain ⟨D, vs, n, ns, rfl, hn, hl6, hi6⟩ := P2
  replace N2 := NewIn.news hn F1 K2 N1
  clear F1 N1 K2 hn
  refine storeX_L F2 N2 (fun h3 F3 N3 => ?_) rfl rfl
  dsimp only
  refine wpAny_execs_cons (wpAny_Return_some (wpAny_Compare1 ?_ rfl))
  refine Call_ (nameX_K F3 X1 (topRead_of T1) rfl ?_ rfl rfl (by decide)) rfl
  refine callWith_K X1 rfl (args_cons (nameX_L F3 rfl ?_ rfl rfl (by decide)) rfl) rfl rfl
  refine args_nil ⟨X1.keeps F3.keep, ?_⟩
  refine c_run hl6 hi6 (ok_run ns) _ _ _ _ _ _ _ _ _ _ _ _ _ _ _ _ _ B1 F3 X1 T1 X1 T1 ktsDicts_nil rfl ?hd ?hu True.intro N3 ?_
  case hd => decide +kernel
  case hu => decide +kernel
  intro r1 h4 tk4 g4 TT F4 B4 X4 T4 KD4 KF4 P4
  have N4 := keptF_news KF4 B1 TT N3 (fun _ _ h => nomatch h)
  have z3 := F3.ns
  clear F3 N3
  refine Call_ (nameX_K F4 X4 (topRead_of T4) rfl ?_ rfl rfl (by decide)) rfl
  refine callWith_K X4 rfl (args_cons (nameX_L F4 rfl ?_ rfl rfl (by decide)) rfl) rfl rfl
  refine args_nil ⟨X4.keeps F4.keep, ?_⟩
  refine ConL.use0 (c_due hl6 hi6) B4 F4 X4 T4 rfl ?hd ?hu True.intro N4 (fun q hq => hq) ?_
  case hd => decide +kernel
  case hu => decide +kernel
  intro r2 h6 tk6 F6 N6 K6 P6
  have F7 := fr_turn2 TT F6
  refine law_eq P4 P6 (fun b o e e0 => K6 b o (fun q => ?_) e) (fun b o e _ => e) ?hu ?_
  · exact lt_ns2 z3 (List.mem_singleton.mp q) e0
  case hu =>
    show (callerA.units + 3) + 64 < cLine
    decide +kernel
  dsimp only
  refine goodW_bool F7 (by assumption) (raisesW_false allW_false_nil) ?_
  exact postW_of rfl (w_eq_bool (w_res rfl) w_lit) rfl)
end Mine
theorem PySem.Challenge.cw_ta0119_01_holds : PySem.Challenge.rw_ta0119_01.Holds :=
  Mine.fin0
