import PyProof.Rows.All
import Wide.All
import OpenK.AllK
import Wide.FinOn
import PySem.Challenge.RW_pd0159_01
open PySem PySem.W PyProof.Rows PySem.Spec PySem.Calls
set_option Elab.async false
set_option maxRecDepth 100000
set_option maxHeartbeats 8000000
set_option linter.unusedVariables false
set_option compiler.extract_closed false

namespace Mine.Internal
local macro_rules | `(tactic| k_lt $h:ident) => `(tactic| (replace $h := allLt_of $h; dsimp only [AllLt] at $h:ident))
local macro_rules | `(tactic| walk_at "fact") => `(tactic| first | assumption | (apply And.left; (iterate 8 (try first | assumption | apply And.right)); done) | ((iterate 4 (try first | assumption | apply And.right)); done))
local macro_rules | `(tactic| k_ne) => `(tactic| (refine neN ?_; (try dsimp only); first | (with_reducible first | (apply Nat.ne_of_gt; walk_at "fact") | (apply Nat.ne_of_lt; walk_at "fact") | walk_at "fact" | (apply Ne.symm; walk_at "fact") | fail) | omega))
name_quick tw11459126461196584228 for PySem.W.S.findZ by PySem.W.S.findZ_eq
name_quick tw2098882542687241168 for PySem.W.S.findZ by PySem.W.S.findZ_eq
name_quick tw7129553528909500689 for PySem.W.S.findZ by PySem.W.S.findZ_eq
name_quick tw1681871025257683766 for PySem.W.S.findZ by PySem.W.S.findZ_eq
name_quick tw8937447431639356789 for PySem.W.S.findZ by PySem.W.S.findZ_eq
name_quick tw9416984214949368419 for PySem.W.S.findZ by PySem.W.S.findZ_eq
name_quick tw8218452973144966692 for PySem.W.S.findZ by PySem.W.S.findZ_eq
name_quick tw7951875009579557839 for PySem.W.S.findZ by PySem.W.S.findZ_eq
name_quick tw2889820840396127157 for PySem.W.S.findZ by PySem.W.S.findZ_eq
name_quick tw779173166962684025 for PySem.W.S.findZ by PySem.W.S.findZ_eq
name_quick tw14014625306950880344 for PySem.W.S.findZ by PySem.W.S.findZ_eq
name_quick tw398218539154042402 for PySem.W.S.findZ by PySem.W.S.findZ_eq
name_quick tw18316339143657092680 for PySem.W.S.findZ by PySem.W.S.findZ_eq
name_quick tw18156863286375133972 for PySem.W.S.findZ by PySem.W.S.findZ_eq
name_quick tw1554661150887613628 for PySem.W.S.findZ by PySem.W.S.findZ_eq
name_quick tw12501401135881535497 for PySem.W.S.findZ by PySem.W.S.findZ_eq
name_quick tw17526753771085907574 for PySem.W.S.findZ by PySem.W.S.findZ_eq
name_quick tw12118536772468498286 for PySem.W.S.findZ by PySem.W.S.findZ_eq
name_quick tw8480862110343703005 for PySem.W.S.findZ by PySem.W.S.findZ_eq
name_quick tw6798626383726120118 for PySem.W.S.findZ by PySem.W.S.findZ_eq
name_quick tw17771935839113061422 for PySem.W.S.findZ by PySem.W.S.findZ_eq
name_quick tw3764159474827456572 for PySem.W.S.findZ by PySem.W.S.findZ_eq
name_quick tw18211011244517291417 for PySem.W.S.findZ by PySem.W.S.findZ_eq
name_quick tw13503222563597884919 for PySem.W.S.findZ by PySem.W.S.findZ_eq
name_quick tw18144471631733227325 for PySem.W.S.findZ by PySem.W.S.findZ_eq
name_quick tw300149526793321642 for PySem.W.S.findZ by PySem.W.S.findZ_eq
name_quick tw14522388950212680682 for PySem.W.S.findZ by PySem.W.S.findZ_eq
name_quick tw12000443510711083657 for PySem.W.S.findZ by PySem.W.S.findZ_eq
name_quick tw2775882350652854711 for PySem.W.S.findZ by PySem.W.S.findZ_eq
name_quick tw13218787288768353302 for PySem.W.S.findZ by PySem.W.S.findZ_eq
name_quick tw6220887863483194993 for PySem.W.S.findZ by PySem.W.S.findZ_eq
name_quick tw888105415448470482 for PySem.W.S.findZ by PySem.W.S.findZ_eq
name_quick tw7733212678092020723 for PySem.W.S.findZ by PySem.W.S.findZ_eq
name_quick tw17372776767684082753 for PySem.W.S.findZ by PySem.W.S.findZ_eq
name_quick tw18301331633704426468 for PySem.W.S.findZ by PySem.W.S.findZ_eq
name_quick tw5526563917120738016 for PySem.W.S.findZ by PySem.W.S.findZ_eq
name_quick tw14347178429865262485 for PySem.W.S.findZ by PySem.W.S.findZ_eq
name_quick tw1320837809735666699 for PySem.W.S.findZ by PySem.W.S.findZ_eq
name_quick tw10356996999043664619 for PySem.W.S.findZ by PySem.W.S.findZ_eq
name_quick tw14095584904157463023 for PySem.W.S.findZ by PySem.W.S.findZ_eq
name_quick tw4055310435017018977 for PySem.W.S.findZ by PySem.W.S.findZ_eq
name_quick tw14867959319016725854 for PySem.W.S.findZ by PySem.W.S.findZ_eq
name_quick tw11568868220121604349 for PySem.W.S.findZ by PySem.W.S.findZ_eq
name_quick tw251328913288838279 for PySem.W.S.findZ by PySem.W.S.findZ_eq
name_quick tw17117291781813485232 for PySem.W.S.findZ by PySem.W.S.findZ_eq
name_quick tw9387335153853052472 for PySem.W.S.findZ by PySem.W.S.findZ_eq
name_quick tw13574542036879665473 for PySem.W.S.findZ by PySem.W.S.findZ_eq
name_quick tw111880645107947066 for PySem.W.S.findZ by PySem.W.S.findZ_eq
name_quick tw17464057330315634954 for PySem.W.S.findZ by PySem.W.S.findZ_eq
name_quick tw18327048493585942830 for PySem.W.S.findZ by PySem.W.S.findZ_eq
name_quick tw2032967040731594917 for PySem.W.S.findZ by PySem.W.S.findZ_eq
name_quick tw12363556618866649443 for PySem.W.S.findZ by PySem.W.S.findZ_eq
name_quick tw15200876302297112823 for PySem.W.S.findZ by PySem.W.S.findZ_eq
name_quick tw11618260889086222789 for PySem.W.S.findZ by PySem.W.S.findZ_eq
name_quick tw3007732794928452352 for PySem.W.S.findZ by PySem.W.S.findZ_eq
name_quick tw18167620069853891625 for PySem.W.S.findZ by PySem.W.S.findZ_eq
name_quick tw8192237697963333924 for PySem.W.S.findZ by PySem.W.S.findZ_eq
name_quick tw9494071066465417325 for PySem.W.S.findZ by PySem.W.S.findZ_eq
name_quick tw661329470871197348 for PySem.W.S.findZ by PySem.W.S.findZ_eq
name_quick tw6689224333639849987 for PySem.W.S.findZ by PySem.W.S.findZ_eq
name_quick tw311586015040783667 for PySem.W.S.findZ by PySem.W.S.findZ_eq
name_quick tw2624715840520686280 for PySem.W.S.findZ by PySem.W.S.findZ_eq
name_quick tw3552368552290982711 for PySem.W.S.findZ by PySem.W.S.findZ_eq
name_quick tw10013439266357530407 for PySem.W.S.findZ by PySem.W.S.findZ_eq
name_quick tw4010209473641690001 for PySem.W.S.findZ by PySem.W.S.findZ_eq
name_quick tw9940971310307681620 for PySem.W.S.findZ by PySem.W.S.findZ_eq
name_quick tw1963538381651344694 for PySem.W.S.findZ by PySem.W.S.findZ_eq
name_quick tw9285689952803490396 for PySem.W.S.findZ by PySem.W.S.findZ_eq
name_quick tw15795934493376844700 for PySem.W.S.findZ by PySem.W.S.findZ_eq
name_quick tw9234581789739354416 for PySem.W.S.findZ by PySem.W.S.findZ_eq
name_quick tw11196428939031868582 for PySem.W.S.findZ by PySem.W.S.findZ_eq
name_quick tw2398394478662280567 for PySem.W.S.findZ by PySem.W.S.findZ_eq
name_quick tw9250920297822835951 for PySem.W.S.findZ by PySem.W.S.findZ_eq
name_quick tw10483243556115494686 for PySem.W.S.findZ by PySem.W.S.findZ_eq
name_quick tw4026361150047785330 for PySem.W.S.findZ by PySem.W.S.findZ_eq
name_quick tw16189040206931158671 for PySem.W.S.findZ by PySem.W.S.findZ_eq
name_quick tw8571601627449800856 for PySem.W.S.findZ by PySem.W.S.findZ_eq
name_quick tw17539946790348055806 for PySem.W.S.findZ by PySem.W.S.findZ_eq
name_quick tw5622493831694263290 for PySem.W.S.findZ by PySem.W.S.findZ_eq
name_quick tw6233525205836933719 for PySem.W.S.findZ by PySem.W.S.findZ_eq
name_quick tw15236359020482550013 for PySem.W.S.findZ by PySem.W.S.findZ_eq
name_quick tw13234416667309219040 for PySem.W.S.findZ by PySem.W.S.findZ_eq
name_quick tw2580451669301727108 for PySem.W.S.findZ by PySem.W.S.findZ_eq
name_quick tw1364882405075032415 for PySem.W.S.findZ by PySem.W.S.findZ_eq
name_quick tw647127146382244174 for PySem.W.S.findZ by PySem.W.S.findZ_eq
name_quick tw15898320115033130028 for PySem.W.S.findZ by PySem.W.S.findZ_eq
name_quick tw4444376900329554855 for PySem.W.S.findZ by PySem.W.S.findZ_eq
name_quick tw10566339975336575156 for PySem.W.S.findZ by PySem.W.S.findZ_eq
name_quick tw5962161411086437587 for PySem.W.S.findZ by PySem.W.S.findZ_eq
name_quick tw18068913978902378484 for PySem.W.S.findZ by PySem.W.S.findZ_eq
name_quick tw1422757324860467358 for PySem.W.S.findZ by PySem.W.S.findZ_eq
name_quick tw4188753383416611533 for PySem.W.S.findZ by PySem.W.S.findZ_eq
name_quick tw13062008397336291217 for PySem.W.S.findZ by PySem.W.S.findZ_eq
name_quick tw419732494929339313 for PySem.W.S.findZ by PySem.W.S.findZ_eq
name_quick tw268237319028814152 for PySem.W.S.findZ by PySem.W.S.findZ_eq
name_quick tw5119461752665092561 for PySem.W.S.findZ by PySem.W.S.findZ_eq
name_quick tw9866285567755352235 for PySem.W.S.findZ by PySem.W.S.findZ_eq
name_quick tw5339003735879325248 for PySem.W.S.findZ by PySem.W.S.findZ_eq
name_quick tw1581891858971636217 for PySem.W.S.findZ by PySem.W.S.findZ_eq
name_quick tw4124830747147355397 for PySem.W.S.findZ by PySem.W.S.findZ_eq
name_quick tw10442236394583341561 for PySem.W.S.findZ by PySem.W.S.findZ_eq
name_quick tw9791172841288925970 for PySem.W.S.findZ by PySem.W.S.findZ_eq
name_quick tw2962395935493007301 for PySem.W.S.findZ by PySem.W.S.findZ_eq
name_quick tw4972565024431420028 for PySem.W.S.findZ by PySem.W.S.findZ_eq
name_quick tw8066797730908573490 for PySem.W.S.findZ by PySem.W.S.findZ_eq
name_quick tw12938302347109891096 for PySem.W.S.findZ by PySem.W.S.findZ_eq
name_quick tw9836233593934212366 for PySem.W.S.findZ by PySem.W.S.findZ_eq
name_quick tw5620011848287487184 for PySem.W.S.findZ by PySem.W.S.findZ_eq
name_quick tw6653937322591688588 for PySem.W.S.findZ by PySem.W.S.findZ_eq
name_quick tw17795921736430196527 for PySem.W.S.findZ by PySem.W.S.findZ_eq
name_quick tw14717973561887209431 for PySem.W.S.findZ by PySem.W.S.findZ_eq
name_quick tw3278205266486292471 for PySem.W.S.findZ by PySem.W.S.findZ_eq
name_quick tw11569685053799331208 for PySem.W.S.findZ by PySem.W.S.findZ_eq
name_quick tw15606305078752154642 for PySem.W.S.findZ by PySem.W.S.findZ_eq
name_quick tw9402497649041678217 for PySem.W.S.findZ by PySem.W.S.findZ_eq
name_quick tw2238294160714041452 for PySem.W.S.findZ by PySem.W.S.findZ_eq
name_quick tw15593913348461117708 for PySem.W.S.findZ by PySem.W.S.findZ_eq
name_quick tw5740485616304358338 for PySem.W.S.findZ by PySem.W.S.findZ_eq
name_quick tw91460741409293472 for PySem.W.S.findZ by PySem.W.S.findZ_eq
name_quick tw14871806890313424128 for PySem.W.S.findZ by PySem.W.S.findZ_eq
name_quick tw4240382028181187304 for PySem.W.S.findZ by PySem.W.S.findZ_eq
name_quick tw3338804026849974828 for PySem.W.S.findZ by PySem.W.S.findZ_eq
name_quick tw2791899183212552184 for PySem.W.S.findZ by PySem.W.S.findZ_eq
name_quick tw656218330950982011 for PySem.W.S.findZ by PySem.W.S.findZ_eq
name_quick tw7637988650368173385 for PySem.W.S.findZ by PySem.W.S.findZ_eq
name_quick tw5721145010603415224 for PySem.W.S.findZ by PySem.W.S.findZ_eq
name_quick tw5981322547296791141 for PySem.W.S.findZ by PySem.W.S.findZ_eq
name_quick tw16484221141018435914 for PySem.W.S.findZ by PySem.W.S.findZ_eq
name_quick tw17560824206610750927 for PySem.W.S.findZ by PySem.W.S.findZ_eq
name_quick tw11986158549747164155 for PySem.W.S.findZ by PySem.W.S.findZ_eq
name_quick tw7704123655328064082 for PySem.W.S.findZ by PySem.W.S.findZ_eq
name_quick tw12546123012864323739 for PySem.W.S.findZ by PySem.W.S.findZ_eq
name_quick tw3604505731898362371 for PySem.W.S.findZ by PySem.W.S.findZ_eq
name_quick tw7834709076537353616 for PySem.W.S.findZ by PySem.W.S.findZ_eq
name_quick tw11489515532018362193 for PySem.W.S.findZ by PySem.W.S.findZ_eq
name_quick tw12414208913416094706 for PySem.W.S.findZ by PySem.W.S.findZ_eq
name_quick tw14994818917750739931 for PySem.W.S.findZ by PySem.W.S.findZ_eq
name_quick tw9541059021462611446 for PySem.W.S.findZ by PySem.W.S.findZ_eq
name_quick tw8006520988082339276 for PySem.W.S.findZ by PySem.W.S.findZ_eq
name_quick tw17448074356728297938 for PySem.W.S.findZ by PySem.W.S.findZ_eq
name_quick tw10304513780430235059 for PySem.W.S.findZ by PySem.W.S.findZ_eq
name_quick tw7265934134944952283 for PySem.W.S.findZ by PySem.W.S.findZ_eq
name_quick tw5143315045202096232 for PySem.W.S.findZ by PySem.W.S.findZ_eq
name_quick tw13556899401030560790 for PySem.W.S.findZ by PySem.W.S.findZ_eq
name_quick tw15846949230119213872 for PySem.W.S.findZ by PySem.W.S.findZ_eq
name_quick tw16661546809545866551 for PySem.W.S.findZ by PySem.W.S.findZ_eq
name_quick tw12333135608956325345 for PySem.W.S.findZ by PySem.W.S.findZ_eq
name_quick tw14919507176090611876 for PySem.W.S.findZ by PySem.W.S.findZ_eq
name_quick tw5218440773356086744 for PySem.W.S.findZ by PySem.W.S.findZ_eq
name_quick tw10242262236551743671 for PySem.W.S.findZ by PySem.W.S.findZ_eq
name_quick tw16106166854664072332 for PySem.W.S.findZ by PySem.W.S.findZ_eq
name_quick tw4146710182001077880 for PySem.W.S.findZ by PySem.W.S.findZ_eq
name_quick tw6850710170036280739 for PySem.W.S.findZ by PySem.W.S.findZ_eq
name_quick tw3856376934904737152 for PySem.W.S.findZ by PySem.W.S.findZ_eq
name_quick tw8609703672757380441 for PySem.W.S.findZ by PySem.W.S.findZ_eq
name_quick tw8587450722706022481 for PySem.W.S.findZ by PySem.W.S.findZ_eq
name_quick tw4296615728074171805 for PySem.W.S.findZ by PySem.W.S.findZ_eq
name_quick tw1001965638251973727 for PySem.W.S.findZ by PySem.W.S.findZ_eq
name_quick tw17076845009251068349 for PySem.W.S.findZ by PySem.W.S.findZ_eq
name_quick tw158934896996256981 for PySem.W.S.findZ by PySem.W.S.findZ_eq
name_quick tw14444618986993315665 for PySem.W.S.findZ by PySem.W.S.findZ_eq
name_quick tw11761692716431900840 for PySem.W.S.findZ by PySem.W.S.findZ_eq
name_quick tw15646512584508953551 for PySem.W.S.findZ by PySem.W.S.findZ_eq
name_quick tw18002454799260890332 for PySem.W.S.findZ by PySem.W.S.findZ_eq
name_quick tw7820901552219811094 for PySem.W.S.findZ by PySem.W.S.findZ_eq
name_quick tw1456114184466657520 for PySem.W.S.findZ by PySem.W.S.findZ_eq
name_quick tw10184475428576297785 for PySem.W.S.findZ by PySem.W.S.findZ_eq
name_quick tw1338377013675519152 for PySem.W.S.findZ by PySem.W.S.findZ_eq
name_quick tw1264546275008939374 for PySem.W.S.findZ by PySem.W.S.findZ_eq
name_quick tw18264405278369089061 for PySem.W.S.findZ by PySem.W.S.findZ_eq
name_quick tw7677465131592307135 for PySem.W.S.findZ by PySem.W.S.findZ_eq
name_quick tw14266869094377232470 for PySem.W.S.findZ by PySem.W.S.findZ_eq
name_quick tw2935403049379252203 for PySem.W.S.findZ by PySem.W.S.findZ_eq
name_quick tw15806639708461747316 for PySem.W.S.findZ by PySem.W.S.findZ_eq
name_quick tw7111770174345504417 for PySem.W.S.findZ by PySem.W.S.findZ_eq
name_quick tw6532205619174807352 for PySem.W.S.findZ by PySem.W.S.findZ_eq
name_quick tw4888722980473425863 for PySem.W.S.findZ by PySem.W.S.findZ_eq
name_quick tw13786353609707118212 for PySem.W.S.findZ by PySem.W.S.findZ_eq
name_quick tw15847870022166730130 for PySem.W.S.findZ by PySem.W.S.findZ_eq
name_quick tw8754579526692431100 for PySem.W.S.findZ by PySem.W.S.findZ_eq
name_quick tw15593160656894463572 for PySem.W.S.findZ by PySem.W.S.findZ_eq
name_quick tw855434560546843602 for PySem.W.S.findZ by PySem.W.S.findZ_eq
name_quick tw13028511670584152017 for PySem.W.S.findZ by PySem.W.S.findZ_eq
name_quick tw1980065951896258115 for PySem.W.S.findZ by PySem.W.S.findZ_eq
name_quick tw6934651854527803664 for PySem.W.S.findZ by PySem.W.S.findZ_eq
name_quick tw9344916770594492334 for PySem.W.S.findZ by PySem.W.S.findZ_eq
name_quick tw1189842966411611009 for PySem.W.S.findZ by PySem.W.S.findZ_eq
name_quick tw1700095789689532173 for PySem.W.S.findZ by PySem.W.S.findZ_eq
name_quick tw13137488625138627783 for PySem.W.S.findZ by PySem.W.S.findZ_eq
name_quick tw6580811466868261931 for PySem.W.S.findZ by PySem.W.S.findZ_eq
name_quick tw3043016604242672166 for PySem.W.S.findZ by PySem.W.S.findZ_eq
name_quick tw5124455571073796982 for PySem.W.S.findZ by PySem.W.S.findZ_eq
name_quick tw8470098212020595548 for PySem.W.S.findZ by PySem.W.S.findZ_eq
name_quick tw8987409155476300417 for PySem.W.S.findZ by PySem.W.S.findZ_eq
name_quick tw9297346728685962471 for PySem.W.S.findZ by PySem.W.S.findZ_eq
name_quick tw7854436202256102023 for PySem.W.S.findZ by PySem.W.S.findZ_eq
name_quick tw13761097758284722132 for PySem.W.S.findZ by PySem.W.S.findZ_eq
name_quick tw8709525991264739288 for PySem.W.S.findZ by PySem.W.S.findZ_eq
name_quick tw6159647385617546160 for PySem.W.S.findZ by PySem.W.S.findZ_eq
name_quick tw18051937808593121655 for PySem.W.S.findZ by PySem.W.S.findZ_eq
name_quick tw82794140796860313 for PySem.W.S.findZ by PySem.W.S.findZ_eq
name_quick tw8248656811817563581 for PySem.W.S.findZ by PySem.W.S.findZ_eq
name_quick tw17148979196462499555 for PySem.W.S.findZ by PySem.W.S.findZ_eq
name_quick tw11047850578591824015 for PySem.W.S.findZ by PySem.W.S.findZ_eq
name_quick tw14766853691076079845 for PySem.W.S.findZ by PySem.W.S.findZ_eq
name_quick tw4360778928988540786 for PySem.W.S.findZ by PySem.W.S.findZ_eq
name_quick tw3621314871126387851 for PySem.W.S.findZ by PySem.W.S.findZ_eq
name_quick tw990931252279307787 for PySem.W.S.findZ by PySem.W.S.findZ_eq
name_quick tw9918079130023078344 for PySem.W.S.findZ by PySem.W.S.findZ_eq
name_quick tw8055706472976551345 for PySem.W.S.findZ by PySem.W.S.findZ_eq
name_quick tw4092791537675957603 for PySem.W.S.findZ by PySem.W.S.findZ_eq
name_quick tw1810560270367678541 for PySem.W.S.findZ by PySem.W.S.findZ_eq
name_quick tw1151047199148732581 for PySem.W.S.findZ by PySem.W.S.findZ_eq
name_quick tw234106385551317051 for PySem.W.S.findZ by PySem.W.S.findZ_eq
name_quick tw5089674986408345449 for PySem.W.S.findZ by PySem.W.S.findZ_eq
name_quick tw9827017121075221181 for PySem.W.S.findZ by PySem.W.S.findZ_eq
name_quick tw12419548342640408541 for PySem.W.S.findZ by PySem.W.S.findZ_eq
name_quick tw14199742658836564867 for PySem.W.S.findZ by PySem.W.S.findZ_eq
name_quick tw10674850006962655848 for PySem.W.S.findZ by PySem.W.S.findZ_eq
name_quick tw3783815370921859266 for PySem.W.S.findZ by PySem.W.S.findZ_eq
name_quick tw10888272359287795784 for PySem.W.S.findZ by PySem.W.S.findZ_eq
name_quick tw12744436583321090507 for PySem.W.S.findZ by PySem.W.S.findZ_eq
name_quick tw2045330749376003669 for PySem.W.S.findZ by PySem.W.S.findZ_eq
name_quick tw4320480931756992488 for PySem.W.S.findZ by PySem.W.S.findZ_eq
name_quick tw1078092966223000019 for PySem.W.S.findZ by PySem.W.S.findZ_eq
name_quick tw3577984189709248438 for PySem.W.S.findZ by PySem.W.S.findZ_eq
name_quick tw15795541335138773200 for PySem.W.S.findZ by PySem.W.S.findZ_eq
name_quick tw13917855118417693672 for PySem.W.S.findZ by PySem.W.S.findZ_eq
name_quick tw8736406239370430201 for PySem.W.S.findZ by PySem.W.S.findZ_eq
name_quick tw4024568452044467395 for PySem.W.S.findZ by PySem.W.S.findZ_eq
name_quick tw13657846130342774300 for PySem.W.S.findZ by PySem.W.S.findZ_eq
name_quick tw4001420159964456138 for PySem.W.S.findZ by PySem.W.S.findZ_eq
name_quick tw1211765029694287142 for PySem.W.S.findZ by PySem.W.S.findZ_eq
name_quick tw11604942852700585689 for PySem.W.S.findZ by PySem.W.S.findZ_eq
name_quick tw324682548199873871 for PySem.W.S.findZ by PySem.W.S.findZ_eq
name_quick tw7696528321383399129 for PySem.W.S.findZ by PySem.W.S.findZ_eq
name_quick tw8170780190773205037 for PySem.W.S.findZ by PySem.W.S.findZ_eq
name_quick tw4647880884826932031 for PySem.W.S.findZ by PySem.W.S.findZ_eq
open_top hd for PySem.Challenge.rw_pd0159_01

example : (Challenge.rw_pd0159_01 = Challenge.rw_pd0159_01) ∨ hd.heap_39 = hd.heap_39 := by k_fill; exact .inl rfl
noncomputable abbrev prg : Program := PySem.Challenge.pw_pd0159_01
noncomputable abbrev vw : Program := hd.view_39
noncomputable abbrev lo : List Str := looseW hd.view_39 [Str.ofString "_NodeInfo", Str.ofString "_filemode_table"]

structure Gd (w : World) (g : Heap) : Prop where
  X : (hd.heap_39 w.params).In g
  T : ∃ mean mg mb, Top vw lo mean mg mb g
theorem Gd.keeps {w : World} {g h : Heap} (G : Gd w g) (k : ∀ b o, g.get? b = some o → h.get? b = some o) : Gd w h :=
  ⟨G.X.keeps k, let ⟨mean, mg, mb, T⟩ := G.T; ⟨mean, mg, mb, T.keeps k⟩⟩
structure Rm (A : Around) (n : Nat) : Prop where
  hh : A.handled = none
  dp : A.depth + n < 1000
  un : A.units + 20 * n < 9900
theorem Rm.deeper {A : Around} {n : Nat} {env : Env} (R : Rm A (n + 1)) : Rm (A.deeper env) n :=
  ⟨R.hh, by have := R.dp; show A.depth + 1 + n < 1000; omega, by have := R.un; show A.units + 3 + 20 * n < 9900; omega⟩
theorem Rm.le {A : Around} {n k : Nat} (R : Rm A n) (h : k ≤ n) : Rm A k := ⟨R.hh, by have := R.dp; omega, by have := R.un; omega⟩

abbrev retOf (fl : Flow) : Value := match fl with | .ret v => v | _ => .none

theorem enter {w : World} {A : Around} {f : Addr} {args : List Value} {Q E : Value → Shared → Prop} {s0 : Heap} {gs : Array GenState} {dr : Drawn} {tk0 : Nat} {os : OsState}
    {name qual : Str} {params : Arguments} {body : List Stmt} {scope : Scope} {dV kV doc pm cdv ct oc : Value} {an od : Option Addr} {osl : Array (Option Value)} {binds : List (Str × Value)}
    (G : Gd w s0) (R : Rm A 1)
    (ho : (hd.heap_39 w.params).lookup f = some ⟨oc, od, .func (fnOf name qual params body scope dV kV doc pm an cdv ct), osl⟩) (hcd : codeIn (hd.heap_39 w.params) cdv qual = true)
    (hbind : BindsTo ⟨s0, gs, dr, tk0, os⟩ (fnOf name qual params body scope dV kV doc pm an cdv ct) ⟨args, []⟩ binds) (hloc : ∀ y ∈ binds, scope.names.lookup y.1 = some .local)
    (hco : scope.isCoroutine = false) (hgen : scope.isGenerator = false) (hk : scope.kind = .function)
    (hcell : ∀ x ∈ scope.names, x.2 ≠ .cell)
    (h : ∀ L h₁, Fr s0 L h₁ (fun y => binds.reverse.lookup y) → News s0 L h₁ [] → L = s0.objs.size →
      let A1 := A.deeper (envOf qual scope L f cdv); wpAny (model prg w) A1 (execs body (envOf qual scope L f cdv))
        (fun fl s' => Q (retOf fl) s') (fun _ _ => False) ⟨h₁, gs, dr, tk0 + binds.length, os⟩) :
    wpAny (model prg w) A (call (.ref f) args) Q E ⟨s0, gs, dr, tk0, os⟩ := by
  obtain ⟨mean, mg, mb, T⟩ := G.T
  refine wpAny_call ?_
  refine codeAny_call_def (fd := fnOf name qual params body scope dV kV doc pm an cdv ct) (body := body) (binds := binds) (by have := R.dp; show A.depth < 1000; omega) (G.X _ _ ho) rfl T.nolimit (codeRec_of G.X hcd) rfl hbind hcell hloc (fun h₁ hns hk₁ => ?_) hco hgen hk
  exact wpAny_mono (h s0.objs.size h₁ ⟨hns, hk₁, Nat.le_refl _⟩ News.nil rfl) (fun fl s' q => q) fun _ _ q => q.elim

section
variable {prog : Program} {w : World} {A : Around} {E : Value → Shared → Prop} {s : Shared}
theorem issub_nested {k : Value} {dep : Int} {tk : Tok} {Q : Fin → Shared → Prop} (hk : k = .int dep tk) (hq : Q (.done (.ret (.bool true))) s) :
    wpAny (model prog w) A (Builtin.«issubclass.nested» ⟨[.type "str", .type "str", k], []⟩) Q E s := by
  subst hk
  have hself : isSubtype (.type "str") (.type "str") = pure true := by rw [isSubtype_type]; kernel_rfl
  have hm : typeOf (.type "str") = pure (.type "type") := by kernel_rfl
  repeat (any_goals (first | assumption | (rw [hself]) | wp_step))
end
section
variable {α : Type} {M : Model} {A : Around} {c : Sem α} {Q : α → Shared → Prop} {E : Value → Shared → Prop} {hp hp' h₀ : Heap} {g : Array GenState} {d : Drawn} {t t' n : Nat} {o : OsState} {L : Addr} {m : Str → Option Value} {s : Shared}
theorem tk_gen {hp : Heap} (h : ∀ t, wpAny M A c Q E ⟨hp, g, d, t, o⟩) : wpAny M A c Q E ⟨hp, g, d, t, o⟩ := h t
theorem fl_a (F : Fr h₀ L hp' m) (h : wpAny M A c Q E ⟨hp', g, d, t, o⟩) (e : s = ⟨hp, g, d, t, o⟩) : wpAny M A c Q E ⟨hp', s.gens, s.drawn, s.toks, s.os⟩ := by subst e; exact h
theorem fl_b (F : Fr h₀ L hp' m) (h : wpAny M A c Q E ⟨hp', g, d, t', o⟩) (e : s = ⟨hp, g, d, t, o⟩) : wpAny M A c Q E ⟨hp', s.gens, s.drawn, t', s.os⟩ := by subst e; exact h
theorem fl_c (h : wpAny M A c Q E ⟨hp, g, d, t + n, o⟩) (e : s = ⟨hp, g, d, t, o⟩) : wpAny M A c Q E ⟨s.heap, s.gens, s.drawn, s.toks + n, s.os⟩ := by subst e; exact h
end
section
variable {M : Model} {A : Around} {E : Value → Shared → Prop} {s : Shared} {h₀ : Heap} {L a : Addr} {m : Str → Option Value} {cn : Str} {cs : Scope} {ccd : Value} {cl : List (Str × Addr)} {x z : Str} {v : Value} {r : Option Value} {Q : Unit → Shared → Prop} {news : List (Addr × Obj)}
theorem storeX_M (F : Fr h₀ L s.heap m) (N : News h₀ L s.heap news)
    (h : ∀ h', let m' := (fun y => if y = x then some v else m y); Fr h₀ L h' m' → News h₀ L h' news → Q () { s with heap := h', toks := s.toks + 1 })
    (hk : cs.kind = .function) (hx : (envX cn cs L a ccd cl).kindOf x = some .local) : wpAny M A (storeName (envX cn cs L a ccd cl) x v) Q E s := storeX_L F N h hk hx
theorem out_st {q : Option Value} (h : z ≠ x) (e : q = r) : (if z = x then some v else q) = r := by rw [if_neg h]; exact e
end
section
variable {M : Model} {A : Around} {E : Value → Shared → Prop} {Q : Value → Shared → Prop} {hp : Heap} {g : Array GenState} {d : Drawn} {t : Nat} {o : OsState} {env : Env} {n : Int} {x : Str} {k : Nat} {pos : Pos}
theorem cint (h : Q (.int n t) ⟨hp, g, d, t + 1, o⟩) : wpAny M A (eval (.Constant (.int n) k pos) env) Q E ⟨hp, g, d, t, o⟩ := wpAny_Constant_int h
theorem cstr (h : Q (.str x t) ⟨hp, g, d, t + 1, o⟩) : wpAny M A (eval (.Constant (.str x) k pos) env) Q E ⟨hp, g, d, t, o⟩ := Calls.Constant_str h
end

section
variable {prog : Program} {w : World} {A : Around} {E : Value → Shared → Prop} {s : Shared}
theorem issub_nested_tup {a : Addr} {o : Obj} {n : Nat} {Q : Fin → Shared → Prop} (ho : s.heap.get? a = some o) (hc : o.cls = .type "tuple") (hd : o.data = .seq #[.type "str", .type "bytes"] n) (hq : Q (.done (.ret (.bool true))) s) :
    wpAny (model prog w) A (Builtin.«issubclass.nested» ⟨[.type "str", .ref a, .int 0 0], []⟩) Q E s := by
  have hT : s.TypeIs (.ref a) "tuple" := (show ∃ o, s.heap.get? a = some o ∧ o.cls = .type "tuple" from ⟨_, ho, hc⟩)
  have hsub : isSubtype (.type "tuple") (.type "tuple") = pure true := by rw [isSubtype_type]; kernel_rfl
  wp_walk
  rw [hd]
  refine wpAny_pure ?_
  refine wpAny_bind ?_
  simp only [Option.getD_some]
  rw [← Array.forIn_toList, List.forIn_cons]
  refine wpAny_bind (wpAny_bind (Calls.call_function_entry (id := "issubclass.nested") (by decide +kernel) (by decide +kernel) F.entry_issubclass_nested (by unfold argsOk; kernel_rfl) (issub_nested rfl ?_)))
  refine ⟨_, rfl, ?_⟩
  refine wpAny_bind (wpAny_truthy_bool ?_)
  wp_walk
  exact hq
theorem issub_str {a : Addr} {vs : Array Value} {Q : Value → Shared → Prop} (ht : IsTup s.heap a vs) (hv : vs = #[.type "str", .type "bytes"]) (hq : Q (.bool true) s) :
    wpAny (model prog w) A (call (.builtin "issubclass") [.type "str", .ref a]) Q E s := by
  subst hv
  obtain ⟨o, ho, hc, n, hd⟩ := ht
  refine call_issubclass (S := fun _ R s' => s' = s ∧ R (.ok (.ret (.bool true))) s) (fun _ _ _ _ _ hs => ?_) ⟨rfl, hq⟩
  obtain ⟨rfl, hs⟩ := hs
  exact issubclass_outer (issub_nested_tup ho hc hd hs)
end
abbrev Ext (h h' : Heap) : Prop := ∀ b o, h.get? b = some o → h'.get? b = some o
noncomputable def Pur (w : World) (f : Addr) (args : List Value) (n : Nat) (pre : Heap → Prop) (P : Value → List (Addr × Obj) → Prop) : Prop :=
  ∀ (A : Around) (Q E : Value → Shared → Prop) (s : Shared), Gd w s.heap → Rm A n → pre s.heap →
    (∀ v h' tk' led, Ext s.heap h' → (∀ p ∈ led, h'.get? p.1 = some p.2 ∧ s.heap.get? p.1 = none) → P v led → Q v { s with heap := h', toks := tk' }) → wpAny (model prg w) A (call (.ref f) args) Q E s
theorem pur_of {w : World} {f : Addr} {args : List Value} {n : Nat} {pre : Heap → Prop} {P : Value → List (Addr × Obj) → Prop}
    (h : ∀ (A : Around) (Q E : Value → Shared → Prop) (s0 : Heap) (gs : Array GenState) (dr : Drawn) (tk0 : Nat) (os : OsState), Gd w s0 → Rm A n → pre s0 →
      (∀ v h' tk' led, Ext s0 h' → (∀ p ∈ led, h'.get? p.1 = some p.2 ∧ s0.get? p.1 = none) → P v led → Q v ⟨h', gs, dr, tk', os⟩) → wpAny (model prg w) A (call (.ref f) args) Q E ⟨s0, gs, dr, tk0, os⟩) : Pur w f args n pre P :=
  fun A Q E s G R hp ret => h A Q E s.heap s.gens s.drawn s.toks s.os G R hp ret
section
variable {w : World} {A : Around} {Q E : Value → Shared → Prop} {s : Shared} {h₀ : Heap} {L : Addr} {m mg mb : Str → Option Value} {mean : ExcName → Option Value} {news : List (Addr × Obj)} {f : Addr} {args : List Value} {n : Nat} {pre : Heap → Prop} {P : Value → List (Addr × Obj) → Prop}
theorem use_pur (S : Pur w f args n pre P) (F : Fr h₀ L s.heap m) (N : News h₀ L s.heap news) (X : (hd.heap_39 w.params).In h₀) (T : Top vw lo mean mg mb h₀) (R : Rm A n) (hp : pre s.heap)
    (k : ∀ v h' tk' led, Fr h₀ L h' m → News h₀ L h' (led ++ news) → (∀ p ∈ led, ∀ q ∈ news, p.1 ≠ q.1) → P v led → Q v { s with heap := h', toks := tk' }) :
    wpAny (model prg w) A (call (.ref f) args) Q E s := by
  refine S A Q E s (Gd.keeps ⟨X, mean, mg, mb, T⟩ F.keep) R hp fun v h' tk' led e hl p => k v h' tk' led (F.keeps e) (fun p hp => ?_) (fun p hp q hq e' => ?_) p
  · rcases List.mem_append.mp hp with hp | hp
    · refine ⟨(hl p hp).1, fun q => ?_, ?_⟩
      · obtain ⟨o, _, _, ho, _⟩ := F.ns
        have := (hl p hp).2
        rw [q, ho] at this; cases this
      · cases q : h₀.get? p.1 with
        | none => rfl
        | some o => have := F.keep _ _ q; rw [(hl p hp).2] at this; cases this
    · exact N.grown e p hp
  · have := (hl p hp).2
    rw [e', (N q hq).1] at this; cases this
theorem use_pur0 (S : Pur w f args n pre P) (F : Fr h₀ L s.heap m) (N : News h₀ L s.heap news) (X : (hd.heap_39 w.params).In h₀) (T : Top vw lo mean mg mb h₀) (R : Rm A n) (hp : pre s.heap)
    (k : ∀ v h' tk' led, Fr h₀ L h' m → News h₀ L h' news → P v led → Q v { s with heap := h', toks := tk' }) :
    wpAny (model prg w) A (call (.ref f) args) Q E s :=
  use_pur S F N X T R hp fun v h' tk' led F' N' _ p => k v h' tk' led F' (fun q hq => N' q (List.mem_append_right _ hq)) p
end
theorem noled {h h' : Heap} : ∀ p ∈ ([] : List (Addr × Obj)), h'.get? p.1 = some p.2 ∧ h.get? p.1 = none := fun _ h => nomatch h
theorem News.led {h₀ h : Heap} {L : Addr} {led : List (Addr × Obj)} (N : News h₀ L h led) : ∀ p ∈ led, h.get? p.1 = some p.2 ∧ h₀.get? p.1 = none := fun p hp => ⟨(N p hp).1, (N p hp).2.2⟩
theorem enterV {w : World} {A : Around} {f : Addr} {args vs : List Value} {Q E : Value → Shared → Prop} {s0 : Heap} {gs : Array GenState} {dr : Drawn} {tk0 : Nat} {os : OsState} {g : Heap} {led : List (Addr × Obj)}
    {name qual : Str} {params : Arguments} {body : List Stmt} {scope : Scope} {dV kV doc pm cdv ct oc : Value} {an od : Option Addr} {osl : Array (Option Value)} {binds : List (Str × Value)} {va : Str}
    (G : Gd w g) (hg : Ext g s0) (hsz : g.objs.size ≤ s0.objs.size) (hled : ∀ p ∈ led, s0.get? p.1 = some p.2 ∧ g.get? p.1 = none) (R : Rm A 1)
    (ho : (hd.heap_39 w.params).lookup f = some ⟨oc, od, .func (fnOf name qual params body scope dV kV doc pm an cdv ct), osl⟩) (hcd : codeIn (hd.heap_39 w.params) cdv qual = true)
    (hbind : bindArgs (fnOf name qual params body scope dV kV doc pm an cdv ct) ⟨args, []⟩ = (newTuple vs >>= fun t => pure (binds ++ [(va, t)])))
    (hvs : vs.length ≤ sizeLine)
    (hloc : ∀ y ∈ binds, scope.names.lookup y.1 = some .local) (hlv : scope.names.lookup va = some .local)
    (hco : scope.isCoroutine = false) (hgen : scope.isGenerator = false) (hk : scope.kind = .function)
    (hcell : ∀ x ∈ scope.names, x.2 ≠ .cell)
    (h : ∀ L V h₁ tk, Fr g L h₁ (fun y => (binds ++ [(va, Value.ref V)]).reverse.lookup y) → News g L h₁ ((V, { cls := .type "tuple", data := .seq vs.toArray }) :: led) → L = s0.objs.size + 1 → V = s0.objs.size → (∀ p ∈ led, p.1 < V) → Ext s0 h₁ →
      let A1 := A.deeper (envOf qual scope L f cdv); wpAny (model prg w) A1 (execs body (envOf qual scope L f cdv))
        (fun fl s' => Q (retOf fl) s') (fun _ _ => False) ⟨h₁, gs, dr, tk, os⟩) :
    wpAny (model prg w) A (call (.ref f) args) Q E ⟨s0, gs, dr, tk0, os⟩ := by
  have G' := G.keeps hg
  obtain ⟨mean, mg, mb, T⟩ := G'.T
  refine wpAny_call ?_
  refine codeAny_call_function (by have := R.dp; show A.depth < 1000; omega) (G'.X _ _ ho) rfl hco hgen rfl (codeRec_of G'.X hcd) ?_
  rw [hbind]
  refine wpAny_bind (wpAny_newObj_type (wpAny_pure ?_) (by show vs.toArray.size ≤ sizeLine; rw [List.size_toArray]; exact hvs))
  have hsz' : (s0.push { cls := .type "tuple", dict := none, data := .seq vs.toArray }).objs.size = s0.objs.size + 1 := Heap.size_push _ _
  have up : Ext s0 (s0.push { cls := .type "tuple", dict := none, data := .seq vs.toArray }) := fun b o e => Heap.get?_push_of_some _ e
  refine wpAny_newFunctionEnv hcell (fun x hx => ?_) (fun h₁ hns hsb => ⟨?_, ?_⟩) hk
  · rcases List.mem_append.mp hx with hx | hx
    · exact hloc x hx
    · rw [List.mem_singleton.mp hx]; exact hlv
  · exact (T.nolimit.keeps up).fresh _ hsb
  · have hk₁ : Ext s0 h₁ := fun b o e => hsb.extBut b o (Nat.ne_of_lt (by rw [hsz']; exact Nat.lt_succ_of_lt (Heap.lt_size e))) (Heap.get?_push_of_some _ (up b o e))
    have hV : h₁.get? s0.objs.size = some { cls := .type "tuple", data := .seq vs.toArray } :=
      hsb.extBut _ _ (Nat.ne_of_lt (by rw [hsz']; exact Nat.lt_succ_self _)) (Heap.get?_push_of_some _ (Heap.get?_push_size _ rfl))
    rw [hsz'] at hns ⊢
    have hgV : g.get? s0.objs.size = none := by
      cases e : g.get? s0.objs.size with
      | none => rfl
      | some o => exact absurd (Heap.lt_size (hg _ _ e)) (Nat.lt_irrefl _)
    refine codeAny_func ?_
    refine wpAny_mono (h (s0.objs.size + 1) s0.objs.size h₁ _ ⟨hns, fun b o e => hk₁ b o (hg b o e), Nat.le_succ_of_le hsz⟩ (fun p hp => ?_) rfl rfl (fun p hp => Heap.lt_size (hled p hp).1) hk₁) (fun fl s' q => q) fun _ _ q => q.elim
    rcases List.mem_cons.mp hp with rfl | hp
    · exact ⟨hV, Nat.ne_of_lt (Nat.lt_succ_self _), hgV⟩
    · exact ⟨hk₁ _ _ (hled p hp).1, Nat.ne_of_lt (Nat.lt_succ_of_lt (Heap.lt_size (hled p hp).1)), (hled p hp).2⟩

noncomputable def Src (h₀ : Heap) (fp : List Addr) (wr : List Addr) (src : Addr → Obj) (nw : List (Addr × Obj)) : Prop :=
  ∀ b ∈ fp, b ∉ wr → h₀.get? b = some (src b) ∨ (b, src b) ∈ nw
noncomputable def TurnEnd (h₀ : Heap) (L : Addr) (I : Addr) (oI : Obj) (J : (Str → Option Value) → List (Addr × Obj) → Prop) (s : Shared) (s' : Shared) : Prop :=
  ∃ h' tk' m' nw', s' = { s with heap := h', toks := tk' } ∧ Fr h₀ L h' m' ∧ News h₀ L h' ((I, oI) :: nw') ∧ (∀ p ∈ nw', p.1 ≠ I) ∧ J m' nw'
noncomputable def Turn (h₀ : Heap) (L : Addr) (I : Addr) (oI : Obj) (J : (Str → Option Value) → List (Addr × Obj) → Prop) (s : Shared) (Q : Flow → Shared → Prop) (f : Flow) (s' : Shared) : Prop :=
  match f with
  | .ret v => Q (.ret v) s'
  | .brk => Q .next s'
  | _ => TurnEnd h₀ L I oI J s s'
section
variable {prog : Program} {w : World} {A : Around} {s : Shared} {env : Env} {h₀ : Heap} {Q : Flow → Shared → Prop} {E : Value → Shared → Prop}
theorem my_loop {L : Addr} {x : Str} {px : Pos} {body : List Stmt} {I : Addr} {fp : List Addr} {n : Nat} {P : Nat → Value → Prop} {St : Nat → Heap → Prop} {m : Str → Option Value} {news : List (Addr × Obj)} {src : Addr → Obj} {R : Result → Shared → Prop}
    (hLe : env.locals = L) (W : Walks prog w A I fp [I] n P St) (hx : env.kindOf x = some .local)
    (hp : (env.scope.kind == .class || (env.scope.kind == .module && env.locals != env.globals)) = false)
    (hLf : L ∉ fp) (hI₀ : h₀.get? I = none) (hIf : I ∈ fp) (hIo : ∀ i h, St i h → ∃ o, h.get? I = some o) (hso : ∀ i h, St i h → ∀ b ∈ fp, b ∉ [I] → ∃ o, h.get? b = some o)
    (hst : St 0 s.heap) (F : Fr h₀ L s.heap m) (N : News h₀ L s.heap news) (hoff : ∀ p ∈ news, p.1 ≠ I)
    (J : Nat → (Str → Option Value) → List (Addr × Obj) → Prop) (h0 : J 0 m news) (hJS : ∀ i m nw, J i m nw → Src h₀ fp [I] src nw)
    (hQR : ∀ f s', Q f s' → R (.ok f) s')
    (turn : ∀ i v m₁ nw₁ oI h tk, i < n → P i v → J i m₁ nw₁ → (∀ p ∈ nw₁, p.1 ≠ I) → Fr h₀ L h (fun y => if y = x then some v else m₁ y) → News h₀ L h ((I, oI) :: nw₁) →
      wpAny (model prog w) A (execs body env) (Turn h₀ L I oI (J (i + 1)) s Q) (fun _ _ => False) { s with heap := h, toks := tk })
    (done : ∀ m' nw' h' tk, J n m' nw' → Fr h₀ L h' m' → News h₀ L h' nw' → Q .next { s with heap := h', toks := tk }) :
    codeAny (model prog w) A (.forLoop (.Name x px) (.ref I) body [] env) R s := by
  subst hLe
  have hLw : env.locals ≠ I := fun h => hLf (h ▸ hIf)
  refine codeAny_forLoop
    (fun k s' => ∃ h' tk m' news' i, s' = { s with heap := h', toks := tk } ∧ St i h' ∧ Fr h₀ env.locals h' m' ∧ News h₀ env.locals h' news' ∧ (∀ p ∈ news', p.1 ≠ I) ∧ J i m' news' ∧ i ≤ n ∧ k = n + 1 - i) ?_ (n + 1)
    ⟨s.heap, s.toks, m, news, 0, rfl, hst, F, N, hoff, h0, Nat.zero_le _, rfl⟩
  rintro k s' ⟨h', tk, m', news', i, rfl, hst', F', N', hoff', hJ, hi, rfl⟩
  have next : ∀ h₁ : Heap, (∀ b o, b ∉ [I] → h'.get? b = some o → h₁.get? b = some o) → Fr h₀ env.locals h₁ m' ∧ News h₀ env.locals h₁ news' := fun h₁ hk₁ =>
    ⟨⟨F'.ns.at' fun o e => hk₁ _ o (by simpa using hLw) e, fun b o e => hk₁ b o (fun hb => by rw [List.mem_singleton.mp hb, hI₀] at e; cases e) (F'.keep b o e), F'.above⟩, fun p hp => ⟨hk₁ _ _ (by simpa using hoff' p hp) (N' p hp).1, (N' p hp).2⟩⟩
  by_cases hlt : i < n
  · refine W.item i _ _ _ hlt hst' fun v h₁ tk₁ hP hst₁ hk₁ => ?_
    obtain ⟨F₁, N₁⟩ := next h₁ hk₁
    refine wpAny_assign_Name (wpAny_storeName_local hx F₁.ns (fun h₂ hn₂ hs₂ => ?_) hp)
    have F₂ := F₁.set hn₂ hs₂
    have hst₂ : St (i + 1) h₂ := W.frame _ _ _ hst₁ fun b hb o e => (hs₂.2 b fun q => hLf (q ▸ hb)).trans e
    obtain ⟨oI, hoI⟩ := hIo _ _ hst₂
    have N₂ : News h₀ env.locals h₂ ((I, oI) :: news') := fun p hp => by
      rcases List.mem_cons.mp hp with rfl | hp
      · exact ⟨hoI, Ne.symm hLw, hI₀⟩
      · exact (N₁.set hs₂) p hp
    refine wpAny_mono (turn i v m' news' oI h₂ _ hlt hP hJ hoff' F₂ N₂) (fun f s₃ h₃ => ?_) fun _ _ e => e.elim
    have fin : TurnEnd h₀ env.locals I oI (J (i + 1)) s s₃ → ∃ k', k' < n + 1 - i ∧ ∃ h' tk m' news' i, s₃ = { s with heap := h', toks := tk } ∧ St i h' ∧ Fr h₀ env.locals h' m' ∧ News h₀ env.locals h' news' ∧ (∀ p ∈ news', p.1 ≠ I) ∧ J i m' news' ∧ i ≤ n ∧ k' = n + 1 - i := by
      rintro ⟨h₃', tk₃, m₃, nw₃, rfl, F₃, N₃, ho₃, hJ₃⟩
      refine ⟨n + 1 - (i + 1), by omega, h₃', tk₃, m₃, nw₃, i + 1, rfl, ?_, F₃, fun p hp => N₃ p (List.mem_cons_of_mem _ hp), ho₃, hJ₃, hlt, rfl⟩
      refine W.frame _ _ _ hst₂ fun b hb o e => ?_
      by_cases hbI : b ∈ [I]
      · rw [List.mem_singleton.mp hbI] at e ⊢
        rw [hoI] at e; cases e
        exact (N₃ _ List.mem_cons_self).1
      · rcases hJS _ _ _ hJ b hb hbI with q | q
        · have q₂ := F₂.keep b _ q
          rw [e] at q₂; cases q₂
          exact F₃.keep b _ q
        · have q₂ := (N₂ _ (List.mem_cons_of_mem _ q)).1
          rw [e] at q₂; cases q₂
          rcases hJS _ _ _ hJ₃ b hb hbI with r | r
          · exact F₃.keep b _ r
          · exact (N₃ _ (List.mem_cons_of_mem _ r)).1
    cases f with
    | ret v => exact hQR _ _ h₃
    | brk => exact hQR _ _ h₃
    | cont => exact fin h₃
    | next => exact fin h₃
  · have hin : i = n := by omega
    subst hin
    refine W.done _ _ _ hst' fun h₁ tk₁ hk₁ => wpAny_execs_nil ?_
    obtain ⟨F₁, N₁⟩ := next h₁ hk₁
    exact hQR _ _ (done m' news' h₁ tk₁ hJ F₁ N₁)
end
structure Itb (prog : Program) (w : World) (A : Around) (l : Addr) (o : Obj) (n : Nat) (P : Nat → Value → Prop) : Prop where
  out : ∃ it0 : Obj, it0.isFreed = false ∧
    (∀ (s : Shared) (Q : Value → Shared → Prop) (E : Value → Shared → Prop), s.heap.get? l = some o → Q (.ref s.heap.objs.size) { s with heap := s.heap.push it0 } → wpAny (model prog w) A (pyIter (.ref l)) Q E s) ∧
    ∀ I, l ≠ I → ∃ St : Nat → Heap → Prop, Walks prog w A I [I, l] [I] n P St ∧ (∀ i h, St i h → (∃ o', h.get? I = some o') ∧ (∃ o', h.get? l = some o')) ∧ ∀ h, h.get? l = some o → h.get? I = some it0 → St 0 h
section
variable {prog : Program} {w : World} {A : Around} {s : Shared} {h₀ : Heap}
theorem Itb.list (hh : A.handled = none) {l : Addr} {o : Obj} {items : Array Value} {k : Nat} (hc : o.cls = .type "list") (hd : o.data = .seq items k) : Itb prog w A l o items.size (fun i v => items[i]? = some v) :=
  ⟨_, rfl, fun s Q E ho h => wpAny_pyIter_list ⟨o, ho, hc, k, hd⟩ h, fun I hne => ⟨_, Walks.list hh I l hne items, fun i h st => ⟨let ⟨o', e, _⟩ := st.1; ⟨o', e⟩, let ⟨o', e, _⟩ := st.2; ⟨o', e⟩⟩,
    fun h ho hi => ⟨⟨_, hi, rfl, rfl⟩, ⟨o, ho, hc, k, hd⟩⟩⟩⟩
theorem Itb.tuple (hh : A.handled = none) {l : Addr} {o : Obj} {items : Array Value} {k : Nat} (hc : o.cls = .type "tuple") (hd : o.data = .seq items k) : Itb prog w A l o items.size (fun i v => items[i]? = some v) :=
  ⟨_, rfl, fun s Q E ho h => wpAny_pyIter_tuple ⟨o, ho, hc, k, hd⟩ h, fun I hne => ⟨_, Walks.tuple hh I l hne items, fun i h st => ⟨let ⟨o', e, _⟩ := st.1; ⟨o', e⟩, let ⟨o', e, _⟩ := st.2; ⟨o', e⟩⟩,
    fun h ho hi => ⟨⟨_, hi, rfl, rfl⟩, ⟨o, ho, hc, k, hd⟩⟩⟩⟩
theorem Itb.keys (hh : A.handled = none) {d : Addr} {o : Obj} {kvs : List (Str × Value)} (hd : (d == sysModules) = false) (ho : o.IsDictOf (strKind prog w) kvs) :
    Itb prog w A d o kvs.length (fun i v => ∃ k x t, kvs[i]? = some (k, x) ∧ v = .str k t) := by
  obtain ⟨es, ep, hx, hdat, hk, hp, hn⟩ := ho
  refine ⟨_, rfl, fun s Q E ho h => wpAny_pyIter_dict (knd := strKind prog w) hd ⟨o, es, ho, hx, hdat, hk, hp, hn⟩ h, fun I hne => ⟨fun i h => h.IsKeyIter I d i kvs.length ep ∧ h.DictAt (strKind prog w) d kvs ep, ?_, fun i h st => ⟨let ⟨o', e, _⟩ := st.1; ⟨o', e⟩, let ⟨o', _, e, _⟩ := st.2; ⟨o', e⟩⟩,
    fun h ho hi => ⟨⟨_, hi, rfl, rfl⟩, ⟨o, es, ho, hx, hdat, hk, hp, hn⟩⟩⟩⟩
  have W := Walks.dictKeys (prog := prog) (w := w) (knd := strKind prog w) hh I d hne kvs ep
  exact { sub := W.sub, frame := W.frame, done := W.done, self := W.self,
          item := fun i s Q E hi st hQ => W.item i s Q E hi st fun v h' tk hP => hQ v h' tk (by
            obtain ⟨k, x, e, hv⟩ := hP
            obtain ⟨t, rfl⟩ := Value.isStrOf_shape hv
            exact ⟨k, x, t, e, rfl⟩) }
variable {env : Env} {Q : Flow → Shared → Prop} {E : Value → Shared → Prop}
theorem for_itb {L : Addr} {x : Str} {px : Pos} {body : List Stmt} {l : Addr} {o : Obj} {n : Nat} {P : Nat → Value → Prop} {m : Str → Option Value} {news : List (Addr × Obj)}
    (hLe : env.locals = L) (T : Itb prog w A l o n P) (hx : env.kindOf x = some .local)
    (hp : (env.scope.kind == .class || (env.scope.kind == .module && env.locals != env.globals)) = false)
    (F : Fr h₀ L s.heap m) (N : News h₀ L s.heap news) (hsrc : h₀.get? l = some o ∨ (l, o) ∈ news)
    (J : Nat → (Str → Option Value) → List (Addr × Obj) → Prop) (h0 : J 0 m news) (hJS : ∀ i m nw, J i m nw → h₀.get? l = some o ∨ (l, o) ∈ nw)
    (turn : ∀ I i v m₁ nw₁ oI h tk, (∀ p ∈ news, p.1 < I) → i < n → P i v → J i m₁ nw₁ → (∀ p ∈ nw₁, p.1 ≠ I) → Fr h₀ L h (fun y => if y = x then some v else m₁ y) → News h₀ L h ((I, oI) :: nw₁) →
      wpAny (model prog w) A (execs body env) (Turn h₀ L I oI (J (i + 1)) s Q) (fun _ _ => False) { s with heap := h, toks := tk })
    (done : ∀ m' nw' h' tk, J n m' nw' → Fr h₀ L h' m' → News h₀ L h' nw' → Q .next { s with heap := h', toks := tk }) :
    wpAny (model prog w) A (pyIter (.ref l)) (fun it s₂ => codeAny (model prog w) A (.forLoop (.Name x px) it body [] env) (fun r s' => match r with | .ok f => Q f s' | .error e => cameBackBy (model prog w) A env E e s') s₂) E s := by
  subst hLe
  obtain ⟨it0, hfr, iter, walks⟩ := T.out
  have hls : s.heap.get? l = some o := hsrc.elim (fun e => F.keep _ _ e) fun e => (N _ e).1
  have hne : l ≠ s.heap.objs.size := Nat.ne_of_lt (Heap.lt_size hls)
  have hll : env.locals ≠ l := by
    rcases hsrc with e | e
    · intro q; exact absurd (Nat.lt_of_lt_of_le (Heap.lt_size e) F.above) (q ▸ Nat.lt_irrefl _)
    · exact Ne.symm (N _ e).2.1
  obtain ⟨St, W, hex, hst⟩ := walks s.heap.objs.size hne
  refine iter s _ E hls ?_
  have hlt : ∀ p ∈ news, p.1 < s.heap.objs.size := fun p hp => Heap.lt_size (N p hp).1
  refine my_loop (src := fun _ => o) (Q := Q) rfl W hx hp (by
      intro hm
      rcases List.mem_cons.mp hm with e | hm
      · exact absurd F.ns.lt (e ▸ Nat.lt_irrefl _)
      · exact hll (List.mem_singleton.mp hm)) (next_is_new F) (List.mem_cons_self ..) (fun i h st => (hex i h st).1) (fun i h st b hb hbI => ?_) (hst _ (Heap.get?_push_of_some _ hls) (Heap.get?_push_size _ hfr)) (F.push _) (fun p hp => ⟨Heap.get?_push_of_some _ (N p hp).1, (N p hp).2⟩)
      (fun p hp => Nat.ne_of_lt (hlt p hp)) J h0 (fun i m nw hJ b hb hbI => ?_) (fun f s' q => q) (fun i v m₁ nw₁ oI h tk hi hP hJ ho F' N' => turn _ i v m₁ nw₁ oI h tk hlt hi hP hJ ho F' N') (fun m' nw' h' tk hJ F' N' => done m' nw' h' tk hJ F' N')
  · rcases List.mem_cons.mp hb with e | hb
    · exact absurd (List.mem_singleton.mpr e) hbI
    · rw [List.mem_singleton.mp hb]; exact (hex i h st).2
  · rcases List.mem_cons.mp hb with e | hb
    · exact absurd (List.mem_singleton.mpr e) hbI
    · rw [List.mem_singleton.mp hb]; exact hJS i m nw hJ
end
theorem frx {h₀ h : Heap} {L : Addr} {m : Str → Option Value} {x : Str} {v : Value} (F : Fr h₀ L h m) (e : m x = some v) : Fr h₀ L h (fun y => if y = x then some v else m y) := by
  have : (fun y => if y = x then some v else m y) = m := by
    funext y
    by_cases h : y = x
    · rw [if_pos h, h, e]
    · rw [if_neg h]
  rw [this]; exact F
theorem mskip {m : Str → Option Value} {x z : Str} {v r : Option Value} (h : z ≠ x) (e : m z = r) : (if z = x then v else m z) = r := by rw [if_neg h]; exact e

theorem turn_next {h₀ h' : Heap} {L I : Addr} {oI : Obj} {J : (Str → Option Value) → List (Addr × Obj) → Prop} {s : Shared} {Q : Flow → Shared → Prop} {m' : Str → Option Value} {nw' : List (Addr × Obj)} {tk' : Nat}
    (F : Fr h₀ L h' m') (N : News h₀ L h' ((I, oI) :: nw')) (off : ∀ p ∈ nw', p.1 ≠ I) (j : J m' nw') : Turn h₀ L I oI J s Q .next { s with heap := h', toks := tk' } := ⟨h', tk', m', nw', rfl, F, N, off, j⟩
theorem turn_cont {h₀ h' : Heap} {L I : Addr} {oI : Obj} {J : (Str → Option Value) → List (Addr × Obj) → Prop} {s : Shared} {Q : Flow → Shared → Prop} {m' : Str → Option Value} {nw' : List (Addr × Obj)} {tk' : Nat}
    (F : Fr h₀ L h' m') (N : News h₀ L h' ((I, oI) :: nw')) (off : ∀ p ∈ nw', p.1 ≠ I) (j : J m' nw') : Turn h₀ L I oI J s Q .cont { s with heap := h', toks := tk' } := ⟨h', tk', m', nw', rfl, F, N, off, j⟩

theorem contains_ne {xs : List Str} {z y : Str} (hz : xs.contains z = false) (hy : xs.contains y = true) : z ≠ y := fun e => by rw [e, hy] at hz; cases hz
abbrev mid (xs : List Str) (m₁ m₀ : Str → Option Value) : Str → Option Value := fun z => if xs.contains z = true then m₁ z else m₀ z
theorem mid_eq {xs : List Str} {m₁ m₀ : Str → Option Value} (ag : ∀ z, xs.contains z = false → m₁ z = m₀ z) : m₁ = mid xs m₁ m₀ := by
  funext z
  by_cases h : xs.contains z = true
  · simp only [mid, if_pos h]
  · simp only [mid, if_neg h]; exact ag z (by simpa using h)
noncomputable def Turn0 (h₀ : Heap) (L I : Addr) (oI : Obj) (rest : List (Addr × Obj)) (xs : List Str) (m₀ : Str → Option Value) (J : (Str → Option Value) → Prop) (s : Shared) (Q : Flow → Shared → Prop) (f : Flow) (s' : Shared) : Prop :=
  match f with
  | .ret v => Q (.ret v) s'
  | .brk => Q .next s'
  | _ => ∃ h' tk' m', s' = { s with heap := h', toks := tk' } ∧ Fr h₀ L h' m' ∧ News h₀ L h' ((I, oI) :: rest) ∧ (∀ z, xs.contains z = false → m' z = m₀ z) ∧ J m'
noncomputable def Turn1 (h₀ : Heap) (L I : Addr) (oI : Obj) (a : Addr) (rest : List (Addr × Obj)) (xs : List Str) (m₀ : Str → Option Value) (J : (Str → Option Value) → Obj → Prop) (s : Shared) (Q : Flow → Shared → Prop) (f : Flow) (s' : Shared) : Prop :=
  match f with
  | .ret v => Q (.ret v) s'
  | .brk => Q .next s'
  | _ => ∃ h' tk' m' o', s' = { s with heap := h', toks := tk' } ∧ Fr h₀ L h' m' ∧ News h₀ L h' ((I, oI) :: (a, o') :: rest) ∧ (∀ z, xs.contains z = false → m' z = m₀ z) ∧ J m' o'
noncomputable def Turn2 (h₀ : Heap) (L I : Addr) (oI : Obj) (a b : Addr) (rest : List (Addr × Obj)) (xs : List Str) (m₀ : Str → Option Value) (J : (Str → Option Value) → Obj → Obj → Prop) (s : Shared) (Q : Flow → Shared → Prop) (f : Flow) (s' : Shared) : Prop :=
  match f with
  | .ret v => Q (.ret v) s'
  | .brk => Q .next s'
  | _ => ∃ h' tk' m' o' p', s' = { s with heap := h', toks := tk' } ∧ Fr h₀ L h' m' ∧ News h₀ L h' ((I, oI) :: (a, o') :: (b, p') :: rest) ∧ (∀ z, xs.contains z = false → m' z = m₀ z) ∧ J m' o' p'
section
variable {h₀ h' : Heap} {L I a b : Addr} {oI o' p' : Obj} {rest all : List (Addr × Obj)} {xs : List Str} {m₀ m' : Str → Option Value} {s : Shared} {Q : Flow → Shared → Prop} {tk' : Nat}
theorem t0_next {J : (Str → Option Value) → Prop} (F : Fr h₀ L h' m') (N : News h₀ L h' all) (sub : ∀ p ∈ (I, oI) :: rest, p ∈ all) (ag : ∀ z, xs.contains z = false → m' z = m₀ z) (j : J m') :
    Turn0 h₀ L I oI rest xs m₀ J s Q .next { s with heap := h', toks := tk' } := ⟨h', tk', m', rfl, F, fun p hp => N p (sub p hp), ag, j⟩
theorem t0_cont {J : (Str → Option Value) → Prop} (F : Fr h₀ L h' m') (N : News h₀ L h' all) (sub : ∀ p ∈ (I, oI) :: rest, p ∈ all) (ag : ∀ z, xs.contains z = false → m' z = m₀ z) (j : J m') :
    Turn0 h₀ L I oI rest xs m₀ J s Q .cont { s with heap := h', toks := tk' } := ⟨h', tk', m', rfl, F, fun p hp => N p (sub p hp), ag, j⟩
theorem t1_next {J : (Str → Option Value) → Obj → Prop} (F : Fr h₀ L h' m') (N : News h₀ L h' all) (sub : ∀ p ∈ (I, oI) :: (a, o') :: rest, p ∈ all) (ag : ∀ z, xs.contains z = false → m' z = m₀ z) (j : J m' o') :
    Turn1 h₀ L I oI a rest xs m₀ J s Q .next { s with heap := h', toks := tk' } := ⟨h', tk', m', o', rfl, F, fun p hp => N p (sub p hp), ag, j⟩
theorem t1_cont {J : (Str → Option Value) → Obj → Prop} (F : Fr h₀ L h' m') (N : News h₀ L h' all) (sub : ∀ p ∈ (I, oI) :: (a, o') :: rest, p ∈ all) (ag : ∀ z, xs.contains z = false → m' z = m₀ z) (j : J m' o') :
    Turn1 h₀ L I oI a rest xs m₀ J s Q .cont { s with heap := h', toks := tk' } := ⟨h', tk', m', o', rfl, F, fun p hp => N p (sub p hp), ag, j⟩
theorem t2_next {J : (Str → Option Value) → Obj → Obj → Prop} (F : Fr h₀ L h' m') (N : News h₀ L h' all) (sub : ∀ p ∈ (I, oI) :: (a, o') :: (b, p') :: rest, p ∈ all) (ag : ∀ z, xs.contains z = false → m' z = m₀ z) (j : J m' o' p') :
    Turn2 h₀ L I oI a b rest xs m₀ J s Q .next { s with heap := h', toks := tk' } := ⟨h', tk', m', o', p', rfl, F, fun p hp => N p (sub p hp), ag, j⟩
end
section
variable {prog : Program} {w : World} {A : Around} {s : Shared} {h₀ : Heap} {env : Env} {Q : Flow → Shared → Prop} {E : Value → Shared → Prop}
  {L : Addr} {x : Str} {px : Pos} {body : List Stmt} {l : Addr} {ol : Obj} {n : Nat} {P : Nat → Value → Prop} {m₀ : Str → Option Value} {rest : List (Addr × Obj)}
theorem for_0 (xs : List Str) (J : Nat → (Str → Option Value) → Prop)
    (hLe : env.locals = L) (T : Itb prog w A l ol n P) (hx : env.kindOf x = some .local)
    (hp : (env.scope.kind == .class || (env.scope.kind == .module && env.locals != env.globals)) = false)
    (F : Fr h₀ L s.heap m₀) (N : News h₀ L s.heap rest) (hsrc : h₀.get? l = some ol ∨ (l, ol) ∈ rest) (h0 : J 0 m₀)
    (turn : ∀ I i v m₁ oI h tk, (∀ p ∈ rest, p.1 < I) → i < n → P i v → J i m₁ → Fr h₀ L h (fun y => if y = x then some v else mid xs m₁ m₀ y) → News h₀ L h ((I, oI) :: rest) →
      wpAny (model prog w) A (execs body env) (Turn0 h₀ L I oI rest xs m₀ (J (i + 1)) s Q) (fun _ _ => False) { s with heap := h, toks := tk })
    (done : ∀ m₁ h' tk, J n m₁ → Fr h₀ L h' (mid xs m₁ m₀) → News h₀ L h' rest → Q .next { s with heap := h', toks := tk }) :
    wpAny (model prog w) A (pyIter (.ref l)) (fun it s₂ => codeAny (model prog w) A (.forLoop (.Name x px) it body [] env) (fun r s' => match r with | .ok f => Q f s' | .error e => cameBackBy (model prog w) A env E e s') s₂) E s := by
  refine for_itb (J := fun i m nw => nw = rest ∧ (∀ z, xs.contains z = false → m z = m₀ z) ∧ J i m) hLe T hx hp F N hsrc ⟨rfl, fun _ _ => rfl, h0⟩ (fun i m nw h => h.1 ▸ hsrc) ?_ ?_
  · rintro I i v m₁ nw₁ oI h tk hlt hi hP ⟨rfl, ag, hJ⟩ hoff F' N'
    rw [mid_eq ag] at F'
    refine wpAny_mono (turn I i v m₁ oI h tk hlt hi hP hJ F' N') (fun f s' h' => ?_) fun _ _ e => e
    cases f with
    | ret v => exact h'
    | brk => exact h'
    | next => obtain ⟨h', tk', m', rfl, F', N', ag', hJ'⟩ := h'; exact ⟨h', tk', m', nw₁, rfl, F', N', hoff, rfl, ag', hJ'⟩
    | cont => obtain ⟨h', tk', m', rfl, F', N', ag', hJ'⟩ := h'; exact ⟨h', tk', m', nw₁, rfl, F', N', hoff, rfl, ag', hJ'⟩
  · rintro m' nw' h' tk ⟨rfl, ag, hJ⟩ F' N'
    rw [mid_eq ag] at F'
    exact done m' h' tk hJ F' N'
theorem for_1 {a : Addr} {o : Obj} (xs : List Str) (J : Nat → (Str → Option Value) → Obj → Prop)
    (hLe : env.locals = L) (T : Itb prog w A l ol n P) (hx : env.kindOf x = some .local)
    (hp : (env.scope.kind == .class || (env.scope.kind == .module && env.locals != env.globals)) = false)
    (F : Fr h₀ L s.heap m₀) (N : News h₀ L s.heap ((a, o) :: rest)) (hsrc : h₀.get? l = some ol ∨ (l, ol) ∈ rest) (h0 : J 0 m₀ o)
    (turn : ∀ I i v m₁ o₁ oI h tk, (∀ p ∈ (a, o) :: rest, p.1 < I) → i < n → P i v → J i m₁ o₁ → Fr h₀ L h (fun y => if y = x then some v else mid xs m₁ m₀ y) → News h₀ L h ((I, oI) :: (a, o₁) :: rest) →
      wpAny (model prog w) A (execs body env) (Turn1 h₀ L I oI a rest xs m₀ (J (i + 1)) s Q) (fun _ _ => False) { s with heap := h, toks := tk })
    (done : ∀ m₁ o₁ h' tk, J n m₁ o₁ → Fr h₀ L h' (mid xs m₁ m₀) → News h₀ L h' ((a, o₁) :: rest) → Q .next { s with heap := h', toks := tk }) :
    wpAny (model prog w) A (pyIter (.ref l)) (fun it s₂ => codeAny (model prog w) A (.forLoop (.Name x px) it body [] env) (fun r s' => match r with | .ok f => Q f s' | .error e => cameBackBy (model prog w) A env E e s') s₂) E s := by
  have hs : ∀ o₁, h₀.get? l = some ol ∨ (l, ol) ∈ (a, o₁) :: rest := fun o₁ => hsrc.imp id fun e => List.mem_cons_of_mem _ e
  refine for_itb (J := fun i m nw => (∃ o₁, nw = (a, o₁) :: rest ∧ J i m o₁) ∧ (∀ z, xs.contains z = false → m z = m₀ z)) hLe T hx hp F N (hs o) ⟨⟨o, rfl, h0⟩, fun _ _ => rfl⟩ (fun i m nw h => by obtain ⟨⟨o₁, rfl, _⟩, _⟩ := h; exact hs o₁) ?_ ?_
  · rintro I i v m₁ nw₁ oI h tk hlt hi hP ⟨⟨o₁, rfl, hJ⟩, ag⟩ hoff F' N'
    rw [mid_eq ag] at F'
    have hoff' : ∀ o₂, ∀ p ∈ (a, o₂) :: rest, p.1 ≠ I := fun o₂ p hp => by
      rcases List.mem_cons.mp hp with rfl | hp
      · exact hoff (a, o₁) (List.mem_cons_self ..)
      · exact hoff p (List.mem_cons_of_mem _ hp)
    refine wpAny_mono (turn I i v m₁ o₁ oI h tk hlt hi hP hJ F' N') (fun f s' h' => ?_) fun _ _ e => e
    cases f with
    | ret v => exact h'
    | brk => exact h'
    | next => obtain ⟨h', tk', m', o', rfl, F', N', ag', hJ'⟩ := h'; exact ⟨h', tk', m', _, rfl, F', N', hoff' o', ⟨o', rfl, hJ'⟩, ag'⟩
    | cont => obtain ⟨h', tk', m', o', rfl, F', N', ag', hJ'⟩ := h'; exact ⟨h', tk', m', _, rfl, F', N', hoff' o', ⟨o', rfl, hJ'⟩, ag'⟩
  · rintro m' nw' h' tk ⟨⟨o₁, rfl, hJ⟩, ag⟩ F' N'
    rw [mid_eq ag] at F'
    exact done m' o₁ h' tk hJ F' N'
theorem for_2 {a b : Addr} {o p : Obj} (xs : List Str) (J : Nat → (Str → Option Value) → Obj → Obj → Prop)
    (hLe : env.locals = L) (T : Itb prog w A l ol n P) (hx : env.kindOf x = some .local)
    (hp : (env.scope.kind == .class || (env.scope.kind == .module && env.locals != env.globals)) = false)
    (F : Fr h₀ L s.heap m₀) (N : News h₀ L s.heap ((a, o) :: (b, p) :: rest)) (hsrc : h₀.get? l = some ol ∨ (l, ol) ∈ rest) (h0 : J 0 m₀ o p)
    (turn : ∀ I i v m₁ o₁ p₁ oI h tk, (∀ q ∈ (a, o) :: (b, p) :: rest, q.1 < I) → i < n → P i v → J i m₁ o₁ p₁ → Fr h₀ L h (fun y => if y = x then some v else mid xs m₁ m₀ y) → News h₀ L h ((I, oI) :: (a, o₁) :: (b, p₁) :: rest) →
      wpAny (model prog w) A (execs body env) (Turn2 h₀ L I oI a b rest xs m₀ (J (i + 1)) s Q) (fun _ _ => False) { s with heap := h, toks := tk })
    (done : ∀ m₁ o₁ p₁ h' tk, J n m₁ o₁ p₁ → Fr h₀ L h' (mid xs m₁ m₀) → News h₀ L h' ((a, o₁) :: (b, p₁) :: rest) → Q .next { s with heap := h', toks := tk }) :
    wpAny (model prog w) A (pyIter (.ref l)) (fun it s₂ => codeAny (model prog w) A (.forLoop (.Name x px) it body [] env) (fun r s' => match r with | .ok f => Q f s' | .error e => cameBackBy (model prog w) A env E e s') s₂) E s := by
  have hs : ∀ o₁ p₁, h₀.get? l = some ol ∨ (l, ol) ∈ (a, o₁) :: (b, p₁) :: rest := fun o₁ p₁ => hsrc.imp id fun e => List.mem_cons_of_mem _ (List.mem_cons_of_mem _ e)
  refine for_itb (J := fun i m nw => (∃ o₁ p₁, nw = (a, o₁) :: (b, p₁) :: rest ∧ J i m o₁ p₁) ∧ (∀ z, xs.contains z = false → m z = m₀ z)) hLe T hx hp F N (hs o p) ⟨⟨o, p, rfl, h0⟩, fun _ _ => rfl⟩ (fun i m nw h => by obtain ⟨⟨o₁, p₁, rfl, _⟩, _⟩ := h; exact hs o₁ p₁) ?_ ?_
  · rintro I i v m₁ nw₁ oI h tk hlt hi hP ⟨⟨o₁, p₁, rfl, hJ⟩, ag⟩ hoff F' N'
    rw [mid_eq ag] at F'
    have hoff' : ∀ o₂ p₂, ∀ p ∈ (a, o₂) :: (b, p₂) :: rest, p.1 ≠ I := fun o₂ p₂ p hp => by
      rcases List.mem_cons.mp hp with rfl | hp
      · exact hoff (a, o₁) (List.mem_cons_self ..)
      · rcases List.mem_cons.mp hp with rfl | hp
        · exact hoff (b, p₁) (List.mem_cons_of_mem _ (List.mem_cons_self ..))
        · exact hoff p (List.mem_cons_of_mem _ (List.mem_cons_of_mem _ hp))
    refine wpAny_mono (turn I i v m₁ o₁ p₁ oI h tk hlt hi hP hJ F' N') (fun f s' h' => ?_) fun _ _ e => e
    cases f with
    | ret v => exact h'
    | brk => exact h'
    | next => obtain ⟨h', tk', m', o', p', rfl, F', N', ag', hJ'⟩ := h'; exact ⟨h', tk', m', _, rfl, F', N', hoff' o' p', ⟨o', p', rfl, hJ'⟩, ag'⟩
    | cont => obtain ⟨h', tk', m', o', p', rfl, F', N', ag', hJ'⟩ := h'; exact ⟨h', tk', m', _, rfl, F', N', hoff' o' p', ⟨o', p', rfl, hJ'⟩, ag'⟩
  · rintro m' nw' h' tk ⟨⟨o₁, p₁, rfl, hJ⟩, ag⟩ F' N'
    rw [mid_eq ag] at F'
    exact done m' o₁ p₁ h' tk hJ F' N'
end

section
variable {prog : Program} {w : World} {A : Around} {E : Value → Shared → Prop} {s : Shared} {h₀ : Heap} {L D : Addr} {m : Str → Option Value} {news news' : List (Addr × Obj)} {acc : List (Str × Tok)} {k : Nat}
theorem strv_len (l : List (Str × Tok)) : (strValues l).length = l.length := by simp [strValues]
theorem strv_snoc (l : List (Str × Tok)) (x : Str) (t : Tok) : (strValues l).toArray.push (.str x t) = (strValues (l ++ [(x, t)])).toArray := by simp [strValues]
theorem append_strs {x : Str} {t : Tok} {Q : Value → Shared → Prop} (F : Fr h₀ L s.heap m) (N : News h₀ L s.heap news) (U : Upd D (W.listOf (strValues acc).toArray k) (W.listOf (strValues (acc ++ [(x, t)])).toArray (k + 1)) news news')
    (hsz : acc.length ≤ 100000) (h : ∀ h', Fr h₀ L h' m → News h₀ L h' news' → Q .none { s with heap := h' }) : wpAny (model prog w) A (call (.builtin "list.append") [.ref D, .str x t]) Q E s := by
  rw [← strv_snoc] at U
  exact append_K F N U h (by rw [List.size_toArray, strv_len, sizeLine_eq]; omega)
theorem truthy_strs {Q : Bool → Shared → Prop} (N : News h₀ L s.heap news) (hm : (D, W.listOf (strValues acc).toArray k) ∈ news) (hsz : acc.length ≤ 100000)
    (h1 : acc ≠ [] → Q true { s with toks := s.toks + 1 + 1 }) (h2 : acc = [] → Q false { s with toks := s.toks + 1 + 1 }) : wpAny (model prog w) A (truthy (.ref D)) Q E s := by
  refine wpAny_truthy_list (News.isList N hm) (by rw [List.size_toArray, strv_len]; omega) ?_
  cases acc with
  | nil => exact h2 rfl
  | cons p r => exact h1 (by simp)
theorem pop_strs {Q : Value → Shared → Prop} (F : Fr h₀ L s.heap m) (N : News h₀ L s.heap news) (U : Upd D (W.listOf (strValues acc).toArray k) (W.listOf (strValues acc.dropLast).toArray (k + 1)) news news') (hne : acc ≠ [])
    (hsz : acc.length ≤ 100000) (h : ∀ h' x t, acc.getLast? = some (x, t) → Fr h₀ L h' m → News h₀ L h' news' → Q (.str x t) { s with heap := h' }) : wpAny (model prog w) A (call (.builtin "list.pop") [.ref D]) Q E s := by
  obtain ⟨ys, ⟨x, t⟩, rfl⟩ : ∃ ys y, acc = ys ++ [y] := ⟨acc.dropLast, acc.getLast hne, (List.dropLast_concat_getLast hne).symm⟩
  rw [List.dropLast_concat] at U
  refine kl_pop F N (p := strValues ys) (y := .str x t) ?_ U (by simp only [strv_len, sizeLine_eq]; omega) fun h' F' N' => h h' x t (by simp) F' N'
  show kl_last (strValues (ys ++ [(x, t)])) = _
  rw [show strValues (ys ++ [(x, t)]) = strValues ys ++ [.str x t] by simp [strValues]]
  exact kpa_last _ _
theorem neg1_strs {value slice : PySem.Expr} {u : Tok} {Q : Value → Shared → Prop} (N : News h₀ L s.heap news) (hm : (D, W.listOf (strValues acc).toArray k) ∈ news) (hne : acc ≠ [])
    (h : ∀ x t, acc.getLast? = some (x, t) → Q (.str x t) s)
    (hs : subscripted slice false (.ref D) (.int (-1) u) = operate [.ref D, .int (-1) u] (getItem (.ref D) (.int (-1) u)) := by with_unfolding_all rfl) :
    wpAny (model prog w) A (subscriptTail value slice (.ref D) (.int (-1) u)) Q E s := by
  obtain ⟨ys, ⟨x, t⟩, rfl⟩ : ∃ ys y, acc = ys ++ [y] := ⟨acc.dropLast, acc.getLast hne, (List.dropLast_concat_getLast hne).symm⟩
  have hl := News.isList N hm
  refine kde_neg (vs := strValues (ys ++ [(x, t)])) (j := ys.length) hl (by decide) (by decide) ?_ ?_ (h x t (by simp)) hs
  · rw [strv_len, List.length_append, List.length_singleton]
    unfold seqIndex?
    have : ¬ ((ys.length : Int) + 1 + -1 < 0) := by omega
    simp; try omega
  · simp [strValues]
theorem item_strs {value slice : PySem.Expr} {u : Tok} {j : Int} {Q : Value → Shared → Prop} (N : News h₀ L s.heap news) (hm : (D, W.listOf (strValues acc).toArray k) ∈ news) (h0 : 0 ≤ j) (hj : j < acc.length) (hsz : acc.length ≤ 100000)
    (h : ∀ x t, acc[j.toNat]? = some (x, t) → Q (.str x t) s)
    (hs : subscripted slice false (.ref D) (.int j u) = operate [.ref D, .int j u] (getItem (.ref D) (.int j u)) := by with_unfolding_all rfl) (hg : ∀ r, letTemporaryGo value (.ref D) r = pure () := by intro _; with_unfolding_all rfl) :
    wpAny (model prog w) A (subscriptTail value slice (.ref D) (.int j u)) Q E s := by
  have hn : j.toNat < acc.length := by omega
  have e : acc[j.toNat]? = some (acc[j.toNat].1, acc[j.toNat].2) := by rw [List.getElem?_eq_getElem hn]
  have hl := News.isList N hm
  exact item_list hl h0 (by omega) (x := .str acc[j.toNat].1 acc[j.toNat].2) (by simp only [List.getElem?_toArray, strValues, List.getElem?_map, e]; rfl) (h _ _ e) hs hg
theorem item_sign {value slice : PySem.Expr} {x : Str} {t u : Tok} {n c : Nat} {Q : Value → Shared → Prop} (hn : n < 100000) (hc : x.cps[n]? = some c) (h : Q (.str ⟨#[c]⟩ s.toks) { s with toks := s.toks + 1 })
    (hs : subscripted slice false (.str x t) (.int (n : Int) u) = operate [.str x t, .int (n : Int) u] (getItem (.str x t) (.int (n : Int) u)) := by with_unfolding_all rfl) :
    wpAny (model prog w) A (subscriptTail value slice (.str x t) (.int (n : Int) u)) Q E s := by
  have h1 : ¬ ((n : Int) < -(2 ^ 63 : Int)) := by omega
  have h2 : ¬ ((n : Int) ≥ 2 ^ 63) := by omega
  refine tail_any (typeIs_str s x t) F.slot_str_getitem.lookup (P.getItem_str (by simp only [h1, h2, decide_false, Bool.or_self]) (StrLaws.at_nonneg (by omega) (by simpa using hc)) h) hs
theorem len_strs {Q : Value → Shared → Prop} (N : News h₀ L s.heap news) (hm : (D, W.listOf (strValues acc).toArray k) ∈ news) (hsz : acc.length ≤ 100000) (h : Q (.int (acc.length : Int) (s.toks + 1)) { s with toks := s.toks + 1 + 1 }) :
    wpAny (model prog w) A (call (.builtin "len") [.ref D]) Q E s := by
  have e : (((strValues acc).toArray.size : Nat) : Int) = (acc.length : Int) := by rw [List.size_toArray, strv_len]
  refine Calls.call_len_list (News.isList N hm) (by rw [e]; omega) ?_
  rw [e]; exact h
theorem item_five {value slice : PySem.Expr} {u : Tok} {j : Int} {b0 b1 b2 b3 b4 : Str} {t0 t1 t2 t3 t4 : Tok} {P : Str → Prop} {Q : Value → Shared → Prop} (N : News h₀ L s.heap news) (hm : (D, W.listOf #[.str b0 t0, .str b1 t1, .str b2 t2, .str b3 t3, .str b4 t4] k) ∈ news)
    (h0 : 0 ≤ j) (hj : j < 5) (p0 : P b0) (p1 : P b1) (p2 : P b2) (p3 : P b3) (p4 : P b4) (h : ∀ b t, P b → Q (.str b t) s)
    (hs : subscripted slice false (.ref D) (.int j u) = operate [.ref D, .int j u] (getItem (.ref D) (.int j u)) := by with_unfolding_all rfl) (hg : ∀ r, letTemporaryGo value (.ref D) r = pure () := by intro _; with_unfolding_all rfl) :
    wpAny (model prog w) A (subscriptTail value slice (.ref D) (.int j u)) Q E s := by
  have hl := News.isList N hm
  have : j = 0 ∨ j = 1 ∨ j = 2 ∨ j = 3 ∨ j = 4 := by omega
  rcases this with rfl | rfl | rfl | rfl | rfl
  · exact item_list hl h0 (by omega) (x := .str b0 t0) rfl (h _ _ p0) hs hg
  · exact item_list hl h0 (by omega) (x := .str b1 t1) rfl (h _ _ p1) hs hg
  · exact item_list hl h0 (by omega) (x := .str b2 t2) rfl (h _ _ p2) hs hg
  · exact item_list hl h0 (by omega) (x := .str b3 t3) rfl (h _ _ p3) hs hg
  · exact item_list hl h0 (by omega) (x := .str b4 t4) rfl (h _ _ p4) hs hg
theorem dset {kvs : List (Str × Value)} {o : Obj} {u : Obj → List (Addr × Obj)} {x : Str} {t : Tok} {v : Value} {Q : Unit → Shared → Prop} (F : Fr h₀ L s.heap m) (N : News h₀ L s.heap news) (U : UpdF D o news u) (hd : o.IsDictOf (PySem.strKind prog w) kvs) (hsz : kvs.length ≤ 100000)
    (h : ∀ h' o', Fr h₀ L h' m → News h₀ L h' (u o') → o'.IsDictOf (PySem.strKind prog w) (stored kvs x v) → Q () { s with heap := h', toks := s.toks + 1 }) : wpAny (model prog w) A (setItem (.ref D) (.str x t) v) Q E s := by
  obtain ⟨pre, post, rfl, hu, a, b⟩ := U.split
  have z := N (D, o) (List.mem_append.mpr (.inr (.head _)))
  refine wpAny_setItem_pairs (hsz := by rw [sizeLine_eq]; omega) (strKind_is prog w x t) (Heap.dictOf_iff.mpr ⟨o, z.1, hd⟩) fun h' hm hs => ?_
  obtain ⟨o', ho', hd'⟩ := Heap.dictOf_iff.mp hm
  exact h h' o' (F.change hs z.2.1 z.2.2) (by rw [hu]; exact news_set N a b hs ho') hd'
theorem dget {kvs : List (Str × Value)} {o : Obj} {value slice : PySem.Expr} {x : Str} {t : Tok} {v : Value} {Q : Value → Shared → Prop} (hm : s.heap.get? D = some o) (hd : o.IsDictOf (PySem.strKind prog w) kvs) (hv : valueAt kvs x = some v) (h : Q v { s with toks := s.toks + 1 })
    (hs : subscripted slice false (.ref D) (.str x t) = operate [.ref D, .str x t] (getItem (.ref D) (.str x t)) := by with_unfolding_all rfl) : wpAny (model prog w) A (subscriptTail value slice (.ref D) (.str x t)) Q E s :=
  have hM := (Heap.dictOf_iff.mpr ⟨o, hm, hd⟩ : s.heap.DictOf (PySem.strKind prog w) D kvs).mapOf
  tail_any hM.typeIs slot_dict_getitem.lookup (wpAny_getItem_of (strKind_is prog w x t) hM hv h) hs
end

noncomputable def TurnP (h₀ : Heap) (L : Addr) (own : List (Addr × Obj)) (J : (Str → Option Value) → List (Addr × Obj) → Prop) (s : Shared) (Q : Flow → Shared → Prop) (f : Flow) (s' : Shared) : Prop :=
  match f with
  | .ret v => Q (.ret v) s'
  | .brk => Q .next s'
  | _ => ∃ h' tk' m' nw', s' = { s with heap := h', toks := tk' } ∧ Fr h₀ L h' m' ∧ News h₀ L h' (nw' ++ own) ∧ (∀ p ∈ nw', ∀ q ∈ own, p.1 ≠ q.1) ∧ J m' nw'
section
variable {prog : Program} {w : World} {A : Around} {s : Shared} {env : Env} {h₀ : Heap} {Q : Flow → Shared → Prop} {E : Value → Shared → Prop}
theorem my_loop2 {L : Addr} {xi xc : Str} {pk pv pt : Pos} {x1 : Nat} {body : List Stmt} {I : Addr} {fp wr : List Addr} {n : Nat} {Pt : Nat → Array Value → Prop} {St : Nat → Heap → Prop} {Mid : Nat → Addr → Heap → Prop}
    {P2 : Nat → Value → Value → Prop} {m : Str → Option Value} {news : List (Addr × Obj)} {src : Addr → Obj} {R : Result → Shared → Prop}
    (hLe : env.locals = L) (hh : A.handled = none) (W : WalksU prog w A I fp wr n Pt St Mid) (h2 : ∀ i vals, Pt i vals → ∃ v0 v1, vals = #[v0, v1] ∧ P2 i v0 v1)
    (hxi : env.kindOf xi = some .local) (hxc : env.kindOf xc = some .local)
    (hp : (env.scope.kind == .class || (env.scope.kind == .module && env.locals != env.globals)) = false)
    (hLf : L ∉ fp) (hwr : ∀ b ∈ wr, h₀.get? b = none)
    (hst : St 0 s.heap) (F : Fr h₀ L s.heap m) (N : News h₀ L s.heap news) (hoff : ∀ p ∈ news, p.1 ∉ wr)
    (J : Nat → (Str → Option Value) → List (Addr × Obj) → Prop) (h0 : J 0 m news) (hJS : ∀ i m nw, J i m nw → Src h₀ fp wr src nw)
    (hQR : ∀ f s', Q f s' → R (.ok f) s')
    (turn : ∀ i v0 v1 m₁ nw₁ own h tk, i < n → P2 i v0 v1 → J i m₁ nw₁ → (∀ p ∈ own, p.1 ∈ wr) → (∀ p ∈ nw₁, ∀ q ∈ own, p.1 ≠ q.1) → Fr h₀ L h (fun y => if y = xc then some v1 else if y = xi then some v0 else m₁ y) → News h₀ L h (nw₁ ++ own) →
      wpAny (model prog w) A (execs body env) (TurnP h₀ L own (J (i + 1)) s Q) (fun _ _ => False) { s with heap := h, toks := tk })
    (done : ∀ m' nw' h' tk, J n m' nw' → Fr h₀ L h' m' → News h₀ L h' nw' → Q .next { s with heap := h', toks := tk })
    (howr : ∀ i h, St i h → ∀ b ∈ wr, ∃ o, h.get? b = some o)
    (hsub : ∀ nw', (∃ m' i, J i m' nw') → ∀ p ∈ nw', p.1 ∉ wr) :
    codeAny (model prog w) A (.forLoop (.Tuple [.Name xi pk, .Name xc pv] x1 pt) (.ref I) body [] env) R s := by
  subst hLe
  have hLw : env.locals ∉ wr := fun h => hLf (W.sub _ h)
  have old : ∀ b o, h₀.get? b = some o → b ∉ wr := fun b o e hb => by rw [hwr b hb] at e; cases e
  refine codeAny_forLoop_any
    (fun k s' => ∃ h' tk m' news' i, s' = { s with heap := h', toks := tk } ∧ St i h' ∧ Fr h₀ env.locals h' m' ∧ News h₀ env.locals h' news' ∧ J i m' news' ∧ i ≤ n ∧ k = n + 1 - i) ?_ (n + 1)
    ⟨s.heap, s.toks, m, news, 0, rfl, hst, F, N, h0, Nat.zero_le _, rfl⟩
  rintro k s' ⟨H, tk, m', news', i, rfl, hst', F', N', hJ, hi, rfl⟩
  have hnw := hsub news' ⟨m', i, hJ⟩
  have next : ∀ h₁ : Heap, (∀ b o, b ∉ wr → H.get? b = some o → h₁.get? b = some o) → Fr h₀ env.locals h₁ m' ∧ News h₀ env.locals h₁ news' := fun h₁ hk₁ =>
    ⟨⟨F'.ns.at' fun o e => hk₁ _ o hLw e, fun b o e => hk₁ b o (old b o e) (F'.keep b o e), F'.above⟩, fun p hp => ⟨hk₁ _ _ (hnw p hp) (N' p hp).1, (N' p hp).2⟩⟩
  by_cases hlt : i < n
  · refine W.item i _ _ _ hlt hst' fun T vals h₁ tk₁ hPt hT hMid hk₁ => ?_
    obtain ⟨v0, v1, rfl, hP2⟩ := h2 i vals hPt
    refine W.go _ x1 pt i T _ _ _ hMid fun h₂ hst₂ hk₂ => ?_
    have ht₂ : h₂.IsTuple T #[v0, v1] := hT.at fun o e => hk₂ T o (W.apart i T h₁ hMid) e
    refine wpAny_assign_Tuple hh ht₂ rfl rfl fun h₃ hx₃ => ?_
    replace hx₃ : Heap.ExtBut h₂.objs.size h₂ h₃ := hx₃
    have up₃ : ∀ b o, h₂.get? b = some o → h₃.get? b = some o := fun b o x => hx₃ b o (Nat.ne_of_lt (Heap.lt_size x)) x
    obtain ⟨F₃, N₃⟩ := next h₃ fun b o hb x => up₃ b o (hk₂ b o hb (hk₁ b o hb x))
    show wpAny _ A (do holding [v1] (assign (.Name xi pk) env v0); do holding [] (assign (.Name xc pv) env v1); pure ()) _ _ _
    refine wpAny_bind (wpAny_holding (wpAny_assign_Name (wpAny_storeName_local hxi F₃.ns (fun h₄ hn₄ hs₄ => ?_) hp)))
    replace hs₄ : Heap.SameBut env.locals h₃ h₄ := hs₄
    have F₄ := F₃.set hn₄ hs₄
    refine wpAny_bind (wpAny_holding (wpAny_assign_Name (wpAny_storeName_local hxc F₄.ns (fun h₅ hn₅ hs₅ => wpAny_pure ?_) hp)))
    replace hs₅ : Heap.SameBut env.locals h₄ h₅ := hs₅
    have F₅ := F₄.set hn₅ hs₅
    have N₅ : News h₀ env.locals h₅ news' := (N₃.set hs₄).set hs₅
    have hst₅ : St (i + 1) h₅ := W.frame _ _ _ hst₂ fun b hb o e => hs₅.extBut b o (fun q => hLf (q ▸ hb)) (hs₄.extBut b o (fun q => hLf (q ▸ hb)) (up₃ b o e))
    have Nown : News h₀ env.locals h₅ (ownOf h₀ wr h₅) := news_ownOf hLw
    have hown : ∀ p ∈ ownOf h₀ wr h₅, p.1 ∈ wr := ownOf_sub
    refine wpAny_mono (turn i v0 v1 m' news' (ownOf h₀ wr h₅) h₅ _ hlt hP2 hJ hown (fun p hp q hq e => hnw p hp (e ▸ hown q hq)) F₅ (fun p hp => (List.mem_append.mp hp).elim (N₅ p) (Nown p))) (fun f s₃ h₆ => ?_) fun _ _ e => e.elim
    have fin : (∃ h' tk' m' nw', s₃ = { s with heap := h', toks := tk' } ∧ Fr h₀ env.locals h' m' ∧ News h₀ env.locals h' (nw' ++ ownOf h₀ wr h₅) ∧ (∀ p ∈ nw', ∀ q ∈ ownOf h₀ wr h₅, p.1 ≠ q.1) ∧ J (i + 1) m' nw') → ∃ k', k' < n + 1 - i ∧ ∃ h' tk m' news' i, s₃ = { s with heap := h', toks := tk } ∧ St i h' ∧ Fr h₀ env.locals h' m' ∧ News h₀ env.locals h' news' ∧ J i m' news' ∧ i ≤ n ∧ k' = n + 1 - i := by
      rintro ⟨h₇, tk₆, m₆, nw₆, rfl, F₆, N₆, ho₆, hJ₆⟩
      refine ⟨n + 1 - (i + 1), by omega, h₇, tk₆, m₆, nw₆, i + 1, rfl, ?_, F₆, fun p hp => N₆ p (List.mem_append_left _ hp), hJ₆, hlt, rfl⟩
      refine W.frame _ _ _ hst₅ fun b hb o e => ?_
      by_cases hbw : b ∈ wr
      · exact (N₆ _ (List.mem_append_right _ (mem_ownOf hbw (hwr b hbw) e))).1
      · rcases hJS _ _ _ hJ b hb hbw with q | q
        · have q₂ := F₅.keep b _ q
          rw [e] at q₂; cases q₂
          exact F₆.keep b _ q
        · have q₂ := (N₅ _ q).1
          rw [e] at q₂; cases q₂
          rcases hJS _ _ _ hJ₆ b hb hbw with r | r
          · exact F₆.keep b _ r
          · exact (N₆ _ (List.mem_append_left _ r)).1
    cases f with
    | ret v => exact hQR _ _ h₆
    | brk => exact hQR _ _ h₆
    | cont => exact fin h₆
    | next => exact fin h₆
  · have hin : i = n := by omega
    subst hin
    refine W.done _ _ _ hst' fun h₁ tk₁ hk₁ => wpAny_execs_nil ?_
    obtain ⟨F₁, N₁⟩ := next h₁ hk₁
    exact hQR _ _ (done m' news' h₁ tk₁ hJ F₁ N₁)
end

theorem News.sub {h₀ h : Heap} {L : Addr} {nw all : List (Addr × Obj)} (N : News h₀ L h all) (sub : ∀ p ∈ nw, p ∈ all) : News h₀ L h nw := fun p hp => N p (sub p hp)
section
variable {P : Prop} {h₀ h : Heap} {L a b c d e f g i : Addr} {oa ob oc od oe of og oi : Obj} {rest : List (Addr × Obj)}
theorem cap1 (_ : News h₀ L h ((a, oa) :: rest)) (k : ∀ a', a' = a → P) : P := k _ rfl
theorem cap2 (_ : News h₀ L h ((a, oa) :: (b, ob) :: rest)) (k : ∀ a' b', a' = a → b' = b → P) : P := k _ _ rfl rfl
theorem cap3 (_ : News h₀ L h ((a, oa) :: (b, ob) :: (c, oc) :: rest)) (k : ∀ a' b' c', a' = a → b' = b → c' = c → P) : P := k _ _ _ rfl rfl rfl
theorem cap4 (_ : News h₀ L h ((a, oa) :: (b, ob) :: (c, oc) :: (d, od) :: rest)) (k : ∀ a' b' c' d', a' = a → b' = b → c' = c → d' = d → P) : P := k _ _ _ _ rfl rfl rfl rfl
theorem cap8 (_ : News h₀ L h ((a, oa) :: (b, ob) :: (c, oc) :: (d, od) :: (e, oe) :: (f, of) :: (g, og) :: (i, oi) :: rest)) (k : ∀ a' b' c' d' e' f' g' i', a' = a → b' = b → c' = c → d' = d → e' = e → f' = f → g' = g → i' = i → P) : P := k _ _ _ _ _ _ _ _ rfl rfl rfl rfl rfl rfl rfl rfl
end
structure Enm (prog : Program) (w : World) (A : Around) (e it l : Addr) (oe oit ol : Obj) (n : Nat) (P : Nat → Value → Prop) : Prop where
  hei : e ≠ it
  hle : l ≠ e
  hli : l ≠ it
  iter : ∀ (s : Shared) (Q : Value → Shared → Prop) (E : Value → Shared → Prop), s.heap.get? e = some oe → Q (.ref e) s → wpAny (model prog w) A (pyIter (.ref e)) Q E s
  out : ∃ (St : Nat → Heap → Prop) (Mid : Nat → Addr → Heap → Prop), WalksU prog w A e [e, it, l] [e, it] n (fun i vals => ∃ t x, P i x ∧ vals = #[.int i t, x]) St Mid ∧
    (∀ i h, St i h → ∀ b ∈ [e, it], ∃ o, h.get? b = some o) ∧ ∀ h, h.get? e = some oe → h.get? it = some oit → h.get? l = some ol → St 0 h
noncomputable def TurnE (h₀ : Heap) (L a b : Addr) (rest own : List (Addr × Obj)) (xs : List Str) (m₀ : Str → Option Value) (J : (Str → Option Value) → Obj → Obj → Prop) (s : Shared) (Q : Flow → Shared → Prop) (f : Flow) (s' : Shared) : Prop :=
  match f with
  | .ret v => Q (.ret v) s'
  | .brk => Q .next s'
  | _ => ∃ h' tk' m' o' p', s' = { s with heap := h', toks := tk' } ∧ Fr h₀ L h' m' ∧ News h₀ L h' ((a, o') :: (b, p') :: rest ++ own) ∧ (∀ z, xs.contains z = false → m' z = m₀ z) ∧ J m' o' p'
theorem te_next {h₀ h' : Heap} {L a b : Addr} {o' p' : Obj} {rest own all : List (Addr × Obj)} {xs : List Str} {m₀ m' : Str → Option Value} {s : Shared} {Q : Flow → Shared → Prop} {tk' : Nat} {J : (Str → Option Value) → Obj → Obj → Prop}
    (F : Fr h₀ L h' m') (N : News h₀ L h' all) (sub : ∀ p ∈ (a, o') :: (b, p') :: rest ++ own, p ∈ all) (ag : ∀ z, xs.contains z = false → m' z = m₀ z) (j : J m' o' p') :
    TurnE h₀ L a b rest own xs m₀ J s Q .next { s with heap := h', toks := tk' } := ⟨h', tk', m', o', p', rfl, F, fun p hp => N p (sub p hp), ag, j⟩
section
variable {prog : Program} {w : World} {A : Around} {s : Shared} {h₀ : Heap} {env : Env} {Q : Flow → Shared → Prop} {E : Value → Shared → Prop}
  {L : Addr} {xi xc : Str} {pk pv pt : Pos} {x1 : Nat} {body : List Stmt} {e it l : Addr} {oe oit ol : Obj} {n : Nat} {P : Nat → Value → Prop} {m₀ : Str → Option Value} {rest : List (Addr × Obj)}
theorem for_e {a b : Addr} {o p : Obj} (xs : List Str) (J : Nat → (Str → Option Value) → Obj → Obj → Prop)
    (hLe : env.locals = L) (hh : A.handled = none) (T : Enm prog w A e it l oe oit ol n P) (hxi : env.kindOf xi = some .local) (hxc : env.kindOf xc = some .local)
    (hp : (env.scope.kind == .class || (env.scope.kind == .module && env.locals != env.globals)) = false)
    (F : Fr h₀ L s.heap m₀) (N : News h₀ L s.heap ((e, oe) :: (it, oit) :: (a, o) :: (b, p) :: rest)) (hsrc : h₀.get? l = some ol ∨ (l, ol) ∈ rest)
    (hoff : ∀ q ∈ (a, o) :: (b, p) :: rest, q.1 ≠ e ∧ q.1 ≠ it) (h0 : J 0 m₀ o p)
    (turn : ∀ i t v m₁ o₁ p₁ own h tk, i < n → P i v → J i m₁ o₁ p₁ → OwnOff own (((a, o) :: (b, p) :: rest).map (·.1)) → Fr h₀ L h (fun y => if y = xc then some v else if y = xi then some (.int i t) else mid xs m₁ m₀ y) → News h₀ L h ((a, o₁) :: (b, p₁) :: rest ++ own) →
      wpAny (model prog w) A (execs body env) (TurnE h₀ L a b rest own xs m₀ (J (i + 1)) s Q) (fun _ _ => False) { s with heap := h, toks := tk })
    (done : ∀ m₁ o₁ p₁ h' tk, J n m₁ o₁ p₁ → Fr h₀ L h' (mid xs m₁ m₀) → News h₀ L h' ((a, o₁) :: (b, p₁) :: rest) → Q .next { s with heap := h', toks := tk }) :
    wpAny (model prog w) A (pyIter (.ref e)) (fun it s₂ => codeAny (model prog w) A (.forLoop (.Tuple [.Name xi pk, .Name xc pv] x1 pt) it body [] env) (fun r s' => match r with | .ok f => Q f s' | .error e => cameBackBy (model prog w) A env E e s') s₂) E s := by
  have hs : ∀ o₁ p₁, h₀.get? l = some ol ∨ (l, ol) ∈ (a, o₁) :: (b, p₁) :: rest := fun o₁ p₁ => hsrc.imp id fun e => List.mem_cons_of_mem _ (List.mem_cons_of_mem _ e)
  have zE := N (e, oe) (.head _)
  have zI := N (it, oit) (.tail _ (.head _))
  have N' : News h₀ L s.heap ((a, o) :: (b, p) :: rest) := fun q hq => N q (.tail _ (.tail _ hq))
  have hll : s.heap.get? l = some ol := (hs o p).elim (fun q => F.keep _ _ q) fun q => (N' _ q).1
  have hlL : L ≠ l := by
    rcases hs o p with q | q
    · intro r; exact absurd (Nat.lt_of_lt_of_le (Heap.lt_size q) F.above) (r ▸ Nat.lt_irrefl _)
    · exact Ne.symm (N' _ q).2.1
  obtain ⟨St, Mid, W, hex, hst⟩ := T.out
  have hwr : ∀ o₁ p₁, ∀ q ∈ (a, o₁) :: (b, p₁) :: rest, q.1 ∉ [e, it] := fun o₁ p₁ q hq hm => by
    have hq' : ∃ q', q' ∈ (a, o) :: (b, p) :: rest ∧ q'.1 = q.1 := by
      rcases List.mem_cons.mp hq with rfl | hq
      · exact ⟨(a, o), .head _, rfl⟩
      · rcases List.mem_cons.mp hq with rfl | hq
        · exact ⟨(b, p), .tail _ (.head _), rfl⟩
        · exact ⟨q, .tail _ (.tail _ hq), rfl⟩
    obtain ⟨q', hq', e'⟩ := hq'
    have := hoff q' hq'
    rw [e'] at this
    rcases List.mem_cons.mp hm with r | r
    · exact this.1 r
    · exact this.2 (List.mem_singleton.mp r)
  refine T.iter s _ E zE.1 ?_
  refine my_loop2 (src := fun _ => ol) (Q := Q) (P2 := fun i v0 v1 => ∃ t, v0 = .int i t ∧ P i v1) hLe hh W (fun i vals ⟨t, x, hP, e⟩ => ⟨_, _, e, t, rfl, hP⟩) hxi hxc hp ?_ ?_ (hst _ zE.1 zI.1 hll) F N' (hwr o p)
    (fun i m nw => (∃ o₁ p₁, nw = (a, o₁) :: (b, p₁) :: rest ∧ J i m o₁ p₁) ∧ (∀ z, xs.contains z = false → m z = m₀ z)) ⟨⟨o, p, rfl, h0⟩, fun _ _ => rfl⟩ ?_ (fun f s' q => q) ?_ ?_ hex ?_
  · intro hm
    rcases List.mem_cons.mp hm with r | hm
    · exact zE.2.1 r.symm
    · rcases List.mem_cons.mp hm with r | hm
      · exact zI.2.1 r.symm
      · exact hlL (List.mem_singleton.mp hm)
  · intro b hb
    rcases List.mem_cons.mp hb with r | hb
    · rw [r]; exact zE.2.2
    · rw [List.mem_singleton.mp hb]; exact zI.2.2
  · rintro i m nw ⟨⟨o₁, p₁, rfl, _⟩, _⟩ b hb hbw
    rcases List.mem_cons.mp hb with r | hb
    · exact absurd (r ▸ List.mem_cons_self ..) hbw
    · rcases List.mem_cons.mp hb with r | hb
      · exact absurd (r ▸ List.mem_cons_of_mem _ (List.mem_cons_self ..)) hbw
      · rw [List.mem_singleton.mp hb]; exact hs o₁ p₁
  · rintro i v0 v1 m₁ nw₁ own h tk hi ⟨t, rfl, hP⟩ ⟨⟨o₁, p₁, rfl, hJ⟩, ag⟩ hown hsep F' N'
    rw [mid_eq ag] at F'
    have hsep' : ∀ o₂ p₂, ∀ q ∈ (a, o₂) :: (b, p₂) :: rest, ∀ r ∈ own, q.1 ≠ r.1 := fun o₂ p₂ q hq r hr => by
      rcases List.mem_cons.mp hq with rfl | hq
      · exact hsep (a, o₁) (.head _) r hr
      · rcases List.mem_cons.mp hq with rfl | hq
        · exact hsep (b, p₁) (.tail _ (.head _)) r hr
        · exact hsep q (.tail _ (.tail _ hq)) r hr
    refine wpAny_mono (turn i t v1 m₁ o₁ p₁ own h tk hi hP hJ (fun r hr c hc => ?_) F' N') (fun f s' h' => ?_) fun _ _ e => e
    · obtain ⟨q, hq, rfl⟩ := List.mem_map.mp hc
      exact Ne.symm (hsep' o p q hq r hr)
    · cases f with
      | ret v => exact h'
      | brk => exact h'
      | next => obtain ⟨h', tk', m', o', p', rfl, F', N', ag', hJ'⟩ := h'; exact ⟨h', tk', m', _, rfl, F', N', hsep' o' p', ⟨o', p', rfl, hJ'⟩, ag'⟩
      | cont => obtain ⟨h', tk', m', o', p', rfl, F', N', ag', hJ'⟩ := h'; exact ⟨h', tk', m', _, rfl, F', N', hsep' o' p', ⟨o', p', rfl, hJ'⟩, ag'⟩
  · rintro m' nw' h' tk ⟨⟨o₁, p₁, rfl, hJ⟩, ag⟩ F' N'
    rw [mid_eq ag] at F'
    exact done m' o₁ p₁ h' tk hJ F' N'
  · rintro nw' ⟨m', i, ⟨o₁, p₁, rfl, _⟩, _⟩
    exact hwr o₁ p₁
theorem Enm.list (hh : A.handled = none) {items : Array Value} {k : Nat} (hei : e ≠ it) (hle : l ≠ e) (hli : l ≠ it) (hoe : oe = { cls := .type "enumerate", data := .fields #[.none, .bool false, .ref it, rawInt 0, .none, .none] })
    (hoi : oit = { cls := .type "list_iterator", data := .fields #[.ref l, .int 0 0] }) (hc : ol.cls = .type "list") (hd : ol.data = .seq items k) : Enm prog w A e it l oe oit ol items.size (fun i v => items[i]? = some v) where
  hei := hei
  hle := hle
  hli := hli
  iter := fun s Q E he h => wpAny_pyIter_enum (it := it) (i := 0) (old := .none) (by rw [hoe] at he; exact he) h
  out := ⟨_, _, (WalksT.enumerate hh e it l hei hle hli items).toU, fun i h st b hb => by
      obtain ⟨⟨old, he⟩, ⟨o, ho, _⟩, _⟩ := st
      rcases List.mem_cons.mp hb with rfl | hb
      · exact ⟨_, he⟩
      · rw [List.mem_singleton.mp hb]; exact ⟨o, ho⟩,
    fun h he hi hl => ⟨⟨.none, by rw [hoe] at he; exact he⟩, ⟨oit, hi, by rw [hoi], by rw [hoi]; rfl⟩, ⟨ol, hl, hc, k, hd⟩⟩⟩
end

section
variable {prog : Program} {w : World} {A : Around} {E : Value → Shared → Prop} {s : Shared} {h₀ : Heap} {L l : Addr} {m : Str → Option Value} {news : List (Addr × Obj)}
theorem call_enum {items : Array Value} {k : Nat} {Q : Value → Shared → Prop} (Fx : Fr h₀ L s.heap m) (N : News h₀ L s.heap news) (hl : s.heap.get? l = some { cls := .type "list", data := .seq items k })
    (h : ∀ e it h', Fr h₀ L h' m → News h₀ L h' ((e, { cls := .type "enumerate", data := .fields #[.none, .bool false, .ref it, rawInt 0, .none, .none] }) :: (it, { cls := .type "list_iterator", data := .fields #[.ref l, .int 0 0] }) :: news) → (∀ p ∈ news, p.1 < it) → it < e → Q (.ref e) { s with heap := h' }) :
    wpAny (model prog w) A (call (.type "enumerate") [.ref l]) Q E s := by
  refine callType_new F.called_enumerate (by decide) (F.typeCall_enumerate_1 _) (F.newCall_enumerate_1 _) (fun obj => F.args_object_init_2 obj _) F.entry_enumerate_new
    (meets_enumerate_new l items k) ⟨hl, ?_⟩
  have hz : (s.heap.push { cls := .type "list_iterator", data := .fields #[.ref l, .int 0 0] }).objs.size = s.heap.objs.size + 1 := Heap.size_push ..
  show _ ∧ _
  refine ⟨⟨_, Heap.get?_push_size _ rfl, rfl⟩, h _ _ _ ((Fx.push _).push _) (News.push (Fx.push _) (News.push Fx N _) _) (fun p hp => Heap.lt_size (N p hp).1) (by rw [hz]; exact Nat.lt_succ_self _)⟩
end

section
section
variable {prog : Program} {w : World} {A : Around} {E : Value → Shared → Prop} {s : Shared}
open AutoSeq1 (wpAny_loadPart')
theorem nextOf_tup_item {it l : Addr} {i : Nat} {items} {x : Value} {Q : Value → Shared → Prop} (hit : s.heap.IsTupleIter it l i) (hl : s.heap.IsTuple l items) (hx : items[i]? = some x)
    (hQ : ∀ h', h'.IsTupleIter it l (i + 1) → Heap.SameBut it s.heap h' → Q x { s with heap := h' }) : wpAny (model prog w) A (Builtin.SmallTypes.nextOf (.ref it)) Q E s := by
  obtain ⟨o, ho, hc, hd⟩ := id hit
  obtain ⟨ol, hol, _, nl, hdl⟩ := hl
  unfold Builtin.SmallTypes.nextOf
  refine wpAny_bind (wpAny_callSpecial?_slot (name := Str.ofString "__next__") hit.typeIs F.slot_tuple_iterator_next (wpAny_call_entry F.slot_tuple_iterator_next hit.typeIs F.entry_tuple_iterator_next ?_ (F.args_tuple_iterator_next_1 _)))
  show wpAny _ _ (field (.ref it) 0 >>= _) _ _ s
  refine wpAny_bind (wpAny_field ho hd (x := .ref l) rfl ?_)
  show wpAny _ _ (if (Value.ref l == Value.none) = true then _ else _) _ _ s
  rw [if_neg (show ¬ ((Value.ref l == Value.none) = true) from Bool.false_ne_true)]
  show wpAny _ _ (field (.ref it) 1 >>= _) _ _ s
  refine wpAny_bind (wpAny_field ho hd (x := .int i 0) rfl ?_)
  show wpAny _ _ (seqItems? (.ref l) >>= _) _ _ s
  refine wpAny_bind (wpAny_seqItems hol hdl ?_)
  simp only [Int.toNat_natCast, hx]
  refine wpAny_bind (wpAny_setField ho hd (by simp) (wpAny_pure ⟨x, rfl, wpAny_pure (hQ _ ?_ (Heap.SameBut.update ..))⟩))
  exact ⟨_, Heap.get?_update_self _ ho (Obj.isFreed_of_fields (Obj.data_mapFields hd _)), (Obj.cls_mapFields ..).trans hc, by rw [Obj.data_mapFields hd]; simp [rawInt]⟩
theorem nextOf_tup_end {it l : Addr} {i : Nat} {items} {Q : Value → Shared → Prop} (hh : A.handled = none) (hit : s.heap.IsTupleIter it l i) (hl : s.heap.IsTuple l items) (hx : items[i]? = none)
    (hE : ∀ h' e, Heap.ExtBut it s.heap h' → (∃ o, h'.get? e = some o ∧ o.cls = .type "StopIteration") → E (.ref e) { s with heap := h' }) : wpAny (model prog w) A (Builtin.SmallTypes.nextOf (.ref it)) Q E s := by
  obtain ⟨o, ho, hc, hd⟩ := id hit
  obtain ⟨ol, hol, _, nl, hdl⟩ := hl
  unfold Builtin.SmallTypes.nextOf
  refine wpAny_bind (wpAny_callSpecial?_slot (name := Str.ofString "__next__") hit.typeIs F.slot_tuple_iterator_next (wpAny_call_entry F.slot_tuple_iterator_next hit.typeIs F.entry_tuple_iterator_next ?_ (F.args_tuple_iterator_next_1 _)))
  show wpAny _ _ (field (.ref it) 0 >>= _) _ _ s
  refine wpAny_bind (wpAny_field ho hd (x := .ref l) rfl ?_)
  show wpAny _ _ (if (Value.ref l == Value.none) = true then _ else _) _ _ s
  rw [if_neg (show ¬ ((Value.ref l == Value.none) = true) from Bool.false_ne_true)]
  show wpAny _ _ (field (.ref it) 1 >>= _) _ _ s
  refine wpAny_bind (wpAny_field ho hd (x := .int i 0) rfl ?_)
  show wpAny _ _ (seqItems? (.ref l) >>= _) _ _ s
  refine wpAny_bind (wpAny_seqItems hol hdl ?_)
  simp only [Int.toNat_natCast, hx]
  refine wpAny_bind (wpAny_rule (wpAny_bind (wpAny_setField ho hd (by simp) ?_)))
  show wpAny _ _ (newExc (.type "StopIteration") [] >>= _) _ _ _
  refine wpAny_bind ?_
  simp only [newExc, newTuple]
  refine wpAny_bind (wpAny_newObj_type ?_ (by size_fits))
  refine wpAny_bind (m := firstArgMember _ _) (wpAny_of_eq (a := Value.none) (by first | rfl | (simp only [firstArgMember]; rfl)) ?_)
  refine wpAny_newObj_type ?_ (by size_fits)
  simp only [raiseNew]
  refine wpAny_bind (wpAny_handled ?_)
  first | rw [show A.in1.handled = none from hh] | rw [hh]
  refine wpAny_bind (wpAny_pure (wpAny_throw ?_))
  exact hE _ _ (((Heap.SameBut.update ..).extBut.push _).push _) ⟨_, Heap.get?_push_size _ rfl, rfl⟩
theorem draws_tup (hh : A.handled = none) (it l : Addr) (hne : l ≠ it) (items : Array Value) :
    Draws prog w A it [it, l] items.size (fun i v => items[i]? = some v) (fun i h => h.IsTupleIter it l i ∧ h.IsTuple l items) where
  live := fun _ _ st => let ⟨o, ho, _⟩ := st.1; ⟨o, ho⟩
  frame := fun _ _ _ st hk => ⟨let ⟨o, ho, r⟩ := st.1; ⟨o, hk it (by simp) o ho, r⟩, st.2.at fun o e => hk l (by simp) o e⟩
  item := fun i s Q E hi st hQ => by
    refine nextOf_tup_item st.1 st.2 (x := items[i]) (by simp [hi]) fun h' hit' hs' => ?_
    exact hQ _ h' s.toks (by simp [hi]) ⟨hit', st.2.extBut hs'.extBut hne⟩ hs'
  done := fun s Q E st hE => nextOf_tup_end hh st.1 st.2 (by simp) hE
theorem meets_enumT (l : Addr) (items : Array Value) (n : Nat) (dct : Option Addr) (sl : Array (Option Value)) :
    Meets (Builtin.«enumerate.__new__» ⟨[.type "enumerate", .ref l], []⟩) (fun _ R s => s.heap.get? l = some { cls := .type "tuple", dict := dct, data := .seq items n, slots := sl } ∧
      R (.ok (.ret (.ref (s.heap.push { cls := .type "tuple_iterator", data := .fields #[.ref l, .int 0 0] }).objs.size)))
        { s with heap := (s.heap.push { cls := .type "tuple_iterator", data := .fields #[.ref l, .int 0 0] }).push { cls := .type "enumerate", data := .fields #[.none, .bool false, .ref s.heap.objs.size, rawInt 0, .none, .none] } }) :=
  .of_wp fun prog w A R s h => by
    obtain ⟨hp, g, d, tk, os⟩ := s; obtain ⟨hl, h⟩ := h
    have hsub := sub_enumerate
    have hL : Heap.IsTuple (Shared.heap ⟨hp, g, d, tk, os⟩) l items := ⟨_, hl, rfl, n, rfl⟩
    wp_walk using wpAny_loadPart' hl
    refine wpAny_stack_any fun st => wpAny_pure ?_
    split
    · rename_i c _ _ _ _ _
      cases (c == Value.type "enumerate")
      · wp_walk using wpAny_loadPart' hl, wpAny_pyIter_tuple hL
        exact ⟨_, rfl, h⟩
      · wp_walk using wpAny_loadPart' hl, wpAny_pyIter_tuple hL
        exact ⟨_, rfl, h⟩
    · wp_walk using wpAny_loadPart' hl, wpAny_pyIter_tuple hL
      exact ⟨_, rfl, h⟩
theorem call_enumT {h₀ : Heap} {L l : Addr} {m : Str → Option Value} {news : List (Addr × Obj)} {lo : Obj} {items : Array Value} {k : Nat} {K : Frag} {Q : Value → Shared → Prop} (Fx : Fr h₀ L s.heap m) (N : News h₀ L s.heap news) (X : K.In h₀) (hk : K.lookup l = some lo) (hc : lo.cls = .type "tuple") (hd : lo.data = .seq items k)
    (h : ∀ e it h', Fr h₀ L h' m → News h₀ L h' ((e, { cls := .type "enumerate", data := .fields #[.none, .bool false, .ref it, rawInt 0, .none, .none] }) :: (it, { cls := .type "tuple_iterator", data := .fields #[.ref l, .int 0 0] }) :: news) → (∀ p ∈ news, p.1 < it) → it < e → h₀.objs.size ≤ it → Q (.ref e) { s with heap := h' }) :
    wpAny (model prog w) A (call (.type "enumerate") [.ref l]) Q E s := by
  obtain ⟨c, dct, dt, sl⟩ := lo
  replace hc : c = .type "tuple" := hc
  replace hd : dt = .seq items k := hd
  subst hc hd
  refine callType_new F.called_enumerate (by decide) (F.typeCall_enumerate_1 _) (F.newCall_enumerate_1 _) (fun obj => F.args_object_init_2 obj _) F.entry_enumerate_new
    (meets_enumT l items k dct sl) ⟨Fx.keep _ _ (X _ _ hk), ?_⟩
  have hz : (s.heap.push { cls := .type "tuple_iterator", data := .fields #[.ref l, .int 0 0] }).objs.size = s.heap.objs.size + 1 := Heap.size_push ..
  show _ ∧ _
  refine ⟨⟨_, Heap.get?_push_size _ rfl, rfl⟩, h _ _ _ ((Fx.push _).push _) (News.push (Fx.push _) (News.push Fx N _) _) (fun p hp => Heap.lt_size (N p hp).1) (by rw [hz]; exact Nat.lt_succ_self _) (Nat.le_of_lt (Nat.lt_of_le_of_lt Fx.above Fx.ns.lt))⟩
theorem Enm.tuple {e it l : Addr} {oe oit ol : Obj} (hh : A.handled = none) {items : Array Value} {k : Nat} (hei : e ≠ it) (hle : l ≠ e) (hli : l ≠ it) (hoe : oe = { cls := .type "enumerate", data := .fields #[.none, .bool false, .ref it, rawInt 0, .none, .none] })
    (hoi : oit = { cls := .type "tuple_iterator", data := .fields #[.ref l, .int 0 0] }) (hc : ol.cls = .type "tuple") (hd : ol.data = .seq items k) : Enm prog w A e it l oe oit ol items.size (fun i v => items[i]? = some v) where
  hei := hei
  hle := hle
  hli := hli
  iter := fun s Q E he h => wpAny_pyIter_enum (it := it) (i := 0) (old := .none) (by rw [hoe] at he; exact he) h
  out := ⟨_, _, (WalksT.enumerateD (draws_tup (A := A.in1) hh it l hli items) e hei (by simp [hei, Ne.symm hle]) (by simp)).toU, fun i h st b hb => by
      obtain ⟨⟨old, he⟩, ⟨o, ho, _⟩, _⟩ := st
      rcases List.mem_cons.mp hb with rfl | hb
      · exact ⟨_, he⟩
      · rw [List.mem_singleton.mp hb]; exact ⟨o, ho⟩,
    fun h he hi hl => ⟨⟨.none, by rw [hoe] at he; exact he⟩, ⟨oit, hi, by rw [hoi], by rw [hoi]; rfl⟩, ⟨ol, hl, hc, k, hd⟩⟩⟩
noncomputable def TurnX (h₀ : Heap) (L I : Addr) (oI : Obj) (news : List (Addr × Obj)) (J : (Str → Option Value) → Prop) (s : Shared) (Q : Flow → Shared → Prop) (f : Flow) (s' : Shared) : Prop :=
  match f with | .ret v => Q (.ret v) s' | .brk => Q .next s' | _ => ∃ h' tk' m', s' = { s with heap := h', toks := tk' } ∧ Fr h₀ L h' m' ∧ News h₀ L h' ((I, oI) :: news) ∧ J m'
theorem tx_next {h₀ h' : Heap} {L I : Addr} {oI : Obj} {news all : List (Addr × Obj)} {J : (Str → Option Value) → Prop} {s : Shared} {Q : Flow → Shared → Prop} {tk' : Nat} {m' : Str → Option Value}
    (F : Fr h₀ L h' m') (N : News h₀ L h' all) (sub : ∀ p ∈ (I, oI) :: news, p ∈ all) (j : J m') : TurnX h₀ L I oI news J s Q .next { s with heap := h', toks := tk' } := ⟨h', tk', m', rfl, F, fun p hp => N p (sub p hp), j⟩
theorem tx_brk {h₀ : Heap} {L I : Addr} {oI : Obj} {news : List (Addr × Obj)} {J : (Str → Option Value) → Prop} {s s' : Shared} {Q : Flow → Shared → Prop} (h : Q .next s') : TurnX h₀ L I oI news J s Q .brk s' := h
theorem for_else {env : Env} {h₀ : Heap} {Q : Flow → Shared → Prop} {L l : Addr} {xi xc : Str} {pk pv pt : Pos} {x1 : Nat} {body orelse : List Stmt} {items : Array Value} {m : Str → Option Value} {news : List (Addr × Obj)} {P2 : Nat → Value → Value → Prop}
    (J : Nat → (Str → Option Value) → Prop)
    (hLe : env.locals = L) (hh : A.handled = none) (hl : h₀.IsTuple l items) (hp2 : ∀ i v, items[i]? = some v → ∃ T v0 v1, v = .ref T ∧ h₀.IsTuple T #[v0, v1] ∧ P2 i v0 v1)
    (hxi : env.kindOf xi = some .local) (hxc : env.kindOf xc = some .local)
    (hp : (env.scope.kind == .class || (env.scope.kind == .module && env.locals != env.globals)) = false)
    (F : Fr h₀ L s.heap m) (N : News h₀ L s.heap news) (h0 : J 0 m)
    (turn : ∀ i v0 v1 m₁ I oI h tk, i < items.size → P2 i v0 v1 → J i m₁ → (∀ p ∈ news, p.1 < I) → Fr h₀ L h (fun y => if y = xc then some v1 else if y = xi then some v0 else m₁ y) → News h₀ L h ((I, oI) :: news) →
      wpAny (model prog w) A (execs body env) (TurnX h₀ L I oI news (J (i + 1)) s Q) (fun _ _ => False) { s with heap := h, toks := tk })
    (els : ∀ m₁ h tk, J items.size m₁ → Fr h₀ L h m₁ → News h₀ L h news → wpAny (model prog w) A (execs orelse env) (fun f s' => Q f s') (fun _ _ => False) { s with heap := h, toks := tk }) :
    wpAny (model prog w) A (pyIter (.ref l)) (fun it s₂ => codeAny (model prog w) A (.forLoop (.Tuple [.Name xi pk, .Name xc pv] x1 pt) it body orelse env) (fun r s' => match r with | .ok f => Q f s' | .error e => cameBackBy (model prog w) A env E e s') s₂) E s := by
  subst hLe
  have hl' : s.heap.IsTuple l items := hl.at fun o e => F.keep _ _ e
  obtain ⟨lo, hlo, _⟩ := id hl
  have hlo' := F.keep _ _ hlo
  have hne : l ≠ s.heap.objs.size := Nat.ne_of_lt (Heap.lt_size hlo')
  refine wpAny_pyIter_tuple hl' ?_
  have W := Walks.tuple (prog := prog) (w := w) (A := A) hh s.heap.objs.size l hne items
  generalize hI : s.heap.objs.size = I at W ⊢
  have hI₀ : h₀.get? I = none := hI ▸ next_is_new F
  have hLI : env.locals ≠ I := fun e => absurd F.ns.lt (e ▸ hI ▸ Nat.lt_irrefl _)
  have hnI : ∀ p ∈ news, p.1 < I := fun p hp => hI ▸ Heap.lt_size (N p hp).1
  have up : ∀ {h h' : Heap} {m' : Str → Option Value}, (∀ b o, b ∉ [I] → h.get? b = some o → h'.get? b = some o) → Fr h₀ env.locals h m' → News h₀ env.locals h news → Fr h₀ env.locals h' m' ∧ News h₀ env.locals h' news := fun hk₁ F' N' =>
    ⟨⟨F'.ns.at' fun o e => hk₁ _ o (by simpa using hLI) e, fun b o e => hk₁ b o (fun hb => by rw [List.mem_singleton.mp hb, hI₀] at e; cases e) (F'.keep b o e), F'.above⟩, fun p hp => ⟨hk₁ _ _ (by simpa using Nat.ne_of_lt (hnI p hp)) (N' p hp).1, (N' p hp).2⟩⟩
  refine codeAny_forLoop_any
    (fun k s' => ∃ h' tk m' i, s' = { s with heap := h', toks := tk } ∧ (h'.IsTupleIter I l i ∧ h'.IsTuple l items) ∧ Fr h₀ env.locals h' m' ∧ News h₀ env.locals h' news ∧ J i m' ∧ i ≤ items.size ∧ k = items.size + 1 - i) ?_ (items.size + 1)
    ⟨_, s.toks, m, 0, rfl, ⟨⟨_, hI ▸ Heap.get?_push_size _ rfl, rfl, rfl⟩, hl'.push _⟩, F.push _, fun p hp => ⟨Heap.get?_push_of_some _ (N p hp).1, (N p hp).2⟩, h0, Nat.zero_le _, rfl⟩
  rintro k s' ⟨H, tk, m', i, rfl, hst', F', N', hJ, hi, rfl⟩
  by_cases hlt : i < items.size
  · refine W.item i _ _ _ hlt hst' fun v h₁ tk₁ hP hst₁ hk₁ => ?_
    obtain ⟨T, v0, v1, rfl, hT, hP2⟩ := hp2 i v hP
    obtain ⟨F₁, N₁⟩ := up hk₁ F' N'
    refine letGo_tupleiter hst₁.1 ?_
    have hT₁ : h₁.IsTuple T #[v0, v1] := hT.at fun o e => F₁.keep _ _ e
    refine wpAny_assign_Tuple hh hT₁ rfl rfl fun h₃ hx₃ => ?_
    replace hx₃ : Heap.ExtBut h₁.objs.size h₁ h₃ := hx₃
    have up₃ : ∀ b o, h₁.get? b = some o → h₃.get? b = some o := fun b o x => hx₃ b o (Nat.ne_of_lt (Heap.lt_size x)) x
    obtain ⟨F₃, N₃⟩ := up (fun b o _ x => up₃ b o x) F₁ N₁
    show wpAny _ A (do holding [v1] (assign (.Name xi pk) env v0); do holding [] (assign (.Name xc pv) env v1); pure ()) _ _ _
    refine wpAny_bind (wpAny_holding (wpAny_assign_Name (wpAny_storeName_local hxi F₃.ns (fun h₄ hn₄ hs₄ => ?_) hp)))
    replace hs₄ : Heap.SameBut env.locals h₃ h₄ := hs₄
    have F₄ := F₃.set hn₄ hs₄
    refine wpAny_bind (wpAny_holding (wpAny_assign_Name (wpAny_storeName_local hxc F₄.ns (fun h₅ hn₅ hs₅ => wpAny_pure ?_) hp)))
    replace hs₅ : Heap.SameBut env.locals h₄ h₅ := hs₅
    have F₅ := F₄.set hn₅ hs₅
    have N₅ : News h₀ env.locals h₅ news := (N₃.set hs₄).set hs₅
    obtain ⟨oI, hoI, hcI⟩ := hst₁.1
    have hoI₅ : h₅.get? I = some oI := hs₅.extBut _ _ (Ne.symm hLI) (hs₄.extBut _ _ (Ne.symm hLI) (up₃ _ _ hoI))
    refine wpAny_mono (turn i v0 v1 m' I oI h₅ _ hlt hP2 hJ hnI F₅ (fun p hp => ?_)) (fun f s₃ h₆ => ?_) fun _ _ e => e.elim
    · rcases List.mem_cons.mp hp with rfl | hp
      · exact ⟨hoI₅, Ne.symm hLI, hI₀⟩
      · exact N₅ p hp
    have fin : (∃ h' tk' m', s₃ = { s with heap := h', toks := tk' } ∧ Fr h₀ env.locals h' m' ∧ News h₀ env.locals h' ((I, oI) :: news) ∧ J (i + 1) m') → ∃ k', k' < items.size + 1 - i ∧ ∃ h' tk m' i, s₃ = { s with heap := h', toks := tk } ∧ (h'.IsTupleIter I l i ∧ h'.IsTuple l items) ∧ Fr h₀ env.locals h' m' ∧ News h₀ env.locals h' news ∧ J i m' ∧ i ≤ items.size ∧ k' = items.size + 1 - i := by
      rintro ⟨h₇, tk₆, m₆, rfl, F₆, N₆, hJ₆⟩
      exact ⟨items.size + 1 - (i + 1), by omega, h₇, tk₆, m₆, i + 1, rfl, ⟨⟨oI, (N₆ _ (.head _)).1, hcI⟩, hl.at fun o e => F₆.keep _ _ e⟩, F₆, fun p hp => N₆ p (.tail _ hp), hJ₆, hlt, rfl⟩
    cases f with
    | ret v => exact h₆
    | brk => exact h₆
    | cont => exact fin h₆
    | next => exact fin h₆
  · have hin : i = items.size := by omega
    subst hin
    refine W.done _ _ _ hst' fun h₁ tk₁ hk₁ => ?_
    obtain ⟨F₁, N₁⟩ := up hk₁ F' N'
    exact wpAny_mono (els m' h₁ tk₁ hJ F₁ N₁) (fun f s' q => q) fun _ _ e => e.elim
end

end
section
variable {prog : Program} {w : World} {A : Around} {E : Value → Shared → Prop} {s : Shared}
noncomputable def rngO (n : Nat) (t u v : Tok) : Obj := { cls := .type "range", data := .fields #[.int 0 t, .int (n : Int) u, .int 1 v] }
theorem Itb.range (hh : A.handled = none) {l : Addr} {n : Nat} {t u v : Tok} (hn : n ≤ 1000) : Itb prog w A l (rngO n t u v) n (fun i x => ∃ t, x = .int (i : Int) t) := by
  have hz : Builtin.Range.rangeSize 0 (n : Int) 1 = (n : Int) := by
    unfold Builtin.Range.rangeSize
    rw [if_pos (by decide)]
    split <;> omega
  refine ⟨{ cls := .type "range_iterator", data := .fields #[rawInt 0, rawInt (Builtin.Range.rangeSize 0 n 1), rawInt 1] }, rfl, fun s Q E ho h => wpAny_pyIter_range (a := 0) (b := n) (c := 1) ho ?_ h, fun I hne => ?_⟩
  · exact small_one (by omega) (by omega) (by omega) (by omega)
  · have W := Walks.range (prog := prog) (w := w) (A := A) hh I 0 1 n
    refine ⟨fun i h => IsRangeIter h I (0 + (i : Nat) * 1) ((n : Int) - (i : Nat)) 1 ∧ ∃ o', h.get? l = some o', { sub := fun b hb => by rw [List.mem_singleton.mp hb]; exact .head _, frame := fun i h h' st hk => ⟨W.frame i h h' st.1 (fun b hb o e => hk b (by rw [List.mem_singleton.mp hb]; exact .head _) o e), ?_⟩, item := fun i s Q E hi st hQ => W.item i s Q E hi st.1 fun v h' tk hP st' hk => ?_, done := fun s Q E st hQ => W.done s Q E st.1 hQ, self := fun i s Q E st hQ => W.self i s Q E st.1 hQ }, fun i h st => ⟨⟨_, st.1⟩, st.2⟩, fun h ho hi => ⟨?_, _, ho⟩⟩
    · obtain ⟨o, e⟩ := st.2
      exact ⟨o, hk l (.tail _ (.head _)) o e⟩
    · obtain ⟨t', hP⟩ := hP
      obtain ⟨o, e⟩ := st.2
      exact hQ v h' tk ⟨t', by rw [hP]; congr 1; omega⟩ ⟨st', o, hk l o (by simpa using hne) e⟩ hk
    · rw [hz] at hi
      show h.get? I = _
      rw [hi]
      simp
theorem call_rangeL {h₀ : Heap} {L : Addr} {m : Str → Option Value} {news : List (Addr × Obj)} {n : Nat} {t : Tok} {Q : Value → Shared → Prop} (Fx : Fr h₀ L s.heap m) (N : News h₀ L s.heap news)
    (h : ∀ r t u v h' tk, Fr h₀ L h' m → News h₀ L h' ((r, rngO n t u v) :: news) → (∀ p ∈ news, p.1 < r) → Q (.ref r) { s with heap := h', toks := tk }) :
    wpAny (model prog w) A (call (.type "range") [.int (n : Int) t]) Q E s :=
  call_range_1 (h _ _ _ _ _ _ (Fx.push _) (News.push Fx N _) (fun p hp => Heap.lt_size (N p hp).1))
end

noncomputable def TurnW (h₀ : Heap) (L : Addr) (J : Nat → (Str → Option Value) → List (Addr × Obj) → Prop) (n : Nat) (s : Shared) (Q : Flow → Shared → Prop) (f : Flow) (s' : Shared) : Prop :=
  match f with
  | .ret v => Q (.ret v) s'
  | .brk => Q .next s'
  | _ => ∃ h' tk' m' nw' n', s' = { s with heap := h', toks := tk' } ∧ Fr h₀ L h' m' ∧ News h₀ L h' nw' ∧ n' < n ∧ J n' m' nw'
theorem tw_next {h₀ h' : Heap} {L : Addr} {J : Nat → (Str → Option Value) → List (Addr × Obj) → Prop} {s : Shared} {Q : Flow → Shared → Prop} {m' : Str → Option Value} {nw' all : List (Addr × Obj)} {tk' n n' : Nat}
    (F : Fr h₀ L h' m') (N : News h₀ L h' all) (sub : ∀ p ∈ nw', p ∈ all) (hn : n' < n) (j : J n' m' nw') : TurnW h₀ L J n s Q .next { s with heap := h', toks := tk' } := ⟨h', tk', m', nw', n', rfl, F, fun p hp => N p (sub p hp), hn, j⟩
section
variable {prog : Program} {w : World} {A : Around} {s : Shared} {env : Env} {h₀ : Heap} {Q : Flow → Shared → Prop} {E : Value → Shared → Prop}
theorem while_inv {L : Addr} {test : PySem.Expr} {body : List Stmt} {pos : Pos} {m : Str → Option Value} {news : List (Addr × Obj)} (J : Nat → (Str → Option Value) → List (Addr × Obj) → Prop) (n : Nat)
    (F : Fr h₀ L s.heap m) (N : News h₀ L s.heap news) (h0 : J n m news)
    (turn : ∀ n m₁ nw h tk, J n m₁ nw → Fr h₀ L h m₁ → News h₀ L h nw →
      wpAny (model prog w) A (isTrue test env (eval test env)) (fun b s₂ => if b = true then wpAny (model prog w) A (execs body env) (TurnW h₀ L J n s Q) (fun _ _ => False) s₂ else Q .next s₂) (fun _ _ => False) { s with heap := h, toks := tk }) :
    wpAny (model prog w) A (exec (.While test body [] pos) env) Q E s := by
  refine wpAny_While ?_
  refine codeAny_whileLoop (fun k s' => ∃ h' tk m' nw, s' = { s with heap := h', toks := tk } ∧ Fr h₀ L h' m' ∧ News h₀ L h' nw ∧ J k m' nw) ?_ n ⟨s.heap, s.toks, m, news, rfl, F, N, h0⟩
  rintro k s' ⟨h', tk, m', nw, rfl, F', N', hJ⟩
  refine wpAny_mono (turn k m' nw h' tk hJ F' N') (fun b s₂ h₂ => ?_) fun _ _ e => e.elim
  cases b with
  | false => exact wpAny_execs_nil h₂
  | true =>
    refine wpAny_mono h₂ (fun f s₃ h₃ => ?_) fun _ _ e => e.elim
    cases f with
    | ret v => exact h₃
    | brk => exact h₃
    | next => obtain ⟨h', tk', m', nw', n', rfl, F', N', hn, hJ⟩ := h₃; exact ⟨n', hn, h', tk', m', nw', rfl, F', N', hJ⟩
    | cont => obtain ⟨h', tk', m', nw', n', rfl, F', N', hn, hJ⟩ := h₃; exact ⟨n', hn, h', tk', m', nw', rfl, F', N', hJ⟩
end

section
theorem lt_of_add {i k n : Nat} (e : i + (k + 1) = n) : i < n := e ▸ Nat.lt_add_of_pos_right (Nat.succ_pos k)
theorem add_next {i k n : Nat} (e : i + (k + 1) = n) : i + 1 + k = n := by rw [Nat.add_right_comm]; exact e
open LCg LCt
structure Itc (prog : Program) (w : World) (A : Around) (l : Addr) (o : Obj) (n : Nat) (P : Nat → Value → Prop) (va : Addr) (Pre : Heap → Prop) : Prop where
  out : ∃ it0 : Obj, it0.isFreed = false ∧
    (∀ (s : Shared) (Q : Value → Shared → Prop) (E : Value → Shared → Prop), s.heap.get? l = some o → Pre s.heap → Q (.ref s.heap.objs.size) { s with heap := s.heap.push it0 } → wpAny (model prog w) A (pyIter (.ref va)) Q E s) ∧
    ∀ I, l ≠ I → ∃ St : Nat → Heap → Prop, Walks prog w A I [I, l] [I] n P St ∧ (∀ i h, St i h → ∃ o', h.get? I = some o') ∧ (∀ i h h' oI, St i h → h.get? I = some oI → h'.get? I = some oI → h'.get? l = some o → St i h') ∧ ∀ h, h.get? l = some o → h.get? I = some it0 → St 0 h
section
variable {prog : Program} {w : World} {A : Around} {s : Shared} {h₀ : Heap}
theorem Itc.list (hh : A.handled = none) {l : Addr} {o : Obj} {items : Array Value} {k : Nat} (hc : o.cls = .type "list") (hd : o.data = .seq items k) : Itc prog w A l o items.size (fun i v => items[i]? = some v) l (fun _ => True) :=
  ⟨_, rfl, fun s Q E ho _ h => wpAny_pyIter_list ⟨o, ho, hc, k, hd⟩ h, fun I hne => ⟨_, Walks.list hh I l hne items, fun i h st => let ⟨o', e, _⟩ := st.1; ⟨o', e⟩,
    fun i h h' oI st e e' hl => ⟨by obtain ⟨o', q, r⟩ := st.1; rw [e] at q; cases q; exact ⟨oI, e', r⟩, ⟨o, hl, hc, k, hd⟩⟩,
    fun h ho hi => ⟨⟨_, hi, rfl, rfl⟩, ⟨o, ho, hc, k, hd⟩⟩⟩⟩
theorem Itc.keys (hh : A.handled = none) {d : Addr} {o : Obj} {kvs : List (Str × Value)} (hd : (d == sysModules) = false) (ho : o.IsDictOf (strKind prog w) kvs) :
    Itc prog w A d o kvs.length (fun i v => ∃ k x t, kvs[i]? = some (k, x) ∧ v = .str k t) d (fun _ => True) := by
  obtain ⟨es, ep, hx, hdat, hk, hp, hn⟩ := ho
  refine ⟨_, rfl, fun s Q E ho _ h => wpAny_pyIter_dict (knd := strKind prog w) hd ⟨o, es, ho, hx, hdat, hk, hp, hn⟩ h, fun I hne => ⟨fun i h => h.IsKeyIter I d i kvs.length ep ∧ h.DictAt (strKind prog w) d kvs ep, ?_, fun i h st => let ⟨o', e, _⟩ := st.1; ⟨o', e⟩,
    fun i h h' oI st e e' hl => ⟨by obtain ⟨o', q, r⟩ := st.1; rw [e] at q; cases q; exact ⟨oI, e', r⟩, ⟨o, es, hl, hx, hdat, hk, hp, hn⟩⟩,
    fun h ho hi => ⟨⟨_, hi, rfl, rfl⟩, ⟨o, es, ho, hx, hdat, hk, hp, hn⟩⟩⟩⟩
  have W := Walks.dictKeys (prog := prog) (w := w) (knd := strKind prog w) hh I d hne kvs ep
  exact { sub := W.sub, frame := W.frame, done := W.done, self := W.self,
          item := fun i s Q E hi st hQ => W.item i s Q E hi st fun v h' tk hP => hQ v h' tk (by
            obtain ⟨k, x, e, hv⟩ := hP
            obtain ⟨t, rfl⟩ := Value.isStrOf_shape hv
            exact ⟨k, x, t, e, rfl⟩) }
theorem Itc.values (hh : A.handled = none) {d va : Addr} {o : Obj} {kvs : List (Str × Value)} (ho : o.IsDictOf (strKind prog w) kvs) :
    Itc prog w A d o kvs.length (fun i v => ∃ k, kvs[i]? = some (k, v)) va (fun h => h.get? va = some { cls := .type "dict_values", data := .fields #[.ref d] }) := by
  obtain ⟨es, ep, hx, hdat, hk, hp, hn⟩ := ho
  exact ⟨_, rfl, fun s Q E ho hv h => wpAny_pyIter_values (knd := strKind prog w) ⟨_, hv, rfl, rfl⟩ ⟨o, es, ho, hx, hdat, hk, hp, hn⟩ h, fun I hne => ⟨fun i h => h.IsValIter I d i kvs.length ep ∧ h.DictAt (strKind prog w) d kvs ep, Walks.dictValues (prog := prog) (w := w) (knd := strKind prog w) hh I d hne kvs ep, fun i h st => let ⟨o', e, _⟩ := st.1; ⟨o', e⟩,
    fun i h h' oI st e e' hl => ⟨by obtain ⟨o', q, r⟩ := st.1; rw [e] at q; cases q; exact ⟨oI, e', r⟩, ⟨o, es, hl, hx, hdat, hk, hp, hn⟩⟩,
    fun h ho hi => ⟨⟨_, hi, rfl, rfl⟩, ⟨o, es, ho, hx, hdat, hk, hp, hn⟩⟩⟩⟩
end
noncomputable def CEnd (h₀ : Heap) (L : Addr) (m : Str → Option Value) (s₁ : Shared) (I : Addr) (oI : Obj) (C : Addr) (oC : Obj) (D : Addr) (oD : Obj) (news : List (Addr × Obj)) (R : Value → Prop) (y : Value) (s₂ : Shared) : Prop :=
  CompEnd h₀ L m s₁ I oI C oC D oD (· = news) (fun y _ => R y) y s₂
theorem ce_end {h₀ h' : Heap} {L I C D : Addr} {m : Str → Option Value} {s₁ : Shared} {oI oC oD : Obj} {news all : List (Addr × Obj)} {R : Value → Prop} {y : Value} {tk : Nat}
    (F : Fr h₀ L h' m) (N : News h₀ L h' all) (sub : ∀ p ∈ (I, oI) :: (C, oC) :: (D, oD) :: news, p ∈ all) (off : Off3 I C D news) (r : R y) :
    CEnd h₀ L m s₁ I oI C oC D oD news R y { s₁ with heap := h', toks := tk } := CompEnd.intro F N news sub off rfl r
section
variable {prog : Program} {w : World} {A : Around} {E : Value → Shared → Prop} {s : Shared} {h₀ : Heap} {L : Addr} {m : Str → Option Value} {env : Env}
theorem rest_U {elt : PySem.Expr} {x : Str} {scope : Scope} {cl : List (Str × Addr)} {P : Nat → Value → Prop} {Fin : List Value → List (Addr × Obj) → Prop} {news : List (Addr × Obj)} {n : Nat} (J : Nat → List Value → Prop)
    (turn : ∀ i ys v I oI C oC D m₂ h tk (E' : Value → Shared → Prop), i < n → P i v → J i ys → NsObj oC m₂ → m₂ x = some v → Fr h₀ L h m → News h₀ L h ((I, oI) :: (C, oC) :: (D, LCg.lst ys) :: news) → Off3 I C D news → ((@Ne Nat I C) ∧ (@Ne Nat I D) ∧ (@Ne Nat C D)) →
      wpAny (model prog w) A (eval elt (compEnvC scope cl C env)) (CEnd h₀ L m { s with heap := h, toks := tk } I oI C oC D (LCg.lst ys) news (fun y => J (i + 1) (ys ++ [y]))) E' { s with heap := h, toks := tk })
    (fin : ∀ ys, J n ys → Fin ys news) : ∀ k i ys, i + k = n → J i ys → CompRest prog w A h₀ L m env elt x scope cl s (· = news) P Fin k i ys news := by
  intro k
  induction k with
  | zero => intro i ys e hJ; rw [Nat.add_zero] at e; subst e; exact fin ys hJ
  | succ k ih =>
    intro i ys e hJ v I oI C oC D m₂ h tk E' hP hC hx F N off ne
    refine wpAny_mono (turn i ys v I oI C oC D m₂ h tk E' (lt_of_add e) hP hJ hC hx F N off ne) (fun y s' h' => ?_) fun _ _ e => e
    obtain ⟨h', tk', nw, rfl, F', N', off', rfl, r⟩ := h'
    exact ⟨h', tk', nw, rfl, F', N', off', rfl, ih (i + 1) _ (add_next e) r⟩
theorem rest_T {ct elt : PySem.Expr} {x : Str} {scope : Scope} {cl : List (Str × Addr)} {P : Nat → Value → Prop} {Fin : List Value → List (Addr × Obj) → Prop} {news : List (Addr × Obj)} {n : Nat} (J : Nat → List Value → Prop)
    (turn : ∀ i ys v I oI C oC D m₂ h tk (E' : Value → Shared → Prop), i < n → P i v → J i ys → NsObj oC m₂ → m₂ x = some v → Fr h₀ L h m → News h₀ L h ((I, oI) :: (C, oC) :: (D, LCg.lst ys) :: news) → Off3 I C D news → ((@Ne Nat I C) ∧ (@Ne Nat I D) ∧ (@Ne Nat C D)) →
      wpAny (model prog w) A (isTrue ct (compEnvC scope cl C env) (eval ct (compEnvC scope cl C env))) (fun ok s' => if ok = true then
        wpAny (model prog w) A (eval elt (compEnvC scope cl C env)) (CEnd h₀ L m { s with heap := h, toks := tk } I oI C oC D (LCg.lst ys) news (fun y => J (i + 1) (ys ++ [y]))) E' s'
        else CEnd h₀ L m { s with heap := h, toks := tk } I oI C oC D (LCg.lst ys) news (fun _ => J (i + 1) ys) Value.none s') E' { s with heap := h, toks := tk })
    (fin : ∀ ys, J n ys → Fin ys news) : ∀ k i ys, i + k = n → J i ys → CompRestT prog w A h₀ L m env ct elt x scope cl s (· = news) P Fin k i ys news := by
  intro k
  induction k with
  | zero => intro i ys e hJ; rw [Nat.add_zero] at e; subst e; exact fin ys hJ
  | succ k ih =>
    intro i ys e hJ v I oI C oC D m₂ h tk E' hP hC hx F N off ne
    refine wpAny_mono (turn i ys v I oI C oC D m₂ h tk E' (lt_of_add e) hP hJ hC hx F N off ne) (fun ok s' h' => ?_) fun _ _ e => e
    cases ok with
    | true =>
      simp only [if_true] at h' ⊢
      refine wpAny_mono h' (fun y s' h₂ => ?_) fun _ _ e => e
      obtain ⟨h₃, tk', nw, rfl, F', N', off', rfl, r⟩ := h₂
      exact ⟨h₃, tk', nw, rfl, F', N', off', rfl, ih (i + 1) _ (add_next e) r⟩
    | false =>
      simp only [Bool.false_eq_true, if_false] at h' ⊢
      obtain ⟨h', tk', nw, rfl, F', N', off', rfl, r⟩ := h'
      exact ⟨h', tk', nw, rfl, F', N', off', rfl, ih (i + 1) _ (add_next e) r⟩
noncomputable def CSrcU (prog : Program) (w : World) (A : Around) (h₀ : Heap) (L : Addr) (m : Str → Option Value) (env : Env) (elt : PySem.Expr) (x : Str) (scope : Scope) (cl : List (Str × Addr)) (Fin : Shared → List Value → List (Addr × Obj) → Prop) (xv : Value) (s₁ : Shared) : Prop :=
  ∃ va Pre l o n P news, xv = .ref va ∧ Itc prog w A l o n P va Pre ∧ Pre s₁.heap ∧ Fr h₀ L s₁.heap m ∧ News h₀ L s₁.heap news ∧ (h₀.get? l = some o ∨ (l, o) ∈ news) ∧ n ≤ sizeLine ∧
    ∀ s₂ : Shared, (∃ h, s₂ = { s₁ with heap := h }) → CompRest prog w A h₀ L m env elt x scope cl s₂ (· = news) P (Fin s₂) n 0 [] news
noncomputable def CSrcT (prog : Program) (w : World) (A : Around) (h₀ : Heap) (L : Addr) (m : Str → Option Value) (env : Env) (ct elt : PySem.Expr) (x : Str) (scope : Scope) (cl : List (Str × Addr)) (Fin : Shared → List Value → List (Addr × Obj) → Prop) (xv : Value) (s₁ : Shared) : Prop :=
  ∃ va Pre l o n P news, xv = .ref va ∧ Itc prog w A l o n P va Pre ∧ Pre s₁.heap ∧ Fr h₀ L s₁.heap m ∧ News h₀ L s₁.heap news ∧ (h₀.get? l = some o ∨ (l, o) ∈ news) ∧ n ≤ sizeLine ∧
    ∀ s₂ : Shared, (∃ h, s₂ = { s₁ with heap := h }) → CompRestT prog w A h₀ L m env ct elt x scope cl s₂ (· = news) P (Fin s₂) n 0 [] news
theorem csrc_U {elt : PySem.Expr} {x : Str} {scope : Scope} {cl : List (Str × Addr)} {Fin : Shared → List Value → List (Addr × Obj) → Prop} {l va : Addr} {Pre : Heap → Prop} {o : Obj} {n : Nat} {P : Nat → Value → Prop} {news : List (Addr × Obj)} {s₁ : Shared} (J : Nat → List Value → Prop)
    (T : Itc prog w A l o n P va Pre) (hpre : Pre s₁.heap) (F : Fr h₀ L s₁.heap m) (N : News h₀ L s₁.heap news) (hsrc : h₀.get? l = some o ∨ (l, o) ∈ news) (hn : n ≤ sizeLine) (h0 : J 0 [])
    (turn : ∀ i ys v I oI C oC D m₂ h tk (E' : Value → Shared → Prop), i < n → P i v → J i ys → NsObj oC m₂ → m₂ x = some v → Fr h₀ L h m → News h₀ L h ((I, oI) :: (C, oC) :: (D, LCg.lst ys) :: news) → Off3 I C D news → ((@Ne Nat I C) ∧ (@Ne Nat I D) ∧ (@Ne Nat C D)) →
      wpAny (model prog w) A (eval elt (compEnvC scope cl C env)) (CEnd h₀ L m { s₁ with heap := h, toks := tk } I oI C oC D (LCg.lst ys) news (fun y => J (i + 1) (ys ++ [y]))) E' { s₁ with heap := h, toks := tk })
    (fin : ∀ g ys, J n ys → Fin { s₁ with heap := g } ys news) : CSrcU prog w A h₀ L m env elt x scope cl Fin (.ref va) s₁ :=
  ⟨va, Pre, l, o, n, P, news, rfl, T, hpre, F, N, hsrc, hn, by rintro s₂ ⟨g, rfl⟩; exact rest_U (s := { s₁ with heap := g }) J turn (fun ys hJ => fin g ys hJ) n 0 [] (by omega) h0⟩
theorem csrc_T {ct elt : PySem.Expr} {x : Str} {scope : Scope} {cl : List (Str × Addr)} {Fin : Shared → List Value → List (Addr × Obj) → Prop} {l va : Addr} {Pre : Heap → Prop} {o : Obj} {n : Nat} {P : Nat → Value → Prop} {news : List (Addr × Obj)} {s₁ : Shared} (J : Nat → List Value → Prop)
    (T : Itc prog w A l o n P va Pre) (hpre : Pre s₁.heap) (F : Fr h₀ L s₁.heap m) (N : News h₀ L s₁.heap news) (hsrc : h₀.get? l = some o ∨ (l, o) ∈ news) (hn : n ≤ sizeLine) (h0 : J 0 [])
    (turn : ∀ i ys v I oI C oC D m₂ h tk (E' : Value → Shared → Prop), i < n → P i v → J i ys → NsObj oC m₂ → m₂ x = some v → Fr h₀ L h m → News h₀ L h ((I, oI) :: (C, oC) :: (D, LCg.lst ys) :: news) → Off3 I C D news → ((@Ne Nat I C) ∧ (@Ne Nat I D) ∧ (@Ne Nat C D)) →
      wpAny (model prog w) A (isTrue ct (compEnvC scope cl C env) (eval ct (compEnvC scope cl C env))) (fun ok s' => if ok = true then
        wpAny (model prog w) A (eval elt (compEnvC scope cl C env)) (CEnd h₀ L m { s₁ with heap := h, toks := tk } I oI C oC D (LCg.lst ys) news (fun y => J (i + 1) (ys ++ [y]))) E' s'
        else CEnd h₀ L m { s₁ with heap := h, toks := tk } I oI C oC D (LCg.lst ys) news (fun _ => J (i + 1) ys) Value.none s') E' { s₁ with heap := h, toks := tk })
    (fin : ∀ g ys, J n ys → Fin { s₁ with heap := g } ys news) : CSrcT prog w A h₀ L m env ct elt x scope cl Fin (.ref va) s₁ :=
  ⟨va, Pre, l, o, n, P, news, rfl, T, hpre, F, N, hsrc, hn, by rintro s₂ ⟨g, rfl⟩; exact rest_T (s := { s₁ with heap := g }) J turn (fun ys hJ => fin g ys hJ) n 0 [] (by omega) h0⟩
end
section
variable {prog : Program} {w : World} {A : Around} {E : Value → Shared → Prop} {s : Shared} {h₀ : Heap} {L : Addr} {m : Str → Option Value} {env : Env}
noncomputable def CSrcL (prog : Program) (w : World) (A : Around) (h₀ : Heap) (L : Addr) (m : Str → Option Value) (env : Env) (elt : PySem.Expr) (x : Str) (scope : Scope) (cl : List (Str × Addr)) (Fin : Shared → List Value → List (Addr × Obj) → Prop) (xv : Value) (s₁ : Shared) : Prop :=
  ∃ va Pre l o n P news, ∃ S : List (Addr × Obj) → Prop, xv = .ref va ∧ Itc prog w A l o n P va Pre ∧ Pre s₁.heap ∧ Fr h₀ L s₁.heap m ∧ News h₀ L s₁.heap news ∧ (∀ nw, S nw → h₀.get? l = some o ∨ (l, o) ∈ nw) ∧ S news ∧ n ≤ sizeLine ∧
    ∀ s₂ : Shared, (∃ h, s₂ = { s₁ with heap := h }) → CompRest prog w A h₀ L m env elt x scope cl s₂ S P (Fin s₂) n 0 [] news
theorem fin_E {Q : Value → Shared → Prop} {s₁ : Shared} {D C : Addr} {h : Heap} {tk : Nat} {m' : Str → Option Value} {ys : List Value} {news' : List (Addr × Obj)} {M : Model}
    (F' : Fr h₀ L h m) (N' : News h₀ L h ((D, LCg.lst ys) :: news')) (o1 : Off1 D news') (hn : h.Ns C m') (hC₀ : h₀.get? C = none) (hCL : C ≠ L) (hCD : C ≠ D) (offC : ∀ p ∈ news', p.1 ≠ C) (fin : FinE h₀ L m s₁ Q ys news') :
    compPost M A E none Q (.ref D) C (.ok .next) { s₁ with heap := h, toks := tk } := by
  refine ⟨m', hn, fun h'' hs'' => fin D h'' tk (F'.change hs'' hCL hC₀) (fun p hp => ?_) o1⟩
  refine ⟨hs''.extBut _ _ ?_ (N' p hp).1, (N' p hp).2⟩
  rcases List.mem_cons.mp hp with rfl | hp
  · exact Ne.symm hCD
  · exact offC p hp
theorem fin_A {y : Str} {py : Pos} {Q : Flow → Shared → Prop} {s₁ : Shared} {D C : Addr} {h : Heap} {tk : Nat} {m' : Str → Option Value} {ys : List Value} {news' : List (Addr × Obj)} {M : Model} (hLe : env.locals = L)
    (hy : env.kindOf y = some .local) (hp : (env.scope.kind == .class || (env.scope.kind == .module && env.locals != env.globals)) = false)
    (F' : Fr h₀ L h m) (N' : News h₀ L h ((D, LCg.lst ys) :: news')) (o1 : Off1 D news') (hn : h.Ns C m') (hC₀ : h₀.get? C = none) (hCL : C ≠ L) (hCD : C ≠ D) (offC : ∀ p ∈ news', p.1 ≠ C) (fin : FinA h₀ L m s₁ y Q ys news') :
    compPost M A E (some (assign (.Name y py) env)) (fun _ s' => Q .next s') (.ref D) C (.ok .next) { s₁ with heap := h, toks := tk } := by
  subst hLe
  show wpAny _ A (assign (.Name y py) env (.ref D)) _ _ _
  refine wpAny_assign_Name (wpAny_storeName_local hy F'.ns (fun h₂ hn₂ hs₂ => ?_) hp)
  have hL₀ : h₀.get? env.locals = none := Heap.get?_none_of_le F'.above
  have F₂ : Fr h₀ env.locals h₂ (fun z => if z = y then some (.ref D) else m z) := ⟨hn₂, fun b o e => hs₂.extBut b o (fun q => by rw [q, hL₀] at e; cases e) (F'.keep b o e), F'.above⟩
  refine ⟨m', hn.sameBut hs₂ hCL, fun h'' hs'' => fin D h'' _ (F₂.change hs'' hCL hC₀) (fun p hp => ?_) o1⟩
  have z : h₂.get? p.1 = some p.2 := hs₂.extBut _ _ (N' p hp).2.1 (N' p hp).1
  refine ⟨hs''.extBut _ _ ?_ z, (N' p hp).2⟩
  rcases List.mem_cons.mp hp with rfl | hp
  · exact Ne.symm hCD
  · exact offC p hp
theorem core_L {elt iter : PySem.Expr} {x : Str} {px : Pos} {scope : Scope} {cl : List (Str × Addr)} {pos : Pos} {Fin : Shared → List Value → List (Addr × Obj) → Prop} {RR : Value → Addr → Result → Shared → Prop} {xv : Value} {s₁ : Shared}
    (hcell : ∀ y ∈ scope.names, y.2 ≠ .cell) (hkind : scope.kind = .function) (hx : scope.names.lookup x = some .local) (h₁ : CSrcL prog w A h₀ L m env elt x scope cl Fin xv s₁)
    (hRR : ∀ g D C h tk m' ys news', Fr h₀ L h m → News h₀ L h ((D, LCg.lst ys) :: news') → Off1 D news' → h.Ns C m' → h₀.get? C = none → C ≠ L → C ≠ D → (∀ p ∈ news', p.1 ≠ C) → Fin { s₁ with heap := g } ys news' → RR (.ref D) C (.ok .next) { s₁ with heap := h, toks := tk }) :
    wpAny (model prog w) A (pyIter xv) (fun it s₂ => wpAny (model prog w) A (newList []) (fun acc s₃ => wpAny (model prog w) A (newFunctionEnv scope env.globals cl [] env.qual none .none (some env)) (fun cenv s₄ =>
      codeAny (model prog w) A (.compStart (.ListComp elt [⟨.Name x px, iter, [], 0⟩] scope pos) 0 it acc { cenv with scope := relabel scope env }) (RR acc cenv.locals) s₄) E s₃) E s₂) E s₁ := by
  obtain ⟨va, Pre, l, o, n, P, news, S, rfl, T, hpre, F, N, hsrc, hS0, hsz, R⟩ := h₁
  obtain ⟨it0, hfr, iter', walks⟩ := T.out
  have hls : s₁.heap.get? l = some o := (hsrc _ hS0).elim (fun e => F.keep _ _ e) fun e => (N _ e).1
  have hlt : l < s₁.heap.objs.size := Heap.lt_size hls
  obtain ⟨St, W, hIo, hres, hst⟩ := walks s₁.heap.objs.size (Nat.ne_of_lt hlt)
  refine iter' s₁ _ _ hls hpre ?_
  have up : ∀ b o, s₁.heap.get? b = some o → (s₁.heap.push it0).get? b = some o := fun b o e => Heap.get?_push_of_some _ e
  refine LCg.block_U (S := S) W hsz hIo (fun i h h' oI nw st e e' k N' hS => hres i h h' oI st e e' ?_) hcell hkind hx (hst _ (up _ _ hls) (Heap.get?_push_size _ hfr)) (fun b hb => ?_)
    (F.keeps up) (N.grown up) (Nat.ne_of_lt F.ns.lt) (next_is_new F) (fun p hp => Nat.ne_of_lt (Heap.lt_size (N p hp).1)) hS0 (R _ ⟨_, rfl⟩) ?_
  · exact (hsrc _ hS).elim (fun q => k _ _ q) fun q => (N' _ q).1
  · show b < (s₁.heap.push _).objs.size
    rw [Heap.size_push]
    rcases List.mem_cons.mp hb with rfl | hb
    · exact Nat.lt_succ_self _
    · rw [List.mem_singleton.mp hb]; exact Nat.lt_succ_of_lt hlt
  · intro D C h tk m' ys news' F' N' o1 hn hC₀ hD₀ hCL hDL hCD offC fin
    exact hRR _ D C h tk m' ys news' F' N' o1 hn hC₀ hCL hCD offC fin
theorem src_UL {elt : PySem.Expr} {x : Str} {scope : Scope} {cl : List (Str × Addr)} {Fin : Shared → List Value → List (Addr × Obj) → Prop} {xv : Value} {s₁ : Shared} (h : CSrcU prog w A h₀ L m env elt x scope cl Fin xv s₁) : CSrcL prog w A h₀ L m env elt x scope cl Fin xv s₁ :=
  by obtain ⟨va, Pre, l, o, n, P, news, e, T, hpre, F, N, hsrc, hsz, R⟩ := h; exact ⟨va, Pre, l, o, n, P, news, (· = news), e, T, hpre, F, N, (fun _ q => q ▸ hsrc), rfl, hsz, R⟩
theorem comp_EL {elt iter : PySem.Expr} {x : Str} {px : Pos} {scope : Scope} {cl : List (Str × Addr)} {pos : Pos} {Q : Value → Shared → Prop} (F₀ : Fr h₀ L s.heap m)
    (hclos : closureFor scope env = pure cl) (hcell : ∀ y ∈ scope.names, y.2 ≠ .cell) (hkind : scope.kind = .function)
    (hnames : ∀ y ∈ scope.names, y.2 = .local → scope.names.lookup y.1 = some .local) (hx : scope.names.lookup x = some .local)
    (h : wpAny (model prog w) A (eval iter env) (CSrcL prog w A h₀ L m env elt x scope cl (fun s₂ => FinE h₀ L m s₂ Q)) E s)
    (hs : ∀ x, foldedSetIterable iter env x = pure x := by intro _; rfl) :
    wpAny (model prog w) A (eval (.ListComp elt [⟨.Name x px, iter, [], 0⟩] scope pos) env) Q E s := by
  rw [eval_ListComp]
  exact wpAny_comprehension_free (use := none) rfl hs hclos hkind hnames (wpAny_mono h (fun xv s₁ h₁ => core_L hcell hkind hx h₁ fun g D C h tk m' ys news' F' N' o1 hn hC₀ hCL hCD offC fin => fin_E F' N' o1 hn hC₀ hCL hCD offC fin) fun _ _ e => e)
theorem comp_AL {elt iter : PySem.Expr} {x y : Str} {px py : Pos} {scope : Scope} {cl : List (Str × Addr)} {pos spos : Pos} {Q : Flow → Shared → Prop} (F₀ : Fr h₀ L s.heap m) (hLe : env.locals = L)
    (hsw : swapsWith (.ListComp elt [⟨.Name x px, iter, [], 0⟩] scope pos) (some (.Name y py)) spos.line env = pure true)
    (hclos : closureFor scope env = pure cl) (hcell : ∀ z ∈ scope.names, z.2 ≠ .cell) (hkind : scope.kind = .function)
    (hnames : ∀ z ∈ scope.names, z.2 = .local → scope.names.lookup z.1 = some .local) (hx : scope.names.lookup x = some .local)
    (hy : env.kindOf y = some .local) (hp : (env.scope.kind == .class || (env.scope.kind == .module && env.locals != env.globals)) = false)
    (h : wpAny (model prog w) A (eval iter env) (CSrcL prog w A h₀ L m env elt x scope cl (fun s₂ => FinA h₀ L m s₂ y Q)) E s)
    (hs : ∀ x, foldedSetIterable iter env x = pure x := by intro _; rfl) :
    wpAny (model prog w) A (exec (.Assign [.Name y py] (.ListComp elt [⟨.Name x px, iter, [], 0⟩] scope pos) spos) env) Q E s := by
  rw [exec_Assign_Name_used _ _ _ _ hsw]
  refine wpAny_bind (wpAny_standAt (wpAny_bind ?_))
  show wpAny _ A (do let _ ← comprehension (.ListComp elt [⟨.Name x px, iter, [], 0⟩] scope pos) scope env _ (newList []) false (eval iter env) (some (assign (.Name y py) env))) _ _ s
  exact wpAny_bind (wpAny_mono (wpAny_comprehension_free (use := some (assign (.Name y py) env)) (Q := fun _ s' => Q .next s') rfl hs hclos hkind hnames
    (wpAny_mono h (fun xv s₁ h₁ => core_L hcell hkind hx h₁ fun g D C h tk m' ys news' F' N' o1 hn hC₀ hCL hCD offC fin => fin_A hLe hy hp F' N' o1 hn hC₀ hCL hCD offC fin) fun _ _ e => e)) (fun _ s' hq => wpAny_pure (wpAny_pure hq)) fun _ _ e => e)
theorem comp_EU {elt iter : PySem.Expr} {x : Str} {px : Pos} {scope : Scope} {cl : List (Str × Addr)} {pos : Pos} {Q : Value → Shared → Prop} (F₀ : Fr h₀ L s.heap m)
    (hclos : closureFor scope env = pure cl) (hcell : ∀ y ∈ scope.names, y.2 ≠ .cell) (hkind : scope.kind = .function)
    (hnames : ∀ y ∈ scope.names, y.2 = .local → scope.names.lookup y.1 = some .local) (hx : scope.names.lookup x = some .local)
    (h : wpAny (model prog w) A (eval iter env) (CSrcU prog w A h₀ L m env elt x scope cl (fun s₂ => FinE h₀ L m s₂ Q)) E s)
    (hs : ∀ x, foldedSetIterable iter env x = pure x := by intro _; rfl) :
    wpAny (model prog w) A (eval (.ListComp elt [⟨.Name x px, iter, [], 0⟩] scope pos) env) Q E s :=
  comp_EL F₀ hclos hcell hkind hnames hx (wpAny_mono h (fun _ _ q => src_UL q) fun _ _ e => e) hs
theorem comp_AU {elt iter : PySem.Expr} {x y : Str} {px py : Pos} {scope : Scope} {cl : List (Str × Addr)} {pos spos : Pos} {Q : Flow → Shared → Prop} (F₀ : Fr h₀ L s.heap m) (hLe : env.locals = L)
    (hsw : swapsWith (.ListComp elt [⟨.Name x px, iter, [], 0⟩] scope pos) (some (.Name y py)) spos.line env = pure true)
    (hclos : closureFor scope env = pure cl) (hcell : ∀ z ∈ scope.names, z.2 ≠ .cell) (hkind : scope.kind = .function)
    (hnames : ∀ z ∈ scope.names, z.2 = .local → scope.names.lookup z.1 = some .local) (hx : scope.names.lookup x = some .local)
    (hy : env.kindOf y = some .local) (hp : (env.scope.kind == .class || (env.scope.kind == .module && env.locals != env.globals)) = false)
    (h : wpAny (model prog w) A (eval iter env) (CSrcU prog w A h₀ L m env elt x scope cl (fun s₂ => FinA h₀ L m s₂ y Q)) E s)
    (hs : ∀ x, foldedSetIterable iter env x = pure x := by intro _; rfl) :
    wpAny (model prog w) A (exec (.Assign [.Name y py] (.ListComp elt [⟨.Name x px, iter, [], 0⟩] scope pos) spos) env) Q E s :=
  comp_AL F₀ hLe hsw hclos hcell hkind hnames hx hy hp (wpAny_mono h (fun _ _ q => src_UL q) fun _ _ e => e) hs
theorem core_T {ct elt iter : PySem.Expr} {x : Str} {px : Pos} {scope : Scope} {cl : List (Str × Addr)} {pos : Pos} {Fin : Shared → List Value → List (Addr × Obj) → Prop} {RR : Value → Addr → Result → Shared → Prop} {xv : Value} {s₁ : Shared}
    (hcell : ∀ y ∈ scope.names, y.2 ≠ .cell) (hkind : scope.kind = .function) (hx : scope.names.lookup x = some .local) (h₁ : CSrcT prog w A h₀ L m env ct elt x scope cl Fin xv s₁)
    (hRR : ∀ g D C h tk m' ys news', Fr h₀ L h m → News h₀ L h ((D, LCg.lst ys) :: news') → Off1 D news' → h.Ns C m' → h₀.get? C = none → C ≠ L → C ≠ D → (∀ p ∈ news', p.1 ≠ C) → Fin { s₁ with heap := g } ys news' → RR (.ref D) C (.ok .next) { s₁ with heap := h, toks := tk }) :
    wpAny (model prog w) A (pyIter xv) (fun it s₂ => wpAny (model prog w) A (newList []) (fun acc s₃ => wpAny (model prog w) A (newFunctionEnv scope env.globals cl [] env.qual none .none (some env)) (fun cenv s₄ =>
      codeAny (model prog w) A (.compStart (.ListComp elt [⟨.Name x px, iter, [ct], 0⟩] scope pos) 0 it acc { cenv with scope := relabel scope env }) (RR acc cenv.locals) s₄) E s₃) E s₂) E s₁ := by
  obtain ⟨va, Pre, l, o, n, P, news, rfl, T, hpre, F, N, hsrc, hsz, R⟩ := h₁
  obtain ⟨it0, hfr, iter', walks⟩ := T.out
  have hls : s₁.heap.get? l = some o := hsrc.elim (fun e => F.keep _ _ e) fun e => (N _ e).1
  have hlt : l < s₁.heap.objs.size := Heap.lt_size hls
  obtain ⟨St, W, hIo, hres, hst⟩ := walks s₁.heap.objs.size (Nat.ne_of_lt hlt)
  refine iter' s₁ _ _ hls hpre ?_
  have up : ∀ b o, s₁.heap.get? b = some o → (s₁.heap.push it0).get? b = some o := fun b o e => Heap.get?_push_of_some _ e
  refine LCt.block_T (S := fun nw => nw = news) W hsz hIo (fun i h h' oI nw st e e' k N' hS => hres i h h' oI st e e' ?_) hcell hkind hx (hst _ (up _ _ hls) (Heap.get?_push_size _ hfr)) (fun b hb => ?_)
    (F.keeps up) (N.grown up) (Nat.ne_of_lt F.ns.lt) (next_is_new F) (fun p hp => Nat.ne_of_lt (Heap.lt_size (N p hp).1)) rfl (R _ ⟨_, rfl⟩) ?_
  · subst hS
    exact hsrc.elim (fun q => k _ _ q) fun q => (N' _ q).1
  · show b < (s₁.heap.push _).objs.size
    rw [Heap.size_push]
    rcases List.mem_cons.mp hb with rfl | hb
    · exact Nat.lt_succ_self _
    · rw [List.mem_singleton.mp hb]; exact Nat.lt_succ_of_lt hlt
  · intro D C h tk m' ys news' F' N' o1 hn hC₀ hD₀ hCL hDL hCD offC fin
    exact hRR _ D C h tk m' ys news' F' N' o1 hn hC₀ hCL hCD offC fin
theorem comp_ET {ct elt iter : PySem.Expr} {x : Str} {px : Pos} {scope : Scope} {cl : List (Str × Addr)} {pos : Pos} {Q : Value → Shared → Prop} (F₀ : Fr h₀ L s.heap m)
    (hclos : closureFor scope env = pure cl) (hcell : ∀ y ∈ scope.names, y.2 ≠ .cell) (hkind : scope.kind = .function)
    (hnames : ∀ y ∈ scope.names, y.2 = .local → scope.names.lookup y.1 = some .local) (hx : scope.names.lookup x = some .local)
    (h : wpAny (model prog w) A (eval iter env) (CSrcT prog w A h₀ L m env ct elt x scope cl (fun s₂ => FinE h₀ L m s₂ Q)) E s)
    (hs : ∀ x, foldedSetIterable iter env x = pure x := by intro _; rfl) :
    wpAny (model prog w) A (eval (.ListComp elt [⟨.Name x px, iter, [ct], 0⟩] scope pos) env) Q E s := by
  rw [eval_ListComp]
  exact wpAny_comprehension_free (use := none) rfl hs hclos hkind hnames (wpAny_mono h (fun xv s₁ h₁ => core_T hcell hkind hx h₁ fun g D C h tk m' ys news' F' N' o1 hn hC₀ hCL hCD offC fin => fin_E F' N' o1 hn hC₀ hCL hCD offC fin) fun _ _ e => e)
theorem comp_AT {ct elt iter : PySem.Expr} {x y : Str} {px py : Pos} {scope : Scope} {cl : List (Str × Addr)} {pos spos : Pos} {Q : Flow → Shared → Prop} (F₀ : Fr h₀ L s.heap m) (hLe : env.locals = L)
    (hsw : swapsWith (.ListComp elt [⟨.Name x px, iter, [ct], 0⟩] scope pos) (some (.Name y py)) spos.line env = pure true)
    (hclos : closureFor scope env = pure cl) (hcell : ∀ z ∈ scope.names, z.2 ≠ .cell) (hkind : scope.kind = .function)
    (hnames : ∀ z ∈ scope.names, z.2 = .local → scope.names.lookup z.1 = some .local) (hx : scope.names.lookup x = some .local)
    (hy : env.kindOf y = some .local) (hp : (env.scope.kind == .class || (env.scope.kind == .module && env.locals != env.globals)) = false)
    (h : wpAny (model prog w) A (eval iter env) (CSrcT prog w A h₀ L m env ct elt x scope cl (fun s₂ => FinA h₀ L m s₂ y Q)) E s)
    (hs : ∀ x, foldedSetIterable iter env x = pure x := by intro _; rfl) :
    wpAny (model prog w) A (exec (.Assign [.Name y py] (.ListComp elt [⟨.Name x px, iter, [ct], 0⟩] scope pos) spos) env) Q E s := by
  rw [exec_Assign_Name_used _ _ _ _ hsw]
  refine wpAny_bind (wpAny_standAt (wpAny_bind ?_))
  show wpAny _ A (do let _ ← comprehension (.ListComp elt [⟨.Name x px, iter, [ct], 0⟩] scope pos) scope env _ (newList []) false (eval iter env) (some (assign (.Name y py) env))) _ _ s
  exact wpAny_bind (wpAny_mono (wpAny_comprehension_free (use := some (assign (.Name y py) env)) (Q := fun _ s' => Q .next s') rfl hs hclos hkind hnames
    (wpAny_mono h (fun xv s₁ h₁ => core_T hcell hkind hx h₁ fun g D C h tk m' ys news' F' N' o1 hn hC₀ hCL hCD offC fin => fin_A hLe hy hp F' N' o1 hn hC₀ hCL hCD offC fin) fun _ _ e => e)) (fun _ s' hq => wpAny_pure (wpAny_pure hq)) fun _ _ e => e)
end

end
noncomputable def frd : Obj := { cls := .none, data := .freed }
noncomputable def minus (h : Heap) (l : List Addr) : Heap := ⟨h.objs.mapIdx fun i o => if i ∈ l then frd else o, h.life⟩
theorem minus_get (h : Heap) (l : List Addr) (a : Addr) : (minus h l).get? a = if a ∈ l then none else h.get? a := by
  unfold minus Heap.get?
  simp only [Array.getElem?_mapIdx]
  by_cases ha : a ∈ l
  · rw [if_pos ha]
    cases h.objs[a]? with
    | none => rfl
    | some o => simp only [Option.map_some, if_pos ha]; rfl
  · rw [if_neg ha]
    cases h.objs[a]? with
    | none => rfl
    | some o => simp only [Option.map_some, if_neg ha]
theorem minus_size (h : Heap) (l : List Addr) : (minus h l).objs.size = h.objs.size := by simp [minus]
theorem minus_ext (h : Heap) (l : List Addr) : Ext (minus h l) h := fun b o e => by
  rw [minus_get] at e
  split at e
  · cases e
  · exact e
noncomputable def Mut (w : World) (f : Addr) (args : List Value) (n : Nat) (led : List (Addr × Obj)) (pre : Prop) (P : Value → List (Addr × Obj) → Prop) : Prop :=
  ∀ (A : Around) (R : Result → Shared → Prop) (s : Shared) (g : Heap), Gd w g → Ext g s.heap → (∀ p ∈ led, s.heap.get? p.1 = some p.2 ∧ g.get? p.1 = none) → Rm A n → pre →
    (∀ v h' tk' led', (∀ b o, s.heap.get? b = some o → (∀ p ∈ led, p.1 ≠ b) → h'.get? b = some o) → (∀ p ∈ led', h'.get? p.1 = some p.2 ∧ (s.heap.get? p.1 = none ∨ ∃ q ∈ led, q.1 = p.1)) → P v led' → R (.ok (.ret v)) { s with heap := h', toks := tk' }) →
    codeAny (model prg w) A (.call (.ref f) ⟨args, []⟩) R s
theorem mut_of {w : World} {f : Addr} {args : List Value} {n : Nat} {led : List (Addr × Obj)} {pre : Prop} {P : Value → List (Addr × Obj) → Prop}
    (h : ∀ (A : Around) (R : Result → Shared → Prop) (s0 : Heap) (gs : Array GenState) (dr : Drawn) (tk0 : Nat) (os : OsState) (b : Heap), Gd w b → Ext b s0 → b.objs.size ≤ s0.objs.size → (∀ p ∈ led, s0.get? p.1 = some p.2 ∧ b.get? p.1 = none) → Rm A n → pre →
      (∀ v h' tk' led', Ext b h' → (∀ p ∈ led', h'.get? p.1 = some p.2 ∧ b.get? p.1 = none) → P v led' → R (.ok (.ret v)) ⟨h', gs, dr, tk', os⟩) →
      codeAny (model prg w) A (.call (.ref f) ⟨args, []⟩) R ⟨s0, gs, dr, tk0, os⟩) : Mut w f args n led pre P := by
  intro A Q s g G hg hled R hp ret
  refine h A Q s.heap s.gens s.drawn s.toks s.os (minus s.heap (led.map (·.1))) (G.keeps fun b o e => ?_) (minus_ext _ _) (Nat.le_of_eq (minus_size _ _)) (fun p hp => ⟨(hled p hp).1, ?_⟩) R hp (fun v h' tk' led' e hl p => ret v h' tk' led' (fun b o eb hb => e b o ?_) (fun p hp => ⟨(hl p hp).1, ?_⟩) p)
  · rw [minus_get, if_neg]
    · exact hg b o e
    · intro hm
      obtain ⟨p, hp, rfl⟩ := List.mem_map.mp hm
      rw [(hled p hp).2] at e; cases e
  · rw [minus_get, if_pos (List.mem_map.mpr ⟨p, hp, rfl⟩)]
  · rw [minus_get, if_neg, eb]
    intro hm
    obtain ⟨p, hp, rfl⟩ := List.mem_map.mp hm
    exact hb p hp rfl
  · have := (hl p hp).2
    rw [minus_get] at this
    split at this
    · rename_i hm
      obtain ⟨q, hq, e⟩ := List.mem_map.mp hm
      exact .inr ⟨q, hq, e⟩
    · exact .inl this
theorem enterM {w : World} {A : Around} {f : Addr} {args : List Value} {Q : Result → Shared → Prop} {s0 : Heap} {gs : Array GenState} {dr : Drawn} {tk0 : Nat} {os : OsState} {g : Heap} {led : List (Addr × Obj)}
    {name qual : Str} {params : Arguments} {body : List Stmt} {scope : Scope} {dV kV doc pm cdv ct oc : Value} {an od : Option Addr} {osl : Array (Option Value)} {binds : List (Str × Value)}
    (G : Gd w g) (hg : Ext g s0) (hsz : g.objs.size ≤ s0.objs.size) (hled : ∀ p ∈ led, s0.get? p.1 = some p.2 ∧ g.get? p.1 = none) (R : Rm A 1)
    (ho : (hd.heap_39 w.params).lookup f = some ⟨oc, od, .func (fnOf name qual params body scope dV kV doc pm an cdv ct), osl⟩) (hcd : codeIn (hd.heap_39 w.params) cdv qual = true)
    (hbind : BindsTo ⟨s0, gs, dr, tk0, os⟩ (fnOf name qual params body scope dV kV doc pm an cdv ct) ⟨args, []⟩ binds) (hloc : ∀ y ∈ binds, scope.names.lookup y.1 = some .local)
    (hco : scope.isCoroutine = false) (hgen : scope.isGenerator = false) (hk : scope.kind = .function)
    (hcell : ∀ x ∈ scope.names, x.2 ≠ .cell)
    (h : ∀ L h₁, Fr g L h₁ (fun y => binds.reverse.lookup y) → News g L h₁ led → (∀ p ∈ led, p.1 < L) → L = s0.objs.size → Ext s0 h₁ →
      let A1 := A.deeper (envOf qual scope L f cdv); wpAny (model prg w) A1 (execs body (envOf qual scope L f cdv))
        (fun fl s' => Q (.ok (.ret (retOf fl))) s') (fun _ _ => False) ⟨h₁, gs, dr, tk0 + binds.length, os⟩) :
    codeAny (model prg w) A (.call (.ref f) ⟨args, []⟩) Q ⟨s0, gs, dr, tk0, os⟩ := by
  have G' := G.keeps hg
  obtain ⟨mean, mg, mb, T⟩ := G'.T
  refine codeAny_call_def (fd := fnOf name qual params body scope dV kV doc pm an cdv ct) (body := body) (binds := binds) (by have := R.dp; show A.depth < 1000; omega) (G'.X _ _ ho) rfl T.nolimit (codeRec_of G'.X hcd) rfl hbind hcell hloc (fun h₁ hns hk₁ => ?_) hco hgen hk
  exact wpAny_mono (h s0.objs.size h₁ ⟨hns, fun b o e => hk₁ b o (hg b o e), hsz⟩ (fun p hp => ⟨hk₁ _ _ (hled p hp).1, Nat.ne_of_lt (Heap.lt_size (hled p hp).1), (hled p hp).2⟩) (fun p hp => Heap.lt_size (hled p hp).1) rfl hk₁) (fun fl s' q => q) fun _ _ q => q.elim
theorem enterMV {w : World} {A : Around} {f : Addr} {args vs : List Value} {Q : Result → Shared → Prop} {s0 : Heap} {gs : Array GenState} {dr : Drawn} {tk0 : Nat} {os : OsState} {g : Heap} {led : List (Addr × Obj)}
    {name qual : Str} {params : Arguments} {body : List Stmt} {scope : Scope} {dV kV doc pm cdv ct oc : Value} {an od : Option Addr} {osl : Array (Option Value)} {binds : List (Str × Value)} {va : Str}
    (G : Gd w g) (hg : Ext g s0) (hsz : g.objs.size ≤ s0.objs.size) (hled : ∀ p ∈ led, s0.get? p.1 = some p.2 ∧ g.get? p.1 = none) (R : Rm A 1)
    (ho : (hd.heap_39 w.params).lookup f = some ⟨oc, od, .func (fnOf name qual params body scope dV kV doc pm an cdv ct), osl⟩) (hcd : codeIn (hd.heap_39 w.params) cdv qual = true)
    (hbind : bindArgs (fnOf name qual params body scope dV kV doc pm an cdv ct) ⟨args, []⟩ = (newTuple vs >>= fun t => pure (binds ++ [(va, t)])))
    (hvs : vs.length ≤ sizeLine)
    (hloc : ∀ y ∈ binds, scope.names.lookup y.1 = some .local) (hlv : scope.names.lookup va = some .local)
    (hco : scope.isCoroutine = false) (hgen : scope.isGenerator = false) (hk : scope.kind = .function)
    (hcell : ∀ x ∈ scope.names, x.2 ≠ .cell)
    (h : ∀ L V h₁ tk, Fr g L h₁ (fun y => (binds ++ [(va, Value.ref V)]).reverse.lookup y) → News g L h₁ ((V, { cls := .type "tuple", data := .seq vs.toArray }) :: led) → L = s0.objs.size + 1 → V = s0.objs.size → (∀ p ∈ led, p.1 < V) → V < L → Ext s0 h₁ →
      let A1 := A.deeper (envOf qual scope L f cdv); wpAny (model prg w) A1 (execs body (envOf qual scope L f cdv))
        (fun fl s' => Q (.ok (.ret (retOf fl))) s') (fun _ _ => False) ⟨h₁, gs, dr, tk, os⟩) :
    codeAny (model prg w) A (.call (.ref f) ⟨args, []⟩) Q ⟨s0, gs, dr, tk0, os⟩ := by
  have G' := G.keeps hg
  obtain ⟨mean, mg, mb, T⟩ := G'.T
  refine codeAny_call_function (by have := R.dp; show A.depth < 1000; omega) (G'.X _ _ ho) rfl hco hgen rfl (codeRec_of G'.X hcd) ?_
  rw [hbind]
  refine wpAny_bind (wpAny_newObj_type (wpAny_pure ?_) (by show vs.toArray.size ≤ sizeLine; rw [List.size_toArray]; exact hvs))
  have hsz' : (s0.push { cls := .type "tuple", dict := none, data := .seq vs.toArray }).objs.size = s0.objs.size + 1 := Heap.size_push _ _
  have up : Ext s0 (s0.push { cls := .type "tuple", dict := none, data := .seq vs.toArray }) := fun b o e => Heap.get?_push_of_some _ e
  refine wpAny_newFunctionEnv hcell (fun x hx => ?_) (fun h₁ hns hsb => ⟨?_, ?_⟩) hk
  · rcases List.mem_append.mp hx with hx | hx
    · exact hloc x hx
    · rw [List.mem_singleton.mp hx]; exact hlv
  · exact (T.nolimit.keeps up).fresh _ hsb
  · have hk₁ : Ext s0 h₁ := fun b o e => hsb.extBut b o (Nat.ne_of_lt (by rw [hsz']; exact Nat.lt_succ_of_lt (Heap.lt_size e))) (Heap.get?_push_of_some _ (up b o e))
    have hV : h₁.get? s0.objs.size = some { cls := .type "tuple", data := .seq vs.toArray } :=
      hsb.extBut _ _ (Nat.ne_of_lt (by rw [hsz']; exact Nat.lt_succ_self _)) (Heap.get?_push_of_some _ (Heap.get?_push_size _ rfl))
    rw [hsz'] at hns ⊢
    have hgV : g.get? s0.objs.size = none := by
      cases e : g.get? s0.objs.size with
      | none => rfl
      | some o => exact absurd (Heap.lt_size (hg _ _ e)) (Nat.lt_irrefl _)
    refine codeAny_func ?_
    refine wpAny_mono (h (s0.objs.size + 1) s0.objs.size h₁ _ ⟨hns, fun b o e => hk₁ b o (hg b o e), Nat.le_succ_of_le hsz⟩ (fun p hp => ?_) rfl rfl (fun p hp => Heap.lt_size (hled p hp).1) (Nat.lt_succ_self _) hk₁) (fun fl s' q => q) fun _ _ q => q.elim
    rcases List.mem_cons.mp hp with rfl | hp
    · exact ⟨hV, Nat.ne_of_lt (Nat.lt_succ_self _), hgV⟩
    · exact ⟨hk₁ _ _ (hled p hp).1, Nat.ne_of_lt (Nat.lt_succ_of_lt (Heap.lt_size (hled p hp).1)), (hled p hp).2⟩
section
variable {w : World} {A : Around} {Q E : Value → Shared → Prop} {RR : Result → Shared → Prop} {s : Shared} {h₀ : Heap} {L : Addr} {m mg mb : Str → Option Value} {mean : ExcName → Option Value} {led rest news : List (Addr × Obj)} {f : Addr} {args : List Value} {n : Nat} {pre : Prop} {P : Value → List (Addr × Obj) → Prop}
theorem use_mutC (S : Mut w f args n led pre P) (F : Fr h₀ L s.heap m) (N : News h₀ L s.heap (led ++ rest)) (off : ∀ p ∈ rest, ∀ q ∈ led, q.1 ≠ p.1) (X : (hd.heap_39 w.params).In h₀) (T : Top vw lo mean mg mb h₀) (R : Rm A n) (hp : pre)
    (k : ∀ v h' tk' led', Fr h₀ L h' m → News h₀ L h' (led' ++ rest) → (∀ p ∈ rest, ∀ q ∈ led', q.1 ≠ p.1) → P v led' → RR (.ok (.ret v)) { s with heap := h', toks := tk' }) :
    codeAny (model prg w) A (.call (.ref f) ⟨args, []⟩) RR s := by
  obtain ⟨oL, hoL, hnL⟩ : ∃ o, s.heap.get? L = some o ∧ True := by obtain ⟨o, _, _, ho, _⟩ := F.ns; exact ⟨o, ho, trivial⟩
  have nL : ∀ p ∈ led, p.1 ≠ L := fun p hp => (N p (List.mem_append_left _ hp)).2.1
  have n0 : ∀ p ∈ led, h₀.get? p.1 = none := fun p hp => (N p (List.mem_append_left _ hp)).2.2
  refine S A RR s h₀ ⟨X, mean, mg, mb, T⟩ F.keep (fun p hp => ⟨(N p (List.mem_append_left _ hp)).1, n0 p hp⟩) R hp fun v h' tk' led' keep hl p => ?_
  have new : ∀ p ∈ led', ∀ b o, s.heap.get? b = some o → (∀ q ∈ led, q.1 ≠ b) → p.1 ≠ b := fun p hp b o e hb q => by
    rcases (hl p hp).2 with h | ⟨r, hr, h⟩
    · rw [q, e] at h; cases h
    · exact hb r hr (h.trans q)
  refine k v h' tk' led' ⟨F.ns.at' fun o e => keep _ _ e nL, fun b o e => keep b o (F.keep b o e) fun p hp q => ?_, F.above⟩ (fun p hp => ?_) (fun p hp q hq => ?_) p
  · have := n0 p hp; rw [q, e] at this; cases this
  · rcases List.mem_append.mp hp with hp | hp
    · refine ⟨(hl p hp).1, new p hp L oL hoL nL, ?_⟩
      cases q : h₀.get? p.1 with
      | none => rfl
      | some o => exact absurd rfl (new p hp p.1 o (F.keep _ _ q) fun r hr q' => by have := n0 r hr; rw [q', q] at this; cases this)
    · exact ⟨keep _ _ (N p (List.mem_append_right _ hp)).1 (fun q hq => off p hp q hq), (N p (List.mem_append_right _ hp)).2⟩
  · exact new q hq p.1 p.2 (N p (List.mem_append_right _ hp)).1 (off p hp)
theorem use_mut (S : Mut w f args n led pre P) (F : Fr h₀ L s.heap m) (N : News h₀ L s.heap (led ++ rest)) (off : ∀ p ∈ rest, ∀ q ∈ led, q.1 ≠ p.1) (X : (hd.heap_39 w.params).In h₀) (T : Top vw lo mean mg mb h₀) (R : Rm A n) (hp : pre)
    (k : ∀ v h' tk' led', Fr h₀ L h' m → News h₀ L h' (led' ++ rest) → (∀ p ∈ rest, ∀ q ∈ led', q.1 ≠ p.1) → P v led' → Q v { s with heap := h', toks := tk' }) :
    wpAny (model prg w) A (call (.ref f) args) Q E s := wpAny_call (use_mutC S F N off X T R hp fun v h' tk' led' F' N' o p => k v h' tk' led' F' N' o p)
end
theorem Rm.under {A : Around} {C : Addr} {vs : List Value} {n : Nat} (R : Rm A (n + 1)) : Rm (A.under (.builtin "type.__call__" ⟨.ref C :: vs, []⟩)) n :=
  ⟨R.hh, by have := R.dp; show A.depth + 1 + n < 1000; omega, by have := R.un; show A.units + 1 + 20 * n < 9900; omega⟩

theorem enterMC {w : World} {A : Around} {f : Addr} {args : List Value} {Q : Result → Shared → Prop} {s0 : Heap} {gs : Array GenState} {dr : Drawn} {tk0 : Nat} {os : OsState} {g : Heap} {led : List (Addr × Obj)}
    {name qual : Str} {params : Arguments} {body : List Stmt} {scope : Scope} {dV kV doc pm cdv ct oc : Value} {an od : Option Addr} {osl : Array (Option Value)} {binds : List (Str × Value)}
    (G : Gd w g) (hg : Ext g s0) (hsz : g.objs.size ≤ s0.objs.size) (hled : ∀ p ∈ led, s0.get? p.1 = some p.2 ∧ g.get? p.1 = none) (R : Rm A 1)
    (ho : (hd.heap_39 w.params).lookup f = some ⟨oc, od, .func (fnOf name qual params body scope dV kV doc pm an cdv ct), osl⟩) (hcd : codeIn (hd.heap_39 w.params) cdv qual = true)
    (hbind : BindsTo ⟨s0, gs, dr, tk0, os⟩ (fnOf name qual params body scope dV kV doc pm an cdv ct) ⟨args, []⟩ binds) (hkind : (binds.all fun y => scope.names.lookup y.1 == some .local || scope.names.lookup y.1 == some .cell) = true)
    (hnd : ((cellsFrom 0 scope.names []).map (·.1)).Nodup)
    (hco : scope.isCoroutine = false) (hgen : scope.isGenerator = false) (hk : scope.kind = .function)
    (h : ∀ L h₁ tk cells, Fr g L h₁ (bindL (envOfC qual scope L f cdv).kindOf binds fun _ => none) → News g L h₁ (cells ++ led) → CellsAre (bindC (envOfC qual scope L f cdv).kindOf binds fun _ => none) (cellsFrom (L + 1) scope.names []) cells → (∀ p ∈ led, p.1 < L) → L = s0.objs.size → Ext s0 h₁ →
      let A1 := A.deeper (envOfC qual scope L f cdv); wpAny (model prg w) A1 (execs body (envOfC qual scope L f cdv))
        (fun fl s' => Q (.ok (.ret (retOf fl))) s') (fun _ _ => False) ⟨h₁, gs, dr, tk, os⟩) :
    codeAny (model prg w) A (.call (.ref f) ⟨args, []⟩) Q ⟨s0, gs, dr, tk0, os⟩ := by
  have G' := G.keeps hg
  obtain ⟨mean, mg, mb, T⟩ := G'.T
  refine codeAny_call_function (by have := R.dp; show A.depth < 1000; omega) (G'.X _ _ ho) rfl hco hgen rfl (codeRec_of G'.X hcd) (hbind _ _ _ _ ?_)
  refine wpAny_newFunctionEnv_cells hk (kindsX hkind _) fun env' he s' x => ?_
  subst he
  refine ⟨T.nolimit.keeps x.toInCall.keep, codeAny_func ?_⟩
  obtain ⟨h₁, tk, rfl, _⟩ := x.done
  have hk₁ := x.toInCall.keep
  obtain ⟨cells, NC, Y⟩ := Cl.news (h₀ := s0) (Nat.le_refl _) fun n c hm => ⟨x.cell n c (lookup_of_mem_nodup (cellsFrom_names scope.names 0 (s0.objs.size + 1) [] [] rfl ▸ hnd) hm), x.above n c hm⟩
  refine wpAny_mono (h s0.objs.size h₁ tk cells ⟨x.toInCall.ns, fun b o e => hk₁ b o (hg b o e), hsz⟩ (fun p hp => ?_) Y (fun p hp => Heap.lt_size (hled p hp).1) rfl hk₁) (fun fl s' q => q) fun _ _ q => q.elim
  rcases List.mem_append.mp hp with hp | hp
  · refine ⟨(NC p hp).1, (NC p hp).2.1, ?_⟩
    cases q : g.get? p.1 with
    | none => rfl
    | some o => have := hg _ _ q; rw [(NC p hp).2.2] at this; cases this
  · exact ⟨hk₁ _ _ (hled p hp).1, Nat.ne_of_lt (Heap.lt_size (hled p hp).1), (hled p hp).2⟩

section
variable {w : World} {A : Around} {Q E : Value → Shared → Prop} {s : Shared} {h₀ : Heap} {L : Addr} {m mg mb : Str → Option Value} {mean : ExcName → Option Value} {led news : List (Addr × Obj)} {f : Addr} {args : List Value} {n : Nat} {pre : Prop} {P : Value → List (Addr × Obj) → Prop} {v₀ : Value}
theorem use_mut0 (S : Mut w f args n led pre P) (F : Fr h₀ L s.heap m) (N : News h₀ L s.heap led) (X : (hd.heap_39 w.params).In h₀) (T : Top vw lo mean mg mb h₀) (R : Rm A n) (hp : pre)
    (k : ∀ v h' tk' led', Fr h₀ L h' m → News h₀ L h' led' → P v led' → Q v { s with heap := h', toks := tk' }) :
    wpAny (model prg w) A (call (.ref f) args) Q E s :=
  use_mut (rest := []) S F (by rw [List.append_nil]; exact N) (fun _ h => nomatch h) X T R hp fun v h' tk' led' F' N' _ p => k v h' tk' led' F' (by rw [List.append_nil] at N'; exact N') p
theorem use_read (S : Mut w f args n led pre (fun v led' => v = v₀ ∧ led' = led)) (F : Fr h₀ L s.heap m) (N : News h₀ L s.heap news) (X : (hd.heap_39 w.params).In h₀) (T : Top vw lo mean mg mb h₀) (R : Rm A n) (hp : pre) (sub : ∀ p ∈ led, p ∈ news)
    (k : ∀ h' tk', Fr h₀ L h' m → News h₀ L h' news → Q v₀ { s with heap := h', toks := tk' }) :
    wpAny (model prg w) A (call (.ref f) args) Q E s := by
  refine wpAny_call (S A _ s h₀ ⟨X, mean, mg, mb, T⟩ F.keep (fun p hp => ⟨(N p (sub p hp)).1, (N p (sub p hp)).2.2⟩) R hp fun v h' tk' led' keep hl p => ?_)
  obtain ⟨rfl, rfl⟩ := p
  have ext : Ext s.heap h' := fun b o e => by
    by_cases hb : ∀ p ∈ led', p.1 ≠ b
    · exact keep b o e hb
    · obtain ⟨p, hb⟩ := Classical.not_forall.mp hb
      obtain ⟨hp, hb⟩ := Classical.not_imp.mp hb
      obtain rfl := Classical.not_not.mp hb
      rw [(N p (sub p hp)).1] at e
      cases e
      exact (hl p hp).1
  exact k h' tk' (F.keeps ext) (N.grown ext)
end

theorem fold_mem {α : Type} {z : List α} {p : α} : ∀ {bs : List (List α)}, p ∈ bs.foldr (· ++ ·) z ↔ p ∈ z ∨ ∃ b ∈ bs, p ∈ b := by
  intro bs
  induction bs with
  | nil => exact ⟨.inl, fun h => h.elim id fun ⟨_, h, _⟩ => nomatch h⟩
  | cons a r ih =>
    refine List.mem_append.trans ⟨fun h => ?_, fun h => ?_⟩
    · rcases h with h | h
      · exact .inr ⟨a, .head _, h⟩
      · exact (ih.mp h).imp_right fun ⟨b, h1, h2⟩ => ⟨b, .tail _ h1, h2⟩
    · rcases h with h | ⟨b, h1, h2⟩
      · exact .inr (ih.mpr (.inl h))
      · rcases List.mem_cons.mp h1 with e | h1
        · exact .inl (e ▸ h2)
        · exact .inr (ih.mpr (.inr ⟨b, h1, h2⟩))
theorem blk_sub {α : Type} (bs : List (List α)) (z : List α) (is : List Nat) (j : Nat) : ∀ p ∈ (is.map fun i => (z :: bs).getD i []).foldr (· ++ ·) ((z :: bs).getD j []), p ∈ bs.foldr (· ++ ·) z := by
  have one : ∀ i p, p ∈ (z :: bs).getD i [] → p ∈ bs.foldr (· ++ ·) z := fun i p h => by
    refine fold_mem.mpr ?_
    rw [List.getD_eq_getElem?_getD] at h
    cases e : (z :: bs)[i]? with
    | none => rw [e] at h; cases h
    | some b =>
      rw [e] at h
      rcases List.mem_cons.mp (List.mem_of_getElem? e) with e' | h1
      · exact .inl (e' ▸ h)
      · exact .inr ⟨b, h1, h⟩
  intro p hp
  rcases fold_mem.mp hp with h | ⟨b, h1, h2⟩
  · exact one _ _ h
  · obtain ⟨i, _, rfl⟩ := List.mem_map.mp h1
    exact one _ _ h2
section
variable {h₀ h : Heap} {L : Addr}
theorem News.blk (bs : List (List (Addr × Obj))) (z : List (Addr × Obj)) (is : List Nat) (j : Nat) (N : News h₀ L h (bs.foldr (· ++ ·) z)) : News h₀ L h ((is.map fun i => (z :: bs).getD i []).foldr (· ++ ·) ((z :: bs).getD j [])) := fun p hp => N p (blk_sub bs z is j p hp)
theorem News.add {l B : List (Addr × Obj)} (N : News h₀ L h l) (k : ∀ p ∈ B, p ∈ l) : News h₀ L h (B ++ l) := fun p hp => N p ((List.mem_append.mp hp).elim (k p) id)
end
theorem News.put3 {h₀ h : Heap} {L : Addr} {a b c d : Addr × Obj} {own : List (Addr × Obj)} (N : News h₀ L h (d :: a :: b :: c :: own)) : News h₀ L h (a :: b :: c :: d :: own) := News.blk [[d], [a], [b], [c]] own [2, 3, 4, 1] 0 N
theorem News.put33 {h₀ h : Heap} {L : Addr} {a b c d e f v : Addr × Obj} {own : List (Addr × Obj)} (N : News h₀ L h (a :: b :: c :: d :: e :: f :: v :: own)) : News h₀ L h (d :: e :: f :: a :: b :: c :: own) := News.blk [[a], [b], [c], [d], [e], [f], [v]] own [4, 5, 6, 1, 2, 3] 0 N
theorem News.put8 {h₀ h : Heap} {L : Addr} {a b c d e f g i v : Addr × Obj} {own : List (Addr × Obj)} (N : News h₀ L h (v :: a :: b :: c :: d :: e :: f :: g :: i :: own)) : News h₀ L h (i :: v :: a :: b :: c :: d :: e :: f :: g :: own) := News.blk [[v], [a], [b], [c], [d], [e], [f], [g], [i]] own [9, 1, 2, 3, 4, 5, 6, 7, 8] 0 N
section
variable {h₀ h : Heap} {L : Addr} {i x dx d w a da l u v R r D t : Addr × Obj} {A B f : List (Addr × Obj)}
theorem sw1 (N : News h₀ L h (i :: x :: dx :: d :: w :: (A ++ f))) : News h₀ L h ((x :: dx :: d :: A) ++ (i :: w :: f)) := News.blk [[i], [x], [dx], [d], [w], A] f [2, 3, 4, 6, 1, 5] 0 N
theorem sw2 (N : News h₀ L h ((x :: dx :: d :: a :: da :: l :: A) ++ (i :: w :: f))) : News h₀ L h (i :: x :: dx :: d :: a :: da :: l :: w :: (A ++ f)) := News.blk [[x], [dx], [d], [a], [da], [l], A, [i], [w]] f [8, 1, 2, 3, 4, 5, 6, 9, 7] 0 N
theorem sw3 (N : News h₀ L h (i :: x :: dx :: d :: a :: da :: l :: w :: (A ++ f))) : News h₀ L h (i :: x :: dx :: d :: w :: ((A ++ [a, da, l]) ++ f)) :=
  News.blk [A ++ [a, da, l], [i], [x], [dx], [d], [a], [da], [l], [w], A] f [2, 3, 4, 5, 9, 1] 0 (News.add N (blk_sub [[i], [x], [dx], [d], [a], [da], [l], [w], A] f [9, 5, 6] 7))
theorem sw5 (N : News h₀ L h (i :: x :: dx :: d :: a :: da :: l :: w :: (A ++ f))) (k : ∀ p ∈ u :: v :: B, p ∈ A) : News h₀ L h ((x :: dx :: d :: u :: v :: a :: da :: l :: B) ++ (i :: w :: f)) :=
  News.blk [[u], [v], B, [i], [x], [dx], [d], [a], [da], [l], [w], A] f [5, 6, 7, 1, 2, 8, 9, 10, 3, 4, 11] 0 (News.add (B := u :: v :: B) N fun p hp => blk_sub [[i], [x], [dx], [d], [a], [da], [l], [w], A] f [] 9 p (k p hp))
theorem sw6 (N : News h₀ L h ((l :: x :: dx :: d :: u :: v :: a :: da :: B) ++ (i :: w :: f))) (k : ∀ p ∈ A, p ∈ u :: v :: B) : News h₀ L h (i :: x :: dx :: d :: w :: ((A ++ [a, da, l]) ++ f)) :=
  News.blk [A ++ [a, da, l], [l], [x], [dx], [d], [u], [v], [a], [da], B, [i], [w]] f [11, 3, 4, 5, 12, 1] 0 (News.add (B := A ++ [a, da, l]) N fun p hp => (List.mem_append.mp hp).elim (fun hp => blk_sub [[l], [x], [dx], [d], [u], [v], [a], [da], B, [i], [w]] f [5, 6] 9 p (k p hp)) (blk_sub [[l], [x], [dx], [d], [u], [v], [a], [da], B, [i], [w]] f [7, 8] 1 p))
theorem sw7 (N : News h₀ L h (x :: dx :: d :: w :: (A ++ f))) : News h₀ L h ((x :: dx :: d :: A) ++ [w] ++ f) :=
  News.blk [A ++ [w], [x], [dx], [d], [w], A] f [2, 3, 4, 1] 0 (News.add N (blk_sub [[x], [dx], [d], [w], A] f [5] 4))
theorem sw8 (N : News h₀ L h (R :: ((r :: x :: dx :: d :: A) ++ [w] ++ f))) : News h₀ L h (R :: r :: x :: dx :: d :: w :: (A ++ ([] ++ f))) := by
  rw [List.append_assoc] at N
  exact News.blk [[R], [r], [x], [dx], [d], A, [w]] f [1, 2, 3, 4, 5, 7, 6] 0 N
theorem sw9 (N : News h₀ L h (R :: r :: x :: dx :: d :: w :: (A ++ f))) : News h₀ L h ((r :: x :: dx :: d :: A) ++ (R :: w :: f)) := News.blk [[R], [r], [x], [dx], [d], [w], A] f [2, 3, 4, 5, 7, 1, 6] 0 N
theorem sw11 (N : News h₀ L h ((r :: x :: dx :: d :: A) ++ (R :: D :: w :: (B ++ f)))) : News h₀ L h (R :: r :: x :: dx :: d :: w :: (A ++ ((B ++ [D]) ++ f))) :=
  News.blk [B ++ [D], [r], [x], [dx], [d], A, [R], [D], [w], B] f [7, 2, 3, 4, 5, 9, 6, 1] 0 (News.add N (blk_sub [[r], [x], [dx], [d], A, [R], [D], [w], B] f [9] 7))
theorem sw12 (N : News h₀ L h (D :: ((t :: r :: x :: dx :: d :: A) ++ (R :: w :: f)))) : News h₀ L h (R :: D :: t :: r :: x :: dx :: d :: w :: (A ++ f)) := News.blk [[D], [t], [r], [x], [dx], [d], A, [R], [w]] f [8, 1, 2, 3, 4, 5, 6, 9, 7] 0 N
theorem sw13 (N : News h₀ L h (R :: D :: t :: r :: x :: dx :: d :: w :: (A ++ f))) : News h₀ L h ((r :: x :: dx :: d :: A) ++ (R :: D :: w :: f)) := News.blk [[R], [D], [t], [r], [x], [dx], [d], [w], A] f [4, 5, 6, 7, 9, 1, 2, 8] 0 N
end

section
open LCg LCt
section
variable {w : World} {A : Around} {Q E : Value → Shared → Prop} {s : Shared} {h₀ : Heap} {L : Addr} {m mg mb : Str → Option Value} {mean : ExcName → Option Value} {led news : List (Addr × Obj)} {f : Addr} {args : List Value} {n : Nat} {pre : Prop}
theorem use_readV {V : Value → Prop} (S : Mut w f args n led pre (fun v led' => led' = led ∧ V v)) (F : Fr h₀ L s.heap m) (N : News h₀ L s.heap news) (X : (hd.heap_39 w.params).In h₀) (T : Top vw lo mean mg mb h₀) (R : Rm A n) (hp : pre) (sub : ∀ p ∈ led, p ∈ news)
    (k : ∀ v h' tk', V v → Fr h₀ L h' m → News h₀ L h' news → Q v { s with heap := h', toks := tk' }) :
    wpAny (model prg w) A (call (.ref f) args) Q E s := by
  refine wpAny_call (S A _ s h₀ ⟨X, mean, mg, mb, T⟩ F.keep (fun p hp => ⟨(N p (sub p hp)).1, (N p (sub p hp)).2.2⟩) R hp fun v h' tk' led' keep hl p => ?_)
  obtain ⟨rfl, hv⟩ := p
  have ext : Ext s.heap h' := fun b o e => by
    by_cases hb : ∀ p ∈ led', p.1 ≠ b
    · exact keep b o e hb
    · obtain ⟨p, hb⟩ := Classical.not_forall.mp hb
      obtain ⟨hp, hb⟩ := Classical.not_imp.mp hb
      obtain rfl := Classical.not_not.mp hb
      rw [(N p (sub p hp)).1] at e
      cases e
      exact (hl p hp).1
  exact k v h' tk' hv (F.keeps ext) (N.grown ext)
end
section
variable {prog : Program} {w : World} {A : Around} {s : Shared} {h₀ : Heap}
theorem Itc.range (hh : A.handled = none) {l : Addr} {n : Nat} {t u v : Tok} (hn : n ≤ 1000) : Itc prog w A l (rngO n t u v) n (fun i x => ∃ t, x = .int (i : Int) t) l (fun _ => True) := by
  have hz : Builtin.Range.rangeSize 0 (n : Int) 1 = (n : Int) := by
    unfold Builtin.Range.rangeSize
    rw [if_pos (by decide)]
    split <;> omega
  refine ⟨{ cls := .type "range_iterator", data := .fields #[rawInt 0, rawInt (Builtin.Range.rangeSize 0 n 1), rawInt 1] }, rfl, fun s Q E ho _ h => wpAny_pyIter_range (a := 0) (b := n) (c := 1) ho ?_ h, fun I hne => ?_⟩
  · exact small_one (by omega) (by omega) (by omega) (by omega)
  · have W := Walks.range (prog := prog) (w := w) (A := A) hh I 0 1 n
    refine ⟨fun i h => IsRangeIter h I (0 + (i : Nat) * 1) ((n : Int) - (i : Nat)) 1 ∧ ∃ o', h.get? l = some o', { sub := fun b hb => by rw [List.mem_singleton.mp hb]; exact .head _, frame := fun i h h' st hk => ⟨W.frame i h h' st.1 (fun b hb o e => hk b (by rw [List.mem_singleton.mp hb]; exact .head _) o e), ?_⟩, item := fun i s Q E hi st hQ => W.item i s Q E hi st.1 fun v h' tk hP st' hk => ?_, done := fun s Q E st hQ => W.done s Q E st.1 hQ, self := fun i s Q E st hQ => W.self i s Q E st.1 hQ }, fun i h st => ⟨_, st.1⟩, fun i h h' oI st e e' hl => ⟨?_, _, hl⟩, fun h ho hi => ⟨?_, _, ho⟩⟩
    · obtain ⟨o, e⟩ := st.2
      exact ⟨o, hk l (.tail _ (.head _)) o e⟩
    · obtain ⟨t', hP⟩ := hP
      obtain ⟨o, e⟩ := st.2
      exact hQ v h' tk ⟨t', by rw [hP]; congr 1; omega⟩ ⟨st', o, hk l o (by simpa using hne) e⟩ hk
    · have q : h.get? I = some _ := st.1
      show h'.get? I = some _
      rw [e', ← e]; exact q
    · rw [hz] at hi
      show h.get? I = _
      rw [hi]
      simp
end
noncomputable def CEndL (h₀ : Heap) (L : Addr) (m : Str → Option Value) (s₁ : Shared) (I : Addr) (oI : Obj) (C : Addr) (oC : Obj) (D : Addr) (oD : Obj) (K : Value → List (Addr × Obj) → Prop) (y : Value) (s₂ : Shared) : Prop :=
  ∃ h' tk nw, s₂ = { s₁ with heap := h', toks := tk } ∧ Fr h₀ L h' m ∧ News h₀ L h' ((I, oI) :: (C, oC) :: (D, oD) :: nw) ∧ Off3 I C D nw ∧ K y nw
theorem cl_end {h₀ h' : Heap} {L I C D : Addr} {m : Str → Option Value} {s₁ : Shared} {oI oC oD : Obj} {nw all : List (Addr × Obj)} {K : Value → List (Addr × Obj) → Prop} {y : Value} {tk : Nat}
    (F : Fr h₀ L h' m) (N : News h₀ L h' all) (sub : ∀ p ∈ (I, oI) :: (C, oC) :: (D, oD) :: nw, p ∈ all) (off : Off3 I C D nw) (r : K y nw) :
    CEndL h₀ L m s₁ I oI C oC D oD K y { s₁ with heap := h', toks := tk } := ⟨h', tk, nw, rfl, F, fun p hp => N p (sub p hp), off, r⟩
section
variable {prog : Program} {w : World} {A : Around} {E : Value → Shared → Prop} {s : Shared} {h₀ : Heap} {L : Addr} {m : Str → Option Value} {env : Env}
theorem rest_L {elt : PySem.Expr} {x : Str} {scope : Scope} {cl : List (Str × Addr)} {P : Nat → Value → Prop} {Fin : List Value → List (Addr × Obj) → Prop} {n : Nat} (J : Nat → List Value → List (Addr × Obj) → Prop)
    (turn : ∀ i ys nw v I oI C oC D m₂ h tk (E' : Value → Shared → Prop), i < n → P i v → J i ys nw → NsObj oC m₂ → m₂ x = some v → Fr h₀ L h m → News h₀ L h ((I, oI) :: (C, oC) :: (D, LCg.lst ys) :: nw) → Off3 I C D nw → ((@Ne Nat I C) ∧ (@Ne Nat I D) ∧ (@Ne Nat C D)) →
      wpAny (model prog w) A (eval elt (compEnvC scope cl C env)) (CEndL h₀ L m { s with heap := h, toks := tk } I oI C oC D (LCg.lst ys) (fun y nw' => J (i + 1) (ys ++ [y]) nw')) E' { s with heap := h, toks := tk })
    (fin : ∀ ys nw, J n ys nw → Fin ys nw) : ∀ k i ys nw, i + k = n → J i ys nw → CompRest prog w A h₀ L m env elt x scope cl s (fun nw => ∃ i ys, J i ys nw) P Fin k i ys nw := by
  intro k
  induction k with
  | zero => intro i ys nw e hJ; rw [Nat.add_zero] at e; subst e; exact fin ys nw hJ
  | succ k ih =>
    intro i ys nw e hJ v I oI C oC D m₂ h tk E' hP hC hx F N off ne
    refine wpAny_mono (turn i ys nw v I oI C oC D m₂ h tk E' (lt_of_add e) hP hJ hC hx F N off ne) (fun y s' h' => ?_) fun _ _ e => e
    obtain ⟨h', tk', nw', rfl, F', N', off', r⟩ := h'
    exact ⟨h', tk', nw', rfl, F', N', off', ⟨_, _, r⟩, ih (i + 1) _ _ (add_next e) r⟩
theorem csrc_L {elt : PySem.Expr} {x : Str} {scope : Scope} {cl : List (Str × Addr)} {Fin : Shared → List Value → List (Addr × Obj) → Prop} {l va : Addr} {Pre : Heap → Prop} {o : Obj} {n : Nat} {P : Nat → Value → Prop} {news : List (Addr × Obj)} {s₁ : Shared} (J : Nat → List Value → List (Addr × Obj) → Prop)
    (T : Itc prog w A l o n P va Pre) (hpre : Pre s₁.heap) (F : Fr h₀ L s₁.heap m) (N : News h₀ L s₁.heap news) (hsrc : ∀ i ys nw, J i ys nw → h₀.get? l = some o ∨ (l, o) ∈ nw) (hn : n ≤ sizeLine) (h0 : J 0 [] news)
    (turn : ∀ i ys nw v I oI C oC D m₂ h tk (E' : Value → Shared → Prop), i < n → P i v → J i ys nw → NsObj oC m₂ → m₂ x = some v → Fr h₀ L h m → News h₀ L h ((I, oI) :: (C, oC) :: (D, LCg.lst ys) :: nw) → Off3 I C D nw → ((@Ne Nat I C) ∧ (@Ne Nat I D) ∧ (@Ne Nat C D)) →
      wpAny (model prog w) A (eval elt (compEnvC scope cl C env)) (CEndL h₀ L m { s₁ with heap := h, toks := tk } I oI C oC D (LCg.lst ys) (fun y nw' => J (i + 1) (ys ++ [y]) nw')) E' { s₁ with heap := h, toks := tk })
    (fin : ∀ g ys nw, J n ys nw → Fin { s₁ with heap := g } ys nw) : CSrcL prog w A h₀ L m env elt x scope cl Fin (.ref va) s₁ :=
  ⟨va, Pre, l, o, n, P, news, fun nw => ∃ i ys, J i ys nw, rfl, T, hpre, F, N, fun nw ⟨i, ys, hJ⟩ => hsrc i ys nw hJ, ⟨0, [], h0⟩, hn, by rintro s₂ ⟨g, rfl⟩; exact rest_L (s := { s₁ with heap := g }) J turn (fun ys nw hJ => fin g ys nw hJ) n 0 [] news (by omega) h0⟩
end
theorem keysS_of : ∀ {kvs : List (Str × Value)} {C : List Value → Prop}, (∀ acc : List (Str × Tok), acc.map (·.1) = kvs.map (·.1) → C (strValues acc)) → KdlKeysS kvs C
  | [], _, h => h [] rfl
  | q :: r, _, h => fun t => keysS_of fun acc e => h ((q.1, t) :: acc) (by rw [List.map_cons, List.map_cons, e])
theorem sv_of : ∀ {vs : List Value} {ss : List Str}, StrsAre vs ss → ∃ acc : List (Str × Tok), vs = strValues acc ∧ acc.map (·.1) = ss
  | _, _, .nil => ⟨[], rfl, rfl⟩
  | _, _, .cons x t h => by
    obtain ⟨acc, rfl, rfl⟩ := sv_of h
    exact ⟨(x, t) :: acc, rfl, rfl⟩
theorem perm_map {α β : Type} [DecidableEq α] {f : α → β} : ∀ {l : List β} {p : List α}, l.Perm (p.map f) → ∃ p' : List α, l = p'.map f ∧ p'.Perm p
  | [], p, h => by
    have := h.symm.eq_nil
    exact ⟨[], rfl, by rw [List.map_eq_nil_iff.mp this]⟩
  | x :: t, p, h => by
    have hx : x ∈ p.map f := h.mem_iff.mp (.head _)
    obtain ⟨a, ha, rfl⟩ := List.mem_map.mp hx
    have h1 := List.perm_cons_erase ha
    obtain ⟨p', e, h2⟩ := perm_map (f := f) (List.Perm.cons_inv (h.trans (h1.map f)))
    exact ⟨a :: p', by rw [e]; rfl, (h2.cons a).trans h1.symm⟩

end
section
open PySem.Builtin.Str (strSliceIndices subAt strSub occurrences glued)
noncomputable def lst (x : Str) : List Nat := x.cps.toList
noncomputable def mk (l : List Nat) : Str := ⟨l.toArray⟩
theorem lst_mk (l : List Nat) : lst (mk l) = l := rfl
theorem mk_lst (x : Str) : mk (lst x) = x := by obtain ⟨⟨l⟩⟩ := x; rfl
theorem str_ext {x y : Str} (h : lst x = lst y) : x = y := by rw [← mk_lst x, ← mk_lst y, h]
theorem lst_inj {x y : Str} : lst x = lst y ↔ x = y := ⟨str_ext, fun h => by rw [h]⟩
theorem lst_append (x y : Str) : lst (x ++ y) = lst x ++ lst y := by show (x.cps ++ y.cps).toList = x.cps.toList ++ y.cps.toList; simp
theorem len_lst (x : Str) : x.length = (lst x).length := by simp [Str.length, lst]
theorem slash_is : Str.ofString "/" = ⟨#[47]⟩ := by decide +kernel
theorem lst_slash : lst ⟨#[47]⟩ = [47] := rfl
theorem mk_append (a b : List Nat) : mk a ++ mk b = mk (a ++ b) := str_ext (by rw [lst_append, lst_mk, lst_mk, lst_mk])
theorem nat_not_neg (k : Nat) : ¬ ((k : Int) < 0) := Int.not_lt.mpr (Int.natCast_nonneg k)
theorem min_clip (l n : Nat) : max (0 : Int) (min (l : Int) n) = max 0 (min ((min l n : Nat) : Int) n) := by
  rw [show ((min l n : Nat) : Int) = min (l : Int) n by omega, Int.min_assoc, Int.min_self]
theorem slice_clip (l u : Nat) (n : Nat) : strSliceIndices (some (l : Int)) (some (u : Int)) 1 n = strSliceIndices (some ((min l n : Nat) : Int)) (some ((min u n : Nat) : Int)) 1 n := by
  simp only [strSliceIndices, nat_not_neg, if_false, show (1 : Int) > 0 by decide, if_true, min_clip l n, min_clip u n]
theorem slice_gt (l u : Nat) (n : Nat) (h : u ≤ l) (hl : l ≤ n) : strSliceIndices (some (l : Int)) (some (u : Int)) 1 n = [] := by
  have e : ¬ (max (0 : Int) (min (l : Int) n) < max 0 (min (u : Int) n)) := by omega
  simp only [strSliceIndices, nat_not_neg, if_false, show (1 : Int) > 0 by decide, if_true, PySem.sliceRange, e]
  rfl
theorem slice_ab (x : Str) (a b : Nat) : lst (Txt.slice x (some (a : Int)) (some (b : Int))) = ((lst x).take b).drop a := by
  have key : Txt.slice x (some (a : Int)) (some (b : Int)) = Txt.slice x (some ((min a x.length : Nat) : Int)) (some ((min b x.length : Nat) : Int)) := by
    unfold Txt.slice; rw [slice_clip]
  rw [key]
  by_cases h : min a x.length ≤ min b x.length
  · have e := StrLaws.sliceText_nat x h (Nat.min_le_right _ _)
    have e' : Txt.slice x (some ((min a x.length : Nat) : Int)) (some ((min b x.length : Nat) : Int)) = _ := e
    rw [e', len_lst]
    show ((lst x).drop _).take _ = _
    generalize lst x = l
    rw [← List.drop_take, List.take_eq_take_iff.mpr (show min (min b l.length) l.length = min b l.length by rw [Nat.min_assoc, Nat.min_self])]
    refine List.drop_eq_drop_iff.mpr ?_
    rw [List.length_take, Nat.min_assoc, Nat.min_eq_right (Nat.min_le_right b l.length)]
  · unfold Txt.slice
    rw [slice_gt _ _ _ (by omega) (Nat.min_le_right _ _)]
    have h0 : x.length ≠ 0 := by omega
    rw [if_neg (by simp; omega)]
    show [] = _
    rw [List.drop_eq_nil_of_le]
    rw [List.length_take, ← len_lst]; omega
theorem slice_nb (x : Str) (b : Nat) : lst (Txt.slice x none (some (b : Int))) = (lst x).take b := by
  have : Txt.slice x none (some (b : Int)) = Txt.slice x (some ((0 : Nat) : Int)) (some (b : Int)) := by unfold Txt.slice; rw [StrLaws.sliceIdx_none_lo]; rfl
  rw [this, slice_ab]; rfl
theorem slice_an (x : Str) (a : Nat) : lst (Txt.slice x (some (a : Int)) none) = (lst x).drop a := by
  have : Txt.slice x (some (a : Int)) none = Txt.slice x (some (a : Int)) (some ((x.length : Nat) : Int)) := by unfold Txt.slice; rw [StrLaws.sliceIdx_none_hi]
  rw [this, slice_ab, len_lst, List.take_length]
noncomputable def joinL : List (List Nat) → List Nat
  | [] => []
  | [x] => x
  | x :: r => x ++ 47 :: joinL r
theorem joinL_cons {x : List Nat} {r : List (List Nat)} (h : r ≠ []) : joinL (x :: r) = x ++ 47 :: joinL r := by
  cases r with
  | nil => exact absurd rfl h
  | cons y r => rfl
theorem joinL_append {a b : List (List Nat)} (ha : a ≠ []) (hb : b ≠ []) : joinL (a ++ b) = joinL a ++ 47 :: joinL b := by
  induction a with
  | nil => exact absurd rfl ha
  | cons x r ih =>
    cases r with
    | nil => rw [List.singleton_append, joinL_cons hb]; rfl
    | cons y r => rw [List.cons_append, joinL_cons (x := x) (r := (y :: r) ++ b) (by simp), ih (by simp), joinL_cons (x := x) (r := y :: r) (by simp), List.append_assoc, List.cons_append]
theorem lst_join (parts : List Str) : lst (Str.join ⟨#[47]⟩ parts) = joinL (parts.map lst) := by
  induction parts with
  | nil => rfl
  | cons x r ih =>
    cases r with
    | nil => rfl
    | cons y r =>
      show lst (x ++ (⟨#[47]⟩ : Str) ++ Str.join ⟨#[47]⟩ (y :: r)) = _
      rw [lst_append, lst_append, ih, show (x :: y :: r).map lst = lst x :: (y :: r).map lst from rfl, joinL_cons (x := lst x) (r := (y :: r).map lst) (by simp), List.append_assoc]; rfl
theorem joinL_inj : ∀ {a b : List (List Nat)}, a ≠ [] → b ≠ [] → (∀ p ∈ a, 47 ∉ p) → (∀ p ∈ b, 47 ∉ p) → joinL a = joinL b → a = b
  | [], _, ha, _, _, _, _ => absurd rfl ha
  | _ :: _, [], _, hb, _, _, _ => absurd rfl hb
  | x :: r, y :: t, _, _, fa, fb, e => by
    have cut : ∀ (u v : List Nat) (s t : List Nat), 47 ∉ u → 47 ∉ v → u ++ 47 :: s = v ++ 47 :: t → u = v ∧ s = t := by
      intro u
      induction u with
      | nil =>
        intro v s t _ hv e
        cases v with
        | nil => exact ⟨rfl, (List.cons.inj e).2⟩
        | cons c v => exact absurd ((List.cons.inj e).1 ▸ List.mem_cons_self ..) hv
      | cons c u ih =>
        intro v s t hu hv e
        cases v with
        | nil => exact absurd ((List.cons.inj e).1.symm ▸ List.mem_cons_self ..) hu
        | cons d v =>
          obtain ⟨e1, e2⟩ := List.cons.inj e
          obtain ⟨e3, e4⟩ := ih v s t (fun h => hu (List.mem_cons_of_mem _ h)) (fun h => hv (List.mem_cons_of_mem _ h)) e2
          exact ⟨by rw [e1, e3], e4⟩
    have fx := fa x (List.mem_cons_self ..)
    have fy := fb y (List.mem_cons_self ..)
    cases r with
    | nil =>
      cases t with
      | nil => rw [show x = y from e]
      | cons z t =>
        rw [joinL_cons (x := y) (r := z :: t) (by simp)] at e
        exact absurd (show 47 ∈ x by rw [show x = _ from e]; simp) fx
    | cons w r =>
      cases t with
      | nil =>
        rw [joinL_cons (x := x) (r := w :: r) (by simp)] at e
        exact absurd (show 47 ∈ y by rw [show y = _ from e.symm]; simp) fy
      | cons z t =>
        rw [joinL_cons (x := x) (r := w :: r) (by simp), joinL_cons (x := y) (r := z :: t) (by simp)] at e
        obtain ⟨e1, e2⟩ := cut _ _ _ _ fx fy e
        have := joinL_inj (a := w :: r) (b := z :: t) (by simp) (by simp) (fun p hp => fa p (List.mem_cons_of_mem _ hp)) (fun p hp => fb p (List.mem_cons_of_mem _ hp)) e2
        rw [e1, this]
theorem split_eq {x : Str} {parts : List (List Nat)} (hn : parts ≠ []) (hf : ∀ p ∈ parts, 47 ∉ p) (h : lst x = joinL parts) : Txt.split x (Str.ofString "/") = parts.map mk := by
  rw [slash_is]
  have h1 := StrLaws.join_split x ⟨#[47]⟩
  have h2 := StrLaws.split_free x 47
  have h3 := split_pos x ⟨#[47]⟩
  have e : joinL ((Txt.split x ⟨#[47]⟩).map lst) = joinL parts := by rw [← lst_join, h1, h]
  have e2 := joinL_inj (a := (Txt.split x ⟨#[47]⟩).map lst) (by intro q; rw [List.map_eq_nil_iff] at q; rw [q] at h3; simp at h3) hn (fun p hp => by obtain ⟨q, hq, rfl⟩ := List.mem_map.mp hp; exact h2 q hq) hf e
  rw [← e2, List.map_map]
  conv => lhs; rw [← List.map_id (Txt.split x ⟨#[47]⟩)]
  exact List.map_congr_left fun a _ => (mk_lst a).symm
theorem join_eq (parts : List Str) : lst (Txt.join (Str.ofString "/") parts) = joinL (parts.map lst) := by
  rw [slash_is]; show lst (glued _ parts) = _; rw [StrLaws.glued_eq_join, lst_join]
theorem starts_slash (x : Str) : Txt.startswith x (Str.ofString "/") = decide ((lst x).head? = some 47) := by
  rw [slash_is]; unfold Txt.startswith
  rw [StrLaws.subAt_eq, len_lst x]
  cases h : lst x with
  | nil => simp [Str.length]
  | cons c r => rw [show x.cps.toList = c :: r from h]; simp [Str.length, Bool.beq_eq_decide_eq]
theorem ends_slash (x : Str) : Txt.endswith x (Str.ofString "/") = decide ((lst x).getLast? = some 47) := by
  rw [slash_is]; unfold Txt.endswith
  rw [StrLaws.subAt_eq, len_lst x]
  rcases List.eq_nil_or_concat (lst x) with h | ⟨r, c, h⟩
  · rw [h]; simp [Str.length]
  · rw [List.concat_eq_append] at h; rw [show x.cps.toList = r ++ [c] from h, h]; simp [Str.length, Bool.beq_eq_decide_eq]

end
example : True := by w_top off; trivial
theorem fspath_spec {w : World} {p : Str} {t : Tok} : Pur w 94 [.str p t] 1 (fun _ => True) (fun v _ => v = .str p t) := by
  refine pur_of fun A Q E s0 gs dr tk0 ost G R _ ret => ?_
  obtain ⟨hd, dp, fr, gd, un⟩ := A; obtain rfl : hd = none := R.hh; obtain ⟨X, mean, mg, mb, T⟩ := id G
  refine enter G R (by k_is) (by k_is) (BindsTo.of_eq (binds := [(Str.ofString "path", .str p t)]) rfl) (locs rfl) rfl rfl rfl (by decide) ?_
  intro L h₁ F N hL A1
  clear G hL
  k_fold
  (repeat' (first | ((with_reducible show wpAny _ _ _ _ _ (Shared.mk _ (Shared.gens _) _ _ _)); (with_reducible first | refine fl_c ?_ rfl | refine fl_a (by assumption) ?_ rfl | refine fl_b (by assumption) ?_ rfl); (fail_if_success (with_reducible show wpAny _ _ _ _ _ (Shared.mk _ (Shared.gens _) _ _ _)))) | ((with_reducible show wpAny _ _ _ _ _ (Shared.mk _ _ _ (_ + _ + _ + _) _)); (with_reducible refine tk_gen ?_); intro tk_m) | ((with_reducible show wpAny _ _ (call (Value.builtin "issubclass") _ _) _ _ _); (k_here; refine issub_str (News.isTup (by k_asm) (by k_mem)) rfl ?_)) | ((with_reducible show wpAny _ _ (eval (Expr.Constant _ _ _) _) _ _ _); with_reducible first | refine cint ?_ | refine cstr ?_) | ((with_reducible show wpAny _ _ (eval (Expr.Name _ _) _) _ _ _); k_here; k_dflt (refine' nameX_L (hd := ?d) ?F ?v ?_ ?a ?b; (case F => k_asm); (case a => rfl); (case b => rfl); (case v => rfl); (case d => rfl); k_whole)) | ((with_reducible show wpAny _ _ (storeName _ _ _) _ _ _); k_here; k_dflt (refine' storeX_M ?F ?N ?_ ?a ?b; (case F => k_asm); (case N => k_asm); (case a => rfl); (case b => rfl); k_whole; intro h_m m_m F_m N_m; (try k_sweep))) | ((with_reducible show wpAny _ _ (exec _ _) _ _ _); k_fold) | (k_unfold; (try dsimp only)) | (k_end; kc_close) | walk1 | (dsimp only; walk1) | (leave1; (try dsimp only)) | fail "no step"))
  exact ret _ _ _ [] (Fr.keep (by assumption)) noled rfl
theorem getsep_spec {w : World} {p : Str} {t : Tok} : Pur w 108 [.str p t] 1 (fun _ => True) (fun v _ => ∃ t, v = .str (Str.ofString "/") t) := by
  refine pur_of fun A Q E s0 gs dr tk0 ost G R _ ret => ?_
  obtain ⟨hd, dp, fr, gd, un⟩ := A; obtain rfl : hd = none := R.hh; obtain ⟨X, mean, mg, mb, T⟩ := id G
  refine enter G R (by k_is) (by k_is) (BindsTo.of_eq (binds := [(Str.ofString "path", .str p t)]) rfl) (locs rfl) rfl rfl rfl (by decide) ?_
  intro L h₁ F N hL A1
  clear G hL
  k_fold
  (repeat' (first | ((with_reducible show wpAny _ _ _ _ _ (Shared.mk _ (Shared.gens _) _ _ _)); (with_reducible first | refine fl_c ?_ rfl | refine fl_a (by assumption) ?_ rfl | refine fl_b (by assumption) ?_ rfl); (fail_if_success (with_reducible show wpAny _ _ _ _ _ (Shared.mk _ (Shared.gens _) _ _ _)))) | ((with_reducible show wpAny _ _ _ _ _ (Shared.mk _ _ _ (_ + _ + _ + _) _)); (with_reducible refine tk_gen ?_); intro tk_m) | ((with_reducible show wpAny _ _ (eval (Expr.Constant _ _ _) _) _ _ _); with_reducible first | refine cint ?_ | refine cstr ?_) | ((with_reducible show wpAny _ _ (eval (Expr.Name _ _) _) _ _ _); k_here; k_dflt (refine' nameX_L (hd := ?d) ?F ?v ?_ ?a ?b; (case F => k_asm); (case a => rfl); (case b => rfl); (case v => rfl); (case d => rfl); k_whole)) | ((with_reducible show wpAny _ _ (storeName _ _ _) _ _ _); k_here; k_dflt (refine' storeX_M ?F ?N ?_ ?a ?b; (case F => k_asm); (case N => k_asm); (case a => rfl); (case b => rfl); k_whole; intro h_m m_m F_m N_m; (try k_sweep))) | ((with_reducible show wpAny _ _ (exec _ _) _ _ _); k_fold) | (k_unfold; (try dsimp only)) | (k_end; kc_close) | walk1 | (dsimp only; walk1) | (leave1; (try dsimp only)) | fail "no step"))
  exact ret _ _ _ [] (Fr.keep (by assumption)) noled ⟨_, rfl⟩
noncomputable def dirnameF (p : Str) : Str :=
  let head := Txt.slice p none (some (Txt.rfind p (Str.ofString "/") + 1))
  if (head.length : Int) ≠ 0 then (if (head != Txt.mul (Str.ofString "/") (head.length : Int)) = true then Txt.rstripChars head (Str.ofString "/") else head) else head
theorem dirname_spec {w : World} {p : Str} {t : Tok} : Pur w 129 [.str p t] 2 (fun _ => p.length ≤ 1000) (fun v _ => ∃ t, v = .str (dirnameF p) t) := by
  refine pur_of fun A Q E s0 gs dr tk0 ost G R hp ret => ?_
  obtain ⟨hd, dp, fr, gd, un⟩ := A; obtain rfl : hd = none := R.hh; obtain ⟨X, mean, mg, mb, T⟩ := id G
  have R' := fun env => R.deeper (env := env)
  refine enter G (R.le (by decide)) (by k_is) (by k_is) (BindsTo.of_eq (binds := [(Str.ofString "p", .str p t)]) rfl) (locs rfl) rfl rfl rfl (by decide) ?_
  intro L h₁ F N hL A1
  clear G hL
  k_fold
  (repeat' (first | ((with_reducible show wpAny _ _ _ _ _ (Shared.mk _ (Shared.gens _) _ _ _)); (with_reducible first | refine fl_c ?_ rfl | refine fl_a (by assumption) ?_ rfl | refine fl_b (by assumption) ?_ rfl); (fail_if_success (with_reducible show wpAny _ _ _ _ _ (Shared.mk _ (Shared.gens _) _ _ _)))) | ((with_reducible show wpAny _ _ _ _ _ (Shared.mk _ _ _ (_ + _ + _ + _) _)); (with_reducible refine tk_gen ?_); intro tk_m) | (k_here; (with_reducible show wpAny _ _ (call (Value.ref 108) _ _) _ _ _); refine use_pur0 getsep_spec (by k_asm) (by k_asm) (by k_asm) (by k_asm) (Rm.le (by first | assumption | (rename (∀ env, Rm _ _) => kR_m; exact kR_m _)) (by decide)) trivial ?_; intro v_m h_m tk_m led_m F_m N_m hv_m; obtain ⟨t_m, hv_m⟩ := hv_m; subst hv_m; (try k_sweep)) | (k_here; (with_reducible show wpAny _ _ (call (Value.ref 94) _ _) _ _ _); refine use_pur0 fspath_spec (by k_asm) (by k_asm) (by k_asm) (by k_asm) (Rm.le (by first | assumption | (rename (∀ env, Rm _ _) => kR_m; exact kR_m _)) (by decide)) trivial ?_; intro v_m h_m tk_m led_m F_m N_m hv_m; subst hv_m; (try k_sweep)) | ((with_reducible show wpAny _ _ (eval (Expr.Constant _ _ _) _) _ _ _); with_reducible first | refine cint ?_ | refine cstr ?_) | ((with_reducible show wpAny _ _ (eval (Expr.Name _ _) _) _ _ _); k_here; k_dflt (refine' nameX_L (hd := ?d) ?F ?v ?_ ?a ?b; (case F => k_asm); (case a => rfl); (case b => rfl); (case v => rfl); (case d => rfl); k_whole)) | ((with_reducible show wpAny _ _ (storeName _ _ _) _ _ _); k_here; k_dflt (refine' storeX_M ?F ?N ?_ ?a ?b; (case F => k_asm); (case N => k_asm); (case a => rfl); (case b => rfl); k_whole; intro h_m m_m F_m N_m; (try k_sweep))) | ((with_reducible show wpAny _ _ (exec _ _) _ _ _); k_fold) | (k_unfold; (try dsimp only)) | (k_end; kc_close) | walk1 | (dsimp only; walk1) | (leave1; (try dsimp only)) | fail "no step"))
  all_goals (refine ret _ _ _ [] (Fr.keep (by assumption)) noled ⟨_, congrArg (fun x => Value.str x _) ?_⟩; unfold dirnameF; dsimp only; first | rw [if_pos (by assumption), if_pos (by assumption)] | rw [if_pos (by assumption), if_neg (Bool.eq_false_iff.mp (by assumption))] | rw [if_neg (by omega)])

example : True := by w_top off; trivial
noncomputable def joinF (a b : Str) : Str :=
  if Txt.startswith b (Str.ofString "/") = true then b else if (a.length : Int) = 0 then b else if Txt.endswith a (Str.ofString "/") = true then a ++ b else a ++ (Str.ofString "/" ++ b)
theorem join_spec {w : World} {a b : Str} {ta tb : Tok} : Pur w 115 [.str a ta, .str b tb] 2 (fun _ => a.length ≤ 1000 ∧ b.length ≤ 1000) (fun v _ => ∃ t, v = .str (joinF a b) t) := by
  refine pur_of fun A Q E s0 gs dr tk0 ost G R hp ret => ?_
  obtain ⟨ha, hb⟩ := hp
  obtain ⟨hd, dp, fr, gd, un⟩ := A; obtain rfl : hd = none := R.hh; obtain ⟨X, mean, mg, mb, T⟩ := id G
  have R' := fun env => R.deeper (env := env)
  refine enterV (led := []) (vs := [.str b tb]) (binds := [(Str.ofString "a", .str a ta)]) (va := Str.ofString "p") G (fun _ _ e => e) (Nat.le_refl _) (fun _ h => nomatch h) (R.le (by decide)) (by k_is) (by k_is) rfl (by show 1 ≤ sizeLine; decide) (locs rfl) rfl rfl rfl rfl (by decide) ?_
  intro L V h₁ tk F N hL hV _ _ A1
  clear G
  k_fold
  (repeat' (first | ((with_reducible show wpAny _ _ _ _ _ (Shared.mk _ (Shared.gens _) _ _ _)); (with_reducible first | refine fl_c ?_ rfl | refine fl_a (by assumption) ?_ rfl | refine fl_b (by assumption) ?_ rfl); (fail_if_success (with_reducible show wpAny _ _ _ _ _ (Shared.mk _ (Shared.gens _) _ _ _)))) | ((with_reducible show wpAny _ _ _ _ _ (Shared.mk _ _ _ (_ + _ + _ + _) _)); (with_reducible refine tk_gen ?_); intro tk_m) | ((with_reducible show wpAny _ _ (exec (Stmt.For (Expr.Name _ _) (Expr.Name _ _) (_ :: _) [] _) _) _ _ _); (k_here; k_dflt (refine wpAny_For ?_))) | (k_here; (with_reducible show wpAny _ _ (call (Value.ref 108) _ _) _ _ _); refine use_pur0 getsep_spec (by k_asm) (by k_asm) (by k_asm) (by k_asm) (Rm.le (by first | assumption | (rename (∀ env, Rm _ _) => kR_m; exact kR_m _)) (by decide)) trivial ?_; intro v_m h_m tk_m led_m F_m N_m hv_m; obtain ⟨t_m, hv_m⟩ := hv_m; subst hv_m; (try k_sweep)) | (k_here; (with_reducible show wpAny _ _ (call (Value.ref 94) _ _) _ _ _); refine use_pur0 fspath_spec (by k_asm) (by k_asm) (by k_asm) (by k_asm) (Rm.le (by first | assumption | (rename (∀ env, Rm _ _) => kR_m; exact kR_m _)) (by decide)) trivial ?_; intro v_m h_m tk_m led_m F_m N_m hv_m; subst hv_m; (try k_sweep)) | ((with_reducible show wpAny _ _ (eval (Expr.Constant _ _ _) _) _ _ _); with_reducible first | refine cint ?_ | refine cstr ?_) | ((with_reducible show wpAny _ _ (eval (Expr.Name _ _) _) _ _ _); k_here; k_dflt (refine' nameX_L (hd := ?d) ?F ?v ?_ ?a ?b; (case F => k_asm); (case a => rfl); (case b => rfl); (case v => rfl); (case d => rfl); k_whole)) | ((with_reducible show wpAny _ _ (storeName _ _ _) _ _ _); k_here; k_dflt (refine' storeX_M ?F ?N ?_ ?a ?b; (case F => k_asm); (case N => k_asm); (case a => rfl); (case b => rfl); k_whole; intro h_m m_m F_m N_m; (try k_sweep))) | ((with_reducible show wpAny _ _ (exec _ _) _ _ _); k_fold) | (k_unfold; (try dsimp only)) | (k_end; kc_close) | walk1 | (dsimp only; walk1) | (leave1; (try dsimp only)) | fail "no step"))
  (with_reducible rename Fr _ _ _ _ => kF); (with_reducible rename News _ _ _ _ => kN)
  refine' for_itb (L := L) (J := fun i m nw => nw = [(V, { cls := .type "tuple", data := .seq [Value.str b tb].toArray })] ∧ (∃ t, m (Str.ofString "sep") = some (.str (Str.ofString "/") t)) ∧ ∃ t, m (Str.ofString "path") = some (.str (if i = 0 then a else joinF a b) t)) rfl (Itb.tuple (o := { cls := .type "tuple", data := .seq [Value.str b tb].toArray }) (R' _).hh rfl rfl) ?hx ?hp ?F ?N ?src ?h0 ?hJS ?turn ?done
  case F => exact kF
  case N => exact kN
  case hx => rfl
  case hp => rfl
  case src => exact .inr (.head _)
  case h0 => exact ⟨rfl, ⟨_, rfl⟩, ⟨_, rfl⟩⟩
  case hJS => intro i m nw hJ; rw [hJ.1]; exact .inr (.head _)
  case turn =>
    intro I i v m₁ nw₁ oI h tk hlt hi hP hJ hoff kF kN
    obtain ⟨rfl, ⟨t1, e1⟩, ⟨t2, e2⟩⟩ := hJ
    obtain rfl : i = 0 := by simpa using hi
    obtain rfl : v = .str b tb := by simpa using hP.symm
    simp only [if_true] at e2
    k_fold
    replace kF := frx (x := Str.ofString "sep") kF (show _ = some (Value.str _ t1) by repeat (first | exact e1 | refine mskip (by decide) ?_))
    replace kF := frx (x := Str.ofString "path") kF (show _ = some (Value.str _ t2) by repeat (first | exact e2 | refine mskip (by decide) ?_))
    (repeat' (first | ((with_reducible show wpAny _ _ _ _ _ (Shared.mk _ (Shared.gens _) _ _ _)); (with_reducible first | refine fl_c ?_ rfl | refine fl_a (by assumption) ?_ rfl | refine fl_b (by assumption) ?_ rfl); (fail_if_success (with_reducible show wpAny _ _ _ _ _ (Shared.mk _ (Shared.gens _) _ _ _)))) | ((with_reducible show wpAny _ _ _ _ _ (Shared.mk _ _ _ (_ + _ + _ + _) _)); (with_reducible refine tk_gen ?_); intro tk_m) | (k_here; (with_reducible show wpAny _ _ (call (Value.ref 94) _ _) _ _ _); refine use_pur0 fspath_spec (by k_asm) (by k_asm) (by k_asm) (by k_asm) (Rm.le (by first | assumption | (rename (∀ env, Rm _ _) => kR_m; exact kR_m _)) (by decide)) trivial ?_; intro v_m h_m tk_m led_m F_m N_m hv_m; subst hv_m; (try k_sweep)) | ((with_reducible show wpAny _ _ (eval (Expr.Constant _ _ _) _) _ _ _); with_reducible first | refine cint ?_ | refine cstr ?_) | ((with_reducible show wpAny _ _ (eval (Expr.Name _ _) _) _ _ _); k_here; k_dflt (refine' nameX_L (hd := ?d) ?F ?v ?_ ?a ?b; (case F => k_asm); (case a => rfl); (case b => rfl); (case v => rfl); (case d => rfl); k_whole)) | ((with_reducible show wpAny _ _ (storeName _ _ _) _ _ _); k_here; k_dflt (refine' storeX_M ?F ?N ?_ ?a ?b; (case F => k_asm); (case N => k_asm); (case a => rfl); (case b => rfl); k_whole; intro h_m m_m F_m N_m; (try k_sweep))) | ((with_reducible show wpAny _ _ (exec _ _) _ _ _); k_fold) | (k_unfold; (try dsimp only)) | (k_end; kc_close) | walk1 | (dsimp only; walk1) | (leave1; (try dsimp only)) | fail "no step"))
    all_goals (refine turn_next (by assumption) (by assumption) hoff ⟨rfl, ⟨_, rfl⟩, ⟨_, congrArg (fun x => some (Value.str x _)) ?_⟩⟩)
    all_goals (rw [if_neg (by decide)]; unfold joinF; simp only [*, if_true, if_false, Bool.false_eq_true])
  case done =>
    intro m' nw' h' tk hJ kF kN
    obtain ⟨rfl, ⟨t1, e1⟩, ⟨t2, e2⟩⟩ := hJ
    replace kF := frx (x := Str.ofString "path") kF e2
    (repeat' (first | ((with_reducible show wpAny _ _ _ _ _ (Shared.mk _ (Shared.gens _) _ _ _)); (with_reducible first | refine fl_c ?_ rfl | refine fl_a (by assumption) ?_ rfl | refine fl_b (by assumption) ?_ rfl); (fail_if_success (with_reducible show wpAny _ _ _ _ _ (Shared.mk _ (Shared.gens _) _ _ _)))) | ((with_reducible show wpAny _ _ _ _ _ (Shared.mk _ _ _ (_ + _ + _ + _) _)); (with_reducible refine tk_gen ?_); intro tk_m) | ((with_reducible show wpAny _ _ (eval (Expr.Constant _ _ _) _) _ _ _); with_reducible first | refine cint ?_ | refine cstr ?_) | ((with_reducible show wpAny _ _ (eval (Expr.Name _ _) _) _ _ _); k_here; k_dflt (refine' nameX_L (hd := ?d) ?F ?v ?_ ?a ?b; (case F => k_asm); (case a => rfl); (case b => rfl); (case v => rfl); (case d => rfl); k_whole)) | ((with_reducible show wpAny _ _ (storeName _ _ _) _ _ _); k_here; k_dflt (refine' storeX_M ?F ?N ?_ ?a ?b; (case F => k_asm); (case N => k_asm); (case a => rfl); (case b => rfl); k_whole; intro h_m m_m F_m N_m; (try k_sweep))) | ((with_reducible show wpAny _ _ (exec _ _) _ _ _); k_fold) | (k_unfold; (try dsimp only)) | (k_end; kc_close) | walk1 | (dsimp only; walk1) | (leave1; (try dsimp only)) | fail "no step"))
    exact ret _ _ _ [] (Fr.keep (by assumption)) noled ⟨_, rfl⟩

example : True := by w_top off; trivial
theorem splitroot_spec {w : World} {p : Str} {t : Tok} : Pur w 122 [.str p t] 2
    (fun _ => p.length ≤ 1000 ∧ (Txt.slice p none (some 1) != Str.ofString "/") = false ∧ (Txt.slice p (some 1) (some 2) != Str.ofString "/") = true)
    (fun v led => ∃ a t1 t2 t3, v = .ref a ∧ led = [(a, { cls := .type "tuple", data := .seq [Value.str Str.empty t1, .str (Str.ofString "/") t2, .str (Txt.slice p (some 1) none) t3].toArray })]) := by
  refine pur_of fun A Q E s0 gs dr tk0 ost G R hp ret => ?_
  obtain ⟨hp, h1, h2⟩ := hp
  obtain ⟨hd, dp, fr, gd, un⟩ := A; obtain rfl : hd = none := R.hh; obtain ⟨X, mean, mg, mb, T⟩ := id G
  have R' := fun env => R.deeper (env := env)
  refine enter G (R.le (by decide)) (by k_is) (by k_is) (BindsTo.of_eq (binds := [(Str.ofString "p", .str p t)]) rfl) (locs rfl) rfl rfl rfl (by decide) ?_
  intro L h₁ F N hL A1
  clear G hL
  k_fold
  (repeat' (first | ((with_reducible show wpAny _ _ _ _ _ (Shared.mk _ (Shared.gens _) _ _ _)); (with_reducible first | refine fl_c ?_ rfl | refine fl_a (by assumption) ?_ rfl | refine fl_b (by assumption) ?_ rfl); (fail_if_success (with_reducible show wpAny _ _ _ _ _ (Shared.mk _ (Shared.gens _) _ _ _)))) | ((with_reducible show wpAny _ _ _ _ _ (Shared.mk _ _ _ (_ + _ + _ + _) _)); (with_reducible refine tk_gen ?_); intro tk_m) | (k_here; (with_reducible show wpAny _ _ (call (Value.ref 94) _ _) _ _ _); refine use_pur0 fspath_spec (by k_asm) (by k_asm) (by k_asm) (by k_asm) (Rm.le (by first | assumption | (rename (∀ env, Rm _ _) => kR_m; exact kR_m _)) (by decide)) trivial ?_; intro v_m h_m tk_m led_m F_m N_m hv_m; subst hv_m; (try k_sweep)) | ((with_reducible show wpAny _ _ (eval (Expr.Constant _ _ _) _) _ _ _); with_reducible first | refine cint ?_ | refine cstr ?_) | ((with_reducible show wpAny _ _ (eval (Expr.Name _ _) _) _ _ _); k_here; k_dflt (refine' nameX_L (hd := ?d) ?F ?v ?_ ?a ?b; (case F => k_asm); (case a => rfl); (case b => rfl); (case v => rfl); (case d => rfl); k_whole)) | ((with_reducible show wpAny _ _ (storeName _ _ _) _ _ _); k_here; k_dflt (refine' storeX_M ?F ?N ?_ ?a ?b; (case F => k_asm); (case N => k_asm); (case a => rfl); (case b => rfl); k_whole; intro h_m m_m F_m N_m; (try k_sweep))) | ((with_reducible show wpAny _ _ (exec _ _) _ _ _); k_fold) | (k_unfold; (try dsimp only)) | (k_end; kc_close) | walk1 | (dsimp only; walk1) | (leave1; (try dsimp only)) | fail "no step"))
  all_goals first
    | exact ret _ _ _ _ (Fr.keep (by assumption)) (News.led (by assumption)) ⟨_, _, _, _, rfl, rfl⟩
    | (exfalso; rename_i q1 q2; simp_all; done)

example : True := by w_top off; trivial
noncomputable def normStep (acc : List Str) (c : Str) : List Str :=
  if (c.length : Int) = 0 then acc else if c = Str.ofString "." then acc
  else if c ≠ Str.ofString ".." then acc ++ [c] else if acc.getLast? = some (Str.ofString "..") then acc ++ [c] else acc.dropLast
noncomputable def compsOf (p : Str) : List Str := Txt.split (Txt.slice p (some 1) none) (Str.ofString "/")
noncomputable def normF (p : Str) : Str := Str.ofString "/" ++ Txt.join (Str.ofString "/") ((compsOf p).foldl normStep [])
section
variable {a : List Str} {acc : List (Str × Tok)} {c x : Str} {t : Tok}
theorem ns0 (h : (c.length : Int) = 0) : normStep a c = a := by unfold normStep; rw [if_pos h]
theorem ns1 (h0 : (c.length : Int) ≠ 0) (h : (c == Str.ofString ".") = true) : normStep a c = a := by unfold normStep; rw [if_neg h0, if_pos (eq_of_beq h)]
theorem ns2 (h0 : (c.length : Int) ≠ 0) (h1 : (c == Str.ofString ".") = false) (h2 : (c != Str.ofString "..") = true) : normStep a c = a ++ [c] := by
  unfold normStep; rw [if_neg h0, if_neg (by simpa using h1), if_pos (by simpa using h2)]
theorem ns3 (h0 : (c.length : Int) ≠ 0) (h1 : (c == Str.ofString ".") = false) (h2 : (c != Str.ofString "..") = false) (hl : acc.getLast? = some (x, t)) (hx : (x == Str.ofString "..") = true) : normStep (acc.map (·.1)) c = acc.map (·.1) ++ [c] := by
  unfold normStep; rw [if_neg h0, if_neg (by simpa using h1), if_neg (by simpa using h2), List.getLast?_map, hl, if_pos (by simpa using hx)]
theorem ns4 (h0 : (c.length : Int) ≠ 0) (h1 : (c == Str.ofString ".") = false) (h2 : (c != Str.ofString "..") = false) (hl : acc.getLast? = some (x, t)) (hx : (x == Str.ofString "..") = false) : normStep (acc.map (·.1)) c = acc.dropLast.map (·.1) := by
  unfold normStep; rw [if_neg h0, if_neg (by simpa using h1), if_neg (by simpa using h2), List.getLast?_map, hl, if_neg (by simpa using hx), List.map_dropLast]
theorem ns5 (h0 : (c.length : Int) ≠ 0) (h1 : (c == Str.ofString ".") = false) (h2 : (c != Str.ofString "..") = false) (hl : acc = []) : normStep (acc.map (·.1)) c = acc.map (·.1) := by
  subst hl; unfold normStep; rw [if_neg h0, if_neg (by simpa using h1), if_neg (by simpa using h2)]; rfl
end
theorem sum_len_le {l : List Str} (h : ∀ a ∈ l, a.length ≤ 1000) : (l.map (·.length)).sum ≤ 1000 * l.length := by
  induction l with
  | nil => simp
  | cons x r ih =>
    have h1 := h x (List.mem_cons_self ..)
    have h2 := ih fun a ha => h a (List.mem_cons_of_mem _ ha)
    simp only [List.map_cons, List.sum_cons, List.length_cons]
    omega
theorem strv_get {ls : List (Str × Tok)} {i : Nat} {v : Value} (h : (strValues ls).toArray[i]? = some v) : ∃ c tc, ls[i]? = some (c, tc) ∧ v = .str c tc := by
  simp only [List.getElem?_toArray, strValues, List.getElem?_map] at h
  cases e : ls[i]? with
  | none => rw [e] at h; cases h
  | some p => rw [e] at h; obtain ⟨c, tc⟩ := p; cases h; exact ⟨c, tc, rfl, rfl⟩
theorem fold_next {α β : Type} {f : β → α → β} {xs : List α} {i : Nat} {c : α} {b : β} (h : xs[i]? = some c) : (xs.take (i + 1)).foldl f b = f ((xs.take i).foldl f b) c := by
  rw [List.take_add_one, h]; simp
theorem normpath_spec {w : World} {p : Str} {t : Tok} : Pur w 136 [.str p t] 3
    (fun _ => p.length ≤ 1000 ∧ (p.length : Int) ≠ 0 ∧ (Txt.slice p none (some 1) != Str.ofString "/") = false ∧ (Txt.slice p (some 1) (some 2) != Str.ofString "/") = true)
    (fun v led => ∃ t, v = .str (normF p) t) := by
  refine pur_of fun A Q E s0 gs dr tk0 ost G R hp ret => ?_
  obtain ⟨hp, h0, h1, h2⟩ := hp
  obtain ⟨hd, dp, fr, gd, un⟩ := A; obtain rfl : hd = none := R.hh; obtain ⟨X, mean, mg, mb, T⟩ := id G
  have R' := fun env => R.deeper (env := env)
  refine enter G (R.le (by decide)) (by k_is) (by k_is) (BindsTo.of_eq (binds := [(Str.ofString "path", .str p t)]) rfl) (locs rfl) rfl rfl rfl (by decide) ?_
  intro L h₁ F N hL A1
  clear G hL
  k_fold
  (repeat' (first | ((with_reducible show wpAny _ _ _ _ _ (Shared.mk _ (Shared.gens _) _ _ _)); (with_reducible first | refine fl_c ?_ rfl | refine fl_a (by assumption) ?_ rfl | refine fl_b (by assumption) ?_ rfl); (fail_if_success (with_reducible show wpAny _ _ _ _ _ (Shared.mk _ (Shared.gens _) _ _ _)))) | ((with_reducible show wpAny _ _ _ _ _ (Shared.mk _ _ _ (_ + _ + _ + _) _)); (with_reducible refine tk_gen ?_); intro tk_m) | (k_here; (with_reducible show wpAny _ _ (call (Value.ref 122) _ _) _ _ _); refine use_pur splitroot_spec (by k_asm) (by k_asm) (by k_asm) (by k_asm) (Rm.le (by first | assumption | (rename (∀ env, Rm _ _) => kR_m; exact kR_m _)) (by decide)) ⟨by omega, by assumption, by assumption⟩ ?_; intro v_m h_m tk_m led_m F_m N_m hd_m hv_m; obtain ⟨a_m, t1_m, t2_m, t3_m, hv_m, hl_m⟩ := hv_m; subst hv_m hl_m; (simp only [List.cons_append, List.nil_append] at N_m); (try k_sweep)) | ((with_reducible show wpAny _ _ (exec (Stmt.For (Expr.Name _ _) (Expr.Name _ _) (_ :: _) [] _) _) _ _ _); (k_here; k_dflt (refine wpAny_For ?_))) | (k_here; (with_reducible show wpAny _ _ (call (Value.ref 94) _ _) _ _ _); refine use_pur0 fspath_spec (by k_asm) (by k_asm) (by k_asm) (by k_asm) (Rm.le (by first | assumption | (rename (∀ env, Rm _ _) => kR_m; exact kR_m _)) (by decide)) trivial ?_; intro v_m h_m tk_m led_m F_m N_m hv_m; subst hv_m; (try k_sweep)) | ((with_reducible show wpAny _ _ (eval (Expr.Constant _ _ _) _) _ _ _); with_reducible first | refine cint ?_ | refine cstr ?_) | ((with_reducible show wpAny _ _ (eval (Expr.Name _ _) _) _ _ _); k_here; k_dflt (refine' nameX_L (hd := ?d) ?F ?v ?_ ?a ?b; (case F => k_asm); (case a => rfl); (case b => rfl); (case v => rfl); (case d => rfl); k_whole)) | ((with_reducible show wpAny _ _ (storeName _ _ _) _ _ _); k_here; k_dflt (refine' storeX_M ?F ?N ?_ ?a ?b; (case F => k_asm); (case N => k_asm); (case a => rfl); (case b => rfl); k_whole; intro h_m m_m F_m N_m; (try k_sweep))) | ((with_reducible show wpAny _ _ (exec _ _) _ _ _); k_fold) | (k_unfold; (try dsimp only)) | (k_end; kc_close) | walk1 | (dsimp only; walk1) | (leave1; (try dsimp only)) | fail "no step"))
  · (with_reducible rename Fr _ _ _ _ => kF); (with_reducible rename News _ _ _ _ => kN); (rename List (Str × Tok) => ls); (rename List.map _ _ = Txt.split _ _ => hls)
    refine' for_1 (L := L) [Str.ofString "comp"] (fun i m o => ∃ acc k, o = W.listOf (strValues acc).toArray k ∧ acc.map (·.1) = ((compsOf p).take i).foldl normStep [] ∧ acc.length ≤ i ∧ ∀ a ∈ acc.map (·.1), a.length ≤ 1000)
      rfl (Itb.list (o := { cls := .type "list", data := .seq (strValues ls).toArray }) rfl rfl rfl) rfl rfl ?F ?N ?src ?h0 ?turn ?done
    case F => exact kF
    case N => exact kN
    case src => exact .inr (.head _)
    case h0 => exact ⟨[], 0, rfl, rfl, Nat.le_refl _, fun _ h => nomatch h⟩
    case turn =>
      intro I i v m₁ o₁ oI h tk hlt hi hP hJ kF kN
      k_fold
      obtain ⟨acc, k, rfl, hacc, hal, hab⟩ := hJ
      obtain ⟨c, tc, hc1, hc2⟩ := strv_get hP
      subst hc2
      have hcl : c.length ≤ 1000 := Nat.le_trans ((by assumption : ∀ a ∈ ls.map (·.1), a.length ≤ (Txt.slice p (some 1) none).length) c (List.mem_map.mpr ⟨_, List.mem_of_getElem? hc1, rfl⟩)) (Nat.le_trans (Txt.slice_le _ _ _) hp)
      have hcc : (compsOf p)[i]? = some c := by unfold compsOf; rw [← hls, List.getElem?_map, hc1]; rfl
      have hil : i < 1002 := by
        have h3 := split_le (Txt.slice p (some 1) none) (Str.ofString "/")
        rw [← hls, List.length_map] at h3
        have h4 := Txt.slice_le p (some 1) none
        rw [List.size_toArray, strv_len] at hi
        omega
      k_lt hlt
      clear hP hi
      (repeat' (first | ((with_reducible show wpAny _ _ _ _ _ (Shared.mk _ (Shared.gens _) _ _ _)); (with_reducible first | refine fl_c ?_ rfl | refine fl_a (by assumption) ?_ rfl | refine fl_b (by assumption) ?_ rfl); (fail_if_success (with_reducible show wpAny _ _ _ _ _ (Shared.mk _ (Shared.gens _) _ _ _)))) | ((with_reducible show wpAny _ _ _ _ _ (Shared.mk _ _ _ (_ + _ + _ + _) _)); (with_reducible refine tk_gen ?_); intro tk_m) | (k_here; (with_reducible show wpAny _ _ (subscriptTail _ _ (Value.ref _) (Value.int _ _)) _ _ _); (with_unfolding_all refine' neg1_strs ?k1 ?k2 ?k3 ?_ ?k6; (case k1 => k_asm); (case k2 => k_mem); (case k3 => assumption); (case k6 => with_unfolding_all rfl); k_whole); intro x_m t_m hl_m) | (k_here; (with_reducible show wpAny _ _ (call (Value.builtin "list.pop") [Value.ref _]) _ _ _); k_dflt (refine' pop_strs ?k1 ?k2 ?k3 ?k4 ?z ?_; (case k1 => k_asm); (case k2 => k_asm); (case k3 => k_upd); (case k4 => assumption); (case z => first | assumption | omega); k_whole); intro h_m x_m t_m hl_m F_m N_m; clear hl_m; (try k_sweep)) | ((with_reducible show wpAny _ _ (truthy (Value.ref _)) _ _ _); (k_here; k_dflt (refine' truthy_strs ?k1 ?k2 ?z ?_ ?_; (case k1 => k_asm); (case k2 => k_mem); (case z => first | assumption | omega)) <;> intro he_m)) | (k_here; (with_reducible show wpAny _ _ (call (Value.builtin "list.append") [Value.ref _, Value.str _ _]) _ _ _); k_dflt (refine' append_strs ?k1 ?k2 ?k3 ?z ?_; (case k1 => k_asm); (case k2 => k_asm); (case k3 => k_upd); (case z => first | assumption | omega | (simp only [List.length_append, List.length_singleton, List.length_nil, List.length_cons]; omega)); k_whole); intro h_m F_m N_m; (try k_sweep)) | ((with_reducible show wpAny _ _ (eval (Expr.Constant _ _ _) _) _ _ _); with_reducible first | refine cint ?_ | refine cstr ?_) | ((with_reducible show wpAny _ _ (eval (Expr.Name _ _) _) _ _ _); k_here; k_dflt (refine' nameX_L (hd := ?d) ?F ?v ?_ ?a ?b; (case F => k_asm); (case a => rfl); (case b => rfl); (case v => rfl); (case d => rfl); k_whole)) | ((with_reducible show wpAny _ _ (storeName _ _ _) _ _ _); k_here; k_dflt (refine' storeX_M ?F ?N ?_ ?a ?b; (case F => k_asm); (case N => k_asm); (case a => rfl); (case b => rfl); k_whole; intro h_m m_m F_m N_m; (try k_sweep))) | ((with_reducible show wpAny _ _ (exec _ _) _ _ _); k_fold) | (k_unfold; (try dsimp only)) | (k_end; kc_close) | walk1 | (dsimp only; walk1) | (leave1; (try dsimp only)) | fail "no step"))
      all_goals first
        | exact absurd (by assumption : acc = []) (by assumption)
        | (first | refine t1_next (by assumption) (by assumption) (fun p hp => hp) ?_ ⟨_, _, rfl, ?_, ?_, ?_⟩ | refine t1_cont (by assumption) (by assumption) (fun p hp => hp) ?_ ⟨_, _, rfl, ?_, ?_, ?_⟩)
      all_goals first
        | (intro z hz; (repeat refine out_st (contains_ne hz (by rfl)) ?_); simp only [mid, hz]; rfl)
        | (rw [fold_next hcc, ← hacc]; first | rw [ns0 (by assumption)] | rw [ns1 (by assumption) (by assumption)] | (rw [ns2 (by assumption) (by assumption) (by assumption), List.map_append]; rfl) | (rw [ns3 (by assumption) (by assumption) (by assumption) (by assumption) (by assumption), List.map_append]; rfl) | rw [ns4 (by assumption) (by assumption) (by assumption) (by assumption) (by assumption)] | rw [ns5 (by assumption) (by assumption) (by assumption) (by assumption)])
        | omega
        | (simp only [List.length_append, List.length_singleton, List.length_dropLast]; omega)
        | assumption
        | (intro a ha; rw [List.map_append] at ha; rcases List.mem_append.mp ha with ha | ha; exact hab a ha; (obtain rfl := List.mem_singleton.mp ha; exact hcl))
        | (intro a ha; rw [List.map_dropLast] at ha; exact hab a ((List.dropLast_sublist _).subset ha))
    case done =>
      intro m₁ o₁ h' tk hJ kF kN
      obtain ⟨acc, k, rfl, hacc, hal, hab⟩ := hJ
      have hal2 : acc.length ≤ 1002 := by
        have h3 := split_le (Txt.slice p (some 1) none) (Str.ofString "/")
        rw [← hls, List.length_map] at h3
        have h4 := Txt.slice_le p (some 1) none
        rw [List.size_toArray, strv_len] at hal
        omega
      have hJO : JoinOk (Str.ofString "/") (acc.map (·.1)) = true := by
        refine joinOk_of_weight ?_ (by decide)
        have h5 := sum_len_le hab
        rw [List.length_map] at h5 ⊢
        omega
      have hJL : (Txt.join (Str.ofString "/") (acc.map (·.1))).length ≤ 1100000 := by
        show (PySem.Builtin.Str.glued _ _).length ≤ _
        rw [PySem.size_glued]
        have h5 := sum_len_le hab
        rw [List.length_map] at h5 ⊢
        have h6 : (Str.ofString "/").length = 1 := by decide +kernel
        rw [h6]
        omega
      have hls' : (strValues ls).toArray.size = (compsOf p).length := by unfold compsOf; rw [List.size_toArray, strv_len, ← hls, List.length_map]
      rw [hls', List.take_length] at hacc
      (repeat' (first | ((with_reducible show wpAny _ _ _ _ _ (Shared.mk _ (Shared.gens _) _ _ _)); (with_reducible first | refine fl_c ?_ rfl | refine fl_a (by assumption) ?_ rfl | refine fl_b (by assumption) ?_ rfl); (fail_if_success (with_reducible show wpAny _ _ _ _ _ (Shared.mk _ (Shared.gens _) _ _ _)))) | ((with_reducible show wpAny _ _ _ _ _ (Shared.mk _ _ _ (_ + _ + _ + _) _)); (with_reducible refine tk_gen ?_); intro tk_m) | (k_here; (with_reducible show wpAny _ _ (call (Value.builtin "str.join") [Value.str _ _, Value.ref _]) _ _ _); k_dflt (refine SC.join (News.isList (by k_asm) (by k_mem)) rfl (by assumption) ?_); intro t_m k_m) | ((with_reducible show wpAny _ _ (eval (Expr.Constant _ _ _) _) _ _ _); with_reducible first | refine cint ?_ | refine cstr ?_) | ((with_reducible show wpAny _ _ (eval (Expr.Name _ _) _) _ _ _); k_here; k_dflt (refine' nameX_L (hd := ?d) ?F ?v ?_ ?a ?b; (case F => k_asm); (case a => rfl); (case b => rfl); (case v => rfl); (case d => rfl); k_whole)) | ((with_reducible show wpAny _ _ (storeName _ _ _) _ _ _); k_here; k_dflt (refine' storeX_M ?F ?N ?_ ?a ?b; (case F => k_asm); (case N => k_asm); (case a => rfl); (case b => rfl); k_whole; intro h_m m_m F_m N_m; (try k_sweep))) | ((with_reducible show wpAny _ _ (exec _ _) _ _ _); k_fold) | (k_unfold; (try dsimp only)) | (k_end; kc_close) | walk1 | (dsimp only; walk1) | (leave1; (try dsimp only)) | fail "no step"))
      · refine ret _ _ _ [] (Fr.keep (by assumption)) noled ⟨_, congrArg (fun x => Value.str x _) ?_⟩
        unfold normF; rw [hacc]
      all_goals (exfalso; have h6 : (Str.ofString "/").length = 1 := by decide +kernel
                 omega)
  · exfalso; omega

noncomputable def pathL : List Nat → List Nat
  | [] => [47]
  | c :: r => (c :: r).flatMap fun c => [47, 97 + c]
noncomputable def pathS (q : List Nat) : Str := mk (pathL q)
theorem lst_pathS (q : List Nat) : lst (pathS q) = pathL q := rfl
noncomputable def lets (q : List Nat) : List (List Nat) := q.map fun c => [97 + c]
theorem lets_append (q r : List Nat) : lets (q ++ r) = lets q ++ lets r := List.map_append ..
theorem lets_len (q : List Nat) : (lets q).length = q.length := List.length_map ..
theorem lets_cons_ne (c : Nat) (q : List Nat) : lets (c :: q) ≠ [] := by simp [lets]
theorem mem_lets {q : List Nat} {p : List Nat} (h : p ∈ lets q) : ∃ c ∈ q, p = [97 + c] := by obtain ⟨c, hc, rfl⟩ := List.mem_map.mp h; exact ⟨c, hc, rfl⟩
theorem pathL_cons (c : Nat) (r : List Nat) : pathL (c :: r) = 47 :: joinL (lets (c :: r)) := by
  show ((c :: r).flatMap fun c => [47, 97 + c]) = _
  induction r generalizing c with
  | nil => rfl
  | cons d r ih =>
    rw [List.flatMap_cons, ih d]
    rw [show lets (c :: d :: r) = [97 + c] :: lets (d :: r) from rfl, joinL_cons (lets_cons_ne _ _)]
    rfl
theorem pathL_ne {q : List Nat} (h : q ≠ []) : pathL q = 47 :: joinL (lets q) := by
  cases q with
  | nil => exact absurd rfl h
  | cons c r => exact pathL_cons c r
theorem pathL_snoc (q : List Nat) (c : Nat) : pathL (q ++ [c]) = 47 :: joinL (lets (q ++ [c])) := pathL_ne (by simp)
theorem lets_ne {q : List Nat} (h : q ≠ []) : lets q ≠ [] := by simpa [lets] using h
theorem joinL_last {parts : List (List Nat)} {p : List Nat} (h : parts ≠ []) : joinL (parts ++ [p]) = joinL parts ++ 47 :: p := by rw [joinL_append h (by simp)]; rfl
theorem pathL_app {q r : List Nat} (hr : r ≠ []) (hq : q ≠ []) : pathL (q ++ r) = pathL q ++ pathL r := by
  rw [pathL_ne (by simp [hq]), pathL_ne hq, pathL_ne hr, lets_append, joinL_append (lets_ne hq) (lets_ne hr)]; rfl
theorem pathL_len (q : List Nat) (h : q ≠ []) : (pathL q).length = 2 * q.length := by
  cases q with
  | nil => exact absurd rfl h
  | cons c r =>
    show ((c :: r).flatMap fun c => [47, 97 + c]).length = _
    generalize c :: r = l
    induction l with
    | nil => rfl
    | cons d l ih => rw [List.flatMap_cons, List.length_append, ih]; simp; omega
theorem pathL_len_le (q : List Nat) : (pathL q).length ≤ 2 * q.length + 1 := by
  cases q with
  | nil => simp [pathL]
  | cons c r => rw [pathL_len _ (by simp)]; omega
theorem joinL_len {parts : List (List Nat)} (h : ∀ p ∈ parts, p.length ≤ 2) : (joinL parts).length ≤ 3 * parts.length := by
  induction parts with
  | nil => simp [joinL]
  | cons x r ih =>
    have h1 := h x (List.mem_cons_self ..)
    have h2 := ih fun p hp => h p (List.mem_cons_of_mem _ hp)
    cases r with
    | nil => simp [joinL]; omega
    | cons y r => rw [joinL_cons (by simp)]; simp only [List.length_append, List.length_cons] at h2 ⊢; omega
theorem joinF_path {q : List Nat} {b : Str} {parts : List (List Nat)} (hb : lst b = joinL parts) (hn : parts ≠ []) (hh : (joinL parts).head? ≠ some 47) : lst (joinF (pathS q) b) = 47 :: joinL (lets q ++ parts) := by
  unfold joinF
  rw [starts_slash, hb, if_neg (by simpa using hh), ends_slash, lst_pathS]
  cases q with
  | nil =>
    rw [if_neg (by show ¬ (((1 : Nat) : Int) = 0); decide), if_pos (by decide), lst_append, hb]; rfl
  | cons c r =>
    have hl : (pathL (c :: r)).getLast? ≠ some 47 := by
      rcases List.eq_nil_or_concat (c :: r) with h | ⟨s, d, h⟩
      · cases h
      · rw [List.concat_eq_append] at h
        rw [h, pathL_snoc]
        cases s with
        | nil => simp [joinL, lets]; omega
        | cons e s => rw [lets_append, joinL_append (lets_cons_ne _ _) (lets_cons_ne _ _)]; simp [joinL, lets, List.getLast?_cons, List.getLast?_append]; omega
    rw [if_neg (by rw [len_lst, lst_pathS, pathL_cons]; simp only [List.length_cons]; omega), if_neg (by simpa using hl), lst_append, lst_append, hb, slash_is, lst_slash, lst_pathS, pathL_cons, joinL_append (lets_cons_ne _ _) hn]; rfl
theorem comps_eq {p : Str} {parts : List (List Nat)} (h : lst p = 47 :: joinL parts) (hn : parts ≠ []) (hf : ∀ p ∈ parts, 47 ∉ p) : compsOf p = parts.map mk := by
  unfold compsOf
  exact split_eq hn hf (by rw [show (1 : Int) = ((1 : Nat) : Int) from rfl, slice_an, h]; rfl)
theorem nsE (acc : List Str) : normStep acc (mk []) = acc := ns0 rfl
theorem nsD (acc : List Str) : normStep acc (mk [46]) = acc := ns1 (by decide) (by decide +kernel)
theorem nsL (acc : List Str) (c : Nat) : normStep acc (mk [97 + c]) = acc ++ [mk [97 + c]] := by
  have ne : ∀ y : Str, lst y ≠ [97 + c] → mk [97 + c] ≠ y := fun y h e => h (by rw [← e, lst_mk])
  have d1 : lst (Str.ofString ".") = [46] := by decide +kernel
  have d2 : lst (Str.ofString "..") = [46, 46] := by decide +kernel
  unfold normStep
  rw [if_neg (by show ¬ (((1 : Nat) : Int) = 0); decide), if_neg (ne _ (by rw [d1]; simp; omega)), if_pos (ne _ (by rw [d2]; simp))]
theorem nsP (acc : List Str) (h : ∀ a ∈ acc, a ≠ Str.ofString "..") : normStep acc (mk [46, 46]) = acc.dropLast := by
  have d1 : mk [46, 46] ≠ Str.ofString "." := by decide +kernel
  have d2 : mk [46, 46] = Str.ofString ".." := by decide +kernel
  unfold normStep
  rw [if_neg (by show ¬ (((2 : Nat) : Int) = 0); decide), if_neg d1, if_neg (by simpa using d2), if_neg]
  intro e
  exact h _ (List.mem_of_getLast? e) rfl
theorem letters_ne (q : List Nat) : ∀ a ∈ (lets q).map mk, a ≠ Str.ofString ".." := by
  intro a ha e
  obtain ⟨l, hl, rfl⟩ := List.mem_map.mp ha
  obtain ⟨c, _, rfl⟩ := mem_lets hl
  have d2 : lst (Str.ofString "..") = [46, 46] := by decide +kernel
  rw [← e, lst_mk] at d2; simp at d2
theorem ns_lets (q : List Nat) (acc : List Str) : ((lets q).map mk).foldl normStep acc = acc ++ (lets q).map mk := by
  induction q generalizing acc with
  | nil => simp [lets]
  | cons c r ih =>
    show (((lets r).map mk).foldl normStep (normStep acc (mk [97 + c]))) = _
    rw [nsL, ih]; simp [lets]
theorem ns_pops (n : Nat) (q : List Nat) (h : q.length ≤ n) : ((List.replicate n [46, 46]).map mk).foldl normStep ((lets q).map mk) = [] := by
  induction n generalizing q with
  | zero => have : q = [] := List.length_eq_zero_iff.mp (by omega); subst this; rfl
  | succ n ih =>
    rw [List.replicate_succ, List.map_cons, List.foldl_cons, nsP _ (letters_ne q)]
    have : ((lets q).map mk).dropLast = (lets q.dropLast).map mk := by simp [lets, List.map_dropLast]
    rw [this]
    exact ih q.dropLast (by rw [List.length_dropLast]; omega)
noncomputable def AheadOk (q : List Nat) (a : List (List Nat)) : Prop :=
  a = [] ∨ a = [[46]] ∨ a = [[120], [46, 46]] ∨ a = [[46], [], [46]] ∨ a = List.replicate 12 [46, 46] ++ (if q = [] then [[]] else lets q)
theorem ahead_fold {q : List Nat} {a : List (List Nat)} (h : AheadOk q a) (hq : q.length ≤ 12) : (a.map mk).foldl normStep ((lets q).map mk) = (lets q).map mk := by
  rcases h with rfl | rfl | rfl | rfl | rfl
  · rfl
  · exact nsD _
  · show normStep (normStep _ (mk [97 + 23])) (mk [46, 46]) = _
    rw [nsL, nsP _ (fun a ha => ?_), List.dropLast_concat]
    rcases List.mem_append.mp ha with ha | ha
    · exact letters_ne q a ha
    · rw [List.mem_singleton.mp ha]; decide +kernel
  · show normStep (normStep (normStep _ (mk [46])) (mk [])) (mk [46]) = _
    rw [nsD, nsE]; exact nsD _
  · rw [List.map_append, List.foldl_append, ns_pops 12 q hq]
    split
    · rename_i e; subst e; exact nsE _
    · rw [ns_lets]; rfl
theorem ahead_parts {q : List Nat} {a : List (List Nat)} (h : AheadOk q a) (hq : q.length ≤ 12) : (∀ p ∈ a, 47 ∉ p ∧ p.length ≤ 2) ∧ a.length ≤ 24 := by
  rcases h with rfl | rfl | rfl | rfl | rfl
  · simp
  · simp
  · simp
  · simp
  · refine ⟨fun p hp => ?_, ?_⟩
    · rcases List.mem_append.mp hp with hp | hp
      · rw [List.eq_of_mem_replicate hp]; decide
      · split at hp
        · rw [List.mem_singleton.mp hp]; simp
        · obtain ⟨c, _, rfl⟩ := mem_lets hp
          constructor
          · simp; omega
          · simp
    · rw [List.length_append, List.length_replicate]
      split
      · simp
      · rw [lets_len]; omega
theorem ahead_head {q : List Nat} {a : List (List Nat)} {i : Nat} {e : List (List Nat)} (h : AheadOk q a) : (joinL (a ++ [[97 + i]] ++ e)).head? ≠ some 47 := by
  have key : ∀ (x : List Nat) (r : List (List Nat)), x ≠ [] → x.head? ≠ some 47 → (joinL (x :: r)).head? ≠ some 47 := by
    intro x r hx hh
    cases r with
    | nil => exact hh
    | cons y r => rw [joinL_cons (by simp)]; cases x with
      | nil => exact absurd rfl hx
      | cons c x => exact hh
  rcases h with rfl | rfl | rfl | rfl | rfl
  · exact key _ _ (by simp) (by simp; omega)
  · exact key _ _ (by simp) (by simp)
  · exact key _ _ (by simp) (by simp)
  · exact key _ _ (by simp) (by simp)
  · exact key _ _ (by simp) (by simp)
theorem np_main {q : List Nat} {a e : List (List Nat)} {i : Nat} {b : Str} (hA : AheadOk q a) (hq : q.length ≤ 12) (he : e = [] ∨ e = [[]]) (hb : lst b = joinL (a ++ [[97 + i]] ++ e)) :
    normF (joinF (pathS q) b) = pathS (q ++ [i]) ∧ (joinF (pathS q) b).length ≤ 1000 ∧ ((joinF (pathS q) b).length : Int) ≠ 0 ∧ (Txt.slice (joinF (pathS q) b) none (some 1) != Str.ofString "/") = false ∧ (Txt.slice (joinF (pathS q) b) (some 1) (some 2) != Str.ofString "/") = true := by
  obtain ⟨hp1, hp2⟩ := ahead_parts hA hq
  have hh := ahead_head (i := i) (e := e) hA
  have hn : a ++ [[97 + i]] ++ e ≠ [] := by simp
  have hJ := joinF_path (q := q) hb hn hh
  have hef : ∀ p ∈ e, 47 ∉ p ∧ p.length ≤ 2 := by
    rcases he with rfl | rfl
    · simp
    · simp
  have hall : ∀ p ∈ lets q ++ (a ++ [[97 + i]] ++ e), 47 ∉ p ∧ p.length ≤ 2 := by
    intro p hp
    rcases List.mem_append.mp hp with hp | hp
    · obtain ⟨c, _, rfl⟩ := mem_lets hp
      exact ⟨by simp; omega, by simp⟩
    · rcases List.mem_append.mp hp with hp | hp
      · rcases List.mem_append.mp hp with hp | hp
        · exact hp1 p hp
        · rw [List.mem_singleton.mp hp]; exact ⟨by simp; omega, by simp⟩
      · exact hef p hp
  have hn2 : lets q ++ (a ++ [[97 + i]] ++ e) ≠ [] := by simp
  have hlen := joinL_len fun p hp => (hall p hp).2
  have hel : e.length ≤ 1 := by rcases he with rfl | rfl <;> simp
  refine ⟨?_, ?_, ?_, ?_, ?_⟩
  · apply str_ext
    unfold normF
    rw [comps_eq hJ hn2 fun p hp => (hall p hp).1, lst_append, join_eq, slash_is, List.map_append, List.foldl_append, ns_lets, List.nil_append, List.map_append, List.map_append, List.foldl_append, List.foldl_append, ahead_fold hA hq]
    have e1 : (e.map mk).foldl normStep (([[97 + i]].map mk).foldl normStep ((lets q).map mk)) = (lets (q ++ [i])).map mk := by
      have e2 : ([[97 + i]].map mk).foldl normStep ((lets q).map mk) = (lets (q ++ [i])).map mk := by
        show normStep _ (mk [97 + i]) = _
        rw [nsL, lets_append, List.map_append]; rfl
      rw [e2]
      rcases he with rfl | rfl
      · rfl
      · exact nsE _
    rw [e1, lst_slash, lst_pathS, pathL_snoc, List.map_map]
    show 47 :: joinL ((lets (q ++ [i])).map id) = _
    rw [List.map_id]
  · rw [len_lst, hJ, List.length_cons]
    simp only [List.length_append, lets_len, List.length_singleton] at hlen
    omega
  · rw [len_lst, hJ, List.length_cons]; omega
  · have : Txt.slice (joinF (pathS q) b) none (some 1) = Str.ofString "/" := by
      apply str_ext; rw [show (1 : Int) = ((1 : Nat) : Int) from rfl, slice_nb, hJ, slash_is, lst_slash]; rfl
    rw [this]; decide +kernel
  · have : Txt.slice (joinF (pathS q) b) (some 1) (some 2) ≠ Str.ofString "/" := by
      intro e'
      have e2 := congrArg lst e'
      rw [show (1 : Int) = ((1 : Nat) : Int) from rfl, show (2 : Int) = ((2 : Nat) : Int) from rfl, slice_ab, hJ, slash_is, lst_slash] at e2
      have e3 : (joinL (lets q ++ (a ++ [[97 + i]] ++ e))).take 1 = [47] := by simpa using e2
      have e4 : (joinL (lets q ++ (a ++ [[97 + i]] ++ e))).head? = some 47 := by
        generalize joinL (lets q ++ (a ++ [[97 + i]] ++ e)) = l at e3
        cases l with
        | nil => cases e3
        | cons c l => simp at e3; rw [e3]; rfl
      cases q with
      | nil => exact hh e4
      | cons c r =>
        rw [joinL_append (lets_cons_ne _ _) hn] at e4
        cases r with
        | nil => simp [joinL, lets] at e4; omega
        | cons d r => rw [show lets (c :: d :: r) = [97 + c] :: lets (d :: r) from rfl, joinL_cons (lets_cons_ne _ _)] at e4; simp at e4; omega
    simpa using this

theorem at_slash (x : Str) (i : Nat) : StrLaws.At x ⟨#[47]⟩ x.length i ↔ (lst x)[i]? = some 47 := StrLaws.subAt_one x 47 i
theorem rfind_slash {x : Str} {a b : List Nat} (h : lst x = a ++ 47 :: b) (hb : 47 ∉ b) : Txt.rfind x (Str.ofString "/") = (a.length : Int) := by
  rw [slash_is]
  have hAt : StrLaws.At x ⟨#[47]⟩ x.length a.length := (at_slash x _).mpr (by rw [h]; simp)
  rcases rfind_whole x ⟨#[47]⟩ with ⟨_, hn⟩ | ⟨i, e, hi, hn⟩
  · exact absurd hAt (hn _)
  · rw [e]
    have h1 : ¬ a.length > i := fun g => hn _ g hAt
    have h2 : ¬ i > a.length := by
      intro g
      have := (at_slash x i).mp hi
      rw [h, List.getElem?_append_right (by omega)] at this
      obtain ⟨j, hj⟩ : ∃ j, i - a.length = j + 1 := ⟨i - a.length - 1, by omega⟩
      rw [hj, List.getElem?_cons_succ] at this
      exact hb (List.mem_of_getElem? this)
    omega
theorem rstrip_slash {l : List Nat} {k : Nat} (h : l.getLast? ≠ some 47) : Txt.rstripChars (mk (l ++ List.replicate k 47)) (Str.ofString "/") = mk l := by
  have hd : Txt.rstripChars (mk (l ++ List.replicate k 47)) (Str.ofString "/") = Builtin.Str.strSub (mk (l ++ List.replicate k 47)) (stripLo (Str.ofString "/").cps.contains false (mk (l ++ List.replicate k 47))) (stripHi (Str.ofString "/").cps.contains true (mk (l ++ List.replicate k 47)) (stripLo (Str.ofString "/").cps.contains false (mk (l ++ List.replicate k 47)))) := by
    unfold Txt.rstripChars; rw [PyProof.Rows.stripBy_eq]
  rw [hd]
  apply str_ext
  rw [show ∀ (y : Str) (i j : Nat), lst (Builtin.Str.strSub y i j) = ((lst y).drop i).take (j - i) from StrLaws.strSub_toList]
  have hg : ∀ c, (Str.ofString "/").cps.contains c = decide (c = 47) := fun c => by rw [slash_is]; simp [Bool.beq_eq_decide_eq]
  have hT : ((lst (mk (l ++ List.replicate k 47))).drop 0).reverse.takeWhile (Str.ofString "/").cps.contains = List.replicate k 47 := by
    rw [lst_mk, List.drop_zero, List.reverse_append, List.reverse_replicate, List.takeWhile_append_of_pos (fun c hc => by rw [List.eq_of_mem_replicate hc, hg]; rfl)]
    have : l.reverse.takeWhile (Str.ofString "/").cps.contains = [] := by
      cases e : l.reverse with
      | nil => rfl
      | cons c r =>
        have : l.getLast? = some c := by rw [← List.head?_reverse, e]; rfl
        rw [List.takeWhile_cons, hg, if_neg]
        intro q; rw [this, of_decide_eq_true q] at h; exact h rfl
    rw [this, List.append_nil]
  have hlo : stripLo (Str.ofString "/").cps.contains false (mk (l ++ List.replicate k 47)) = 0 := rfl
  rw [hlo]
  have hhi : stripHi (Str.ofString "/").cps.contains true (mk (l ++ List.replicate k 47)) 0 = l.length := by
    unfold stripHi
    rw [if_pos rfl, show (mk (l ++ List.replicate k 47)).cps.toList = lst (mk (l ++ List.replicate k 47)) from rfl, hT, len_lst, lst_mk]
    simp
  rw [hhi, lst_mk, lst_mk, List.drop_zero, Nat.sub_zero, List.take_left']
  rfl
theorem pathL_last {q : List Nat} (h : q ≠ []) : (pathL q).getLast? ≠ some 47 := by
  rcases List.eq_nil_or_concat q with e | ⟨s, d, e⟩
  · exact absurd e h
  · rw [List.concat_eq_append] at e
    rw [e, pathL_snoc]
    cases s with
    | nil => simp [joinL, lets]; omega
    | cons e s => rw [lets_append, joinL_append (lets_cons_ne _ _) (lets_cons_ne _ _)]; simp [joinL, lets, List.getLast?_cons, List.getLast?_append]; omega
theorem pathL_two {q : List Nat} (h : q ≠ []) : ∃ c r, pathL q = 47 :: (97 + c) :: r := by
  cases q with
  | nil => exact absurd rfl h
  | cons c r => exact ⟨c, r.flatMap fun c => [47, 97 + c], rfl⟩
theorem mul_slash (n : Nat) : lst (Txt.mul (Str.ofString "/") (n : Int)) = List.replicate n 47 := by
  unfold Txt.mul
  rw [slash_is]
  by_cases h0 : (n : Int) < 1
  · have : n = 0 := by omega
    subst this; rfl
  · rw [if_neg h0]
    split
    · rename_i h1
      have : n = 1 := by
        rcases Bool.or_eq_true_iff.mp h1 with h1 | h1
        · have := eq_of_beq h1; omega
        · exact absurd h1 (by decide)
      subst this; rfl
    · show ((List.replicate (n : Int).toNat #[47]).foldl (· ++ ·) #[]).toList = _
      rw [Int.toNat_natCast]
      have key : ∀ (k : Nat) (acc : Array Nat), ((List.replicate k #[47]).foldl (· ++ ·) acc).toList = acc.toList ++ List.replicate k 47 := by
        intro k
        induction k with
        | zero => intro acc; simp
        | succ k ih => intro acc; rw [List.replicate_succ, List.foldl_cons, ih, List.replicate_succ]; simp
      exact key n #[]
theorem dirnameF_cut {p : Str} {q : List Nat} {k c : Nat} (hq : q ≠ []) (h : lst p = pathL q ++ List.replicate (k + 1) 47 ++ [97 + c]) : dirnameF p = pathS q := by
  have hr : Txt.rfind p (Str.ofString "/") = (((pathL q ++ List.replicate k 47).length : Nat) : Int) := by
    refine rfind_slash (b := [97 + c]) ?_ (by simp; omega)
    rw [h, List.replicate_succ']; simp
  have hs : Txt.slice p none (some (Txt.rfind p (Str.ofString "/") + 1)) = mk (pathL q ++ List.replicate (k + 1) 47) := by
    apply str_ext
    have e1 : (((pathL q ++ List.replicate k 47).length : Nat) : Int) + 1 = (((pathL q ++ List.replicate (k + 1) 47).length : Nat) : Int) := by simp only [List.length_append, List.length_replicate]; omega
    rw [hr, e1, slice_nb, h, lst_mk, List.take_left']
    rfl
  unfold dirnameF
  dsimp only
  rw [hs]
  have hl : (((mk (pathL q ++ List.replicate (k + 1) 47)).length : Nat) : Int) ≠ 0 := by rw [len_lst, lst_mk, List.length_append, List.length_replicate]; omega
  rw [if_pos hl, if_pos, rstrip_slash (pathL_last hq)]
  · rfl
  · rw [bne_iff_ne]
    intro e
    have e2 := congrArg lst e
    rw [lst_mk, mul_slash] at e2
    obtain ⟨d, r, hd⟩ := pathL_two hq
    have : (97 + d) ∈ List.replicate ((mk (pathL q ++ List.replicate (k + 1) 47)).length) 47 := by rw [← e2, hd]; simp
    have := List.eq_of_mem_replicate this
    omega
theorem dirname_path (q : List Nat) (c : Nat) : dirnameF (pathS (q ++ [c])) = pathS q := by
  cases q with
  | nil =>
    have h : lst (pathS ([] ++ [c])) = [] ++ 47 :: [97 + c] := rfl
    have hr : Txt.rfind (pathS ([] ++ [c])) (Str.ofString "/") = ((0 : Nat) : Int) := rfind_slash h (by simp; omega)
    have hs : Txt.slice (pathS ([] ++ [c])) none (some (Txt.rfind (pathS ([] ++ [c])) (Str.ofString "/") + 1)) = Str.ofString "/" := by
      apply str_ext
      rw [hr, show ((0 : Nat) : Int) + 1 = ((1 : Nat) : Int) from rfl, slice_nb, h, slash_is]; rfl
    unfold dirnameF
    dsimp only
    rw [hs, if_pos (by decide +kernel), if_neg (by decide +kernel)]
    decide +kernel
  | cons d r =>
    refine dirnameF_cut (k := 0) (c := c) (by simp) ?_
    rw [lst_pathS, pathL_app (by simp) (by simp)]
    simp [pathL]
theorem dirname_dbl {q : List Nat} (hq : q ≠ []) (c : Nat) : dirnameF (pathS q ++ Str.ofString "//" ++ mk [97 + c]) = pathS q := by
  refine dirnameF_cut (k := 1) (c := c) hq ?_
  have : lst (Str.ofString "//") = [47, 47] := by decide +kernel
  rw [lst_append, lst_append, lst_pathS, this, lst_mk]; rfl
theorem root_is : pathS [] = Str.ofString "/" := by decide +kernel
theorem pathS_inj {q r : List Nat} : pathS q = pathS r → q = r := by
  intro h
  have e : pathL q = pathL r := by rw [← lst_pathS, ← lst_pathS, h]
  have key : ∀ a b : List Nat, (a.flatMap fun c => [47, 97 + c]) = (b.flatMap fun c => [47, 97 + c]) → a = b := by
    intro a
    induction a with
    | nil => intro b h; cases b with
      | nil => rfl
      | cons d b => simp at h
    | cons c a ih => intro b h; cases b with
      | nil => simp at h
      | cons d b =>
        simp only [List.flatMap_cons, List.cons_append, List.nil_append, List.cons.injEq] at h
        rw [ih b h.2.2, show c = d by omega]
  cases q with
  | nil => cases r with
    | nil => rfl
    | cons d r => simp [pathL] at e
  | cons c q => cases r with
    | nil => simp [pathL] at e
    | cons d r => exact key _ _ e

abbrev Node := List Nat × Int
noncomputable def isDirM (m : Int) : Prop := ∃ r, 0 ≤ r ∧ r < 4096 ∧ m = 16384 + r
noncomputable def isRegM (m : Int) : Prop := ∃ r, 0 ≤ r ∧ r < 4096 ∧ m = 32768 + r
inductive Tr : List Node → Prop
  | root {m : Int} (h : isDirM m) : Tr [([], m)]
  | snoc {T : List Node} {q : List Nat} {mq m : Int} (h : Tr T) (hq : (q, mq) ∈ T) (hd : isDirM mq) (hm : isDirM m ∨ isRegM m) : Tr (T ++ [(q ++ [T.length - 1], m)])
noncomputable def dirsOf (T : List Node) : List (List Nat) := (T.filter fun n => decide (n.2 < 32768)).map (·.1)
abbrev TNode := Node × Tok
noncomputable def kvsOf (T : List TNode) : List (Str × Value) := T.map fun n => (pathS n.1.1, .int n.1.2 n.2)
theorem ints_get {ws : List Value} {ns : List Int} (h : IntsAre ws ns) {i : Nat} {v : Value} (hv : ws.toArray[i]? = some v) : ∃ n t, ns[i]? = some n ∧ v = .int n t := by
  have hv' : ws[i]? = some v := by simpa using hv
  have hlt : i < ns.length := by rw [← h.length]; exact (List.getElem?_eq_some_iff.mp hv').1
  obtain ⟨t, ht⟩ := h.get i ns[i] (by simp [hlt])
  rw [hv'] at ht
  exact ⟨ns[i], t, by simp [hlt], Option.some.inj ht⟩

theorem abc_at {n : Nat} (h : n < 12) : (Str.ofString "abcdefghijkl").cps[n]? = some (97 + n) := by
  have e : Str.ofString "abcdefghijkl" = ⟨#[97, 98, 99, 100, 101, 102, 103, 104, 105, 106, 107, 108]⟩ := by decide +kernel
  have k : ∀ n, n < 12 → (#[97, 98, 99, 100, 101, 102, 103, 104, 105, 106, 107, 108] : Array Nat)[n]? = some (97 + n) := by decide +kernel
  rw [e]; exact k n h

theorem tr_pos {T : List Node} (h : Tr T) : 0 < T.length := by cases h <;> simp
theorem tr_mem {T : List Node} (h : Tr T) : ∀ n ∈ T, (isDirM n.2 ∨ isRegM n.2) ∧ n.1.length + 1 ≤ T.length ∧ ∀ c ∈ n.1, c + 1 < T.length := by
  induction h with
  | root h => intro n hn; rw [List.mem_singleton.mp hn]; exact ⟨.inl h, by simp, by simp⟩
  | snoc h hq hd hm ih =>
    intro n hn
    rw [List.length_append, List.length_singleton]
    rcases List.mem_append.mp hn with hn | hn
    · obtain ⟨a, b, c⟩ := ih n hn
      exact ⟨a, by omega, fun x hx => by have := c x hx; omega⟩
    · rw [List.mem_singleton.mp hn]
      obtain ⟨a, b, c⟩ := ih _ hq
      have hp := tr_pos h
      refine ⟨hm, by simp only [List.length_append, List.length_singleton]; simp only at b; omega, fun x hx => ?_⟩
      rcases List.mem_append.mp hx with hx | hx
      · have := c x hx; omega
      · rw [List.mem_singleton.mp hx]; omega
theorem folder_get {T : List Node} {acc : List (Str × Tok)} {j : Nat} {x : Str} {t : Tok} (hT : Tr T) (hacc : acc.map (·.1) = (dirsOf T).map pathS) (h : acc[j]? = some (x, t)) :
    ∃ q mq, (q, mq) ∈ T ∧ isDirM mq ∧ x = pathS q := by
  have h1 : x ∈ acc.map (·.1) := List.mem_map.mpr ⟨_, List.mem_of_getElem? h, rfl⟩
  rw [hacc] at h1
  obtain ⟨q, hq, rfl⟩ := List.mem_map.mp h1
  obtain ⟨⟨q', mq⟩, hn, rfl⟩ := List.mem_map.mp hq
  obtain ⟨hn, hlt⟩ := List.mem_filter.mp hn
  refine ⟨q', mq, hn, ?_, rfl⟩
  rcases (tr_mem hT _ hn).1 with h | ⟨r, h0, _, e⟩
  · exact h
  · have := of_decide_eq_true hlt; simp only at e this; omega
theorem dirs_pos {T : List Node} (hT : Tr T) : 0 < (dirsOf T).length ∧ (dirsOf T).length ≤ T.length := by
  refine ⟨?_, by unfold dirsOf; rw [List.length_map]; exact List.length_filter_le _ _⟩
  have : ([] : List Nat) ∈ dirsOf T := by
    induction hT with
    | root h => obtain ⟨r, _, h2, e⟩ := h; simp only [dirsOf, List.mem_map]; exact ⟨_, List.mem_filter.mpr ⟨List.mem_singleton.mpr rfl, by simp; omega⟩, rfl⟩
    | snoc h hq hd hm ih => unfold dirsOf at ih ⊢; rw [List.filter_append, List.map_append]; exact List.mem_append_left _ ih
  exact List.length_pos_of_mem this

noncomputable def Ahead (q : List Nat) (b : Str) : Prop := ∃ a, AheadOk q a ∧ b.length ≤ 100 ∧ ∀ r, r ≠ [] → lst b ++ joinL r = joinL (a ++ r)
theorem ahead0 (q : List Nat) : Ahead q (Str.ofString "") := ⟨[], .inl rfl, by decide +kernel, fun r _ => by rw [show lst (Str.ofString "") = [] by decide +kernel]; rfl⟩
theorem ahead1 (q : List Nat) : Ahead q (Str.ofString "./") := ⟨[[46]], .inr (.inl rfl), by decide +kernel, fun r h => by
  rw [show lst (Str.ofString "./") = [46, 47] by decide +kernel, joinL_append (by simp) h]; rfl⟩
theorem ahead2 (q : List Nat) : Ahead q (Str.ofString "x/../") := ⟨[[120], [46, 46]], .inr (.inr (.inl rfl)), by decide +kernel, fun r h => by
  rw [show lst (Str.ofString "x/../") = [120, 47, 46, 46, 47] by decide +kernel, joinL_append (by simp) h]; rfl⟩
theorem ahead3 (q : List Nat) : Ahead q (Str.ofString ".//./") := ⟨[[46], [], [46]], .inr (.inr (.inr (.inl rfl))), by decide +kernel, fun r h => by
  rw [show lst (Str.ofString ".//./") = [46, 47, 47, 46, 47] by decide +kernel, joinL_append (by simp) h]; rfl⟩
theorem ahead4 {q : List Nat} (hq : q.length ≤ 12) : Ahead q (Str.ofString "../../../../../../../../../../../../" ++ Txt.slice (pathS q) (some 1) none ++ Str.ofString "/") := by
  have e1 : lst (Str.ofString "../../../../../../../../../../../../") ++ ([] : List Nat) = joinL (List.replicate 12 [46, 46] ++ [[]]) := by decide +kernel
  have e2 : lst (Txt.slice (pathS q) (some 1) none) = (pathL q).drop 1 := by rw [show (1 : Int) = ((1 : Nat) : Int) from rfl, slice_an, lst_pathS]
  have e3 : lst (Str.ofString "/") = [47] := by rw [slash_is]; rfl
  have e4 : lst (Str.ofString "../../../../../../../../../../../../") = joinL (List.replicate 12 [46, 46]) ++ [47] := by decide +kernel
  refine ⟨List.replicate 12 [46, 46] ++ (if q = [] then [[]] else lets q), .inr (.inr (.inr (.inr rfl))), ?_, fun r h => ?_⟩
  · rw [len_lst, lst_append, lst_append, e2, e3, e4]
    have h1 := pathL_len_le q
    have h2 : (joinL (List.replicate 12 [46, 46])).length = 35 := by decide +kernel
    simp only [List.length_append, List.length_drop, List.length_singleton, h2]
    omega
  · rw [lst_append, lst_append, e2, e3, e4]
    cases q with
    | nil =>
      rw [if_pos rfl, List.append_assoc (List.replicate 12 [46, 46]), joinL_append (by decide) (by simp), List.singleton_append, joinL_cons h]
      simp [pathL]
    | cons c q =>
      rw [if_neg (by simp), List.append_assoc (List.replicate 12 [46, 46]), joinL_append (by decide) (by simp [lets]), joinL_append (lets_cons_ne _ _) h, pathL_cons]
      simp
theorem ahead_whole {q : List Nat} {b : Str} {i : Nat} {n : Int} (hb : Ahead q b) (hn : n = 0 ∨ n = 1) :
    ∃ a e, AheadOk q a ∧ (e = [] ∨ e = [[]]) ∧ lst (b ++ ⟨#[97 + i]⟩ ++ Txt.mul (Str.ofString "/") n) = joinL (a ++ [[97 + i]] ++ e) := by
  obtain ⟨a, ha, _, hj⟩ := hb
  have e1 : lst ⟨#[97 + i]⟩ = joinL [[97 + i]] := rfl
  rcases hn with rfl | rfl
  · refine ⟨a, [], ha, .inl rfl, ?_⟩
    rw [lst_append, lst_append, e1, hj _ (by simp), show (0 : Int) = ((0 : Nat) : Int) from rfl, mul_slash]; simp
  · refine ⟨a, [[]], ha, .inr rfl, ?_⟩
    rw [lst_append, lst_append, e1, hj _ (by simp), show (1 : Int) = ((1 : Nat) : Int) from rfl, mul_slash, joinL_append (a := a ++ [[97 + i]]) (b := [[]]) (by simp) (by simp)]; rfl

theorem mul_len {n : Int} (hn : n = 0 ∨ n = 1) : (Txt.mul (Str.ofString "/") n).length ≤ 1 := by
  rcases hn with rfl | rfl
  · decide +kernel
  · decide +kernel
theorem Ahead.len {q : List Nat} {b : Str} (h : Ahead q b) : b.length ≤ 100 := by obtain ⟨_, _, h, _⟩ := h; exact h
theorem Ahead.np {q : List Nat} {b : Str} {i : Nat} {n : Int} (hb : Ahead q b) (hq : q.length ≤ 12) (hn : n = 0 ∨ n = 1) (_hi : i < 12) :
    (joinF (pathS q) (b ++ ⟨#[97 + i]⟩ ++ Txt.mul (Str.ofString "/") n)).length ≤ 1000 ∧ ((joinF (pathS q) (b ++ ⟨#[97 + i]⟩ ++ Txt.mul (Str.ofString "/") n)).length : Int) ≠ 0 ∧ (Txt.slice (joinF (pathS q) (b ++ ⟨#[97 + i]⟩ ++ Txt.mul (Str.ofString "/") n)) none (some 1) != Str.ofString "/") = false ∧ (Txt.slice (joinF (pathS q) (b ++ ⟨#[97 + i]⟩ ++ Txt.mul (Str.ofString "/") n)) (some 1) (some 2) != Str.ofString "/") = true := by
  obtain ⟨a, e, ha, he, hj⟩ := ahead_whole (i := i) hb hn
  exact (np_main ha hq he hj).2
theorem Ahead.is {q : List Nat} {b : Str} {i : Nat} {n : Int} (hb : Ahead q b) (hq : q.length ≤ 12) (hn : n = 0 ∨ n = 1) :
    normF (joinF (pathS q) (b ++ ⟨#[97 + i]⟩ ++ Txt.mul (Str.ofString "/") n)) = pathS (q ++ [i]) := by
  obtain ⟨a, e, ha, he, hj⟩ := ahead_whole (i := i) hb hn
  exact (np_main ha hq he hj).1

theorem wish_snoc {T : List TNode} {q : List Nat} {mq m : Int} {i : Nat} {t : Tok} (hT : Tr (T.map (·.1))) (hTl : T.length = i + 1) (hq : (q, mq) ∈ T.map (·.1)) (hd : isDirM mq) (hm : isDirM m ∨ isRegM m) :
    stored (kvsOf T) (pathS (q ++ [i])) (.int m t) = kvsOf (T ++ [((q ++ [i], m), t)]) ∧ Tr ((T ++ [((q ++ [i], m), t)]).map (·.1)) ∧ (T ++ [((q ++ [i], m), t)]).length = i + 1 + 1 := by
  refine ⟨?_, ?_, by simp [hTl]⟩
  · unfold stored
    rw [if_neg, kvsOf, kvsOf, List.map_append]; rfl
    intro h
    obtain ⟨kv, hkv, e⟩ := List.any_eq_true.mp h
    obtain ⟨n, hn, rfl⟩ := List.mem_map.mp hkv
    have e2 := pathS_inj (of_decide_eq_true e)
    have h3 := (tr_mem hT n.1 (List.mem_map.mpr ⟨n, hn, rfl⟩)).2.2 i (by rw [e2]; simp)
    rw [List.length_map, hTl] at h3
    omega
  · have := Tr.snoc hT hq hd hm
    rw [List.length_map, hTl] at this
    simpa using this
theorem dirs_snoc_dir {T : List Node} {p : List Nat} {m : Int} (hm : isDirM m) : dirsOf (T ++ [(p, m)]) = dirsOf T ++ [p] := by
  obtain ⟨r, _, h2, e⟩ := hm
  unfold dirsOf
  rw [List.filter_append, List.map_append, List.filter_cons_of_pos (by simp; omega)]; rfl
theorem dirs_snoc_reg {T : List Node} {p : List Nat} {m : Int} (hm : isRegM m) : dirsOf (T ++ [(p, m)]) = dirsOf T := by
  obtain ⟨r, h1, _, e⟩ := hm
  unfold dirsOf
  rw [List.filter_append, List.filter_cons_of_neg (by simp; omega)]; simp
theorem rights_dir (x : Int) : isDirM (16384 + x.fmod 4096) := ⟨x.fmod 4096, by rw [Int.fmod_eq_emod_of_nonneg _ (by omega)]; omega, by rw [Int.fmod_eq_emod_of_nonneg _ (by omega)]; omega, rfl⟩
theorem rights_reg (x : Int) : isRegM (32768 + x.fmod 4096) := ⟨x.fmod 4096, by rw [Int.fmod_eq_emod_of_nonneg _ (by omega)]; omega, by rw [Int.fmod_eq_emod_of_nonneg _ (by omega)]; omega, rfl⟩

noncomputable def belowP (P : List (List Nat)) (q : List Nat) : List (List Nat) := P.filter fun p => decide (p ≠ q ∧ q <+: p)
noncomputable def htN (P : List (List Nat)) (q : List Nat) : Nat := ((belowP P q).map fun p => p.length - q.length).foldl max 0
theorem foldl_max_ge {l : List Nat} : ∀ {a : Nat}, a ≤ l.foldl max a ∧ ∀ x ∈ l, x ≤ l.foldl max a := by
  induction l with
  | nil => intro a; exact ⟨Nat.le_refl _, fun _ h => nomatch h⟩
  | cons b l ih =>
    intro a
    obtain ⟨h1, h2⟩ := ih (a := max a b)
    refine ⟨Nat.le_trans (Nat.le_max_left a b) h1, fun x hx => ?_⟩
    rcases List.mem_cons.mp hx with rfl | hx
    · exact Nat.le_trans (Nat.le_max_right a x) h1
    · exact h2 x hx
theorem foldl_max_mem {l : List Nat} : ∀ {a : Nat}, l.foldl max a = a ∨ l.foldl max a ∈ l := by
  induction l with
  | nil => intro a; exact .inl rfl
  | cons b l ih =>
    intro a
    rcases ih (a := max a b) with h | h
    · rw [List.foldl_cons, h]
      rcases Nat.le_total a b with z | z
      · rw [Nat.max_eq_right z]; exact .inr (.head _)
      · rw [Nat.max_eq_left z]; exact .inl rfl
    · exact .inr (.tail _ h)
theorem le_ht {P : List (List Nat)} {p q : List Nat} (hp : p ∈ P) (hq : q <+: p) (hne : p ≠ q) : p.length - q.length ≤ htN P q :=
  foldl_max_ge.2 _ (List.mem_map.mpr ⟨p, List.mem_filter.mpr ⟨hp, decide_eq_true ⟨hne, hq⟩⟩, rfl⟩)
theorem ex_ht {P : List (List Nat)} {q : List Nat} (h : 0 < htN P q) : ∃ p ∈ P, p ≠ q ∧ q <+: p ∧ p.length - q.length = htN P q := by
  rcases foldl_max_mem (l := (belowP P q).map fun p => p.length - q.length) (a := 0) with e | e
  · unfold htN at h; omega
  · obtain ⟨p, h1, h2⟩ := List.mem_map.mp e
    obtain ⟨h3, h4⟩ := List.mem_filter.mp h1
    obtain ⟨h5, h6⟩ := of_decide_eq_true h4
    exact ⟨p, h3, h5, h6, h2⟩
theorem pre_len {p q : List Nat} (h : q <+: p) (hne : p ≠ q) : q.length < p.length := by
  obtain ⟨t, rfl⟩ := h
  cases t with
  | nil => simp at hne
  | cons a t => simp
theorem closed_pre {P : List (List Nat)} (hcl : ∀ r c, r ++ [c] ∈ P → r ∈ P) : ∀ n (t q : List Nat), t.length = n → q ++ t ∈ P → q ∈ P := by
  intro n
  induction n with
  | zero => intro t q e h; rw [List.length_eq_zero_iff.mp e, List.append_nil] at h; exact h
  | succ n ih =>
    intro t q e h
    rcases List.eq_nil_or_concat t with rfl | ⟨s, c, rfl⟩
    · cases e
    · rw [List.concat_eq_append] at *
      rw [← List.append_assoc] at h
      exact ih s q (by rw [List.length_append] at e; simpa using e) (hcl _ _ h)

noncomputable def flat (r : List Nat) : List Nat := r.flatMap fun c => [47, 97 + c]
theorem pathL_flat {q : List Nat} (h : q ≠ []) : pathL q = flat q := by cases q with
  | nil => exact absurd rfl h
  | cons c r => rfl
noncomputable def headL (q : List Nat) : List Nat := if q = [] then [47] else pathL q ++ [47]
noncomputable def headS (q : List Nat) : Str := mk (headL q)
theorem headS_root : Str.ofString "/" = headS [] := by decide +kernel
theorem headS_ne {q : List Nat} (h : q ≠ []) : pathS q ++ Str.ofString "/" = headS q := by
  apply str_ext
  rw [lst_append, lst_pathS, slash_is, lst_slash]
  show _ = headL q
  unfold headL
  rw [if_neg h]
theorem flat_cons (c : Nat) (r : List Nat) : flat (c :: r) = 47 :: (97 + c) :: flat r := rfl
theorem flat_append (a b : List Nat) : flat (a ++ b) = flat a ++ flat b := List.flatMap_append ..
theorem headL_flat (q : List Nat) : headL q = flat q ++ [47] := by
  unfold headL
  split
  · rename_i h; rw [h]; rfl
  · rename_i h; rw [pathL_flat h]
theorem flat_pre : ∀ (a b : List Nat), flat a ++ [47] <+: flat b ↔ ∃ c r, b = a ++ c :: r := by
  intro a
  induction a with
  | nil =>
    intro b
    cases b with
    | nil => simp [flat]
    | cons c r => exact ⟨fun _ => ⟨c, r, rfl⟩, fun _ => ⟨(97 + c) :: flat r, rfl⟩⟩
  | cons x a ih =>
    intro b
    cases b with
    | nil => simp [flat]
    | cons y b =>
      rw [flat_cons, flat_cons, List.cons_append, List.cons_append, List.cons_prefix_cons, List.cons_prefix_cons, ih]
      constructor
      · rintro ⟨_, h, c, r, e⟩; exact ⟨c, r, by rw [e, show x = y by omega]; rfl⟩
      · rintro ⟨c, r, e⟩
        obtain ⟨e1, e2⟩ := List.cons.inj e
        exact ⟨rfl, by omega, c, r, e2⟩
theorem below_iff {p q : List Nat} : (p ≠ q ∧ q <+: p) ↔ ∃ c r, p = q ++ c :: r := by
  constructor
  · rintro ⟨h1, t, rfl⟩
    cases t with
    | nil => simp at h1
    | cons c r => exact ⟨c, r, rfl⟩
  · rintro ⟨c, r, rfl⟩; exact ⟨by simp, ⟨_, rfl⟩⟩
theorem head_take (p q : List Nat) (hne : p ≠ q) : (pathL p).take (headL q).length = headL q ↔ q <+: p := by
  have key : (pathL p).take (headL q).length = headL q ↔ headL q <+: pathL p := by
    constructor
    · intro h; rw [← h]; exact List.take_prefix _ _
    · intro h; exact (List.prefix_iff_eq_take.mp h).symm
  rw [key]
  by_cases hp : p = []
  · subst hp
    have hq : q ≠ [] := fun h => hne h.symm
    constructor
    · intro h
      have := h.length_le
      rw [headL_flat, List.length_append] at this
      cases q with
      | nil => exact absurd rfl hq
      | cons c r => rw [flat_cons] at this; simp [pathL] at this
    · intro h; exact absurd (List.prefix_nil.mp h) hq
  · rw [headL_flat, pathL_flat hp, flat_pre]
    exact ⟨fun h => (below_iff.mpr h).2, fun h => below_iff.mp ⟨hne, h⟩⟩
theorem under_test (p q : List Nat) (hne : p ≠ q) : (Txt.slice (pathS p) none (some ((headS q).length : Int)) == headS q) = decide (q <+: p) := by
  rw [Bool.beq_eq_decide_eq]
  refine decide_eq_decide.mpr ?_
  rw [← head_take p q hne, ← lst_inj, slice_nb, lst_pathS, len_lst]; rfl
theorem path_bne (p q : List Nat) : (pathS p != pathS q) = decide (p ≠ q) := by
  by_cases h : p = q
  · rw [h]; simp
  · rw [decide_eq_true h]; exact bne_iff_ne.mpr fun e => h (pathS_inj e)
theorem cnt_flat : ∀ r : List Nat, cnt 47 (flat r) = (r.length : Int) := by
  intro r
  induction r with
  | nil => rfl
  | cons c r ih =>
    rw [flat_cons, cnt_cons, cnt_cons, ih, if_pos rfl, if_neg (by omega), List.length_cons]; omega
theorem depth_below {p q : List Nat} (h : q <+: p) (hne : p ≠ q) : Txt.count (Txt.slice (pathS p) (some ((headS q).length : Int)) none) (Str.ofString "/") + 1 = ((p.length - q.length : Nat) : Int) := by
  obtain ⟨c, r, rfl⟩ := below_iff.mp ⟨hne, h⟩
  rw [slash_is, count_cnt, show (Txt.slice (pathS (q ++ c :: r)) (some ((headS q).length : Int)) none).cps.toList = lst (Txt.slice (pathS (q ++ c :: r)) (some ((headS q).length : Int)) none) from rfl, slice_an, lst_pathS, len_lst]
  show cnt 47 ((pathL (q ++ c :: r)).drop (headL q).length) + 1 = _
  rw [pathL_flat (by simp), flat_append, flat_cons, headL_flat, show flat q ++ 47 :: (97 + c) :: flat r = (flat q ++ [47]) ++ (97 + c) :: flat r by simp, List.drop_left, cnt_cons, if_neg (by omega), cnt_flat]
  simp only [List.length_append, List.length_cons]; omega
theorem max_is {P : List (List Nat)} {q : List Nat} {M : Int} {ns : List Int} (hns : ns = 0 :: (belowP P q).map fun p => ((p.length - q.length : Nat) : Int)) (h1 : M ∈ ns) (h2 : ∀ a ∈ ns, a ≤ M) : M = (htN P q : Int) := by
  subst hns
  apply Int.le_antisymm
  · rcases List.mem_cons.mp h1 with e | h
    · omega
    · obtain ⟨p, hp, rfl⟩ := List.mem_map.mp h
      obtain ⟨h3, h4⟩ := List.mem_filter.mp hp
      obtain ⟨h5, h6⟩ := of_decide_eq_true h4
      exact Int.ofNat_le.mpr (le_ht h3 h6 h5)
  · by_cases z : 0 < htN P q
    · obtain ⟨p, h3, h4, h5, h6⟩ := ex_ht z
      rw [← h6]
      exact h2 _ (.tail _ (List.mem_map.mpr ⟨p, List.mem_filter.mpr ⟨h3, decide_eq_true ⟨h4, h5⟩⟩, rfl⟩))
    · have := h2 0 (.head _)
      omega

theorem tr_nodup {T : List Node} (h : Tr T) : (T.map (·.1)).Nodup := by
  induction h with
  | root h => simp
  | @snoc T q mq m h hq hd hm ih =>
    rw [List.map_append, List.map_singleton, List.nodup_append]
    refine ⟨ih, by simp, ?_⟩
    intro a ha b hb e
    rw [List.mem_singleton.mp hb] at e
    obtain ⟨n, hn, rfl⟩ := List.mem_map.mp ha
    have := (tr_mem h n hn).2.2 (T.length - 1) (by rw [e]; simp)
    have := tr_pos h
    omega
theorem tr_parent {T : List Node} (h : Tr T) : ∀ i p c m, T[i]? = some (p ++ [c], m) → ∃ m', (p, m') ∈ T.take i ∧ isDirM m' := by
  induction h with
  | root h =>
    intro i p c m e
    cases i with
    | zero => simp at e
    | succ i => simp at e
  | @snoc T q mq m h hq hd hm ih =>
    intro i p c m' e
    by_cases hi : i < T.length
    · rw [List.getElem?_append_left hi] at e
      obtain ⟨m2, h1, h2⟩ := ih i p c m' e
      exact ⟨m2, by rw [List.take_append_of_le_length (Nat.le_of_lt hi)]; exact h1, h2⟩
    · rw [List.getElem?_append_right (by omega)] at e
      have : i - T.length = 0 := by
        have := (List.getElem?_eq_some_iff.mp e).1
        simp at this; omega
      rw [this] at e
      have e2 := Option.some.inj e
      have e3 := (Prod.mk.inj e2).1
      obtain ⟨e4, _⟩ := List.append_inj' e3 rfl
      refine ⟨mq, ?_, hd⟩
      rw [show i = T.length by omega, List.take_left', ← e4]
      · exact hq
      · rfl
theorem tr_root {T : List Node} (h : Tr T) : ∃ m, T[0]? = some ([], m) ∧ isDirM m := by
  induction h with
  | @root m h => exact ⟨m, rfl, h⟩
  | @snoc T q mq m h hq hd hm ih =>
    obtain ⟨m', e, h'⟩ := ih
    exact ⟨m', by rw [List.getElem?_append_left (tr_pos h)]; exact e, h'⟩

example : True := by w_top off; trivial
section
variable {prog : Program} {w : World} {A : Around} {E : Value → Shared → Prop} {s : Shared} {h₀ : Heap} {L D : Addr} {m : Str → Option Value} {news : List (Addr × Obj)} {acc : List (Str × Tok)} {k : Nat}
theorem item_folder {value slice : PySem.Expr} {u : Tok} {j : Int} {Q : Value → Shared → Prop} {T : List TNode} {i : Nat} (N : News h₀ L s.heap news) (hm : (D, W.listOf (strValues acc).toArray k) ∈ news) (hT : Tr (T.map (·.1))) (hTl : T.length = i + 1) (hi : i < 12)
    (hacc : acc.map (·.1) = (dirsOf (T.map (·.1))).map pathS) (h0 : 0 ≤ j) (hj : j < acc.length) (hsz : acc.length ≤ 100000)
    (h : ∀ q mq t, (q, mq) ∈ T.map (·.1) → isDirM mq → (pathS q).length ≤ 1000 → q.length ≤ 12 → Q (.str (pathS q) t) s)
    (hs : subscripted slice false (.ref D) (.int j u) = operate [.ref D, .int j u] (getItem (.ref D) (.int j u)) := by with_unfolding_all rfl) (hg : ∀ r, letTemporaryGo value (.ref D) r = pure () := by intro _; with_unfolding_all rfl) :
    wpAny (model prog w) A (subscriptTail value slice (.ref D) (.int j u)) Q E s := by
  refine item_strs N hm h0 hj hsz (fun x t hx => ?_) hs hg
  obtain ⟨q, mq, hq, hdq, rfl⟩ := folder_get hT hacc hx
  have h1 := (tr_mem hT _ hq).2.1
  rw [List.length_map, hTl] at h1
  simp only at h1
  have h2 := pathL_len_le q
  exact h q mq t hq hdq (by rw [len_lst, lst_pathS]; omega) (by omega)
theorem dict0 {w : World} {o : Obj} {t : Tok} {v : Int} {t' : Tok} (h : Obj.IsDictOf (PySem.strKind prg w) o (strPairs [(Value.str (Str.ofString "/") t, Value.int v t')])) : Obj.IsDictOf (PySem.strKind prg w) o (kvsOf [(([], v), t')]) := by
  rw [show kvsOf [(([], v), t')] = strPairs [(Value.str (Str.ofString "/") t, Value.int v t')] by rw [strPairs, kvsOf, List.map_singleton, root_is]; rfl]
  exact h
end
theorem wished_spec {w : World} {l : Addr} {vs : List Value} {ns : List Int} (hi : IntsAre vs ns) (hl : ns.length ≤ 63) : Pur w 317 [.ref l] 5
    (fun h => h.IsList l vs.toArray) (fun v led => ∃ d o T, v = .ref d ∧ led = [(d, o)] ∧ Obj.IsDictOf (PySem.strKind prg w) o (kvsOf T) ∧ Tr (T.map (·.1)) ∧ T.length ≤ 13 ∧ (d == sysModules) = false) := by
  refine pur_of fun A Q E s0 gs dr tk0 ost G R hp ret => ?_
  obtain ⟨hd, dp, fr, gd, un⟩ := A; obtain rfl : hd = none := R.hh; obtain ⟨X, mean, mg, mb, T⟩ := id G
  have R' := fun env => R.deeper (env := env)
  refine enter G (R.le (by decide)) (by k_is) (by k_is) (BindsTo.of_eq (binds := [(Str.ofString "script", .ref l)]) rfl) (locs rfl) rfl rfl rfl (by decide) ?_
  intro L h₁ F N hL A1
  clear G hL
  k_fold
  (repeat' (first | ((with_reducible show wpAny _ _ _ _ _ (Shared.mk _ (Shared.gens _) _ _ _)); (with_reducible first | refine fl_c ?_ rfl | refine fl_a (by assumption) ?_ rfl | refine fl_b (by assumption) ?_ rfl); (fail_if_success (with_reducible show wpAny _ _ _ _ _ (Shared.mk _ (Shared.gens _) _ _ _)))) | ((with_reducible show wpAny _ _ _ _ _ (Shared.mk _ _ _ (_ + _ + _ + _) _)); (with_reducible refine tk_gen ?_); intro tk_m) | ((with_reducible show wpAny _ _ (exec (Stmt.For (Expr.Tuple _ _ _) (Expr.Call _ _ _ _) (_ :: _) [] _) _) _ _ _); (k_here; k_dflt (refine wpAny_For ?_))) | (k_here; (with_reducible show wpAny _ _ (call (Value.type "enumerate") [Value.ref _]) _ _ _); k_dflt (refine' call_enum ?k1 ?k2 ?k3 ?_; (case k1 => k_asm); (case k2 => k_asm); (case k3 => exact News.get (by k_asm) (by k_mem)); k_whole); intro e_m it_m h_m F_m N_m l1_m l2_m; (try k_lt l1_m); (try k_lt2 l2_m); (try k_sweep)) | ((with_reducible show wpAny _ _ (eval (Expr.Constant _ _ _) _) _ _ _); with_reducible first | refine cint ?_ | refine cstr ?_) | ((with_reducible show wpAny _ _ (eval (Expr.Name _ _) _) _ _ _); k_here; k_dflt (refine' nameX_L (hd := ?d) ?F ?v ?_ ?a ?b; (case F => k_asm); (case a => rfl); (case b => rfl); (case v => rfl); (case d => rfl); k_whole)) | ((with_reducible show wpAny _ _ (storeName _ _ _) _ _ _); k_here; k_dflt (refine' storeX_M ?F ?N ?_ ?a ?b; (case F => k_asm); (case N => k_asm); (case a => rfl); (case b => rfl); k_whole; intro h_m m_m F_m N_m; (try k_sweep))) | ((with_reducible show wpAny _ _ (exec _ _) _ _ _); k_fold) | (k_unfold; (try dsimp only)) | (k_end; kc_close) | walk1 | (dsimp only; walk1) | (leave1; (try dsimp only)) | fail "no step"))
  (with_reducible rename Fr _ _ _ _ => kF); (with_reducible rename News _ _ _ _ => kN); (rename Obj.IsDictOf _ _ _ => hD); (rename IntsAre _ _ => hI); (rename List Value => ws)
  refine cap8 kN ?_
  intro e it cat lit sl fo sl2 wi h1 h2 h3 h4 h5 h6 h7 h8
  subst h1 h2 h3 h4 h5 h6 h7 h8
  replace kN := News.sub (nw := [(e, _), (it, _), (fo, _), (wi, _), (cat, _)]) kN (by k_allIn)
  refine' for_e (L := L) [Str.ofString "name", Str.ofString "folder", Str.ofString "ahead", Str.ofString "path", Str.ofString "rights", Str.ofString "place", Str.ofString "x"]
    (fun i m o p => ∃ T acc k, o = W.listOf (strValues acc).toArray k ∧ Obj.IsDictOf (PySem.strKind prg w) p (kvsOf T) ∧ Tr (T.map (·.1)) ∧ T.length = i + 1 ∧ acc.map (·.1) = (dirsOf (T.map (·.1))).map pathS)
    rfl rfl (Enm.list (l := cat) (ol := W.listOf ws.toArray 0) rfl (by refine neN ?_; omega) (by refine neN ?_; omega) (by refine neN ?_; omega) rfl rfl rfl rfl) rfl rfl rfl kF kN ?src ?off ?h0 ?turn ?done
  case src => exact .inr (.head _)
  case off =>
    simp only [List.forall_mem_cons]
    refine ⟨⟨neN ?_, neN ?_⟩, ⟨neN ?_, neN ?_⟩, ⟨neN ?_, neN ?_⟩, fun _ h => nomatch h⟩ <;> omega
  case h0 =>
    refine ⟨_, [(Str.ofString "/", _)], 0, rfl, dict0 hD, .root (rights_dir (448 + (List.take 7 ns).sum)), rfl, ?_⟩
    · have e := dirs_snoc_dir (T := []) (p := []) (rights_dir (448 + (List.take 7 ns).sum))
      rw [List.nil_append] at e
      show _ = List.map pathS (dirsOf [_])
      rw [e]
      show [Str.ofString "/"] = [pathS []]
      rw [root_is]
  case turn =>
    intro i t v m₁ o₁ p₁ own h tk hi hP hJ hown kF kN
    k_fold
    simp only [List.cons_append, List.nil_append, List.map_cons, List.map_nil] at kN hown
    obtain ⟨T, acc, k, rfl, hD, hT, hTl, hacc⟩ := hJ
    obtain ⟨x, tx, hx, rfl⟩ := ints_get hI hP
    have hi12 : i < 12 := by
      have h1 := (List.getElem?_eq_some_iff.mp hx).1
      rw [List.length_append, List.length_take] at h1
      simp only [List.length_cons, List.length_nil] at h1
      omega
    have hal : 0 < acc.length ∧ acc.length ≤ 13 := by
      have h1 := dirs_pos hT
      have h2 := congrArg List.length hacc
      rw [List.length_map, List.length_map] at h2
      rw [List.length_map, hTl] at h1
      omega
    have hal1 : acc.length ≤ 100000 := by omega
    have hf0 : 0 ≤ x.fmod (acc.length : Int) := by rw [Int.fmod_eq_emod_of_nonneg _ (by omega)]; exact Int.emod_nonneg _ (by omega)
    have hf1 : x.fmod (acc.length : Int) < (acc.length : Int) := by rw [Int.fmod_eq_emod_of_nonneg _ (by omega)]; exact Int.emod_lt_of_pos _ (by omega)
    have hm0 : 0 ≤ (x.fdiv 16).fmod 5 := by rw [Int.fmod_eq_emod_of_nonneg _ (by omega)]; exact Int.emod_nonneg _ (by omega)
    have hm1 : (x.fdiv 16).fmod 5 < 5 := by rw [Int.fmod_eq_emod_of_nonneg _ (by omega)]; exact Int.emod_lt_of_pos _ (by omega)
    have hn2 : (x.fdiv 16).fmod 2 = 0 ∨ (x.fdiv 16).fmod 2 = 1 := by rw [Int.fmod_eq_emod_of_nonneg _ (by omega)]; omega
    have hn3 := mul_len hn2
    have hn4 : (⟨#[97 + i]⟩ : Str).length = 1 := rfl
    have hkl : (kvsOf T).length ≤ 100000 := by unfold kvsOf; rw [List.length_map]; omega
    (repeat' (first | ((with_reducible show wpAny _ _ _ _ _ (Shared.mk _ (Shared.gens _) _ _ _)); (with_reducible first | refine fl_c ?_ rfl | refine fl_a (by assumption) ?_ rfl | refine fl_b (by assumption) ?_ rfl); (fail_if_success (with_reducible show wpAny _ _ _ _ _ (Shared.mk _ (Shared.gens _) _ _ _)))) | ((with_reducible show wpAny _ _ _ _ _ (Shared.mk _ _ _ (_ + _ + _ + _) _)); (with_reducible refine tk_gen ?_); intro tk_m) | (k_here; (with_reducible show wpAny _ _ (subscriptTail _ _ (Value.ref _) (Value.int (Int.fmod (Int.fdiv _ 16) 5) _)) _ _ _); (with_reducible rename isDirM _ => hdq_m); (rename List.length (_ : List Nat) ≤ 12 => hql2_m); (with_unfolding_all refine' item_five (P := Ahead _) ?k1 ?k2 ?k3 ?k4 (ahead0 _) (ahead1 _) (ahead2 _) (ahead3 _) (ahead4 hql2_m) ?_ ?k6 ?k7; (case k1 => k_asm); (case k2 => k_mem); (case k3 => assumption); (case k4 => assumption); (case k6 => with_unfolding_all rfl); (case k7 => intro _; with_unfolding_all rfl); k_whole); intro b_m tb_m hb_m; (have hbl_m := Ahead.len hb_m); (have hnp_m := Ahead.np hb_m hql2_m (by assumption) (by assumption))) | (k_here; (with_reducible show wpAny _ _ (subscriptTail _ _ (Value.ref _) (Value.int _ _)) _ _ _); (with_unfolding_all refine' item_folder ?k1 ?k2 ?kT ?kL ?kI ?kA ?k3 ?k4 ?z ?_ ?k6 ?k7; (case k1 => k_asm); (case k2 => k_mem); (case kT => assumption); (case kL => assumption); (case kI => assumption); (case kA => assumption); (case k3 => assumption); (case k4 => assumption); (case z => assumption); (case k6 => with_unfolding_all rfl); (case k7 => intro _; with_unfolding_all rfl); k_whole); intro q_m mq_m t_m hq_m hdq_m hql_m hql2_m) | (k_here; (with_reducible show wpAny _ _ (subscriptTail _ _ (Value.str (Str.ofString "abcdefghijkl") _) (Value.int (Nat.cast _) _)) _ _ _); (with_unfolding_all refine' item_sign ?k1 ?k2 ?_ ?k3; (case k1 => omega); (case k2 => exact abc_at (by omega)); (case k3 => with_unfolding_all rfl); k_whole)) | (k_here; (with_reducible show wpAny _ _ (call (Value.ref 136) _ _) _ _ _); refine use_pur0 normpath_spec (by k_asm) (by k_asm) (by k_asm) (by k_asm) (Rm.le (by first | assumption | (rename (∀ env, Rm _ _) => kR_m; exact kR_m _)) (by decide)) (by assumption) ?_; intro v_m h_m tk_m led_m F_m N_m hv_m; obtain ⟨t_m, hv_m⟩ := hv_m; subst hv_m; (try k_sweep)) | (k_here; (with_reducible show wpAny _ _ (call (Value.ref 115) _ _) _ _ _); refine use_pur0 join_spec (by k_asm) (by k_asm) (by k_asm) (by k_asm) (Rm.le (by first | assumption | (rename (∀ env, Rm _ _) => kR_m; exact kR_m _)) (by decide)) (by omega) ?_; intro v_m h_m tk_m led_m F_m N_m hv_m; obtain ⟨t_m, hv_m⟩ := hv_m; subst hv_m; (try k_sweep)) | ((with_reducible show wpAny _ _ (setItem (Value.ref _) (Value.str _ _) _) _ _ _); (k_here; k_dflt (refine' dset ?k1 ?k2 ?k3 ?k4 ?z ?_; (case k1 => k_asm); (case k2 => k_asm); (case k3 => k_updF); (case k4 => assumption); (case z => first | assumption | omega); k_whole); intro h_m o_m F_m N_m hD_m; (try k_sweep))) | (k_here; (with_reducible show wpAny _ _ (call (Value.builtin "len") [Value.ref _]) _ _ _); k_dflt (refine' len_strs ?k1 ?k2 ?z ?_; (case k1 => k_asm); (case k2 => k_mem); (case z => first | assumption | omega); k_whole)) | (k_here; (with_reducible show wpAny _ _ (call (Value.builtin "list.append") [Value.ref _, Value.str _ _]) _ _ _); k_dflt (refine' append_strs ?k1 ?k2 ?k3 ?z ?_; (case k1 => k_asm); (case k2 => k_asm); (case k3 => k_upd); (case z => first | assumption | omega | (simp only [List.length_append, List.length_singleton, List.length_nil, List.length_cons]; omega)); k_whole); intro h_m F_m N_m; (try k_sweep)) | ((with_reducible show wpAny _ _ (eval (Expr.Constant _ _ _) _) _ _ _); with_reducible first | refine cint ?_ | refine cstr ?_) | ((with_reducible show wpAny _ _ (eval (Expr.Name _ _) _) _ _ _); k_here; k_dflt (refine' nameX_L (hd := ?d) ?F ?v ?_ ?a ?b; (case F => k_asm); (case a => rfl); (case b => rfl); (case v => rfl); (case d => rfl); k_whole)) | ((with_reducible show wpAny _ _ (storeName _ _ _) _ _ _); k_here; k_dflt (refine' storeX_M ?F ?N ?_ ?a ?b; (case F => k_asm); (case N => k_asm); (case a => rfl); (case b => rfl); k_whole; intro h_m m_m F_m N_m; (try k_sweep))) | ((with_reducible show wpAny _ _ (exec _ _) _ _ _); k_fold) | (k_unfold; (try dsimp only)) | (k_end; kc_close) | walk1 | (dsimp only; walk1) | (leave1; (try dsimp only)) | fail "no step"))
    · (rename Ahead _ _ => hb'); (with_reducible rename isDirM _ => hdq'); (rename List.length (_ : List Nat) ≤ 12 => hql2'); (rename _ ∈ List.map _ _ => hq'); (rename Obj.IsDictOf _ _ (stored _ _ _) => hD')
      rw [Ahead.is hb' hql2' hn2] at hD'
      obtain ⟨e1, e2, e3⟩ := wish_snoc (t := _) hT hTl hq' hdq' (.inl (rights_dir _))
      rw [e1] at hD'
      refine te_next (by assumption) (by assumption) (fun p hp => .tail _ hp) ?_ ⟨_, _, _, rfl, hD', e2, e3, ?_⟩
      · intro z hz; (repeat refine out_st (contains_ne hz (by rfl)) ?_); simp only [mid, hz]; rfl
      · rw [List.map_append, hacc, List.map_append]
        show _ = List.map pathS (dirsOf (_ ++ [_]))
        rw [dirs_snoc_dir (rights_dir _), List.map_append, Ahead.is hb' hql2' hn2]; rfl
    · (rename Ahead _ _ => hb'); (with_reducible rename isDirM _ => hdq'); (rename List.length (_ : List Nat) ≤ 12 => hql2'); (rename _ ∈ List.map _ _ => hq'); (rename Obj.IsDictOf _ _ (stored _ _ _) => hD')
      rw [Ahead.is hb' hql2' hn2] at hD'
      obtain ⟨e1, e2, e3⟩ := wish_snoc (t := _) hT hTl hq' hdq' (.inr (rights_reg _))
      rw [e1] at hD'
      refine te_next (by assumption) (by assumption) (fun p hp => .tail _ hp) ?_ ⟨_, _, _, rfl, hD', e2, e3, ?_⟩
      · intro z hz; (repeat refine out_st (contains_ne hz (by rfl)) ?_); simp only [mid, hz]; rfl
      · rw [hacc, List.map_append]
        show _ = List.map pathS (dirsOf (_ ++ [_]))
        rw [dirs_snoc_reg (rights_reg _)]
  case done =>
    intro m₁ o₁ p₁ h' tk hJ kF kN
    obtain ⟨T, acc, k, rfl, hD, hT, hTl, hacc⟩ := hJ
    have hsz : ws.toArray.size ≤ 12 := by
      have h1 := hI.length
      rw [List.length_append, List.length_take] at h1
      simp only [List.length_cons, List.length_nil] at h1
      rw [List.size_toArray]
      omega
    (repeat' (first | ((with_reducible show wpAny _ _ _ _ _ (Shared.mk _ (Shared.gens _) _ _ _)); (with_reducible first | refine fl_c ?_ rfl | refine fl_a (by assumption) ?_ rfl | refine fl_b (by assumption) ?_ rfl); (fail_if_success (with_reducible show wpAny _ _ _ _ _ (Shared.mk _ (Shared.gens _) _ _ _)))) | ((with_reducible show wpAny _ _ _ _ _ (Shared.mk _ _ _ (_ + _ + _ + _) _)); (with_reducible refine tk_gen ?_); intro tk_m) | ((with_reducible show wpAny _ _ (eval (Expr.Constant _ _ _) _) _ _ _); with_reducible first | refine cint ?_ | refine cstr ?_) | ((with_reducible show wpAny _ _ (eval (Expr.Name _ _) _) _ _ _); k_here; k_dflt (refine' nameX_L (hd := ?d) ?F ?v ?_ ?a ?b; (case F => k_asm); (case a => rfl); (case b => rfl); (case v => rfl); (case d => rfl); k_whole)) | ((with_reducible show wpAny _ _ (storeName _ _ _) _ _ _); k_here; k_dflt (refine' storeX_M ?F ?N ?_ ?a ?b; (case F => k_asm); (case N => k_asm); (case a => rfl); (case b => rfl); k_whole; intro h_m m_m F_m N_m; (try k_sweep))) | ((with_reducible show wpAny _ _ (exec _ _) _ _ _); k_fold) | (k_unfold; (try dsimp only)) | (k_end; kc_close) | walk1 | (dsimp only; walk1) | (leave1; (try dsimp only)) | fail "no step"))
    exact ret _ _ _ [(wi, p₁)] (Fr.keep (by assumption)) (News.led (News.sub (by assumption) (by k_allIn))) ⟨_, _, T, rfl, rfl, hD, hT, by omega, by assumption⟩

example : True := by w_top off; trivial
theorem ifmt_spec {w : World} {x : Int} {t : Tok} : Pur w 263 [.int x t] 1 (fun _ => True) (fun v _ => ∃ t, v = .int (bitAnd x 61440) t) := by
  refine pur_of fun A Q E s0 gs dr tk0 ost G R _ ret => ?_
  obtain ⟨hd, dp, fr, gd, un⟩ := A; obtain rfl : hd = none := R.hh; obtain ⟨X, mean, mg, mb, T⟩ := id G
  refine enter G R (by k_is) (by k_is) (BindsTo.of_eq (binds := [(Str.ofString "mode", .int x t)]) rfl) (locs rfl) rfl rfl rfl (by decide) ?_
  intro L h₁ F N hL A1
  clear G hL
  k_fold
  (repeat' (first | ((with_reducible show wpAny _ _ _ _ _ (Shared.mk _ (Shared.gens _) _ _ _)); (with_reducible first | refine fl_c ?_ rfl | refine fl_a (by assumption) ?_ rfl | refine fl_b (by assumption) ?_ rfl); (fail_if_success (with_reducible show wpAny _ _ _ _ _ (Shared.mk _ (Shared.gens _) _ _ _)))) | ((with_reducible show wpAny _ _ _ _ _ (Shared.mk _ _ _ (_ + _ + _ + _) _)); (with_reducible refine tk_gen ?_); intro tk_m) | ((with_reducible show wpAny _ _ (eval (Expr.Constant _ _ _) _) _ _ _); with_reducible first | refine cint ?_ | refine cstr ?_) | ((with_reducible show wpAny _ _ (eval (Expr.Name _ _) _) _ _ _); k_here; k_dflt (refine' nameX_L (hd := ?d) ?F ?v ?_ ?a ?b; (case F => k_asm); (case a => rfl); (case b => rfl); (case v => rfl); (case d => rfl); k_whole)) | ((with_reducible show wpAny _ _ (storeName _ _ _) _ _ _); k_here; k_dflt (refine' storeX_M ?F ?N ?_ ?a ?b; (case F => k_asm); (case N => k_asm); (case a => rfl); (case b => rfl); k_whole; intro h_m m_m F_m N_m; (try k_sweep))) | ((with_reducible show wpAny _ _ (exec _ _) _ _ _); k_fold) | (k_unfold; (try dsimp only)) | (k_end; kc_close) | walk1 | (dsimp only; walk1) | (leave1; (try dsimp only)) | fail "no step"))
  exact ret _ _ _ [] (Fr.keep (by assumption)) noled ⟨_, rfl⟩
theorem isdir_spec {w : World} {x : Int} {t : Tok} : Pur w 270 [.int x t] 2 (fun _ => True) (fun v _ => v = .bool (bitAnd x 61440 == 16384)) := by
  refine pur_of fun A Q E s0 gs dr tk0 ost G R _ ret => ?_
  obtain ⟨hd, dp, fr, gd, un⟩ := A; obtain rfl : hd = none := R.hh; obtain ⟨X, mean, mg, mb, T⟩ := id G
  have R' := fun env => R.deeper (env := env)
  refine enter G (R.le (by decide)) (by k_is) (by k_is) (BindsTo.of_eq (binds := [(Str.ofString "mode", .int x t)]) rfl) (locs rfl) rfl rfl rfl (by decide) ?_
  intro L h₁ F N hL A1
  clear G hL
  k_fold
  (repeat' (first | ((with_reducible show wpAny _ _ _ _ _ (Shared.mk _ (Shared.gens _) _ _ _)); (with_reducible first | refine fl_c ?_ rfl | refine fl_a (by assumption) ?_ rfl | refine fl_b (by assumption) ?_ rfl); (fail_if_success (with_reducible show wpAny _ _ _ _ _ (Shared.mk _ (Shared.gens _) _ _ _)))) | ((with_reducible show wpAny _ _ _ _ _ (Shared.mk _ _ _ (_ + _ + _ + _) _)); (with_reducible refine tk_gen ?_); intro tk_m) | (k_here; (with_reducible show wpAny _ _ (call (Value.ref 263) _ _) _ _ _); refine use_pur0 ifmt_spec (by k_asm) (by k_asm) (by k_asm) (by k_asm) (Rm.le (by first | assumption | (rename (∀ env, Rm _ _) => kR_m; exact kR_m _)) (by decide)) trivial ?_; intro v_m h_m tk_m led_m F_m N_m hv_m; obtain ⟨t_m, hv_m⟩ := hv_m; subst hv_m; (try k_sweep)) | ((with_reducible show wpAny _ _ (eval (Expr.Constant _ _ _) _) _ _ _); with_reducible first | refine cint ?_ | refine cstr ?_) | ((with_reducible show wpAny _ _ (eval (Expr.Name _ _) _) _ _ _); k_here; k_dflt (refine' nameX_L (hd := ?d) ?F ?v ?_ ?a ?b; (case F => k_asm); (case a => rfl); (case b => rfl); (case v => rfl); (case d => rfl); k_whole)) | ((with_reducible show wpAny _ _ (storeName _ _ _) _ _ _); k_here; k_dflt (refine' storeX_M ?F ?N ?_ ?a ?b; (case F => k_asm); (case N => k_asm); (case a => rfl); (case b => rfl); k_whole; intro h_m m_m F_m N_m; (try k_sweep))) | ((with_reducible show wpAny _ _ (exec _ _) _ _ _); k_fold) | (k_unfold; (try dsimp only)) | (k_end; kc_close) | walk1 | (dsimp only; walk1) | (leave1; (try dsimp only)) | fail "no step"))
  exact ret _ _ _ [] (Fr.keep (by assumption)) noled rfl

example : True := by w_top off; trivial
noncomputable def tab : Nat → List (Int × Str)
  | 0 => [(40960, Str.ofString "l"), (49152, Str.ofString "s"), (32768, Str.ofString "-"), (24576, Str.ofString "b"), (16384, Str.ofString "d"), (8192, Str.ofString "c"), (4096, Str.ofString "p")]
  | 1 => [(256, Str.ofString "r")]
  | 2 => [(128, Str.ofString "w")]
  | 3 => [(2112, Str.ofString "s"), (2048, Str.ofString "S"), (64, Str.ofString "x")]
  | 4 => [(32, Str.ofString "r")]
  | 5 => [(16, Str.ofString "w")]
  | 6 => [(1032, Str.ofString "s"), (1024, Str.ofString "S"), (8, Str.ofString "x")]
  | 7 => [(4, Str.ofString "r")]
  | 8 => [(2, Str.ofString "w")]
  | 9 => [(513, Str.ofString "t"), (512, Str.ofString "T"), (1, Str.ofString "x")]
  | _ => []
noncomputable def PairsAt (h : Heap) : List Value → List (Int × Str) → Prop
  | [], [] => True
  | v :: vs, p :: ps => (∃ T tb tc, v = .ref T ∧ h.IsTuple T #[.int p.1 tb, .str p.2 tc]) ∧ PairsAt h vs ps
  | _, _ => False
theorem PairsAt.len {h : Heap} : ∀ {vs : List Value} {ps : List (Int × Str)}, PairsAt h vs ps → vs.length = ps.length
  | [], [], _ => rfl
  | _ :: _, _ :: _, h => congrArg (· + 1) h.2.len
theorem PairsAt.get {h : Heap} : ∀ {vs : List Value} {ps : List (Int × Str)} {i : Nat} {v : Value}, PairsAt h vs ps → vs[i]? = some v → ∃ T v0 v1, v = .ref T ∧ h.IsTuple T #[v0, v1] ∧ ∃ b c tb tc, v0 = .int b tb ∧ v1 = .str c tc ∧ ps[i]? = some (b, c)
  | v :: vs, p :: ps, 0, v', h, e => by
    obtain ⟨⟨T, tb, tc, rfl, hT⟩, _⟩ := h
    cases e
    exact ⟨T, _, _, rfl, hT, _, _, _, _, rfl, rfl, rfl⟩
  | v :: vs, p :: ps, i + 1, v', h, e => PairsAt.get (i := i) h.2 (by simpa using e)
theorem pr1 {w : World} {h : Heap} {a : Addr} {o : Obj} {b : Int} {c : Str} {tb tc : Tok} (X : (hd.heap_39 w.params).In h) (k : (hd.heap_39 w.params).lookup a = some o) (hc : o.cls = .type "tuple") (ht : ∃ n, o.data = .seq #[.int b tb, .str c tc] n) :
    ∃ T tb tc, Value.ref a = .ref T ∧ h.IsTuple T #[.int b tb, .str c tc] := ⟨a, tb, tc, rfl, o, X _ _ k, hc, ht⟩
theorem tab_get {w : World} {h : Heap} (X : (hd.heap_39 w.params).In h) : ∀ {i : Nat} {v : Value}, #[Value.ref 278, Value.ref 280, Value.ref 282, Value.ref 286, Value.ref 288, Value.ref 290, Value.ref 294, Value.ref 296, Value.ref 298, Value.ref 302][i]? = some v → ∃ a its, v = .ref a ∧ h.IsTuple a (List.toArray its) ∧ PairsAt h its (tab i)
  | 0, _, e => by cases e; exact ⟨278, [.ref 271, .ref 272, .ref 273, .ref 274, .ref 275, .ref 276, .ref 277], rfl, ⟨_, X _ _ (by k_is), rfl, _, rfl⟩, ⟨pr1 X (by k_is) rfl ⟨_, rfl⟩, ⟨pr1 X (by k_is) rfl ⟨_, rfl⟩, ⟨pr1 X (by k_is) rfl ⟨_, rfl⟩, ⟨pr1 X (by k_is) rfl ⟨_, rfl⟩, ⟨pr1 X (by k_is) rfl ⟨_, rfl⟩, ⟨pr1 X (by k_is) rfl ⟨_, rfl⟩, ⟨pr1 X (by k_is) rfl ⟨_, rfl⟩, trivial⟩⟩⟩⟩⟩⟩⟩⟩
  | 1, _, e => by cases e; exact ⟨280, [.ref 279], rfl, ⟨_, X _ _ (by k_is), rfl, _, rfl⟩, ⟨pr1 X (by k_is) rfl ⟨_, rfl⟩, trivial⟩⟩
  | 2, _, e => by cases e; exact ⟨282, [.ref 281], rfl, ⟨_, X _ _ (by k_is), rfl, _, rfl⟩, ⟨pr1 X (by k_is) rfl ⟨_, rfl⟩, trivial⟩⟩
  | 3, _, e => by cases e; exact ⟨286, [.ref 283, .ref 284, .ref 285], rfl, ⟨_, X _ _ (by k_is), rfl, _, rfl⟩, ⟨pr1 X (by k_is) rfl ⟨_, rfl⟩, ⟨pr1 X (by k_is) rfl ⟨_, rfl⟩, ⟨pr1 X (by k_is) rfl ⟨_, rfl⟩, trivial⟩⟩⟩⟩
  | 4, _, e => by cases e; exact ⟨288, [.ref 287], rfl, ⟨_, X _ _ (by k_is), rfl, _, rfl⟩, ⟨pr1 X (by k_is) rfl ⟨_, rfl⟩, trivial⟩⟩
  | 5, _, e => by cases e; exact ⟨290, [.ref 289], rfl, ⟨_, X _ _ (by k_is), rfl, _, rfl⟩, ⟨pr1 X (by k_is) rfl ⟨_, rfl⟩, trivial⟩⟩
  | 6, _, e => by cases e; exact ⟨294, [.ref 291, .ref 292, .ref 293], rfl, ⟨_, X _ _ (by k_is), rfl, _, rfl⟩, ⟨pr1 X (by k_is) rfl ⟨_, rfl⟩, ⟨pr1 X (by k_is) rfl ⟨_, rfl⟩, ⟨pr1 X (by k_is) rfl ⟨_, rfl⟩, trivial⟩⟩⟩⟩
  | 7, _, e => by cases e; exact ⟨296, [.ref 295], rfl, ⟨_, X _ _ (by k_is), rfl, _, rfl⟩, ⟨pr1 X (by k_is) rfl ⟨_, rfl⟩, trivial⟩⟩
  | 8, _, e => by cases e; exact ⟨298, [.ref 297], rfl, ⟨_, X _ _ (by k_is), rfl, _, rfl⟩, ⟨pr1 X (by k_is) rfl ⟨_, rfl⟩, trivial⟩⟩
  | 9, _, e => by cases e; exact ⟨302, [.ref 299, .ref 300, .ref 301], rfl, ⟨_, X _ _ (by k_is), rfl, _, rfl⟩, ⟨pr1 X (by k_is) rfl ⟨_, rfl⟩, ⟨pr1 X (by k_is) rfl ⟨_, rfl⟩, ⟨pr1 X (by k_is) rfl ⟨_, rfl⟩, trivial⟩⟩⟩⟩
  | _ + 10, _, e => by simp at e
noncomputable def tst (i : Nat) (m b : Int) : Bool := if i = 0 then bitAnd m 61440 == b else bitAnd m b == b
noncomputable def sgn (m : Int) (i : Nat) : Str := match (tab i).find? (fun p => tst i m p.1) with | some p => p.2 | none => if i = 0 then Str.ofString "?" else Str.ofString "-"
theorem sgn_hit {m : Int} {i j : Nat} {b : Int} {c : Str} (h1 : ∀ p ∈ (tab i).take j, tst i m p.1 = false) (h2 : (tab i)[j]? = some (b, c)) (h3 : tst i m b = true) : sgn m i = c := by
  have e : tab i = (tab i).take j ++ (b, c) :: (tab i).drop (j + 1) := by
    obtain ⟨hj, e⟩ := List.getElem?_eq_some_iff.mp h2
    rw [← e, ← List.drop_eq_getElem_cons hj, List.take_append_drop]
  unfold sgn
  rw [e, List.find?_append, List.find?_eq_none.mpr (fun p hp => by rw [h1 p hp]; decide), Option.none_or, List.find?_cons]
  simp only [h3]
theorem sgn_miss {m : Int} {i : Nat} (h1 : ∀ p ∈ tab i, tst i m p.1 = false) : sgn m i = if i = 0 then Str.ofString "?" else Str.ofString "-" := by
  unfold sgn
  rw [List.find?_eq_none.mpr (fun p hp => by rw [h1 p hp]; decide)]
theorem tst_ext {m : Int} {i j : Nat} {b : Int} {c : Str} (h1 : ∀ p ∈ (tab i).take j, tst i m p.1 = false) (h2 : (tab i)[j]? = some (b, c)) (h3 : tst i m b = false) : ∀ p ∈ (tab i).take (j + 1), tst i m p.1 = false := by
  intro p hp
  rw [List.take_add_one, h2] at hp
  rcases List.mem_append.mp hp with q | q
  · exact h1 p q
  · rw [List.mem_singleton.mp q]; exact h3
theorem tab_len : ∀ i, ∀ p ∈ tab i, p.2.length = 1
  | 0 => by decide
  | 1 => by decide
  | 2 => by decide
  | 3 => by decide
  | 4 => by decide
  | 5 => by decide
  | 6 => by decide
  | 7 => by decide
  | 8 => by decide
  | 9 => by decide
  | _ + 10 => fun p hp => nomatch hp
theorem sgn_len (m : Int) (i : Nat) : (sgn m i).length = 1 := by
  unfold sgn
  split
  · rename_i p e; exact tab_len i p (List.mem_of_find?_eq_some e)
  · split <;> rfl
theorem mid_out {xs : List Str} {m₁ m₀ : Str → Option Value} {z : Str} (h : xs.contains z = false) : mid xs m₁ m₀ z = m₀ z := by simp only [mid, h]; rfl
theorem con2 {z : Str} (hz : [Str.ofString "index", Str.ofString "table", Str.ofString "bit", Str.ofString "char"].contains z = false) : [Str.ofString "bit", Str.ofString "char"].contains z = false := by
  cases h : [Str.ofString "bit", Str.ofString "char"].contains z
  · rfl
  · rw [List.contains_iff_mem] at h
    rw [← hz, List.contains_iff_mem.mpr (List.mem_cons_of_mem _ (List.mem_cons_of_mem _ h))]
noncomputable def fileF (m : Int) : Str := Txt.join (Str.ofString "") ((List.range 10).map (sgn m))
theorem filemode_spec {w : World} {x : Int} {t : Tok} : Pur w 310 [.int x t] 3 (fun _ => True) (fun v _ => ∃ t, v = .str (fileF x) t) := by
  refine pur_of fun A Q E s0 gs dr tk0 ost G R _ ret => ?_
  obtain ⟨hd, dp, fr, gd, un⟩ := A; obtain rfl : hd = none := R.hh; obtain ⟨X, mean, mg, mb, T⟩ := id G
  have R' := fun env => R.deeper (env := env)
  refine enter G (R.le (by decide)) (by k_is) (by k_is) (BindsTo.of_eq (binds := [(Str.ofString "mode", .int x t)]) rfl) (locs rfl) rfl rfl rfl (by decide) ?_
  intro L h₁ F N hL A1
  clear G hL
  k_fold
  (repeat' (first | ((with_reducible show wpAny _ _ _ _ _ (Shared.mk _ (Shared.gens _) _ _ _)); (with_reducible first | refine fl_c ?_ rfl | refine fl_a (by assumption) ?_ rfl | refine fl_b (by assumption) ?_ rfl); (fail_if_success (with_reducible show wpAny _ _ _ _ _ (Shared.mk _ (Shared.gens _) _ _ _)))) | ((with_reducible show wpAny _ _ _ _ _ (Shared.mk _ _ _ (_ + _ + _ + _) _)); (with_reducible refine tk_gen ?_); intro tk_m) | ((with_reducible show wpAny _ _ (exec (Stmt.For (Expr.Tuple _ _ _) (Expr.Call _ _ _ _) (_ :: _) [] _) _) _ _ _); (k_here; k_dflt (refine wpAny_For ?_))) | (k_here; (with_reducible show wpAny _ _ (call (Value.type "enumerate") [Value.ref _]) _ _ _); k_dflt (refine' call_enumT ?k1 ?k2 ?k3 ?k4 ?k5 ?k6 ?_; (case k1 => k_asm); (case k2 => k_asm); (case k3 => k_asm); (case k4 => k_is); (case k5 => exact rfl); (case k6 => exact rfl); k_whole); intro e_m it_m h_m F_m N_m l1_m l2_m l3_m; (try k_lt l1_m); (try k_lt2 l2_m); (try k_sweep)) | ((with_reducible show wpAny _ _ (eval (Expr.Constant _ _ _) _) _ _ _); with_reducible first | refine cint ?_ | refine cstr ?_) | ((with_reducible show wpAny _ _ (eval (Expr.Name _ _) _) _ _ _); k_here; k_dflt (refine' nameX_L (hd := ?d) ?F ?v ?_ ?a ?b; (case F => k_asm); (case a => rfl); (case b => rfl); (case v => rfl); (case d => rfl); k_whole)) | ((with_reducible show wpAny _ _ (storeName _ _ _) _ _ _); k_here; k_dflt (refine' storeX_M ?F ?N ?_ ?a ?b; (case F => k_asm); (case N => k_asm); (case a => rfl); (case b => rfl); k_whole; intro h_m m_m F_m N_m; (try k_sweep))) | ((with_reducible show wpAny _ _ (exec _ _) _ _ _); k_fold) | (k_unfold; (try dsimp only)) | (k_end; kc_close) | walk1 | (dsimp only; walk1) | (leave1; (try dsimp only)) | fail "no step"))
  (with_reducible rename Fr _ _ _ _ => kF); (with_reducible rename News _ _ _ _ => kN)
  have hsz : 303 < s0.objs.size := Heap.lt_size (X 303 _ (by k_is))
  refine cap3 kN ?_
  intro e it pe h1 h2 h3
  subst h1 h2 h3
  replace kN := News.sub (nw := [(e, _), (it, _), (pe, _), (pe, _)]) kN (by k_allIn)
  refine' for_e (L := L) [Str.ofString "index", Str.ofString "table", Str.ofString "bit", Str.ofString "char"]
    (fun i m o p => ∃ acc k, o = W.listOf (strValues acc).toArray k ∧ p = o ∧ acc.map (·.1) = (List.range i).map (sgn x))
    rfl rfl (Enm.tuple (l := 303) rfl (by refine neN ?_; omega) (by refine neN ?_; omega) (by refine neN ?_; omega) rfl rfl ?c ?d) rfl rfl rfl kF kN (.inl (X 303 _ (by k_is))) ?off ?h0 ?turn ?done
  case c => exact rfl
  case d => exact rfl
  case off =>
    simp only [List.forall_mem_cons]
    refine ⟨⟨neN ?_, neN ?_⟩, ⟨neN ?_, neN ?_⟩, fun _ h => nomatch h⟩ <;> omega
  case h0 => exact ⟨[], 0, rfl, rfl, rfl⟩
  case turn =>
    intro i t v m₁ o₁ p₁ own h tk hi hP hJ hown kF kN
    k_fold
    simp only [List.cons_append, List.nil_append, List.map_cons, List.map_nil] at kN hown
    obtain ⟨acc, k, rfl, rfl, hacc⟩ := hJ
    obtain ⟨a, its, rfl, hT, hPs⟩ := tab_get X hP
    replace hi : i < 10 := hi
    have hal : acc.length ≤ 10 := by
      have h2 := congrArg List.length hacc
      rw [List.length_map, List.length_map, List.length_range] at h2
      omega
    replace kN := News.sub (nw := (pe, W.listOf (strValues acc).toArray k) :: own) kN (fun p hp => (List.mem_cons.mp hp).elim (fun e => e ▸ .head _) fun e => .tail _ (.tail _ e))
    (repeat' (first | ((with_reducible show wpAny _ _ _ _ _ (Shared.mk _ (Shared.gens _) _ _ _)); (with_reducible first | refine fl_c ?_ rfl | refine fl_a (by assumption) ?_ rfl | refine fl_b (by assumption) ?_ rfl); (fail_if_success (with_reducible show wpAny _ _ _ _ _ (Shared.mk _ (Shared.gens _) _ _ _)))) | ((with_reducible show wpAny _ _ _ _ _ (Shared.mk _ _ _ (_ + _ + _ + _) _)); (with_reducible refine tk_gen ?_); intro tk_m) | ((with_reducible show wpAny _ _ (exec (Stmt.For (Expr.Tuple _ _ _) (Expr.Name _ _) (_ :: _) (_ :: _) _) _) _ _ _); (k_here; k_dflt (refine wpAny_For ?_))) | ((with_reducible show wpAny _ _ (eval (Expr.Constant _ _ _) _) _ _ _); with_reducible first | refine cint ?_ | refine cstr ?_) | ((with_reducible show wpAny _ _ (eval (Expr.Name _ _) _) _ _ _); k_here; k_dflt (refine' nameX_L (hd := ?d) ?F ?v ?_ ?a ?b; (case F => k_asm); (case a => rfl); (case b => rfl); (case v => rfl); (case d => rfl); k_whole)) | ((with_reducible show wpAny _ _ (storeName _ _ _) _ _ _); k_here; k_dflt (refine' storeX_M ?F ?N ?_ ?a ?b; (case F => k_asm); (case N => k_asm); (case a => rfl); (case b => rfl); k_whole; intro h_m m_m F_m N_m; (try k_sweep))) | ((with_reducible show wpAny _ _ (exec _ _) _ _ _); k_fold) | (k_unfold; (try dsimp only)) | (k_end; kc_close) | walk1 | (dsimp only; walk1) | (leave1; (try dsimp only)) | fail "no step"))
    (with_reducible rename Fr _ _ _ _ => kF2); (with_reducible rename News _ _ _ _ => kN2)
    refine' for_else (L := L) (fun j m => (∀ z, [Str.ofString "bit", Str.ofString "char"].contains z = false → m z = (fun y => if y = Str.ofString "table" then some (Value.ref a) else if y = Str.ofString "index" then some (Value.int (↑i) t) else mid [Str.ofString "index", Str.ofString "table", Str.ofString "bit", Str.ofString "char"] m₁ (fun y => if y = Str.ofString "perm" then some (Value.ref pe) else List.lookup y [(Str.ofString "mode", Value.int x _)].reverse) y) z) ∧ ∀ p ∈ (tab i).take j, tst i x p.1 = false)
      rfl rfl hT (fun j v e => hPs.get (by simpa using e)) rfl rfl rfl kF2 kN2 ⟨fun _ _ => rfl, fun p hp => nomatch hp⟩ ?turn2 ?els
    case turn2 =>
      intro j v0 v1 m₂ I oI h tk hj hP2 hJ hlt kF kN
      k_fold
      obtain ⟨ag, hno⟩ := hJ
      obtain ⟨b, c, tb, tc, rfl, rfl, hbc⟩ := hP2
      rw [mid_eq ag] at kF
      have hltI : pe < I := hlt (pe, _) (.head _)
      clear hlt
      have hown2 : OwnOff ((I, oI) :: own) [pe, pe] := fun p hp b hb => by
        have eb : b = pe := by rcases List.mem_cons.mp hb with e | hb; exact e; exact List.mem_singleton.mp hb
        rcases List.mem_cons.mp hp with e | hp
        · rw [e, eb]; exact Nat.ne_of_gt hltI
        · exact hown p hp b hb
      replace kN := News.sub (nw := (pe, W.listOf (strValues acc).toArray k) :: ((I, oI) :: own)) kN (fun p hp => (List.mem_cons.mp hp).elim (fun e => e ▸ .tail _ (.head _)) fun hp => (List.mem_cons.mp hp).elim (fun e => e ▸ .head _) fun hp => .tail _ (.tail _ hp))
      obtain ⟨own2, e2⟩ : ∃ own2, own2 = (I, oI) :: own := ⟨_, rfl⟩
      rw [← e2] at kN hown2
      (repeat' (first | ((with_reducible show wpAny _ _ _ _ _ (Shared.mk _ (Shared.gens _) _ _ _)); (with_reducible first | refine fl_c ?_ rfl | refine fl_a (by assumption) ?_ rfl | refine fl_b (by assumption) ?_ rfl); (fail_if_success (with_reducible show wpAny _ _ _ _ _ (Shared.mk _ (Shared.gens _) _ _ _)))) | ((with_reducible show wpAny _ _ _ _ _ (Shared.mk _ _ _ (_ + _ + _ + _) _)); (with_reducible refine tk_gen ?_); intro tk_m) | (k_here; (with_reducible show wpAny _ _ (call (Value.ref 263) _ _) _ _ _); refine use_pur0 ifmt_spec (by k_asm) (by k_asm) (by k_asm) (by k_asm) (Rm.le (by first | assumption | (rename (∀ env, Rm _ _) => kR_m; exact kR_m _)) (by decide)) trivial ?_; intro v_m h_m tk_m led_m F_m N_m hv_m; obtain ⟨t_m, hv_m⟩ := hv_m; subst hv_m; (try k_sweep)) | (k_here; (with_reducible show wpAny _ _ (call (Value.builtin "list.append") [Value.ref _, Value.str _ _]) _ _ _); k_dflt (refine' append_strs ?k1 ?k2 ?k3 ?z ?_; (case k1 => k_asm); (case k2 => k_asm); (case k3 => k_upd); (case z => first | assumption | omega | (simp only [List.length_append, List.length_singleton, List.length_nil, List.length_cons]; omega)); k_whole); intro h_m F_m N_m; (try k_sweep)) | ((with_reducible show wpAny _ _ (eval (Expr.Constant _ _ _) _) _ _ _); with_reducible first | refine cint ?_ | refine cstr ?_) | ((with_reducible show wpAny _ _ (eval (Expr.Name _ _) _) _ _ _); k_here; k_dflt (refine' nameX_L (hd := ?d) ?F ?v ?_ ?a ?b; (case F => k_asm); (case a => rfl); (case b => rfl); (case v => rfl); (case d => rfl); k_whole)) | ((with_reducible show wpAny _ _ (storeName _ _ _) _ _ _); k_here; k_dflt (refine' storeX_M ?F ?N ?_ ?a ?b; (case F => k_asm); (case N => k_asm); (case a => rfl); (case b => rfl); k_whole; intro h_m m_m F_m N_m; (try k_sweep))) | ((with_reducible show wpAny _ _ (exec _ _) _ _ _); k_fold) | (k_unfold; (try dsimp only)) | (k_end; kc_close) | walk1 | (dsimp only; walk1) | (leave1; (try dsimp only)) | fail "no step"))
      · have e0 : i = 0 := by omega
        (with_reducible rename Fr _ _ _ _ => kF3); (with_reducible rename News _ _ _ _ => kN3)
        refine tx_brk ?_
        (repeat' (first | ((with_reducible show wpAny _ _ _ _ _ (Shared.mk _ (Shared.gens _) _ _ _)); (with_reducible first | refine fl_c ?_ rfl | refine fl_a (by assumption) ?_ rfl | refine fl_b (by assumption) ?_ rfl); (fail_if_success (with_reducible show wpAny _ _ _ _ _ (Shared.mk _ (Shared.gens _) _ _ _)))) | ((with_reducible show wpAny _ _ _ _ _ (Shared.mk _ _ _ (_ + _ + _ + _) _)); (with_reducible refine tk_gen ?_); intro tk_m) | ((with_reducible show wpAny _ _ (eval (Expr.Constant _ _ _) _) _ _ _); with_reducible first | refine cint ?_ | refine cstr ?_) | ((with_reducible show wpAny _ _ (eval (Expr.Name _ _) _) _ _ _); k_here; k_dflt (refine' nameX_L (hd := ?d) ?F ?v ?_ ?a ?b; (case F => k_asm); (case a => rfl); (case b => rfl); (case v => rfl); (case d => rfl); k_whole)) | ((with_reducible show wpAny _ _ (storeName _ _ _) _ _ _); k_here; k_dflt (refine' storeX_M ?F ?N ?_ ?a ?b; (case F => k_asm); (case N => k_asm); (case a => rfl); (case b => rfl); k_whole; intro h_m m_m F_m N_m; (try k_sweep))) | ((with_reducible show wpAny _ _ (exec _ _) _ _ _); k_fold) | (k_unfold; (try dsimp only)) | (k_end; kc_close) | walk1 | (dsimp only; walk1) | (leave1; (try dsimp only)) | fail "no step"))
        refine te_next kF3 kN3 ?sub ?_ ⟨acc ++ [(c, tc)], k + 1, rfl, rfl, ?_⟩
        case sub => (intro p hp; rcases List.mem_cons.mp hp with e | hp; exact e ▸ .head _; rcases List.mem_cons.mp hp with e | hp; exact e ▸ .head _; exact .tail _ (e2 ▸ .tail _ hp))
        · intro z hz; rw [if_neg (contains_ne hz (by rfl)), if_neg (contains_ne hz (by rfl)), mid_out (con2 hz)]; (repeat refine out_st (contains_ne hz (by rfl)) ?_); exact mid_out hz
        · rw [List.map_append, hacc, List.range_succ, List.map_append]
          congr 1
          show [_] = [sgn x i]
          rw [sgn_hit hno hbc (by unfold tst; rw [if_pos e0]; exact beq_iff_eq.mpr (by assumption))]
      · have e0 : i = 0 := by omega
        (with_reducible rename Fr _ _ _ _ => kF3); (with_reducible rename News _ _ _ _ => kN3)
        subst e2
        refine tx_next kF3 kN3 (fun p hp => (List.mem_cons.mp hp).elim (fun e => e ▸ .tail _ (.head _)) fun hp => (List.mem_cons.mp hp).elim (fun e => e ▸ .head _) fun hp => .tail _ (.tail _ hp)) ⟨?_, ?_⟩
        · intro z hz; (repeat refine out_st (contains_ne hz (by rfl)) ?_); simp only [mid, hz]; rfl
        · exact tst_ext hno hbc (by unfold tst; rw [if_pos e0]; exact beq_eq_false_iff_ne.mpr (by assumption))
      · have e0 : i ≠ 0 := by omega
        (with_reducible rename Fr _ _ _ _ => kF3); (with_reducible rename News _ _ _ _ => kN3)
        refine tx_brk ?_
        (repeat' (first | ((with_reducible show wpAny _ _ _ _ _ (Shared.mk _ (Shared.gens _) _ _ _)); (with_reducible first | refine fl_c ?_ rfl | refine fl_a (by assumption) ?_ rfl | refine fl_b (by assumption) ?_ rfl); (fail_if_success (with_reducible show wpAny _ _ _ _ _ (Shared.mk _ (Shared.gens _) _ _ _)))) | ((with_reducible show wpAny _ _ _ _ _ (Shared.mk _ _ _ (_ + _ + _ + _) _)); (with_reducible refine tk_gen ?_); intro tk_m) | ((with_reducible show wpAny _ _ (eval (Expr.Constant _ _ _) _) _ _ _); with_reducible first | refine cint ?_ | refine cstr ?_) | ((with_reducible show wpAny _ _ (eval (Expr.Name _ _) _) _ _ _); k_here; k_dflt (refine' nameX_L (hd := ?d) ?F ?v ?_ ?a ?b; (case F => k_asm); (case a => rfl); (case b => rfl); (case v => rfl); (case d => rfl); k_whole)) | ((with_reducible show wpAny _ _ (storeName _ _ _) _ _ _); k_here; k_dflt (refine' storeX_M ?F ?N ?_ ?a ?b; (case F => k_asm); (case N => k_asm); (case a => rfl); (case b => rfl); k_whole; intro h_m m_m F_m N_m; (try k_sweep))) | ((with_reducible show wpAny _ _ (exec _ _) _ _ _); k_fold) | (k_unfold; (try dsimp only)) | (k_end; kc_close) | walk1 | (dsimp only; walk1) | (leave1; (try dsimp only)) | fail "no step"))
        refine te_next kF3 kN3 ?sub ?_ ⟨acc ++ [(c, tc)], k + 1, rfl, rfl, ?_⟩
        case sub => (intro p hp; rcases List.mem_cons.mp hp with e | hp; exact e ▸ .head _; rcases List.mem_cons.mp hp with e | hp; exact e ▸ .head _; exact .tail _ (e2 ▸ .tail _ hp))
        · intro z hz; rw [if_neg (contains_ne hz (by rfl)), if_neg (contains_ne hz (by rfl)), mid_out (con2 hz)]; (repeat refine out_st (contains_ne hz (by rfl)) ?_); exact mid_out hz
        · rw [List.map_append, hacc, List.range_succ, List.map_append]
          congr 1
          show [_] = [sgn x i]
          rw [sgn_hit hno hbc (by unfold tst; rw [if_neg e0]; exact beq_iff_eq.mpr (by assumption))]
      · have e0 : i ≠ 0 := by omega
        (with_reducible rename Fr _ _ _ _ => kF3); (with_reducible rename News _ _ _ _ => kN3)
        subst e2
        refine tx_next kF3 kN3 (fun p hp => (List.mem_cons.mp hp).elim (fun e => e ▸ .tail _ (.head _)) fun hp => (List.mem_cons.mp hp).elim (fun e => e ▸ .head _) fun hp => .tail _ (.tail _ hp)) ⟨?_, ?_⟩
        · intro z hz; (repeat refine out_st (contains_ne hz (by rfl)) ?_); simp only [mid, hz]; rfl
        · exact tst_ext hno hbc (by unfold tst; rw [if_neg e0]; exact beq_eq_false_iff_ne.mpr (by assumption))
    case els =>
      intro m₂ h tk hJ kF kN
      k_fold
      obtain ⟨ag, hno⟩ := hJ
      rw [mid_eq ag] at kF
      have hno' : ∀ p ∈ tab i, tst i x p.1 = false := by
        rw [List.size_toArray, hPs.len, List.take_length] at hno; exact hno
      (repeat' (first | ((with_reducible show wpAny _ _ _ _ _ (Shared.mk _ (Shared.gens _) _ _ _)); (with_reducible first | refine fl_c ?_ rfl | refine fl_a (by assumption) ?_ rfl | refine fl_b (by assumption) ?_ rfl); (fail_if_success (with_reducible show wpAny _ _ _ _ _ (Shared.mk _ (Shared.gens _) _ _ _)))) | ((with_reducible show wpAny _ _ _ _ _ (Shared.mk _ _ _ (_ + _ + _ + _) _)); (with_reducible refine tk_gen ?_); intro tk_m) | (k_here; (with_reducible show wpAny _ _ (call (Value.builtin "list.append") [Value.ref _, Value.str _ _]) _ _ _); k_dflt (refine' append_strs ?k1 ?k2 ?k3 ?z ?_; (case k1 => k_asm); (case k2 => k_asm); (case k3 => k_upd); (case z => first | assumption | omega | (simp only [List.length_append, List.length_singleton, List.length_nil, List.length_cons]; omega)); k_whole); intro h_m F_m N_m; (try k_sweep)) | ((with_reducible show wpAny _ _ (eval (Expr.Constant _ _ _) _) _ _ _); with_reducible first | refine cint ?_ | refine cstr ?_) | ((with_reducible show wpAny _ _ (eval (Expr.Name _ _) _) _ _ _); k_here; k_dflt (refine' nameX_L (hd := ?d) ?F ?v ?_ ?a ?b; (case F => k_asm); (case a => rfl); (case b => rfl); (case v => rfl); (case d => rfl); k_whole)) | ((with_reducible show wpAny _ _ (storeName _ _ _) _ _ _); k_here; k_dflt (refine' storeX_M ?F ?N ?_ ?a ?b; (case F => k_asm); (case N => k_asm); (case a => rfl); (case b => rfl); k_whole; intro h_m m_m F_m N_m; (try k_sweep))) | ((with_reducible show wpAny _ _ (exec _ _) _ _ _); k_fold) | (k_unfold; (try dsimp only)) | (k_end; kc_close) | walk1 | (dsimp only; walk1) | (leave1; (try dsimp only)) | fail "no step"))
      all_goals
        (with_reducible rename Fr _ _ _ _ => kF3); (with_reducible rename News _ _ _ _ => kN3)
        refine te_next kF3 kN3 (by intro p hp; rcases List.mem_cons.mp hp with e | hp; exact e ▸ .head _; rcases List.mem_cons.mp hp with e | hp; exact e ▸ .head _; exact .tail _ hp) ?_ ⟨_, _, rfl, rfl, ?_⟩
      · intro z hz; rw [mid_out (con2 hz)]; (repeat refine out_st (contains_ne hz (by rfl)) ?_); exact mid_out hz
      · rw [List.map_append, hacc, List.range_succ, List.map_append]
        congr 1
        show [_] = [sgn x i]
        rw [sgn_miss hno', if_pos (by omega)]
      · intro z hz; rw [mid_out (con2 hz)]; (repeat refine out_st (contains_ne hz (by rfl)) ?_); exact mid_out hz
      · rw [List.map_append, hacc, List.range_succ, List.map_append]
        congr 1
        show [_] = [sgn x i]
        rw [sgn_miss hno', if_neg (by omega)]
  case done =>
    intro m₁ o₁ p₁ h' tk hJ kF kN
    obtain ⟨acc, k, rfl, rfl, hacc⟩ := hJ
    have hal : acc.length = 10 := by
      have h2 := congrArg List.length hacc
      rw [List.length_map, List.length_map, List.length_range] at h2
      exact h2
    replace kN := News.sub (nw := [(pe, W.listOf (strValues acc).toArray k)]) kN (by k_allIn)
    have hJO : JoinOk (Str.ofString "") (acc.map (·.1)) = true := by
      refine joinOk_of_weight ?_ (by decide)
      have h5 := sum_len_le (l := acc.map (·.1)) (fun a ha => by
        rw [hacc] at ha
        obtain ⟨j, _, rfl⟩ := List.mem_map.mp ha
        rw [sgn_len x j]; omega)
      rw [List.length_map] at h5 ⊢
      omega
    (repeat' (first | ((with_reducible show wpAny _ _ _ _ _ (Shared.mk _ (Shared.gens _) _ _ _)); (with_reducible first | refine fl_c ?_ rfl | refine fl_a (by assumption) ?_ rfl | refine fl_b (by assumption) ?_ rfl); (fail_if_success (with_reducible show wpAny _ _ _ _ _ (Shared.mk _ (Shared.gens _) _ _ _)))) | ((with_reducible show wpAny _ _ _ _ _ (Shared.mk _ _ _ (_ + _ + _ + _) _)); (with_reducible refine tk_gen ?_); intro tk_m) | (k_here; (with_reducible show wpAny _ _ (call (Value.builtin "str.join") [Value.str _ _, Value.ref _]) _ _ _); k_dflt (refine SC.join (News.isList (by k_asm) (by k_mem)) rfl (by assumption) ?_); intro t_m k_m) | ((with_reducible show wpAny _ _ (eval (Expr.Constant _ _ _) _) _ _ _); with_reducible first | refine cint ?_ | refine cstr ?_) | ((with_reducible show wpAny _ _ (eval (Expr.Name _ _) _) _ _ _); k_here; k_dflt (refine' nameX_L (hd := ?d) ?F ?v ?_ ?a ?b; (case F => k_asm); (case a => rfl); (case b => rfl); (case v => rfl); (case d => rfl); k_whole)) | ((with_reducible show wpAny _ _ (storeName _ _ _) _ _ _); k_here; k_dflt (refine' storeX_M ?F ?N ?_ ?a ?b; (case F => k_asm); (case N => k_asm); (case a => rfl); (case b => rfl); k_whole; intro h_m m_m F_m N_m; (try k_sweep))) | ((with_reducible show wpAny _ _ (exec _ _) _ _ _); k_fold) | (k_unfold; (try dsimp only)) | (k_end; kc_close) | walk1 | (dsimp only; walk1) | (leave1; (try dsimp only)) | fail "no step"))
    rw [hacc]
    exact ret _ _ _ [] (Fr.keep (by assumption)) noled ⟨_, rfl⟩

example : True := by w_top off; trivial
noncomputable def chr (s : Str) (j : Int) : Str := ⟨#[s.cps.getD j.toNat 0]⟩
section
variable {prog : Program} {w : World} {A : Around} {E : Value → Shared → Prop} {s : Shared}
theorem item_chr {value slice : PySem.Expr} {x : Str} {t u : Tok} {j : Int} {Q : Value → Shared → Prop} (h0 : 0 ≤ j ∧ j < x.length) (hz : x.length < 1000) (h : Q (.str (chr x j) s.toks) { s with toks := s.toks + 1 })
    (hs : ∀ n : Nat, subscripted slice false (.str x t) (.int (n : Int) u) = operate [.str x t, .int (n : Int) u] (getItem (.str x t) (.int (n : Int) u)) := by intro _; with_unfolding_all rfl) :
    wpAny (model prog w) A (subscriptTail value slice (.str x t) (.int j u)) Q E s := by
  obtain ⟨n, rfl⟩ := Int.eq_ofNat_of_zero_le h0.1
  have hn : n < x.cps.size := by have := h0.2; exact Int.ofNat_lt.mp this
  refine item_sign (c := x.cps.getD n 0) (by have : x.cps.size < 1000 := hz; omega) ?_ ?_ (hs n)
  · rw [Array.getD_eq_getD_getElem?, Array.getElem?_eq_getElem hn]; rfl
  · exact h
end
theorem chr_len (s : Str) (j : Int) : (chr s j).length = 1 := rfl
theorem d_len : (Str.ofString "d").length = 1 := rfl
theorem n_len : (Str.ofString "-").length = 1 := rfl
theorem q80 : (8 : Int) ^ ((2 : Int) - 0).toNat = 64 := by decide
theorem q81 : (8 : Int) ^ ((2 : Int) - 1).toNat = 8 := by decide
theorem q82 : (8 : Int) ^ ((2 : Int) - 2).toNat = 1 := by decide
theorem q20 : (2 : Int) ^ ((2 : Int) - 0).toNat = 4 := by decide
theorem q21 : (2 : Int) ^ ((2 : Int) - 1).toNat = 2 := by decide
theorem q22 : (2 : Int) ^ ((2 : Int) - 2).toNat = 1 := by decide
noncomputable def rowP (x : Int) (i : Nat) : Str :=
  chr (Str.ofString "-r") (((x.fdiv (8 ^ (2 - i))).fmod 8).fdiv 4) ++ chr (Str.ofString "-w") ((((x.fdiv (8 ^ (2 - i))).fmod 8).fdiv 2).fmod 2)
noncomputable def rowX (x : Int) (i : Nat) : Str :=
  chr (if i = 2 then Str.ofString "-xTt" else Str.ofString "-xSs") (((x.fdiv (8 ^ (2 - i))).fmod 8).fmod 2 + 2 * ((x.fdiv 512).fdiv (2 ^ (2 - i))).fmod 2)
noncomputable def rowU (x : Int) : Nat → Str
  | 0 => if x.fdiv 4096 = 4 then Str.ofString "d" else Str.ofString "-"
  | i + 1 => rowU x i ++ rowP x i ++ rowX x i
theorem rowU_len (x : Int) : ∀ i, (rowU x i).length = 3 * i + 1
  | 0 => by unfold rowU; split <;> rfl
  | i + 1 => by show (rowU x i ++ rowP x i ++ rowX x i).length = _; rw [Str.length_append, Str.length_append, rowU_len x i]; unfold rowP rowX; simp only [Str.length_append, chr_len]; omega
theorem row_spec {w : World} {x : Int} {t : Tok} : Pur w 343 [.int x t] 3 (fun _ => 0 ≤ x ∧ x < 65536) (fun v _ => ∃ t, v = .str (rowU x 3) t) := by
  refine pur_of fun A Q E s0 gs dr tk0 ost G R hx ret => ?_
  obtain ⟨hd, dp, fr, gd, un⟩ := A; obtain rfl : hd = none := R.hh; obtain ⟨X, mean, mg, mb, T⟩ := id G
  have R' := fun env => R.deeper (env := env)
  obtain ⟨hx0, hx1⟩ := hx
  refine enter G (R.le (by decide)) (by k_is) (by k_is) (BindsTo.of_eq (binds := [(Str.ofString "mode", .int x t)]) rfl) (locs rfl) rfl rfl rfl (by decide) ?_
  intro L h₁ F N hL A1
  clear G hL
  k_fold
  (repeat' (first | ((with_reducible show wpAny _ _ _ _ _ (Shared.mk _ (Shared.gens _) _ _ _)); (with_reducible first | refine fl_c ?_ rfl | refine fl_a (by assumption) ?_ rfl | refine fl_b (by assumption) ?_ rfl); (fail_if_success (with_reducible show wpAny _ _ _ _ _ (Shared.mk _ (Shared.gens _) _ _ _)))) | ((with_reducible show wpAny _ _ _ _ _ (Shared.mk _ _ _ (_ + _ + _ + _) _)); (with_reducible refine tk_gen ?_); intro tk_m) | ((with_reducible show wpAny _ _ (binaryOp Operator.Mod (Value.int _ _) (Value.int _ _)) _ _ _); (k_here; dsimp only)) | ((with_reducible show wpAny _ _ (eval (Expr.Subscript _ _ _) _) _ _ _); (k_here; dsimp only)) | ((with_reducible show wpAny _ _ (storeName _ _ _) _ _ _); (k_here; dsimp only)) | ((with_reducible show wpAny _ _ (binaryOp Operator.FloorDiv (Value.int _ _) (Value.int _ _)) _ _ _); (k_here; first | rw [q80] | rw [q81] | rw [q82] | rw [q20] | rw [q21] | rw [q22])) | ((with_reducible show wpAny _ _ (exec (Stmt.For (Expr.Name _ _) (Expr.Call _ _ _ _) (_ :: _) [] _) _) _ _ _); (k_here; k_dflt (refine wpAny_For ?_))) | (k_here; (with_reducible show wpAny _ _ (call (Value.type "range") [Value.int 3 _]) _ _ _); k_dflt (refine' call_rangeL (n := 3) ?k1 ?k2 ?_; (case k1 => k_asm); (case k2 => k_asm); k_whole); intro r_m t_m u_m v_m h_m k_m F_m N_m l1_m; (try k_lt l1_m); (try k_sweep)) | (k_here; (with_reducible show wpAny _ _ (subscriptTail _ _ (Value.str (Str.ofString _) _) (Value.int _ _)) _ _ _); (with_unfolding_all refine' item_chr ?k1 ?k2 ?_ ?k3; (case k1 => (refine And.intro ?_ ?_ <;> (first | rw [show Str.length (Str.ofString "-r") = 2 by rfl] | rw [show Str.length (Str.ofString "-w") = 2 by rfl] | rw [show Str.length (Str.ofString "-xSs") = 4 by rfl] | rw [show Str.length (Str.ofString "-xTt") = 4 by rfl] | skip) <;> (simp only [Int.fdiv_eq_ediv_of_nonneg _ (show (0 : Int) ≤ 2 by decide), Int.fdiv_eq_ediv_of_nonneg _ (show (0 : Int) ≤ 4 by decide), Int.fdiv_eq_ediv_of_nonneg _ (show (0 : Int) ≤ 64 by decide), Int.fdiv_eq_ediv_of_nonneg _ (show (0 : Int) ≤ 8 by decide), Int.fdiv_eq_ediv_of_nonneg _ (show (0 : Int) ≤ 1 by decide), Int.fdiv_eq_ediv_of_nonneg _ (show (0 : Int) ≤ 512 by decide), Int.fmod_eq_emod_of_nonneg _ (show (0 : Int) ≤ 2 by decide), Int.fmod_eq_emod_of_nonneg _ (show (0 : Int) ≤ 8 by decide)]; omega))); (case k2 => decide); (case k3 => (intro _; with_unfolding_all rfl)); k_whole)) | ((with_reducible show wpAny _ _ (inplaceOp Operator.Add (Value.str _ _) (Value.str _ _)) _ _ _); (k_here; (refine SBL.iadd (hsz := ?hsz) ?_; (case hsz => (simp only [chr_len, Str.length_append, sizeLine_eq]; omega))); intro t_m k_m z_m; clear z_m; (try k_sweep))) | (k_here; (with_reducible show wpAny _ _ (binaryOp Operator.Add (Value.str (chr _ _) _) (Value.str _ _)) _ _ _); (refine SBL.add (hsz := ?hsz) ?_; (case hsz => (simp only [chr_len, Str.length_append, sizeLine_eq]; omega))); intro t_m k_m z_m; clear z_m; (try k_sweep)) | ((with_reducible show wpAny _ _ (eval (Expr.Constant _ _ _) _) _ _ _); with_reducible first | refine cint ?_ | refine cstr ?_) | ((with_reducible show wpAny _ _ (eval (Expr.Name _ _) _) _ _ _); k_here; k_dflt (refine' nameX_L (hd := ?d) ?F ?v ?_ ?a ?b; (case F => k_asm); (case a => rfl); (case b => rfl); (case v => rfl); (case d => rfl); k_whole)) | ((with_reducible show wpAny _ _ (storeName _ _ _) _ _ _); k_here; k_dflt (refine' storeX_M ?F ?N ?_ ?a ?b; (case F => k_asm); (case N => k_asm); (case a => rfl); (case b => rfl); k_whole; intro h_m m_m F_m N_m; (try k_sweep))) | ((with_reducible show wpAny _ _ (exec _ _) _ _ _); k_fold) | (k_unfold; (try dsimp only)) | (k_end; kc_close) | walk1 | (dsimp only; walk1) | (leave1; (try dsimp only)) | fail "no step"))
  all_goals
    (with_reducible rename Fr _ _ _ _ => kF); (with_reducible rename News _ _ _ _ => kN)
    refine cap1 kN ?_
    intro r h1
    subst h1
    obtain ⟨t0, kF⟩ : ∃ t0, Fr s0 L _ (fun y => if y = Str.ofString "row" then some (.str _ t0) else List.lookup y [(Str.ofString "mode", Value.int x t)].reverse) := ⟨_, kF⟩
    refine' for_0 (L := L) [Str.ofString "place", Str.ofString "row", Str.ofString "figure", Str.ofString "above"] (fun i m => ∃ t, m (Str.ofString "row") = some (.str (rowU x i) t)) rfl (Itb.range rfl (by decide)) rfl rfl kF kN (.inr (.head _)) ?h0 ?turn ?done
    case h0 => exact ⟨_, by unfold rowU; simp only [*, if_true, if_false]; rfl⟩
    case turn =>
      intro I i v m₁ oI h tk hlt hi hP hJ kF kN
      k_fold
      obtain ⟨t1, e1⟩ := hJ
      obtain ⟨t2, rfl⟩ := hP
      replace kF := frx (x := Str.ofString "row") kF (show _ = some (Value.str _ t1) by refine mskip (by decide) ?_; exact e1)
      have hl := rowU_len x i
      have hl2 : (rowU x i).length ≤ 10 := by omega
      k_lt hlt
      rcases i with _ | _ | _ | i
      · rw [show ((0 : Nat) : Int) = 0 from rfl] at kF
        (repeat' (first | ((with_reducible show wpAny _ _ _ _ _ (Shared.mk _ (Shared.gens _) _ _ _)); (with_reducible first | refine fl_c ?_ rfl | refine fl_a (by assumption) ?_ rfl | refine fl_b (by assumption) ?_ rfl); (fail_if_success (with_reducible show wpAny _ _ _ _ _ (Shared.mk _ (Shared.gens _) _ _ _)))) | ((with_reducible show wpAny _ _ _ _ _ (Shared.mk _ _ _ (_ + _ + _ + _) _)); (with_reducible refine tk_gen ?_); intro tk_m) | ((with_reducible show wpAny _ _ (binaryOp Operator.Mod (Value.int _ _) (Value.int _ _)) _ _ _); (k_here; dsimp only)) | ((with_reducible show wpAny _ _ (eval (Expr.Subscript _ _ _) _) _ _ _); (k_here; dsimp only)) | ((with_reducible show wpAny _ _ (storeName _ _ _) _ _ _); (k_here; dsimp only)) | ((with_reducible show wpAny _ _ (binaryOp Operator.FloorDiv (Value.int _ _) (Value.int _ _)) _ _ _); (k_here; first | rw [q80] | rw [q81] | rw [q82] | rw [q20] | rw [q21] | rw [q22])) | ((with_reducible show wpAny _ _ (exec (Stmt.For (Expr.Name _ _) (Expr.Call _ _ _ _) (_ :: _) [] _) _) _ _ _); (k_here; k_dflt (refine wpAny_For ?_))) | (k_here; (with_reducible show wpAny _ _ (call (Value.type "range") [Value.int 3 _]) _ _ _); k_dflt (refine' call_rangeL (n := 3) ?k1 ?k2 ?_; (case k1 => k_asm); (case k2 => k_asm); k_whole); intro r_m t_m u_m v_m h_m k_m F_m N_m l1_m; (try k_lt l1_m); (try k_sweep)) | (k_here; (with_reducible show wpAny _ _ (subscriptTail _ _ (Value.str (Str.ofString _) _) (Value.int _ _)) _ _ _); (with_unfolding_all refine' item_chr ?k1 ?k2 ?_ ?k3; (case k1 => (refine And.intro ?_ ?_ <;> (first | rw [show Str.length (Str.ofString "-r") = 2 by rfl] | rw [show Str.length (Str.ofString "-w") = 2 by rfl] | rw [show Str.length (Str.ofString "-xSs") = 4 by rfl] | rw [show Str.length (Str.ofString "-xTt") = 4 by rfl] | skip) <;> (simp only [Int.fdiv_eq_ediv_of_nonneg _ (show (0 : Int) ≤ 2 by decide), Int.fdiv_eq_ediv_of_nonneg _ (show (0 : Int) ≤ 4 by decide), Int.fdiv_eq_ediv_of_nonneg _ (show (0 : Int) ≤ 64 by decide), Int.fdiv_eq_ediv_of_nonneg _ (show (0 : Int) ≤ 8 by decide), Int.fdiv_eq_ediv_of_nonneg _ (show (0 : Int) ≤ 1 by decide), Int.fdiv_eq_ediv_of_nonneg _ (show (0 : Int) ≤ 512 by decide), Int.fmod_eq_emod_of_nonneg _ (show (0 : Int) ≤ 2 by decide), Int.fmod_eq_emod_of_nonneg _ (show (0 : Int) ≤ 8 by decide)]; omega))); (case k2 => decide); (case k3 => (intro _; with_unfolding_all rfl)); k_whole)) | ((with_reducible show wpAny _ _ (inplaceOp Operator.Add (Value.str _ _) (Value.str _ _)) _ _ _); (k_here; (refine SBL.iadd (hsz := ?hsz) ?_; (case hsz => (simp only [chr_len, Str.length_append, sizeLine_eq]; omega))); intro t_m k_m z_m; clear z_m; (try k_sweep))) | (k_here; (with_reducible show wpAny _ _ (binaryOp Operator.Add (Value.str (chr _ _) _) (Value.str _ _)) _ _ _); (refine SBL.add (hsz := ?hsz) ?_; (case hsz => (simp only [chr_len, Str.length_append, sizeLine_eq]; omega))); intro t_m k_m z_m; clear z_m; (try k_sweep)) | ((with_reducible show wpAny _ _ (eval (Expr.Constant _ _ _) _) _ _ _); with_reducible first | refine cint ?_ | refine cstr ?_) | ((with_reducible show wpAny _ _ (eval (Expr.Name _ _) _) _ _ _); k_here; k_dflt (refine' nameX_L (hd := ?d) ?F ?v ?_ ?a ?b; (case F => k_asm); (case a => rfl); (case b => rfl); (case v => rfl); (case d => rfl); k_whole)) | ((with_reducible show wpAny _ _ (storeName _ _ _) _ _ _); k_here; k_dflt (refine' storeX_M ?F ?N ?_ ?a ?b; (case F => k_asm); (case N => k_asm); (case a => rfl); (case b => rfl); k_whole; intro h_m m_m F_m N_m; (try k_sweep))) | ((with_reducible show wpAny _ _ (exec _ _) _ _ _); k_fold) | (k_unfold; (try dsimp only)) | (k_end; kc_close) | walk1 | (dsimp only; walk1) | (leave1; (try dsimp only)) | fail "no step"))
        refine t0_next (by assumption) (by assumption) (fun p hp => .tail _ hp) ?_ ?_
        · intro z hz; (repeat refine out_st (contains_ne hz (by rfl)) ?_); simp only [mid, hz]; rw [if_neg Bool.false_ne_true, if_neg (contains_ne hz (by rfl))]
        · exact ⟨_, rfl⟩
      · rw [show ((0 + 1 : Nat) : Int) = 1 from rfl] at kF
        (repeat' (first | ((with_reducible show wpAny _ _ _ _ _ (Shared.mk _ (Shared.gens _) _ _ _)); (with_reducible first | refine fl_c ?_ rfl | refine fl_a (by assumption) ?_ rfl | refine fl_b (by assumption) ?_ rfl); (fail_if_success (with_reducible show wpAny _ _ _ _ _ (Shared.mk _ (Shared.gens _) _ _ _)))) | ((with_reducible show wpAny _ _ _ _ _ (Shared.mk _ _ _ (_ + _ + _ + _) _)); (with_reducible refine tk_gen ?_); intro tk_m) | ((with_reducible show wpAny _ _ (binaryOp Operator.Mod (Value.int _ _) (Value.int _ _)) _ _ _); (k_here; dsimp only)) | ((with_reducible show wpAny _ _ (eval (Expr.Subscript _ _ _) _) _ _ _); (k_here; dsimp only)) | ((with_reducible show wpAny _ _ (storeName _ _ _) _ _ _); (k_here; dsimp only)) | ((with_reducible show wpAny _ _ (binaryOp Operator.FloorDiv (Value.int _ _) (Value.int _ _)) _ _ _); (k_here; first | rw [q80] | rw [q81] | rw [q82] | rw [q20] | rw [q21] | rw [q22])) | ((with_reducible show wpAny _ _ (exec (Stmt.For (Expr.Name _ _) (Expr.Call _ _ _ _) (_ :: _) [] _) _) _ _ _); (k_here; k_dflt (refine wpAny_For ?_))) | (k_here; (with_reducible show wpAny _ _ (call (Value.type "range") [Value.int 3 _]) _ _ _); k_dflt (refine' call_rangeL (n := 3) ?k1 ?k2 ?_; (case k1 => k_asm); (case k2 => k_asm); k_whole); intro r_m t_m u_m v_m h_m k_m F_m N_m l1_m; (try k_lt l1_m); (try k_sweep)) | (k_here; (with_reducible show wpAny _ _ (subscriptTail _ _ (Value.str (Str.ofString _) _) (Value.int _ _)) _ _ _); (with_unfolding_all refine' item_chr ?k1 ?k2 ?_ ?k3; (case k1 => (refine And.intro ?_ ?_ <;> (first | rw [show Str.length (Str.ofString "-r") = 2 by rfl] | rw [show Str.length (Str.ofString "-w") = 2 by rfl] | rw [show Str.length (Str.ofString "-xSs") = 4 by rfl] | rw [show Str.length (Str.ofString "-xTt") = 4 by rfl] | skip) <;> (simp only [Int.fdiv_eq_ediv_of_nonneg _ (show (0 : Int) ≤ 2 by decide), Int.fdiv_eq_ediv_of_nonneg _ (show (0 : Int) ≤ 4 by decide), Int.fdiv_eq_ediv_of_nonneg _ (show (0 : Int) ≤ 64 by decide), Int.fdiv_eq_ediv_of_nonneg _ (show (0 : Int) ≤ 8 by decide), Int.fdiv_eq_ediv_of_nonneg _ (show (0 : Int) ≤ 1 by decide), Int.fdiv_eq_ediv_of_nonneg _ (show (0 : Int) ≤ 512 by decide), Int.fmod_eq_emod_of_nonneg _ (show (0 : Int) ≤ 2 by decide), Int.fmod_eq_emod_of_nonneg _ (show (0 : Int) ≤ 8 by decide)]; omega))); (case k2 => decide); (case k3 => (intro _; with_unfolding_all rfl)); k_whole)) | ((with_reducible show wpAny _ _ (inplaceOp Operator.Add (Value.str _ _) (Value.str _ _)) _ _ _); (k_here; (refine SBL.iadd (hsz := ?hsz) ?_; (case hsz => (simp only [chr_len, Str.length_append, sizeLine_eq]; omega))); intro t_m k_m z_m; clear z_m; (try k_sweep))) | (k_here; (with_reducible show wpAny _ _ (binaryOp Operator.Add (Value.str (chr _ _) _) (Value.str _ _)) _ _ _); (refine SBL.add (hsz := ?hsz) ?_; (case hsz => (simp only [chr_len, Str.length_append, sizeLine_eq]; omega))); intro t_m k_m z_m; clear z_m; (try k_sweep)) | ((with_reducible show wpAny _ _ (eval (Expr.Constant _ _ _) _) _ _ _); with_reducible first | refine cint ?_ | refine cstr ?_) | ((with_reducible show wpAny _ _ (eval (Expr.Name _ _) _) _ _ _); k_here; k_dflt (refine' nameX_L (hd := ?d) ?F ?v ?_ ?a ?b; (case F => k_asm); (case a => rfl); (case b => rfl); (case v => rfl); (case d => rfl); k_whole)) | ((with_reducible show wpAny _ _ (storeName _ _ _) _ _ _); k_here; k_dflt (refine' storeX_M ?F ?N ?_ ?a ?b; (case F => k_asm); (case N => k_asm); (case a => rfl); (case b => rfl); k_whole; intro h_m m_m F_m N_m; (try k_sweep))) | ((with_reducible show wpAny _ _ (exec _ _) _ _ _); k_fold) | (k_unfold; (try dsimp only)) | (k_end; kc_close) | walk1 | (dsimp only; walk1) | (leave1; (try dsimp only)) | fail "no step"))
        refine t0_next (by assumption) (by assumption) (fun p hp => .tail _ hp) ?_ ?_
        · intro z hz; (repeat refine out_st (contains_ne hz (by rfl)) ?_); simp only [mid, hz]; rw [if_neg Bool.false_ne_true, if_neg (contains_ne hz (by rfl))]
        · exact ⟨_, rfl⟩
      · rw [show ((0 + 1 + 1 : Nat) : Int) = 2 from rfl] at kF
        (repeat' (first | ((with_reducible show wpAny _ _ _ _ _ (Shared.mk _ (Shared.gens _) _ _ _)); (with_reducible first | refine fl_c ?_ rfl | refine fl_a (by assumption) ?_ rfl | refine fl_b (by assumption) ?_ rfl); (fail_if_success (with_reducible show wpAny _ _ _ _ _ (Shared.mk _ (Shared.gens _) _ _ _)))) | ((with_reducible show wpAny _ _ _ _ _ (Shared.mk _ _ _ (_ + _ + _ + _) _)); (with_reducible refine tk_gen ?_); intro tk_m) | ((with_reducible show wpAny _ _ (binaryOp Operator.Mod (Value.int _ _) (Value.int _ _)) _ _ _); (k_here; dsimp only)) | ((with_reducible show wpAny _ _ (eval (Expr.Subscript _ _ _) _) _ _ _); (k_here; dsimp only)) | ((with_reducible show wpAny _ _ (storeName _ _ _) _ _ _); (k_here; dsimp only)) | ((with_reducible show wpAny _ _ (binaryOp Operator.FloorDiv (Value.int _ _) (Value.int _ _)) _ _ _); (k_here; first | rw [q80] | rw [q81] | rw [q82] | rw [q20] | rw [q21] | rw [q22])) | ((with_reducible show wpAny _ _ (exec (Stmt.For (Expr.Name _ _) (Expr.Call _ _ _ _) (_ :: _) [] _) _) _ _ _); (k_here; k_dflt (refine wpAny_For ?_))) | (k_here; (with_reducible show wpAny _ _ (call (Value.type "range") [Value.int 3 _]) _ _ _); k_dflt (refine' call_rangeL (n := 3) ?k1 ?k2 ?_; (case k1 => k_asm); (case k2 => k_asm); k_whole); intro r_m t_m u_m v_m h_m k_m F_m N_m l1_m; (try k_lt l1_m); (try k_sweep)) | (k_here; (with_reducible show wpAny _ _ (subscriptTail _ _ (Value.str (Str.ofString _) _) (Value.int _ _)) _ _ _); (with_unfolding_all refine' item_chr ?k1 ?k2 ?_ ?k3; (case k1 => (refine And.intro ?_ ?_ <;> (first | rw [show Str.length (Str.ofString "-r") = 2 by rfl] | rw [show Str.length (Str.ofString "-w") = 2 by rfl] | rw [show Str.length (Str.ofString "-xSs") = 4 by rfl] | rw [show Str.length (Str.ofString "-xTt") = 4 by rfl] | skip) <;> (simp only [Int.fdiv_eq_ediv_of_nonneg _ (show (0 : Int) ≤ 2 by decide), Int.fdiv_eq_ediv_of_nonneg _ (show (0 : Int) ≤ 4 by decide), Int.fdiv_eq_ediv_of_nonneg _ (show (0 : Int) ≤ 64 by decide), Int.fdiv_eq_ediv_of_nonneg _ (show (0 : Int) ≤ 8 by decide), Int.fdiv_eq_ediv_of_nonneg _ (show (0 : Int) ≤ 1 by decide), Int.fdiv_eq_ediv_of_nonneg _ (show (0 : Int) ≤ 512 by decide), Int.fmod_eq_emod_of_nonneg _ (show (0 : Int) ≤ 2 by decide), Int.fmod_eq_emod_of_nonneg _ (show (0 : Int) ≤ 8 by decide)]; omega))); (case k2 => decide); (case k3 => (intro _; with_unfolding_all rfl)); k_whole)) | ((with_reducible show wpAny _ _ (inplaceOp Operator.Add (Value.str _ _) (Value.str _ _)) _ _ _); (k_here; (refine SBL.iadd (hsz := ?hsz) ?_; (case hsz => (simp only [chr_len, Str.length_append, sizeLine_eq]; omega))); intro t_m k_m z_m; clear z_m; (try k_sweep))) | (k_here; (with_reducible show wpAny _ _ (binaryOp Operator.Add (Value.str (chr _ _) _) (Value.str _ _)) _ _ _); (refine SBL.add (hsz := ?hsz) ?_; (case hsz => (simp only [chr_len, Str.length_append, sizeLine_eq]; omega))); intro t_m k_m z_m; clear z_m; (try k_sweep)) | ((with_reducible show wpAny _ _ (eval (Expr.Constant _ _ _) _) _ _ _); with_reducible first | refine cint ?_ | refine cstr ?_) | ((with_reducible show wpAny _ _ (eval (Expr.Name _ _) _) _ _ _); k_here; k_dflt (refine' nameX_L (hd := ?d) ?F ?v ?_ ?a ?b; (case F => k_asm); (case a => rfl); (case b => rfl); (case v => rfl); (case d => rfl); k_whole)) | ((with_reducible show wpAny _ _ (storeName _ _ _) _ _ _); k_here; k_dflt (refine' storeX_M ?F ?N ?_ ?a ?b; (case F => k_asm); (case N => k_asm); (case a => rfl); (case b => rfl); k_whole; intro h_m m_m F_m N_m; (try k_sweep))) | ((with_reducible show wpAny _ _ (exec _ _) _ _ _); k_fold) | (k_unfold; (try dsimp only)) | (k_end; kc_close) | walk1 | (dsimp only; walk1) | (leave1; (try dsimp only)) | fail "no step"))
        refine t0_next (by assumption) (by assumption) (fun p hp => .tail _ hp) ?_ ?_
        · intro z hz; (repeat refine out_st (contains_ne hz (by rfl)) ?_); simp only [mid, hz]; rw [if_neg Bool.false_ne_true, if_neg (contains_ne hz (by rfl))]
        · exact ⟨_, rfl⟩
      · omega
    case done =>
      intro m₁ h' tk hJ kF kN
      obtain ⟨t1, e1⟩ := hJ
      replace kF := frx (x := Str.ofString "row") kF (show _ = some (Value.str _ t1) from e1)
      (repeat' (first | ((with_reducible show wpAny _ _ _ _ _ (Shared.mk _ (Shared.gens _) _ _ _)); (with_reducible first | refine fl_c ?_ rfl | refine fl_a (by assumption) ?_ rfl | refine fl_b (by assumption) ?_ rfl); (fail_if_success (with_reducible show wpAny _ _ _ _ _ (Shared.mk _ (Shared.gens _) _ _ _)))) | ((with_reducible show wpAny _ _ _ _ _ (Shared.mk _ _ _ (_ + _ + _ + _) _)); (with_reducible refine tk_gen ?_); intro tk_m) | ((with_reducible show wpAny _ _ (binaryOp Operator.Mod (Value.int _ _) (Value.int _ _)) _ _ _); (k_here; dsimp only)) | ((with_reducible show wpAny _ _ (eval (Expr.Subscript _ _ _) _) _ _ _); (k_here; dsimp only)) | ((with_reducible show wpAny _ _ (storeName _ _ _) _ _ _); (k_here; dsimp only)) | ((with_reducible show wpAny _ _ (binaryOp Operator.FloorDiv (Value.int _ _) (Value.int _ _)) _ _ _); (k_here; first | rw [q80] | rw [q81] | rw [q82] | rw [q20] | rw [q21] | rw [q22])) | ((with_reducible show wpAny _ _ (exec (Stmt.For (Expr.Name _ _) (Expr.Call _ _ _ _) (_ :: _) [] _) _) _ _ _); (k_here; k_dflt (refine wpAny_For ?_))) | (k_here; (with_reducible show wpAny _ _ (call (Value.type "range") [Value.int 3 _]) _ _ _); k_dflt (refine' call_rangeL (n := 3) ?k1 ?k2 ?_; (case k1 => k_asm); (case k2 => k_asm); k_whole); intro r_m t_m u_m v_m h_m k_m F_m N_m l1_m; (try k_lt l1_m); (try k_sweep)) | (k_here; (with_reducible show wpAny _ _ (subscriptTail _ _ (Value.str (Str.ofString _) _) (Value.int _ _)) _ _ _); (with_unfolding_all refine' item_chr ?k1 ?k2 ?_ ?k3; (case k1 => (refine And.intro ?_ ?_ <;> (first | rw [show Str.length (Str.ofString "-r") = 2 by rfl] | rw [show Str.length (Str.ofString "-w") = 2 by rfl] | rw [show Str.length (Str.ofString "-xSs") = 4 by rfl] | rw [show Str.length (Str.ofString "-xTt") = 4 by rfl] | skip) <;> (simp only [Int.fdiv_eq_ediv_of_nonneg _ (show (0 : Int) ≤ 2 by decide), Int.fdiv_eq_ediv_of_nonneg _ (show (0 : Int) ≤ 4 by decide), Int.fdiv_eq_ediv_of_nonneg _ (show (0 : Int) ≤ 64 by decide), Int.fdiv_eq_ediv_of_nonneg _ (show (0 : Int) ≤ 8 by decide), Int.fdiv_eq_ediv_of_nonneg _ (show (0 : Int) ≤ 1 by decide), Int.fdiv_eq_ediv_of_nonneg _ (show (0 : Int) ≤ 512 by decide), Int.fmod_eq_emod_of_nonneg _ (show (0 : Int) ≤ 2 by decide), Int.fmod_eq_emod_of_nonneg _ (show (0 : Int) ≤ 8 by decide)]; omega))); (case k2 => decide); (case k3 => (intro _; with_unfolding_all rfl)); k_whole)) | ((with_reducible show wpAny _ _ (inplaceOp Operator.Add (Value.str _ _) (Value.str _ _)) _ _ _); (k_here; (refine SBL.iadd (hsz := ?hsz) ?_; (case hsz => (simp only [chr_len, Str.length_append, sizeLine_eq]; omega))); intro t_m k_m z_m; clear z_m; (try k_sweep))) | (k_here; (with_reducible show wpAny _ _ (binaryOp Operator.Add (Value.str (chr _ _) _) (Value.str _ _)) _ _ _); (refine SBL.add (hsz := ?hsz) ?_; (case hsz => (simp only [chr_len, Str.length_append, sizeLine_eq]; omega))); intro t_m k_m z_m; clear z_m; (try k_sweep)) | ((with_reducible show wpAny _ _ (eval (Expr.Constant _ _ _) _) _ _ _); with_reducible first | refine cint ?_ | refine cstr ?_) | ((with_reducible show wpAny _ _ (eval (Expr.Name _ _) _) _ _ _); k_here; k_dflt (refine' nameX_L (hd := ?d) ?F ?v ?_ ?a ?b; (case F => k_asm); (case a => rfl); (case b => rfl); (case v => rfl); (case d => rfl); k_whole)) | ((with_reducible show wpAny _ _ (storeName _ _ _) _ _ _); k_here; k_dflt (refine' storeX_M ?F ?N ?_ ?a ?b; (case F => k_asm); (case N => k_asm); (case a => rfl); (case b => rfl); k_whole; intro h_m m_m F_m N_m; (try k_sweep))) | ((with_reducible show wpAny _ _ (exec _ _) _ _ _); k_fold) | (k_unfold; (try dsimp only)) | (k_end; kc_close) | walk1 | (dsimp only; walk1) | (leave1; (try dsimp only)) | fail "no step"))
      exact ret _ _ _ [] (Fr.keep (by assumption)) noled ⟨_, rfl⟩

theorem and_bit (m k : Nat) : (m &&& 2 ^ k = 2 ^ k) ↔ m / 2 ^ k % 2 = 1 := by
  constructor
  · intro h
    have h1 := congrArg (fun n => Nat.testBit n k) h
    simp only [Nat.testBit_and, Nat.testBit_two_pow_self, Bool.and_true] at h1
    rw [Nat.testBit_eq_decide_div_mod_eq] at h1
    exact of_decide_eq_true h1
  · intro h
    refine Nat.eq_of_testBit_eq fun j => ?_
    rw [Nat.testBit_and, Nat.testBit_two_pow]
    by_cases e : k = j
    · subst e
      rw [Nat.testBit_eq_decide_div_mod_eq, decide_eq_true h]
      rfl
    · rw [decide_eq_false e, Bool.and_false]
theorem and_bits (m k l : Nat) : (m &&& (2 ^ k ||| 2 ^ l) = 2 ^ k ||| 2 ^ l) ↔ (m / 2 ^ k % 2 = 1 ∧ m / 2 ^ l % 2 = 1) := by
  rw [← and_bit, ← and_bit]
  constructor
  · intro h
    refine ⟨?_, ?_⟩ <;> refine Nat.eq_of_testBit_eq fun j => ?_
    all_goals
      have h1 := congrArg (fun n => Nat.testBit n j) h
      simp only [Nat.testBit_and, Nat.testBit_or, Nat.testBit_two_pow] at h1 ⊢
      revert h1
      cases m.testBit j <;> cases decide (k = j) <;> cases decide (l = j) <;> simp
  · rintro ⟨h1, h2⟩
    refine Nat.eq_of_testBit_eq fun j => ?_
    have h1 := congrArg (fun n => Nat.testBit n j) h1
    have h2 := congrArg (fun n => Nat.testBit n j) h2
    simp only [Nat.testBit_and, Nat.testBit_or, Nat.testBit_two_pow] at h1 h2 ⊢
    revert h1 h2
    cases m.testBit j <;> cases decide (k = j) <;> cases decide (l = j) <;> simp
theorem ba_nat (m b : Nat) : bitAnd (m : Int) (b : Int) = ((m &&& b : Nat) : Int) := by
  unfold bitAnd
  simp
theorem t_bit (m k b : Nat) (hb : b = 2 ^ k) : (bitAnd (m : Int) (b : Int) == (b : Int)) = decide (m / 2 ^ k % 2 = 1) := by
  rw [ba_nat, hb]
  by_cases h : m / 2 ^ k % 2 = 1
  · rw [decide_eq_true h, (and_bit m k).mpr h]; exact beq_self_eq_true _
  · rw [decide_eq_false h]
    exact beq_eq_false_iff_ne.mpr fun e => h ((and_bit m k).mp (by exact_mod_cast e))
theorem t_bits (m k l b : Nat) (hb : b = 2 ^ k ||| 2 ^ l) : (bitAnd (m : Int) (b : Int) == (b : Int)) = decide (m / 2 ^ k % 2 = 1 ∧ m / 2 ^ l % 2 = 1) := by
  rw [ba_nat, hb]
  by_cases h : m / 2 ^ k % 2 = 1 ∧ m / 2 ^ l % 2 = 1
  · rw [decide_eq_true h, (and_bits m k l).mpr h]; exact beq_self_eq_true _
  · rw [decide_eq_false h]
    exact beq_eq_false_iff_ne.mpr fun e => h ((and_bits m k l).mp (by exact_mod_cast e))
theorem fd (a : Int) {b : Int} (h : 0 ≤ b) : a.fdiv b = a / b := Int.fdiv_eq_ediv_of_nonneg a h
theorem fm (a : Int) {b : Int} (h : 0 ≤ b) : a.fmod b = a % b := Int.fmod_eq_emod_of_nonneg a h
theorem dR (m a : Nat) : (((m : Int).fdiv (a : Int)).fmod 8).fdiv 4 = ((m / (a * 4) % 2 : Nat) : Int) := by
  rw [fd _ (Int.natCast_nonneg a), fm _ (by decide), fd _ (by decide)]
  show ((m / a % 8 / 4 : Nat) : Int) = _
  rw [show (8 : Nat) = 4 * 2 from rfl, Nat.mod_mul_right_div_self, Nat.div_div_eq_div_mul]
theorem dW (m a : Nat) : ((((m : Int).fdiv (a : Int)).fmod 8).fdiv 2).fmod 2 = ((m / (a * 2) % 2 : Nat) : Int) := by
  rw [fd _ (Int.natCast_nonneg a), fm _ (by decide), fd _ (by decide), fm _ (by decide)]
  show ((m / a % 8 / 2 % 2 : Nat) : Int) = _
  rw [show (8 : Nat) = 2 * 4 from rfl, Nat.mod_mul_right_div_self, Nat.mod_mod_of_dvd _ (by decide), Nat.div_div_eq_div_mul]
theorem dX (m a b : Nat) : (((m : Int).fdiv (a : Int)).fmod 8).fmod 2 + 2 * (((m : Int).fdiv 512).fdiv (b : Int)).fmod 2 = ((m / a % 2 + 2 * (m / (512 * b) % 2) : Nat) : Int) := by
  rw [fd _ (Int.natCast_nonneg a), fm _ (by decide), fm _ (by decide), fd _ (b := 512) (by decide), fd _ (Int.natCast_nonneg b), fm _ (by decide)]
  show ((m / a % 8 % 2 + 2 * (m / 512 / b % 2) : Nat) : Int) = _
  rw [Nat.mod_mod_of_dvd _ (by decide), Nat.div_div_eq_div_mul]
theorem sgA {m i k b : Nat} {S c : Str} {d : Int} (ht : tab i = [((b : Int), c)]) (hi : i ≠ 0) (hb : b = 2 ^ k) (hd : d = ((m / b % 2 : Nat) : Int)) (h1 : chr S 1 = c) (h0 : chr S 0 = Str.ofString "-") : sgn (m : Int) i = chr S d := by
  have h := t_bit m k b hb
  rw [← hb] at h
  unfold sgn
  rw [ht, hd]
  simp only [List.find?, tst, if_neg hi, h]
  rcases Nat.mod_two_eq_zero_or_one (m / b) with e | e <;> rw [e]
  · rw [decide_eq_false (by decide)]; exact h0.symm
  · rw [decide_eq_true rfl]; exact h1.symm
theorem sgB {m i k l a b : Nat} {S c1 c2 c3 : Str} {d : Int} (ht : tab i = [(((a ||| b : Nat) : Int), c1), ((b : Int), c2), ((a : Int), c3)]) (hi : i ≠ 0) (ha : a = 2 ^ k) (hb : b = 2 ^ l) (hd : d = ((m / a % 2 + 2 * (m / b % 2) : Nat) : Int))
    (h3 : chr S 3 = c1) (h2 : chr S 2 = c2) (h1 : chr S 1 = c3) (h0 : chr S 0 = Str.ofString "-") : sgn (m : Int) i = chr S d := by
  have e1 := t_bits m k l (a ||| b) (by rw [ha, hb])
  have e2 := t_bit m l b hb
  have e3 := t_bit m k a ha
  rw [← ha, ← hb] at e1
  rw [← hb] at e2
  rw [← ha] at e3
  unfold sgn
  rw [ht, hd]
  simp only [List.find?, tst, if_neg hi, e1, e2, e3]
  rcases Nat.mod_two_eq_zero_or_one (m / a) with x | x <;> rcases Nat.mod_two_eq_zero_or_one (m / b) with y | y <;> rw [x, y]
  · exact h0.symm
  · exact h2.symm
  · exact h1.symm
  · exact h3.symm
theorem sg1 (m : Nat) : sgn (m : Int) 1 = chr (Str.ofString "-r") ((((m : Int).fdiv (8 ^ (2 - 0))).fmod 8).fdiv 4) := sgA (b := 256) (k := 8) rfl (by decide) rfl (dR m 64) rfl rfl
theorem sg2 (m : Nat) : sgn (m : Int) 2 = chr (Str.ofString "-w") (((((m : Int).fdiv (8 ^ (2 - 0))).fmod 8).fdiv 2).fmod 2) := sgA (b := 128) (k := 7) rfl (by decide) rfl (dW m 64) rfl rfl
theorem sg3 (m : Nat) : sgn (m : Int) 3 = chr (Str.ofString "-xSs") ((((m : Int).fdiv (8 ^ (2 - 0))).fmod 8).fmod 2 + 2 * (((m : Int).fdiv 512).fdiv (2 ^ (2 - 0))).fmod 2) := sgB (a := 64) (b := 2048) (k := 6) (l := 11) rfl (by decide) rfl rfl (dX m 64 4) rfl rfl rfl rfl
theorem sg4 (m : Nat) : sgn (m : Int) 4 = chr (Str.ofString "-r") ((((m : Int).fdiv (8 ^ (2 - 1))).fmod 8).fdiv 4) := sgA (b := 32) (k := 5) rfl (by decide) rfl (dR m 8) rfl rfl
theorem sg5 (m : Nat) : sgn (m : Int) 5 = chr (Str.ofString "-w") (((((m : Int).fdiv (8 ^ (2 - 1))).fmod 8).fdiv 2).fmod 2) := sgA (b := 16) (k := 4) rfl (by decide) rfl (dW m 8) rfl rfl
theorem sg6 (m : Nat) : sgn (m : Int) 6 = chr (Str.ofString "-xSs") ((((m : Int).fdiv (8 ^ (2 - 1))).fmod 8).fmod 2 + 2 * (((m : Int).fdiv 512).fdiv (2 ^ (2 - 1))).fmod 2) := sgB (a := 8) (b := 1024) (k := 3) (l := 10) rfl (by decide) rfl rfl (dX m 8 2) rfl rfl rfl rfl
theorem sg7 (m : Nat) : sgn (m : Int) 7 = chr (Str.ofString "-r") ((((m : Int).fdiv (8 ^ (2 - 2))).fmod 8).fdiv 4) := sgA (b := 4) (k := 2) rfl (by decide) rfl (dR m 1) rfl rfl
theorem sg8 (m : Nat) : sgn (m : Int) 8 = chr (Str.ofString "-w") (((((m : Int).fdiv (8 ^ (2 - 2))).fmod 8).fdiv 2).fmod 2) := sgA (b := 2) (k := 1) rfl (by decide) rfl (dW m 1) rfl rfl
theorem sg9 (m : Nat) : sgn (m : Int) 9 = chr (Str.ofString "-xTt") ((((m : Int).fdiv (8 ^ (2 - 2))).fmod 8).fmod 2 + 2 * (((m : Int).fdiv 512).fdiv (2 ^ (2 - 2))).fmod 2) := sgB (a := 1) (b := 512) (k := 0) (l := 9) rfl (by decide) rfl rfl (dX m 1 1) rfl rfl rfl rfl
theorem sg0 (m : Nat) (h : m / 4096 = 4 ∨ m / 4096 = 8) : sgn (m : Int) 0 = rowU (m : Int) 0 := by
  have hc : ∀ j, Nat.testBit 61440 j = decide (12 ≤ j ∧ j < 16) := by
    intro j
    by_cases hj : j < 16
    · have : ∀ j : Fin 16, Nat.testBit 61440 j.val = decide (12 ≤ j.val ∧ j.val < 16) := by decide
      exact this ⟨j, hj⟩
    · rw [Nat.testBit_lt_two_pow (Nat.lt_of_lt_of_le (show 61440 < 2 ^ 16 by decide) (Nat.pow_le_pow_right (by decide) (Nat.le_of_not_lt hj)))]
      rw [decide_eq_false (by omega)]
  have key : ∀ q k, m / 4096 = q → q = 2 ^ k → k < 4 → m &&& 61440 = 2 ^ (12 + k) := by
    intro q k hq hk hk4
    refine Nat.eq_of_testBit_eq fun j => ?_
    rw [Nat.testBit_and, hc, Nat.testBit_two_pow]
    by_cases hj : 12 ≤ j ∧ j < 16
    · rw [decide_eq_true hj, Bool.and_true]
      obtain ⟨i, rfl⟩ : ∃ i, j = 12 + i := ⟨j - 12, by omega⟩
      rw [Nat.testBit_eq_decide_div_mod_eq, Nat.pow_add, ← Nat.div_div_eq_div_mul, show (2 : Nat) ^ 12 = 4096 from rfl, hq, hk]
      have := Nat.testBit_eq_decide_div_mod_eq (x := 2 ^ k) (i := i)
      rw [← this, Nat.testBit_two_pow]
      exact decide_eq_decide.mpr (by omega)
    · rw [decide_eq_false hj, Bool.and_false, decide_eq_false (by omega)]
  unfold rowU
  rw [fd _ (by decide)]
  unfold sgn tab
  simp only [List.find?, tst, if_true]
  rw [show (61440 : Int) = ((61440 : Nat) : Int) from rfl, ba_nat]
  rcases h with h | h
  · rw [key 4 2 h rfl (by decide), if_pos (by omega)]; rfl
  · rw [key 8 3 h rfl (by decide), if_neg (by omega)]; rfl
theorem gl10 (a0 a1 a2 a3 a4 a5 a6 a7 a8 a9 : Str) : Txt.join (Str.ofString "") [a0, a1, a2, a3, a4, a5, a6, a7, a8, a9] = a0 ++ (a1 ++ a2) ++ a3 ++ (a4 ++ a5) ++ a6 ++ (a7 ++ a8) ++ a9 := by
  have e0 : (Str.ofString "").cps = #[] := by decide
  show PySem.Builtin.Str.glued _ _ = _
  unfold PySem.Builtin.Str.glued
  simp only [List.drop, List.foldl, List.headD, e0, Array.append_empty]
  show (⟨_⟩ : Str) = ⟨a0.cps ++ (a1.cps ++ a2.cps) ++ a3.cps ++ (a4.cps ++ a5.cps) ++ a6.cps ++ (a7.cps ++ a8.cps) ++ a9.cps⟩
  simp only [Array.append_assoc]
theorem file_row (m : Nat) (h : m / 4096 = 4 ∨ m / 4096 = 8) : fileF (m : Int) = rowU (m : Int) 3 := by
  have e : fileF (m : Int) = Txt.join (Str.ofString "") [sgn m 0, sgn m 1, sgn m 2, sgn m 3, sgn m 4, sgn m 5, sgn m 6, sgn m 7, sgn m 8, sgn m 9] := rfl
  rw [e, sg0 m h, sg1, sg2, sg3, sg4, sg5, sg6, sg7, sg8, sg9, gl10]
  rfl

example : True := by w_top off; trivial
noncomputable def Hold (P : Prop) : Prop := P
theorem hold {P : Prop} (h : Hold P) : P := h
theorem unhold {P : Prop} (h : P) : Hold P := h
noncomputable def aboveN (q : List Nat) : List (List Nat) := (List.range q.length).reverse.map (q.take ·)
theorem aboveN_snoc (q : List Nat) (c : Nat) : aboveN (q ++ [c]) = q :: aboveN q := by
  unfold aboveN
  rw [List.length_append, List.length_singleton, List.range_succ, List.reverse_append, List.reverse_singleton, List.singleton_append, List.map_cons, List.take_left]
  congr 1
  refine List.map_congr_left fun i hi => ?_
  rw [List.mem_reverse, List.mem_range] at hi
  exact List.take_append_of_le_length (Nat.le_of_lt hi)
theorem slice_last {p : List Nat} (hp : p ≠ []) (c : Nat) : Txt.slice (pathS (p ++ [c])) (some (((pathS p).length : Int) + 1)) none = mk [97 + c] := by
  refine str_ext ?_
  rw [show (((pathS p).length : Int) + 1) = (((pathL p).length + 1 : Nat) : Int) by rw [len_lst, lst_pathS]; rfl, slice_an, lst_pathS, pathL_app (by simp) hp, lst_mk, List.drop_append, List.drop_eq_nil_of_le (by omega)]
  rw [show (pathL p).length + 1 - (pathL p).length = 1 by omega]
  rfl
theorem above_spec {w : World} {q : List Nat} {t : Tok} : Pur w 331 [.str (pathS q) t] 4 (fun _ => q.length ≤ 12) (fun v led => ∃ a acc k, v = .ref a ∧ led = [(a, W.listOf (strValues acc).toArray k)] ∧ acc.map (·.1) = (aboveN q).map pathS) := by
  refine pur_of fun A Q E s0 gs dr tk0 ost G R hq ret => ?_
  obtain ⟨hd, dp, fr, gd, un⟩ := A; obtain rfl : hd = none := R.hh; obtain ⟨X, mean, mg, mb, T⟩ := id G
  have R' := fun env => R.deeper (env := env)
  refine enter G (R.le (by decide)) (by k_is) (by k_is) (BindsTo.of_eq (binds := [(Str.ofString "path", .str (pathS q) t)]) rfl) (locs rfl) rfl rfl rfl (by decide) ?_
  intro L h₁ F N hL A1
  clear G hL
  k_fold
  (repeat' (first | ((with_reducible show wpAny _ _ _ _ _ (Shared.mk _ (Shared.gens _) _ _ _)); (with_reducible first | refine fl_c ?_ rfl | refine fl_a (by assumption) ?_ rfl | refine fl_b (by assumption) ?_ rfl); (fail_if_success (with_reducible show wpAny _ _ _ _ _ (Shared.mk _ (Shared.gens _) _ _ _)))) | ((with_reducible show wpAny _ _ _ _ _ (Shared.mk _ _ _ (_ + _ + _ + _) _)); (with_reducible refine tk_gen ?_); intro tk_m) | ((with_reducible show wpAny _ _ (exec (Stmt.While (Expr.Compare _ _ _ _) _ _ _) _) _ _ _); (k_here; refine hold ?_)) | ((with_reducible show wpAny _ _ (eval (Expr.Constant _ _ _) _) _ _ _); with_reducible first | refine cint ?_ | refine cstr ?_) | ((with_reducible show wpAny _ _ (eval (Expr.Name _ _) _) _ _ _); k_here; k_dflt (refine' nameX_L (hd := ?d) ?F ?v ?_ ?a ?b; (case F => k_asm); (case a => rfl); (case b => rfl); (case v => rfl); (case d => rfl); k_whole)) | ((with_reducible show wpAny _ _ (storeName _ _ _) _ _ _); k_here; k_dflt (refine' storeX_M ?F ?N ?_ ?a ?b; (case F => k_asm); (case N => k_asm); (case a => rfl); (case b => rfl); k_whole; intro h_m m_m F_m N_m; (try k_sweep))) | ((with_reducible show wpAny _ _ (exec _ _) _ _ _); k_fold) | (k_unfold; (try dsimp only)) | (k_end; kc_close) | walk1 | (dsimp only; walk1) | (leave1; (try dsimp only)) | fail "no step"))
  (with_reducible rename Fr _ _ _ _ => kF); (with_reducible rename News _ _ _ _ => kN)
  refine cap1 kN ?_
  intro ab h1
  subst h1
  refine unhold ?_
  refine' while_inv (L := L) (fun n m nw => ∃ p acc k t, nw = [(ab, W.listOf (strValues acc).toArray k)] ∧ m (Str.ofString "path") = some (.str (pathS p) t) ∧ m (Str.ofString "above") = some (.ref ab) ∧ n = p.length ∧ p.length ≤ 12 ∧ acc.length + p.length = q.length ∧ acc.map (·.1) ++ (aboveN p).map pathS = (aboveN q).map pathS)
    q.length kF kN ?h0 ?turn
  case h0 => exact ⟨q, [], 0, _, rfl, rfl, rfl, rfl, hq, Nat.zero_add _, rfl⟩
  case turn =>
    intro n m₁ nw h tk hJ kF kN
    k_fold
    obtain ⟨p, acc, k, t1, rfl, e1, e2, rfl, hp, hal, hacc⟩ := hJ
    have hal2 : acc.length ≤ 12 := by omega
    have hpl : (pathS p).length ≤ 25 := by rw [len_lst, lst_pathS]; have := pathL_len_le p; omega
    replace kF := frx (x := Str.ofString "above") kF e2
    replace kF := frx (x := Str.ofString "path") kF (show _ = some (Value.str _ t1) by refine mskip (by decide) ?_; exact e1)
    rcases List.eq_nil_or_concat p with rfl | ⟨p, c, rfl⟩
    · have h0 : (pathS [] != Str.ofString "/") = false := by rw [root_is]; exact bne_self_eq_false _
      (repeat' (first | ((with_reducible show wpAny _ _ _ _ _ (Shared.mk _ (Shared.gens _) _ _ _)); (with_reducible first | refine fl_c ?_ rfl | refine fl_a (by assumption) ?_ rfl | refine fl_b (by assumption) ?_ rfl); (fail_if_success (with_reducible show wpAny _ _ _ _ _ (Shared.mk _ (Shared.gens _) _ _ _)))) | ((with_reducible show wpAny _ _ _ _ _ (Shared.mk _ _ _ (_ + _ + _ + _) _)); (with_reducible refine tk_gen ?_); intro tk_m) | ((with_reducible show wpAny _ _ (eval (Expr.Constant _ _ _) _) _ _ _); with_reducible first | refine cint ?_ | refine cstr ?_) | ((with_reducible show wpAny _ _ (eval (Expr.Name _ _) _) _ _ _); k_here; k_dflt (refine' nameX_L (hd := ?d) ?F ?v ?_ ?a ?b; (case F => k_asm); (case a => rfl); (case b => rfl); (case v => rfl); (case d => rfl); k_whole)) | ((with_reducible show wpAny _ _ (storeName _ _ _) _ _ _); k_here; k_dflt (refine' storeX_M ?F ?N ?_ ?a ?b; (case F => k_asm); (case N => k_asm); (case a => rfl); (case b => rfl); k_whole; intro h_m m_m F_m N_m; (try k_sweep))) | ((with_reducible show wpAny _ _ (exec _ _) _ _ _); k_fold) | (k_unfold; (try dsimp only)) | (k_end; kc_close) | walk1 | (dsimp only; walk1) | (leave1; (try dsimp only)) | fail "no step"))
      · exact ret _ _ _ _ (Fr.keep (by assumption)) (News.led (by assumption)) ⟨_, _, _, rfl, rfl, by rw [← hacc]; simp [aboveN]⟩
    · rw [List.concat_eq_append] at *
      have hpl2 : (pathS p).length ≤ 25 := by rw [len_lst, lst_pathS]; have := pathL_len_le p; rw [List.length_append] at hp; omega
      have hz : (pathS p ++ Str.ofString "//" ++ Txt.slice (pathS (p ++ [c])) (some (((pathS p).length : Int) + 1)) none).length ≤ 1000 := by
        rw [Str.length_append, Str.length_append, show (Str.ofString "//").length = 2 from rfl]
        have := Txt.slice_le (pathS (p ++ [c])) (some (((pathS p).length : Int) + 1)) none
        omega
      have h0 : (pathS (p ++ [c]) != Str.ofString "/") = true := by
        rw [← root_is]
        exact bne_iff_ne.mpr fun e => by have := pathS_inj e; simp at this
      rw [aboveN_snoc, List.map_cons] at hacc
      rw [List.length_append, List.length_singleton] at hal hp
      (repeat' (first | ((with_reducible show wpAny _ _ _ _ _ (Shared.mk _ (Shared.gens _) _ _ _)); (with_reducible first | refine fl_c ?_ rfl | refine fl_a (by assumption) ?_ rfl | refine fl_b (by assumption) ?_ rfl); (fail_if_success (with_reducible show wpAny _ _ _ _ _ (Shared.mk _ (Shared.gens _) _ _ _)))) | ((with_reducible show wpAny _ _ _ _ _ (Shared.mk _ _ _ (_ + _ + _ + _) _)); (with_reducible refine tk_gen ?_); intro tk_m) | (k_here; (with_reducible show wpAny _ _ (call (Value.ref 129) [Value.str (pathS _ ++ _ ++ _) _] _) _ _ _); refine use_pur0 dirname_spec (by k_asm) (by k_asm) (by k_asm) (by k_asm) (Rm.le (by first | assumption | (rename (∀ env, Rm _ _) => kR_m; exact kR_m _)) (by decide)) (by assumption) ?_; intro v_m h_m tk_m led_m F_m N_m hv_m; obtain ⟨t_m, hv_m⟩ := hv_m; subst hv_m; (try k_sweep)) | (k_here; (with_reducible show wpAny _ _ (call (Value.ref 129) [Value.str (pathS (_ ++ [_])) _] _) _ _ _); refine use_pur0 dirname_spec (by k_asm) (by k_asm) (by k_asm) (by k_asm) (Rm.le (by first | assumption | (rename (∀ env, Rm _ _) => kR_m; exact kR_m _)) (by decide)) (by omega) ?_; intro v_m h_m tk_m led_m F_m N_m hv_m; obtain ⟨t_m, hv_m⟩ := hv_m; subst hv_m; rw [dirname_path]; (try k_sweep)) | (k_here; (with_reducible show wpAny _ _ (call (Value.builtin "list.append") [Value.ref _, Value.str _ _]) _ _ _); k_dflt (refine' append_strs ?k1 ?k2 ?k3 ?z ?_; (case k1 => k_asm); (case k2 => k_asm); (case k3 => k_upd); (case z => first | assumption | omega | (simp only [List.length_append, List.length_singleton, List.length_nil, List.length_cons]; omega)); k_whole); intro h_m F_m N_m; (try k_sweep)) | ((with_reducible show wpAny _ _ (eval (Expr.Constant _ _ _) _) _ _ _); with_reducible first | refine cint ?_ | refine cstr ?_) | ((with_reducible show wpAny _ _ (eval (Expr.Name _ _) _) _ _ _); k_here; k_dflt (refine' nameX_L (hd := ?d) ?F ?v ?_ ?a ?b; (case F => k_asm); (case a => rfl); (case b => rfl); (case v => rfl); (case d => rfl); k_whole)) | ((with_reducible show wpAny _ _ (storeName _ _ _) _ _ _); k_here; k_dflt (refine' storeX_M ?F ?N ?_ ?a ?b; (case F => k_asm); (case N => k_asm); (case a => rfl); (case b => rfl); k_whole; intro h_m m_m F_m N_m; (try k_sweep))) | ((with_reducible show wpAny _ _ (exec _ _) _ _ _); k_fold) | (k_unfold; (try dsimp only)) | (k_end; kc_close) | walk1 | (dsimp only; walk1) | (leave1; (try dsimp only)) | fail "no step"))
      · refine tw_next (n' := p.length) (nw' := [(ab, W.listOf (strValues (acc ++ [(pathS p, _)])).toArray (k + 1))]) (by assumption) (by assumption) (fun p hp => hp) ?_ ⟨p, _, _, _, rfl, rfl, rfl, rfl, by omega, ?_, ?_⟩
        · simp
        · rw [List.length_append, List.length_singleton]; omega
        · rw [List.map_append, List.append_assoc]; exact hacc
      · have hpne : p ≠ [] := by
          rintro rfl
          rename (pathS [] == Str.ofString "/") = false => hb
          rw [root_is] at hb
          simp at hb
        rename News _ _ _ _ => kN3
        rw [slice_last hpne, dirname_dbl hpne] at kN3
        refine tw_next (n' := p.length) (nw' := [(ab, W.listOf (strValues (acc ++ [(pathS p, _)])).toArray (k + 1))]) (by assumption) kN3 (fun p hp => hp) ?_ ⟨p, _, _, _, rfl, rfl, rfl, rfl, by omega, ?_, ?_⟩
        · simp
        · rw [List.length_append, List.length_singleton]; omega
        · rw [List.map_append, List.append_assoc]; exact hacc

example : True := by w_top off; trivial
structure Sk where
  k1 : Tok
  k2 : Tok
  k3 : Tok
  k4 : Tok
  t3 : Tok
  t4 : Tok
abbrev srtEs (w : World) (K : Sk) (d : Addr) (r : Value) (p f : Int) : List DictEntry :=
  [{ hash := PyData.keyHash w.params (Str.ofString "_node2info"), key := .str (Str.ofString "_node2info") K.k1, val := .ref d },
   { hash := PyData.keyHash w.params (Str.ofString "_ready_nodes"), key := .str (Str.ofString "_ready_nodes") K.k2, val := r },
   { hash := PyData.keyHash w.params (Str.ofString "_npassedout"), key := .str (Str.ofString "_npassedout") K.k3, val := .int p K.t3 },
   { hash := PyData.keyHash w.params (Str.ofString "_nfinished"), key := .str (Str.ofString "_nfinished") K.k4, val := .int f K.t4 }]
abbrev srtD (w : World) (K : Sk) (d : Addr) (r : Value) (p f : Int) (n : Nat) : Obj := dictOf (srtEs w K d r p f) n
abbrev infO (dx l : Addr) (q : Str) (t : Tok) (n : Int) (t' : Tok) : Obj := { cls := .ref 155, dict := some dx, data := .plain, slots := #[some (.str q t), some (.int n t'), some (.ref l)] }
theorem sinit_spec {w : World} {x dx : Nat} : Mut w 188 [.ref x] 1 [(x, instObj 252 dx), (dx, dictOf [] 0)] (dx < x)
    (fun v led => v = .none ∧ ∃ (d : Nat) (K : Sk) (od : Obj), led = [(x, instObj 252 dx), (dx, srtD w K d .none 0 0 4), (d, od)] ∧ Obj.IsDictOf (PySem.strKind prg w) od [] ∧ (d == sysModules) = false ∧ x < d) := by
  refine mut_of fun A Q s0 gs dr tk0 ost g G hg hsz hled R hp ret => ?_
  obtain ⟨hd, dp, fr, gd, un⟩ := A; obtain rfl : hd = none := R.hh
  have G' := G; obtain ⟨X, mean, mg, mb, T⟩ := G
  refine enterM G' hg hsz hled (R.le (by decide)) (by k_is) (by k_is) (binds_K (binds := [(Str.ofString "self", .ref x), (Str.ofString "graph", .none)]) (Gd.X (Gd.keeps G' hg)) rfl (by k_is) rfl rfl rfl) (locs rfl) rfl rfl rfl (by decide) ?_
  intro L h₁ F N hL _ _ A1
  clear G' hg hled
  k_fold
  (repeat' (first | ((with_reducible show wpAny _ _ _ _ _ (Shared.mk _ (Shared.gens _) _ _ _)); (with_reducible first | refine fl_c ?_ rfl | refine fl_a (by assumption) ?_ rfl | refine fl_b (by assumption) ?_ rfl); (fail_if_success (with_reducible show wpAny _ _ _ _ _ (Shared.mk _ (Shared.gens _) _ _ _)))) | ((with_reducible show wpAny _ _ _ _ _ (Shared.mk _ _ _ (_ + _ + _ + _) _)); (with_reducible refine tk_gen ?_); intro tk_m) | ((with_reducible show wpAny _ _ (eval (Expr.Constant _ _ _) _) _ _ _); with_reducible first | refine cint ?_ | refine cstr ?_) | ((with_reducible show wpAny _ _ (eval (Expr.Name _ _) _) _ _ _); k_here; k_dflt (refine' nameX_L (hd := ?d) ?F ?v ?_ ?a ?b; (case F => k_asm); (case a => rfl); (case b => rfl); (case v => rfl); (case d => rfl); k_whole)) | ((with_reducible show wpAny _ _ (storeName _ _ _) _ _ _); k_here; k_dflt (refine' storeX_M ?F ?N ?_ ?a ?b; (case F => k_asm); (case N => k_asm); (case a => rfl); (case b => rfl); k_whole; intro h_m m_m F_m N_m; (try k_sweep))) | ((with_reducible show wpAny _ _ (exec _ _) _ _ _); k_fold) | (k_unfold; (try dsimp only)) | (k_end; kc_close) | walk1 | (dsimp only; walk1) | (leave1; (try dsimp only)) | fail "no step"))
  with_reducible rename (_ ∧ _) => l1
  exact ret _ _ _ [_, _, _] (Fr.keep (by assumption)) (News.led (News.sub (by assumption) (by k_allIn))) ⟨rfl, _, ⟨_, _, _, _, _, _⟩, _, rfl, by assumption, by assumption, l1.1⟩
theorem ninit_spec {w : World} {x dx : Nat} {q : Str} {t : Tok} : Mut w 151 [.ref x, .str q t] 1 [(x, instObj 155 dx), (dx, dictOf [] 0)] (dx < x)
    (fun v led => v = .none ∧ ∃ (l : Nat) (t' : Tok), led = [(x, infO dx l q t 0 t'), (dx, dictOf [] 0), (l, W.listOf #[] 0)] ∧ x < l) := by
  refine mut_of fun A Q s0 gs dr tk0 ost g G hg hsz hled R hp ret => ?_
  obtain ⟨hd, dp, fr, gd, un⟩ := A; obtain rfl : hd = none := R.hh
  have G' := G; obtain ⟨X, mean, mg, mb, T⟩ := G
  refine enterM G' hg hsz hled (R.le (by decide)) (by k_is) (by k_is) (BindsTo.of_eq (binds := [(Str.ofString "self", .ref x), (Str.ofString "node", .str q t)]) rfl) (locs rfl) rfl rfl rfl (by decide) ?_
  intro L h₁ F N hL _ _ A1
  clear G' hg hled
  k_fold
  (repeat' (first | ((with_reducible show wpAny _ _ _ _ _ (Shared.mk _ (Shared.gens _) _ _ _)); (with_reducible first | refine fl_c ?_ rfl | refine fl_a (by assumption) ?_ rfl | refine fl_b (by assumption) ?_ rfl); (fail_if_success (with_reducible show wpAny _ _ _ _ _ (Shared.mk _ (Shared.gens _) _ _ _)))) | ((with_reducible show wpAny _ _ _ _ _ (Shared.mk _ _ _ (_ + _ + _ + _) _)); (with_reducible refine tk_gen ?_); intro tk_m) | ((with_reducible show wpAny _ _ (eval (Expr.Constant _ _ _) _) _ _ _); with_reducible first | refine cint ?_ | refine cstr ?_) | ((with_reducible show wpAny _ _ (eval (Expr.Name _ _) _) _ _ _); k_here; k_dflt (refine' nameX_L (hd := ?d) ?F ?v ?_ ?a ?b; (case F => k_asm); (case a => rfl); (case b => rfl); (case v => rfl); (case d => rfl); k_whole)) | ((with_reducible show wpAny _ _ (storeName _ _ _) _ _ _); k_here; k_dflt (refine' storeX_M ?F ?N ?_ ?a ?b; (case F => k_asm); (case N => k_asm); (case a => rfl); (case b => rfl); k_whole; intro h_m m_m F_m N_m; (try k_sweep))) | ((with_reducible show wpAny _ _ (exec _ _) _ _ _); k_fold) | (k_unfold; (try dsimp only)) | (k_end; kc_close) | walk1 | (dsimp only; walk1) | (leave1; (try dsimp only)) | fail "no step"))
  with_reducible rename (_ ∧ _) => l1
  exact ret _ _ _ [_, _, _] (Fr.keep (by assumption)) (News.led (News.sub (by assumption) (by k_allIn))) ⟨rfl, _, _, rfl, l1.1⟩

example : True := by w_top off; trivial
theorem off2 {rest : List (Addr × Obj)} {x dx : Addr} {o o' : Obj} (h1 : ∀ p ∈ rest, p.1 < dx) (h2 : dx < x) : ∀ p ∈ rest, ∀ q ∈ [(x, o), (dx, o')], q.1 ≠ p.1 := by
  intro p hp q hq
  have h1 : @LT.lt Nat _ p.1 dx := h1 p hp
  have h2 : @LT.lt Nat _ dx x := h2
  rcases List.mem_cons.mp hq with rfl | hq
  · k_ne
  · rw [List.mem_singleton.mp hq]; k_ne
theorem lt_of_all {d : Addr} {l : List (Addr × Obj)} (h : AllLt d l) : ∀ p ∈ l, p.1 < d := by
  induction l with
  | nil => exact fun _ h => nomatch h
  | cons p r ih =>
    intro q hq
    rcases List.mem_cons.mp hq with e | hq
    · rw [e]; exact h.1
    · exact ih h.2 q hq
theorem below_off {own : List (Addr × Obj)} {x : Addr} (h : ∀ p ∈ own, p.1 < x) : ∀ p ∈ own, p.1 ≠ x := fun p hp => Nat.ne_of_lt (h p hp)
local macro_rules | `(tactic| k_all) => `(tactic| assumption)
theorem getinfo0 {w : World} {x dx d n : Nat} {K : Sk} {r : Value} {p f : Int} {od : Obj} {own : List (Addr × Obj)} {kvs : List (Str × Value)} {q : Str} {t : Tok} (off : OwnOff own [x, dx, d]) (hD : Obj.IsDictOf (PySem.strKind prg w) od kvs) (lo' : (d == sysModules) = false) (hkl : kvs.length ≤ 100000) :
    Mut w 195 [.ref x, .str q t] 3 ((x, instObj 252 dx) :: (dx, srtD w K d r p f n) :: (d, od) :: own) (dx < x ∧ x < d ∧ valueAt kvs q = none)
    (fun v led => ∃ (a da l : Nat) (t' : Tok) (od' : Obj), v = .ref a ∧ led = (a, infO da l q t 0 t') :: (da, dictOf [] 0) :: (l, W.listOf #[] 0) :: (x, instObj 252 dx) :: (dx, srtD w K d r p f n) :: (d, od') :: own ∧
      Obj.IsDictOf (PySem.strKind prg w) od' (stored kvs q (.ref a)) ∧ d < da ∧ (∀ p ∈ own, p.1 < da) ∧ da < a ∧ a < l) := by
  refine mut_of fun A Q s0 gs dr tk0 ost g G hg hsz hled R hp ret => ?_
  obtain ⟨hd, dp, fr, gd, un⟩ := A; obtain rfl : hd = none := R.hh
  have G' := G; obtain ⟨X, mean, mg, mb, T⟩ := G
  have R' := fun env => R.deeper (env := env)
  obtain ⟨h1, h2, h3⟩ := hp
  refine enterM G' hg hsz hled (R.le (by decide)) (by k_is) (by k_is) (BindsTo.of_eq (binds := [(Str.ofString "self", .ref x), (Str.ofString "node", .str q t)]) rfl) (locs rfl) rfl rfl rfl (by decide) ?_
  intro L h₁ F N hL _ _ A1
  clear G' hg hled
  k_fold
  (repeat' (first | ((with_reducible show wpAny _ _ _ _ _ (Shared.mk _ (Shared.gens _) _ _ _)); (with_reducible first | refine fl_c ?_ rfl | refine fl_a (by assumption) ?_ rfl | refine fl_b (by assumption) ?_ rfl); (fail_if_success (with_reducible show wpAny _ _ _ _ _ (Shared.mk _ (Shared.gens _) _ _ _)))) | ((with_reducible show wpAny _ _ _ _ _ (Shared.mk _ _ _ (_ + _ + _ + _) _)); (with_reducible refine tk_gen ?_); intro tk_m) | (k_here; (with_reducible show wpAny _ _ (call (Value.ref 155) [Value.str _ _] _) _ _ _); k_dflt (refine' call_cls ?k1 ?k2 ?k3 ?k4 ?k5 ?k6 ?_; (case k1 => k_asm); (case k2 => k_asm); (case k3 => k_asm); (case k4 => k_is); (case k5 => k_is); (case k6 => k_is)); intro x_m d_m h_m F_m N_m l1_m l2_m; (refine use_mutC ninit_spec F_m N_m (off2 l1_m l2_m) (by k_asm) (by k_asm) (Rm.le (Rm.under (by first | assumption | (rename (∀ env, Rm _ _) => kR_m; exact kR_m _))) (by decide)) l2_m ?_); clear F_m N_m; intro v_m h_m tk_m led_m F_m N_m off_m hv_m; obtain ⟨hv_m, hl_m, t_m, hled_m, l3_m⟩ := hv_m; subst hv_m hled_m; (simp only [List.cons_append, List.nil_append] at N_m); clear off_m; (k_lt l1_m); (k_lt2 l2_m); (refine And.intro rfl ?_)) | (k_here; (with_reducible show wpAny _ _ (call (Value.builtin "dict.get") [Value.ref _, Value.str _ _]) _ _ _); k_dflt (refine kdg_get1 (knd := PySem.strKind prg _) (by k_asm) (by k_mem) (by assumption) (by assumption) (strKind_is _ _ _ _) _ (by assumption) ?_); (try dsimp only [Option.getD])) | (k_here; (with_reducible show wpAny _ _ (getMethod (Value.ref _) (Str.ofString "get") _) _ _ _); k_dflt (refine kdg_method (knd := PySem.strKind prg _) (by k_asm) (by k_mem) (by assumption) ?_)) | ((with_reducible show wpAny _ _ (setItem (Value.ref _) (Value.str _ _) _) _ _ _); (k_here; k_dflt (refine' dset ?k1 ?k2 ?k3 ?k4 ?z ?_; (case k1 => k_asm); (case k2 => k_asm); (case k3 => k_updF); (case k4 => assumption); (case z => first | assumption | omega); k_whole); intro h_m o_m F_m N_m hD_m; (try k_sweep))) | ((with_reducible show wpAny _ _ (eval (Expr.Constant _ _ _) _) _ _ _); with_reducible first | refine cint ?_ | refine cstr ?_) | ((with_reducible show wpAny _ _ (eval (Expr.Name _ _) _) _ _ _); k_here; k_dflt (refine' nameX_L (hd := ?d) ?F ?v ?_ ?a ?b; (case F => k_asm); (case a => rfl); (case b => rfl); (case v => rfl); (case d => rfl); k_whole)) | ((with_reducible show wpAny _ _ (storeName _ _ _) _ _ _); k_here; k_dflt (refine' storeX_M ?F ?N ?_ ?a ?b; (case F => k_asm); (case N => k_asm); (case a => rfl); (case b => rfl); k_whole; intro h_m m_m F_m N_m; (try k_sweep))) | ((with_reducible show wpAny _ _ (exec _ _) _ _ _); k_fold) | (k_unfold; (try dsimp only)) | (k_end; kc_close) | walk1 | (dsimp only; walk1) | (leave1; (try dsimp only)) | fail "no step"))
  with_reducible rename (_ ∧ _) => l1
  exact ret _ _ _ _ (Fr.keep (by assumption)) (News.led (by assumption)) ⟨_, _, _, _, _, rfl, rfl, by assumption, l1.2.2.1, lt_of_all l1.2.2.2, by assumption, by assumption⟩
theorem getinfo1 {w : World} {x dx d n : Nat} {a : Addr} {K : Sk} {r : Value} {p f : Int} {od : Obj} {own : List (Addr × Obj)} {kvs : List (Str × Value)} {q : Str} {t : Tok} (off : OwnOff own [x, dx, d]) (hD : Obj.IsDictOf (PySem.strKind prg w) od kvs) (lo' : (d == sysModules) = false) (hkl : kvs.length ≤ 100000) :
    Mut w 195 [.ref x, .str q t] 3 ((x, instObj 252 dx) :: (dx, srtD w K d r p f n) :: (d, od) :: own) (dx < x ∧ x < d ∧ valueAt kvs q = some (.ref a))
    (fun v led => v = .ref a ∧ led = (x, instObj 252 dx) :: (dx, srtD w K d r p f n) :: (d, od) :: own) := by
  refine mut_of fun A Q s0 gs dr tk0 ost g G hg hsz hled R hp ret => ?_
  obtain ⟨hd, dp, fr, gd, un⟩ := A; obtain rfl : hd = none := R.hh
  have G' := G; obtain ⟨X, mean, mg, mb, T⟩ := G
  have R' := fun env => R.deeper (env := env)
  obtain ⟨h1, h2, h3⟩ := hp
  refine enterM G' hg hsz hled (R.le (by decide)) (by k_is) (by k_is) (BindsTo.of_eq (binds := [(Str.ofString "self", .ref x), (Str.ofString "node", .str q t)]) rfl) (locs rfl) rfl rfl rfl (by decide) ?_
  intro L h₁ F N hL _ _ A1
  clear G' hg hled
  k_fold
  (repeat' (first | ((with_reducible show wpAny _ _ _ _ _ (Shared.mk _ (Shared.gens _) _ _ _)); (with_reducible first | refine fl_c ?_ rfl | refine fl_a (by assumption) ?_ rfl | refine fl_b (by assumption) ?_ rfl); (fail_if_success (with_reducible show wpAny _ _ _ _ _ (Shared.mk _ (Shared.gens _) _ _ _)))) | ((with_reducible show wpAny _ _ _ _ _ (Shared.mk _ _ _ (_ + _ + _ + _) _)); (with_reducible refine tk_gen ?_); intro tk_m) | (k_here; (with_reducible show wpAny _ _ (call (Value.builtin "dict.get") [Value.ref _, Value.str _ _]) _ _ _); k_dflt (refine kdg_get1 (knd := PySem.strKind prg _) (by k_asm) (by k_mem) (by assumption) (by assumption) (strKind_is _ _ _ _) _ (by assumption) ?_); (try dsimp only [Option.getD])) | (k_here; (with_reducible show wpAny _ _ (getMethod (Value.ref _) (Str.ofString "get") _) _ _ _); k_dflt (refine kdg_method (knd := PySem.strKind prg _) (by k_asm) (by k_mem) (by assumption) ?_)) | ((with_reducible show wpAny _ _ (eval (Expr.Constant _ _ _) _) _ _ _); with_reducible first | refine cint ?_ | refine cstr ?_) | ((with_reducible show wpAny _ _ (eval (Expr.Name _ _) _) _ _ _); k_here; k_dflt (refine' nameX_L (hd := ?d) ?F ?v ?_ ?a ?b; (case F => k_asm); (case a => rfl); (case b => rfl); (case v => rfl); (case d => rfl); k_whole)) | ((with_reducible show wpAny _ _ (storeName _ _ _) _ _ _); k_here; k_dflt (refine' storeX_M ?F ?N ?_ ?a ?b; (case F => k_asm); (case N => k_asm); (case a => rfl); (case b => rfl); k_whole; intro h_m m_m F_m N_m; (try k_sweep))) | ((with_reducible show wpAny _ _ (exec _ _) _ _ _); k_fold) | (k_unfold; (try dsimp only)) | (k_end; kc_close) | walk1 | (dsimp only; walk1) | (leave1; (try dsimp only)) | fail "no step"))
  exact ret _ _ _ _ (Fr.keep (by assumption)) (News.led (by assumption)) ⟨rfl, rfl⟩

example : True := by w_top off; trivial
theorem ownoff_nil {adr : List Addr} : OwnOff [] adr := fun _ h => nomatch h
theorem ownoff_cons {p : Addr × Obj} {own : List (Addr × Obj)} {adr : List Addr} (h : ∀ b ∈ adr, p.1 ≠ b) (t : OwnOff own adr) : OwnOff (p :: own) adr := fun q hq b hb => by
  rcases List.mem_cons.mp hq with e | hq
  · rw [e]; exact h b hb
  · exact t q hq b hb
theorem allLt_cons {p : Addr × Obj} {own : List (Addr × Obj)} {d : Addr} (h : p.1 < d) (t : ∀ p ∈ own, p.1 < d) : ∀ q ∈ p :: own, q.1 < d := fun q hq => by
  rcases List.mem_cons.mp hq with e | hq
  · rw [e]; exact h
  · exact t q hq
theorem lts {own : List (Addr × Obj)} {a b : Addr} (h : ∀ p ∈ own, p.1 < a) (h2 : a < b) : ∀ p ∈ own, p.1 < b := fun p hp => Nat.lt_trans (h p hp) h2
theorem add0 {w : World} {x dx d n : Nat} {K : Sk} {p f : Int} {od : Obj} {own : List (Addr × Obj)} {kvs : List (Str × Value)} {q : Str} {t : Tok} (off : OwnOff own [x, dx, d]) (hD : Obj.IsDictOf (PySem.strKind prg w) od kvs) (lo' : (d == sysModules) = false) (hkl : kvs.length ≤ 100000) :
    Mut w 202 [.ref x, .str q t] 4 ((x, instObj 252 dx) :: (dx, srtD w K d .none p f n) :: (d, od) :: own) (dx < x ∧ x < d ∧ valueAt kvs q = none)
    (fun v led => ∃ (a da l : Nat) (t' : Tok) (od' : Obj), v = .none ∧ led = (x, instObj 252 dx) :: (dx, srtD w K d .none p f n) :: (d, od') :: (a, infO da l q t 0 t') :: (da, dictOf [] 0) :: (l, W.listOf #[] 0) :: own ∧
      Obj.IsDictOf (PySem.strKind prg w) od' (stored kvs q (.ref a)) ∧ d < da ∧ (∀ p ∈ own, p.1 < da) ∧ da < a ∧ a < l) := by
  refine mut_of fun A Q s0 gs dr tk0 ost g G hg hsz hled R hp ret => ?_
  obtain ⟨hd, dp, fr, gd, un⟩ := A; obtain rfl : hd = none := R.hh
  have G' := G; obtain ⟨X, mean, mg, mb, T⟩ := G
  have R' := fun env => R.deeper (env := env)
  obtain ⟨h1, h2, h3⟩ := hp
  refine enterMV (va := Str.ofString "predecessors") (vs := []) G' hg hsz hled (R.le (by decide)) (by k_is) (by k_is) (binds := [(Str.ofString "self", .ref x), (Str.ofString "node", .str q t)]) rfl (by decide) (locs rfl) rfl rfl rfl rfl (by decide) ?_
  intro L V h₁ tk F N hL hV hlt hVL _ A1
  k_fold
  clear G' hg hled hL
  have hlt2 := fun p hp => hlt p (.tail _ (.tail _ (.tail _ hp)))
  k_lt hlt
  clear hV
  generalize V = V at *
  have off' : OwnOff ((V, { cls := .type "tuple", data := .seq #[] }) :: own) [x, dx, d] := ownoff_cons (by k_all) off
  replace N := News.put3 N
  (repeat' (first | ((with_reducible show wpAny _ _ _ _ _ (Shared.mk _ (Shared.gens _) _ _ _)); (with_reducible first | refine fl_c ?_ rfl | refine fl_a (by assumption) ?_ rfl | refine fl_b (by assumption) ?_ rfl); (fail_if_success (with_reducible show wpAny _ _ _ _ _ (Shared.mk _ (Shared.gens _) _ _ _)))) | ((with_reducible show wpAny _ _ _ _ _ (Shared.mk _ _ _ (_ + _ + _ + _) _)); (with_reducible refine tk_gen ?_); intro tk_m) | ((with_reducible show wpAny _ _ (exec (Stmt.For (Expr.Name _ _) (Expr.Name _ _) (_ :: _) [] _) _) _ _ _); (k_here; k_dflt (refine wpAny_For ?_))) | (k_here; (with_reducible show wpAny _ _ (call (Value.ref 195) [Value.ref _, Value.str _ _] _) _ _ _); k_dflt (refine use_mut0 (getinfo0 (by assumption) (by assumption) (by assumption) (by assumption)) (by k_asm) (by k_asm) (by k_asm) (by k_asm) (Rm.le (by first | assumption | (rename (∀ env, Rm _ _) => kR_m; exact kR_m _)) (by decide)) ⟨by assumption, by assumption, by assumption⟩ ?_); intro v_m h_m tk_m led_m F_m N_m hv_m; obtain ⟨a_m, da_m, ll_m, t_m, od_m, hv_m, hled_m, hD_m, l1_m, l2_m, l3_m, l4_m⟩ := hv_m; subst hv_m hled_m; (have ne1_m := below_off (fun p_m hp_m => lts l2_m l3_m p_m (.tail _ hp_m))); (have ne2_m := below_off (fun p_m hp_m => lts (lts l2_m l3_m) l4_m p_m (.tail _ hp_m))); (dsimp only [infO] at N_m); (k_lt l2_m); (k_lt2 l3_m); (k_lt2 l4_m); (k_lt2 l1_m); (try k_sweep)) | ((with_reducible show wpAny _ _ (eval (Expr.Constant _ _ _) _) _ _ _); with_reducible first | refine cint ?_ | refine cstr ?_) | ((with_reducible show wpAny _ _ (eval (Expr.Name _ _) _) _ _ _); k_here; k_dflt (refine' nameX_L (hd := ?d) ?F ?v ?_ ?a ?b; (case F => k_asm); (case a => rfl); (case b => rfl); (case v => rfl); (case d => rfl); k_whole)) | ((with_reducible show wpAny _ _ (storeName _ _ _) _ _ _); k_here; k_dflt (refine' storeX_M ?F ?N ?_ ?a ?b; (case F => k_asm); (case N => k_asm); (case a => rfl); (case b => rfl); k_whole; intro h_m m_m F_m N_m; (try k_sweep))) | ((with_reducible show wpAny _ _ (exec _ _) _ _ _); k_fold) | (k_unfold; (try dsimp only)) | (k_end; kc_close) | walk1 | (dsimp only; walk1) | (leave1; (try dsimp only)) | fail "no step"))
  (with_reducible rename Fr _ _ _ _ => kF); (with_reducible rename News _ _ _ _ => kN); (with_reducible rename _ ∧ AllLt _ own => l2)
  refine' for_0 (L := L) [] (fun _ _ => True) rfl (Itb.tuple (o := { cls := .type "tuple", data := .seq #[] }) rfl rfl rfl) rfl rfl kF kN (.inr (by k_mem)) trivial ?turn ?done
  case turn =>
    intro I i v m₁ oI h tk hlt hi
    exact absurd hi (Nat.not_lt_zero _)
  case done =>
    intro m₁ h' tk _ kF kN
    (repeat' (first | ((with_reducible show wpAny _ _ _ _ _ (Shared.mk _ (Shared.gens _) _ _ _)); (with_reducible first | refine fl_c ?_ rfl | refine fl_a (by assumption) ?_ rfl | refine fl_b (by assumption) ?_ rfl); (fail_if_success (with_reducible show wpAny _ _ _ _ _ (Shared.mk _ (Shared.gens _) _ _ _)))) | ((with_reducible show wpAny _ _ _ _ _ (Shared.mk _ _ _ (_ + _ + _ + _) _)); (with_reducible refine tk_gen ?_); intro tk_m) | ((with_reducible show wpAny _ _ (eval (Expr.Constant _ _ _) _) _ _ _); with_reducible first | refine cint ?_ | refine cstr ?_) | ((with_reducible show wpAny _ _ (eval (Expr.Name _ _) _) _ _ _); k_here; k_dflt (refine' nameX_L (hd := ?d) ?F ?v ?_ ?a ?b; (case F => k_asm); (case a => rfl); (case b => rfl); (case v => rfl); (case d => rfl); k_whole)) | ((with_reducible show wpAny _ _ (storeName _ _ _) _ _ _); k_here; k_dflt (refine' storeX_M ?F ?N ?_ ?a ?b; (case F => k_asm); (case N => k_asm); (case a => rfl); (case b => rfl); k_whole; intro h_m m_m F_m N_m; (try k_sweep))) | ((with_reducible show wpAny _ _ (exec _ _) _ _ _); k_fold) | (k_unfold; (try dsimp only)) | (k_end; kc_close) | walk1 | (dsimp only; walk1) | (leave1; (try dsimp only)) | fail "no step"))
    exact ret _ _ _ _ (Fr.keep (by assumption)) (News.led (News.put33 (by assumption))) ⟨_, _, _, _, _, rfl, rfl, by assumption, by assumption, lt_of_all l2.2, by assumption, by assumption⟩

example : True := by w_top off; trivial
theorem News.drop2 {h₀ h : Heap} {L : Addr} {a v : Addr × Obj} {own : List (Addr × Obj)} (N : News h₀ L h (a :: v :: own)) : News h₀ L h (a :: own) := fun p hp => N p (by
  simp only [List.mem_cons] at hp ⊢; rcases hp with h | h <;> simp [h])
theorem add1 {w : World} {x dx d n xi dxi li xj dxj lj k : Nat} {K : Sk} {p f ni nj : Int} {od : Obj} {own : List (Addr × Obj)} {kvs : List (Str × Value)} {q q' : Str} {t ti tj ti' tj' t2 : Tok} {acc : List (Str × Tok)} (off : OwnOff own [xi, lj]) (hD : Obj.IsDictOf (PySem.strKind prg w) od kvs) (lo' : (d == sysModules) = false) (hkl : kvs.length ≤ 100000)
    (ne : xi ≠ x ∧ xi ≠ dx ∧ xi ≠ d ∧ xi ≠ dxi ∧ xi ≠ xj ∧ xi ≠ dxj ∧ xi ≠ lj ∧ lj ≠ x ∧ lj ≠ dx ∧ lj ≠ d ∧ lj ≠ dxi ∧ lj ≠ xj ∧ lj ≠ dxj) (hni : 0 ≤ ni ∧ ni ≤ 1000) (hacc : acc.length ≤ 1000) :
    Mut w 202 [.ref x, .str q t, .str q' t2] 4 ((x, instObj 252 dx) :: (dx, srtD w K d .none p f n) :: (d, od) :: (xi, infO dxi li q ti ni ti') :: (dxi, dictOf [] 0) :: (xj, infO dxj lj q' tj nj tj') :: (dxj, dictOf [] 0) :: (lj, W.listOf (strValues acc).toArray k) :: own)
      (dx < x ∧ x < d ∧ valueAt kvs q = some (.ref xi) ∧ valueAt kvs q' = some (.ref xj))
    (fun v led => ∃ ti'', v = .none ∧ led = (lj, W.listOf (strValues (acc ++ [(q, t)])).toArray (k + 1)) :: (x, instObj 252 dx) :: (dx, srtD w K d .none p f n) :: (d, od) :: (xi, infO dxi li q ti (ni + 1) ti'') :: (dxi, dictOf [] 0) :: (xj, infO dxj lj q' tj nj tj') :: (dxj, dictOf [] 0) :: own) := by
  refine mut_of fun A Q s0 gs dr tk0 ost g G hg hsz hled R hp ret => ?_
  obtain ⟨hd, dp, fr, gd, un⟩ := A; obtain rfl : hd = none := R.hh
  have G' := G; obtain ⟨X, mean, mg, mb, T⟩ := G
  have R' := fun env => R.deeper (env := env)
  obtain ⟨h1, h2, h3, h4⟩ := hp
  obtain ⟨n1, n2, n3, n4, n5, n6, n7, n8, n9, n10, n11, n12, n13⟩ := ne
  refine enterMV (va := Str.ofString "predecessors") (vs := [.str q' t2]) G' hg hsz hled (R.le (by decide)) (by k_is) (by k_is) (binds := [(Str.ofString "self", .ref x), (Str.ofString "node", .str q t)]) rfl (Nat.le_of_ble_eq_true rfl) (locs rfl) rfl rfl rfl rfl (by decide) ?_
  intro L V h₁ tk F N hL hV hlt hVL _ A1
  k_fold
  clear G' hg hled hL
  have neV := below_off fun p hp => hlt p (.tail _ (.tail _ (.tail _ (.tail _ (.tail _ (.tail _ (.tail _ (.tail _ hp))))))))
  k_lt hlt
  clear hV
  generalize V = V at *
  dsimp only [infO] at N
  (repeat' (first | ((with_reducible show wpAny _ _ _ _ _ (Shared.mk _ (Shared.gens _) _ _ _)); (with_reducible first | refine fl_c ?_ rfl | refine fl_a (by assumption) ?_ rfl | refine fl_b (by assumption) ?_ rfl); (fail_if_success (with_reducible show wpAny _ _ _ _ _ (Shared.mk _ (Shared.gens _) _ _ _)))) | ((with_reducible show wpAny _ _ _ _ _ (Shared.mk _ _ _ (_ + _ + _ + _) _)); (with_reducible refine tk_gen ?_); intro tk_m) | (k_here; (with_reducible show wpAny _ _ (call (Value.ref 195) [Value.ref _, Value.str _ _] _) _ _ _); k_dflt (refine use_read (getinfo1 (own := []) ownoff_nil (by assumption) (by assumption) (by assumption)) (by k_asm) (by k_asm) (by k_asm) (by k_asm) (Rm.le (by first | assumption | (rename (∀ env, Rm _ _) => kR_m; exact kR_m _)) (by decide)) ⟨by assumption, by assumption, by assumption⟩ (by k_allIn) ?_); intro h_m tk_m F_m N_m; (try k_sweep)) | ((with_reducible show wpAny _ _ (exec (Stmt.For (Expr.Name _ _) (Expr.Name _ _) (_ :: _) [] _) _) _ _ _); (k_here; k_dflt (refine wpAny_For ?_))) | ((with_reducible show wpAny _ _ (eval (Expr.Constant _ _ _) _) _ _ _); with_reducible first | refine cint ?_ | refine cstr ?_) | ((with_reducible show wpAny _ _ (eval (Expr.Name _ _) _) _ _ _); k_here; k_dflt (refine' nameX_L (hd := ?d) ?F ?v ?_ ?a ?b; (case F => k_asm); (case a => rfl); (case b => rfl); (case v => rfl); (case d => rfl); k_whole)) | ((with_reducible show wpAny _ _ (storeName _ _ _) _ _ _); k_here; k_dflt (refine' storeX_M ?F ?N ?_ ?a ?b; (case F => k_asm); (case N => k_asm); (case a => rfl); (case b => rfl); k_whole; intro h_m m_m F_m N_m; (try k_sweep))) | ((with_reducible show wpAny _ _ (exec _ _) _ _ _); k_fold) | (k_unfold; (try dsimp only)) | (k_end; kc_close) | walk1 | (dsimp only; walk1) | (leave1; (try dsimp only)) | fail "no step"))
  (with_reducible rename Fr _ _ _ _ => kF); (with_reducible rename News _ _ _ _ => kN)
  refine' for_1 (L := L) (a := lj) [Str.ofString "pred", Str.ofString "pred_info"] (fun i m o => o = W.listOf (strValues (if i = 0 then acc else acc ++ [(q, t)])).toArray (k + i)) rfl (Itb.tuple (o := { cls := .type "tuple", data := .seq #[.str q' t2] }) rfl rfl rfl) rfl rfl kF (News.put8 kN) (.inr (by k_mem)) rfl ?turn ?done
  case turn =>
    intro I i v m₁ o₁ oI h tk hlt3 hi hP hJ kF kN
    k_fold
    obtain rfl : i = 0 := Nat.lt_one_iff.mp hi
    obtain rfl : Value.str q' t2 = v := Option.some.inj hP
    rw [if_pos rfl] at hJ
    subst hJ
    have neI := below_off fun p hp => hlt3 p (.tail _ (.tail _ (.tail _ (.tail _ (.tail _ (.tail _ (.tail _ (.tail _ (.tail _ hp)))))))))
    k_lt hlt3
    (repeat' (first | ((with_reducible show wpAny _ _ _ _ _ (Shared.mk _ (Shared.gens _) _ _ _)); (with_reducible first | refine fl_c ?_ rfl | refine fl_a (by assumption) ?_ rfl | refine fl_b (by assumption) ?_ rfl); (fail_if_success (with_reducible show wpAny _ _ _ _ _ (Shared.mk _ (Shared.gens _) _ _ _)))) | ((with_reducible show wpAny _ _ _ _ _ (Shared.mk _ _ _ (_ + _ + _ + _) _)); (with_reducible refine tk_gen ?_); intro tk_m) | (k_here; (with_reducible show wpAny _ _ (call (Value.ref 195) [Value.ref _, Value.str _ _] _) _ _ _); k_dflt (refine use_read (getinfo1 (own := []) ownoff_nil (by assumption) (by assumption) (by assumption)) (by k_asm) (by k_asm) (by k_asm) (by k_asm) (Rm.le (by first | assumption | (rename (∀ env, Rm _ _) => kR_m; exact kR_m _)) (by decide)) ⟨by assumption, by assumption, by assumption⟩ (by k_allIn) ?_); intro h_m tk_m F_m N_m; (try k_sweep)) | (k_here; (with_reducible show wpAny _ _ (call (Value.builtin "list.append") [Value.ref _, Value.str _ _]) _ _ _); k_dflt (refine' append_strs ?k1 ?k2 ?k3 ?z ?_; (case k1 => k_asm); (case k2 => k_asm); (case k3 => k_upd); (case z => first | assumption | omega | (simp only [List.length_append, List.length_singleton, List.length_nil, List.length_cons]; omega)); k_whole); intro h_m F_m N_m; (try k_sweep)) | ((with_reducible show wpAny _ _ (eval (Expr.Constant _ _ _) _) _ _ _); with_reducible first | refine cint ?_ | refine cstr ?_) | ((with_reducible show wpAny _ _ (eval (Expr.Name _ _) _) _ _ _); k_here; k_dflt (refine' nameX_L (hd := ?d) ?F ?v ?_ ?a ?b; (case F => k_asm); (case a => rfl); (case b => rfl); (case v => rfl); (case d => rfl); k_whole)) | ((with_reducible show wpAny _ _ (storeName _ _ _) _ _ _); k_here; k_dflt (refine' storeX_M ?F ?N ?_ ?a ?b; (case F => k_asm); (case N => k_asm); (case a => rfl); (case b => rfl); k_whole; intro h_m m_m F_m N_m; (try k_sweep))) | ((with_reducible show wpAny _ _ (exec _ _) _ _ _); k_fold) | (k_unfold; (try dsimp only)) | (k_end; kc_close) | walk1 | (dsimp only; walk1) | (leave1; (try dsimp only)) | fail "no step"))
    refine t1_next (by assumption) (by assumption) (fun p hp => hp) ?_ ?_
    · intro z hz; (repeat refine out_st (contains_ne hz (by rfl)) ?_); simp only [mid, hz]; first | rfl | (rw [if_neg Bool.false_ne_true, if_neg (contains_ne hz (by rfl))])
    · rfl
  case done =>
    intro m₁ o₁ h' tk hJ kF kN
    replace hJ : o₁ = W.listOf (strValues (acc ++ [(q, t)])).toArray (k + 1) := hJ
    subst hJ
    (repeat' (first | ((with_reducible show wpAny _ _ _ _ _ (Shared.mk _ (Shared.gens _) _ _ _)); (with_reducible first | refine fl_c ?_ rfl | refine fl_a (by assumption) ?_ rfl | refine fl_b (by assumption) ?_ rfl); (fail_if_success (with_reducible show wpAny _ _ _ _ _ (Shared.mk _ (Shared.gens _) _ _ _)))) | ((with_reducible show wpAny _ _ _ _ _ (Shared.mk _ _ _ (_ + _ + _ + _) _)); (with_reducible refine tk_gen ?_); intro tk_m) | ((with_reducible show wpAny _ _ (eval (Expr.Constant _ _ _) _) _ _ _); with_reducible first | refine cint ?_ | refine cstr ?_) | ((with_reducible show wpAny _ _ (eval (Expr.Name _ _) _) _ _ _); k_here; k_dflt (refine' nameX_L (hd := ?d) ?F ?v ?_ ?a ?b; (case F => k_asm); (case a => rfl); (case b => rfl); (case v => rfl); (case d => rfl); k_whole)) | ((with_reducible show wpAny _ _ (storeName _ _ _) _ _ _); k_here; k_dflt (refine' storeX_M ?F ?N ?_ ?a ?b; (case F => k_asm); (case N => k_asm); (case a => rfl); (case b => rfl); k_whole; intro h_m m_m F_m N_m; (try k_sweep))) | ((with_reducible show wpAny _ _ (exec _ _) _ _ _); k_fold) | (k_unfold; (try dsimp only)) | (k_end; kc_close) | walk1 | (dsimp only; walk1) | (leave1; (try dsimp only)) | fail "no step"))
    exact ret _ _ _ _ (Fr.keep (by assumption)) (News.led (News.drop2 (by assumption))) ⟨_, rfl, rfl⟩

section
open Builtin Builtin.ObjectAttr
theorem li_getattribute : Slot "list_iterator" "__getattribute__" "object.__getattribute__" :=
  .of (owner := "object") (n := "__getattribute__") (by rw [typeLookup_type, builtinLookup_eq_fast]; kernel_rfl) (by decide +kernel) (by decide +kernel) (by decide +kernel) (by first | exact .inl (by decide +kernel) | exact .inr (by decide +kernel)) (by rw [isSubtype_type]; kernel_rfl)
theorem li_next_ty : typeOf (.builtin "list_iterator.__next__") = pure (.type "wrapper_descriptor") := by show builtinType _ = _; rw [builtinType_eq_fast]; kernel_rfl
theorem wd_get : Slot "wrapper_descriptor" "__get__" "wrapper_descriptor.__get__" :=
  .of (owner := "wrapper_descriptor") (n := "__get__") (by rw [typeLookup_type, builtinLookup_eq_fast]; kernel_rfl) (by decide +kernel) (by decide +kernel) (by decide +kernel) (by first | exact .inl (by decide +kernel) | exact .inr (by decide +kernel)) (by rw [isSubtype_type]; kernel_rfl)
theorem entry_wd_get : entryFor table "wrapper_descriptor.__get__" = some Builtin.«wrapper_descriptor.__get__» := entryFor_of_tree (by kernel_rfl)
theorem args_wd_get (a b c : Value) : argsOk "wrapper_descriptor.__get__" ⟨[a, b, c], []⟩ := by unfold argsOk; kernel_rfl
abbrev wrapO (it : Addr) : Obj := { cls := .type "method-wrapper", data := .fields #[.builtin "list_iterator.__next__", .ref it] }
theorem wd_call {prog : Program} {w : World} {A : Around} {s : Shared} {it : Addr} {o : Obj} {R : Result → Shared → Prop} (h0 : s.heap.get? it = some o) (hc : o.cls = .type "list_iterator")
   (h : R (.ok (.ret (.ref s.heap.objs.size))) { s with heap := s.heap.push (wrapO it) }) :
    codeAny (model prog w) A (.call (.builtin "wrapper_descriptor.__get__") ⟨[.builtin "list_iterator.__next__", .ref it, .type "list_iterator"], []⟩) R s := by
  obtain ⟨hp, g, d, tk, os⟩ := s
  have hT : (⟨hp, g, d, tk, os⟩ : Shared).TypeIs (.ref it) "list_iterator" := ⟨_, h0, hc⟩
  have f11 : isSubtype (.type "list_iterator") (.type "list_iterator") = pure true := by rw [isSubtype_type]; kernel_rfl
  have f10 := li_next_ty
  refine codeAny_call_builtin wd_get.plain entry_wd_get (wd_get.check _ _ _ _ _ _ _ _ li_next_ty (args_wd_get _ _ _) ?_)
  unfold Builtin.«wrapper_descriptor.__get__»
  have f12 : (".".intercalate ("list_iterator.__next__".cutAt '.').dropLast) = "list_iterator" := by decide +kernel
  repeat (any_goals (first | assumption | exact hT | rw [f12] | wp_step))
  try exact wpAny_bind (wpAny_newObj_type (wpAny_pure h))
theorem getattr_next {prog : Program} {w : World} {A : Around} {E : Value → Shared → Prop} {s : Shared} {it l : Addr} {i : Nat} {b : Bool} {Q : Value → Shared → Prop} (h0 : s.heap.get? it = some { cls := .type "list_iterator", data := .fields #[.ref l, .int i 0] })
   (h : Q (.ref s.heap.objs.size) { s with heap := s.heap.push (wrapO it), toks := s.toks + 1 }) :
    wpAny (model prog w) A (getAttr (.ref it) (Str.ofString "__next__") b) Q E s := by
  obtain ⟨hp, g, d, tk, os⟩ := s
  have hT : ∀ tk', (⟨hp, g, d, tk', os⟩ : Shared).TypeIs (.ref it) "list_iterator" := fun _ => ⟨_, h0, rfl⟩
  have hT' : ∀ (hp' : Heap) (tk' : Nat), hp'.get? it = hp.get? it → (⟨hp', g, d, tk', os⟩ : Shared).TypeIs (.ref it) "list_iterator" := fun _ _ e => ⟨_, e.trans h0, rfl⟩
  have f3 := li_getattribute.lookup
  have f4 := li_getattribute.bind (.ref it)
  have f5 : typeLookup (.type "list_iterator") "__getattr__" = pure none := by rw [typeLookup_type, builtinLookup_eq_fast]; kernel_rfl
  have f6 := slot_listiter_next.lookup
  have f7 : typeLookup (.type "wrapper_descriptor") "__get__" = pure (some (.builtin "wrapper_descriptor.__get__")) := by rw [typeLookup_type, builtinLookup_eq_fast]; kernel_rfl
  have f8 : typeLookup (.type "wrapper_descriptor") "__set__" = pure none := by rw [typeLookup_type, builtinLookup_eq_fast]; kernel_rfl
  have f9 : typeLookup (.type "wrapper_descriptor") "__delete__" = pure none := by rw [typeLookup_type, builtinLookup_eq_fast]; kernel_rfl
  have f10 := li_next_ty
  have f11 : isSubtype (.type "list_iterator") (.type "list_iterator") = pure true := by rw [isSubtype_type]; kernel_rfl
  unfold getAttr getAttrBy
  cases b
  all_goals
    repeat (any_goals (first | assumption | exact hT _ | ((with_reducible show wpAny _ _ (call (Value.builtin "object.__getattribute__") _ _) _ _ _); refine wpAny_call_entry li_getattribute (hT _) F.entry_object_getattribute ?_ (F.args_object_getattribute_2 _ _); unfold Builtin.«object.__getattribute__») | wp_step))
  all_goals
    refine wd_call h0 rfl ?_
    repeat (any_goals (first | assumption | wp_step))
    exact ⟨_, rfl, wpAny_pure h⟩

end
theorem cbc_next (it : Value) : checkBoundCall "list_iterator.__next__" ⟨[it], []⟩ = pure () := by kernel_rfl
section
variable {prog : Program} {w : World} {A : Around} {E : Value → Shared → Prop} {s : Shared} {it l mw : Addr} {i : Nat} {items : Array Value} {Q : Value → Shared → Prop}
theorem wrap_call (hm : s.heap.get? mw = some (wrapO it))
    (h : wpAny (model prog w) A.in1 (Builtin.«list_iterator.__next__» ⟨[.ref it], []⟩) (fun fin s' => ∃ v, fin = .done (.ret v) ∧ Q v s') E s) : wpAny (model prog w) A (call (.ref mw) []) Q E s := by
  refine wpAny_call (codeAny_of_tree ?_)
  show wpAny _ _ (callAny (.ref mw) _) _ _ _
  unfold callAny
  refine wpAny_bind (wpAny_load hm ?_)
  dsimp only
  rw [if_pos (by decide +kernel)]
  show wpAny _ _ (if (Value.type "method-wrapper" != Value.type "method") = true then _ else _) _ _ _
  rw [if_pos (by decide +kernel), cbc_next]
  refine wpAny_bind (wpAny_pure (wpAny_pure ⟨Code.quiet_builtin _ (by decide +kernel), ?_⟩))
  refine codeAny_builtin entry_listiter_next (wpAny_mono h (fun fin s' z => ?_) fun _ _ z => z)
  obtain ⟨v, rfl, z⟩ := z
  exact z
theorem next_item {x : Value} (hm : s.heap.get? mw = some (wrapO it)) (hit : s.heap.IsListIter it l i) (hl : s.heap.IsList l items) (hx : items[i]? = some x)
    (hQ : ∀ h', h'.IsListIter it l (i + 1) → Heap.SameBut it s.heap h' → Q x { s with heap := h' }) : wpAny (model prog w) A (call (.ref mw) []) Q E s := by
  refine wrap_call hm ?_
  obtain ⟨o, ho, hc, hd⟩ := id hit
  obtain ⟨ol, hol, _, nl, hdl⟩ := hl
  show wpAny _ _ (field (.ref it) 0 >>= _) _ _ s
  refine wpAny_bind (wpAny_field ho hd (x := .ref l) rfl ?_)
  show wpAny _ _ (if (Value.ref l == Value.none) = true then _ else _) _ _ s
  rw [if_neg (show ¬ ((Value.ref l == Value.none) = true) from Bool.false_ne_true)]
  show wpAny _ _ (field (.ref it) 1 >>= _) _ _ s
  refine wpAny_bind (wpAny_field ho hd (x := .int i 0) rfl ?_)
  show wpAny _ _ (seqItems? (.ref l) >>= _) _ _ s
  refine wpAny_bind (wpAny_seqItems hol hdl ?_)
  simp only [Int.toNat_natCast, hx]
  refine wpAny_bind (wpAny_setField ho hd (by simp) (wpAny_pure ⟨x, rfl, hQ _ ?_ (Heap.SameBut.update ..)⟩))
  exact ⟨_, Heap.get?_update_self _ ho (Obj.isFreed_of_fields (Obj.data_mapFields hd _)), (Obj.cls_mapFields ..).trans hc, by rw [Obj.data_mapFields hd]; simp [rawInt]⟩
theorem next_stop (hh : A.handled = none) (hm : s.heap.get? mw = some (wrapO it)) (hit : s.heap.IsListIter it l i) (hl : s.heap.IsList l items) (hx : items[i]? = none)
    (hE : ∀ h1 h' e, Heap.SameBut it s.heap h1 → (∃ o, h1.get? it = some o) → Heap.NewExcOf h1 h' e "StopIteration" → E (.ref e) { s with heap := h' }) : wpAny (model prog w) A (call (.ref mw) []) Q E s := by
  refine wrap_call hm ?_
  obtain ⟨o, ho, hc, hd⟩ := id hit
  obtain ⟨ol, hol, _, nl, hdl⟩ := hl
  show wpAny _ _ (field (.ref it) 0 >>= _) _ _ s
  refine wpAny_bind (wpAny_field ho hd (x := .ref l) rfl ?_)
  show wpAny _ _ (if (Value.ref l == Value.none) = true then _ else _) _ _ s
  rw [if_neg (show ¬ ((Value.ref l == Value.none) = true) from Bool.false_ne_true)]
  show wpAny _ _ (field (.ref it) 1 >>= _) _ _ s
  refine wpAny_bind (wpAny_field ho hd (x := .int i 0) rfl ?_)
  show wpAny _ _ (seqItems? (.ref l) >>= _) _ _ s
  refine wpAny_bind (wpAny_seqItems hol hdl ?_)
  simp only [Int.toNat_natCast, hx]
  refine wpAny_bind (wpAny_rule (wpAny_bind (wpAny_setField ho hd (by simp) ?_)))
  show wpAny _ _ (newExc (.type "StopIteration") [] >>= _) _ _ _
  refine wpAny_bind ?_
  simp only [newExc, newTuple]
  refine wpAny_bind (wpAny_newObj_type ?_ (by size_fits))
  refine wpAny_bind (m := firstArgMember _ _) (wpAny_of_eq (a := Value.none) (by first | rfl | (simp only [firstArgMember]; rfl)) ?_)
  refine wpAny_newObj_type ?_ (by size_fits)
  simp only [raiseNew]
  refine wpAny_bind (wpAny_handled ?_)
  first | rw [show A.in1.handled = none from hh] | rw [hh]
  refine wpAny_bind (wpAny_pure (wpAny_throw ?_))
  refine hE _ _ _ (Heap.SameBut.update ..) ⟨_, Heap.get?_update_self _ ho (Obj.isFreed_of_fields (Obj.data_mapFields hd _))⟩ ⟨fun b o e => Heap.get?_push_of_some _ (Heap.get?_push_of_some _ e), ?_, ?_⟩
  · refine Heap.get?_none_of_le ?_
    rw [Heap.size_push]; exact Nat.le_succ _
  · exact ⟨_, _, Heap.get?_push_size _ rfl, rfl, rfl, rfl⟩
end

noncomputable def FrsOf : List Env → List (Addr × Obj) → Prop
  | [], [] => True
  | env :: l, p :: r => env.scope.kind ≠ .module ∧ env.frame = some p.1 ∧ (∀ vs, p.2.data ≠ .fields vs) ∧ FrsOf l r
  | _, _ => False
noncomputable def Slt : List (Addr × Obj) → List (Addr × Obj) → Prop
  | [], [] => True
  | p :: r, q :: t => q.1 = p.1 ∧ (∃ sl, q.2 = { p.2 with slots := sl }) ∧ Slt r t
  | _, _ => False
theorem Slt.refl : ∀ l, Slt l l := by
  intro l
  induction l with
  | nil => trivial
  | cons p r ih => exact ⟨rfl, ⟨p.2.slots, rfl⟩, ih⟩
theorem Slt.trans {a : List (Addr × Obj)} : ∀ {b c}, Slt a b → Slt b c → Slt a c := by
  induction a with
  | nil => intro b c h k; cases b with
    | nil => exact k
    | cons q t => exact h.elim
  | cons p r ih => intro b c h k; cases b with
    | nil => exact h.elim
    | cons q t => cases c with
      | nil => exact k.elim
      | cons u v =>
        obtain ⟨h1, ⟨sl, h2⟩, h3⟩ := h
        obtain ⟨k1, ⟨sl', k2⟩, k3⟩ := k
        exact ⟨k1.trans h1, ⟨sl', by rw [k2, h2]⟩, ih h3 k3⟩
theorem Slt.addr {a : List (Addr × Obj)} : ∀ {b}, Slt a b → b.map (·.1) = a.map (·.1) := by
  induction a with
  | nil => intro b h; cases b with
    | nil => rfl
    | cons q t => exact h.elim
  | cons p r ih => intro b h; cases b with
    | nil => exact h.elim
    | cons q t => rw [List.map_cons, List.map_cons, h.1, ih h.2.2]
theorem Slt.mem {a b : List (Addr × Obj)} (h : Slt a b) {q : Addr × Obj} (hq : q ∈ b) : ∃ p ∈ a, p.1 = q.1 := by
  have : q.1 ∈ a.map (·.1) := by rw [← h.addr]; exact List.mem_map.mpr ⟨q, hq, rfl⟩
  obtain ⟨p, hp, e⟩ := List.mem_map.mp this
  exact ⟨p, hp, e⟩
theorem Slt.ne {a b : List (Addr × Obj)} (h : Slt a b) {x : Addr} (k : ∀ p ∈ a, p.1 ≠ x) : ∀ p ∈ b, p.1 ≠ x := fun q hq => by
  obtain ⟨p, hp, e⟩ := h.mem hq
  exact e ▸ k p hp
theorem FrsOf.slt {l : List Env} : ∀ {a b : List (Addr × Obj)}, FrsOf l a → Slt a b → FrsOf l b := by
  induction l with
  | nil => intro a b h k; cases a with
    | nil => cases b with
      | nil => trivial
      | cons q t => exact k.elim
    | cons p r => exact h.elim
  | cons env l ih => intro a b h k; cases a with
    | nil => exact h.elim
    | cons p r => cases b with
      | nil => exact k.elim
      | cons q t =>
        obtain ⟨h1, h2, h3, h4⟩ := h
        obtain ⟨k1, ⟨sl, k2⟩, k3⟩ := k
        exact ⟨h1, by rw [h2, k1], by rw [k2]; exact h3, ih h4 k3⟩
theorem slt_of {h : Heap} : ∀ {a : List (Addr × Obj)}, (∀ p ∈ a, ∃ sl, h.get? p.1 = some { p.2 with slots := sl }) → ∃ b, Slt a b ∧ ∀ q ∈ b, h.get? q.1 = some q.2 := by
  intro a
  induction a with
  | nil => intro _; exact ⟨[], trivial, fun _ h => nomatch h⟩
  | cons p r ih =>
    intro k
    obtain ⟨t, h1, h2⟩ := ih fun q hq => k q (.tail _ hq)
    obtain ⟨sl, hs⟩ := k p (.head _)
    refine ⟨(p.1, { p.2 with slots := sl }) :: t, ⟨rfl, ⟨sl, rfl⟩, h1⟩, fun q hq => ?_⟩
    rcases List.mem_cons.mp hq with e | hq
    · rw [e]; exact hs
    · exact h2 q hq
theorem FrsOf.data {l : List Env} : ∀ {a : List (Addr × Obj)}, FrsOf l a → ∀ p ∈ a, ∀ vs, p.2.data ≠ .fields vs := by
  induction l with
  | nil => intro a h; cases a with
    | nil => exact fun _ h => nomatch h
    | cons p r => exact h.elim
  | cons env l ih => intro a h; cases a with
    | nil => exact h.elim
    | cons p r =>
      intro q hq
      rcases List.mem_cons.mp hq with e | hq
      · rw [e]; exact h.2.2.1
      · exact ih h.2.2.2 q hq
theorem FrsOf.funFrames {h B : Heap} {l : List Env} : ∀ {a : List (Addr × Obj)}, FrsOf l a → (∀ p ∈ a, h.get? p.1 = some p.2 ∧ B.get? p.1 = none) → h.FunFrames B l := by
  induction l with
  | nil => intro a _ _; trivial
  | cons env l ih => intro a k g; cases a with
    | nil => exact k.elim
    | cons p r =>
      obtain ⟨k1, k2, k3, k4⟩ := k
      exact ⟨k1, ⟨p.1, p.2, k2, (g p (.head _)).2, (g p (.head _)).1, k3⟩, ih k4 fun q hq => g q (.tail _ hq)⟩
theorem si_exc : isSubtype (.type "StopIteration") (.type "BaseException") = pure true := by rw [isSubtype_type]; kernel_rfl
theorem si_self : isSubtype (.type "StopIteration") (.type "StopIteration") = pure true := by rw [isSubtype_type]; kernel_rfl
theorem si_notTuple : isSubtype (.type ((Manifest.find? "StopIteration").elim "type" fun x => x.metatype)) (.type "tuple") = pure false := by
  rw [show ((Manifest.find? "StopIteration").elim "type" fun x => x.metatype) = "type" from by kernel_rfl, isSubtype_type]; kernel_rfl
section
variable {w : World} {A₀ : Around} {E : Value → Shared → Prop} {s' : Shared} {b h : Heap} {outer : List Env} {L a e : Addr} {m : Str → Option Value} {name : Str} {scope : Scope} {cd : Value}
  {b₀ : Stmt} {suite : List Stmt} {pos np : Pos} {rest : List ExceptHandler} {Q : Flow → Shared → Prop} {pre frs : List (Addr × Obj)} {mean : ExcName → Option Value} {mg mb : Str → Option Value}
theorem caught_here (hfr : A₀.frames = some outer) (hF : FrsOf outer frs) (F : Fr b L h m) (N : News b L h (pre ++ frs)) (off : ∀ p ∈ pre, ∀ q ∈ frs, p.1 ≠ q.1)
    (hx : Heap.NewExcOf h s'.heap e "StopIteration") (T : Top vw lo mean mg mb b)
    (k : ∀ h' frs', Fr b L h' m → News b L h' (pre ++ frs') → Slt frs frs' →
      wpAny (model prg w) ((A₀.deeper (envOf name scope L a cd)).mark (some (.ref e))) (execs (b₀ :: suite) (envOf name scope L a cd)) Q E { s' with heap := h' })
    (h1 : Str.ofString "StopIteration" ∉ startupNames := by decide +kernel) (h2 : Str.ofString "StopIteration" ∉ lo := by decide +kernel) (h3 : Str.ofString "StopIteration" ∉ (recsOf vw).map (·.name) := by decide +kernel) (h4 : Str.ofString "StopIteration" ∉ (litsOf vw).map (·.1) := by decide +kernel) (h4c : Str.ofString "StopIteration" ∉ (clssOf vw lo).map (·.name) := by decide +kernel)
    (hk : scope.kind = .function := by rfl) (hxn : (envOf name scope L a cd).kindOf (Str.ofString "StopIteration") = some .globalImplicit := by rfl)
    (hE : PassesOwnAt (model prg w) ((A₀.deeper (envOf name scope L a cd)).mark (some (.ref e))) (A₀.deeper (envOf name scope L a cd)) (envOf name scope L a cd) E := by passes_own) :
    wpAny (model prg w) (A₀.deeper (envOf name scope L a cd)) (noteFrame (.ref e) (envOf name scope L a cd))
      (fun _ s₂ => wpAny (model prg w) (A₀.deeper (envOf name scope L a cd)) (setFlight (.ref e) none) (fun _ s₃ =>
        wpAny (model prg w) (A₀.deeper (envOf name scope L a cd)) (handleBy (.ref e) (envOf name scope L a cd) (.ExceptHandler (some (.Name (Str.ofString "StopIteration") np)) none (b₀ :: suite) pos :: rest)) Q E s₃) E s₂) E s' := by
  obtain ⟨oe, vs, he, hec, hed, he1⟩ := hx.there
  obtain ⟨a0, ha0⟩ : ∃ a0, vs[0]? = some a0 := by
    have := (Array.getElem?_eq_some_iff.mp he1).1
    exact ⟨_, Array.getElem?_eq_getElem (Nat.lt_trans Nat.zero_lt_one this)⟩
  obtain ⟨oL, hoL, hdL⟩ : ∃ o, h.get? L = some o ∧ ∀ vs, o.data ≠ .fields vs := by
    obtain ⟨o, es, ep, ho, hd, _⟩ := F.ns
    exact ⟨o, ho, fun vs q => by rw [hd] at q; cases q⟩
  have hne : ∀ x o, h.get? x = some o → x ≠ e := fun x o q q' => by rw [q', hx.new] at q; cases q
  let B := minus s'.heap (e :: L :: frs.map (·.1))
  have hB : ∀ x o, h.get? x = some o → x ≠ L → (∀ q ∈ frs, q.1 ≠ x) → B.get? x = some o := fun x o q1 q2 q3 => by
    show (minus _ _).get? x = _
    rw [minus_get, if_neg]
    · exact hx.keeps _ _ q1
    · intro hm
      rcases List.mem_cons.mp hm with q | hm
      · exact hne x o q1 q
      · rcases List.mem_cons.mp hm with q | hm
        · exact q2 q
        · obtain ⟨q, hq, e'⟩ := List.mem_map.mp hm
          exact q3 q hq e'
  have hBe : B.get? e = none := by show (minus _ _).get? e = _; rw [minus_get, if_pos (List.mem_cons_self ..)]
  have hBL : B.get? L = none := by show (minus _ _).get? L = _; rw [minus_get, if_pos (List.mem_cons_of_mem _ (List.mem_cons_self ..))]
  have hBf : ∀ p ∈ frs, B.get? p.1 = none := fun p hp => by show (minus _ _).get? _ = _; rw [minus_get, if_pos (List.mem_cons_of_mem _ (List.mem_cons_of_mem _ (List.mem_map.mpr ⟨p, hp, rfl⟩)))]
  have hBs : B.StaysIn s'.heap := minus_ext _ _
  have hbB : b.StaysIn B := fun x o q => hB x o (F.keep x o q) (fun q' => by
      have := F.above; exact absurd (Nat.lt_of_lt_of_le (Heap.lt_size q) this) (q' ▸ Nat.lt_irrefl _)) (fun p hp q' => by
      have := (N p (List.mem_append_right _ hp)).2.2; rw [q', q] at this; cases this)
  have hfun : s'.heap.FunFrames B (envOf name scope L a cd :: outer) := ⟨by show scope.kind ≠ _; rw [hk]; decide, ⟨L, oL, rfl, hBL, hx.keeps _ _ hoL, hdL⟩, hF.funFrames fun p hp => ⟨hx.keeps _ _ (N p (List.mem_append_right _ hp)).1, hBf p hp⟩⟩
  have hnote : wpAny (model prg w) (A₀.deeper (envOf name scope L a cd)) (noteFrame (.ref e) (envOf name scope L a cd)) (fun _ s₂ => ∃ h₁, s₂ = { s' with heap := h₁ } ∧ Heap.NotedW B (envOf name scope L a cd :: outer) e (.type "StopIteration") a0 (rawInt L) s'.heap h₁) (fun _ _ => False) s' := by
    unfold noteFrame
    simp only [show (envOf name scope L a cd).frame = some L from rfl]
    refine wpAny_bind (wpAny_field he hed he1 ?_)
    rw [if_neg (by decide)]
    refine wpAny_entryW (Around.frames_deeper hfr) hfun rfl he hBs hBe hed (Array.getElem?_eq_some_iff.mp he1).1 ha0 fun h₁ q => ?_
    rw [hec] at q
    exact ⟨h₁, rfl, q⟩
  refine wpAny_mono hnote (fun _ s₂ q => ?_) fun _ _ q => q.elim
  obtain ⟨h₁, rfl, k1, k2, k3, sm1⟩ := q
  refine wpAny_landsW (s := { s' with heap := h₁ }) ⟨k1, hBe, k2, k3⟩ fun h₂ hfl sm2 => ?_
  have sm2' : h.UpToSlots h₂ := (Heap.UpToSlots.of_keeps hx.keeps).trans (Heap.UpToSlots.trans sm1 sm2)
  have F₂ : Fr b L h₂ m := F.of_stays (fun x o q => hfl.1 _ _ (hbB x o q)) sm2'
  obtain ⟨ob, hob, hobc⟩ := hfl.there
  refine wpAny_handleBy_builtin (X := "StopIteration") (T := "StopIteration") (b := true) si_exc si_notTuple si_self (ld_builtin_at F₂ T.g (T.free _ h1 h2 h3 h4 h4c) T.b ((T.builtins _ (by decide +kernel)).trans PyProof.Rows.Boot.«StopIteration») ⟨rfl, ⟨ob, hob, hobc⟩, ?_⟩ hk hxn (by decide))
  refine lands_againW hfl fun h₃ hfl₃ sm3 => ?_
  have sm : h.UpToSlots h₃ := sm2'.trans sm3
  have F₃ : Fr b L h₃ m := F.of_stays (fun x o q => hfl₃.1 _ _ (hbB x o q)) sm
  obtain ⟨frs', q1, q2⟩ := slt_of (h := h₃) (a := frs) fun p hp => sm _ _ (N p (List.mem_append_right _ hp)).1 (hF.data p hp)
  refine wpAny_passesOwnAt hE (k h₃ frs' F₃ (fun p hp => ?_) q1)
  rcases List.mem_append.mp hp with hp | hp
  · have z := N p (List.mem_append_left _ hp)
    exact ⟨hfl₃.1 _ _ (hB _ _ z.1 z.2.1 fun q hq => Ne.symm (off p hp q hq)), z.2⟩
  · obtain ⟨p', hp', e'⟩ := q1.mem hp
    have z := N p' (List.mem_append_right _ hp')
    exact ⟨q2 p hp, e' ▸ z.2.1, e' ▸ z.2.2⟩
end

noncomputable def ReadF (w : World) (f : Addr) (args : List Value) (n : Nat) (rd : Heap → Prop) (v₀ : Value) : Prop :=
  ∀ (A : Around) (R : Result → Shared → Prop) (s : Shared) (outer : List Env) (frs : List (Addr × Obj)), A.frames = some outer → FrsOf outer frs → Gd w (minus s.heap (frs.map (·.1))) → (∀ p ∈ frs, s.heap.get? p.1 = some p.2) → rd (minus s.heap (frs.map (·.1))) → Rm A n →
    (∀ h' tk' frs', Ext (minus s.heap (frs.map (·.1))) h' → Slt frs frs' → (∀ p ∈ frs', h'.get? p.1 = some p.2) → R (.ok (.ret v₀)) { s with heap := h', toks := tk' }) →
    codeAny (model prg w) A (.call (.ref f) ⟨args, []⟩) R s
noncomputable def MutF (w : World) (f : Addr) (args : List Value) (n : Nat) (led : List (Addr × Obj)) (pre : Prop) (P : Value → List (Addr × Obj) → Prop) : Prop :=
  ∀ (A : Around) (R : Result → Shared → Prop) (s : Shared) (g : Heap) (outer : List Env) (frs : List (Addr × Obj)), A.frames = some outer → FrsOf outer frs → Gd w g → Ext g s.heap → (∀ p ∈ led ++ frs, s.heap.get? p.1 = some p.2 ∧ g.get? p.1 = none) → (∀ p ∈ led, ∀ q ∈ frs, p.1 ≠ q.1) → Rm A n → pre →
    (∀ v h' tk' led' frs', (∀ b o, s.heap.get? b = some o → (∀ p ∈ led ++ frs, p.1 ≠ b) → h'.get? b = some o) → (∀ p ∈ led', h'.get? p.1 = some p.2 ∧ (s.heap.get? p.1 = none ∨ ∃ q ∈ led, q.1 = p.1)) → Slt frs frs' → (∀ p ∈ frs', h'.get? p.1 = some p.2) → P v led' → R (.ok (.ret v)) { s with heap := h', toks := tk' }) →
    codeAny (model prg w) A (.call (.ref f) ⟨args, []⟩) R s
theorem mutF_of {w : World} {f : Addr} {args : List Value} {n : Nat} {led : List (Addr × Obj)} {pre : Prop} {P : Value → List (Addr × Obj) → Prop}
    (h : ∀ (A : Around) (R : Result → Shared → Prop) (s0 : Heap) (gs : Array GenState) (dr : Drawn) (tk0 : Nat) (os : OsState) (b : Heap) (outer : List Env) (frs : List (Addr × Obj)), A.frames = some outer → FrsOf outer frs → Gd w b → Ext b s0 → b.objs.size ≤ s0.objs.size → (∀ p ∈ led ++ frs, s0.get? p.1 = some p.2 ∧ b.get? p.1 = none) → (∀ p ∈ led, ∀ q ∈ frs, p.1 ≠ q.1) → Rm A n → pre →
      (∀ v h' tk' led' frs', Ext b h' → (∀ p ∈ led', h'.get? p.1 = some p.2 ∧ b.get? p.1 = none ∧ ∀ q ∈ frs, p.1 ≠ q.1) → Slt frs frs' → (∀ p ∈ frs', h'.get? p.1 = some p.2) → P v led' → R (.ok (.ret v)) ⟨h', gs, dr, tk', os⟩) →
      codeAny (model prg w) A (.call (.ref f) ⟨args, []⟩) R ⟨s0, gs, dr, tk0, os⟩) : MutF w f args n led pre P := by
  intro A R s g outer frs hfr hF G hg hled off hR hp ret
  refine h A R s.heap s.gens s.drawn s.toks s.os (minus s.heap ((led ++ frs).map (·.1))) outer frs hfr hF (G.keeps fun b o e => ?_) (minus_ext _ _) (Nat.le_of_eq (minus_size _ _)) (fun p hp => ⟨(hled p hp).1, ?_⟩) off hR hp (fun v h' tk' led' frs' e hl sl hf p => ret v h' tk' led' frs' (fun b o eb hb => e b o ?_) (fun p hp => ⟨(hl p hp).1, ?_⟩) sl hf p)
  · rw [minus_get, if_neg]
    · exact hg b o e
    · intro hm
      obtain ⟨p, hp, rfl⟩ := List.mem_map.mp hm
      rw [(hled p hp).2] at e; cases e
  · rw [minus_get, if_pos (List.mem_map.mpr ⟨p, hp, rfl⟩)]
  · rw [minus_get, if_neg, eb]
    intro hm
    obtain ⟨p, hp, rfl⟩ := List.mem_map.mp hm
    exact hb p hp rfl
  · have z := (hl p hp).2
    rw [minus_get] at z
    by_cases hm : p.1 ∈ (led ++ frs).map (·.1)
    · obtain ⟨q, hq, e⟩ := List.mem_map.mp hm
      rcases List.mem_append.mp hq with hq | hq
      · exact .inr ⟨q, hq, e⟩
      · exact absurd e.symm (z.2 q hq)
    · rw [if_neg hm] at z; exact .inl z.1
section
variable {w : World} {A₀ : Around} {Q E : Value → Shared → Prop} {s : Shared} {b : Heap} {L a : Addr} {m mg mb : Str → Option Value} {mean : ExcName → Option Value} {led rest pr frs : List (Addr × Obj)} {f : Addr} {args : List Value} {n : Nat} {pre : Prop} {P : Value → List (Addr × Obj) → Prop} {outer : List Env} {name : Str} {scope : Scope} {cd : Value} {rd : Heap → Prop} {v₀ : Value}
theorem fr_obj {h : Heap} (F : Fr b L h m) : ∃ o, h.get? L = some o ∧ ∀ vs, o.data ≠ .fields vs := by
  obtain ⟨o, es, ep, ho, hd, _⟩ := F.ns
  exact ⟨o, ho, fun vs q => by rw [hd] at q; cases q⟩
theorem fr_slt {h h' : Heap} {oL : Obj} (F : Fr b L h m) (hoL : h.get? L = some oL) {sl : Array (Option Value)} (h1 : h'.get? L = some { oL with slots := sl }) (k : ∀ x o, b.get? x = some o → h'.get? x = some o) : Fr b L h' m := by
  refine ⟨?_, k, F.above⟩
  obtain ⟨o, es, ep, ho, hd, r⟩ := F.ns
  rw [hoL] at ho; cases ho
  exact ⟨_, es, ep, h1, hd, r⟩
theorem use_readF (S : ReadF w f args n rd v₀) (hA : A₀.frames = some outer) (hF : FrsOf outer frs) (F : Fr b L s.heap m) (N : News b L s.heap (pr ++ frs)) (off : ∀ p ∈ pr, ∀ q ∈ frs, p.1 ≠ q.1) (hk : scope.kind = .function) (X : (hd.heap_39 w.params).In b) (T : Top vw lo mean mg mb b)
    (hrd : ∀ g : Heap, Ext b g → (∀ p ∈ pr, g.get? p.1 = some p.2) → rd g) (hR : Rm (A₀.deeper (envOf name scope L a cd)) n)
    (k : ∀ h' tk' frs', Fr b L h' m → News b L h' (pr ++ frs') → Slt frs frs' → Q v₀ { s with heap := h', toks := tk' }) :
    wpAny (model prg w) (A₀.deeper (envOf name scope L a cd)) (call (.ref f) args) Q E s := by
  obtain ⟨oL, hoL, hdL⟩ := fr_obj F
  have hB : ∀ x o, s.heap.get? x = some o → x ≠ L → (∀ q ∈ frs, q.1 ≠ x) → (minus s.heap (((L, oL) :: frs).map (·.1))).get? x = some o := fun x o q1 q2 q3 => by
    rw [minus_get, if_neg]
    · exact q1
    · intro hm
      rcases List.mem_cons.mp hm with q | hm
      · exact q2 q
      · obtain ⟨q, hq, e'⟩ := List.mem_map.mp hm
        exact q3 q hq e'
  have hb : Ext b (minus s.heap (((L, oL) :: frs).map (·.1))) := fun x o q => hB x o (F.keep x o q) (fun q' => by
      have := F.above; exact absurd (Nat.lt_of_lt_of_le (Heap.lt_size q) this) (q' ▸ Nat.lt_irrefl _)) (fun p hp q' => by
      have := (N p (List.mem_append_right _ hp)).2.2; rw [q', q] at this; cases this)
  have hp : ∀ p ∈ pr, (minus s.heap (((L, oL) :: frs).map (·.1))).get? p.1 = some p.2 := fun p hp => by
    have z := N p (List.mem_append_left _ hp)
    exact hB _ _ z.1 z.2.1 fun q hq => Ne.symm (off p hp q hq)
  refine wpAny_call (S _ _ s (envOf name scope L a cd :: outer) ((L, oL) :: frs) (Around.frames_deeper hA) ⟨by show scope.kind ≠ _; rw [hk]; decide, rfl, hdL, hF⟩ (Gd.keeps ⟨X, mean, mg, mb, T⟩ hb) (fun p hp => ?_) (hrd _ hb hp) hR fun h' tk' frs' e sl hf => ?_)
  · rcases List.mem_cons.mp hp with e | hp
    · rw [e]; exact hoL
    · exact (N p (List.mem_append_right _ hp)).1
  · cases frs' with
    | nil => exact sl.elim
    | cons q t =>
      obtain ⟨e1, ⟨sl', e2⟩, sl⟩ := sl
      have hq := hf q (.head _)
      rw [e1, e2] at hq
      refine k h' tk' t (fr_slt F hoL hq fun x o q => e _ _ (hb x o q)) (fun p hp' => ?_) sl
      rcases List.mem_append.mp hp' with hp' | hp'
      · exact ⟨e _ _ (hp p hp'), (N p (List.mem_append_left _ hp')).2⟩
      · obtain ⟨p', hp'', e'⟩ := sl.mem hp'
        have z := N p' (List.mem_append_right _ hp'')
        exact ⟨hf p (.tail _ hp'), e' ▸ z.2.1, e' ▸ z.2.2⟩
theorem use_mutF (S : MutF w f args n led pre P) (hA : A₀.frames = some outer) (hF : FrsOf outer frs) (F : Fr b L s.heap m) (N : News b L s.heap (led ++ rest ++ frs)) (off : ∀ p ∈ rest, ∀ q ∈ led, q.1 ≠ p.1) (off2 : ∀ p ∈ led ++ rest, ∀ q ∈ frs, p.1 ≠ q.1) (hk : scope.kind = .function) (X : (hd.heap_39 w.params).In b) (T : Top vw lo mean mg mb b)
    (hR : Rm (A₀.deeper (envOf name scope L a cd)) n) (hp : pre)
    (k : ∀ v h' tk' led' frs', Fr b L h' m → News b L h' (led' ++ rest ++ frs') → (∀ p ∈ rest, ∀ q ∈ led', q.1 ≠ p.1) → (∀ p ∈ led', ∀ q ∈ frs', p.1 ≠ q.1) → Slt frs frs' → P v led' → Q v { s with heap := h', toks := tk' }) :
    wpAny (model prg w) (A₀.deeper (envOf name scope L a cd)) (call (.ref f) args) Q E s := by
  obtain ⟨oL, hoL, hdL⟩ := fr_obj F
  have Nl : ∀ p ∈ led, _ := fun p hp => N p (List.mem_append_left _ (List.mem_append_left _ hp))
  have Nr : ∀ p ∈ rest, _ := fun p hp => N p (List.mem_append_left _ (List.mem_append_right _ hp))
  have Nf : ∀ p ∈ frs, _ := fun p hp => N p (List.mem_append_right _ hp)
  have bL : b.get? L = none := Heap.get?_none_of_le F.above
  refine wpAny_call (S _ _ s b (envOf name scope L a cd :: outer) ((L, oL) :: frs) (Around.frames_deeper hA) ⟨by show scope.kind ≠ _; rw [hk]; decide, rfl, hdL, hF⟩ ⟨X, mean, mg, mb, T⟩ F.keep (fun p hp => ?_) (fun p hp q hq => ?_) hR hp fun v h' tk' led' frs' keep hl sl hf p => ?_)
  · rcases List.mem_append.mp hp with hp | hp
    · exact ⟨(Nl p hp).1, (Nl p hp).2.2⟩
    · rcases List.mem_cons.mp hp with e | hp
      · rw [e]; exact ⟨hoL, bL⟩
      · exact ⟨(Nf p hp).1, (Nf p hp).2.2⟩
  · rcases List.mem_cons.mp hq with e | hq
    · rw [e]; exact (Nl p hp).2.1
    · exact off2 p (List.mem_append_left _ hp) q hq
  · cases frs' with
    | nil => exact sl.elim
    | cons q t =>
      obtain ⟨e1, ⟨sl', e2⟩, sl⟩ := sl
      have hq := hf q (.head _)
      rw [e1, e2] at hq
      have new : ∀ p ∈ led', ∀ x o, s.heap.get? x = some o → (∀ q ∈ led, q.1 ≠ x) → p.1 ≠ x := fun p hp x o e hb q => by
        rcases (hl p hp).2 with h | ⟨r, hr, h⟩
        · rw [q, e] at h; cases h
        · exact hb r hr (h.trans q)
      have kb : ∀ x o, b.get? x = some o → h'.get? x = some o := fun x o q => keep x o (F.keep x o q) fun p hp q' => by
        rcases List.mem_append.mp hp with hp | hp
        · have := (Nl p hp).2.2; rw [q', q] at this; cases this
        · rcases List.mem_cons.mp hp with e | hp
          · rw [e] at q'; rw [show L = x from q', q] at bL; cases bL
          · have := (Nf p hp).2.2; rw [q', q] at this; cases this
      refine k v h' tk' led' t (fr_slt F hoL hq kb) (fun p hp => ?_) (fun p hp q hq => new q hq p.1 p.2 (Nr p hp).1 (off p hp)) (fun p hp q hq => ?_) sl p
      · rcases List.mem_append.mp hp with hp | hp
        · rcases List.mem_append.mp hp with hp | hp
          · refine ⟨(hl p hp).1, new p hp L oL hoL fun q hq => (Nl q hq).2.1, ?_⟩
            cases q : b.get? p.1 with
            | none => rfl
            | some o => exact absurd rfl (new p hp p.1 o (F.keep _ _ q) fun r hr q' => by have := (Nl r hr).2.2; rw [q', q] at this; cases this)
          · refine ⟨keep _ _ (Nr p hp).1 fun q hq => ?_, (Nr p hp).2⟩
            rcases List.mem_append.mp hq with hq | hq
            · exact off p hp q hq
            · rcases List.mem_cons.mp hq with e | hq
              · rw [e]; exact Ne.symm (Nr p hp).2.1
              · exact Ne.symm (off2 p (List.mem_append_right _ hp) q hq)
        · obtain ⟨p', hp'', e'⟩ := sl.mem hp
          have z := Nf p' hp''
          exact ⟨hf p (.tail _ hp), e' ▸ z.2.1, e' ▸ z.2.2⟩
      · obtain ⟨p', hp'', e'⟩ := sl.mem hq
        exact e' ▸ new p hp p'.1 p'.2 (Nf p' hp'').1 fun r hr => off2 r (List.mem_append_left _ hr) p' hp''
end

noncomputable def iterO (l : Addr) (i : Nat) : Obj := { cls := .type "list_iterator", data := .fields #[.ref l, .int i 0] }
noncomputable def IterOf (o : Obj) (l : Addr) (i : Nat) : Prop := o.cls = .type "list_iterator" ∧ o.data = .fields #[.ref l, .int i 0]
section
variable {prog : Program} {w : World} {A : Around} {E : Value → Shared → Prop} {s : Shared} {h₀ : Heap} {L D l I q : Addr} {m : Str → Option Value} {news : List (Addr × Obj)} {x : Str} {t : Tok} {o : Obj} {kvs : List (Str × Value)} {its : Array Value} {i k : Nat}
theorem in_setL {S : Str → Bool} {bv : Bool} {Q : Value → Shared → Prop} (N : News h₀ L s.heap news) (hm : (D, o) ∈ news) (hs : o.SetObjOf (PySem.strKind prog w) S k) (hb : k ≤ 1000) (hx : S x = bv) (h : Q (.bool bv) { s with toks := s.toks + 1 }) :
    wpAny (model prog w) A (compareOp .In (.str x t) (.ref D)) Q E s := by
  subst hx
  exact wpAny_inSet_of (knd := PySem.strKind prog w) (strKind_is prog w x t) rfl (hs.setOf (N _ hm).1 (by show k < 4096; omega)) h
theorem method_setL {S : Str → Bool} {pl : Sem Bool} {Q : Value × List Value → Shared → Prop} (N : News h₀ L s.heap news) (hm : (D, o) ∈ news) (hs : o.SetObjOf (PySem.strKind prog w) S k) (hb : k ≤ 1000) (h : Q (.builtin "set.add", [.ref D]) s) :
    wpAny (model prog w) A (getMethod (.ref D) (Str.ofString "add") pl) Q E s := getMethod_set_add (hs.setOf (N _ hm).1 (by show k < 4096; omega)) h
theorem add_setL {S : Str → Bool} {u : Obj → List (Addr × Obj)} {Q : Value → Shared → Prop} (F : Fr h₀ L s.heap m) (N : News h₀ L s.heap news) (U : UpdF D o news u) (hs : o.SetObjOf (PySem.strKind prog w) S k) (hb : k ≤ 1000) (hx : S x = false)
    (h : ∀ h' o', Fr h₀ L h' m → News h₀ L h' (u o') → o'.SetObjOf (PySem.strKind prog w) (fun y => S y || decide (y = x)) (k + 1) → Q .none { s with heap := h', toks := s.toks + 1 }) : wpAny (model prog w) A (call (.builtin "set.add") [.ref D, .str x t]) Q E s := by
  obtain ⟨pre, post, rfl, hu, a, b⟩ := U.split
  have z := N (D, o) (List.mem_append.mpr (.inr (.head _)))
  refine call_set_add (knd := PySem.strKind prog w) (strKind_is prog w x t) rfl (hs.setOf z.1 (by show k < 4096; omega)) (by show k + 1 < 4096; omega) fun h' hsb hS => ?_
  rw [hx, if_neg Bool.false_ne_true] at hS
  obtain ⟨o', ho', hs'⟩ := hS.objOf
  exact h h' o' (F.change hsb z.2.1 z.2.2) (by rw [hu]; exact news_set N a b hsb ho') hs'
theorem in_dictL {bv : Bool} {Q : Value → Shared → Prop} (N : News h₀ L s.heap news) (hm : (D, o) ∈ news) (hd : o.IsDictOf (PySem.strKind prog w) kvs) (lo' : (D == sysModules) = false) (hx : (valueAt kvs x).isSome = bv) (h : Q (.bool bv) { s with toks := s.toks + 1 }) :
    wpAny (model prog w) A (compareOp .In (.str x t) (.ref D)) Q E s := by
  subst hx
  exact wpAny_in_of (knd := PySem.strKind prog w) (strKind_is prog w x t) lo' (Heap.dictOf_iff.mpr ⟨o, (N _ hm).1, hd⟩ : s.heap.DictOf (PySem.strKind prog w) D kvs).mapOf h
theorem iter_base {Q : Value → Shared → Prop} (F : Fr h₀ L s.heap m) (N : News h₀ L s.heap news) (hl : h₀.get? l = some (W.listOf its k))
    (h : ∀ I h', Fr h₀ L h' m → News h₀ L h' ((I, iterO l 0) :: news) → (∀ p ∈ news, p.1 < I) → Q (.ref I) { s with heap := h' }) : wpAny (model prog w) A (call (.builtin "iter") [.ref l]) Q E s := by
  refine call_function_entry (by decide +kernel) (by decide +kernel) kdk_entry_iter (kdk_args_iter _) ?_
  unfold Builtin.«iter»
  refine wpAny_bind (m := someArgs "iter" 1 2 _) (wpAny_of_eq (a := [Value.ref l]) (by first | rfl | kernel_rfl!) ?_)
  show wpAny _ _ (pyIter (.ref l) >>= _) _ _ _
  refine wpAny_bind (wpAny_pyIter_list ⟨_, F.keep _ _ hl, rfl, _, rfl⟩ ?_)
  exact wpAny_pure ⟨_, rfl, h _ _ (F.push _) (News.push F N _ rfl) (fun q hq => Heap.lt_size (N q hq).1)⟩
theorem next_attr {bx : Bool} {Q : Value → Shared → Prop} (F : Fr h₀ L s.heap m) (N : News h₀ L s.heap news) (hm : (I, iterO l i) ∈ news)
    (h : ∀ q h', Fr h₀ L h' m → News h₀ L h' ((q, wrapO I) :: news) → (∀ p ∈ news, p.1 < q) → Q (.ref q) { s with heap := h', toks := s.toks + 1 }) : wpAny (model prog w) A (getAttr (.ref I) (Str.ofString "__next__") bx) Q E s :=
  getattr_next (N _ hm).1 (h _ _ (F.push _) (News.push F N _ rfl) (fun q hq => Heap.lt_size (N q hq).1))
theorem next_itemL {y : Value} {u : Obj → List (Addr × Obj)} {Q : Value → Shared → Prop} (F : Fr h₀ L s.heap m) (N : News h₀ L s.heap news) (hw : (q, wrapO I) ∈ news) (U : UpdF I o news u) (hi : IterOf o l i) (hl : h₀.get? l = some (W.listOf its k)) (hx : its[i]? = some y)
    (h : ∀ h' o', Fr h₀ L h' m → News h₀ L h' (u o') → IterOf o' l (i + 1) → Q y { s with heap := h' }) : wpAny (model prog w) A (call (.ref q) []) Q E s := by
  obtain ⟨pre, post, rfl, hu, a, b⟩ := U.split
  have z := N (I, o) (List.mem_append.mpr (.inr (.head _)))
  refine next_item (N _ hw).1 ⟨o, z.1, hi.1, hi.2⟩ ⟨_, F.keep _ _ hl, rfl, _, rfl⟩ hx fun h' hit hs => ?_
  obtain ⟨o', ho', hc, hd⟩ := hit
  exact h h' o' (F.change hs z.2.1 z.2.2) (by rw [hu]; exact news_set N a b hs ho') ⟨hc, hd⟩
theorem next_stopL {u : Obj → List (Addr × Obj)} {Q : Value → Shared → Prop} (hh : A.handled = none) (F : Fr h₀ L s.heap m) (N : News h₀ L s.heap news) (hw : (q, wrapO I) ∈ news) (U : UpdF I o news u) (hi : IterOf o l i) (hl : h₀.get? l = some (W.listOf its k)) (hx : its[i]? = none)
    (hE : ∀ h1 h' e o', Fr h₀ L h1 m → News h₀ L h1 (u o') → Heap.NewExcOf h1 h' e "StopIteration" → E (.ref e) { s with heap := h' }) : wpAny (model prog w) A (call (.ref q) []) Q E s := by
  obtain ⟨pre, post, rfl, hu, a, b⟩ := U.split
  have z := N (I, o) (List.mem_append.mpr (.inr (.head _)))
  refine next_stop hh (N _ hw).1 ⟨o, z.1, hi.1, hi.2⟩ ⟨_, F.keep _ _ hl, rfl, _, rfl⟩ hx fun h1 h' e hs ho' hx => ?_
  obtain ⟨o', ho'⟩ := ho'
  exact hE h1 h' e o' (F.change hs z.2.1 z.2.2) (by rw [hu]; exact news_set N a b hs ho') hx
end
theorem instB {b h : Heap} {L C dx x : Addr} {m : Str → Option Value} {od : Obj} {sl : Array (Option Value)} (F : Fr b L h m) (h1 : b.get? x = some ⟨.ref C, some dx, .plain, sl⟩) (h2 : b.get? dx = some od) :
    InstAt h x ⟨.ref C, some dx, .plain, sl⟩ C (some od) := ⟨F.keep _ _ h1, rfl, rfl, F.keep _ _ h2⟩
theorem off_nil {frs : List (Addr × Obj)} : ∀ p ∈ ([] : List (Addr × Obj)), ∀ q ∈ frs, p.1 ≠ q.1 := fun _ h => nomatch h
theorem off_cons {p : Addr × Obj} {pre frs : List (Addr × Obj)} (h : ∀ q ∈ frs, q.1 ≠ p.1) (t : ∀ p ∈ pre, ∀ q ∈ frs, p.1 ≠ q.1) : ∀ r ∈ p :: pre, ∀ q ∈ frs, r.1 ≠ q.1 := fun r hr q hq => by
  rcases List.mem_cons.mp hr with e | hr
  · rw [e]; exact Ne.symm (h q hq)
  · exact t r hr q hq
noncomputable def TurnL (h₀ : Heap) (L I : Addr) (oI : Obj) (xs : List Str) (m₀ : Str → Option Value) (J : (Str → Option Value) → List (Addr × Obj) → Prop) (s : Shared) (Q : Flow → Shared → Prop) (f : Flow) (s' : Shared) : Prop :=
  match f with
  | .ret v => Q (.ret v) s'
  | .brk => Q .next s'
  | _ => ∃ h' tk' m' nw', s' = { s with heap := h', toks := tk' } ∧ Fr h₀ L h' m' ∧ News h₀ L h' ((I, oI) :: nw') ∧ (∀ p ∈ nw', p.1 ≠ I) ∧ (∀ z, xs.contains z = false → m' z = m₀ z) ∧ J m' nw'
theorem tl_next {h₀ h' : Heap} {L I : Addr} {oI : Obj} {nw' all : List (Addr × Obj)} {xs : List Str} {m₀ m' : Str → Option Value} {s : Shared} {Q : Flow → Shared → Prop} {tk' : Nat} {J : (Str → Option Value) → List (Addr × Obj) → Prop} (F : Fr h₀ L h' m') (N : News h₀ L h' all) (sub : ∀ p ∈ (I, oI) :: nw', p ∈ all) (off : ∀ p ∈ nw', p.1 ≠ I) (ag : ∀ z, xs.contains z = false → m' z = m₀ z) (j : J m' nw') :
    TurnL h₀ L I oI xs m₀ J s Q .next { s with heap := h', toks := tk' } := ⟨h', tk', m', nw', rfl, F, fun p hp => N p (sub p hp), off, ag, j⟩
theorem tl_cont {h₀ h' : Heap} {L I : Addr} {oI : Obj} {nw' all : List (Addr × Obj)} {xs : List Str} {m₀ m' : Str → Option Value} {s : Shared} {Q : Flow → Shared → Prop} {tk' : Nat} {J : (Str → Option Value) → List (Addr × Obj) → Prop} (F : Fr h₀ L h' m') (N : News h₀ L h' all) (sub : ∀ p ∈ (I, oI) :: nw', p ∈ all) (off : ∀ p ∈ nw', p.1 ≠ I) (ag : ∀ z, xs.contains z = false → m' z = m₀ z) (j : J m' nw') :
    TurnL h₀ L I oI xs m₀ J s Q .cont { s with heap := h', toks := tk' } := ⟨h', tk', m', nw', rfl, F, fun p hp => N p (sub p hp), off, ag, j⟩
section
variable {prog : Program} {w : World} {A : Around} {s : Shared} {h₀ : Heap} {env : Env} {Q : Flow → Shared → Prop} {E : Value → Shared → Prop}
  {L : Addr} {x : Str} {px : Pos} {body : List Stmt} {l : Addr} {ol : Obj} {n : Nat} {P : Nat → Value → Prop} {m₀ : Str → Option Value} {rest : List (Addr × Obj)}
theorem for_L (xs : List Str) (J : Nat → (Str → Option Value) → List (Addr × Obj) → Prop)
    (hLe : env.locals = L) (T : Itb prog w A l ol n P) (hx : env.kindOf x = some .local)
    (hp : (env.scope.kind == .class || (env.scope.kind == .module && env.locals != env.globals)) = false)
    (F : Fr h₀ L s.heap m₀) (N : News h₀ L s.heap rest) (hsrc : h₀.get? l = some ol ∨ (l, ol) ∈ rest) (h0 : J 0 m₀ rest) (hJS : ∀ i m nw, J i m nw → h₀.get? l = some ol ∨ (l, ol) ∈ nw)
    (turn : ∀ I i v m₁ nw₁ oI h tk, (∀ p ∈ rest, p.1 < I) → i < n → P i v → J i m₁ nw₁ → (∀ p ∈ nw₁, p.1 ≠ I) → Fr h₀ L h (fun y => if y = x then some v else mid xs m₁ m₀ y) → News h₀ L h ((I, oI) :: nw₁) →
      wpAny (model prog w) A (execs body env) (TurnL h₀ L I oI xs m₀ (J (i + 1)) s Q) (fun _ _ => False) { s with heap := h, toks := tk })
    (done : ∀ m₁ nw h' tk, J n m₁ nw → Fr h₀ L h' (mid xs m₁ m₀) → News h₀ L h' nw → Q .next { s with heap := h', toks := tk }) :
    wpAny (model prog w) A (pyIter (.ref l)) (fun it s₂ => codeAny (model prog w) A (.forLoop (.Name x px) it body [] env) (fun r s' => match r with | .ok f => Q f s' | .error e => cameBackBy (model prog w) A env E e s') s₂) E s := by
  refine for_itb (J := fun i m nw => J i m nw ∧ (∀ z, xs.contains z = false → m z = m₀ z)) hLe T hx hp F N hsrc ⟨h0, fun _ _ => rfl⟩ (fun i m nw h => hJS i m nw h.1) ?_ ?_
  · rintro I i v m₁ nw₁ oI h tk hlt hi hP ⟨hJ, ag⟩ hoff F' N'
    rw [mid_eq ag] at F'
    refine wpAny_mono (turn I i v m₁ nw₁ oI h tk hlt hi hP hJ hoff F' N') (fun f s' h' => ?_) fun _ _ e => e
    cases f with
    | ret v => exact h'
    | brk => exact h'
    | next => obtain ⟨h', tk', m', nw', rfl, F', N', o', ag', hJ'⟩ := h'; exact ⟨h', tk', m', nw', rfl, F', N', o', hJ', ag'⟩
    | cont => obtain ⟨h', tk', m', nw', rfl, F', N', o', ag', hJ'⟩ := h'; exact ⟨h', tk', m', nw', rfl, F', N', o', hJ', ag'⟩
  · rintro m' nw' h' tk ⟨hJ, ag⟩ F' N'
    rw [mid_eq ag] at F'
    exact done m' nw' h' tk hJ F' N'
end
theorem truthy_lst {its : Array Value} {D : Addr} {k : Nat} {bv : Bool} {prog : Program} {w : World} {A : Around} {E : Value → Shared → Prop} {s : Shared} {h₀ : Heap} {L : Addr} {news : List (Addr × Obj)} {Q : Bool → Shared → Prop} (N : News h₀ L s.heap news) (hm : (D, W.listOf its k) ∈ news) (hsz : its.size ≤ 100000) (hb : (!its.isEmpty) = bv) (h : Q bv { s with toks := s.toks + 1 + 1 }) : wpAny (model prog w) A (truthy (.ref D)) Q E s := by
  subst hb
  exact wpAny_truthy_list (News.isList N hm) (by omega) h
theorem keeps_W {M : Model} {q I : Addr} (h : Heap) (X : h.get? q = some (wrapO I)) : ∃ k, (k = Keeper.frame ∨ k = Keeper.machine ∨ k = Keeper.boundFrame) ∧ Looks M h (keeperOf (.ref q)) k :=
  ⟨.machine, .inr (.inl rfl), (Looks.ld (part := none) X).andThen (Looks.of_pure (by kernel_rfl))⟩
theorem callWith_W {M : Model} {A : Around} {E : Value → Shared → Prop} {s : Shared} {env : Env} {pos : Pos} {q I : Addr} {first : List Value} {Q : Value → Shared → Prop} (X : s.heap.get? q = some (wrapO I)) (h : wpAny M A (call (.ref q) (first ++ [])) Q E s) : wpAny M A (callWith pos (.ref q) first (backTo pos (starEach [] env)) []) Q E s :=
  callWith_of rfl keeps_W (evalArgs_nil3 ⟨X, h⟩)
theorem one_at (q : Str) (v : Value) : valueAt (stored [] q v) q = some v := by simp [stored, valueAt]
theorem one_off {q r : Str} (v : Value) (h : r ≠ q) : (valueAt (stored [] q v) r).isSome = false := by simp [stored, valueAt, Ne.symm h]
theorem one_without (q : Str) (v : Value) : without (stored [] q v) q = [] := by simp [stored, without]
theorem passes_false {M : Model} {A : Around} {env : Env} : PassesOwn M A env (fun _ _ => False) := fun _ _ h => h.elim
theorem passesAt_false {M : Model} {A' A : Around} {env : Env} : PassesOwnAt M A' A env (fun _ _ => False) := fun _ _ h => h.elim

section
variable {M : Model} {A : Around} {E : Value → Shared → Prop} {s : Shared} {env : Env}
theorem methodStar {o e : PySem.Expr} {name : Str} {apos pos ep : Pos} {Q : Value → Shared → Prop}
    (h : wpAny M A (eval o env) (fun ov s₁ => wpAny M A (getAttr ov name true) (fun f s₂ => wpAny M A (callWith pos f [] (backTo pos (starEach [.Starred e ep] env)) []) Q E s₂) E s₁) E s)
    (he : eval (.Call (.Attribute o name apos) [.Starred e ep] [] pos) env = (do
      let ov ← eval o env
      standAt apos.atName
      let (f, first) ← holding [ov] (do pure (← getAttr ov name true, []))
      callWith pos f first (backTo pos (starEach [.Starred e ep] env)) []) := by rfl) :
    wpAny M A (eval (.Call (.Attribute o name apos) [.Starred e ep] [] pos) env) Q E s := by
  rw [he]
  exact wpAny_bind (wpAny_mono h (fun ov s₁ h₁ => wpAny_bind (wpAny_standAt (wpAny_bind (wpAny_holding (wpAny_bind (wpAny_mono h₁ (fun f s₂ h₂ => wpAny_pure h₂) fun _ _ x => x)))))) fun _ _ x => x)
theorem callWith_SM {K : Frag} {pos p : Pos} {first : List Value} {Q : Value → Shared → Prop} {q g : Addr} {self : Value} {e : PySem.Expr} (hf : fnIn K g = true)
    (h : wpAny M A (eval e env) (fun v s₁ => StarOf M A E v (fun vs s₂ => MethP K q g self s₂.heap ∧ wpAny M A (call (.ref q) (first ++ vs)) Q E s₂) s₁) E s)
    (he : starEach [.Starred e p] env = [(true, eval e env)] := by rfl) :
    wpAny M A (callWith pos (.ref q) first (backTo pos (starEach [.Starred e p] env)) []) Q E s := by
  rw [he]
  exact ks_call rfl (keeps_M hf) (ks_lone h)
theorem boundC {prog : Program} {w : World} {b f : Addr} {x : Value} {a : Args} {R : Result → Shared → Prop} {s : Shared} (hb : s.heap.get? b = some (methodObj (.ref f) x))
    (hq : codeAny (model prog w) A (.call (.ref f) { a with pos := x :: a.pos }) R s) : codeAny (model prog w) A (.call (.ref b) a) R s := by
  refine codeAny_of_tree ?_
  show wpAny _ A.in1 (callAny (.ref b) a) _ _ _
  unfold callAny
  refine wpAny_bind (wpAny_load hb ?_)
  exact wpAny_pure ⟨rfl, hq⟩
end

section
example : True := by w_top off; trivial
structure Nd where
  x : Nat
  dx : Nat
  l : Nat
  q : Str
  t : Tok
  n : Int
  t' : Tok
  acc : List (Str × Tok)
  k : Nat
noncomputable def Nd.led (a : Nd) : List (Addr × Obj) := [(a.x, infO a.dx a.l a.q a.t a.n a.t'), (a.dx, dictOf [] 0), (a.l, W.listOf (strValues a.acc).toArray a.k)]
noncomputable def ndKvs (ns : List Nd) : List (Str × Value) := ns.map fun a => (a.q, .ref a.x)
noncomputable def SrtIn (w : World) (x dx d : Nat) (oS oD : Obj) (ns : List Nd) (g : Heap) : Prop :=
  g.get? x = some (instObj 252 dx) ∧ g.get? dx = some oS ∧ g.get? d = some oD ∧ ∀ a ∈ ns, ∀ p ∈ a.led, g.get? p.1 = some p.2
theorem nd_at {ns : List Nd} (hn : (ns.map (·.q)).Nodup) {i : Nat} {a : Nd} (ha : ns[i]? = some a) : valueAt (ndKvs ns) a.q = some (.ref a.x) := by
  have ham : a ∈ ns := List.mem_of_getElem? ha
  clear ha
  unfold valueAt ndKvs
  induction ns with
  | nil => cases ham
  | cons b r ih =>
    rw [List.map_cons, List.find?_cons]
    by_cases h : b.q = a.q
    · rcases List.mem_cons.mp ham with e | hm
      · subst e; simp
      · rw [List.map_cons, List.nodup_cons] at hn
        exact absurd (List.mem_map.mpr ⟨a, hm, h.symm⟩) hn.1
    · rcases List.mem_cons.mp ham with e | hm
      · subst e; exact absurd rfl h
      · rw [List.map_cons, List.nodup_cons] at hn
        simp only [h, decide_false]
        exact ih hn.2 hm
theorem nd_new {ns : List Nd} (hn : (ns.map (·.q)).Nodup) {i : Nat} {a : Nd} (ha : ns[i]? = some a) : ((ns.take i).map (·.q)).contains a.q = false := by
  rw [Bool.eq_false_iff]
  intro h
  obtain ⟨b, hb, e⟩ := List.mem_map.mp (List.contains_iff_mem.mp h)
  obtain ⟨j, hj⟩ := List.getElem?_of_mem hb
  have hlt : j < i := by
    have h1 := (List.getElem?_eq_some_iff.mp hj).1
    rw [List.length_take] at h1
    exact Nat.lt_of_lt_of_le h1 (Nat.min_le_left _ _)
  rw [List.getElem?_take_of_lt hlt] at hj
  have h1 : (ns.map (·.q))[j]? = some a.q := by rw [List.getElem?_map, hj, ← e]; rfl
  have h2 : (ns.map (·.q))[i]? = some a.q := by rw [List.getElem?_map, ha]; rfl
  have hli : i < (ns.map (·.q)).length := (List.getElem?_eq_some_iff.mp h2).1
  have := (List.getElem?_inj (Nat.lt_trans hlt hli) hn).mp (h1.trans h2.symm)
  omega
theorem set_next {ns : List Nd} {i : Nat} {a : Nd} (ha : ns[i]? = some a) : (fun y => ((ns.take i).map (·.q)).contains y || decide (y = a.q)) = fun y => ((ns.take (i + 1)).map (·.q)).contains y := by
  funext y
  rw [List.take_add_one, ha, List.map_append]
  by_cases h : y = a.q <;> simp [List.contains_eq_any_beq, h]
local macro_rules | `(tactic| k_inst) => `(tactic| (refine instB (by k_asm) (by assumption) (by assumption)))
theorem off4 {a b c d I : Nat} {o1 o2 o3 o4 : Obj} {f g : List (Addr × Obj)} (h : a < I ∧ b < I ∧ c < I ∧ d < I ∧ AllLt I g) (u : ∀ p ∈ f, p.1 ≠ I) : ∀ p ∈ (a, o1) :: (b, o2) :: (c, o3) :: (d, o4) :: f, p.1 ≠ I :=
  List.forall_mem_cons.mpr ⟨Nat.ne_of_lt h.1, List.forall_mem_cons.mpr ⟨Nat.ne_of_lt h.2.1, List.forall_mem_cons.mpr ⟨Nat.ne_of_lt h.2.2.1, List.forall_mem_cons.mpr ⟨Nat.ne_of_lt h.2.2.2.1, u⟩⟩⟩⟩
theorem cycle_spec {w : World} {x dx d n : Nat} {K : Sk} {r : Value} {p f : Int} {od : Obj} {ns : List Nd} (hD : Obj.IsDictOf (PySem.strKind prg w) od (ndKvs ns)) (lo' : (d == sysModules) = false) (hn : (ns.map (·.q)).Nodup) (hlen : ns.length ≤ 1000)
    (hsucc : ∀ i a, ns[i]? = some a → a.acc = [] ∨ ∃ q t, a.acc = [(q, t)] ∧ q ∈ (ns.take i).map (·.q)) :
    ReadF w 242 [.ref x] 1 (SrtIn w x dx d (srtD w K d r p f n) od ns) .none := by
  intro A R ⟨s0, gs, dr, tk0, ost⟩ outer frs hA hF G hfs hrd hR ret
  dsimp only at G hfs hrd ret
  obtain ⟨hd, dp, fr, gd, un⟩ := A; obtain rfl : hd = none := hR.hh
  have G' := G; obtain ⟨X, mean, mg, mb, T⟩ := G
  obtain ⟨r1, r2, r3, r4⟩ := hrd
  have hmf : ∀ p ∈ frs, (minus s0 (frs.map (·.1))).get? p.1 = none := fun p hp => by rw [minus_get, if_pos (List.mem_map.mpr ⟨p, hp, rfl⟩)]
  have hsz : (minus s0 (frs.map (·.1))).objs.size ≤ s0.objs.size := Nat.le_of_eq (minus_size _ _)
  refine enterM (led := frs) G' (minus_ext _ _) hsz (fun p hp => ⟨hfs p hp, hmf p hp⟩) (hR.le (by decide)) (by k_is) (by k_is) (BindsTo.of_eq (binds := [(Str.ofString "self", .ref x)]) rfl) (locs rfl) rfl rfl rfl (by decide) ?_
  generalize minus s0 (frs.map (·.1)) = b at *
  intro L h₁ F N hlt _ _ A1
  k_fold
  clear G' hmf hsz
  (repeat' (first | ((with_reducible show wpAny _ _ _ _ _ (Shared.mk _ (Shared.gens _) _ _ _)); (with_reducible first | refine fl_c ?_ rfl | refine fl_a (by assumption) ?_ rfl | refine fl_b (by assumption) ?_ rfl); (fail_if_success (with_reducible show wpAny _ _ _ _ _ (Shared.mk _ (Shared.gens _) _ _ _)))) | ((with_reducible show wpAny _ _ _ _ _ (Shared.mk _ _ _ (_ + _ + _ + _) _)); (with_reducible refine tk_gen ?_); intro tk_m) | ((with_reducible show wpAny _ _ (exec (Stmt.For (Expr.Name _ _) (Expr.Name _ _) (_ :: _) [] _) _) _ _ _); (k_here; k_dflt (refine wpAny_For ?_))) | ((with_reducible show wpAny _ _ (eval (Expr.Constant _ _ _) _) _ _ _); with_reducible first | refine cint ?_ | refine cstr ?_) | ((with_reducible show wpAny _ _ (eval (Expr.Name _ _) _) _ _ _); k_here; k_dflt (refine' nameX_L (hd := ?d) ?F ?v ?_ ?a ?b; (case F => k_asm); (case a => rfl); (case b => rfl); (case v => rfl); (case d => rfl); k_whole)) | ((with_reducible show wpAny _ _ (storeName _ _ _) _ _ _); k_here; k_dflt (refine' storeX_M ?F ?N ?_ ?a ?b; (case F => k_asm); (case N => k_asm); (case a => rfl); (case b => rfl); k_whole; intro h_m m_m F_m N_m; (try k_sweep))) | (k_unfold; (try dsimp only)) | (k_end; kc_close) | walk1 | (dsimp only; walk1) | (leave1; (try dsimp only)) | fail "no step"))
  (with_reducible rename Fr _ _ _ _ => kF); (with_reducible rename News _ _ _ _ => kN)
  (with_reducible rename Obj.SetObjOf (PySem.strKind _ _) _ _ _ => hS0); (with_reducible rename _ ∧ _ ∧ _ ∧ AllLt _ _ => q4); (with_reducible rename _ ∧ _ ∧ AllLt _ _ => q3); (with_reducible rename _ ∧ AllLt _ _ => q2); (with_reducible rename ∀ p ∈ frs, p.1 < _ => q1)
  have f1 := below_off q1
  have f2 := below_off (lt_of_all q2.2)
  have f3 := below_off (lt_of_all q3.2.2)
  have f4 := below_off (lt_of_all q4.2.2.2)
  refine cap4 kN ?_
  intro nd se its st h1 h2 h3 h4
  subst h1 h2 h3 h4
  refine' for_L (L := L) [Str.ofString "node"] (fun i m nw => ∃ k1 k2 so od' frs₁, nw = (nd, od') :: (se, so) :: (its, W.listOf #[] k2) :: (st, W.listOf (strValues []).toArray k1) :: frs₁ ∧ Slt frs frs₁ ∧ so.SetObjOf (PySem.strKind prg w) (fun y => ((ns.take i).map (·.q)).contains y) i ∧ od'.IsDictOf (PySem.strKind prg w) []) rfl (Itb.keys rfl lo' hD) rfl rfl kF kN (.inl r3) ?h0 ?hJS ?turn ?done
  case h0 => exact ⟨0, 0, _, _, frs, rfl, Slt.refl _, hS0, by assumption⟩
  case hJS => exact fun _ _ _ _ => .inl r3
  case turn =>
    intro I i v m₁ nw₁ oI h tk hlt3 hi hP hJ hoff kF kN
    k_fold
    obtain ⟨k1, k2, so, od', frs₁, rfl, hsl, hS, hD'⟩ := hJ
    obtain ⟨q, x0, tv, hq, rfl⟩ := hP
    obtain ⟨a, ha, hqa⟩ : ∃ a, ns[i]? = some a ∧ (a.q, Value.ref a.x) = (q, x0) := by
      unfold ndKvs at hq
      rw [List.getElem?_map] at hq
      obtain ⟨a, h1, h2⟩ := Option.map_eq_some_iff.mp hq
      exact ⟨a, h1, h2⟩
    cases hqa
    have ham : a ∈ ns := List.mem_of_getElem? ha
    have hi12 : i ≤ 999 := by
      have := (List.getElem?_eq_some_iff.mp ha).1
      omega
    have hS1 := nd_new hn ha
    have hv := nd_at hn ha
    have g1 := r4 a ham (a.x, _) (.head _)
    have g2 := r4 a ham (a.dx, _) (.tail _ (.head _))
    have g3 := r4 a ham (a.l, _) (.tail _ (.tail _ (.head _)))
    dsimp only at g1 g2 g3
    have e1 := hsl.ne f1
    have e2 := hsl.ne f2
    have e3 := hsl.ne f3
    have e4 := hsl.ne f4
    have e5 : ∀ p ∈ frs₁, p.1 ≠ I := fun p hp => hoff p (.tail _ (.tail _ (.tail _ (.tail _ hp))))
    k_lt hlt3
    (repeat' (first | ((with_reducible show wpAny _ _ _ _ _ (Shared.mk _ (Shared.gens _) _ _ _)); (with_reducible first | refine fl_c ?_ rfl | refine fl_a (by assumption) ?_ rfl | refine fl_b (by assumption) ?_ rfl); (fail_if_success (with_reducible show wpAny _ _ _ _ _ (Shared.mk _ (Shared.gens _) _ _ _)))) | ((with_reducible show wpAny _ _ _ _ _ (Shared.mk _ _ _ (_ + _ + _ + _) _)); (with_reducible refine tk_gen ?_); intro tk_m) | ((with_reducible show WhlRest _ _ _ _ _ _ _ _ _ _ _); (k_dflt (refine' whl_turn ?hE ?_; (case hE => exact passes_false)); (try k_sweep))) | ((with_reducible show wpAny _ _ (callWith _ (Value.ref _) _ _ _) _ _ _); (k_here; (refine callWith_W (News.get (by k_asm) (by k_mem)) ?_); dsimp only [List.nil_append])) | ((with_reducible show wpAny _ _ (truthy (Value.ref _)) _ _ _); (k_here; (refine' truthy_lst ?N ?hm ?hz ?hb ?_; (case N => k_asm); (case hm => k_mem); (case hz => exact Nat.le_of_ble_eq_true rfl); (case hb => first | exact (rfl : _ = true) | exact (rfl : _ = false))))) | ((with_reducible show wpAny _ _ (exec (Stmt.While _ _ _ _) _) _ _ _); (k_here; k_dflt (refine whl_start 3 ?_))) | (k_here; (with_reducible show wpAny _ _ (subscriptTail _ _ (Value.ref _) (Value.str _ _)) _ _ _); k_dflt (refine dget (Fr.keep (by k_asm) _ _ (by assumption)) (by assumption) (by assumption) ?_ ?_; rotate_left; with_unfolding_all rfl)) | (k_here; (with_reducible show wpAny _ _ (getAttr (Value.ref _) (Str.ofString "__next__") _) _ _ _); k_dflt (refine next_attr (by k_asm) (by k_asm) (by k_mem) ?_); intro q_m h_m F_m N_m l1_m; (have ne2_m := below_off (fun p_m hp_m => l1_m p_m (.tail _ (.tail _ (.tail _ (.tail _ (.tail _ (.tail _ hp_m)))))))); (k_lt l1_m); (try k_sweep)) | ((with_reducible show wpAny _ _ (call (Value.builtin "iter") _ _) _ _ _); (k_here; k_dflt (refine iter_base (by k_asm) (by k_asm) (by assumption) ?_); intro I_m h_m F_m N_m l1_m; (have ne1_m := below_off (fun p_m hp_m => l1_m p_m (.tail _ (.tail _ (.tail _ (.tail _ (.tail _ hp_m))))))); (k_lt l1_m); (try k_sweep))) | ((with_reducible show wpAny _ _ (call (Value.builtin "set.add") _ _) _ _ _); (k_here; k_dflt (refine add_setL (by k_asm) (by k_asm) (by k_updF) (by assumption) (by omega) (by assumption) ?_); intro h_m o_m F_m N_m hS_m; (try k_sweep))) | (k_here; (with_reducible show wpAny _ _ (getMethod (Value.ref _) (Str.ofString "add") _) _ _ _); k_dflt (refine method_setL (by k_asm) (by k_mem) (by assumption) (by omega) ?_)) | ((with_reducible show wpAny _ _ (compareOp CmpOp.In (Value.str _ _) (Value.ref _)) _ _ _); (k_here; k_dflt (first | refine in_setL (by k_asm) (by k_mem) (by assumption) (by omega) (by assumption) ?_ | refine in_dictL (by k_asm) (by k_mem) (by assumption) (by assumption) (by assumption) ?_))) | (k_here; (with_reducible show wpAny _ _ (call (Value.builtin "list.append") [Value.ref _, Value.str _ _]) _ _ _); k_dflt (refine' append_strs ?k1 ?k2 ?k3 ?z ?_; (case k1 => k_asm); (case k2 => k_asm); (case k3 => k_upd); (case z => first | assumption | omega | (simp only [List.length_append, List.length_singleton, List.length_nil, List.length_cons]; omega)); k_whole); intro h_m F_m N_m; (try k_sweep)) | ((with_reducible show wpAny _ _ (eval (Expr.Constant _ _ _) _) _ _ _); with_reducible first | refine cint ?_ | refine cstr ?_) | ((with_reducible show wpAny _ _ (eval (Expr.Name _ _) _) _ _ _); k_here; k_dflt (refine' nameX_L (hd := ?d) ?F ?v ?_ ?a ?b; (case F => k_asm); (case a => rfl); (case b => rfl); (case v => rfl); (case d => rfl); k_whole)) | ((with_reducible show wpAny _ _ (storeName _ _ _) _ _ _); k_here; k_dflt (refine' storeX_M ?F ?N ?_ ?a ?b; (case F => k_asm); (case N => k_asm); (case a => rfl); (case b => rfl); k_whole; intro h_m m_m F_m N_m; (try k_sweep))) | (k_unfold; (try dsimp only)) | (k_end; kc_close) | walk1 | (dsimp only; walk1) | (leave1; (try dsimp only)) | fail "no step"))
    (with_reducible rename Fr _ _ _ _ => kF2); (with_reducible rename News _ _ _ _ => kN2)
    refine cap2 kN2 ?_
    intro mw it h1 h2
    subst h1 h2
    have e7 : ∀ p ∈ frs₁, p.1 ≠ it := by assumption
    have e8 : ∀ p ∈ frs₁, p.1 ≠ mw := by assumption
    rcases hsucc i a ha with hacc | ⟨pq, pt, hacc, hin⟩
    · rw [hacc] at g3
      refine next_stopL (i := 0) rfl kF2 kN2 (by k_mem) (by k_updF) ⟨rfl, rfl⟩ g3 rfl ?_
      intro g1' g2' e o' F1 N1 hx
      clear kF2 kN2
      refine caught_here (frs := frs₁) (pre := [_, _, _, _, _, _, _]) hA (hF.slt hsl) F1 N1 (off_cons e8 (off_cons e7 (off_cons e5 (off_cons e4 (off_cons e3 (off_cons e2 (off_cons e1 off_nil))))))) hx T ?_ (hE := passesAt_false)
      intro h' frs₂ F' N' sl
      clear F1 N1
      have u1 := sl.ne e1
      have u2 := sl.ne e2
      have u4 := sl.ne e4
      (repeat' (first | ((with_reducible show wpAny _ _ _ _ _ (Shared.mk _ (Shared.gens _) _ _ _)); (with_reducible first | refine fl_c ?_ rfl | refine fl_a (by assumption) ?_ rfl | refine fl_b (by assumption) ?_ rfl); (fail_if_success (with_reducible show wpAny _ _ _ _ _ (Shared.mk _ (Shared.gens _) _ _ _)))) | ((with_reducible show wpAny _ _ _ _ _ (Shared.mk _ _ _ (_ + _ + _ + _) _)); (with_reducible refine tk_gen ?_); intro tk_m) | ((with_reducible show wpAny _ _ (eval (Expr.Constant _ _ _) _) _ _ _); with_reducible first | refine cint ?_ | refine cstr ?_) | ((with_reducible show wpAny _ _ (eval (Expr.Name _ _) _) _ _ _); k_here; k_dflt (refine' nameX_L (hd := ?d) ?F ?v ?_ ?a ?b; (case F => k_asm); (case a => rfl); (case b => rfl); (case v => rfl); (case d => rfl); k_whole)) | ((with_reducible show wpAny _ _ (storeName _ _ _) _ _ _); k_here; k_dflt (refine' storeX_M ?F ?N ?_ ?a ?b; (case F => k_asm); (case N => k_asm); (case a => rfl); (case b => rfl); k_whole; intro h_m m_m F_m N_m; (try k_sweep))) | (k_unfold; (try dsimp only)) | (k_end; kc_close) | walk1 | (dsimp only; walk1) | (leave1; (try dsimp only)) | fail "no step"))
      (with_reducible rename Obj.IsDictOf (PySem.strKind _ _) _ (stored _ _ _) => hD2)
      dsimp only
      refine kob_del (knd := PySem.strKind prg _) (by k_asm) (by k_asm) (by k_updF) hD2 (strKind_is _ _ _ _) (by rw [one_at]; rfl) (by rw [sizeLine_eq]; exact Nat.le_of_ble_eq_true rfl) ?_
      intro h' o' F' N' hD3
      rw [one_without] at hD3
      (repeat' (first | ((with_reducible show wpAny _ _ _ _ _ (Shared.mk _ (Shared.gens _) _ _ _)); (with_reducible first | refine fl_c ?_ rfl | refine fl_a (by assumption) ?_ rfl | refine fl_b (by assumption) ?_ rfl); (fail_if_success (with_reducible show wpAny _ _ _ _ _ (Shared.mk _ (Shared.gens _) _ _ _)))) | ((with_reducible show wpAny _ _ _ _ _ (Shared.mk _ _ _ (_ + _ + _ + _) _)); (with_reducible refine tk_gen ?_); intro tk_m) | ((with_reducible show WhlRest _ _ _ _ _ _ _ _ _ _ _); (k_dflt (refine' whl_turn ?hE ?_; (case hE => exact passes_false)); (try k_sweep))) | ((with_reducible show wpAny _ _ (truthy (Value.ref _)) _ _ _); (k_here; (refine' truthy_lst ?N ?hm ?hz ?hb ?_; (case N => k_asm); (case hm => k_mem); (case hz => exact Nat.le_of_ble_eq_true rfl); (case hb => first | exact (rfl : _ = true) | exact (rfl : _ = false))))) | ((with_reducible show wpAny _ _ (eval (Expr.Constant _ _ _) _) _ _ _); with_reducible first | refine cint ?_ | refine cstr ?_) | ((with_reducible show wpAny _ _ (eval (Expr.Name _ _) _) _ _ _); k_here; k_dflt (refine' nameX_L (hd := ?d) ?F ?v ?_ ?a ?b; (case F => k_asm); (case a => rfl); (case b => rfl); (case v => rfl); (case d => rfl); k_whole)) | ((with_reducible show wpAny _ _ (storeName _ _ _) _ _ _); k_here; k_dflt (refine' storeX_M ?F ?N ?_ ?a ?b; (case F => k_asm); (case N => k_asm); (case a => rfl); (case b => rfl); k_whole; intro h_m m_m F_m N_m; (try k_sweep))) | (k_unfold; (try dsimp only)) | (k_end; kc_close) | walk1 | (dsimp only; walk1) | (leave1; (try dsimp only)) | fail "no step"))
      (with_reducible rename Fr _ _ _ _ => kF3); (with_reducible rename News _ _ _ _ => kN3); (with_reducible rename Obj.SetObjOf (PySem.strKind _ _) _ (fun y => _ || _) _ => hS3)
      have u5 := sl.ne e5
      rw [set_next ha] at hS3
      refine tl_next kF3 kN3 (fun p hp => .tail _ (.tail _ hp)) (off4 hlt3 u5) ?_ ⟨_, _, _, _, frs₂, rfl, hsl.trans sl, hS3, hD3⟩
      intro z hz; (repeat refine out_st (contains_ne hz (by rfl)) ?_); simp only [mid, hz]; rfl
    · rw [hacc] at g3
      have hne : pq ≠ a.q := by
        rintro rfl
        rw [List.contains_iff_mem.mpr hin] at hS1; cases hS1
      have hS2 : (((ns.take i).map (·.q)).contains pq || decide (pq = a.q)) = true := by rw [List.contains_iff_mem.mpr hin]; rfl
      (with_reducible rename Obj.IsDictOf (PySem.strKind _ _) _ (stored _ _ _) => hD2)
      generalize hv0 : Value.int 0 _ = v0 at hD2
      have hno := one_off v0 hne
      clear hv0
      refine next_itemL (i := 0) (y := .str pq pt) kF2 kN2 (by k_mem) (by k_updF) ⟨rfl, rfl⟩ g3 rfl ?_
      intro g1' o' kF3 kN3 hit
      clear kF2 kN2
      (repeat' (first | ((with_reducible show wpAny _ _ _ _ _ (Shared.mk _ (Shared.gens _) _ _ _)); (with_reducible first | refine fl_c ?_ rfl | refine fl_a (by assumption) ?_ rfl | refine fl_b (by assumption) ?_ rfl); (fail_if_success (with_reducible show wpAny _ _ _ _ _ (Shared.mk _ (Shared.gens _) _ _ _)))) | ((with_reducible show wpAny _ _ _ _ _ (Shared.mk _ _ _ (_ + _ + _ + _) _)); (with_reducible refine tk_gen ?_); intro tk_m) | ((with_reducible show WhlRest _ _ _ _ _ _ _ _ _ _ _); (k_dflt (refine' whl_turn ?hE ?_; (case hE => exact passes_false)); (try k_sweep))) | ((with_reducible show wpAny _ _ (callWith _ (Value.ref _) _ _ _) _ _ _); (k_here; (refine callWith_W (News.get (by k_asm) (by k_mem)) ?_); dsimp only [List.nil_append])) | ((with_reducible show wpAny _ _ (truthy (Value.ref _)) _ _ _); (k_here; (refine' truthy_lst ?N ?hm ?hz ?hb ?_; (case N => k_asm); (case hm => k_mem); (case hz => exact Nat.le_of_ble_eq_true rfl); (case hb => first | exact (rfl : _ = true) | exact (rfl : _ = false))))) | ((with_reducible show wpAny _ _ (exec (Stmt.While _ _ _ _) _) _ _ _); (k_here; k_dflt (refine whl_start 3 ?_))) | ((with_reducible show wpAny _ _ (compareOp CmpOp.In (Value.str _ _) (Value.ref _)) _ _ _); (k_here; k_dflt (first | refine in_setL (by k_asm) (by k_mem) (by assumption) (by omega) (by assumption) ?_ | refine in_dictL (by k_asm) (by k_mem) (by assumption) (by assumption) (by assumption) ?_))) | ((with_reducible show wpAny _ _ (eval (Expr.Constant _ _ _) _) _ _ _); with_reducible first | refine cint ?_ | refine cstr ?_) | ((with_reducible show wpAny _ _ (eval (Expr.Name _ _) _) _ _ _); k_here; k_dflt (refine' nameX_L (hd := ?d) ?F ?v ?_ ?a ?b; (case F => k_asm); (case a => rfl); (case b => rfl); (case v => rfl); (case d => rfl); k_whole)) | ((with_reducible show wpAny _ _ (storeName _ _ _) _ _ _); k_here; k_dflt (refine' storeX_M ?F ?N ?_ ?a ?b; (case F => k_asm); (case N => k_asm); (case a => rfl); (case b => rfl); k_whole; intro h_m m_m F_m N_m; (try k_sweep))) | (k_unfold; (try dsimp only)) | (k_end; kc_close) | walk1 | (dsimp only; walk1) | (leave1; (try dsimp only)) | fail "no step"))
      (with_reducible rename Fr _ _ _ _ => kF4); (with_reducible rename News _ _ _ _ => kN4)
      refine next_stopL (i := 1) rfl kF4 kN4 (by k_mem) (by k_updF) hit g3 rfl ?_
      intro g1'' g2'' e o'' F1 N1 hx
      clear kF4 kN4
      refine caught_here (frs := frs₁) (pre := [_, _, _, _, _, _, _]) hA (hF.slt hsl) F1 N1 (off_cons e8 (off_cons e7 (off_cons e5 (off_cons e4 (off_cons e3 (off_cons e2 (off_cons e1 off_nil))))))) hx T ?_ (hE := passesAt_false)
      intro h' frs₂ F' N' sl
      clear F1 N1
      have u1 := sl.ne e1
      have u2 := sl.ne e2
      have u4 := sl.ne e4
      (repeat' (first | ((with_reducible show wpAny _ _ _ _ _ (Shared.mk _ (Shared.gens _) _ _ _)); (with_reducible first | refine fl_c ?_ rfl | refine fl_a (by assumption) ?_ rfl | refine fl_b (by assumption) ?_ rfl); (fail_if_success (with_reducible show wpAny _ _ _ _ _ (Shared.mk _ (Shared.gens _) _ _ _)))) | ((with_reducible show wpAny _ _ _ _ _ (Shared.mk _ _ _ (_ + _ + _ + _) _)); (with_reducible refine tk_gen ?_); intro tk_m) | ((with_reducible show wpAny _ _ (eval (Expr.Constant _ _ _) _) _ _ _); with_reducible first | refine cint ?_ | refine cstr ?_) | ((with_reducible show wpAny _ _ (eval (Expr.Name _ _) _) _ _ _); k_here; k_dflt (refine' nameX_L (hd := ?d) ?F ?v ?_ ?a ?b; (case F => k_asm); (case a => rfl); (case b => rfl); (case v => rfl); (case d => rfl); k_whole)) | ((with_reducible show wpAny _ _ (storeName _ _ _) _ _ _); k_here; k_dflt (refine' storeX_M ?F ?N ?_ ?a ?b; (case F => k_asm); (case N => k_asm); (case a => rfl); (case b => rfl); k_whole; intro h_m m_m F_m N_m; (try k_sweep))) | (k_unfold; (try dsimp only)) | (k_end; kc_close) | walk1 | (dsimp only; walk1) | (leave1; (try dsimp only)) | fail "no step"))
      dsimp only
      refine kob_del (knd := PySem.strKind prg _) (by k_asm) (by k_asm) (by k_updF) hD2 (strKind_is _ _ _ _) (by rw [one_at]; rfl) (by rw [sizeLine_eq]; exact Nat.le_of_ble_eq_true rfl) ?_
      intro h' o' F' N' hD3
      rw [one_without] at hD3
      (repeat' (first | ((with_reducible show wpAny _ _ _ _ _ (Shared.mk _ (Shared.gens _) _ _ _)); (with_reducible first | refine fl_c ?_ rfl | refine fl_a (by assumption) ?_ rfl | refine fl_b (by assumption) ?_ rfl); (fail_if_success (with_reducible show wpAny _ _ _ _ _ (Shared.mk _ (Shared.gens _) _ _ _)))) | ((with_reducible show wpAny _ _ _ _ _ (Shared.mk _ _ _ (_ + _ + _ + _) _)); (with_reducible refine tk_gen ?_); intro tk_m) | ((with_reducible show WhlRest _ _ _ _ _ _ _ _ _ _ _); (k_dflt (refine' whl_turn ?hE ?_; (case hE => exact passes_false)); (try k_sweep))) | ((with_reducible show wpAny _ _ (truthy (Value.ref _)) _ _ _); (k_here; (refine' truthy_lst ?N ?hm ?hz ?hb ?_; (case N => k_asm); (case hm => k_mem); (case hz => exact Nat.le_of_ble_eq_true rfl); (case hb => first | exact (rfl : _ = true) | exact (rfl : _ = false))))) | ((with_reducible show wpAny _ _ (eval (Expr.Constant _ _ _) _) _ _ _); with_reducible first | refine cint ?_ | refine cstr ?_) | ((with_reducible show wpAny _ _ (eval (Expr.Name _ _) _) _ _ _); k_here; k_dflt (refine' nameX_L (hd := ?d) ?F ?v ?_ ?a ?b; (case F => k_asm); (case a => rfl); (case b => rfl); (case v => rfl); (case d => rfl); k_whole)) | ((with_reducible show wpAny _ _ (storeName _ _ _) _ _ _); k_here; k_dflt (refine' storeX_M ?F ?N ?_ ?a ?b; (case F => k_asm); (case N => k_asm); (case a => rfl); (case b => rfl); k_whole; intro h_m m_m F_m N_m; (try k_sweep))) | (k_unfold; (try dsimp only)) | (k_end; kc_close) | walk1 | (dsimp only; walk1) | (leave1; (try dsimp only)) | fail "no step"))
      (with_reducible rename Fr _ _ _ _ => kF3); (with_reducible rename News _ _ _ _ => kN3); (with_reducible rename Obj.SetObjOf (PySem.strKind _ _) _ (fun y => _ || _) _ => hS3)
      have u5 := sl.ne e5
      rw [set_next ha] at hS3
      refine tl_next kF3 kN3 (fun p hp => .tail _ (.tail _ hp)) (off4 hlt3 u5) ?_ ⟨_, _, _, _, frs₂, rfl, hsl.trans sl, hS3, hD3⟩
      intro z hz; (repeat refine out_st (contains_ne hz (by rfl)) ?_); simp only [mid, hz]; rfl
  case done =>
    intro m₁ nw h' tk hJ kF kN
    obtain ⟨k1, k2, so, od', frs₁, rfl, hsl, hS, hD'⟩ := hJ
    (repeat' (first | ((with_reducible show wpAny _ _ _ _ _ (Shared.mk _ (Shared.gens _) _ _ _)); (with_reducible first | refine fl_c ?_ rfl | refine fl_a (by assumption) ?_ rfl | refine fl_b (by assumption) ?_ rfl); (fail_if_success (with_reducible show wpAny _ _ _ _ _ (Shared.mk _ (Shared.gens _) _ _ _)))) | ((with_reducible show wpAny _ _ _ _ _ (Shared.mk _ _ _ (_ + _ + _ + _) _)); (with_reducible refine tk_gen ?_); intro tk_m) | ((with_reducible show wpAny _ _ (eval (Expr.Constant _ _ _) _) _ _ _); with_reducible first | refine cint ?_ | refine cstr ?_) | ((with_reducible show wpAny _ _ (eval (Expr.Name _ _) _) _ _ _); k_here; k_dflt (refine' nameX_L (hd := ?d) ?F ?v ?_ ?a ?b; (case F => k_asm); (case a => rfl); (case b => rfl); (case v => rfl); (case d => rfl); k_whole)) | ((with_reducible show wpAny _ _ (storeName _ _ _) _ _ _); k_here; k_dflt (refine' storeX_M ?F ?N ?_ ?a ?b; (case F => k_asm); (case N => k_asm); (case a => rfl); (case b => rfl); k_whole; intro h_m m_m F_m N_m; (try k_sweep))) | (k_unfold; (try dsimp only)) | (k_end; kc_close) | walk1 | (dsimp only; walk1) | (leave1; (try dsimp only)) | fail "no step"))
    exact ret _ _ frs₁ (Fr.keep (by assumption)) hsl fun p hp => (News.led (by assumption) p (.tail _ (.tail _ (.tail _ (.tail _ hp))))).1

end
example : True := by w_top off; trivial
noncomputable def ndAll (ns : List Nd) : List (Addr × Obj) := ns.flatMap Nd.led
theorem mem_nd {ns : List Nd} {a : Nd} (ha : a ∈ ns) {p : Addr × Obj} (hp : p ∈ a.led) : p ∈ ndAll ns := List.mem_flatMap.mpr ⟨a, ha, hp⟩
section
variable {prog : Program} {w : World} {A : Around} {E : Value → Shared → Prop} {s : Shared} {h₀ : Heap} {L D : Addr} {m : Str → Option Value} {news : List (Addr × Obj)} {o : Obj} {kvs : List (Str × Value)}
theorem values_method {pl : Sem Bool} {Q : Value × List Value → Shared → Prop} (N : News h₀ L s.heap news) (hp : (D, o) ∈ news) (hd : o.IsDictOf (PySem.strKind prog w) kvs) (h : Q (.builtin "dict.values", [.ref D]) s) : wpAny (model prog w) A (getMethod (.ref D) (Str.ofString "values") pl) Q E s :=
  have hD := kda_dict N hp hd
  getMethod_builtin hD.typeIs PySem.F.plainAttrs_dict PySem.F.slot_dict_values PySem.F.type_dict_values hD.mapOf.noDict h
theorem values_call {Q : Value → Shared → Prop} (F : Fr h₀ L s.heap m) (N : News h₀ L s.heap news) (hp : (D, o) ∈ news) (hd : o.IsDictOf (PySem.strKind prog w) kvs) (lo' : (D == sysModules) = false)
    (h : ∀ v h', Fr h₀ L h' m → News h₀ L h' ((v, { cls := .type "dict_values", data := .fields #[.ref D] }) :: news) → (∀ p ∈ news, p.1 < v) → Q (.ref v) { s with heap := h' }) : wpAny (model prog w) A (call (.builtin "dict.values") [.ref D]) Q E s :=
  have hD := kda_dict N hp hd
  call_meetsIn PySem.F.slot_dict_values hD.typeIs PySem.F.entry_dict_values (PySem.F.args_dict_values_1 _) (meets_dict_values (PySem.strKind prog w) D lo') ⟨⟨kvs, hD⟩, h _ _ (F.push _) (News.push F N _) (fun p hp => Heap.lt_size (N p hp).1)⟩
end
noncomputable def rdyOf (ns : List Nd) : List (Str × Tok) := (ns.filter fun a => decide (a.n = 0)).map fun a => (a.q, a.t)
theorem off1_ne {D : Addr} {l : List (Addr × Obj)} (h : LCg.Off1 D l) : ∀ p ∈ l, p.1 ≠ D := by
  induction l with
  | nil => exact fun _ h => nomatch h
  | cons p r ih =>
    intro q hq
    rcases List.mem_cons.mp hq with e | hq
    · rw [e]; exact h.1
    · exact ih h.2 q hq
theorem rdy_hit {ns : List Nd} {i : Nat} {a : Nd} (ha : ns[i]? = some a) (h : a.n = 0) : strValues (rdyOf (ns.take (i + 1))) = strValues (rdyOf (ns.take i)) ++ [.str a.q a.t] := by
  unfold rdyOf
  rw [List.take_add_one, ha, List.filter_append, List.map_append]
  simp [strValues, h]
theorem rdy_miss {ns : List Nd} {i : Nat} {a : Nd} (ha : ns[i]? = some a) (h : a.n ≠ 0) : strValues (rdyOf (ns.take (i + 1))) = strValues (rdyOf (ns.take i)) := by
  unfold rdyOf
  rw [List.take_add_one, ha, List.filter_append, List.map_append]
  simp [strValues, h]
theorem prepare_spec {w : World} {x dx d : Nat} {K : Sk} {p f : Int} {od : Obj} {ns : List Nd} (hD : Obj.IsDictOf (PySem.strKind prg w) od (ndKvs ns)) (lo' : (d == sysModules) = false) (hn : (ns.map (·.q)).Nodup) (hlen : ns.length ≤ 1000)
    (hsucc : ∀ i a, ns[i]? = some a → a.acc = [] ∨ ∃ q t, a.acc = [(q, t)] ∧ q ∈ (ns.take i).map (·.q)) (off : OwnOff (ndAll ns) [x, dx, d]) :
    MutF w 207 [.ref x] 3 ((x, instObj 252 dx) :: (dx, srtD w K d .none p f 4) :: (d, od) :: ndAll ns) (dx < x ∧ x < d)
    (fun v led => v = .none ∧ ∃ (r k : Nat) (K' : Sk), led = (r, W.listOf (strValues (rdyOf ns)).toArray k) :: (x, instObj 252 dx) :: (dx, srtD w K' d (.ref r) p f 4) :: (d, od) :: ndAll ns ∧ x ≠ r ∧ dx ≠ r ∧ d ≠ r ∧ ∀ p ∈ ndAll ns, p.1 ≠ r) := by
  refine mutF_of fun A R s0 gs dr tk0 ost b outer frs hA hF G hg hsz hled hoff hR hp ret => ?_
  obtain ⟨hd, dp, fr, gd, un⟩ := A; obtain rfl : hd = none := hR.hh
  have G' := G; obtain ⟨X, mean, mg, mb, T⟩ := G
  have R' := fun env => hR.deeper (env := env)
  obtain ⟨h1, h2⟩ := hp
  refine enterM G' hg hsz hled (hR.le (by decide)) (by k_is) (by k_is) (BindsTo.of_eq (binds := [(Str.ofString "self", .ref x)]) rfl) (locs rfl) rfl rfl rfl (by decide) ?_
  intro L h₁ F N hlt _ _ A1
  k_fold
  clear G' hg hled hsz
  replace N : News b L h₁ ((x, instObj 252 dx) :: (dx, srtD w K d .none p f 4) :: (d, od) :: (ndAll ns ++ frs)) := N
  (repeat' (first | ((with_reducible show wpAny _ _ _ _ _ (Shared.mk _ (Shared.gens _) _ _ _)); (with_reducible first | refine fl_c ?_ rfl | refine fl_a (by assumption) ?_ rfl | refine fl_b (by assumption) ?_ rfl); (fail_if_success (with_reducible show wpAny _ _ _ _ _ (Shared.mk _ (Shared.gens _) _ _ _)))) | ((with_reducible show wpAny _ _ _ _ _ (Shared.mk _ _ _ (_ + _ + _ + _) _)); (with_reducible refine tk_gen ?_); intro tk_m) | ((with_reducible show wpAny _ _ (eval (Expr.ListComp _ _ _ _) _) _ _ _); (k_here; k_dflt (refine comp_ET (by k_asm) rfl (by decide) rfl (by decide) rfl ?_))) | (k_here; (with_reducible show wpAny _ _ (call (Value.builtin "dict.values") [Value.ref _]) _ _ _); k_dflt (refine values_call (by k_asm) (by k_asm) (by k_mem) (by assumption) (by assumption) ?_); intro v_m h_m F_m N_m l1_m; (try k_sweep)) | (k_here; (with_reducible show wpAny _ _ (getMethod (Value.ref _) (Str.ofString "values") _) _ _ _); k_dflt (refine values_method (by k_asm) (by k_mem) (by assumption) ?_)) | ((with_reducible show wpAny _ _ (eval (Expr.Constant _ _ _) _) _ _ _); with_reducible first | refine cint ?_ | refine cstr ?_) | ((with_reducible show wpAny _ _ (eval (Expr.Name _ _) _) _ _ _); k_here; k_dflt (refine' nameX_L (hd := ?d) ?F ?v ?_ ?a ?b; (case F => k_asm); (case a => rfl); (case b => rfl); (case v => rfl); (case d => rfl); k_whole)) | ((with_reducible show wpAny _ _ (storeName _ _ _) _ _ _); k_here; k_dflt (refine' storeX_M ?F ?N ?_ ?a ?b; (case F => k_asm); (case N => k_asm); (case a => rfl); (case b => rfl); k_whole; intro h_m m_m F_m N_m; (try k_sweep))) | ((with_reducible show wpAny _ _ (exec _ _) _ _ _); k_fold) | (k_unfold; (try dsimp only)) | (k_end; kc_close) | walk1 | (dsimp only; walk1) | (leave1; (try dsimp only)) | fail "no step"))
  (with_reducible rename Fr _ _ _ _ => kF); (with_reducible rename News _ _ _ _ => kN)
  refine csrc_T (fun i ys => ys = strValues (rdyOf (ns.take i))) (Itc.values rfl hD) (kN _ (.head _)).1 kF kN (.inr (by k_mem)) (by rw [sizeLine_eq]; unfold ndKvs; rw [List.length_map]; omega) rfl ?_ ?_
  · intro i ys v I oI C oC D' m₂ h tk E' hi hP hJ hC hx kF kN off3 ne3
    obtain ⟨k, hk⟩ := hP
    obtain ⟨a, ha, e1, e2⟩ : ∃ a, ns[i]? = some a ∧ a.q = k ∧ Value.ref a.x = v := by
      unfold ndKvs at hk
      rw [List.getElem?_map] at hk
      obtain ⟨a, h1, h2⟩ := Option.map_eq_some_iff.mp hk
      cases h2
      exact ⟨a, h1, rfl, rfl⟩
    subst e1 e2
    have ham : a ∈ ns := List.mem_of_getElem? ha
    have kN2 : News b L h ((a.x, infO a.dx a.l a.q a.t a.n a.t') :: (a.dx, dictOf [] 0) :: (I, oI) :: (C, oC) :: (D', LCg.lst ys) :: _ :: _) := fun p hp => kN p (by
      rcases List.mem_cons.mp hp with e | hp
      · rw [e]; exact .tail _ (.tail _ (.tail _ (.tail _ (.tail _ (.tail _ (.tail _ (List.mem_append_left _ (mem_nd ham (.head _)))))))))
      · rcases List.mem_cons.mp hp with e | hp
        · rw [e]; exact .tail _ (.tail _ (.tail _ (.tail _ (.tail _ (.tail _ (.tail _ (List.mem_append_left _ (mem_nd ham (.tail _ (.head _))))))))))
        · exact hp)
    have off3' := off3
    (repeat' (first | ((with_reducible show wpAny _ _ _ _ _ (Shared.mk _ (Shared.gens _) _ _ _)); (with_reducible first | refine fl_c ?_ rfl | refine fl_a (by assumption) ?_ rfl | refine fl_b (by assumption) ?_ rfl); (fail_if_success (with_reducible show wpAny _ _ _ _ _ (Shared.mk _ (Shared.gens _) _ _ _)))) | ((with_reducible show wpAny _ _ _ _ _ (Shared.mk _ _ _ (_ + _ + _ + _) _)); (with_reducible refine tk_gen ?_); intro tk_m) | ((with_reducible show wpAny _ _ (eval (Expr.Constant _ _ _) _) _ _ _); with_reducible first | refine cint ?_ | refine cstr ?_) | ((with_reducible show wpAny _ _ (eval (Expr.Name _ _) _) _ _ _); k_here; k_dflt (refine' nameX_L (hd := ?d) ?F ?v ?_ ?a ?b; (case F => k_asm); (case a => rfl); (case b => rfl); (case v => rfl); (case d => rfl); k_whole)) | ((with_reducible show wpAny _ _ (storeName _ _ _) _ _ _); k_here; k_dflt (refine' storeX_M ?F ?N ?_ ?a ?b; (case F => k_asm); (case N => k_asm); (case a => rfl); (case b => rfl); k_whole; intro h_m m_m F_m N_m; (try k_sweep))) | ((with_reducible show wpAny _ _ (exec _ _) _ _ _); k_fold) | (k_unfold; (try dsimp only)) | (k_end; kc_close) | walk1 | (dsimp only; walk1) | (leave1; (try dsimp only)) | fail "no step"))
    · refine ce_end (by assumption) kN2 (fun p hp => .tail _ (.tail _ hp)) off3' ?_
      rw [rdy_hit ha (by assumption), hJ]
    · refine ce_end (by assumption) kN2 (fun p hp => .tail _ (.tail _ hp)) off3' ?_
      rw [rdy_miss ha (by assumption), hJ]
  · intro g ys hJ D' h' tk kF2 kN2 hoff1
    subst hJ
    rw [List.take_of_length_le (by unfold ndKvs; rw [List.length_map]; exact Nat.le_refl _)] at kN2
    have z1 : @Ne Nat x D' := off1_ne hoff1 (x, _) (.tail _ (.head _))
    have z2 : @Ne Nat dx D' := off1_ne hoff1 (dx, _) (.tail _ (.tail _ (.head _)))
    have z3 : @Ne Nat d D' := off1_ne hoff1 (d, _) (.tail _ (.tail _ (.tail _ (.head _))))
    have z4 : ∀ p ∈ ndAll ns, p.1 ≠ D' := fun p hp => off1_ne hoff1 p (.tail _ (.tail _ (.tail _ (.tail _ (List.mem_append_left _ hp)))))
    have z5 : ∀ p ∈ frs, p.1 ≠ D' := fun p hp => off1_ne hoff1 p (.tail _ (.tail _ (.tail _ (.tail _ (List.mem_append_right _ hp)))))
    (with_reducible rename ∀ p_1 ∈ (_, instObj _ _) :: _, p_1.1 < _ => q1)
    have y2 : @LT.lt Nat _ dx _ := q1 (dx, srtD w K d .none p f 4) (.tail _ (.head _))
    have y3 := fun p hp => Nat.ne_of_lt (q1 p (.tail _ (.tail _ (.tail _ (List.mem_append_right _ hp)))))
    have z6 : ∀ p ∈ ndAll ns ++ frs, p.1 ≠ dx := fun p hp => by
      rcases List.mem_append.mp hp with hp | hp
      · exact off p hp dx (.tail _ (.head _))
      · exact Ne.symm (hoff (dx, _) (.tail _ (.head _)) p hp)
    (repeat' (first | ((with_reducible show wpAny _ _ _ _ _ (Shared.mk _ (Shared.gens _) _ _ _)); (with_reducible first | refine fl_c ?_ rfl | refine fl_a (by assumption) ?_ rfl | refine fl_b (by assumption) ?_ rfl); (fail_if_success (with_reducible show wpAny _ _ _ _ _ (Shared.mk _ (Shared.gens _) _ _ _)))) | ((with_reducible show wpAny _ _ _ _ _ (Shared.mk _ _ _ (_ + _ + _ + _) _)); (with_reducible refine tk_gen ?_); intro tk_m) | ((with_reducible show wpAny _ _ (eval (Expr.Constant _ _ _) _) _ _ _); with_reducible first | refine cint ?_ | refine cstr ?_) | ((with_reducible show wpAny _ _ (eval (Expr.Name _ _) _) _ _ _); k_here; k_dflt (refine' nameX_L (hd := ?d) ?F ?v ?_ ?a ?b; (case F => k_asm); (case a => rfl); (case b => rfl); (case v => rfl); (case d => rfl); k_whole)) | ((with_reducible show wpAny _ _ (storeName _ _ _) _ _ _); k_here; k_dflt (refine' storeX_M ?F ?N ?_ ?a ?b; (case F => k_asm); (case N => k_asm); (case a => rfl); (case b => rfl); k_whole; intro h_m m_m F_m N_m; (try k_sweep))) | ((with_reducible show wpAny _ _ (exec _ _) _ _ _); k_fold) | (k_unfold; (try dsimp only)) | (k_end; kc_close) | walk1 | (dsimp only; walk1) | (leave1; (try dsimp only)) | fail "no step"))
    (with_reducible rename Fr _ _ _ _ => kF3); (with_reducible rename News _ _ _ _ => kN3)
    refine use_readF (pr := _ :: _ :: _ :: _ :: _ :: ndAll ns) (cycle_spec hD lo' hn hlen hsucc) hA hF kF3 kN3 ?off (by rfl) X T (fun g _ hp => ⟨hp (x, _) (.tail _ (.tail _ (.head _))), hp (dx, _) (.tail _ (.tail _ (.tail _ (.head _)))), hp (d, _) (.tail _ (.tail _ (.tail _ (.tail _ (.head _))))), fun a ha p hq => hp p (.tail _ (.tail _ (.tail _ (.tail _ (.tail _ (mem_nd ha hq))))))⟩) ((R' _).le (by decide)) ?_
    case off =>
      refine off_cons z5 (off_cons (fun p hp => y3 p hp) fun p hp q hq => ?_)
      rcases List.mem_cons.mp hp with e | hp
      · rw [e]; exact hoff (x, _) (.head _) q hq
      · rcases List.mem_cons.mp hp with e | hp
        · rw [e]; exact hoff (dx, _) (.tail _ (.head _)) q hq
        · exact hoff p (.tail _ (.tail _ hp)) q hq
    intro h' tk' frs' F' N' sl
    clear kF3 kN3
    (repeat' (first | ((with_reducible show wpAny _ _ _ _ _ (Shared.mk _ (Shared.gens _) _ _ _)); (with_reducible first | refine fl_c ?_ rfl | refine fl_a (by assumption) ?_ rfl | refine fl_b (by assumption) ?_ rfl); (fail_if_success (with_reducible show wpAny _ _ _ _ _ (Shared.mk _ (Shared.gens _) _ _ _)))) | ((with_reducible show wpAny _ _ _ _ _ (Shared.mk _ _ _ (_ + _ + _ + _) _)); (with_reducible refine tk_gen ?_); intro tk_m) | ((with_reducible show wpAny _ _ (eval (Expr.Constant _ _ _) _) _ _ _); with_reducible first | refine cint ?_ | refine cstr ?_) | ((with_reducible show wpAny _ _ (eval (Expr.Name _ _) _) _ _ _); k_here; k_dflt (refine' nameX_L (hd := ?d) ?F ?v ?_ ?a ?b; (case F => k_asm); (case a => rfl); (case b => rfl); (case v => rfl); (case d => rfl); k_whole)) | ((with_reducible show wpAny _ _ (storeName _ _ _) _ _ _); k_here; k_dflt (refine' storeX_M ?F ?N ?_ ?a ?b; (case F => k_asm); (case N => k_asm); (case a => rfl); (case b => rfl); k_whole; intro h_m m_m F_m N_m; (try k_sweep))) | ((with_reducible show wpAny _ _ (exec _ _) _ _ _); k_fold) | (k_unfold; (try dsimp only)) | (k_end; kc_close) | walk1 | (dsimp only; walk1) | (leave1; (try dsimp only)) | fail "no step"))
    (with_reducible rename Fr _ _ _ _ => kF3); (with_reducible rename News _ _ _ _ => kN3)
    replace kN3 : News b L _ (((D', W.listOf (strValues (rdyOf ns)).toArray (strValues (rdyOf ns)).length) :: (_, _) :: (x, instObj 252 dx) :: (dx, srtD w K d (.ref D') p f 4) :: (d, od) :: ndAll ns) ++ frs') := kN3
    refine ret _ _ _ ((D', W.listOf (strValues (rdyOf ns)).toArray (strValues (rdyOf ns)).length) :: (x, instObj 252 dx) :: (dx, srtD w K d (.ref D') p f 4) :: (d, od) :: ndAll ns) frs' kF3.keep (fun p hp => ?_) sl (fun p hp => (kN3 p (List.mem_append_right _ hp)).1) ⟨rfl, _, _, _, rfl, z1, z2, z3, z4⟩
    rcases List.mem_cons.mp hp with e | hp
    · rw [e]; exact ⟨(kN3 _ (.head _)).1, (kN3 _ (.head _)).2.2, fun q hq => Ne.symm (z5 q hq)⟩
    · have z := kN3 p (by
        rcases List.mem_cons.mp hp with e | hp
        · rw [e]; exact .tail _ (.tail _ (.head _))
        · rcases List.mem_cons.mp hp with e | hp
          · rw [e]; exact .tail _ (.tail _ (.tail _ (.head _)))
          · rcases List.mem_cons.mp hp with e | hp
            · rw [e]; exact .tail _ (.tail _ (.tail _ (.tail _ (.head _))))
            · exact List.mem_append_left _ (.tail _ (.tail _ (.tail _ (.tail _ (.tail _ hp))))))
      refine ⟨z.1, z.2.2, ?_⟩
      rcases List.mem_cons.mp hp with e | hp
      · rw [e]; exact hoff (x, _) (.head _)
      · rcases List.mem_cons.mp hp with e | hp
        · rw [e]; intro q hq; exact hoff (dx, srtD w K d .none _ f 4) (.tail _ (.head _)) q hq
        · exact hoff p (.tail _ (.tail _ hp))

noncomputable def Nd.put (a : Nd) (n : Int) (t : Tok) : Nd := { a with n := n, t' := t }
noncomputable def updN (ns : List Nd) (q : Str) (n : Int) (t : Tok) : List Nd := ns.map fun c => if c.q = q then c.put n t else c
structure WfA (ns : List Nd) : Prop where
  one : ∀ a ∈ ns, @Ne Nat a.x a.dx ∧ @Ne Nat a.x a.l ∧ @Ne Nat a.dx a.l
  two : ∀ a ∈ ns, ∀ b ∈ ns, a.q ≠ b.q → ∀ y ∈ [a.x, a.dx, a.l], ∀ z ∈ [b.x, b.dx, b.l], @Ne Nat y z
  nod : (ns.map (·.q)).Nodup
theorem put_q (a : Nd) (n : Int) (t : Tok) : (a.put n t).q = a.q := rfl
theorem upd_map {α : Type} (f : Nd → α) (hf : ∀ a n t, f (a.put n t) = f a) (ns : List Nd) (q : Str) (n : Int) (t : Tok) : (updN ns q n t).map f = ns.map f := by
  unfold updN
  rw [List.map_map]
  refine List.map_congr_left fun a _ => ?_
  show f (if a.q = q then a.put n t else a) = f a
  split
  · exact hf a n t
  · rfl
theorem upd_len (ns : List Nd) (q : Str) (n : Int) (t : Tok) : (updN ns q n t).length = ns.length := List.length_map ..
theorem upd_kvs (ns : List Nd) (q : Str) (n : Int) (t : Tok) : ndKvs (updN ns q n t) = ndKvs ns := upd_map _ (fun _ _ _ => rfl) ns q n t
theorem upd_mem {ns : List Nd} {q : Str} {n : Int} {t : Tok} {c : Nd} (h : c ∈ updN ns q n t) : ∃ a ∈ ns, (a.q = q ∧ c = a.put n t) ∨ (a.q ≠ q ∧ c = a) := by
  obtain ⟨a, ha, e⟩ := List.mem_map.mp h
  by_cases hq : a.q = q
  · rw [if_pos hq] at e; exact ⟨a, ha, .inl ⟨hq, e.symm⟩⟩
  · rw [if_neg hq] at e; exact ⟨a, ha, .inr ⟨hq, e.symm⟩⟩
theorem WfA.upd {ns : List Nd} (h : WfA ns) (q : Str) (n : Int) (t : Tok) : WfA (updN ns q n t) where
  one := fun c hc => by
    obtain ⟨a, ha, e⟩ := upd_mem hc
    have := h.one a ha
    rcases e with ⟨_, e⟩ | ⟨_, e⟩ <;> (rw [e]; exact this)
  two := fun c hc d hd hne => by
    obtain ⟨a, ha, e⟩ := upd_mem hc
    obtain ⟨b, hb, e'⟩ := upd_mem hd
    have q1 : c.q = a.q ∧ c.x = a.x ∧ c.dx = a.dx ∧ c.l = a.l := by rcases e with ⟨_, rfl⟩ | ⟨_, rfl⟩ <;> exact ⟨rfl, rfl, rfl, rfl⟩
    have q2 : d.q = b.q ∧ d.x = b.x ∧ d.dx = b.dx ∧ d.l = b.l := by rcases e' with ⟨_, rfl⟩ | ⟨_, rfl⟩ <;> exact ⟨rfl, rfl, rfl, rfl⟩
    rw [q1.1, q2.1] at hne
    rw [q1.2.1, q1.2.2.1, q1.2.2.2, q2.2.1, q2.2.2.1, q2.2.2.2]
    exact h.two a ha b hb hne
  nod := by rw [upd_map (·.q) (fun _ _ _ => rfl)]; exact h.nod
theorem WfA.same {ns : List Nd} (h : WfA ns) {a b : Nd} (ha : a ∈ ns) (hb : b ∈ ns) (e : a.q = b.q) : a = b := by
  obtain ⟨i, hi⟩ := List.getElem?_of_mem ha
  obtain ⟨j, hj⟩ := List.getElem?_of_mem hb
  have h1 : (ns.map (·.q))[i]? = some a.q := by rw [List.getElem?_map, hi]; rfl
  have h2 : (ns.map (·.q))[j]? = some a.q := by rw [List.getElem?_map, hj, e]; rfl
  have := (List.getElem?_inj (List.getElem?_eq_some_iff.mp h1).1 h.nod).mp (h1.trans h2.symm)
  rw [this, hj] at hi
  exact (Option.some.inj hi).symm
noncomputable def adrs (a : Nd) : List Nat := [a.x, a.dx, a.l]
theorem led_adr {a : Nd} {p : Addr × Obj} (h : p ∈ a.led) : p.1 ∈ adrs a := by
  unfold Nd.led at h
  simp only [List.mem_cons, List.not_mem_nil, or_false] at h
  rcases h with rfl | rfl | rfl <;> simp [adrs]
noncomputable def ndEx (ns : List Nd) (S : List Nat) : List (Addr × Obj) := (ndAll ns).filter fun p => decide (p.1 ∉ S)
theorem ndEx_off (ns : List Nd) (S : List Nat) : OwnOff (ndEx ns S) S := fun p hp b hb e => by
  have := (List.mem_filter.mp hp).2
  exact of_decide_eq_true this (e ▸ hb)
theorem ndEx_sub {ns : List Nd} {S : List Nat} {p : Addr × Obj} (h : p ∈ ndEx ns S) : p ∈ ndAll ns := (List.mem_filter.mp h).1
theorem ndAll_upd {ns : List Nd} (W : WfA ns) {a : Nd} (ha : a ∈ ns) {n : Int} {t : Tok} {p : Addr × Obj} (h : p ∈ ndAll (updN ns a.q n t)) : p ∈ (a.put n t).led ∨ p ∈ ndEx ns (adrs a) := by
  obtain ⟨c, hc, hp⟩ := List.mem_flatMap.mp h
  obtain ⟨b, hb, (⟨e, rfl⟩ | ⟨e, rfl⟩)⟩ := upd_mem hc
  · rw [W.same hb ha e] at hp; exact .inl hp
  · refine .inr (List.mem_filter.mpr ⟨mem_nd hb hp, ?_⟩)
    rw [decide_eq_true_eq]
    intro hm
    exact W.two _ hb _ ha e p.1 (led_adr hp) p.1 hm rfl
theorem ndAll_upd2 {ns : List Nd} (W : WfA ns) {a b : Nd} (ha : a ∈ ns) (hb : b ∈ ns) (hne : b.q ≠ a.q) {n n' : Int} {t t' : Tok} {p : Addr × Obj} (h : p ∈ ndAll (updN (updN ns a.q n t) b.q n' t')) : p ∈ (b.put n' t').led ∨ p ∈ (a.put n t).led ∨ p ∈ ndEx ns (adrs a ++ adrs b) := by
  obtain ⟨c, hc, hp⟩ := List.mem_flatMap.mp h
  obtain ⟨c', hc', e1⟩ := upd_mem hc
  obtain ⟨c2, hc2, e2⟩ := upd_mem hc'
  rcases e1 with ⟨e, rfl⟩ | ⟨e, rfl⟩
  · rcases e2 with ⟨e', rfl⟩ | ⟨e', rfl⟩
    · exact absurd (e.symm.trans e') (by simpa using hne)
    · rw [W.same hc2 hb e] at hp; exact .inl hp
  · rcases e2 with ⟨e', rfl⟩ | ⟨e', rfl⟩
    · rw [W.same hc2 ha e'] at hp; exact .inr (.inl hp)
    · refine .inr (.inr (List.mem_filter.mpr ⟨mem_nd hc2 hp, ?_⟩))
      rw [decide_eq_true_eq]
      intro hm
      rcases List.mem_append.mp hm with hm | hm
      · exact W.two _ hc2 _ ha e' p.1 (led_adr hp) p.1 hm rfl
      · exact W.two _ hc2 _ hb e p.1 (led_adr hp) p.1 hm rfl
noncomputable def Has (ns : List Nd) (N : Str → Int) : Prop := ∀ a ∈ ns, a.n = N a.q
theorem Has.upd {ns : List Nd} {N : Str → Int} (h : Has ns N) (q : Str) (n : Int) (t : Tok) : Has (updN ns q n t) (fun y => if y = q then n else N y) := fun c hc => by
  obtain ⟨a, ha, (⟨e, rfl⟩ | ⟨e, rfl⟩)⟩ := upd_mem hc
  · show n = if a.q = q then n else N a.q
    rw [if_pos e]
  · show _ = if _ = q then n else _
    rw [if_neg e]; exact h _ ha
theorem off_upd {ns : List Nd} {S : List Addr} (h : OwnOff (ndAll ns) S) (q : Str) (n : Int) (t : Tok) : OwnOff (ndAll (updN ns q n t)) S := fun p hp b hb => by
  obtain ⟨c, hc, hp⟩ := List.mem_flatMap.mp hp
  obtain ⟨a, ha, e⟩ := upd_mem hc
  have q1 : adrs c = adrs a := by rcases e with ⟨_, rfl⟩ | ⟨_, rfl⟩ <;> rfl
  have := led_adr hp
  rw [q1] at this
  simp only [adrs, List.mem_cons, List.not_mem_nil, or_false] at this
  rcases this with e | e | e
  · rw [e]; exact h (a.x, _) (mem_nd ha (.head _)) b hb
  · rw [e]; exact h (a.dx, _) (mem_nd ha (.tail _ (.head _))) b hb
  · rw [e]; exact h (a.l, _) (mem_nd ha (.tail _ (.tail _ (.head _)))) b hb

example : True := by w_top off; trivial
section
variable {prog : Program} {w : World} {A : Around} {E : Value → Shared → Prop} {s : Shared} {h₀ : Heap} {L D : Addr} {m : Str → Option Value} {news : List (Addr × Obj)} {its : Array Value} {k : Nat} {Q : Value → Shared → Prop}
theorem tuple_of (F : Fr h₀ L s.heap m) (N : News h₀ L s.heap news) (hm : (D, W.listOf its k) ∈ news) (hz : its.size ≤ 1000)
    (h : ∀ T h' tk, Fr h₀ L h' m → News h₀ L h' ((T, { cls := .type "tuple", data := .seq its }) :: news) → (∀ p ∈ news, p.1 < T) → Q (.ref T) { s with heap := h', toks := tk }) : wpAny (model prog w) A (call (.type "tuple") [.ref D]) Q E s := by
  refine call_tuple_list (News.isList N hm) (fun h' ke => ?_) (by rw [sizeLine_eq]; omega)
  exact h _ _ s.toks ((F.keeps ke).push _) (News.push (F.keeps ke) (N.grown ke) _) (fun p hp => Heap.lt_size ((N.grown ke) p hp).1)
theorem len_of (N : News h₀ L s.heap news) (hm : (D, ({ cls := .type "tuple", data := .seq its } : Obj)) ∈ news) (hz : its.size ≤ 1000) (h : Q (.int (its.size : Int) (s.toks + 1)) { s with toks := s.toks + 1 + 1 }) :
    wpAny (model prog w) A (call (.builtin "len") [.ref D]) Q E s := len_tuple ⟨_, (N _ hm).1, rfl, _, rfl⟩ (by omega) h
end
theorem strv_at {ls : List (Str × Tok)} {i : Nat} {v : Value} (h : (strValues ls).toArray[i]? = some v) : ∃ c tc, ls[i]? = some (c, tc) ∧ v = .str c tc := by
  simp only [List.getElem?_toArray, strValues, List.getElem?_map] at h
  cases e : ls[i]? with
  | none => rw [e] at h; cases h
  | some p => rw [e] at h; obtain ⟨c, tc⟩ := p; cases h; exact ⟨c, tc, rfl, rfl⟩
theorem strv_empty (ls : List (Str × Tok)) : (strValues ls).toArray.isEmpty = ls.isEmpty := by cases ls <;> rfl
structure Alike (S : List Addr) (ns ns' : List Nd) : Prop where
  wf : WfA ns'
  off : OwnOff (ndAll ns') S
  kvs : ndKvs ns' = ndKvs ns
  accs : ns'.map (fun a => (a.q, a.acc)) = ns.map (fun a => (a.q, a.acc))
  adr : ns'.map adrs = ns.map adrs
theorem Alike.refl {S : List Addr} {ns : List Nd} (h : WfA ns) (o : OwnOff (ndAll ns) S) : Alike S ns ns := ⟨h, o, rfl, rfl, rfl⟩
theorem Alike.upd {S : List Addr} {ns ns' : List Nd} (h : Alike S ns ns') (q : Str) (n : Int) (t : Tok) : Alike S ns (updN ns' q n t) :=
  ⟨h.wf.upd q n t, off_upd h.off q n t, (upd_kvs ..).trans h.kvs, (upd_map _ (fun _ _ _ => rfl) ..).trans h.accs, (upd_map _ (fun _ _ _ => rfl) ..).trans h.adr⟩
theorem Has.congr {ns : List Nd} {N N' : Str → Int} (h : Has ns N) (e : ∀ y, N y = N' y) : Has ns N' := fun a ha => (h a ha).trans (e _)
theorem Alike.qs {S : List Addr} {ns ns' : List Nd} (h : Alike S ns ns') : ns'.map (·.q) = ns.map (·.q) := by
  have := congrArg (List.map Prod.fst) h.accs
  rwa [List.map_map, List.map_map] at this
theorem Alike.adrIn {S : List Addr} {ns ns' : List Nd} (h : Alike S ns ns') {p : Addr × Obj} (hp : p ∈ ndAll ns') : ∃ p' ∈ ndAll ns, p'.1 = p.1 := by
  obtain ⟨c, hc, hp⟩ := List.mem_flatMap.mp hp
  have h1 : adrs c ∈ ns'.map adrs := List.mem_map.mpr ⟨c, hc, rfl⟩
  rw [h.adr] at h1
  obtain ⟨a, ha, e⟩ := List.mem_map.mp h1
  have := led_adr hp
  rw [← e] at this
  simp only [adrs, List.mem_cons, List.not_mem_nil, or_false] at this
  rcases this with e | e | e
  · exact ⟨(a.x, _), mem_nd ha (.head _), e.symm⟩
  · exact ⟨(a.dx, _), mem_nd ha (.tail _ (.head _)), e.symm⟩
  · exact ⟨(a.l, _), mem_nd ha (.tail _ (.tail _ (.head _))), e.symm⟩
theorem Alike.lt {S : List Addr} {ns ns' : List Nd} (h : Alike S ns ns') {T : Addr} (k : ∀ p ∈ ndAll ns, p.1 < T) : ∀ p ∈ ndAll ns', p.1 < T := fun p hp => by
  obtain ⟨p', h1, e⟩ := h.adrIn hp
  exact e ▸ k p' h1
theorem News.behind {h₀ h : Heap} {L : Addr} {pre l l' : List (Addr × Obj)} (N : News h₀ L h (pre ++ l)) (k : ∀ p ∈ l', p ∈ l) : News h₀ L h (pre ++ l') := fun p hp => N p (by
  rcases List.mem_append.mp hp with hp | hp
  · exact List.mem_append_left _ hp
  · exact List.mem_append_right _ (k p hp))
theorem expose {ns : List Nd} {a : Nd} (ha : a ∈ ns) {S : List Nat} : ∀ p ∈ (a.x, infO a.dx a.l a.q a.t a.n a.t') :: (a.dx, dictOf [] 0) :: (a.l, W.listOf (strValues a.acc).toArray a.k) :: ndEx ns S, p ∈ ndAll ns := fun p hp => by
  rcases List.mem_cons.mp hp with e | hp
  · rw [e]; exact mem_nd ha (.head _)
  · rcases List.mem_cons.mp hp with e | hp
    · rw [e]; exact mem_nd ha (.tail _ (.head _))
    · rcases List.mem_cons.mp hp with e | hp
      · rw [e]; exact mem_nd ha (.tail _ (.tail _ (.head _)))
      · exact ndEx_sub hp
theorem hide {ns : List Nd} (hW : WfA ns) {a : Nd} (ha : a ∈ ns) {n : Int} {t : Tok} : ∀ p ∈ ndAll (updN ns a.q n t), p ∈ (a.x, infO a.dx a.l a.q a.t n t) :: (a.dx, dictOf [] 0) :: (a.l, W.listOf (strValues a.acc).toArray a.k) :: ndEx ns (adrs a) := fun p hp => by
  rcases ndAll_upd hW ha hp with h | h
  · unfold Nd.led at h
    simp only [List.mem_cons, List.not_mem_nil, or_false] at h
    rcases h with rfl | rfl | rfl
    · exact .head _
    · exact .tail _ (.head _)
    · exact .tail _ (.tail _ (.head _))
  · exact .tail _ (.tail _ (.tail _ h))
theorem meets_bool_list (r : Addr) (its : Array Value) : Meets (Builtin.«bool.__new__» ⟨[.type "bool", .ref r], []⟩) (fun _ R s => s.heap.IsList r its ∧ its.size ≤ 1000 ∧ R (.ok (.ret (.bool (!its.isEmpty)))) { s with toks := s.toks + 1 + 1 }) :=
  Meets.of_wp fun prog w A R s hs => by
    obtain ⟨hp, g, d, tk, os⟩ := s
    obtain ⟨hl, hz, hs⟩ := hs
    have f1 := F.conv_sub_bool
    repeat (any_goals (first | assumption | (with_reducible refine wpAny_truthy_list hl (by omega) ?_) | wp_step))
    all_goals first | exact ⟨_, rfl, hs⟩ | skip
theorem bool_of {prog : Program} {w : World} {A : Around} {E : Value → Shared → Prop} {s : Shared} {h₀ : Heap} {L D : Addr} {news : List (Addr × Obj)} {its : Array Value} {k : Nat} {Q : Value → Shared → Prop} (N : News h₀ L s.heap news) (hm : (D, W.listOf its k) ∈ news) (hz : its.size ≤ 1000) (h : Q (.bool (!its.isEmpty)) { s with toks := s.toks + 1 + 1 }) : wpAny (model prog w) A (call (.type "bool") [.ref D]) Q E s :=
  call_bool_1 (meets_bool_list D its) ⟨News.isList N hm, hz, rfl, h⟩
theorem srt_cut {w : World} {h₀ h : Heap} {L dx d : Addr} {a b c : Addr × Obj} {rest : List (Addr × Obj)} {k1 k2 k3 k4 t3 t4 : Tok} {r : Value} {p p' : Int} (N : News h₀ L h (a :: b :: c :: (dx, dictOf [{ hash := PyData.keyHash w.params (Str.ofString "_node2info"), key := .str (Str.ofString "_node2info") k1, val := .ref d }, { hash := PyData.keyHash w.params (Str.ofString "_ready_nodes"), key := .str (Str.ofString "_ready_nodes") k2, val := r }, { hash := PyData.keyHash w.params (Str.ofString "_npassedout"), key := .str (Str.ofString "_npassedout") k3, val := .int p t3 }, { hash := PyData.keyHash w.params (Str.ofString "_nfinished"), key := .str (Str.ofString "_nfinished") k4, val := .int p' t4 }] 4) :: rest)) :
    ∃ K : Sk, News h₀ L h (a :: b :: c :: (dx, srtD w K d r p p' 4) :: rest) := ⟨⟨k1, k2, k3, k4, t3, t4⟩, N⟩
theorem active_spec {w : World} {x dx r k : Nat} {K : Sk} {d : Addr} {p : Int} {rdy : List (Str × Tok)} (hr : rdy.length ≤ 1000) :
    Mut w 221 [.ref x] 1 [(r, W.listOf (strValues rdy).toArray k), (x, instObj 252 dx), (dx, srtD w K d (.ref r) p p 4)] True
    (fun v led => v = .bool (!rdy.isEmpty) ∧ led = [(r, W.listOf (strValues rdy).toArray k), (x, instObj 252 dx), (dx, srtD w K d (.ref r) p p 4)]) := by
  refine mut_of fun A Q s0 gs dr tk0 ost g G hg hsz hled R hp ret => ?_
  obtain ⟨hd, dp, fr, gd, un⟩ := A; obtain rfl : hd = none := R.hh
  have G' := G; obtain ⟨X, mean, mg, mb, T⟩ := G
  refine enterM G' hg hsz hled (R.le (by decide)) (by k_is) (by k_is) (BindsTo.of_eq (binds := [(Str.ofString "self", .ref x)]) rfl) (locs rfl) rfl rfl rfl (by decide) ?_
  intro L h₁ F N hL _ _ A1
  k_fold
  clear G' hg hled
  have hz : (strValues rdy).toArray.size ≤ 1000 := by rw [List.size_toArray, strv_len]; exact hr
  (repeat' (first | ((with_reducible show wpAny _ _ _ _ _ (Shared.mk _ (Shared.gens _) _ _ _)); (with_reducible first | refine fl_c ?_ rfl | refine fl_a (by assumption) ?_ rfl | refine fl_b (by assumption) ?_ rfl); (fail_if_success (with_reducible show wpAny _ _ _ _ _ (Shared.mk _ (Shared.gens _) _ _ _)))) | ((with_reducible show wpAny _ _ _ _ _ (Shared.mk _ _ _ (_ + _ + _ + _) _)); (with_reducible refine tk_gen ?_); intro tk_m) | ((with_reducible show wpAny _ _ (eval (Expr.Constant _ _ _) _) _ _ _); with_reducible first | refine cint ?_ | refine cstr ?_) | ((with_reducible show wpAny _ _ (eval (Expr.Name _ _) _) _ _ _); k_here; k_dflt (refine' nameX_L (hd := ?d) ?F ?v ?_ ?a ?b; (case F => k_asm); (case a => rfl); (case b => rfl); (case v => rfl); (case d => rfl); k_whole)) | ((with_reducible show wpAny _ _ (storeName _ _ _) _ _ _); k_here; k_dflt (refine' storeX_M ?F ?N ?_ ?a ?b; (case F => k_asm); (case N => k_asm); (case a => rfl); (case b => rfl); k_whole; intro h_m m_m F_m N_m; (try k_sweep))) | ((with_reducible show wpAny _ _ (exec _ _) _ _ _); k_fold) | (k_unfold; (try dsimp only)) | (k_end; kc_close) | walk1 | (dsimp only; walk1) | (leave1; (try dsimp only)) | fail "no step"))
  · exact absurd (by assumption : p < p) (Int.lt_irrefl _)
  · refine bool_of (by k_asm) (by k_mem) hz ?_
    (repeat' (first | ((with_reducible show wpAny _ _ _ _ _ (Shared.mk _ (Shared.gens _) _ _ _)); (with_reducible first | refine fl_c ?_ rfl | refine fl_a (by assumption) ?_ rfl | refine fl_b (by assumption) ?_ rfl); (fail_if_success (with_reducible show wpAny _ _ _ _ _ (Shared.mk _ (Shared.gens _) _ _ _)))) | ((with_reducible show wpAny _ _ _ _ _ (Shared.mk _ _ _ (_ + _ + _ + _) _)); (with_reducible refine tk_gen ?_); intro tk_m) | ((with_reducible show wpAny _ _ (eval (Expr.Constant _ _ _) _) _ _ _); with_reducible first | refine cint ?_ | refine cstr ?_) | ((with_reducible show wpAny _ _ (eval (Expr.Name _ _) _) _ _ _); k_here; k_dflt (refine' nameX_L (hd := ?d) ?F ?v ?_ ?a ?b; (case F => k_asm); (case a => rfl); (case b => rfl); (case v => rfl); (case d => rfl); k_whole)) | ((with_reducible show wpAny _ _ (storeName _ _ _) _ _ _); k_here; k_dflt (refine' storeX_M ?F ?N ?_ ?a ?b; (case F => k_asm); (case N => k_asm); (case a => rfl); (case b => rfl); k_whole; intro h_m m_m F_m N_m; (try k_sweep))) | ((with_reducible show wpAny _ _ (exec _ _) _ _ _); k_fold) | (k_unfold; (try dsimp only)) | (k_end; kc_close) | walk1 | (dsimp only; walk1) | (leave1; (try dsimp only)) | fail "no step"))
    exact ret _ _ _ _ (Fr.keep (by assumption)) (News.led (by assumption)) ⟨by rw [strv_empty], rfl⟩
theorem ready_spec {w : World} {x dx d r k : Nat} {K : Sk} {p : Int} {od : Obj} {ns : List Nd} {rdy : List (Str × Tok)} {N₀ : Str → Int} (hD : Obj.IsDictOf (PySem.strKind prg w) od (ndKvs ns)) (lo' : (d == sysModules) = false) (hW : WfA ns) (off : OwnOff (ndAll ns) [r, x, dx, d]) (hH : Has ns N₀)
    (hr : rdy.length ≤ 1000) (hr0 : rdy ≠ []) (hin : ∀ q ∈ rdy.map (·.1), q ∈ ns.map (·.q)) (ne : r ≠ x ∧ r ≠ dx ∧ r ≠ d) (hp : 0 ≤ p ∧ p ≤ 1000) :
    Mut w 214 [.ref x] 1 ((r, W.listOf (strValues rdy).toArray k) :: (x, instObj 252 dx) :: (dx, srtD w K d (.ref r) p p 4) :: (d, od) :: ndAll ns) (dx < x ∧ x < d)
    (fun v led => ∃ (T : Nat) (K' : Sk) (p' : Int) (ns' : List Nd), v = .ref T ∧ led = (T, { cls := .type "tuple", data := .seq (strValues rdy).toArray }) :: (r, W.listOf #[] (k + 1)) :: (x, instObj 252 dx) :: (dx, srtD w K' d (.ref r) p' p 4) :: (d, od) :: ndAll ns' ∧
      (∀ q ∈ (r, W.listOf (strValues rdy).toArray k) :: (x, instObj 252 dx) :: (dx, srtD w K d (.ref r) p p 4) :: (d, od) :: ndAll ns, q.1 < T) ∧
      p' = p + (rdy.length : Int) ∧ Alike [r, x, dx, d] ns ns' ∧ Has ns' (fun y => if y ∈ rdy.map (·.1) then -1 else N₀ y)) := by
  refine mut_of fun A Q s0 gs dr tk0 ost g G hg hsz hled R hp' ret => ?_
  obtain ⟨hd, dp, fr, gd, un⟩ := A; obtain rfl : hd = none := R.hh
  have G' := G; obtain ⟨X, mean, mg, mb, T⟩ := G
  obtain ⟨h1, h2⟩ := hp'
  have hz1 : (strValues rdy).toArray.size ≤ 1000 := by rw [List.size_toArray, strv_len]; exact hr
  refine enterM G' hg hsz hled (R.le (by decide)) (by k_is) (by k_is) (BindsTo.of_eq (binds := [(Str.ofString "self", .ref x)]) rfl) (locs rfl) rfl rfl rfl (by decide) ?_
  intro L h₁ F N hL _ _ A1
  k_fold
  clear G' hg hled
  (repeat' (first | ((with_reducible show wpAny _ _ _ _ _ (Shared.mk _ (Shared.gens _) _ _ _)); (with_reducible first | refine fl_c ?_ rfl | refine fl_a (by assumption) ?_ rfl | refine fl_b (by assumption) ?_ rfl); (fail_if_success (with_reducible show wpAny _ _ _ _ _ (Shared.mk _ (Shared.gens _) _ _ _)))) | ((with_reducible show wpAny _ _ _ _ _ (Shared.mk _ _ _ (_ + _ + _ + _) _)); (with_reducible refine tk_gen ?_); intro tk_m) | (k_here; (with_reducible show wpAny _ _ (call (Value.type "tuple") [Value.ref _]) _ _ _); k_dflt (refine' tuple_of ?k1 ?k2 ?k3 ?k4 ?_; (case k1 => k_asm); (case k2 => k_asm); (case k3 => k_mem); (case k4 => assumption)); intro T_m h_m tk_m F_m N_m l1_m; (try k_sweep)) | ((with_reducible show wpAny _ _ (exec (Stmt.For (Expr.Name _ _) (Expr.Name _ _) (_ :: _) [] _) _) _ _ _); (k_here; k_dflt (refine wpAny_For ?_))) | ((with_reducible show wpAny _ _ (eval (Expr.Constant _ _ _) _) _ _ _); with_reducible first | refine cint ?_ | refine cstr ?_) | ((with_reducible show wpAny _ _ (eval (Expr.Name _ _) _) _ _ _); k_here; k_dflt (refine' nameX_L (hd := ?d) ?F ?v ?_ ?a ?b; (case F => k_asm); (case a => rfl); (case b => rfl); (case v => rfl); (case d => rfl); k_whole)) | ((with_reducible show wpAny _ _ (storeName _ _ _) _ _ _); k_here; k_dflt (refine' storeX_M ?F ?N ?_ ?a ?b; (case F => k_asm); (case N => k_asm); (case a => rfl); (case b => rfl); k_whole; intro h_m m_m F_m N_m; (try k_sweep))) | ((with_reducible show wpAny _ _ (exec _ _) _ _ _); k_fold) | (k_unfold; (try dsimp only)) | (k_end; kc_close) | walk1 | (dsimp only; walk1) | (leave1; (try dsimp only)) | fail "no step"))
  (with_reducible rename Fr _ _ _ _ => kF); (with_reducible rename News _ _ _ _ => kN); (with_reducible rename ∀ p_1 ∈ (_, W.listOf _ _) :: _, p_1.1 < _ => l1)
  refine cap1 kN ?_
  intro T h3
  subst h3
  have hz2 : r < T ∧ x < T ∧ dx < T ∧ d < T := ⟨l1 (r, _) (.head _), l1 (x, _) (.tail _ (.head _)), l1 (dx, _) (.tail _ (.tail _ (.head _))), l1 (d, _) (.tail _ (.tail _ (.tail _ (.head _))))⟩
  have l2 : ∀ p ∈ ndAll ns, p.1 < T := fun p hp => l1 p (.tail _ (.tail _ (.tail _ (.tail _ hp))))
  refine' for_L (L := L) [Str.ofString "node"] (fun i m nw => ∃ ns', nw = (T, { cls := .type "tuple", data := .seq (strValues rdy).toArray }) :: (r, W.listOf (strValues rdy).toArray k) :: (x, instObj 252 dx) :: (dx, srtD w K d (.ref r) p p 4) :: (d, od) :: ndAll ns' ∧ Alike [r, x, dx, d] ns ns' ∧ Has ns' (fun y => if y ∈ (rdy.take i).map (·.1) then -1 else N₀ y)) rfl (Itb.tuple (o := { cls := .type "tuple", data := .seq (strValues rdy).toArray }) rfl rfl rfl) rfl rfl kF kN (.inr (by k_mem)) ?h0 ?hJS ?turn ?done
  case h0 => exact ⟨ns, rfl, .refl hW off, hH⟩
  case hJS => rintro i m nw ⟨ns', rfl, _⟩; exact .inr (by k_mem)
  case turn =>
    intro I i v m₁ nw₁ oI h tk hlt3 hi hP hJ hoff kF kN
    k_fold
    obtain ⟨ns', rfl, hA, hH'⟩ := hJ
    obtain ⟨c, tc, hc, rfl⟩ := strv_at hP
    obtain ⟨a, ha, rfl⟩ : ∃ a ∈ ns', a.q = c := by
      have h5 := hin c (List.mem_map.mpr ⟨_, List.mem_of_getElem? hc, rfl⟩)
      rw [← hA.qs] at h5
      obtain ⟨a, ha, e⟩ := List.mem_map.mp h5
      exact ⟨a, ha, e⟩
    have hv : valueAt (ndKvs ns) a.q = some (.ref a.x) := by
      obtain ⟨j, hj⟩ := List.getElem?_of_mem ha
      rw [← hA.kvs]; exact nd_at hA.wf.nod hj
    have o1 := hA.wf.one a ha
    have o2 : @Ne Nat a.x r ∧ @Ne Nat a.x x ∧ @Ne Nat a.x dx ∧ @Ne Nat a.x d := ⟨hA.off (a.x, _) (mem_nd ha (.head _)) r (.head _), hA.off (a.x, _) (mem_nd ha (.head _)) x (.tail _ (.head _)), hA.off (a.x, _) (mem_nd ha (.head _)) dx (.tail _ (.tail _ (.head _))), hA.off (a.x, _) (mem_nd ha (.head _)) d (.tail _ (.tail _ (.tail _ (.head _))))⟩
    have o3 : @LT.lt Nat _ a.x T := hA.lt l2 (a.x, _) (mem_nd ha (.head _))
    have o4 : @LT.lt Nat _ T I := hlt3 (T, _) (.head _)
    have o5 := ndEx_off ns' (adrs a)
    replace kN : News _ L h ((I, oI) :: (T, { cls := .type "tuple", data := .seq (strValues rdy).toArray }) :: (r, W.listOf (strValues rdy).toArray k) :: (x, instObj 252 dx) :: (dx, srtD w K d (.ref r) p p 4) :: (d, od) :: (a.x, { cls := .ref 155, dict := some a.dx, data := .plain, slots := #[some (.str a.q a.t), some (.int a.n a.t'), some (.ref a.l)] }) :: (a.dx, dictOf [] 0) :: (a.l, W.listOf (strValues a.acc).toArray a.k) :: ndEx ns' (adrs a)) := News.behind (pre := [_, _, _, _, _, _]) kN (expose ha)
    have o6 : ∀ p ∈ ndEx ns' (adrs a), p.1 ≠ a.x := OwnOff.ne o5 (.head _)
    (repeat' (first | ((with_reducible show wpAny _ _ _ _ _ (Shared.mk _ (Shared.gens _) _ _ _)); (with_reducible first | refine fl_c ?_ rfl | refine fl_a (by assumption) ?_ rfl | refine fl_b (by assumption) ?_ rfl); (fail_if_success (with_reducible show wpAny _ _ _ _ _ (Shared.mk _ (Shared.gens _) _ _ _)))) | ((with_reducible show wpAny _ _ _ _ _ (Shared.mk _ _ _ (_ + _ + _ + _) _)); (with_reducible refine tk_gen ?_); intro tk_m) | (k_here; (with_reducible show wpAny _ _ (subscriptTail _ _ (Value.ref _) (Value.str _ _)) _ _ _); k_dflt (refine dget (News.get (by k_asm) (by k_mem)) (by assumption) (by assumption) ?_ ?_; rotate_left; with_unfolding_all rfl)) | ((with_reducible show wpAny _ _ (eval (Expr.Constant _ _ _) _) _ _ _); with_reducible first | refine cint ?_ | refine cstr ?_) | ((with_reducible show wpAny _ _ (eval (Expr.Name _ _) _) _ _ _); k_here; k_dflt (refine' nameX_L (hd := ?d) ?F ?v ?_ ?a ?b; (case F => k_asm); (case a => rfl); (case b => rfl); (case v => rfl); (case d => rfl); k_whole)) | ((with_reducible show wpAny _ _ (storeName _ _ _) _ _ _); k_here; k_dflt (refine' storeX_M ?F ?N ?_ ?a ?b; (case F => k_asm); (case N => k_asm); (case a => rfl); (case b => rfl); k_whole; intro h_m m_m F_m N_m; (try k_sweep))) | ((with_reducible show wpAny _ _ (exec _ _) _ _ _); k_fold) | (k_unfold; (try dsimp only)) | (k_end; kc_close) | walk1 | (dsimp only; walk1) | (leave1; (try dsimp only)) | fail "no step"))
    (with_reducible rename Fr _ _ _ _ => kF3); (with_reducible rename News _ _ _ _ => kN3)
    refine tl_next kF3 (News.behind (pre := [_, _, _, _, _, _]) kN3 (hide hA.wf ha)) (fun p hp => hp) (below_off (allLt_cons (hlt3 (T, _) (.head _)) (allLt_cons (hlt3 (r, _) (.tail _ (.head _))) (allLt_cons (hlt3 (x, _) (.tail _ (.tail _ (.head _)))) (allLt_cons (hlt3 (dx, _) (.tail _ (.tail _ (.tail _ (.head _))))) (allLt_cons (hlt3 (d, _) (.tail _ (.tail _ (.tail _ (.tail _ (.head _)))))) ((hA.upd _ _ _).lt fun p hp => hlt3 p (.tail _ (.tail _ (.tail _ (.tail _ (.tail _ hp)))))))))))) ?_ ⟨_, rfl, hA.upd _ _ _, (hH'.upd _ _ _).congr fun y => ?_⟩
    · intro z hz; (repeat refine out_st (contains_ne hz (by rfl)) ?_); simp only [mid, hz]; first | rfl | (rw [if_neg Bool.false_ne_true, if_neg (contains_ne hz (by rfl))])
    · rw [List.take_add_one, hc, List.map_append]
      by_cases h5 : y = a.q
      · rw [if_pos h5, if_pos (by rw [h5]; simp)]
      · rw [if_neg h5]
        by_cases h6 : y ∈ (rdy.take i).map (·.1)
        · rw [if_pos h6, if_pos (List.mem_append_left _ h6)]
        · rw [if_neg h6, if_neg]
          intro h7
          rcases List.mem_append.mp h7 with h7 | h7
          · exact h6 h7
          · exact h5 (List.mem_singleton.mp h7)
  case done =>
    intro m₁ nw h' tk hJ kF kN
    obtain ⟨ns', rfl, hA, hH'⟩ := hJ
    have o1 : ∀ p ∈ ndAll ns', p.1 ≠ r := OwnOff.ne hA.off (.head _)
    have o2 : ∀ p ∈ ndAll ns', p.1 ≠ dx := OwnOff.ne hA.off (.tail _ (.tail _ (.head _)))
    have hz3 : (strValues rdy).toArray.toList.length ≠ 0 := by
      simp only [strv_len]
      exact fun e => hr0 (List.length_eq_zero_iff.mp e)
    have hz4 : (strValues rdy).toArray.toList.length ≤ sizeLine := by rw [sizeLine_eq]; simp only [strv_len]; omega
    (repeat' (first | ((with_reducible show wpAny _ _ _ _ _ (Shared.mk _ (Shared.gens _) _ _ _)); (with_reducible first | refine fl_c ?_ rfl | refine fl_a (by assumption) ?_ rfl | refine fl_b (by assumption) ?_ rfl); (fail_if_success (with_reducible show wpAny _ _ _ _ _ (Shared.mk _ (Shared.gens _) _ _ _)))) | ((with_reducible show wpAny _ _ _ _ _ (Shared.mk _ _ _ (_ + _ + _ + _) _)); (with_reducible refine tk_gen ?_); intro tk_m) | (k_here; (with_reducible show wpAny _ _ (call (Value.builtin _) [Value.ref _]) _ _ _); k_dflt (refine' kl_clear ?F ?N ?U ?ne ?z ?_; (case F => k_asm); (case N => k_asm); (case U => k_upd); (case ne => assumption); (case z => assumption)); intro h_m F_m N_m; (try k_sweep)) | (k_here; (with_reducible show wpAny _ _ (call (Value.builtin "len") [Value.ref _]) _ _ _); k_dflt (refine' len_of ?k1 ?k2 ?k3 ?_; (case k1 => k_asm); (case k2 => k_mem); (case k3 => assumption); k_whole)) | ((with_reducible show wpAny _ _ (eval (Expr.Constant _ _ _) _) _ _ _); with_reducible first | refine cint ?_ | refine cstr ?_) | ((with_reducible show wpAny _ _ (eval (Expr.Name _ _) _) _ _ _); k_here; k_dflt (refine' nameX_L (hd := ?d) ?F ?v ?_ ?a ?b; (case F => k_asm); (case a => rfl); (case b => rfl); (case v => rfl); (case d => rfl); k_whole)) | ((with_reducible show wpAny _ _ (storeName _ _ _) _ _ _); k_here; k_dflt (refine' storeX_M ?F ?N ?_ ?a ?b; (case F => k_asm); (case N => k_asm); (case a => rfl); (case b => rfl); k_whole; intro h_m m_m F_m N_m; (try k_sweep))) | ((with_reducible show wpAny _ _ (exec _ _) _ _ _); k_fold) | (k_unfold; (try dsimp only)) | (k_end; kc_close) | walk1 | (dsimp only; walk1) | (leave1; (try dsimp only)) | fail "no step"))
    rw [show (strValues rdy).toArray.size = rdy.length by rw [List.size_toArray, strv_len], List.take_length] at hH'
    (with_reducible rename Fr _ _ _ _ => kF3); (with_reducible rename News _ _ _ _ => kN3)
    obtain ⟨K', kN4⟩ := srt_cut kN3
    exact ret _ _ _ _ kF3.keep (News.led kN4) ⟨T, K', _, ns', rfl, rfl, l1, by rw [List.size_toArray, strv_len], hA, hH'⟩

example : True := by w_top off; trivial
noncomputable def stepD (par : Str → List (Str × Tok)) (st : (Str → Int) × List (Str × Tok)) (q : Str) : (Str → Int) × List (Str × Tok) :=
  match par q with
  | [] => (fun y => if y = q then -2 else st.1 y, st.2)
  | (p, t) :: _ => (fun y => if y = p then (if p = q then -2 else st.1 p) - 1 else if y = q then -2 else st.1 y, if (if p = q then -2 else st.1 p) - 1 = 0 then st.2 ++ [(p, t)] else st.2)
noncomputable def foldD (par : Str → List (Str × Tok)) (N : Str → Int) (qs : List Str) : (Str → Int) × List (Str × Tok) := qs.foldl (stepD par) (N, [])
theorem Alike.at {S : List Addr} {ns ns' : List Nd} (h : Alike S ns ns') {a : Nd} (ha : a ∈ ns') : valueAt (ndKvs ns) a.q = some (.ref a.x) := by
  obtain ⟨j, hj⟩ := List.getElem?_of_mem ha
  rw [← h.kvs]; exact nd_at h.wf.nod hj
theorem Alike.accOf {S : List Addr} {ns ns' : List Nd} (h : Alike S ns ns') {a : Nd} (ha : a ∈ ns') : ∃ a0 ∈ ns, a0.q = a.q ∧ a0.acc = a.acc := by
  have h1 : (a.q, a.acc) ∈ ns'.map fun a => (a.q, a.acc) := List.mem_map.mpr ⟨a, ha, rfl⟩
  rw [h.accs] at h1
  obtain ⟨b, hb, e⟩ := List.mem_map.mp h1
  obtain ⟨e1, e2⟩ := Prod.mk.inj e
  exact ⟨b, hb, e1, e2⟩
theorem Alike.apart {r x dx d : Addr} {ns ns' : List Nd} (h : Alike [r, x, dx, d] ns ns') {a : Nd} (ha : a ∈ ns') : @Ne Nat a.x r ∧ @Ne Nat a.x x ∧ @Ne Nat a.x dx ∧ @Ne Nat a.x d :=
  ⟨h.off (a.x, _) (mem_nd ha (.head _)) r (.head _), h.off (a.x, _) (mem_nd ha (.head _)) x (.tail _ (.head _)), h.off (a.x, _) (mem_nd ha (.head _)) dx (.tail _ (.tail _ (.head _))), h.off (a.x, _) (mem_nd ha (.head _)) d (.tail _ (.tail _ (.tail _ (.head _))))⟩
theorem Alike.apart2 {r x dx d : Addr} {ns ns' : List Nd} (h : Alike [r, x, dx, d] ns ns') {a : Nd} (ha : a ∈ ns') : @Ne Nat a.dx r ∧ @Ne Nat a.dx dx ∧ @Ne Nat a.l r ∧ @Ne Nat a.l dx :=
  ⟨h.off (a.dx, _) (mem_nd ha (.tail _ (.head _))) r (.head _), h.off (a.dx, _) (mem_nd ha (.tail _ (.head _))) dx (.tail _ (.tail _ (.head _))), h.off (a.l, _) (mem_nd ha (.tail _ (.tail _ (.head _)))) r (.head _), h.off (a.l, _) (mem_nd ha (.tail _ (.tail _ (.head _)))) dx (.tail _ (.tail _ (.head _)))⟩
theorem hideL {ns : List Nd} (hW : WfA ns) {a : Nd} (ha : a ∈ ns) {n : Int} {t : Tok} {l : List (Str × Tok)} (hl : a.acc = l) : ∀ p ∈ ndAll (updN ns a.q n t), p ∈ (a.x, infO a.dx a.l a.q a.t n t) :: (a.dx, dictOf [] 0) :: (a.l, W.listOf (strValues l).toArray a.k) :: ndEx ns (adrs a) := by
  subst hl; exact hide hW ha
theorem fold_step {par : Str → List (Str × Tok)} {N₀ : Str → Int} {rdy : List (Str × Tok)} {i : Nat} {q : Str} {t : Tok} (h : rdy[i]? = some (q, t)) : foldD par N₀ ((rdy.take (i + 1)).map (·.1)) = stepD par (foldD par N₀ ((rdy.take i).map (·.1))) q := by
  unfold foldD
  rw [List.take_add_one, h, List.map_append, List.foldl_append]; rfl
theorem stepD_nil {par : Str → List (Str × Tok)} {st : (Str → Int) × List (Str × Tok)} {q : Str} (h : par q = []) : stepD par st q = (fun y => if y = q then -2 else st.1 y, st.2) := by unfold stepD; rw [h]
theorem stepD_one {par : Str → List (Str × Tok)} {st : (Str → Int) × List (Str × Tok)} {q p : Str} {t : Tok} (h : par q = [(p, t)]) (hne : p ≠ q) : stepD par st q = (fun y => if y = p then st.1 p - 1 else if y = q then -2 else st.1 y, if st.1 p - 1 = 0 then st.2 ++ [(p, t)] else st.2) := by unfold stepD; rw [h]; simp only [if_neg hne]
theorem expose2 {ns : List Nd} {a b : Nd} (ha : a ∈ ns) (hb : b ∈ ns) {S : List Nat} : ∀ p ∈ (a.x, infO a.dx a.l a.q a.t a.n a.t') :: (a.dx, dictOf [] 0) :: (a.l, W.listOf (strValues a.acc).toArray a.k) :: (b.x, infO b.dx b.l b.q b.t b.n b.t') :: (b.dx, dictOf [] 0) :: (b.l, W.listOf (strValues b.acc).toArray b.k) :: ndEx ns S, p ∈ ndAll ns := fun p hp => by
  rcases List.mem_cons.mp hp with e | hp
  · rw [e]; exact mem_nd ha (.head _)
  · rcases List.mem_cons.mp hp with e | hp
    · rw [e]; exact mem_nd ha (.tail _ (.head _))
    · rcases List.mem_cons.mp hp with e | hp
      · rw [e]; exact mem_nd ha (.tail _ (.tail _ (.head _)))
      · exact expose hb p hp
theorem off_same {l l' : List (Addr × Obj)} {I : Addr} (h : ∀ p ∈ l, p.1 ≠ I) (e : l'.map (·.1) = l.map (·.1)) : ∀ p ∈ l', p.1 ≠ I := fun p hp => by
  have h1 : p.1 ∈ l.map (·.1) := by rw [← e]; exact List.mem_map.mpr ⟨p, hp, rfl⟩
  obtain ⟨q, hq, e'⟩ := List.mem_map.mp h1
  exact e' ▸ h q hq
theorem hide2 {ns : List Nd} (hW : WfA ns) {a b : Nd} (ha : a ∈ ns) (hb : b ∈ ns) (hne : b.q ≠ a.q) {n n' : Int} {t t' : Tok} {l : List (Str × Tok)} (hl : a.acc = l) : ∀ p ∈ ndAll (updN (updN ns a.q n t) b.q n' t'), p ∈ (a.x, infO a.dx a.l a.q a.t n t) :: (a.dx, dictOf [] 0) :: (a.l, W.listOf (strValues l).toArray a.k) :: (b.x, infO b.dx b.l b.q b.t n' t') :: (b.dx, dictOf [] 0) :: (b.l, W.listOf (strValues b.acc).toArray b.k) :: ndEx ns (adrs a ++ adrs b) := fun p hp => by
  subst hl
  rcases ndAll_upd2 hW ha hb hne hp with h | h | h
  · unfold Nd.led at h
    simp only [List.mem_cons, List.not_mem_nil, or_false] at h
    rcases h with rfl | rfl | rfl
    · exact .tail _ (.tail _ (.tail _ (.head _)))
    · exact .tail _ (.tail _ (.tail _ (.tail _ (.head _))))
    · exact .tail _ (.tail _ (.tail _ (.tail _ (.tail _ (.head _)))))
  · unfold Nd.led at h
    simp only [List.mem_cons, List.not_mem_nil, or_false] at h
    rcases h with rfl | rfl | rfl
    · exact .head _
    · exact .tail _ (.head _)
    · exact .tail _ (.tail _ (.head _))
  · exact .tail _ (.tail _ (.tail _ (.tail _ (.tail _ (.tail _ h)))))
theorem srt_cut4 {w : World} {h₀ h : Heap} {L dx d : Addr} {a b c e : Addr × Obj} {rest : List (Addr × Obj)} {k1 k2 k3 k4 t3 t4 : Tok} {r : Value} {p p' : Int} (N : News h₀ L h (a :: b :: c :: e :: (dx, dictOf [{ hash := PyData.keyHash w.params (Str.ofString "_node2info"), key := .str (Str.ofString "_node2info") k1, val := .ref d }, { hash := PyData.keyHash w.params (Str.ofString "_ready_nodes"), key := .str (Str.ofString "_ready_nodes") k2, val := r }, { hash := PyData.keyHash w.params (Str.ofString "_npassedout"), key := .str (Str.ofString "_npassedout") k3, val := .int p t3 }, { hash := PyData.keyHash w.params (Str.ofString "_nfinished"), key := .str (Str.ofString "_nfinished") k4, val := .int p' t4 }] 4) :: rest)) :
    ∃ K : Sk, News h₀ L h (a :: b :: c :: e :: (dx, srtD w K d r p p' 4) :: rest) := ⟨⟨k1, k2, k3, k4, t3, t4⟩, N⟩
theorem done_spec {w : World} {x dx d r k : Nat} {K : Sk} {p f : Int} {od : Obj} {ns : List Nd} {rdy : List (Str × Tok)} {N₀ : Str → Int} {par : Str → List (Str × Tok)} (hD : Obj.IsDictOf (PySem.strKind prg w) od (ndKvs ns)) (lo' : (d == sysModules) = false) (hkl : (ndKvs ns).length ≤ 100000) (hW : WfA ns) (off : OwnOff (ndAll ns) [r, x, dx, d]) (hH : Has ns N₀)
    (hr : rdy.length ≤ 1000) (hin : ∀ q ∈ rdy.map (·.1), q ∈ ns.map (·.q)) (ne : r ≠ x ∧ r ≠ dx ∧ r ≠ d) (hf : 0 ≤ f ∧ f ≤ 1000)
    (hpar : ∀ a ∈ ns, a.acc = par a.q) (hone : ∀ a ∈ ns, par a.q = [] ∨ ∃ q t, par a.q = [(q, t)] ∧ q ∈ ns.map (·.q) ∧ q ≠ a.q)
    (hout : ∀ i q t, rdy[i]? = some (q, t) → (foldD par N₀ ((rdy.take i).map (·.1))).1 q = -1)
    (hbd : ∀ i y, i ≤ rdy.length → -10000 ≤ (foldD par N₀ ((rdy.take i).map (·.1))).1 y ∧ (foldD par N₀ ((rdy.take i).map (·.1))).1 y ≤ 10000) (hbr : ∀ i, i ≤ rdy.length → (foldD par N₀ ((rdy.take i).map (·.1))).2.length ≤ 10000) :
    Mut w 235 (.ref x :: strValues rdy) 1 ((r, W.listOf (strValues []).toArray k) :: (x, instObj 252 dx) :: (dx, srtD w K d (.ref r) p f 4) :: (d, od) :: ndAll ns) (dx < x ∧ x < d)
    (fun v led => ∃ (K' : Sk) (k' : Nat) (ns' : List Nd), v = .none ∧ led = (r, W.listOf (strValues (foldD par N₀ (rdy.map (·.1))).2).toArray k') :: (x, instObj 252 dx) :: (dx, srtD w K' d (.ref r) p (f + rdy.length) 4) :: (d, od) :: ndAll ns' ∧
      Alike [r, x, dx, d] ns ns' ∧ Has ns' (foldD par N₀ (rdy.map (·.1))).1) := by
  refine mut_of fun A Q s0 gs dr tk0 ost g G hg hsz hled R hp' ret => ?_
  obtain ⟨hd, dp, fr, gd, un⟩ := A; obtain rfl : hd = none := R.hh
  have G' := G; obtain ⟨X, mean, mg, mb, T⟩ := G
  obtain ⟨h1, h2⟩ := hp'
  obtain ⟨ne1, ne2, ne3⟩ := ne
  refine enterMV (va := Str.ofString "nodes") (vs := strValues rdy) G' hg hsz hled (R.le (by decide)) (by k_is) (by k_is) (binds := [(Str.ofString "self", .ref x)]) (by cases strValues rdy <;> rfl) (by rw [strv_len, sizeLine_eq]; omega) (locs rfl) rfl rfl rfl rfl (by decide) ?_
  intro L V h₁ tk F N hL hV hlt hVL _ A1
  k_fold
  clear G' hg hled hL hV
  generalize V = V at *
  (repeat' (first | ((with_reducible show wpAny _ _ _ _ _ (Shared.mk _ (Shared.gens _) _ _ _)); (with_reducible first | refine fl_c ?_ rfl | refine fl_a (by assumption) ?_ rfl | refine fl_b (by assumption) ?_ rfl); (fail_if_success (with_reducible show wpAny _ _ _ _ _ (Shared.mk _ (Shared.gens _) _ _ _)))) | ((with_reducible show wpAny _ _ _ _ _ (Shared.mk _ _ _ (_ + _ + _ + _) _)); (with_reducible refine tk_gen ?_); intro tk_m) | ((with_reducible show wpAny _ _ (exec (Stmt.For (Expr.Name _ _) (Expr.Name _ _) (_ :: _) [] _) _) _ _ _); (k_here; k_dflt (refine wpAny_For ?_))) | ((with_reducible show wpAny _ _ (eval (Expr.Constant _ _ _) _) _ _ _); with_reducible first | refine cint ?_ | refine cstr ?_) | ((with_reducible show wpAny _ _ (eval (Expr.Name _ _) _) _ _ _); k_here; k_dflt (refine' nameX_L (hd := ?d) ?F ?v ?_ ?a ?b; (case F => k_asm); (case a => rfl); (case b => rfl); (case v => rfl); (case d => rfl); k_whole)) | ((with_reducible show wpAny _ _ (storeName _ _ _) _ _ _); k_here; k_dflt (refine' storeX_M ?F ?N ?_ ?a ?b; (case F => k_asm); (case N => k_asm); (case a => rfl); (case b => rfl); k_whole; intro h_m m_m F_m N_m; (try k_sweep))) | ((with_reducible show wpAny _ _ (exec _ _) _ _ _); k_fold) | (k_unfold; (try dsimp only)) | (k_end; kc_close) | walk1 | (dsimp only; walk1) | (leave1; (try dsimp only)) | fail "no step"))
  (with_reducible rename Fr _ _ _ _ => kF); (with_reducible rename News _ _ _ _ => kN)
  have l2 : ∀ p ∈ ndAll ns, p.1 < V := fun p hp => hlt p (.tail _ (.tail _ (.tail _ (.tail _ hp))))
  have hz2 : r < V ∧ x < V ∧ dx < V ∧ d < V := ⟨hlt (r, _) (.head _), hlt (x, _) (.tail _ (.head _)), hlt (dx, _) (.tail _ (.tail _ (.head _))), hlt (d, _) (.tail _ (.tail _ (.tail _ (.head _))))⟩
  refine' for_L (L := L) [Str.ofString "node", Str.ofString "nodeinfo", Str.ofString "stat", Str.ofString "successor", Str.ofString "successor_info"] (fun i m nw => ∃ K' k' ns', nw = (V, { cls := .type "tuple", data := .seq (strValues rdy).toArray }) :: (r, W.listOf (strValues (foldD par N₀ ((rdy.take i).map (·.1))).2).toArray k') :: (x, instObj 252 dx) :: (dx, srtD w K' d (.ref r) p (f + (i : Int)) 4) :: (d, od) :: ndAll ns' ∧ Alike [r, x, dx, d] ns ns' ∧ Has ns' (foldD par N₀ ((rdy.take i).map (·.1))).1) rfl (Itb.tuple (o := { cls := .type "tuple", data := .seq (strValues rdy).toArray }) rfl rfl rfl) rfl rfl kF kN (.inr (by k_mem)) ?h0 ?hJS ?turn ?done
  case h0 => exact ⟨K, k, ns, by rw [show f + ((0 : Nat) : Int) = f by omega]; rfl, .refl hW off, hH⟩
  case hJS => rintro i m nw ⟨K', k', ns', rfl, _⟩; exact .inr (by k_mem)
  case turn =>
    intro I i v m₁ nw₁ oI h tk hlt3 hi hP hJ hoff kF kN
    k_fold
    obtain ⟨K', k', ns', rfl, hA, hH'⟩ := hJ
    obtain ⟨c, tc, hc, rfl⟩ := strv_at hP
    have hi2 : i < rdy.length := (List.getElem?_eq_some_iff.mp hc).1
    obtain ⟨a, ha, rfl⟩ : ∃ a ∈ ns', a.q = c := by
      have h5 := hin c (List.mem_map.mpr ⟨_, List.mem_of_getElem? hc, rfl⟩)
      rw [← hA.qs] at h5
      obtain ⟨a, ha, e⟩ := List.mem_map.mp h5
      exact ⟨a, ha, e⟩
    have hv : valueAt (ndKvs ns) a.q = some (.ref a.x) := hA.at ha
    have hn1 : a.n = -1 := (hH' a ha).trans (hout i _ _ hc)
    obtain ⟨a0, ha0, e0, e1⟩ := hA.accOf ha
    have hacc : a.acc = par a.q := by rw [← e1, hpar a0 ha0, e0]
    obtain ⟨o11, o12, o13⟩ := hA.wf.one a ha
    obtain ⟨o21, o22, o23, o24⟩ := hA.apart ha
    obtain ⟨o25, o26, o27, o28⟩ := hA.apart2 ha
    have o3 : @LT.lt Nat _ a.x V := hA.lt l2 (a.x, _) (mem_nd ha (.head _))
    have o4 : @LT.lt Nat _ V I := hlt3 (V, _) (.head _)
    have b1 : @LT.lt Nat _ r I := hlt3 (r, _) (.tail _ (.head _))
    have b2 : @LT.lt Nat _ x I := hlt3 (x, _) (.tail _ (.tail _ (.head _)))
    have b3 : @LT.lt Nat _ dx I := hlt3 (dx, _) (.tail _ (.tail _ (.tail _ (.head _))))
    have b4 : @LT.lt Nat _ d I := hlt3 (d, _) (.tail _ (.tail _ (.tail _ (.tail _ (.head _)))))
    have b5 : ∀ p ∈ ndAll ns, p.1 < I := fun p hp => hlt3 p (.tail _ (.tail _ (.tail _ (.tail _ (.tail _ hp)))))
    have hrl := hbr i (Nat.le_of_lt hi2)
    have hfi : 0 ≤ f + (i : Int) ∧ f + (i : Int) ≤ 3000 := by omega
    have hone' := hone a0 ha0
    rw [e0] at hone'
    rcases hone' with hp0 | ⟨pq, pt, hp1, hpin, hpne⟩
    · rw [hp0] at hacc
      have o5 := ndEx_off ns' (adrs a)
      have o6 : ∀ p ∈ ndEx ns' (adrs a), p.1 ≠ a.x := OwnOff.ne o5 (.head _)
      have o7 : ∀ p ∈ ndEx ns' (adrs a), p.1 ≠ dx := fun p hp => OwnOff.ne hA.off (.tail _ (.tail _ (.head _))) p (ndEx_sub hp)
      replace kN : News g L h ((I, oI) :: (V, { cls := .type "tuple", data := .seq (strValues rdy).toArray }) :: (r, W.listOf (strValues (foldD par N₀ ((rdy.take i).map (·.1))).2).toArray k') :: (x, instObj 252 dx) :: (dx, srtD w K' d (.ref r) p (f + (i : Int)) 4) :: (d, od) :: (a.x, { cls := .ref 155, dict := some a.dx, data := .plain, slots := #[some (.str a.q a.t), some (.int (-1) a.t'), some (.ref a.l)] }) :: (a.dx, dictOf [] 0) :: (a.l, W.listOf (strValues []).toArray a.k) :: ndEx ns' (adrs a)) := by
        have z := News.behind (pre := [_, _, _, _, _, _]) kN (expose ha (S := adrs a))
        rw [hacc, hn1] at z
        exact z
      (repeat' (first | ((with_reducible show wpAny _ _ _ _ _ (Shared.mk _ (Shared.gens _) _ _ _)); (with_reducible first | refine fl_c ?_ rfl | refine fl_a (by assumption) ?_ rfl | refine fl_b (by assumption) ?_ rfl); (fail_if_success (with_reducible show wpAny _ _ _ _ _ (Shared.mk _ (Shared.gens _) _ _ _)))) | ((with_reducible show wpAny _ _ _ _ _ (Shared.mk _ _ _ (_ + _ + _ + _) _)); (with_reducible refine tk_gen ?_); intro tk_m) | ((with_reducible show wpAny _ _ (exec (Stmt.For (Expr.Name _ _) (Expr.Attribute _ _ _) (_ :: _) [] _) _) _ _ _); (k_here; k_dflt (refine wpAny_For ?_))) | (k_here; (with_reducible show wpAny _ _ (call (Value.builtin "dict.get") [Value.ref _, Value.str _ _]) _ _ _); k_dflt (refine kdg_get1 (knd := PySem.strKind prg _) (by k_asm) (by k_mem) (by assumption) (by assumption) (strKind_is _ _ _ _) _ (by assumption) ?_); (try dsimp only [Option.getD])) | (k_here; (with_reducible show wpAny _ _ (getMethod (Value.ref _) (Str.ofString "get") _) _ _ _); k_dflt (refine kdg_method (knd := PySem.strKind prg _) (by k_asm) (by k_mem) (by assumption) ?_)) | ((with_reducible show wpAny _ _ (eval (Expr.Constant _ _ _) _) _ _ _); with_reducible first | refine cint ?_ | refine cstr ?_) | ((with_reducible show wpAny _ _ (eval (Expr.Name _ _) _) _ _ _); k_here; k_dflt (refine' nameX_L (hd := ?d) ?F ?v ?_ ?a ?b; (case F => k_asm); (case a => rfl); (case b => rfl); (case v => rfl); (case d => rfl); k_whole)) | ((with_reducible show wpAny _ _ (storeName _ _ _) _ _ _); k_here; k_dflt (refine' storeX_M ?F ?N ?_ ?a ?b; (case F => k_asm); (case N => k_asm); (case a => rfl); (case b => rfl); k_whole; intro h_m m_m F_m N_m; (try k_sweep))) | ((with_reducible show wpAny _ _ (exec _ _) _ _ _); k_fold) | (k_unfold; (try dsimp only)) | (k_end; kc_close) | walk1 | (dsimp only; walk1) | (leave1; (try dsimp only)) | fail "no step"))
      (with_reducible rename Fr _ _ _ _ => kF2); (with_reducible rename News _ _ _ _ => kN2)
      refine' for_L (L := L) [] (fun _ m nw => nw = _) rfl (Itb.list (o := W.listOf (strValues []).toArray a.k) rfl rfl rfl) rfl rfl kF2 kN2 (.inr (by k_mem)) rfl ?hJS2 ?turn2 ?done2
      case hJS2 => rintro i m nw rfl; exact .inr (by k_mem)
      case turn2 => intro I i v m₁ nw₁ oI h tk hlt hi; exact absurd hi (Nat.not_lt_zero _)
      case done2 =>
        intro m₂ nw h' tk hJ kF kN
        subst hJ
        (repeat' (first | ((with_reducible show wpAny _ _ _ _ _ (Shared.mk _ (Shared.gens _) _ _ _)); (with_reducible first | refine fl_c ?_ rfl | refine fl_a (by assumption) ?_ rfl | refine fl_b (by assumption) ?_ rfl); (fail_if_success (with_reducible show wpAny _ _ _ _ _ (Shared.mk _ (Shared.gens _) _ _ _)))) | ((with_reducible show wpAny _ _ _ _ _ (Shared.mk _ _ _ (_ + _ + _ + _) _)); (with_reducible refine tk_gen ?_); intro tk_m) | ((with_reducible show wpAny _ _ (eval (Expr.Constant _ _ _) _) _ _ _); with_reducible first | refine cint ?_ | refine cstr ?_) | ((with_reducible show wpAny _ _ (eval (Expr.Name _ _) _) _ _ _); k_here; k_dflt (refine' nameX_L (hd := ?d) ?F ?v ?_ ?a ?b; (case F => k_asm); (case a => rfl); (case b => rfl); (case v => rfl); (case d => rfl); k_whole)) | ((with_reducible show wpAny _ _ (storeName _ _ _) _ _ _); k_here; k_dflt (refine' storeX_M ?F ?N ?_ ?a ?b; (case F => k_asm); (case N => k_asm); (case a => rfl); (case b => rfl); k_whole; intro h_m m_m F_m N_m; (try k_sweep))) | ((with_reducible show wpAny _ _ (exec _ _) _ _ _); k_fold) | (k_unfold; (try dsimp only)) | (k_end; kc_close) | walk1 | (dsimp only; walk1) | (leave1; (try dsimp only)) | fail "no step"))
        (with_reducible rename Fr _ _ _ _ => kF3); (with_reducible rename News _ _ _ _ => kN3)
        obtain ⟨K2, kN4⟩ := srt_cut4 kN3
        refine tl_next kF3 (News.behind (pre := [_, _, _, _, _, _]) kN4 (hideL hA.wf ha hacc)) (fun p hp => hp) (below_off (allLt_cons o4 (allLt_cons b1 (allLt_cons b2 (allLt_cons b3 (allLt_cons b4 ((hA.upd _ _ _).lt b5))))))) ?_ ⟨K2, k', updN ns' a.q (-2) 366, ?_, hA.upd _ _ _, (hH'.upd _ _ _).congr fun y => ?_⟩
        · intro z hz; (repeat refine out_st (contains_ne hz (by rfl)) ?_); simp only [mid, hz, List.contains_nil, Bool.false_eq_true, if_false]; (repeat refine out_st (contains_ne hz (by rfl)) ?_)
        · rw [fold_step hc, stepD_nil hp0, show f + (((i + 1 : Nat)) : Int) = f + (i : Int) + 1 by omega]; rfl
        · rw [fold_step hc, stepD_nil hp0]
    · obtain ⟨b, hb, rfl⟩ : ∃ b ∈ ns', b.q = pq := by
        rw [← hA.qs] at hpin
        obtain ⟨b, hb, e⟩ := List.mem_map.mp hpin
        exact ⟨b, hb, e⟩
      rw [hp1] at hacc
      have hv2 : valueAt (ndKvs ns) b.q = some (.ref b.x) := hA.at hb
      have hbn := hH' b hb
      have hbb := hbd i b.q (Nat.le_of_lt hi2)
      rw [← hbn] at hbb
      have o5 := ndEx_off ns' (adrs a ++ adrs b)
      have o6 : ∀ p ∈ ndEx ns' (adrs a ++ adrs b), p.1 ≠ a.x := OwnOff.ne o5 (.head _)
      have o6' : ∀ p ∈ ndEx ns' (adrs a ++ adrs b), p.1 ≠ b.x := OwnOff.ne o5 (.tail _ (.tail _ (.tail _ (.head _))))
      have o7 : ∀ p ∈ ndEx ns' (adrs a ++ adrs b), p.1 ≠ dx := fun p hp => OwnOff.ne hA.off (.tail _ (.tail _ (.head _))) p (ndEx_sub hp)
      have o8 : ∀ p ∈ ndEx ns' (adrs a ++ adrs b), p.1 ≠ r := fun p hp => OwnOff.ne hA.off (.head _) p (ndEx_sub hp)
      obtain ⟨p11, p12, p13⟩ := hA.wf.one b hb
      obtain ⟨p21, p22, p23, p24⟩ := hA.apart hb
      obtain ⟨p25, p26, p27, p28⟩ := hA.apart2 hb
      have p3 : @LT.lt Nat _ b.x V := hA.lt l2 (b.x, _) (mem_nd hb (.head _))
      have p4 := hA.wf.two a ha b hb (Ne.symm hpne)
      have p5 : @Ne Nat a.x b.x := p4 _ (.head _) _ (.head _)
      have p6 : @Ne Nat a.x b.dx := p4 _ (.head _) _ (.tail _ (.head _))
      have p7 : @Ne Nat a.x b.l := p4 _ (.head _) _ (.tail _ (.tail _ (.head _)))
      have p8 : @Ne Nat a.dx b.x := p4 _ (.tail _ (.head _)) _ (.head _)
      have p9 : @Ne Nat a.l b.x := p4 _ (.tail _ (.tail _ (.head _))) _ (.head _)
      replace kN : News g L h ((I, oI) :: (V, { cls := .type "tuple", data := .seq (strValues rdy).toArray }) :: (r, W.listOf (strValues (foldD par N₀ ((rdy.take i).map (·.1))).2).toArray k') :: (x, instObj 252 dx) :: (dx, srtD w K' d (.ref r) p (f + (i : Int)) 4) :: (d, od) :: (a.x, { cls := .ref 155, dict := some a.dx, data := .plain, slots := #[some (.str a.q a.t), some (.int (-1) a.t'), some (.ref a.l)] }) :: (a.dx, dictOf [] 0) :: (a.l, W.listOf (strValues [(b.q, pt)]).toArray a.k) :: (b.x, { cls := .ref 155, dict := some b.dx, data := .plain, slots := #[some (.str b.q b.t), some (.int b.n b.t'), some (.ref b.l)] }) :: (b.dx, dictOf [] 0) :: (b.l, W.listOf (strValues b.acc).toArray b.k) :: ndEx ns' (adrs a ++ adrs b)) := by
        have z := News.behind (pre := [_, _, _, _, _, _]) kN (expose2 ha hb (S := adrs a ++ adrs b))
        rw [hacc, hn1] at z
        exact z
      (repeat' (first | ((with_reducible show wpAny _ _ _ _ _ (Shared.mk _ (Shared.gens _) _ _ _)); (with_reducible first | refine fl_c ?_ rfl | refine fl_a (by assumption) ?_ rfl | refine fl_b (by assumption) ?_ rfl); (fail_if_success (with_reducible show wpAny _ _ _ _ _ (Shared.mk _ (Shared.gens _) _ _ _)))) | ((with_reducible show wpAny _ _ _ _ _ (Shared.mk _ _ _ (_ + _ + _ + _) _)); (with_reducible refine tk_gen ?_); intro tk_m) | ((with_reducible show wpAny _ _ (exec (Stmt.For (Expr.Name _ _) (Expr.Attribute _ _ _) (_ :: _) [] _) _) _ _ _); (k_here; k_dflt (refine wpAny_For ?_))) | (k_here; (with_reducible show wpAny _ _ (call (Value.builtin "dict.get") [Value.ref _, Value.str _ _]) _ _ _); k_dflt (refine kdg_get1 (knd := PySem.strKind prg _) (by k_asm) (by k_mem) (by assumption) (by assumption) (strKind_is _ _ _ _) _ (by assumption) ?_); (try dsimp only [Option.getD])) | (k_here; (with_reducible show wpAny _ _ (getMethod (Value.ref _) (Str.ofString "get") _) _ _ _); k_dflt (refine kdg_method (knd := PySem.strKind prg _) (by k_asm) (by k_mem) (by assumption) ?_)) | ((with_reducible show wpAny _ _ (eval (Expr.Constant _ _ _) _) _ _ _); with_reducible first | refine cint ?_ | refine cstr ?_) | ((with_reducible show wpAny _ _ (eval (Expr.Name _ _) _) _ _ _); k_here; k_dflt (refine' nameX_L (hd := ?d) ?F ?v ?_ ?a ?b; (case F => k_asm); (case a => rfl); (case b => rfl); (case v => rfl); (case d => rfl); k_whole)) | ((with_reducible show wpAny _ _ (storeName _ _ _) _ _ _); k_here; k_dflt (refine' storeX_M ?F ?N ?_ ?a ?b; (case F => k_asm); (case N => k_asm); (case a => rfl); (case b => rfl); k_whole; intro h_m m_m F_m N_m; (try k_sweep))) | ((with_reducible show wpAny _ _ (exec _ _) _ _ _); k_fold) | (k_unfold; (try dsimp only)) | (k_end; kc_close) | walk1 | (dsimp only; walk1) | (leave1; (try dsimp only)) | fail "no step"))
      (with_reducible rename Fr _ _ _ _ => kF2); (with_reducible rename News _ _ _ _ => kN2)
      generalize hrd0 : (foldD par N₀ ((rdy.take i).map (·.1))).2 = rd0 at kN2 hrl
      refine' for_L (L := L) [Str.ofString "successor", Str.ofString "successor_info"] (fun j m nw => ∃ rd kk nb tb, nw = (I, oI) :: (V, { cls := .type "tuple", data := .seq (strValues rdy).toArray }) :: (r, W.listOf (strValues rd).toArray kk) :: (x, instObj 252 dx) :: (dx, srtD w K' d (.ref r) p (f + (i : Int)) 4) :: (d, od) :: (a.x, { cls := .ref 155, dict := some a.dx, data := .plain, slots := #[some (.str a.q a.t), some (.int (-2) 366), some (.ref a.l)] }) :: (a.dx, dictOf [] 0) :: (a.l, W.listOf (strValues [(b.q, pt)]).toArray a.k) :: (b.x, { cls := .ref 155, dict := some b.dx, data := .plain, slots := #[some (.str b.q b.t), some (.int nb tb), some (.ref b.l)] }) :: (b.dx, dictOf [] 0) :: (b.l, W.listOf (strValues b.acc).toArray b.k) :: ndEx ns' (adrs a ++ adrs b) ∧ ((j = 0 ∧ rd = rd0 ∧ nb = b.n) ∨ (j = 1 ∧ nb = b.n - 1 ∧ rd = if b.n - 1 = 0 then rd0 ++ [(b.q, pt)] else rd0))) rfl (Itb.list (o := W.listOf (strValues [(b.q, pt)]).toArray a.k) rfl rfl rfl) rfl rfl kF2 kN2 (.inr (by k_mem)) ?h03 ?hJS3 ?turn3 ?done3
      case h03 => exact ⟨_, _, _, _, rfl, .inl ⟨rfl, rfl, rfl⟩⟩
      case hJS3 => rintro i m nw ⟨rd, kk, nb, tb, rfl, _⟩; exact .inr (by k_mem)
      case turn3 =>
        intro I2 j v m₁ nw₁ oI2 h tk hlt4 hj hP2 hJ hoff2 kF kN
        k_fold
        obtain rfl : j = 0 := Nat.lt_one_iff.mp hj
        obtain rfl : Value.str b.q pt = v := Option.some.inj hP2
        obtain ⟨rd, kk, nb, tb, rfl, (⟨_, rfl, rfl⟩ | ⟨e, _⟩)⟩ := hJ
        · have q1 : @LT.lt Nat _ I I2 := hlt4 (I, _) (.head _)
          have q2 : @LT.lt Nat _ V I2 := hlt4 (V, _) (.tail _ (.head _))
          have q3 : @LT.lt Nat _ b.x I2 := hlt4 (b.x, _) (.tail _ (.tail _ (.tail _ (.tail _ (.tail _ (.tail _ (.tail _ (.tail _ (.tail _ (.head _))))))))))
          have q4 : @LT.lt Nat _ r I2 := hlt4 (r, _) (.tail _ (.tail _ (.head _)))
          (repeat' (first | ((with_reducible show wpAny _ _ _ _ _ (Shared.mk _ (Shared.gens _) _ _ _)); (with_reducible first | refine fl_c ?_ rfl | refine fl_a (by assumption) ?_ rfl | refine fl_b (by assumption) ?_ rfl); (fail_if_success (with_reducible show wpAny _ _ _ _ _ (Shared.mk _ (Shared.gens _) _ _ _)))) | ((with_reducible show wpAny _ _ _ _ _ (Shared.mk _ _ _ (_ + _ + _ + _) _)); (with_reducible refine tk_gen ?_); intro tk_m) | (k_here; (with_reducible show wpAny _ _ (subscriptTail _ _ (Value.ref _) (Value.str _ _)) _ _ _); k_dflt (refine dget (News.get (by k_asm) (by k_mem)) (by assumption) (by assumption) ?_ ?_; rotate_left; with_unfolding_all rfl)) | (k_here; (with_reducible show wpAny _ _ (call (Value.builtin "list.append") [Value.ref _, Value.str _ _]) _ _ _); k_dflt (refine' append_strs ?k1 ?k2 ?k3 ?z ?_; (case k1 => k_asm); (case k2 => k_asm); (case k3 => k_upd); (case z => first | assumption | omega | (simp only [List.length_append, List.length_singleton, List.length_nil, List.length_cons]; omega)); k_whole); intro h_m F_m N_m; (try k_sweep)) | ((with_reducible show wpAny _ _ (eval (Expr.Constant _ _ _) _) _ _ _); with_reducible first | refine cint ?_ | refine cstr ?_) | ((with_reducible show wpAny _ _ (eval (Expr.Name _ _) _) _ _ _); k_here; k_dflt (refine' nameX_L (hd := ?d) ?F ?v ?_ ?a ?b; (case F => k_asm); (case a => rfl); (case b => rfl); (case v => rfl); (case d => rfl); k_whole)) | ((with_reducible show wpAny _ _ (storeName _ _ _) _ _ _); k_here; k_dflt (refine' storeX_M ?F ?N ?_ ?a ?b; (case F => k_asm); (case N => k_asm); (case a => rfl); (case b => rfl); k_whole; intro h_m m_m F_m N_m; (try k_sweep))) | ((with_reducible show wpAny _ _ (exec _ _) _ _ _); k_fold) | (k_unfold; (try dsimp only)) | (k_end; kc_close) | walk1 | (dsimp only; walk1) | (leave1; (try dsimp only)) | fail "no step"))
          all_goals
            (with_reducible rename Fr _ _ _ _ => kF4); (with_reducible rename News _ _ _ _ => kN4)
            refine tl_next kF4 kN4 (fun p hp => hp) (off_same hoff2 rfl) ?_ ⟨_, _, _, _, rfl, .inr ⟨rfl, rfl, ?_⟩⟩
          · intro z hz; (repeat refine out_st (contains_ne hz (by rfl)) ?_); simp only [mid, hz]; first | rfl | (rw [if_neg Bool.false_ne_true])
          · rw [if_pos (by assumption)]
          · intro z hz; (repeat refine out_st (contains_ne hz (by rfl)) ?_); simp only [mid, hz]; first | rfl | (rw [if_neg Bool.false_ne_true])
          · rw [if_neg (by assumption)]
        · cases e
      case done3 =>
        intro m₂ nw h' tk hJ kF kN
        obtain ⟨rd, kk, nb, tb, rfl, (⟨e, _⟩ | ⟨_, rfl, hrd⟩)⟩ := hJ
        · cases e
        · (repeat' (first | ((with_reducible show wpAny _ _ _ _ _ (Shared.mk _ (Shared.gens _) _ _ _)); (with_reducible first | refine fl_c ?_ rfl | refine fl_a (by assumption) ?_ rfl | refine fl_b (by assumption) ?_ rfl); (fail_if_success (with_reducible show wpAny _ _ _ _ _ (Shared.mk _ (Shared.gens _) _ _ _)))) | ((with_reducible show wpAny _ _ _ _ _ (Shared.mk _ _ _ (_ + _ + _ + _) _)); (with_reducible refine tk_gen ?_); intro tk_m) | ((with_reducible show wpAny _ _ (eval (Expr.Constant _ _ _) _) _ _ _); with_reducible first | refine cint ?_ | refine cstr ?_) | ((with_reducible show wpAny _ _ (eval (Expr.Name _ _) _) _ _ _); k_here; k_dflt (refine' nameX_L (hd := ?d) ?F ?v ?_ ?a ?b; (case F => k_asm); (case a => rfl); (case b => rfl); (case v => rfl); (case d => rfl); k_whole)) | ((with_reducible show wpAny _ _ (storeName _ _ _) _ _ _); k_here; k_dflt (refine' storeX_M ?F ?N ?_ ?a ?b; (case F => k_asm); (case N => k_asm); (case a => rfl); (case b => rfl); k_whole; intro h_m m_m F_m N_m; (try k_sweep))) | ((with_reducible show wpAny _ _ (exec _ _) _ _ _); k_fold) | (k_unfold; (try dsimp only)) | (k_end; kc_close) | walk1 | (dsimp only; walk1) | (leave1; (try dsimp only)) | fail "no step"))
          (with_reducible rename Fr _ _ _ _ => kF3); (with_reducible rename News _ _ _ _ => kN3)
          obtain ⟨K2, kN4⟩ := srt_cut4 kN3
          refine tl_next kF3 (News.behind (pre := [_, _, _, _, _, _]) kN4 (hide2 hA.wf ha hb hpne hacc)) (fun p hp => hp) (below_off (allLt_cons o4 (allLt_cons b1 (allLt_cons b2 (allLt_cons b3 (allLt_cons b4 (((hA.upd _ _ _).upd _ _ _).lt b5))))))) ?_ ⟨K2, kk, updN (updN ns' a.q (-2) 366) b.q (b.n - 1) tb, ?_, (hA.upd _ _ _).upd _ _ _, ((hH'.upd _ _ _).upd _ _ _).congr fun y => ?_⟩
          · intro z hz
            have hz2 : [Str.ofString "successor", Str.ofString "successor_info"].contains z = false := by
              rw [Bool.eq_false_iff] at hz ⊢
              intro q; apply hz
              rw [List.contains_iff_mem] at q ⊢
              exact .tail _ (.tail _ (.tail _ q))
            (repeat refine out_st (contains_ne hz (by rfl)) ?_); simp only [mid, hz, hz2, Bool.false_eq_true, if_false]; (repeat refine out_st (contains_ne hz (by rfl)) ?_); (try simp only [mid, hz, Bool.false_eq_true, if_false])
          · rw [fold_step hc, stepD_one hp1 hpne, show f + (((i + 1 : Nat)) : Int) = f + (i : Int) + 1 by omega, hrd0, ← hbn, ← hrd]; rfl
          · rw [fold_step hc, stepD_one hp1 hpne, ← hbn]
  case done =>
    intro m₁ nw h' tk hJ kF kN
    obtain ⟨K', k', ns', rfl, hA, hH'⟩ := hJ
    rw [show (strValues rdy).toArray.size = rdy.length by rw [List.size_toArray, strv_len], List.take_length] at hH' kN
    (repeat' (first | ((with_reducible show wpAny _ _ _ _ _ (Shared.mk _ (Shared.gens _) _ _ _)); (with_reducible first | refine fl_c ?_ rfl | refine fl_a (by assumption) ?_ rfl | refine fl_b (by assumption) ?_ rfl); (fail_if_success (with_reducible show wpAny _ _ _ _ _ (Shared.mk _ (Shared.gens _) _ _ _)))) | ((with_reducible show wpAny _ _ _ _ _ (Shared.mk _ _ _ (_ + _ + _ + _) _)); (with_reducible refine tk_gen ?_); intro tk_m) | ((with_reducible show wpAny _ _ (eval (Expr.Constant _ _ _) _) _ _ _); with_reducible first | refine cint ?_ | refine cstr ?_) | ((with_reducible show wpAny _ _ (eval (Expr.Name _ _) _) _ _ _); k_here; k_dflt (refine' nameX_L (hd := ?d) ?F ?v ?_ ?a ?b; (case F => k_asm); (case a => rfl); (case b => rfl); (case v => rfl); (case d => rfl); k_whole)) | ((with_reducible show wpAny _ _ (storeName _ _ _) _ _ _); k_here; k_dflt (refine' storeX_M ?F ?N ?_ ?a ?b; (case F => k_asm); (case N => k_asm); (case a => rfl); (case b => rfl); k_whole; intro h_m m_m F_m N_m; (try k_sweep))) | ((with_reducible show wpAny _ _ (exec _ _) _ _ _); k_fold) | (k_unfold; (try dsimp only)) | (k_end; kc_close) | walk1 | (dsimp only; walk1) | (leave1; (try dsimp only)) | fail "no step"))
    (with_reducible rename Fr _ _ _ _ => kF3); (with_reducible rename News _ _ _ _ => kN3)
    exact ret _ _ _ _ kF3.keep (News.led fun p hp => kN3 p (.tail _ hp)) ⟨K', k', ns', rfl, rfl, hA, hH'⟩

noncomputable def chN (P : List (List Nat)) (q : List Nat) : Nat := (P.filter fun p => decide (p ≠ [] ∧ p.dropLast = q)).length
theorem chN_snoc (P : List (List Nat)) (q p : List Nat) (c : Nat) : chN (P ++ [p ++ [c]]) q = chN P q + if p = q then 1 else 0 := by
  unfold chN
  rw [List.filter_append, List.length_append]
  congr 1
  by_cases h : p = q <;> simp [h]
theorem chN_root (P : List (List Nat)) (q : List Nat) : chN (P ++ [[]]) q = chN P q := by
  unfold chN
  rw [List.filter_append, List.length_append]
  simp
theorem chN_le (P : List (List Nat)) (q : List Nat) : chN P q ≤ P.length := List.length_filter_le _ _
structure GrOk (P : List (List Nat)) (ns : List Nd) : Prop where
  q : ns.map (·.q) = P.map pathS
  acc : ∀ a ∈ ns, ∀ p, a.q = pathS p → (p = [] → a.acc = []) ∧ (∀ r c, p = r ++ [c] → ∃ t, a.acc = [(pathS r, t)])
  n : ∀ a ∈ ns, ∀ p, a.q = pathS p → a.n = (chN P p : Int)
theorem GrOk.nil : GrOk [] [] := ⟨rfl, (fun _ h => nomatch h), (fun _ h => nomatch h)⟩
theorem chN_none {P : List (List Nat)} {q : List Nat} (h : ∀ p ∈ P, p ≠ [] → p.dropLast ≠ q) : chN P q = 0 := by
  unfold chN
  rw [List.length_eq_zero_iff, List.filter_eq_nil_iff]
  intro p hp
  simp only [decide_eq_true_eq]
  exact fun h' => h p hp h'.1 h'.2
theorem GrOk.root {ns : List Nd} {a : Nd} (hns : ns = []) (hq : a.q = pathS []) (ha : a.acc = []) (hn : a.n = 0) : GrOk [[]] (ns ++ [a]) := by
  subst hns
  refine ⟨by simp [hq], fun b hb p hp => ?_, fun b hb p hp => ?_⟩
  · obtain rfl : b = a := List.mem_singleton.mp hb
    obtain rfl : [] = p := pathS_inj (hq.symm.trans hp)
    exact ⟨fun _ => ha, fun r c e => by simp at e⟩
  · obtain rfl : b = a := List.mem_singleton.mp hb
    obtain rfl : [] = p := pathS_inj (hq.symm.trans hp)
    rw [hn]; rfl
theorem GrOk.edge {P : List (List Nat)} {ns : List Nd} {b : Nd} {r : List Nat} {c : Nat} {t tt : Tok} {m : Int} (h : GrOk P ns) (hnew : r ++ [c] ∉ P) (hleaf : ∀ p ∈ P, p ≠ [] → p.dropLast ≠ r ++ [c]) (hr : r ∈ P) (hq : b.q = pathS (r ++ [c])) (hb : b.acc = [(pathS r, t)]) (hbn : b.n = 0) (hm : m = (chN P r : Int) + 1) :
    GrOk (P ++ [r ++ [c]]) (updN ns (pathS r) m tt ++ [b]) := by
  refine ⟨by rw [List.map_append, List.map_append, upd_map (·.q) (fun _ _ _ => rfl), h.q]; simp [hq], fun a ha p hp => ?_, fun a ha p hp => ?_⟩
  · rcases List.mem_append.mp ha with ha | ha
    · obtain ⟨a0, ha0, (⟨e, rfl⟩ | ⟨e, rfl⟩)⟩ := upd_mem ha
      · exact h.acc a0 ha0 p hp
      · exact h.acc _ ha0 p hp
    · obtain rfl : a = b := List.mem_singleton.mp ha
      obtain rfl : r ++ [c] = p := pathS_inj (hq.symm.trans hp)
      refine ⟨fun e => by simp at e, fun r' c' e => ?_⟩
      obtain ⟨e1, _⟩ := List.append_inj' e rfl
      exact ⟨t, by rw [hb, e1]⟩
  · rw [chN_snoc]
    rcases List.mem_append.mp ha with ha | ha
    · obtain ⟨a0, ha0, (⟨e, rfl⟩ | ⟨e, rfl⟩)⟩ := upd_mem ha
      · have : r = p := pathS_inj (e.symm.trans hp)
        rw [if_pos this, ← this]
        show m = _
        rw [hm]; simp
      · rw [if_neg (fun e' => e (by rw [hp, e'])), h.n _ ha0 p hp]; simp
    · obtain rfl : a = b := List.mem_singleton.mp ha
      obtain rfl : r ++ [c] = p := pathS_inj (hq.symm.trans hp)
      rw [hbn, chN_none hleaf, if_neg (by simp)]; rfl

noncomputable def GoodPar (P : List (List Nat)) (par : Str → List (Str × Tok)) : Prop := ∀ q ∈ P, (q = [] → par (pathS q) = []) ∧ ∀ r c, q = r ++ [c] → ∃ t, par (pathS q) = [(pathS r, t)]
abbrev outN (st : (Str → Int) × List (Str × Tok)) : Str → Int := fun y => if y ∈ st.2.map (·.1) then -1 else st.1 y
noncomputable def stepR (par : Str → List (Str × Tok)) (st : (Str → Int) × List (Str × Tok)) : (Str → Int) × List (Str × Tok) := foldD par (outN st) (st.2.map (·.1))
noncomputable def iterR (par : Str → List (Str × Tok)) (st : (Str → Int) × List (Str × Tok)) : Nat → (Str → Int) × List (Str × Tok)
  | 0 => st
  | k + 1 => stepR par (iterR par st k)
structure Sched (Q : List Str) (par : Str → List (Str × Tok)) (st : (Str → Int) × List (Str × Tok)) (H : Nat) : Prop where
  run : ∀ k, k < H → (iterR par st k).2 ≠ []
  stop : (iterR par st H).2 = []
  inn : ∀ k, k ≤ H → ∀ q ∈ (iterR par st k).2.map (·.1), q ∈ Q
  len : ∀ k, k ≤ H → (iterR par st k).2.length ≤ 20
  out : ∀ k, k < H → ∀ i q t, (iterR par st k).2[i]? = some (q, t) → (foldD par (outN (iterR par st k)) (((iterR par st k).2.take i).map (·.1))).1 q = -1
  bd : ∀ k, k < H → ∀ i y, i ≤ (iterR par st k).2.length → -10000 ≤ (foldD par (outN (iterR par st k)) (((iterR par st k).2.take i).map (·.1))).1 y ∧ (foldD par (outN (iterR par st k)) (((iterR par st k).2.take i).map (·.1))).1 y ≤ 10000
  br : ∀ k, k < H → ∀ i, i ≤ (iterR par st k).2.length → (foldD par (outN (iterR par st k)) (((iterR par st k).2.take i).map (·.1))).2.length ≤ 10000
  hH : H ≤ 20
noncomputable def parOf (ns : List Nd) (y : Str) : List (Str × Tok) := ((ns.find? fun a => decide (a.q = y)).map (·.acc)).getD []
theorem parOf_at {ns : List Nd} (hW : WfA ns) {a : Nd} (ha : a ∈ ns) : parOf ns a.q = a.acc := by
  unfold parOf
  cases h : ns.find? fun b => decide (b.q = a.q) with
  | none =>
    rw [List.find?_eq_none] at h
    exact absurd (decide_eq_true (rfl : a.q = a.q)) (h a ha)
  | some b =>
    have h1 := List.mem_of_find?_eq_some h
    have h2 := List.find?_some h
    rw [hW.same h1 ha (by simpa using h2)]; rfl
theorem GrOk.goodPar {P : List (List Nat)} {ns : List Nd} (h : GrOk P ns) (hW : WfA ns) : GoodPar P (parOf ns) := fun q hq => by
  have : pathS q ∈ ns.map (·.q) := by rw [h.q]; exact List.mem_map.mpr ⟨q, hq, rfl⟩
  obtain ⟨a, ha, e⟩ := List.mem_map.mp this
  rw [← e, parOf_at hW ha]
  exact h.acc a ha q e

noncomputable def cntD (P D : List (List Nat)) (q : List Nat) : Nat := (P.filter fun p => decide (p ≠ [] ∧ p.dropLast = q ∧ p ∉ D)).length
structure StD (P D O : List (List Nat)) (st : (Str → Int) × List (Str × Tok)) (R : List (List Nat)) : Prop where
  n : ∀ q ∈ P, st.1 (pathS q) = if q ∈ D then -2 else if q ∈ O then -1 else (cntD P D q : Int)
  n0 : ∀ y, y ∉ P.map pathS → st.1 y = 0
  r : st.2.map (·.1) = R.map pathS
  nod : R.Nodup
  mem : ∀ q, q ∈ R ↔ q ∈ P ∧ q ∉ D ∧ q ∉ O ∧ cntD P D q = 0
theorem cnt_le (P D : List (List Nat)) (q : List Nat) : cntD P D q ≤ P.length := List.length_filter_le _ _
theorem cnt_pos {P D : List (List Nat)} {q : List Nat} : cntD P D q = 0 ↔ ∀ p ∈ P, p ≠ [] → p.dropLast = q → p ∈ D := by
  unfold cntD
  rw [List.length_eq_zero_iff, List.filter_eq_nil_iff]
  refine ⟨fun h p hp h1 h2 => ?_, fun h p hp => ?_⟩
  · have := h p hp
    simp only [decide_eq_true_eq, not_and, Decidable.not_not] at this
    exact this h1 h2
  · simp only [decide_eq_true_eq, not_and, Decidable.not_not]
    exact h p hp
theorem cnt_snoc_ne {P D : List (List Nat)} {q x : List Nat} (h : x = [] ∨ x.dropLast ≠ q) : cntD P (D ++ [x]) q = cntD P D q := by
  unfold cntD
  congr 1
  refine List.filter_congr fun p hp => ?_
  refine decide_eq_decide.mpr ⟨fun ⟨a, b, c⟩ => ⟨a, b, fun d => c (List.mem_append_left _ d)⟩, fun ⟨a, b, c⟩ => ⟨a, b, fun d => ?_⟩⟩
  rcases List.mem_append.mp d with d | d
  · exact c d
  · rw [List.mem_singleton.mp d] at a b
    rcases h with h | h
    · exact a h
    · exact h b
theorem filter_erase_len {α : Type} [DecidableEq α] {P : List α} {f g : α → Bool} {x : α} (hn : P.Nodup) (hx : x ∈ P) (fx : f x = true) (gx : g x = false) (e : ∀ y, y ≠ x → f y = g y) : (P.filter f).length = (P.filter g).length + 1 := by
  induction P with
  | nil => cases hx
  | cons a P ih =>
    rw [List.nodup_cons] at hn
    rcases List.mem_cons.mp hx with rfl | hx
    · rw [List.filter_cons, List.filter_cons, fx, gx, if_pos rfl, if_neg (by decide), List.length_cons]
      congr 2
      refine List.filter_congr fun y hy => e y fun h => hn.1 (h ▸ hy)
    · have hne : a ≠ x := fun h => hn.1 (h ▸ hx)
      rw [List.filter_cons, List.filter_cons, e a hne]
      split
      · rw [List.length_cons, List.length_cons, ih hn.2 hx]
      · exact ih hn.2 hx
theorem cnt_snoc {P D : List (List Nat)} {r : List Nat} {c : Nat} (hn : P.Nodup) (hx : r ++ [c] ∈ P) (hD : r ++ [c] ∉ D) : cntD P D r = cntD P (D ++ [r ++ [c]]) r + 1 := by
  unfold cntD
  refine filter_erase_len hn hx ?_ ?_ ?_
  · simp [hD]
  · simp
  · intro y hy
    refine decide_eq_decide.mpr ⟨fun ⟨a, b, d⟩ => ⟨a, b, fun e => ?_⟩, fun ⟨a, b, d⟩ => ⟨a, b, fun e => d (List.mem_append_left _ e)⟩⟩
    rcases List.mem_append.mp e with e | e
    · exact d e
    · exact hy (List.mem_singleton.mp e)
theorem mem_snoc_iff {D : List (List Nat)} {x q : List Nat} (h : q ≠ x) : q ∈ D ++ [x] ↔ q ∈ D := by
  rw [List.mem_append, List.mem_singleton]; exact ⟨fun a => a.elim id fun e => absurd e h, .inl⟩
theorem StD.step {P D O : List (List Nat)} {st : (Str → Int) × List (Str × Tok)} {R : List (List Nat)} {par : Str → List (Str × Tok)} (h : StD P D O st R) (hP : GoodPar P par) (hn : P.Nodup) (hcl : ∀ r c, r ++ [c] ∈ P → r ∈ P) {x : List Nat} (hx : x ∈ P) (hxO : x ∈ O) (hxD : x ∉ D) (hpar : ∀ r c, x = r ++ [c] → r ∉ D ∧ r ∉ O) :
    ∃ R', StD P (D ++ [x]) O (stepD par st (pathS x)) R' := by
  rcases List.eq_nil_or_concat x with rfl | ⟨r, c, rfl⟩
  · refine ⟨R, ?_⟩
    rw [stepD_nil ((hP [] hx).1 rfl)]
    refine ⟨fun q hq => ?_, fun y hy => ?_, h.r, h.nod, fun q => ?_⟩
    · by_cases e : q = []
      · subst e
        rw [if_pos (List.mem_append_right _ (.head _))]; show (if pathS [] = pathS [] then (-2 : Int) else st.1 (pathS [])) = _; rw [if_pos rfl]
      · show (if pathS q = pathS [] then -2 else st.1 (pathS q)) = _
        rw [if_neg fun e' => e (pathS_inj e'), h.n q hq, cnt_snoc_ne (.inl rfl)]
        simp only [mem_snoc_iff e]
    · show (if y = pathS [] then -2 else st.1 y) = _
      rw [if_neg (show ¬ y = pathS [] from fun e => hy (e ▸ List.mem_map.mpr ⟨[], hx, rfl⟩))]; exact h.n0 y hy
    · rw [h.mem, cnt_snoc_ne (.inl rfl)]
      by_cases e : q = []
      · subst e
        exact ⟨fun z => absurd hxO z.2.2.1, fun z => absurd hxO z.2.2.1⟩
      · rw [mem_snoc_iff e]
  · rw [List.concat_eq_append] at *
    obtain ⟨t, hp⟩ := (hP (r ++ [c]) hx).2 r c rfl
    obtain ⟨hrD, hrO⟩ := hpar r c rfl
    have hrP := hcl r c hx
    have hne : r ≠ r ++ [c] := fun e => by have := congrArg List.length e; simp at this
    have hc := cnt_snoc hn hx hxD
    have h1 : st.1 (pathS r) - 1 = (cntD P (D ++ [r ++ [c]]) r : Int) := by
      rw [h.n r hrP, if_neg hrD, if_neg hrO, hc]; omega
    rw [stepD_one hp fun e => hne (pathS_inj e), h1]
    refine ⟨if cntD P (D ++ [r ++ [c]]) r = 0 then R ++ [r] else R, fun q hq => ?_, fun y hy => ?_, ?_, ?_, fun q => ?_⟩
    · show (if pathS q = pathS r then (cntD P (D ++ [r ++ [c]]) r : Int) else if pathS q = pathS (r ++ [c]) then -2 else st.1 (pathS q)) = _
      by_cases e : q = r
      · subst e
        rw [if_pos rfl, if_neg (by rw [mem_snoc_iff hne]; exact hrD), if_neg hrO]
      · rw [if_neg fun e' => e (pathS_inj e')]
        by_cases e2 : q = r ++ [c]
        · subst e2
          rw [if_pos rfl, if_pos (List.mem_append_right _ (.head _))]
        · rw [if_neg fun e' => e2 (pathS_inj e'), h.n q hq, cnt_snoc_ne (.inr (by rw [List.dropLast_concat]; exact fun z => e z.symm))]
          simp only [mem_snoc_iff e2]
    · show (if y = pathS r then (cntD P (D ++ [r ++ [c]]) r : Int) else if y = pathS (r ++ [c]) then -2 else st.1 y) = _
      rw [if_neg (show ¬ y = pathS r from fun e => hy (e ▸ List.mem_map.mpr ⟨r, hrP, rfl⟩)), if_neg (show ¬ y = pathS (r ++ [c]) from fun e => hy (e ▸ List.mem_map.mpr ⟨_, hx, rfl⟩))]; exact h.n0 y hy
    · show (if (cntD P (D ++ [r ++ [c]]) r : Int) = 0 then st.2 ++ [(pathS r, t)] else st.2).map (·.1) = _
      by_cases e : cntD P (D ++ [r ++ [c]]) r = 0
      · rw [if_pos (by omega), if_pos e, List.map_append, List.map_append, h.r]; rfl
      · rw [if_neg (by omega), if_neg e, h.r]
    · split
      · rw [List.nodup_append]
        refine ⟨h.nod, by simp, fun a ha b hb e => ?_⟩
        rw [List.mem_singleton.mp hb] at e
        have := ((h.mem a).mp ha).2.2.2
        rw [e] at this; omega
      · exact h.nod
    · by_cases e : q = r
      · subst e
        have hnR : q ∉ R := fun z => by have := ((h.mem q).mp z).2.2.2; omega
        split
        · rename_i e0
          exact ⟨fun _ => ⟨hrP, by rw [mem_snoc_iff hne]; exact hrD, hrO, e0⟩, fun _ => List.mem_append_right _ (.head _)⟩
        · rename_i e0
          exact ⟨fun z => absurd z hnR, fun z => absurd z.2.2.2 e0⟩
      · have h2 : (q ∈ if cntD P (D ++ [r ++ [c]]) r = 0 then R ++ [r] else R) ↔ q ∈ R := by
          split
          · exact mem_snoc_iff e
          · exact Iff.rfl
        rw [h2, h.mem, cnt_snoc_ne (.inr (by rw [List.dropLast_concat]; exact fun z => e z.symm))]
        by_cases e2 : q = r ++ [c]
        · subst e2
          exact ⟨fun z => absurd hxO z.2.2.1, fun z => absurd hxO z.2.2.1⟩
        · rw [mem_snoc_iff e2]
theorem foldD_snoc {par : Str → List (Str × Tok)} {N : Str → Int} {xs : List (List Nat)} {x : List Nat} : foldD par N ((xs ++ [x]).map pathS) = stepD par (foldD par N (xs.map pathS)) (pathS x) := by
  unfold foldD; rw [List.map_append, List.foldl_append]; rfl
theorem StD.fold {P D O : List (List Nat)} {N : Str → Int} {par : Str → List (Str × Tok)} (h : StD P D O (N, []) []) (hP : GoodPar P par) (hn : P.Nodup) (hcl : ∀ r c, r ++ [c] ∈ P → r ∈ P)
    (hO : ∀ x ∈ O, x ∈ P ∧ x ∉ D ∧ ∀ r c, x = r ++ [c] → r ∉ D ∧ r ∉ O) : ∀ n (xs : List (List Nat)), xs.length = n → xs.Nodup → (∀ x ∈ xs, x ∈ O) → ∃ R, StD P (D ++ xs) O (foldD par N (xs.map pathS)) R := by
  intro n
  induction n with
  | zero => intro xs e _ _; obtain rfl := List.length_eq_zero_iff.mp e; exact ⟨[], by rw [List.append_nil]; exact h⟩
  | succ n ih =>
    intro xs e hd hs
    rcases List.eq_nil_or_concat xs with rfl | ⟨ys, x, rfl⟩
    · cases e
    · rw [List.concat_eq_append] at *
      rw [List.nodup_append] at hd
      have hxO := hs x (List.mem_append_right _ (.head _))
      obtain ⟨h1, h2, h3⟩ := hO x hxO
      obtain ⟨R, hR⟩ := ih ys (by rw [List.length_append] at e; simpa using e) hd.1 fun y hy => hs y (List.mem_append_left _ hy)
      have h4 : x ∉ D ++ ys := fun z => (List.mem_append.mp z).elim h2 fun z => hd.2.2 x z x (.head _) rfl
      obtain ⟨R', h'⟩ := hR.step hP hn hcl h1 hxO h4 fun r c e => ⟨fun z => (List.mem_append.mp z).elim (h3 r c e).1 fun z => (h3 r c e).2 (hs r (List.mem_append_left _ z)), (h3 r c e).2⟩
      exact ⟨R', by rw [foldD_snoc, ← List.append_assoc]; exact h'⟩
noncomputable def ClD (P D : List (List Nat)) : Prop := ∀ p ∈ P, p ≠ [] → p.dropLast ∈ D → p ∈ D
theorem StD.outs {P D : List (List Nat)} {st : (Str → Int) × List (Str × Tok)} {R : List (List Nat)} (h : StD P D [] st R) : StD P D R (outN st, []) [] := by
  have hin : ∀ q, pathS q ∈ st.2.map (·.1) ↔ q ∈ R := fun q => by
    rw [h.r, List.mem_map]
    exact ⟨fun ⟨q', a, b⟩ => pathS_inj b ▸ a, fun a => ⟨q, a, rfl⟩⟩
  refine ⟨fun q hq => ?_, fun y hy => ?_, rfl, List.nodup_nil, fun q => ?_⟩
  · show (if pathS q ∈ st.2.map (·.1) then (-1 : Int) else st.1 (pathS q)) = _
    by_cases e : q ∈ R
    · rw [if_pos ((hin q).mpr e), if_neg ((h.mem q).mp e).2.1, if_pos e]
    · rw [if_neg fun z => e ((hin q).mp z), h.n q hq, if_neg e]
      simp
  · show (if y ∈ st.2.map (·.1) then (-1 : Int) else st.1 y) = 0
    rw [if_neg, h.n0 y hy]
    intro z
    rw [h.r] at z
    obtain ⟨q, a, rfl⟩ := List.mem_map.mp z
    exact hy (List.mem_map.mpr ⟨q, ((h.mem q).mp a).1, rfl⟩)
  · constructor
    · intro z; cases z
    · intro ⟨a, b, c, d⟩; exact absurd ((h.mem q).mpr ⟨a, b, (fun z => nomatch z), d⟩) c
theorem StD.ready {P D : List (List Nat)} {st : (Str → Int) × List (Str × Tok)} {R : List (List Nat)} (h : StD P D [] st R) (hC : ClD P D) : ∀ x ∈ R, x ∈ P ∧ x ∉ D ∧ ∀ r c, x = r ++ [c] → r ∉ D ∧ r ∉ R := by
  intro x hx
  obtain ⟨h1, h2, _, _⟩ := (h.mem x).mp hx
  refine ⟨h1, h2, fun r c e => ?_⟩
  subst e
  refine ⟨fun z => h2 (hC _ h1 (by simp) (by rw [List.dropLast_concat]; exact z)), fun z => h2 (cnt_pos.mp ((h.mem r).mp z).2.2.2 _ h1 (by simp) (by rw [List.dropLast_concat]))⟩
theorem StD.part {P D : List (List Nat)} {st : (Str → Int) × List (Str × Tok)} {R : List (List Nat)} {par : Str → List (Str × Tok)} (h : StD P D [] st R) (hC : ClD P D) (hP : GoodPar P par) (hn : P.Nodup) (hcl : ∀ r c, r ++ [c] ∈ P → r ∈ P) (i : Nat) :
    ∃ R', StD P (D ++ R.take i) R (foldD par (outN st) ((st.2.take i).map (·.1))) R' := by
  obtain ⟨R', h'⟩ := h.outs.fold hP hn hcl (h.ready hC) _ (R.take i) rfl (h.nod.sublist (List.take_sublist i R)) fun x hx => List.mem_of_mem_take hx
  rw [List.map_take, ← h.r, ← List.map_take] at h'
  exact ⟨R', h'⟩
theorem StD.next {P D : List (List Nat)} {st : (Str → Int) × List (Str × Tok)} {R : List (List Nat)} {par : Str → List (Str × Tok)} (h : StD P D [] st R) (hC : ClD P D) (hP : GoodPar P par) (hn : P.Nodup) (hcl : ∀ r c, r ++ [c] ∈ P → r ∈ P) :
    ∃ R', StD P (D ++ R) [] (stepR par st) R' ∧ ClD P (D ++ R) := by
  obtain ⟨R', h'⟩ := h.outs.fold hP hn hcl (h.ready hC) _ R rfl h.nod fun x hx => hx
  rw [← h.r] at h'
  refine ⟨R', ⟨fun q hq => ?_, h'.n0, h'.r, h'.nod, fun q => ?_⟩, fun p hp h1 h2 => ?_⟩
  · show (foldD par (outN st) (st.2.map (·.1))).1 (pathS q) = _
    rw [h'.n q hq]
    by_cases e : q ∈ D ++ R
    · rw [if_pos e, if_pos e]
    · rw [if_neg e, if_neg e, if_neg fun z => e (List.mem_append_right _ z)]; simp
  · rw [h'.mem]
    constructor
    · intro ⟨a, b, _, d⟩; exact ⟨a, b, (fun z => nomatch z), d⟩
    · intro ⟨a, b, _, d⟩; exact ⟨a, b, fun z => b (List.mem_append_right _ z), d⟩
  · rcases List.mem_append.mp h2 with h2 | h2
    · exact List.mem_append_left _ (hC p hp h1 h2)
    · exact List.mem_append_left _ (cnt_pos.mp ((h.mem _).mp h2).2.2.2 p hp h1 rfl)

structure HtOk (P : List (List Nat)) (ht : List Nat → Nat) : Prop where
  lt : ∀ r c, r ++ [c] ∈ P → ht (r ++ [c]) < ht r
  ex : ∀ q ∈ P, 0 < ht q → ∃ c, q ++ [c] ∈ P ∧ ht (q ++ [c]) + 1 = ht q
theorem HtOk.ready {P D : List (List Nat)} {ht : List Nat → Nat} (H : HtOk P ht) {st : (Str → Int) × List (Str × Tok)} {R : List (List Nat)} {k : Nat} (h : StD P D [] st R) (hD : ∀ q ∈ P, q ∈ D ↔ ht q < k) : ∀ q, q ∈ R ↔ q ∈ P ∧ ht q = k := fun q => by
  rw [h.mem]
  constructor
  · intro ⟨a, b, _, d⟩
    refine ⟨a, ?_⟩
    have h1 : ¬ ht q < k := fun z => b ((hD q a).mpr z)
    by_cases h2 : ht q = k
    · exact h2
    · obtain ⟨c, h3, h4⟩ := H.ex q a (by omega)
      have := (hD _ h3).mp (cnt_pos.mp d _ h3 (by simp) (by rw [List.dropLast_concat]))
      omega
  · intro ⟨a, b⟩
    refine ⟨a, fun z => by have := (hD q a).mp z; omega, (fun z => nomatch z), cnt_pos.mpr fun p hp h1 h2 => ?_⟩
    have h3 : q ++ [p.getLast h1] = p := by rw [← h2]; exact List.dropLast_concat_getLast h1
    have := H.lt q (p.getLast h1) (by rw [h3]; exact hp)
    rw [h3] at this
    exact (hD p hp).mpr (by omega)
theorem StD.start {P : List (List Nat)} {N : Str → Int} {rd : List (Str × Tok)} (hn : P.Nodup) (hN : ∀ q ∈ P, N (pathS q) = (chN P q : Int)) (h0 : ∀ y, y ∉ P.map pathS → N y = 0) (hr : rd.map (·.1) = (P.filter fun q => decide ((chN P q : Int) = 0)).map pathS) :
    StD P [] [] (N, rd) (P.filter fun q => decide ((chN P q : Int) = 0)) := by
  have e : ∀ q, cntD P [] q = chN P q := fun q => by unfold cntD chN; simp
  refine ⟨fun q hq => ?_, h0, hr, hn.filter _, fun q => ?_⟩
  · rw [if_neg (fun z => nomatch z), if_neg (fun z => nomatch z), e]; exact hN q hq
  · rw [List.mem_filter, e, decide_eq_true_eq]
    constructor
    · intro ⟨a, b⟩; exact ⟨a, (fun z => nomatch z), (fun z => nomatch z), by omega⟩
    · intro ⟨a, _, _, b⟩; exact ⟨a, by omega⟩
theorem iter_at {P : List (List Nat)} {ht : List Nat → Nat} (H : HtOk P ht) (hn : P.Nodup) (hcl : ∀ r c, r ++ [c] ∈ P → r ∈ P) {par : Str → List (Str × Tok)} (hP : GoodPar P par) {N : Str → Int} {rd : List (Str × Tok)} {R0 : List (List Nat)} (h0 : StD P [] [] (N, rd) R0) :
    ∀ k, ∃ D R, StD P D [] (iterR par (N, rd) k) R ∧ ClD P D ∧ (∀ q ∈ P, q ∈ D ↔ ht q < k) ∧ ∀ q, q ∈ R ↔ q ∈ P ∧ ht q = k := by
  intro k
  induction k with
  | zero =>
    have hD : ∀ q ∈ P, q ∈ ([] : List (List Nat)) ↔ ht q < 0 := fun q _ => ⟨(fun z => nomatch z), fun z => absurd z (Nat.not_lt_zero _)⟩
    exact ⟨[], R0, h0, (fun _ _ _ z => nomatch z), hD, H.ready h0 hD⟩
  | succ k ih =>
    obtain ⟨D, R, h1, h2, h3, h4⟩ := ih
    obtain ⟨R', h5, h6⟩ := h1.next h2 hP hn hcl
    have hD : ∀ q ∈ P, q ∈ D ++ R ↔ ht q < k + 1 := fun q hq => by
      rw [List.mem_append, h3 q hq, h4]
      constructor
      · rintro (z | ⟨_, z⟩) <;> omega
      · intro z
        by_cases e : ht q = k
        · exact .inr ⟨hq, e⟩
        · exact .inl (by omega)
    exact ⟨D ++ R, R', h5, h6, hD, H.ready h5 hD⟩
theorem sub_len {α : Type} [DecidableEq α] : ∀ {R P : List α}, R.Nodup → (∀ x ∈ R, x ∈ P) → R.length ≤ P.length := by
  intro R
  induction R with
  | nil => intro P _ _; exact Nat.zero_le _
  | cons a R ih =>
    intro P h k
    rw [List.nodup_cons] at h
    have ha := k a (.head _)
    have := ih (P := P.erase a) h.2 fun x hx => (List.mem_erase_of_ne (show x ≠ a from fun e => h.1 (e ▸ hx))).mpr (k x (.tail _ hx))
    rw [List.length_erase_of_mem ha] at this
    have h2 := List.length_pos_of_mem ha
    rw [List.length_cons]; omega
theorem HtOk.root {P : List (List Nat)} {ht : List Nat → Nat} (H : HtOk P ht) (hcl : ∀ r c, r ++ [c] ∈ P → r ∈ P) : ∀ n (q : List Nat), q.length = n → q ∈ P → ht q ≤ ht [] := by
  intro n
  induction n with
  | zero => intro q e _; rw [List.length_eq_zero_iff.mp e]; exact Nat.le_refl _
  | succ n ih =>
    intro q e hq
    rcases List.eq_nil_or_concat q with rfl | ⟨r, c, rfl⟩
    · exact Nat.le_refl _
    · rw [List.concat_eq_append] at *
      have h1 := H.lt r c hq
      have := ih r (by rw [List.length_append] at e; simpa using e) (hcl r c hq)
      omega
theorem HtOk.each {P : List (List Nat)} {ht : List Nat → Nat} (H : HtOk P ht) (h0 : [] ∈ P) : ∀ n, n ≤ ht [] → ∃ q ∈ P, ht q = ht [] - n := by
  intro n
  induction n with
  | zero => intro _; exact ⟨[], h0, by omega⟩
  | succ n ih =>
    intro h
    obtain ⟨q, h1, h2⟩ := ih (by omega)
    obtain ⟨c, h3, h4⟩ := H.ex q h1 (by omega)
    exact ⟨_, h3, by omega⟩
noncomputable def OkR (P : List (List Nat)) (ht : List Nat → Nat) (rounds : List (List Str)) : Prop := rounds.length = ht [] + 1 ∧ ∀ (k : Nat) l, rounds[k]? = some l → ∃ R : List (List Nat), l = R.map pathS ∧ R.Nodup ∧ ∀ q, q ∈ R ↔ q ∈ P ∧ ht q = k
theorem StD.bound {P D O : List (List Nat)} {st : (Str → Int) × List (Str × Tok)} {R : List (List Nat)} (h : StD P D O st R) (hl : P.length ≤ 13) (y : Str) : -10000 ≤ st.1 y ∧ st.1 y ≤ 10000 := by
  by_cases hy : y ∈ P.map pathS
  · obtain ⟨q, hq, rfl⟩ := List.mem_map.mp hy
    rw [h.n q hq]
    have := cnt_le P D q
    split
    · omega
    · split <;> omega
  · rw [h.n0 y hy]; omega
theorem StD.len {P D O : List (List Nat)} {st : (Str → Int) × List (Str × Tok)} {R : List (List Nat)} (h : StD P D O st R) : st.2.length ≤ P.length := by
  have : st.2.length = R.length := by have := congrArg List.length h.r; rwa [List.length_map, List.length_map] at this
  rw [this]
  exact sub_len h.nod fun q hq => ((h.mem q).mp hq).1
theorem sched_of {P : List (List Nat)} {ht : List Nat → Nat} (H : HtOk P ht) (h0 : [] ∈ P) (hn : P.Nodup) (hcl : ∀ r c, r ++ [c] ∈ P → r ∈ P) (hl : P.length ≤ 13) (hh : ht [] ≤ 19) :
    ∀ par N rd, GoodPar P par → (∀ q ∈ P, N (pathS q) = (chN P q : Int)) → (∀ y, y ∉ P.map pathS → N y = 0) → rd.map (·.1) = (P.filter fun q => decide ((chN P q : Int) = 0)).map pathS → ∃ H, Sched (P.map pathS) par (N, rd) H ∧ OkR P ht ((List.range H).map fun k => (iterR par (N, rd) k).2.map (·.1)) := by
  intro par N rd hP hN hN0 hr
  have it := iter_at H hn hcl hP (StD.start hn hN hN0 hr)
  refine ⟨ht [] + 1, ⟨fun k hk e => ?_, ?_, fun k _ q hq => ?_, fun k _ => ?_, fun k _ i q t e => ?_, fun k _ i y _ => ?_, fun k _ i _ => ?_, by omega⟩, by simp, fun k l e => ?_⟩
  · obtain ⟨D, R, h1, _, _, h4⟩ := it k
    obtain ⟨q, h5, h6⟩ := H.each h0 (ht [] - k) (by omega)
    have : q ∈ R := (h4 q).mpr ⟨h5, by omega⟩
    have h7 := h1.r
    rw [e] at h7
    rw [List.map_nil] at h7
    rw [List.map_eq_nil_iff.mp h7.symm] at this
    cases this
  · obtain ⟨D, R, h1, _, _, h4⟩ := it (ht [] + 1)
    have hR : R = [] := List.eq_nil_iff_forall_not_mem.mpr fun q hq => by
      obtain ⟨a, b⟩ := (h4 q).mp hq
      have := H.root hcl _ q rfl a
      omega
    have h7 := h1.r
    rw [hR, List.map_nil] at h7
    exact List.map_eq_nil_iff.mp h7
  · obtain ⟨D, R, h1, _, _, h4⟩ := it k
    rw [h1.r] at hq
    obtain ⟨p, a, rfl⟩ := List.mem_map.mp hq
    exact List.mem_map.mpr ⟨p, ((h4 p).mp a).1, rfl⟩
  · obtain ⟨D, R, h1, _, _, h4⟩ := it k
    have := h1.len
    omega
  · obtain ⟨D, R, h1, h2, _, h4⟩ := it k
    obtain ⟨R', h'⟩ := h1.part h2 hP hn hcl i
    have e1 : (R.map pathS)[i]? = some q := by rw [← h1.r, List.getElem?_map, e]; rfl
    rw [List.getElem?_map] at e1
    obtain ⟨x, e2, rfl⟩ := Option.map_eq_some_iff.mp e1
    have hx := List.mem_of_getElem? e2
    obtain ⟨a, b, _⟩ := h1.ready h2 x hx
    rw [h'.n x a, if_neg, if_pos hx]
    intro z
    rcases List.mem_append.mp z with z | z
    · exact b z
    · obtain ⟨j, hj⟩ := List.getElem?_of_mem z
      have hlt : j < i := by
        have h6 := (List.getElem?_eq_some_iff.mp hj).1
        rw [List.length_take] at h6
        exact Nat.lt_of_lt_of_le h6 (Nat.min_le_left _ _)
      rw [List.getElem?_take_of_lt hlt] at hj
      have hli := (List.getElem?_eq_some_iff.mp e2).1
      have := (List.getElem?_inj (Nat.lt_trans hlt hli) h1.nod).mp (hj.trans e2.symm)
      omega
  · obtain ⟨D, R, h1, h2, _, h4⟩ := it k
    obtain ⟨R', h'⟩ := h1.part h2 hP hn hcl i
    exact h'.bound hl y
  · obtain ⟨D, R, h1, h2, _, h4⟩ := it k
    obtain ⟨R', h'⟩ := h1.part h2 hP hn hcl i
    have := h'.len
    omega
  · obtain ⟨D, R, h1, _, _, h4⟩ := it k
    rw [List.getElem?_map] at e
    obtain ⟨j, e1, e2⟩ := Option.map_eq_some_iff.mp e
    have := List.getElem?_eq_some_iff.mp e1
    obtain ⟨hlt, hj⟩ := this
    rw [List.getElem_range] at hj
    subst hj
    exact ⟨R, by rw [← e2, h1.r], h1.nod, h4⟩

theorem ht_ok {P : List (List Nat)} (hcl : ∀ r c, r ++ [c] ∈ P → r ∈ P) : HtOk P (htN P) := by
  have lt : ∀ r c, r ++ [c] ∈ P → htN P (r ++ [c]) < htN P r := by
    intro r c h
    have h0 := le_ht h (q := r) ⟨[c], rfl⟩ (by simp)
    rw [List.length_append, List.length_singleton] at h0
    by_cases z : 0 < htN P (r ++ [c])
    · obtain ⟨p, h1, h2, h3, h4⟩ := ex_ht z
      have h5 : r <+: p := (List.prefix_append r [c]).trans h3
      have h6 := pre_len h3 h2
      rw [List.length_append, List.length_singleton] at h6 h4
      have := le_ht h1 h5 fun e => by rw [e] at h6; omega
      omega
    · omega
  refine ⟨lt, fun q hq h => ?_⟩
  obtain ⟨p, h1, h2, h3, h4⟩ := ex_ht h
  obtain ⟨t, rfl⟩ := h3
  cases t with
  | nil => simp at h2
  | cons c t =>
    have h5 : q ++ [c] ∈ P := closed_pre hcl t.length t (q ++ [c]) rfl (by rw [List.append_assoc]; exact h1)
    have h6 := lt q c h5
    rw [List.length_append, List.length_cons] at h4
    refine ⟨c, h5, ?_⟩
    cases t with
    | nil => simp at h4; omega
    | cons d t =>
      have := le_ht h1 (q := q ++ [c]) ⟨d :: t, by rw [List.append_assoc]; rfl⟩ (by simp)
      rw [List.length_append, List.length_append, List.length_singleton, List.length_cons, List.length_cons] at this
      rw [List.length_cons] at h4
      omega

example : True := by w_top off; trivial
theorem ndAll_snoc (ns : List Nd) (b : Nd) : ndAll (ns ++ [b]) = ndAll ns ++ b.led := by unfold ndAll; rw [List.flatMap_append]; simp
theorem ndKvs_snoc (ns : List Nd) (b : Nd) : ndKvs (ns ++ [b]) = ndKvs ns ++ [(b.q, .ref b.x)] := by unfold ndKvs; rw [List.map_append]; rfl
theorem expose3 {ns : List Nd} {a : Nd} (ha : a ∈ ns) {S : List Nat} : ∀ p ∈ (a.x, infO a.dx a.l a.q a.t a.n a.t') :: (a.dx, dictOf [] 0) :: ndEx ns S, p ∈ ndAll ns := fun p hp => by
  rcases List.mem_cons.mp hp with e | hp
  · rw [e]; exact mem_nd ha (.head _)
  · rcases List.mem_cons.mp hp with e | hp
    · rw [e]; exact mem_nd ha (.tail _ (.head _))
    · exact ndEx_sub hp
theorem hide3 {ns : List Nd} (hW : WfA ns) {a : Nd} (ha : a ∈ ns) {n : Int} {t : Tok} : ∀ p ∈ ndAll (updN ns a.q n t), p ∈ (a.x, infO a.dx a.l a.q a.t n t) :: (a.dx, dictOf [] 0) :: ndEx ns [a.x, a.dx] := fun p hp => by
  have key : ∀ p ∈ ndAll ns, p.1 ∉ [a.x, a.dx] → p ∈ ndEx ns [a.x, a.dx] := fun p h1 h2 => List.mem_filter.mpr ⟨h1, decide_eq_true h2⟩
  have := hide hW ha p hp
  obtain ⟨z1, z2, z3⟩ := hW.one a ha
  rcases List.mem_cons.mp this with e | h
  · rw [e]; exact .head _
  · rcases List.mem_cons.mp h with e | h
    · rw [e]; exact .tail _ (.head _)
    · rcases List.mem_cons.mp h with e | h
      · rw [e]
        refine .tail _ (.tail _ (key _ (mem_nd ha (.tail _ (.tail _ (.head _)))) ?_))
        simp only [List.mem_cons, List.not_mem_nil, or_false, not_or]
        exact ⟨fun e => z2 e.symm, fun e => z3 e.symm⟩
      · refine .tail _ (.tail _ (key _ (ndEx_sub h) ?_))
        have h2 := of_decide_eq_true (List.mem_filter.mp h).2
        intro h3; apply h2
        simp only [adrs, List.mem_cons, List.not_mem_nil, or_false] at h3 ⊢
        rcases h3 with h3 | h3 <;> simp [h3]
theorem mem_led {ns : List Nd} {b : Nd} {p : Addr × Obj} (h : p ∈ ndAll ns ++ b.led) : p ∈ ndAll ns ∨ @Eq Nat p.1 b.x ∨ @Eq Nat p.1 b.dx ∨ @Eq Nat p.1 b.l := by
  rcases List.mem_append.mp h with h | h
  · exact .inl h
  · have := led_adr h
    simp only [adrs, List.mem_cons, List.not_mem_nil, or_false] at this
    exact .inr this
theorem WfA.snoc {ns : List Nd} (hW : WfA ns) {b : Nd} (h1 : ∀ p ∈ ndAll ns, p.1 < b.dx) (h2 : b.dx < b.x) (h3 : b.x < b.l) (hq : b.q ∉ ns.map (·.q)) : WfA (ns ++ [b]) := by
  have h4 : ∀ a ∈ ns, a.x < b.dx ∧ a.dx < b.dx ∧ a.l < b.dx := fun a ha => ⟨h1 (a.x, _) (mem_nd ha (.head _)), h1 (a.dx, _) (mem_nd ha (.tail _ (.head _))), h1 (a.l, _) (mem_nd ha (.tail _ (.tail _ (.head _))))⟩
  refine ⟨fun a ha => ?_, fun a ha c hc hne => ?_, ?_⟩
  · rcases List.mem_append.mp ha with ha | ha
    · exact hW.one a ha
    · rw [List.mem_singleton.mp ha]; omega
  · rcases List.mem_append.mp ha with ha | ha
    · rcases List.mem_append.mp hc with hc | hc
      · exact hW.two a ha c hc hne
      · rw [List.mem_singleton.mp hc]
        have := h4 a ha
        simp only [List.forall_mem_cons, List.not_mem_nil, false_imp_iff, implies_true, and_true]
        omega
    · rcases List.mem_append.mp hc with hc | hc
      · rw [List.mem_singleton.mp ha]
        have := h4 c hc
        simp only [List.forall_mem_cons, List.not_mem_nil, false_imp_iff, implies_true, and_true]
        omega
      · rw [List.mem_singleton.mp ha, List.mem_singleton.mp hc] at hne; exact absurd rfl hne
  · rw [List.map_append, List.map_singleton, List.nodup_append]
    refine ⟨hW.nod, by simp, fun y hy z hz e => ?_⟩
    rw [List.mem_singleton.mp hz] at e
    exact hq (e ▸ hy)
theorem not_at {ns : List Nd} {q : Str} (h : q ∉ ns.map (·.q)) : valueAt (ndKvs ns) q = none := by
  unfold valueAt ndKvs
  rw [Option.map_eq_none_iff, List.find?_eq_none]
  intro p hp
  obtain ⟨a, ha, rfl⟩ := List.mem_map.mp hp
  simp only [decide_eq_true_eq]
  exact fun e => h (List.mem_map.mpr ⟨a, ha, e⟩)
theorem path_new {T : List TNode} (hT : Tr (T.map (·.1))) {i : Nat} {p : List Nat} {mp : Int} {tp : Tok} (h : T[i]? = some ((p, mp), tp)) : p ∉ (T.take i).map (·.1.1) := by
  have hn := tr_nodup hT
  rw [List.map_map] at hn
  intro hm
  obtain ⟨n, hn1, e⟩ := List.mem_map.mp hm
  obtain ⟨j, hj⟩ := List.getElem?_of_mem hn1
  have hlt : j < i := by
    have h1 := (List.getElem?_eq_some_iff.mp hj).1
    rw [List.length_take] at h1
    exact Nat.lt_of_lt_of_le h1 (Nat.min_le_left _ _)
  rw [List.getElem?_take_of_lt hlt] at hj
  have h1 : (T.map ((·.1) ∘ (·.1)))[j]? = some p := by rw [List.getElem?_map, hj, ← e]; rfl
  have h2 : (T.map ((·.1) ∘ (·.1)))[i]? = some p := by rw [List.getElem?_map, h]; rfl
  have hli := (List.getElem?_eq_some_iff.mp h2).1
  have := (List.getElem?_inj (Nat.lt_trans hlt hli) hn).mp (h1.trans h2.symm)
  omega
theorem root_first {T : List TNode} (hT : Tr (T.map (·.1))) {i : Nat} {mp : Int} {tp : Tok} (h : T[i]? = some (([], mp), tp)) : i = 0 := by
  obtain ⟨m, e, _⟩ := tr_root hT
  cases i with
  | zero => rfl
  | succ i =>
    refine absurd ?_ (path_new hT h)
    rw [List.getElem?_map] at e
    obtain ⟨n, e1, e2⟩ := Option.map_eq_some_iff.mp e
    refine List.mem_map.mpr ⟨n, List.mem_of_getElem? (i := 0) ?_, by rw [e2]⟩
    rw [List.getElem?_take_of_lt (Nat.succ_pos _)]; exact e1
theorem take_one_root {T : List TNode} (hT : Tr (T.map (·.1))) : (T.take (0 + 1)).map (·.1.1) = [[]] := by
  obtain ⟨m, e, _⟩ := tr_root hT
  rw [List.getElem?_map] at e
  obtain ⟨n, e1, e2⟩ := Option.map_eq_some_iff.mp e
  rw [List.take_add_one, e1]
  simp [e2]
theorem snoc_off {ns : List Nd} {x dx d a da l : Nat} {q : Str} {t t' : Tok} {n : Int} {acc : List (Str × Tok)} {k : Nat} (h : OwnOff (ndAll ns) [x, dx, d]) (q4 : dx < x) (q5 : x < d) (l1 : d < da) (l3 : da < a) (l4 : a < l) : OwnOff (ndAll (ns ++ [⟨a, da, l, q, t, n, t', acc, k⟩])) [x, dx, d] := fun p hp b hb => by
  rw [ndAll_snoc] at hp
  rcases mem_led hp with hp | hp
  · exact h p hp b hb
  · simp only [List.mem_cons, List.not_mem_nil, or_false] at hb
    refine neN ?_
    rcases hb with rfl | rfl | rfl <;> (simp only at hp; omega)
theorem snoc_above {ns : List Nd} {d a da l : Nat} {q : Str} {t t' : Tok} {n : Int} {acc : List (Str × Tok)} {k : Nat} (h : ∀ p ∈ ndAll ns, d < p.1) (l1 : d < da) (l3 : da < a) (l4 : a < l) : ∀ p ∈ ndAll (ns ++ [⟨a, da, l, q, t, n, t', acc, k⟩]), d < p.1 := fun p hp => by
  rw [ndAll_snoc] at hp
  rcases mem_led hp with hp | hp
  · exact h p hp
  · refine ltN ?_
    simp only at hp; omega
noncomputable def Hold1 (P : Prop) : Prop := P
theorem hold1 {P : Prop} (h : Hold1 P) : P := h
theorem unhold1 {P : Prop} (h : P) : Hold1 P := h
theorem Alike.trans {S : List Addr} {a b c : List Nd} (h : Alike S a b) (k : Alike S b c) : Alike S a c := ⟨k.wf, k.off, k.kvs.trans h.kvs, k.accs.trans h.accs, k.adr.trans h.adr⟩
theorem Alike.parOf {S : List Addr} {ns ns' : List Nd} (h : Alike S ns ns') (hW : WfA ns) : ∀ a ∈ ns', a.acc = parOf ns a.q := fun a ha => by
  obtain ⟨a0, h1, h2, h3⟩ := h.accOf ha
  rw [← h2, parOf_at hW h1, h3]
theorem hone_of {S : List Addr} {ns ns2 : List Nd} (h : Alike S ns ns2) (hW : WfA ns) (hs : ∀ i a, ns[i]? = some a → a.acc = [] ∨ ∃ q t, a.acc = [(q, t)] ∧ q ∈ (ns.take i).map (·.q)) : ∀ a ∈ ns2, parOf ns a.q = [] ∨ ∃ q t, parOf ns a.q = [(q, t)] ∧ q ∈ ns2.map (·.q) ∧ q ≠ a.q := fun a ha => by
  obtain ⟨a0, h1, h2, h3⟩ := h.accOf ha
  rw [← h2, parOf_at hW h1]
  obtain ⟨i, hi⟩ := List.getElem?_of_mem h1
  rcases hs i a0 hi with h4 | ⟨q, t, h4, h5⟩
  · exact .inl h4
  · refine .inr ⟨q, t, h4, ?_, ?_⟩
    · rw [h.qs]; exact ((List.take_sublist i ns).map _).mem h5
    · intro e
      obtain ⟨b, hb, hbq⟩ := List.mem_map.mp h5
      obtain ⟨j, hj⟩ := List.getElem?_of_mem hb
      have hlt : j < i := by
        have h6 := (List.getElem?_eq_some_iff.mp hj).1
        rw [List.length_take] at h6
        exact Nat.lt_of_lt_of_le h6 (Nat.min_le_left _ _)
      rw [List.getElem?_take_of_lt hlt] at hj
      have g1 : (ns.map (·.q))[j]? = some q := by rw [List.getElem?_map, hj, ← hbq]; rfl
      have g2 : (ns.map (·.q))[i]? = some q := by rw [List.getElem?_map, hi, e]; rfl
      have hli := (List.getElem?_eq_some_iff.mp g2).1
      have := (List.getElem?_inj (Nat.lt_trans hlt hli) hW.nod).mp (g1.trans g2.symm)
      omega
theorem succ_before {T : List TNode} (hT : Tr (T.map (·.1))) {ns : List Nd} (hGr : GrOk (T.map (·.1.1)) ns) : ∀ i a, ns[i]? = some a → a.acc = [] ∨ ∃ q t, a.acc = [(q, t)] ∧ q ∈ (ns.take i).map (·.q) := by
  intro i a ha
  have h1 : (ns.map (·.q))[i]? = some a.q := by rw [List.getElem?_map, ha]; rfl
  rw [hGr.q, List.map_map, List.getElem?_map] at h1
  obtain ⟨n, hn, e⟩ := Option.map_eq_some_iff.mp h1
  have h2 := hGr.acc a (List.mem_of_getElem? ha) n.1.1 e.symm
  rcases List.eq_nil_or_concat n.1.1 with h3 | ⟨r, c, h3⟩
  · exact .inl (h2.1 h3)
  · rw [List.concat_eq_append] at h3
    obtain ⟨t, ht⟩ := h2.2 r c h3
    refine .inr ⟨_, t, ht, ?_⟩
    have h4 : (T.map (·.1))[i]? = some (r ++ [c], n.1.2) := by rw [List.getElem?_map, hn, ← h3]; rfl
    obtain ⟨m', h5, _⟩ := tr_parent hT i r c _ h4
    rw [List.map_take, hGr.q, ← List.map_take, ← List.map_take]
    rw [← List.map_take] at h5
    obtain ⟨n2, h6, e6⟩ := List.mem_map.mp h5
    exact List.mem_map.mpr ⟨r, List.mem_map.mpr ⟨n2, h6, by rw [e6]⟩, rfl⟩
noncomputable def nOf (ns : List Nd) (y : Str) : Int := ((ns.find? fun a => decide (a.q = y)).map (·.n)).getD 0
theorem nOf_at {ns : List Nd} (hW : WfA ns) {a : Nd} (ha : a ∈ ns) : nOf ns a.q = a.n := by
  unfold nOf
  cases h : ns.find? fun b => decide (b.q = a.q) with
  | none =>
    rw [List.find?_eq_none] at h
    exact absurd (decide_eq_true (rfl : a.q = a.q)) (h a ha)
  | some b =>
    have h1 := List.mem_of_find?_eq_some h
    have h2 := List.find?_some h
    rw [hW.same h1 ha (by simpa using h2)]; rfl
theorem GrOk.nOf {P : List (List Nat)} {ns : List Nd} (h : GrOk P ns) (hW : WfA ns) : ∀ q ∈ P, nOf ns (pathS q) = (chN P q : Int) := fun q hq => by
  have : pathS q ∈ ns.map (·.q) := by rw [h.q]; exact List.mem_map.mpr ⟨q, hq, rfl⟩
  obtain ⟨a, ha, e⟩ := List.mem_map.mp this
  rw [← e, nOf_at hW ha]
  exact h.n a ha q e
theorem GrOk.nOf0 {P : List (List Nat)} {ns : List Nd} (h : GrOk P ns) : ∀ y, y ∉ P.map pathS → Mine.Internal.nOf ns y = 0 := fun y hy => by
  unfold Mine.Internal.nOf
  cases e : ns.find? fun b => decide (b.q = y) with
  | none => rfl
  | some b =>
    have h1 := List.mem_of_find?_eq_some e
    have h2 := List.find?_some e
    exact absurd (by rw [← h.q]; exact List.mem_map.mpr ⟨b, h1, by simpa using h2⟩) hy
theorem rdy_aux {P : List (List Nat)} : ∀ {ns : List Nd} {Q : List (List Nat)}, ns.map (·.q) = Q.map pathS → (∀ a ∈ ns, ∀ p, a.q = pathS p → a.n = (chN P p : Int)) → (rdyOf ns).map (·.1) = (Q.filter fun q => decide ((chN P q : Int) = 0)).map pathS := by
  intro ns
  induction ns with
  | nil => intro Q e _; cases Q with
    | nil => rfl
    | cons q Q => cases e
  | cons a r ih => intro Q e h; cases Q with
    | nil => cases e
    | cons q Q =>
      rw [List.map_cons, List.map_cons] at e
      obtain ⟨e1, e2⟩ := List.cons.inj e
      have h1 := h a (.head _) q e1
      have h2 := ih e2 fun b hb => h b (.tail _ hb)
      unfold rdyOf at h2 ⊢
      rw [List.filter_cons, List.filter_cons, h1]
      by_cases h3 : (chN P q : Int) = 0
      · rw [if_pos (decide_eq_true h3), if_pos (decide_eq_true h3), List.map_cons, List.map_cons, List.map_cons, h2, e1]
      · rw [if_neg (by simpa using h3), if_neg (by simpa using h3), h2]
theorem GrOk.rdy {P : List (List Nat)} {ns : List Nd} (h : GrOk P ns) : (rdyOf ns).map (·.1) = (P.filter fun q => decide ((chN P q : Int) = 0)).map pathS := rdy_aux h.q h.n
theorem own_off {own : List (Addr × Obj)} {a b l : Addr} (h : OwnOff own [a, b]) (k : ∀ p ∈ own, p.1 ≠ l) : OwnOff own [a, l] := fun p hp c hc => by
  rcases List.mem_cons.mp hc with e | hc
  · rw [e]; exact h p hp a (.head _)
  · rw [List.mem_singleton.mp hc]; exact k p hp
theorem leaf_new {T : List TNode} (hT : Tr (T.map (·.1))) {i : Nat} {q : List Nat} {mp : Int} {tp : Tok} (h : T[i]? = some ((q, mp), tp)) : ∀ p ∈ (T.take i).map (·.1.1), p ≠ [] → p.dropLast ≠ q := by
  intro p hp hne e
  obtain ⟨n, hn, rfl⟩ := List.mem_map.mp hp
  obtain ⟨j, hj⟩ := List.getElem?_of_mem hn
  have hlt : j < i := by
    have h1 := (List.getElem?_eq_some_iff.mp hj).1
    rw [List.length_take] at h1
    exact Nat.lt_of_lt_of_le h1 (Nat.min_le_left _ _)
  rw [List.getElem?_take_of_lt hlt] at hj
  have h2 : (T.map (·.1))[j]? = some (q ++ [n.1.1.getLast hne], n.1.2) := by
    rw [List.getElem?_map, hj, ← e, List.dropLast_concat_getLast hne]; rfl
  obtain ⟨m', h3, _⟩ := tr_parent hT j q _ _ h2
  rw [← List.map_take] at h3
  obtain ⟨n2, h4, e4⟩ := List.mem_map.mp h3
  refine path_new hT h (List.mem_map.mpr ⟨n2, ?_, by rw [e4]⟩)
  exact (List.take_sublist_take_left (Nat.le_of_lt hlt)).mem h4
noncomputable def SchedThm (P : List (List Nat)) (Ok : List (List Str) → Prop) : Prop := ∀ par N rd, GoodPar P par → (∀ q ∈ P, N (pathS q) = (chN P q : Int)) → (∀ y, y ∉ P.map pathS → N y = 0) → rd.map (·.1) = (P.filter fun q => decide ((chN P q : Int) = 0)).map pathS → ∃ H, Sched (P.map pathS) par (N, rd) H ∧ Ok ((List.range H).map fun k => (iterR par (N, rd) k).2.map (·.1))
noncomputable def rsLed (rs : List (Nat × List (Str × Tok) × Nat)) : List (Addr × Obj) := rs.map fun e => (e.1, W.listOf (strValues e.2.1).toArray e.2.2)
theorem off_turn {I x dx d dW a da l : Nat} {o1 o2 o3 o4 o5 o6 o1' o2' o3' oW o4' o5' o6' o7 o8 o9 : Obj} {A A' f : List (Addr × Obj)} (h1 : ∀ p ∈ (x, o1) :: (dx, o2) :: (d, o3) :: (a, o4) :: (da, o5) :: (l, o6) :: A, p.1 ≠ I) (h2 : ∀ p ∈ (x, o7) :: (dx, o8) :: (d, o9) :: (dW, oW) :: (A ++ f), p.1 ≠ I)
    (hA : ∀ p ∈ A', ∃ p' ∈ A, p'.1 = p.1) : ∀ p ∈ (x, o1') :: (dx, o2') :: (d, o3') :: (dW, oW) :: ((A' ++ [(a, o4'), (da, o5'), (l, o6')]) ++ f), p.1 ≠ I := by
  obtain ⟨b1, h1⟩ := List.forall_mem_cons.mp h1
  obtain ⟨b2, h1⟩ := List.forall_mem_cons.mp h1
  obtain ⟨b3, h1⟩ := List.forall_mem_cons.mp h1
  obtain ⟨b4, h1⟩ := List.forall_mem_cons.mp h1
  obtain ⟨b5, h1⟩ := List.forall_mem_cons.mp h1
  obtain ⟨b6, h1⟩ := List.forall_mem_cons.mp h1
  refine List.forall_mem_cons.mpr ⟨b1, List.forall_mem_cons.mpr ⟨b2, List.forall_mem_cons.mpr ⟨b3, List.forall_mem_cons.mpr ⟨h2 (dW, oW) (.tail _ (.tail _ (.tail _ (.head _)))), List.forall_mem_append.mpr ⟨List.forall_mem_append.mpr ⟨fun p hp => ?_, List.forall_mem_cons.mpr ⟨b4, List.forall_mem_cons.mpr ⟨b5, List.forall_mem_cons.mpr ⟨b6, List.forall_mem_nil _⟩⟩⟩⟩, fun p hp => h2 p (.tail _ (.tail _ (.tail _ (.tail _ (List.mem_append_right _ hp)))))⟩⟩⟩⟩⟩
  obtain ⟨p', e1, e2⟩ := hA p hp
  rw [← e2]; exact h1 p' e1
theorem off_two {P : Nat → Prop} {rest led : List (Addr × Obj)} (h1 : ∀ q ∈ led, P q.1) (h2 : ∀ p ∈ rest, ∀ a : Nat, P a → a ≠ p.1) : ∀ p ∈ rest, ∀ q ∈ led, q.1 ≠ p.1 := fun p hp q hq => h2 p hp _ (h1 q hq)
theorem ge_two {dx : Nat} {rest led : List (Addr × Obj)} (h1 : ∀ q ∈ led, dx ≤ q.1) (h2 : ∀ p ∈ rest, p.1 < dx) : ∀ p ∈ rest, ∀ q ∈ led, q.1 ≠ p.1 := fun p hp q hq => Nat.ne_of_gt (Nat.lt_of_lt_of_le (h2 p hp) (h1 q hq))
theorem ge_led {dx x d : Nat} {o1 o2 o3 : Obj} {A : List (Addr × Obj)} (h1 : dx < x) (h2 : x < d) (h3 : ∀ p ∈ A, d < p.1) : ∀ q ∈ (x, o1) :: (dx, o2) :: (d, o3) :: A, dx ≤ q.1 :=
  List.forall_mem_cons.mpr ⟨Nat.le_of_lt h1, List.forall_mem_cons.mpr ⟨Nat.le_refl _, List.forall_mem_cons.mpr ⟨Nat.le_of_lt (Nat.lt_trans h1 h2), fun p hp => Nat.le_of_lt (Nat.lt_trans (Nat.lt_trans h1 h2) (h3 p hp))⟩⟩⟩
theorem rounds_spec {w : World} {dW : Nat} {oW : Obj} {T : List TNode} {Ok : List (List Str) → Prop} (hS : SchedThm (T.map (·.1.1)) Ok) (hD : Obj.IsDictOf (PySem.strKind prg w) oW (kvsOf T)) (hT : Tr (T.map (·.1))) (hTl : T.length ≤ 13) (loW : (dW == sysModules) = false) :
    MutF w 324 [.ref dW] 8 [(dW, oW)] True (fun v led => ∃ (Rr kR : Nat) (rs : List (Nat × List (Str × Tok) × Nat)), v = .ref Rr ∧ led = (Rr, W.listOf (rs.map fun e => Value.ref e.1).toArray kR) :: (dW, oW) :: rsLed rs ∧ Ok (rs.map fun e => e.2.1.map (·.1)) ∧ rs.length ≤ 20 ∧ ∀ e ∈ rs, e.2.1.length ≤ 20) := by
  refine mutF_of fun A R s0 gs dr tk0 ost b outer frs hA hF G hg hsz hled hoff hR hp ret => ?_
  obtain ⟨hd, dp, fr, gd, un⟩ := A; obtain rfl : hd = none := hR.hh
  have G' := G; obtain ⟨X, mean, mg, mb, T'⟩ := G
  have R' := fun env => hR.deeper (env := env)
  refine enterM G' hg hsz hled (hR.le (by decide)) (by k_is) (by k_is) (BindsTo.of_eq (binds := [(Str.ofString "wished", .ref dW)]) rfl) (locs rfl) rfl rfl rfl (by decide) ?_
  intro L h₁ F N hlt _ _ A1
  k_fold
  clear G' hg hled hsz
  replace N : News b L h₁ ((dW, oW) :: frs) := N
  (repeat' (first | ((with_reducible show wpAny _ _ _ _ _ (Shared.mk _ (Shared.gens _) _ _ _)); (with_reducible first | refine fl_c ?_ rfl | refine fl_a (by assumption) ?_ rfl | refine fl_b (by assumption) ?_ rfl); (fail_if_success (with_reducible show wpAny _ _ _ _ _ (Shared.mk _ (Shared.gens _) _ _ _)))) | ((with_reducible show wpAny _ _ _ _ _ (Shared.mk _ _ _ (_ + _ + _ + _) _)); (with_reducible refine tk_gen ?_); intro tk_m) | (k_here; (with_reducible show wpAny _ _ (call (Value.ref 252) _ _) _ _ _); k_dflt (refine' call_cls (pos := []) ?k1 ?k2 ?k3 ?k4 ?k5 ?k6 ?_; (case k1 => k_asm); (case k2 => k_asm); (case k3 => k_asm); (case k4 => k_is); (case k5 => k_is); (case k6 => k_is)); intro x_m d_m h_m F_m N_m l1_m l2_m; (refine use_mutC sinit_spec F_m N_m (off2 l1_m l2_m) (by k_asm) (by k_asm) (Rm.le (Rm.under (by first | assumption | (rename (∀ env, Rm _ _) => kR_m; exact kR_m _))) (by decide)) l2_m ?_); clear F_m N_m; intro v_m h_m tk_m led_m F_m N_m off_m hv_m; obtain ⟨hv_m, dd_m, K_m, od_m, hled_m, hD_m, lo_m, l3_m⟩ := hv_m; subst hv_m hled_m; (simp only [List.cons_append, List.nil_append] at N_m); clear off_m; (k_lt2 l2_m); (k_lt2 l3_m); (refine And.intro rfl ?_)) | ((with_reducible show wpAny _ _ (exec (Stmt.For (Expr.Name _ _) (Expr.Name _ _) (_ :: _) [] _) _) _ _ _); (k_here; k_dflt (refine wpAny_For ?_))) | ((with_reducible show wpAny _ _ (eval (Expr.Constant _ _ _) _) _ _ _); with_reducible first | refine cint ?_ | refine cstr ?_) | ((with_reducible show wpAny _ _ (eval (Expr.Name _ _) _) _ _ _); k_here; k_dflt (refine' nameX_L (hd := ?d) ?F ?v ?_ ?a ?b; (case F => k_asm); (case a => rfl); (case b => rfl); (case v => rfl); (case d => rfl); k_whole)) | ((with_reducible show wpAny _ _ (storeName _ _ _) _ _ _); k_here; k_dflt (refine' storeX_M ?F ?N ?_ ?a ?b; (case F => k_asm); (case N => k_asm); (case a => rfl); (case b => rfl); k_whole; intro h_m m_m F_m N_m; (try k_sweep))) | ((with_reducible show wpAny _ _ (exec _ _) _ _ _); k_fold) | (k_unfold; (try dsimp only)) | (k_end; kc_close) | walk1 | (dsimp only; walk1) | (leave1; (try dsimp only)) | fail "no step"))
  (with_reducible rename Fr _ _ _ _ => kF); (with_reducible rename News _ _ _ _ => kN); (rename Sk => K); (with_reducible rename Obj.IsDictOf _ _ [] => hD0); (with_reducible rename ∀ p ∈ (dW, oW) :: frs, p.1 < _ => q1)
  (with_reducible rename (_ == sysModules) = false => loD)
  refine cap3 kN ?_
  intro x dx d e1 e2 e3
  subst e1 e2 e3
  have q2 : @LT.lt Nat _ dW dx := q1 (dW, oW) (.head _)
  have q3 : ∀ p ∈ frs, p.1 < dx := fun p hp => q1 p (.tail _ hp)
  have q4 : @LT.lt Nat _ dx x := by assumption
  have q5 : @LT.lt Nat _ x d := by assumption
  refine' for_L (L := L) [Str.ofString "path"] (fun i m nw => ∃ K od ns, nw = (x, instObj 252 dx) :: (dx, srtD w K d .none 0 0 4) :: (d, od) :: (dW, oW) :: (ndAll ns ++ frs) ∧ Obj.IsDictOf (PySem.strKind prg w) od (ndKvs ns) ∧ WfA ns ∧ OwnOff (ndAll ns) [x, dx, d] ∧ (∀ p ∈ ndAll ns, d < p.1) ∧ GrOk ((T.take i).map (·.1.1)) ns) rfl (Itb.keys rfl loW hD) rfl rfl kF kN (.inr (by k_mem)) ?h0 ?hJS ?turn ?done
  case h0 => exact ⟨K, _, [], rfl, hD0, ⟨(fun _ h => nomatch h), (fun _ h => nomatch h), List.nodup_nil⟩, (fun _ h => nomatch h), (fun _ h => nomatch h), GrOk.nil⟩
  case hJS => rintro i m nw ⟨K, od, ns, rfl, _⟩; exact .inr (by k_mem)
  case turn =>
    intro I i v m₁ nw₁ oI h tk hlt3 hi hP hJ hoff2 kF kN
    k_fold
    obtain ⟨K, od, ns, rfl, hDs, hW, offS, habove, hGr⟩ := hJ
    obtain ⟨kq, xv, tq, hk, rfl⟩ := hP
    obtain ⟨p, mp, tp, hTi, rfl⟩ : ∃ p mp tp, T[i]? = some ((p, mp), tp) ∧ pathS p = kq := by
      unfold kvsOf at hk
      rw [List.getElem?_map] at hk
      obtain ⟨⟨⟨p, mp⟩, tp⟩, e1, e2⟩ := Option.map_eq_some_iff.mp hk
      exact ⟨p, mp, tp, e1, (Prod.mk.inj e2).1⟩
    have hi13 : i < 13 := by have := (List.getElem?_eq_some_iff.mp hTi).1; omega
    have hnl : ns.length = i := by
      have := congrArg List.length hGr.q
      rw [List.length_map, List.length_map, List.length_map, List.length_take] at this
      have := (List.getElem?_eq_some_iff.mp hTi).1
      omega
    have hkl : (ndKvs ns).length ≤ 100000 := by unfold ndKvs; rw [List.length_map]; omega
    have hTi' : (T.map (·.1))[i]? = some (p, mp) := by rw [List.getElem?_map, hTi]; rfl
    have hpl : p.length ≤ 12 := by have := (tr_mem hT _ (List.mem_of_getElem? hTi')).2.1; rw [List.length_map] at this; simp only at this; omega
    have hps : (pathS p).length ≤ 25 := by rw [len_lst, lst_pathS]; have := pathL_len_le p; omega
    have hnew : p ∉ (T.take i).map (·.1.1) := path_new hT hTi
    have hq0 : pathS p ∉ ns.map (·.q) := by
      rw [hGr.q]
      intro h
      obtain ⟨p', h1, h2⟩ := List.mem_map.mp h
      exact hnew (pathS_inj h2 ▸ h1)
    have hv0 : valueAt (ndKvs ns) (pathS p) = none := not_at hq0
    have hnI := fun p hp => hoff2 p hp
    have hnI' : ∀ q ∈ (x, instObj 252 dx) :: (dx, srtD w K d .none 0 0 4) :: (d, od) :: ndAll ns, q.1 ≠ I := fun q hq => hnI q (blk_sub [[(x, instObj 252 dx)], [(dx, srtD w K d .none 0 0 4)], [(d, od)], [(dW, oW)], ndAll ns] frs [1, 2, 3] 5 q hq)
    have loD' : (d == sysModules) = false := by assumption
    (repeat' (first | ((with_reducible show wpAny _ _ _ _ _ (Shared.mk _ (Shared.gens _) _ _ _)); (with_reducible first | refine fl_c ?_ rfl | refine fl_a (by assumption) ?_ rfl | refine fl_b (by assumption) ?_ rfl); (fail_if_success (with_reducible show wpAny _ _ _ _ _ (Shared.mk _ (Shared.gens _) _ _ _)))) | ((with_reducible show wpAny _ _ _ _ _ (Shared.mk _ _ _ (_ + _ + _ + _) _)); (with_reducible refine tk_gen ?_); intro tk_m) | ((with_reducible show wpAny _ _ (eval (Expr.Constant _ _ _) _) _ _ _); with_reducible first | refine cint ?_ | refine cstr ?_) | ((with_reducible show wpAny _ _ (eval (Expr.Name _ _) _) _ _ _); k_here; k_dflt (refine' nameX_L (hd := ?d) ?F ?v ?_ ?a ?b; (case F => k_asm); (case a => rfl); (case b => rfl); (case v => rfl); (case d => rfl); k_whole)) | ((with_reducible show wpAny _ _ (storeName _ _ _) _ _ _); k_here; k_dflt (refine' storeX_M ?F ?N ?_ ?a ?b; (case F => k_asm); (case N => k_asm); (case a => rfl); (case b => rfl); k_whole; intro h_m m_m F_m N_m; (try k_sweep))) | ((with_reducible show wpAny _ _ (exec _ _) _ _ _); k_fold) | (k_unfold; (try dsimp only)) | (k_end; kc_close) | walk1 | (dsimp only; walk1) | (leave1; (try dsimp only)) | fail "no step"))
    (with_reducible rename Fr _ _ _ _ => kF2); (with_reducible rename News _ _ _ _ => kN2)
    refine use_mut (rest := (I, oI) :: (dW, oW) :: frs) (add0 offS hDs loD' hkl) kF2 (sw1 kN2) ?offr X T' ((R' _).le (by decide)) ⟨q4, q5, hv0⟩ ?_
    case offr => exact List.forall_mem_cons.mpr ⟨fun q hq => hnI' q hq, ge_two (ge_led q4 q5 habove) q1⟩
    intro v' h' tk' led' F' N' off' hv'
    obtain ⟨a, da, l, t', od', rfl, rfl, hD2, l1, l2, l3, l4⟩ := hv'
    replace N' := sw2 N'
    clear kF2 kN2
    have hI3 := off' (I, oI) (.head _)
    have hWb := WfA.snoc hW (b := ⟨a, da, l, pathS p, tq, 0, t', [], 0⟩) l2 l3 l4 hq0
    rw [stored_absent hv0, show ndKvs ns ++ [(pathS p, Value.ref a)] = ndKvs (ns ++ [⟨a, da, l, pathS p, tq, 0, t', [], 0⟩]) from (ndKvs_snoc ns ⟨a, da, l, pathS p, tq, 0, t', [], 0⟩).symm] at hD2
    rcases List.eq_nil_or_concat p with rfl | ⟨r, c, rfl⟩
    · have hroot : (pathS [] != Str.ofString "/") = false := by rw [root_is]; exact bne_self_eq_false _
      (repeat' (first | ((with_reducible show wpAny _ _ _ _ _ (Shared.mk _ (Shared.gens _) _ _ _)); (with_reducible first | refine fl_c ?_ rfl | refine fl_a (by assumption) ?_ rfl | refine fl_b (by assumption) ?_ rfl); (fail_if_success (with_reducible show wpAny _ _ _ _ _ (Shared.mk _ (Shared.gens _) _ _ _)))) | ((with_reducible show wpAny _ _ _ _ _ (Shared.mk _ _ _ (_ + _ + _ + _) _)); (with_reducible refine tk_gen ?_); intro tk_m) | ((with_reducible show wpAny _ _ (eval (Expr.Constant _ _ _) _) _ _ _); with_reducible first | refine cint ?_ | refine cstr ?_) | ((with_reducible show wpAny _ _ (eval (Expr.Name _ _) _) _ _ _); k_here; k_dflt (refine' nameX_L (hd := ?d) ?F ?v ?_ ?a ?b; (case F => k_asm); (case a => rfl); (case b => rfl); (case v => rfl); (case d => rfl); k_whole)) | ((with_reducible show wpAny _ _ (storeName _ _ _) _ _ _); k_here; k_dflt (refine' storeX_M ?F ?N ?_ ?a ?b; (case F => k_asm); (case N => k_asm); (case a => rfl); (case b => rfl); k_whole; intro h_m m_m F_m N_m; (try k_sweep))) | ((with_reducible show wpAny _ _ (exec _ _) _ _ _); k_fold) | (k_unfold; (try dsimp only)) | (k_end; kc_close) | walk1 | (dsimp only; walk1) | (leave1; (try dsimp only)) | fail "no step"))
      (with_reducible rename Fr _ _ _ _ => kF3); (with_reducible rename News _ _ _ _ => kN3)
      have hi0 : i = 0 := root_first hT hTi
      have hns0 : ns = [] := List.length_eq_zero_iff.mp (hnl.trans hi0)
      refine tl_next kF3 (sw3 kN3) (fun p hp => hp) ?_ ?_ ⟨K, od', ns ++ [⟨a, da, l, pathS [], tq, 0, t', [], 0⟩], by rw [ndAll_snoc]; rfl, hD2, hWb, ?_, ?_, ?_⟩
      · exact off_turn hI3 hnI (fun p hp => ⟨p, hp, rfl⟩)
      · intro z hz; (repeat refine out_st (contains_ne hz (by rfl)) ?_); simp only [mid, hz]; rfl
      · subst hns0; exact snoc_off (fun _ h => nomatch h) q4 q5 l1 l3 l4
      · subst hns0; exact snoc_above (fun _ h => nomatch h) l1 l3 l4
      · rw [hi0, take_one_root hT]
        exact GrOk.root hns0 rfl rfl rfl
    · rw [List.concat_eq_append] at *
      have hnr : (pathS (r ++ [c]) != Str.ofString "/") = true := by
        rw [← root_is]
        exact bne_iff_ne.mpr fun e => by have := pathS_inj e; simp at this
      have hps2 : (pathS (r ++ [c])).length ≤ 25 := hps
      (repeat' (first | ((with_reducible show wpAny _ _ _ _ _ (Shared.mk _ (Shared.gens _) _ _ _)); (with_reducible first | refine fl_c ?_ rfl | refine fl_a (by assumption) ?_ rfl | refine fl_b (by assumption) ?_ rfl); (fail_if_success (with_reducible show wpAny _ _ _ _ _ (Shared.mk _ (Shared.gens _) _ _ _)))) | ((with_reducible show wpAny _ _ _ _ _ (Shared.mk _ _ _ (_ + _ + _ + _) _)); (with_reducible refine tk_gen ?_); intro tk_m) | (k_here; (with_reducible show wpAny _ _ (call (Value.ref 129) _ _) _ _ _); refine use_pur0 dirname_spec (by k_asm) (by k_asm) (by k_asm) (by k_asm) (Rm.le (by first | assumption | (rename (∀ env, Rm _ _) => kR_m; exact kR_m _)) (by decide)) (by omega) ?_; intro v_m h_m tk_m led_m F_m N_m hv_m; obtain ⟨t_m, hv_m⟩ := hv_m; subst hv_m; (try k_sweep)) | ((with_reducible show wpAny _ _ (eval (Expr.Constant _ _ _) _) _ _ _); with_reducible first | refine cint ?_ | refine cstr ?_) | ((with_reducible show wpAny _ _ (eval (Expr.Name _ _) _) _ _ _); k_here; k_dflt (refine' nameX_L (hd := ?d) ?F ?v ?_ ?a ?b; (case F => k_asm); (case a => rfl); (case b => rfl); (case v => rfl); (case d => rfl); k_whole)) | ((with_reducible show wpAny _ _ (storeName _ _ _) _ _ _); k_here; k_dflt (refine' storeX_M ?F ?N ?_ ?a ?b; (case F => k_asm); (case N => k_asm); (case a => rfl); (case b => rfl); k_whole; intro h_m m_m F_m N_m; (try k_sweep))) | ((with_reducible show wpAny _ _ (exec _ _) _ _ _); k_fold) | (k_unfold; (try dsimp only)) | (k_end; kc_close) | walk1 | (dsimp only; walk1) | (leave1; (try dsimp only)) | fail "no step"))
      (with_reducible rename Fr _ _ _ _ => kF3); (with_reducible rename News _ _ _ _ => kN3)
      rw [dirname_path]
      obtain ⟨m', hrm, _⟩ := tr_parent hT i r c mp hTi'
      have hr : r ∈ (T.take i).map (·.1.1) := by
        rw [← List.map_take] at hrm
        obtain ⟨n, hn, e⟩ := List.mem_map.mp hrm
        exact List.mem_map.mpr ⟨n, hn, by rw [e]⟩
      obtain ⟨a0, ha0, hqa⟩ : ∃ a0 ∈ ns, a0.q = pathS r := by
        have : pathS r ∈ ns.map (·.q) := by rw [hGr.q]; exact List.mem_map.mpr ⟨r, hr, rfl⟩
        obtain ⟨a0, h1, h2⟩ := List.mem_map.mp this
        exact ⟨a0, h1, h2⟩
      have hb0 : (⟨a, da, l, pathS (r ++ [c]), tq, 0, t', [], 0⟩ : Nd) ∈ ns ++ [⟨a, da, l, pathS (r ++ [c]), tq, 0, t', [], 0⟩] := List.mem_append_right _ (.head _)
      have ha0' : a0 ∈ ns ++ [⟨a, da, l, pathS (r ++ [c]), tq, 0, t', [], 0⟩] := List.mem_append_left _ ha0
      have hv1 : valueAt (ndKvs (ns ++ [⟨a, da, l, pathS (r ++ [c]), tq, 0, t', [], 0⟩])) (pathS r) = some (.ref a0.x) := by
        obtain ⟨j, hj⟩ := List.getElem?_of_mem ha0'
        rw [← hqa]; exact nd_at hWb.nod hj
      have hv2 : valueAt (ndKvs (ns ++ [⟨a, da, l, pathS (r ++ [c]), tq, 0, t', [], 0⟩])) (pathS (r ++ [c])) = some (.ref a) := by
        obtain ⟨j, hj⟩ := List.getElem?_of_mem hb0
        exact nd_at hWb.nod hj
      have hnn : a0.n = (chN ((T.take i).map (·.1.1)) r : Int) := hGr.n a0 ha0 r hqa
      have hnb := chN_le ((T.take i).map (·.1.1)) r
      rw [List.length_map, List.length_take] at hnb
      obtain ⟨o11, o12, o13⟩ := hW.one a0 ha0
      have u1 : @LT.lt Nat _ d a0.x := habove (a0.x, _) (mem_nd ha0 (.head _))
      have u2 : @LT.lt Nat _ d a0.dx := habove (a0.dx, _) (mem_nd ha0 (.tail _ (.head _)))
      have u3 : @LT.lt Nat _ a0.x da := l2 (a0.x, _) (mem_nd ha0 (.head _))
      have u4 : @LT.lt Nat _ a0.dx da := l2 (a0.dx, _) (mem_nd ha0 (.tail _ (.head _)))
      have kN4 := sw5 kN3 (expose3 ha0 (S := [a0.x, a0.dx]))
      have hkl2 : (ndKvs (ns ++ [⟨a, da, l, pathS (r ++ [c]), tq, 0, t', [], 0⟩])).length ≤ 100000 := by unfold ndKvs; rw [List.length_map, List.length_append, List.length_singleton]; omega
      refine use_mut (rest := (I, oI) :: (dW, oW) :: frs) (add1 (acc := []) (own := ndEx ns [a0.x, a0.dx]) (x := x) (dx := dx) (d := d) (xi := a0.x) (dxi := a0.dx) (li := a0.l) (ni := a0.n) (xj := a) (dxj := da) (lj := l) (q := pathS r) (od := od') ?offo hD2 loD' hkl2 ⟨by omega, by omega, by omega, by omega, by omega, by omega, by omega, by omega, by omega, by omega, by omega, by omega, by omega⟩ ⟨by omega, by omega⟩ (by decide)) kF3 (by rw [← hqa]; exact kN4) ?offr2 X T' ((R' _).le (by decide)) ⟨q4, q5, hv1, hv2⟩ ?_
      case offo => exact own_off (ndEx_off ns _) fun p hp => Nat.ne_of_lt (Nat.lt_trans (Nat.lt_trans (l2 p (ndEx_sub hp)) l3) l4)
      case offr2 =>
        have hI4 : ∀ y ∈ ndAll ns, y.1 ≠ I := fun y hy => hI3 y (.tail _ (.tail _ (.tail _ (.tail _ (.tail _ (.tail _ hy))))))
        have i1 := hI4 (a0.x, _) (mem_nd ha0 (.head _))
        have i2 := hI4 (a0.dx, _) (mem_nd ha0 (.tail _ (.head _)))
        have dd : @LT.lt Nat _ dx d := Nat.lt_trans q4 q5
        have da' : @LT.lt Nat _ dx da := Nat.lt_trans dd l1
        refine off_two (P := fun b => dx ≤ b ∧ b ≠ I) (List.forall_mem_cons.mpr ⟨⟨Nat.le_of_lt q4, hI3 (x, _) (.head _)⟩, List.forall_mem_cons.mpr ⟨⟨Nat.le_refl _, hI3 (dx, _) (.tail _ (.head _))⟩, List.forall_mem_cons.mpr ⟨⟨Nat.le_of_lt dd, hI3 (d, od') (.tail _ (.tail _ (.head _)))⟩,
          List.forall_mem_cons.mpr ⟨⟨Nat.le_of_lt (Nat.lt_trans dd u1), i1⟩, List.forall_mem_cons.mpr ⟨⟨Nat.le_of_lt (Nat.lt_trans dd u2), i2⟩,
          List.forall_mem_cons.mpr ⟨⟨Nat.le_of_lt (Nat.lt_trans da' l3), hI3 (a, _) (.tail _ (.tail _ (.tail _ (.head _))))⟩, List.forall_mem_cons.mpr ⟨⟨Nat.le_of_lt da', hI3 (da, _) (.tail _ (.tail _ (.tail _ (.tail _ (.head _)))))⟩,
          List.forall_mem_cons.mpr ⟨⟨Nat.le_of_lt (Nat.lt_trans da' (Nat.lt_trans l3 l4)), hI3 (l, _) (.tail _ (.tail _ (.tail _ (.tail _ (.tail _ (.head _))))))⟩, fun q hq => ⟨Nat.le_of_lt (Nat.lt_trans dd (habove q (ndEx_sub hq))), hI4 q (ndEx_sub hq)⟩⟩⟩⟩⟩⟩⟩⟩⟩)
          (List.forall_mem_cons.mpr ⟨fun b hb => hb.2, fun p hp b hb e => absurd (Nat.lt_of_lt_of_le (q1 p hp) hb.1) (e ▸ Nat.lt_irrefl _)⟩)
      intro v' h' tk' led' F' N' off'' hv'
      obtain ⟨ti2, rfl, rfl⟩ := hv'
      rw [← hqa] at N'
      have hI5 := off'' (I, oI) (.head _)
      replace N' := sw6 N' (hide3 hW ha0)
      (repeat' (first | ((with_reducible show wpAny _ _ _ _ _ (Shared.mk _ (Shared.gens _) _ _ _)); (with_reducible first | refine fl_c ?_ rfl | refine fl_a (by assumption) ?_ rfl | refine fl_b (by assumption) ?_ rfl); (fail_if_success (with_reducible show wpAny _ _ _ _ _ (Shared.mk _ (Shared.gens _) _ _ _)))) | ((with_reducible show wpAny _ _ _ _ _ (Shared.mk _ _ _ (_ + _ + _ + _) _)); (with_reducible refine tk_gen ?_); intro tk_m) | ((with_reducible show wpAny _ _ (eval (Expr.Constant _ _ _) _) _ _ _); with_reducible first | refine cint ?_ | refine cstr ?_) | ((with_reducible show wpAny _ _ (eval (Expr.Name _ _) _) _ _ _); k_here; k_dflt (refine' nameX_L (hd := ?d) ?F ?v ?_ ?a ?b; (case F => k_asm); (case a => rfl); (case b => rfl); (case v => rfl); (case d => rfl); k_whole)) | ((with_reducible show wpAny _ _ (storeName _ _ _) _ _ _); k_here; k_dflt (refine' storeX_M ?F ?N ?_ ?a ?b; (case F => k_asm); (case N => k_asm); (case a => rfl); (case b => rfl); k_whole; intro h_m m_m F_m N_m; (try k_sweep))) | ((with_reducible show wpAny _ _ (exec _ _) _ _ _); k_fold) | (k_unfold; (try dsimp only)) | (k_end; kc_close) | walk1 | (dsimp only; walk1) | (leave1; (try dsimp only)) | fail "no step"))
      (with_reducible rename Fr _ _ _ _ => kF5); (with_reducible rename News _ _ _ _ => kN5)
      have hAl := (Alike.refl hW offS).upd a0.q (a0.n + 1) ti2
      refine tl_next kF5 kN5 (fun p hp => hp) ?_ ?_ ⟨K, od', updN ns a0.q (a0.n + 1) ti2 ++ [⟨a, da, l, pathS (r ++ [c]), tq, 0, t', [(a0.q, _)], 1⟩], by rw [ndAll_snoc]; rfl, ?_, hAl.wf.snoc (hAl.lt l2) l3 l4 (by rw [hAl.qs]; exact hq0), snoc_off hAl.off q4 q5 l1 l3 l4, snoc_above (fun p hp => by obtain ⟨p', h1, h2⟩ := hAl.adrIn hp; rw [← h2]; exact habove p' h1) l1 l3 l4, ?_⟩
      · exact off_turn hI3 hnI fun p hp => hAl.adrIn hp
      · intro z hz; (repeat refine out_st (contains_ne hz (by rfl)) ?_); simp only [mid, hz]; rfl
      · rw [ndKvs_snoc, upd_kvs]; rw [ndKvs_snoc] at hD2; exact hD2
      · rw [List.take_add_one, hTi, List.map_append, hqa]
        exact GrOk.edge hGr hnew (leaf_new hT hTi) hr rfl rfl rfl (by rw [hnn])
  case done =>
    intro m₁ nw h' tk hJ kF kN
    obtain ⟨K, od, ns, rfl, hDs, hW, offS, habove, hGr⟩ := hJ
    rw [show (kvsOf T).length = T.length from List.length_map .., List.take_length] at hGr
    have loD' : (d == sysModules) = false := by assumption
    have hnl : ns.length = T.length := by
      have := congrArg List.length hGr.q
      rwa [List.length_map, List.length_map, List.length_map] at this
    have hsucc : ∀ i a, ns[i]? = some a → a.acc = [] ∨ ∃ q t, a.acc = [(q, t)] ∧ q ∈ (ns.take i).map (·.q) := succ_before hT hGr
    (repeat' (first | ((with_reducible show wpAny _ _ _ _ _ (Shared.mk _ (Shared.gens _) _ _ _)); (with_reducible first | refine fl_c ?_ rfl | refine fl_a (by assumption) ?_ rfl | refine fl_b (by assumption) ?_ rfl); (fail_if_success (with_reducible show wpAny _ _ _ _ _ (Shared.mk _ (Shared.gens _) _ _ _)))) | ((with_reducible show wpAny _ _ _ _ _ (Shared.mk _ _ _ (_ + _ + _ + _) _)); (with_reducible refine tk_gen ?_); intro tk_m) | ((with_reducible show wpAny _ _ (eval (Expr.Constant _ _ _) _) _ _ _); with_reducible first | refine cint ?_ | refine cstr ?_) | ((with_reducible show wpAny _ _ (eval (Expr.Name _ _) _) _ _ _); k_here; k_dflt (refine' nameX_L (hd := ?d) ?F ?v ?_ ?a ?b; (case F => k_asm); (case a => rfl); (case b => rfl); (case v => rfl); (case d => rfl); k_whole)) | ((with_reducible show wpAny _ _ (storeName _ _ _) _ _ _); k_here; k_dflt (refine' storeX_M ?F ?N ?_ ?a ?b; (case F => k_asm); (case N => k_asm); (case a => rfl); (case b => rfl); k_whole; intro h_m m_m F_m N_m; (try k_sweep))) | ((with_reducible show wpAny _ _ (exec _ _) _ _ _); k_fold) | (k_unfold; (try dsimp only)) | (k_end; kc_close) | walk1 | (dsimp only; walk1) | (leave1; (try dsimp only)) | fail "no step"))
    (with_reducible rename Fr _ _ _ _ => kF2); (with_reducible rename News _ _ _ _ => kN2)
    refine use_mutF (rest := [(dW, oW)]) (prepare_spec hDs loD' hW.nod (by omega) hsucc offS) hA hF kF2 (sw7 kN2) ?offr ?off2 (by rfl) X T' ((R' _).le (by decide)) ⟨q4, q5⟩ ?_
    case offr => exact ge_two (ge_led q4 q5 habove) fun p hp => by rw [List.mem_singleton.mp hp]; exact q2
    case off2 =>
      intro p hp q hq
      rcases List.mem_append.mp hp with hp | hp
      · exact Nat.ne_of_gt (Nat.lt_of_lt_of_le (q3 q hq) (ge_led q4 q5 habove p hp))
      · exact hoff p hp q hq
    intro v' h' tk' led' frs₁ F' N' off1 off2' sl hv'
    obtain ⟨rfl, r, kr, K', rfl, z1, z2, z3, z4⟩ := hv'
    clear kF2 kN2
    (repeat' (first | ((with_reducible show wpAny _ _ _ _ _ (Shared.mk _ (Shared.gens _) _ _ _)); (with_reducible first | refine fl_c ?_ rfl | refine fl_a (by assumption) ?_ rfl | refine fl_b (by assumption) ?_ rfl); (fail_if_success (with_reducible show wpAny _ _ _ _ _ (Shared.mk _ (Shared.gens _) _ _ _)))) | ((with_reducible show wpAny _ _ _ _ _ (Shared.mk _ _ _ (_ + _ + _ + _) _)); (with_reducible refine tk_gen ?_); intro tk_m) | ((with_reducible show wpAny _ _ (exec (Stmt.While (Expr.Call _ _ _ _) _ _ _) _) _ _ _); (k_here; refine hold1 ?_)) | ((with_reducible show wpAny _ _ (eval (Expr.Constant _ _ _) _) _ _ _); with_reducible first | refine cint ?_ | refine cstr ?_) | ((with_reducible show wpAny _ _ (eval (Expr.Name _ _) _) _ _ _); k_here; k_dflt (refine' nameX_L (hd := ?d) ?F ?v ?_ ?a ?b; (case F => k_asm); (case a => rfl); (case b => rfl); (case v => rfl); (case d => rfl); k_whole)) | ((with_reducible show wpAny _ _ (storeName _ _ _) _ _ _); k_here; k_dflt (refine' storeX_M ?F ?N ?_ ?a ?b; (case F => k_asm); (case N => k_asm); (case a => rfl); (case b => rfl); k_whole; intro h_m m_m F_m N_m; (try k_sweep))) | ((with_reducible show wpAny _ _ (exec _ _) _ _ _); k_fold) | (k_unfold; (try dsimp only)) | (k_end; kc_close) | walk1 | (dsimp only; walk1) | (leave1; (try dsimp only)) | fail "no step"))
    (with_reducible rename Fr _ _ _ _ => kF2); (with_reducible rename News _ _ _ _ => kN2)
    refine cap1 kN2 ?_
    intro R0 e1
    subst e1
    (with_reducible rename ∀ p ∈ _ ++ frs₁, p.1 < R0 => lR)
    obtain ⟨H, hSch, hOk⟩ := hS (parOf ns) (nOf ns) (rdyOf ns) (hGr.goodPar hW) (hGr.nOf hW) hGr.nOf0 hGr.rdy
    have b0 : ∀ p ∈ ndAll ns, p.1 < R0 := fun p hp => lR p (List.mem_append_left _ (List.mem_append_left _ (.tail _ (.tail _ (.tail _ (.tail _ hp))))))
    have b1 : @LT.lt Nat _ r R0 := lR (r, _) (List.mem_append_left _ (List.mem_append_left _ (.head _)))
    have b2 : @LT.lt Nat _ x R0 := lR (x, _) (List.mem_append_left _ (List.mem_append_left _ (.tail _ (.head _))))
    have b3 : @LT.lt Nat _ dx R0 := lR (dx, _) (List.mem_append_left _ (List.mem_append_left _ (.tail _ (.tail _ (.head _)))))
    have b4 : @LT.lt Nat _ d R0 := lR (d, _) (List.mem_append_left _ (List.mem_append_left _ (.tail _ (.tail _ (.tail _ (.head _))))))
    have b5 : @LT.lt Nat _ dW R0 := lR (dW, _) (List.mem_append_left _ (List.mem_append_right _ (.head _)))
    have b6 : ∀ p ∈ frs₁, p.1 < R0 := fun p hp => lR p (List.mem_append_right _ hp)
    refine unhold1 ?_
    have sep : ∀ a : Nat, a = r ∨ a = x ∨ a = dx ∨ a = d ∨ (∃ q ∈ ndAll ns, q.1 = a) → a < R0 ∧ a ≠ dW ∧ ∀ p ∈ frs₁, p.1 ≠ a := by
      intro a ha
      have h1 : ∃ q ∈ (r, W.listOf (strValues (rdyOf ns)).toArray kr) :: (x, instObj 252 dx) :: (dx, srtD w K' d (Value.ref r) 0 0 4) :: (d, od) :: ndAll ns, q.1 = a := by
        rcases ha with e | e | e | e | ⟨q, h1, h2⟩
        · exact ⟨_, .head _, e.symm⟩
        · exact ⟨_, .tail _ (.head _), e.symm⟩
        · exact ⟨_, .tail _ (.tail _ (.head _)), e.symm⟩
        · exact ⟨_, .tail _ (.tail _ (.tail _ (.head _))), e.symm⟩
        · exact ⟨q, .tail _ (.tail _ (.tail _ (.tail _ h1))), h2⟩
      obtain ⟨q, h1, h2⟩ := h1
      refine ⟨?_, ?_, fun p hp => ?_⟩
      · rw [← h2]; exact lR q (List.mem_append_left _ (List.mem_append_left _ h1))
      · rw [← h2]; exact off1 _ (.head _) q h1
      · rw [← h2]; exact fun e => off2' q h1 p hp e.symm
    have hne4 : OwnOff (ndAll ns) [r, x, dx, d] := fun p hp b hb => by
      rcases List.mem_cons.mp hb with e | hb
      · rw [e]; exact z4 p hp
      · exact offS p hp b hb
    have hnL : ns.length ≤ 13 := by omega
    replace kN2 := sw8 kN2
    refine' while_inv (L := L) (fun n m nw => ∃ k Ki kr' ns' p kR rs, nw = (R0, W.listOf (rs.map fun e => Value.ref e.1).toArray kR) :: (r, W.listOf (strValues (iterR (parOf ns) (nOf ns, rdyOf ns) k).2).toArray kr') :: (x, instObj 252 dx) :: (dx, srtD w Ki d (.ref r) p p 4) :: (d, od) :: (dW, oW) :: (ndAll ns' ++ (rsLed rs ++ frs₁)) ∧ n = H - k ∧ k ≤ H ∧ Alike [r, x, dx, d] ns ns' ∧ Has ns' (iterR (parOf ns) (nOf ns, rdyOf ns) k).1 ∧ (rs.map fun e => e.2.1.map (·.1)) = ((List.range k).map fun k => (iterR (parOf ns) (nOf ns, rdyOf ns) k).2.map (·.1)) ∧ 0 ≤ p ∧ p ≤ 20 * (k : Int) ∧ (∀ e ∈ rs, e.2.1.length ≤ 20) ∧ (∀ p ∈ rsLed rs, R0 < p.1) ∧ m (Str.ofString "sorter") = some (.ref x) ∧ m (Str.ofString "rounds") = some (.ref R0)) H kF2 kN2 ?h0 ?turn2
    case h0 => exact ⟨0, K', kr, ns, 0, 0, [], rfl, rfl, Nat.zero_le _, Alike.refl hW hne4, fun a ha => (nOf_at hW ha).symm, rfl, Int.le_refl _, Int.le_refl _, (fun _ h => nomatch h), (fun _ h => nomatch h), rfl, rfl⟩
    case turn2 =>
      intro n m₂ nw h tk hJ kF kN
      k_fold
      obtain ⟨k, Ki, kr', ns', p, kR, rs, rfl, rfl, hkH, hA2, hH2, hrs, hp0, hp1, hrl, hrA, e1, e2⟩ := hJ
      replace kF := frx (x := Str.ofString "sorter") kF e1
      replace kF := frx (x := Str.ofString "rounds") kF (show _ = some (Value.ref R0) by refine mskip (by decide) ?_; exact e2)
      have hl20 := hSch.len k hkH
      have hH20 := hSch.hH
      (repeat' (first | ((with_reducible show wpAny _ _ _ _ _ (Shared.mk _ (Shared.gens _) _ _ _)); (with_reducible first | refine fl_c ?_ rfl | refine fl_a (by assumption) ?_ rfl | refine fl_b (by assumption) ?_ rfl); (fail_if_success (with_reducible show wpAny _ _ _ _ _ (Shared.mk _ (Shared.gens _) _ _ _)))) | ((with_reducible show wpAny _ _ _ _ _ (Shared.mk _ _ _ (_ + _ + _ + _) _)); (with_reducible refine tk_gen ?_); intro tk_m) | ((with_reducible show wpAny _ _ (eval (Expr.Constant _ _ _) _) _ _ _); with_reducible first | refine cint ?_ | refine cstr ?_) | ((with_reducible show wpAny _ _ (eval (Expr.Name _ _) _) _ _ _); k_here; k_dflt (refine' nameX_L (hd := ?d) ?F ?v ?_ ?a ?b; (case F => k_asm); (case a => rfl); (case b => rfl); (case v => rfl); (case d => rfl); k_whole)) | ((with_reducible show wpAny _ _ (storeName _ _ _) _ _ _); k_here; k_dflt (refine' storeX_M ?F ?N ?_ ?a ?b; (case F => k_asm); (case N => k_asm); (case a => rfl); (case b => rfl); k_whole; intro h_m m_m F_m N_m; (try k_sweep))) | ((with_reducible show wpAny _ _ (exec _ _) _ _ _); k_fold) | (k_unfold; (try dsimp only)) | (k_end; kc_close) | walk1 | (dsimp only; walk1) | (leave1; (try dsimp only)) | fail "no step"))
      (with_reducible rename Fr _ _ _ _ => kF2); (with_reducible rename News _ _ _ _ => kN2)
      refine use_read (active_spec (x := x) (dx := dx) (r := r) (k := kr') (K := Ki) (d := d) (p := p) (rdy := (iterR (parOf ns) (nOf ns, rdyOf ns) k).2) (by omega)) kF2 kN2 X T' ((R' _).le (by decide)) trivial (blk_sub [[_], [_], [_], [_], [_], [_]] _ [2, 3] 4) ?_
      intro h' tk' F' N'
      clear kF2 kN2
      by_cases hk : k < H
      · have hne := hSch.run k hk
        rw [show (iterR (parOf ns) (nOf ns, rdyOf ns) k).2.isEmpty = false from by cases h : (iterR (parOf ns) (nOf ns, rdyOf ns) k).2 with | nil => exact absurd h hne | cons _ _ => rfl]
        (repeat' (first | ((with_reducible show wpAny _ _ _ _ _ (Shared.mk _ (Shared.gens _) _ _ _)); (with_reducible first | refine fl_c ?_ rfl | refine fl_a (by assumption) ?_ rfl | refine fl_b (by assumption) ?_ rfl); (fail_if_success (with_reducible show wpAny _ _ _ _ _ (Shared.mk _ (Shared.gens _) _ _ _)))) | ((with_reducible show wpAny _ _ _ _ _ (Shared.mk _ _ _ (_ + _ + _ + _) _)); (with_reducible refine tk_gen ?_); intro tk_m) | ((with_reducible show wpAny _ _ (eval (Expr.Constant _ _ _) _) _ _ _); with_reducible first | refine cint ?_ | refine cstr ?_) | ((with_reducible show wpAny _ _ (eval (Expr.Name _ _) _) _ _ _); k_here; k_dflt (refine' nameX_L (hd := ?d) ?F ?v ?_ ?a ?b; (case F => k_asm); (case a => rfl); (case b => rfl); (case v => rfl); (case d => rfl); k_whole)) | ((with_reducible show wpAny _ _ (storeName _ _ _) _ _ _); k_here; k_dflt (refine' storeX_M ?F ?N ?_ ?a ?b; (case F => k_asm); (case N => k_asm); (case a => rfl); (case b => rfl); k_whole; intro h_m m_m F_m N_m; (try k_sweep))) | ((with_reducible show wpAny _ _ (exec _ _) _ _ _); k_fold) | (k_unfold; (try dsimp only)) | (k_end; kc_close) | walk1 | (dsimp only; walk1) | (leave1; (try dsimp only)) | fail "no step"))
        (with_reducible rename Fr _ _ _ _ => kF2); (with_reducible rename News _ _ _ _ => kN2)
        have offR : ∀ {led : List (Addr × Obj)}, (∀ q ∈ led, @Eq Nat q.1 r ∨ @Eq Nat q.1 x ∨ @Eq Nat q.1 dx ∨ @Eq Nat q.1 d ∨ ∃ q' ∈ ndAll ns, @Eq Nat q'.1 q.1) → ∀ p ∈ (R0, W.listOf (rs.map fun e => Value.ref e.1).toArray kR) :: (dW, oW) :: (rsLed rs ++ frs₁), ∀ q ∈ led, q.1 ≠ p.1 := by
          intro led hl p hp q hq
          obtain ⟨y1, y2, y3⟩ := sep q.1 (hl q hq)
          rcases List.mem_cons.mp hp with e | hp
          · rw [e]; exact Nat.ne_of_lt y1
          · rcases List.mem_cons.mp hp with e | hp
            · rw [e]; exact y2
            · rcases List.mem_append.mp hp with hp | hp
              · exact Nat.ne_of_lt (Nat.lt_trans y1 (hrA p hp))
              · exact (y3 p hp).symm
        have hledS : ∀ {ns2 : List Nd} {o1 o2 o3 o4 : Obj}, Alike [r, x, dx, d] ns ns2 → ∀ q ∈ (r, o1) :: (x, o2) :: (dx, o3) :: (d, o4) :: ndAll ns2, @Eq Nat q.1 r ∨ @Eq Nat q.1 x ∨ @Eq Nat q.1 dx ∨ @Eq Nat q.1 d ∨ ∃ q' ∈ ndAll ns, @Eq Nat q'.1 q.1 := by
          intro ns2 o1 o2 o3 o4 hA
          exact List.forall_mem_cons.mpr ⟨.inl rfl, List.forall_mem_cons.mpr ⟨.inr (.inl rfl), List.forall_mem_cons.mpr ⟨.inr (.inr (.inl rfl)), List.forall_mem_cons.mpr ⟨.inr (.inr (.inr (.inl rfl))), fun q hq => .inr (.inr (.inr (.inr (hA.adrIn hq))))⟩⟩⟩⟩
        refine use_mut (rest := (R0, W.listOf (rs.map fun e => Value.ref e.1).toArray kR) :: (dW, oW) :: (rsLed rs ++ frs₁)) (ready_spec (by rw [hA2.kvs]; exact hDs) loD' hA2.wf hA2.off hH2 (by omega) hne (by rw [hA2.qs, hGr.q, List.map_map]; intro q hq; have := hSch.inn k hkH q hq; rwa [List.map_map] at this) ⟨z1.symm, z2.symm, z3.symm⟩ ⟨hp0, by omega⟩) kF2 (sw9 kN2) (offR (hledS hA2)) X T' ((R' _).le (by decide)) ⟨q4, q5⟩ ?_
        intro v' h' tk' led' F' N' off3 hv'
        obtain ⟨Tp, K2, p2, ns2, rfl, rfl, hlT, hp2, hA3, hH3⟩ := hv'
        clear kF2 kN2
        (repeat' (first | ((with_reducible show wpAny _ _ _ _ _ (Shared.mk _ (Shared.gens _) _ _ _)); (with_reducible first | refine fl_c ?_ rfl | refine fl_a (by assumption) ?_ rfl | refine fl_b (by assumption) ?_ rfl); (fail_if_success (with_reducible show wpAny _ _ _ _ _ (Shared.mk _ (Shared.gens _) _ _ _)))) | ((with_reducible show wpAny _ _ _ _ _ (Shared.mk _ _ _ (_ + _ + _ + _) _)); (with_reducible refine tk_gen ?_); intro tk_m) | ((with_reducible show wpAny _ _ (eval (Expr.Constant _ _ _) _) _ _ _); with_reducible first | refine cint ?_ | refine cstr ?_) | ((with_reducible show wpAny _ _ (eval (Expr.Name _ _) _) _ _ _); k_here; k_dflt (refine' nameX_L (hd := ?d) ?F ?v ?_ ?a ?b; (case F => k_asm); (case a => rfl); (case b => rfl); (case v => rfl); (case d => rfl); k_whole)) | ((with_reducible show wpAny _ _ (storeName _ _ _) _ _ _); k_here; k_dflt (refine' storeX_M ?F ?N ?_ ?a ?b; (case F => k_asm); (case N => k_asm); (case a => rfl); (case b => rfl); k_whole; intro h_m m_m F_m N_m; (try k_sweep))) | ((with_reducible show wpAny _ _ (exec _ _) _ _ _); k_fold) | (k_unfold; (try dsimp only)) | (k_end; kc_close) | walk1 | (dsimp only; walk1) | (leave1; (try dsimp only)) | fail "no step"))
        (with_reducible rename Fr _ _ _ _ => kF2); (with_reducible rename News _ _ _ _ => kN2)
        have hz20 : (strValues (iterR (parOf ns) (nOf ns, rdyOf ns) k).2).toArray.size ≤ sizeLine := by rw [List.size_toArray, strv_len, sizeLine_eq]; omega
        refine list_copyKT kF2 kN2 (News.isTup kN2 (.head _)) (fun D c h' F' N' l1 => ?_) hz20
        clear kF2 kN2
        replace N' := sw12 N'
        have hRD : @LT.lt Nat _ R0 D := l1 (R0, _) (List.mem_append_right _ (.head _))
        have hfar := off3 (R0, W.listOf (rs.map fun e => Value.ref e.1).toArray kR) (.head _)
        (repeat' (first | ((with_reducible show wpAny _ _ _ _ _ (Shared.mk _ (Shared.gens _) _ _ _)); (with_reducible first | refine fl_c ?_ rfl | refine fl_a (by assumption) ?_ rfl | refine fl_b (by assumption) ?_ rfl); (fail_if_success (with_reducible show wpAny _ _ _ _ _ (Shared.mk _ (Shared.gens _) _ _ _)))) | ((with_reducible show wpAny _ _ _ _ _ (Shared.mk _ _ _ (_ + _ + _ + _) _)); (with_reducible refine tk_gen ?_); intro tk_m) | ((with_reducible show wpAny _ _ (eval (Expr.Constant _ _ _) _) _ _ _); with_reducible first | refine cint ?_ | refine cstr ?_) | ((with_reducible show wpAny _ _ (eval (Expr.Name _ _) _) _ _ _); k_here; k_dflt (refine' nameX_L (hd := ?d) ?F ?v ?_ ?a ?b; (case F => k_asm); (case a => rfl); (case b => rfl); (case v => rfl); (case d => rfl); k_whole)) | ((with_reducible show wpAny _ _ (storeName _ _ _) _ _ _); k_here; k_dflt (refine' storeX_M ?F ?N ?_ ?a ?b; (case F => k_asm); (case N => k_asm); (case a => rfl); (case b => rfl); k_whole; intro h_m m_m F_m N_m; (try k_sweep))) | ((with_reducible show wpAny _ _ (exec _ _) _ _ _); k_fold) | (k_unfold; (try dsimp only)) | (k_end; kc_close) | walk1 | (dsimp only; walk1) | (leave1; (try dsimp only)) | fail "no step"))
        (with_reducible rename Fr _ _ _ _ => kF2); (with_reducible rename News _ _ _ _ => kN2)
        refine append_K (x := .ref D) kF2 kN2 (Upd.head ?offU) (fun h' F' N' => ?_) ?szU
        case szU =>
          have : rs.length = k := by have := congrArg List.length hrs; rwa [List.length_map, List.length_map, List.length_range] at this
          rw [List.size_toArray, List.length_map, sizeLine_eq]; omega
        case offU =>
          refine List.forall_mem_cons.mpr ⟨Nat.ne_of_gt hRD, List.forall_mem_cons.mpr ⟨hfar _ (.head _), List.forall_mem_cons.mpr ⟨hfar _ (.tail _ (.head _)), List.forall_mem_cons.mpr ⟨hfar _ (.tail _ (.tail _ (.head _))), List.forall_mem_cons.mpr ⟨hfar _ (.tail _ (.tail _ (.tail _ (.head _)))), List.forall_mem_cons.mpr ⟨hfar _ (.tail _ (.tail _ (.tail _ (.tail _ (.head _))))), List.forall_mem_cons.mpr ⟨Nat.ne_of_lt b5, ?_⟩⟩⟩⟩⟩⟩⟩
          exact List.forall_mem_append.mpr ⟨fun z h => hfar z (.tail _ (.tail _ (.tail _ (.tail _ (.tail _ h))))), List.forall_mem_append.mpr ⟨fun z h => Nat.ne_of_gt (hrA z h), fun z h => Nat.ne_of_lt (b6 z h)⟩⟩
        clear kF2 kN2
        (repeat' (first | ((with_reducible show wpAny _ _ _ _ _ (Shared.mk _ (Shared.gens _) _ _ _)); (with_reducible first | refine fl_c ?_ rfl | refine fl_a (by assumption) ?_ rfl | refine fl_b (by assumption) ?_ rfl); (fail_if_success (with_reducible show wpAny _ _ _ _ _ (Shared.mk _ (Shared.gens _) _ _ _)))) | ((with_reducible show wpAny _ _ _ _ _ (Shared.mk _ _ _ (_ + _ + _ + _) _)); (with_reducible refine tk_gen ?_); intro tk_m) | ((with_reducible show wpAny _ _ (eval (Expr.Constant _ _ _) _) _ _ _); with_reducible first | refine cint ?_ | refine cstr ?_) | ((with_reducible show wpAny _ _ (eval (Expr.Name _ _) _) _ _ _); k_here; k_dflt (refine' nameX_L (hd := ?d) ?F ?v ?_ ?a ?b; (case F => k_asm); (case a => rfl); (case b => rfl); (case v => rfl); (case d => rfl); k_whole)) | ((with_reducible show wpAny _ _ (storeName _ _ _) _ _ _); k_here; k_dflt (refine' storeX_M ?F ?N ?_ ?a ?b; (case F => k_asm); (case N => k_asm); (case a => rfl); (case b => rfl); k_whole; intro h_m m_m F_m N_m; (try k_sweep))) | ((with_reducible show wpAny _ _ (exec _ _) _ _ _); k_fold) | (k_unfold; (try dsimp only)) | (k_end; kc_close) | walk1 | (dsimp only; walk1) | (leave1; (try dsimp only)) | fail "no step"))
        (with_reducible rename Fr _ _ _ _ => kF2); (with_reducible rename News _ _ _ _ => kN2)
        refine methodStar ?_
        (repeat' (first | ((with_reducible show wpAny _ _ _ _ _ (Shared.mk _ (Shared.gens _) _ _ _)); (with_reducible first | refine fl_c ?_ rfl | refine fl_a (by assumption) ?_ rfl | refine fl_b (by assumption) ?_ rfl); (fail_if_success (with_reducible show wpAny _ _ _ _ _ (Shared.mk _ (Shared.gens _) _ _ _)))) | ((with_reducible show wpAny _ _ _ _ _ (Shared.mk _ _ _ (_ + _ + _ + _) _)); (with_reducible refine tk_gen ?_); intro tk_m) | ((with_reducible show wpAny _ _ (eval (Expr.Constant _ _ _) _) _ _ _); with_reducible first | refine cint ?_ | refine cstr ?_) | ((with_reducible show wpAny _ _ (eval (Expr.Name _ _) _) _ _ _); k_here; k_dflt (refine' nameX_L (hd := ?d) ?F ?v ?_ ?a ?b; (case F => k_asm); (case a => rfl); (case b => rfl); (case v => rfl); (case d => rfl); k_whole)) | ((with_reducible show wpAny _ _ (storeName _ _ _) _ _ _); k_here; k_dflt (refine' storeX_M ?F ?N ?_ ?a ?b; (case F => k_asm); (case N => k_asm); (case a => rfl); (case b => rfl); k_whole; intro h_m m_m F_m N_m; (try k_sweep))) | ((with_reducible show wpAny _ _ (exec _ _) _ _ _); k_fold) | (k_unfold; (try dsimp only)) | (k_end; kc_close) | walk1 | (dsimp only; walk1) | (leave1; (try dsimp only)) | fail "no step"))
        (with_reducible rename Fr _ _ _ _ => kF2); (with_reducible rename News _ _ _ _ => kN2)
        refine callWith_SM (K := hd.heap_39 w.params) (g := 235) (self := .ref x) (by k_is) ?_
        (repeat' (first | ((with_reducible show wpAny _ _ _ _ _ (Shared.mk _ (Shared.gens _) _ _ _)); (with_reducible first | refine fl_c ?_ rfl | refine fl_a (by assumption) ?_ rfl | refine fl_b (by assumption) ?_ rfl); (fail_if_success (with_reducible show wpAny _ _ _ _ _ (Shared.mk _ (Shared.gens _) _ _ _)))) | ((with_reducible show wpAny _ _ _ _ _ (Shared.mk _ _ _ (_ + _ + _ + _) _)); (with_reducible refine tk_gen ?_); intro tk_m) | ((with_reducible show wpAny _ _ (eval (Expr.Constant _ _ _) _) _ _ _); with_reducible first | refine cint ?_ | refine cstr ?_) | ((with_reducible show wpAny _ _ (eval (Expr.Name _ _) _) _ _ _); k_here; k_dflt (refine' nameX_L (hd := ?d) ?F ?v ?_ ?a ?b; (case F => k_asm); (case a => rfl); (case b => rfl); (case v => rfl); (case d => rfl); k_whole)) | ((with_reducible show wpAny _ _ (storeName _ _ _) _ _ _); k_here; k_dflt (refine' storeX_M ?F ?N ?_ ?a ?b; (case F => k_asm); (case N => k_asm); (case a => rfl); (case b => rfl); k_whole; intro h_m m_m F_m N_m; (try k_sweep))) | ((with_reducible show wpAny _ _ (exec _ _) _ _ _); k_fold) | (k_unfold; (try dsimp only)) | (k_end; kc_close) | walk1 | (dsimp only; walk1) | (leave1; (try dsimp only)) | fail "no step"))
        refine star_seq (ws := strValues (iterR (parOf ns) (nOf ns, rdyOf ns) k).2) kF2 kN2 (.tail _ (.tail _ (.tail _ (.head _)))) rfl rfl (.inr rfl) rfl hz20 (fun h' F' N' => ?_)
        clear kF2 kN2
        refine ⟨methP N' (.head _) (X.keeps F'.keep), ?_⟩
        have hq := (N' _ (.head _)).1
        have hA4 := hA2.trans hA3
        have offG : ∀ p : Addr × Obj, (p.1 = R0 ∨ p.1 = dW ∨ @LT.lt Nat _ R0 p.1 ∨ p ∈ frs₁) → ∀ {o1 o2 o3 o4 : Obj}, ∀ q ∈ (r, o1) :: (x, o2) :: (dx, o3) :: (d, o4) :: ndAll ns2, q.1 ≠ p.1 := by
          intro p hp o1 o2 o3 o4 q hq
          obtain ⟨y1, y2, y3⟩ := sep q.1 (hledS hA4 q hq)
          rcases hp with e | e | e | e
          · rw [e]; exact Nat.ne_of_lt y1
          · rw [e]; exact y2
          · exact Nat.ne_of_lt (Nat.lt_trans y1 e)
          · exact (y3 p e).symm
        refine wpAny_call (boundC hq (use_mutC (rest := (R0, W.listOf ((rs.map fun e => Value.ref e.1).toArray.push (.ref D)) (kR + 1)) :: (D, W.listOf (strValues (iterR (parOf ns) (nOf ns, rdyOf ns) k).2).toArray c) :: (dW, oW) :: (rsLed rs ++ frs₁)) (done_spec (par := parOf ns) (N₀ := outN (iterR (parOf ns) (nOf ns, rdyOf ns) k)) (rdy := (iterR (parOf ns) (nOf ns, rdyOf ns) k).2) (by rw [hA4.kvs]; exact hDs) loD' (by rw [hA4.kvs]; unfold ndKvs; rw [List.length_map]; omega) hA4.wf hA4.off hH3 (by omega) (by rw [hA4.qs, hGr.q, List.map_map]; intro q hq; have := hSch.inn k hkH q hq; rwa [List.map_map] at this) ⟨z1.symm, z2.symm, z3.symm⟩ ⟨hp0, by omega⟩ (hA4.parOf hW) (hone_of hA4 hW hsucc) (hSch.out k hk) (hSch.bd k hk) (hSch.br k hk)) F' (sw13 fun p hp => N' p (.tail _ hp)) ?offD X T' ((R' _).le (by decide)) ⟨q4, q5⟩ ?_))
        case offD =>
          refine List.forall_mem_cons.mpr ⟨offG _ (.inl rfl), List.forall_mem_cons.mpr ⟨offG _ (.inr (.inr (.inl hRD))), List.forall_mem_cons.mpr ⟨offG _ (.inr (.inl rfl)), List.forall_mem_append.mpr ⟨fun p h => offG p (.inr (.inr (.inl (hrA p h)))), fun p h => offG p (.inr (.inr (.inr h)))⟩⟩⟩⟩
        intro v' h' tk' led' F' N' off4 hv'
        obtain ⟨K3, kr3, ns3, rfl, rfl, hA5, hH5⟩ := hv'
        subst hp2
        replace N' := sw11 N'
        (repeat' (first | ((with_reducible show wpAny _ _ _ _ _ (Shared.mk _ (Shared.gens _) _ _ _)); (with_reducible first | refine fl_c ?_ rfl | refine fl_a (by assumption) ?_ rfl | refine fl_b (by assumption) ?_ rfl); (fail_if_success (with_reducible show wpAny _ _ _ _ _ (Shared.mk _ (Shared.gens _) _ _ _)))) | ((with_reducible show wpAny _ _ _ _ _ (Shared.mk _ _ _ (_ + _ + _ + _) _)); (with_reducible refine tk_gen ?_); intro tk_m) | ((with_reducible show wpAny _ _ (eval (Expr.Constant _ _ _) _) _ _ _); with_reducible first | refine cint ?_ | refine cstr ?_) | ((with_reducible show wpAny _ _ (eval (Expr.Name _ _) _) _ _ _); k_here; k_dflt (refine' nameX_L (hd := ?d) ?F ?v ?_ ?a ?b; (case F => k_asm); (case a => rfl); (case b => rfl); (case v => rfl); (case d => rfl); k_whole)) | ((with_reducible show wpAny _ _ (storeName _ _ _) _ _ _); k_here; k_dflt (refine' storeX_M ?F ?N ?_ ?a ?b; (case F => k_asm); (case N => k_asm); (case a => rfl); (case b => rfl); k_whole; intro h_m m_m F_m N_m; (try k_sweep))) | ((with_reducible show wpAny _ _ (exec _ _) _ _ _); k_fold) | (k_unfold; (try dsimp only)) | (k_end; kc_close) | walk1 | (dsimp only; walk1) | (leave1; (try dsimp only)) | fail "no step"))
        (with_reducible rename Fr _ _ _ _ => kF2); (with_reducible rename News _ _ _ _ => kN2)
        refine tw_next kF2 kN2 (fun p hp => hp) ?_ ⟨k + 1, K3, kr3, ns3, p + ((iterR (parOf ns) (nOf ns, rdyOf ns) k).2.length : Int), kR + 1, rs ++ [(D, (iterR (parOf ns) (nOf ns, rdyOf ns) k).2, c)], ?_, rfl, hk, hA4.trans hA5, hH5, ?_, by omega, by omega, ?_, ?_, ?_, ?_⟩
        · omega
        · simp only [rsLed, List.map_append, List.map_cons, List.map_nil, List.push_toArray]; rfl
        · rw [List.map_append, hrs, List.range_succ, List.map_append]; rfl
        · intro e he
          rcases List.mem_append.mp he with he | he
          · exact hrl e he
          · rw [List.mem_singleton.mp he]; exact hl20
        · intro z hz
          unfold rsLed at hz
          rw [List.map_append] at hz
          rcases List.mem_append.mp hz with hz | hz
          · exact hrA z hz
          · rw [List.mem_singleton.mp hz]; exact hRD
        · show (if Str.ofString "sorter" = Str.ofString "ready" then some (Value.ref Tp) else if Str.ofString "sorter" = Str.ofString "rounds" then some (Value.ref R0) else if Str.ofString "sorter" = Str.ofString "sorter" then some (Value.ref x) else m₂ (Str.ofString "sorter")) = some (Value.ref x)
          rw [if_neg (by decide), if_neg (by decide), if_pos rfl]
        · show (if Str.ofString "rounds" = Str.ofString "ready" then some (Value.ref Tp) else if Str.ofString "rounds" = Str.ofString "rounds" then some (Value.ref R0) else if Str.ofString "rounds" = Str.ofString "sorter" then some (Value.ref x) else m₂ (Str.ofString "rounds")) = some (Value.ref R0)
          rw [if_neg (by decide), if_pos rfl]
      · obtain rfl : k = H := by omega
        rw [hSch.stop]
        (repeat' (first | ((with_reducible show wpAny _ _ _ _ _ (Shared.mk _ (Shared.gens _) _ _ _)); (with_reducible first | refine fl_c ?_ rfl | refine fl_a (by assumption) ?_ rfl | refine fl_b (by assumption) ?_ rfl); (fail_if_success (with_reducible show wpAny _ _ _ _ _ (Shared.mk _ (Shared.gens _) _ _ _)))) | ((with_reducible show wpAny _ _ _ _ _ (Shared.mk _ _ _ (_ + _ + _ + _) _)); (with_reducible refine tk_gen ?_); intro tk_m) | ((with_reducible show wpAny _ _ (eval (Expr.Constant _ _ _) _) _ _ _); with_reducible first | refine cint ?_ | refine cstr ?_) | ((with_reducible show wpAny _ _ (eval (Expr.Name _ _) _) _ _ _); k_here; k_dflt (refine' nameX_L (hd := ?d) ?F ?v ?_ ?a ?b; (case F => k_asm); (case a => rfl); (case b => rfl); (case v => rfl); (case d => rfl); k_whole)) | ((with_reducible show wpAny _ _ (storeName _ _ _) _ _ _); k_here; k_dflt (refine' storeX_M ?F ?N ?_ ?a ?b; (case F => k_asm); (case N => k_asm); (case a => rfl); (case b => rfl); k_whole; intro h_m m_m F_m N_m; (try k_sweep))) | ((with_reducible show wpAny _ _ (exec _ _) _ _ _); k_fold) | (k_unfold; (try dsimp only)) | (k_end; kc_close) | walk1 | (dsimp only; walk1) | (leave1; (try dsimp only)) | fail "no step"))
        (with_reducible rename Fr _ _ _ _ => kF2); (with_reducible rename News _ _ _ _ => kN2)
        have hrl2 : rs.length = k := by have := congrArg List.length hrs; rwa [List.length_map, List.length_map, List.length_range] at this
        refine ret _ _ _ ((R0, W.listOf (rs.map fun e => Value.ref e.1).toArray kR) :: (dW, oW) :: rsLed rs) frs₁ kF2.keep (fun z hz => ?_) sl (fun z hz => (kN2 z ?_).1) ⟨R0, kR, rs, rfl, rfl, by rw [hrs]; exact hOk, by omega, hrl⟩
        · have hm : z ∈ (R0, W.listOf (rs.map fun e => Value.ref e.1).toArray kR) :: (r, W.listOf (strValues (iterR (parOf ns) (nOf ns, rdyOf ns) k).2).toArray kr') :: (x, instObj 252 dx) :: (dx, srtD w Ki d (.ref r) p p 4) :: (d, od) :: (dW, oW) :: (ndAll ns' ++ (rsLed rs ++ frs₁)) := by
            exact blk_sub [[_], [_], [_], [_], [_], [_], ndAll ns', rsLed rs] frs₁ [1, 6] 8 z hz
          refine ⟨(kN2 z hm).1, (kN2 z hm).2.2, fun q hq => ?_⟩
          rcases List.mem_cons.mp hz with e | hz
          · rw [e]; exact Nat.ne_of_gt (Nat.lt_trans (q3 q hq) b3)
          · rcases List.mem_cons.mp hz with e | hz
            · rw [e]; exact hoff (dW, oW) (.head _) q hq
            · exact Nat.ne_of_gt (Nat.lt_trans (Nat.lt_trans (q3 q hq) b3) (hrA z hz))
        · exact blk_sub [[_], [_], [_], [_], [_], [_], ndAll ns', rsLed rs] frs₁ [] 0 z hz

theorem tr_closed {T : List TNode} (hT : Tr (T.map (·.1))) : ∀ r c, r ++ [c] ∈ T.map (·.1.1) → r ∈ T.map (·.1.1) := by
  intro r c h
  obtain ⟨n, hn, e⟩ := List.mem_map.mp h
  obtain ⟨i, hi⟩ := List.getElem?_of_mem hn
  have h4 : (T.map (·.1))[i]? = some (r ++ [c], n.1.2) := by rw [List.getElem?_map, hi, ← e]; rfl
  obtain ⟨m', h5, _⟩ := tr_parent hT i r c _ h4
  obtain ⟨n2, h6, e6⟩ := List.mem_map.mp (List.mem_of_mem_take h5)
  exact List.mem_map.mpr ⟨n2, h6, by rw [e6]⟩
theorem sched_tree {T : List TNode} (hT : Tr (T.map (·.1))) (hTl : T.length ≤ 13) : SchedThm (T.map (·.1.1)) (OkR (T.map (·.1.1)) (htN (T.map (·.1.1)))) := by
  have hcl := tr_closed hT
  have h0 : [] ∈ T.map (·.1.1) := by
    obtain ⟨m, e, _⟩ := tr_root hT
    rw [List.getElem?_map] at e
    obtain ⟨n, e1, e2⟩ := Option.map_eq_some_iff.mp e
    exact List.mem_map.mpr ⟨n, List.mem_of_getElem? e1, by rw [e2]⟩
  have hn : (T.map (·.1.1)).Nodup := by
    have := tr_nodup hT
    rwa [List.map_map] at this
  refine sched_of (ht_ok hcl) h0 hn hcl (by rw [List.length_map]; exact hTl) ?_
  by_cases z : 0 < htN (T.map (·.1.1)) []
  · obtain ⟨p, h1, _, _, h4⟩ := ex_ht z
    obtain ⟨n, hn, rfl⟩ := List.mem_map.mp h1
    have := (tr_mem hT n.1 (List.mem_map.mpr ⟨n, hn, rfl⟩)).2.1
    rw [List.length_map] at this
    omega
  · omega

noncomputable def Hold2 (P : Prop) : Prop := P
theorem hold2 {P : Prop} (h : Hold2 P) : P := h
theorem unhold2 {P : Prop} (h : P) : Hold2 P := h
noncomputable def IsHead (q : List Nat) (s : Shared) (v : Value) (s' : Shared) : Prop := ∃ t tk, v = .str (headS q) t ∧ s' = { s with toks := tk }
theorem isHead {q : List Nat} {s : Shared} {t : Tok} {tk : Nat} {x : Str} (h : x = headS q) : IsHead q s (.str x t) { s with toks := tk } := ⟨t, tk, by rw [h], rfl⟩
theorem cut_head {α : Type} {M : Model} {A : Around} {tr : Sem α} {q : List Nat} {f : α → Value} {Q : α → Shared → Prop} {E : Value → Shared → Prop} {s : Shared} (h1 : wpAny M A tr (fun v => IsHead q s (f v)) E s) (h2 : ∀ v t tk, f v = .str (headS q) t → Q v { s with toks := tk }) : Hold2 (wpAny M A tr Q E s) :=
  wpAny_mono h1 (fun v s' hv => by obtain ⟨t, tk, e, rfl⟩ := hv; exact h2 v t tk e) fun _ _ h => h
theorem kvs_at {T : List TNode} {i : Nat} {k : Str} {x : Value} (h : (kvsOf T)[i]? = some (k, x)) : ∃ n, T[i]? = some n ∧ k = pathS n.1.1 ∧ x = .int n.1.2 n.2 := by
  unfold kvsOf at h
  rw [List.getElem?_map] at h
  obtain ⟨n, h1, h2⟩ := Option.map_eq_some_iff.mp h
  cases h2
  exact ⟨n, h1, rfl, rfl⟩
theorem take_snoc {α : Type} {l : List α} {i : Nat} {a : α} (h : l[i]? = some a) : l.take (i + 1) = l.take i ++ [a] := by rw [List.take_add_one, h]; rfl
theorem t_ne {p q : List Nat} (h : (pathS p != pathS q) = true) : p ≠ q := by rw [path_bne] at h; exact of_decide_eq_true h
theorem t_eq {p q : List Nat} (h : (pathS p != pathS q) = false) : p = q := by rw [path_bne] at h; simpa using h
theorem value_kvs {T : List TNode} (hT : Tr (T.map (·.1))) {n : TNode} (hn : n ∈ T) : valueAt (kvsOf T) (pathS n.1.1) = some (.int n.1.2 n.2) := by
  have hnd := tr_nodup hT
  rw [List.map_map] at hnd
  clear hT
  induction T with
  | nil => exact nomatch hn
  | cons a T ih =>
    rw [List.map_cons, List.nodup_cons] at hnd
    unfold valueAt kvsOf
    rw [List.map_cons, List.find?_cons]
    rcases List.mem_cons.mp hn with e | h
    · subst e
      simp
    · have hne : ¬ pathS a.1.1 = pathS n.1.1 := fun e => hnd.1 (by
        show a.1.1 ∈ _
        rw [pathS_inj e]
        exact List.mem_map.mpr ⟨n, h, rfl⟩)
      have := ih h hnd.2
      unfold valueAt kvsOf at this
      simp only [hne, decide_false]
      exact this
theorem headS_len {q : List Nat} (hql : (pathS q).length ≤ 1000) : (headS q).length ≤ 1001 := by
  have h1 : (headS q).length = (headL q).length := rfl
  rw [h1, headL_flat, List.length_append]
  by_cases h : q = []
  · subst h; simp [flat]
  · rw [← pathL_flat h, ← lst_pathS, ← len_lst]; simp; omega
theorem path_lens {T : List TNode} (hT : Tr (T.map (·.1))) (hTl : T.length ≤ 13) : ∀ p ∈ T.map (·.1.1), (pathS p).length ≤ 1000 := by
  intro p hp
  obtain ⟨n, hn, rfl⟩ := List.mem_map.mp hp
  have h1 := (tr_mem hT n.1 (List.mem_map.mpr ⟨n, hn, rfl⟩)).2.1
  rw [List.length_map] at h1
  have := pathL_len_le n.1.1
  rw [len_lst, lst_pathS]; omega
theorem strs_at {acc : List (Str × Tok)} {i : Nat} {v : Value} (h : (strValues acc).toArray[i]? = some v) : ∃ x t, acc[i]? = some (x, t) ∧ v = .str x t := by
  rw [List.getElem?_toArray] at h
  unfold strValues at h
  rw [List.getElem?_map] at h
  obtain ⟨⟨x, t⟩, h1, h2⟩ := Option.map_eq_some_iff.mp h
  exact ⟨x, t, h1, h2.symm⟩
theorem strsAre_sv : ∀ acc : List (Str × Tok), StrsAre (strValues acc) (acc.map (·.1))
  | [] => .nil
  | (x, t) :: r => .cons x t (strsAre_sv r)
theorem any_path {l : List (List Nat)} {q : List Nat} : (l.map pathS).any (· == pathS q) = decide (q ∈ l) := by
  rw [Bool.eq_iff_iff, List.any_eq_true, decide_eq_true_eq]
  constructor
  · rintro ⟨x, hx, e⟩
    obtain ⟨p, hp, rfl⟩ := List.mem_map.mp hx
    rw [← pathS_inj (eq_of_beq e)]; exact hp
  · intro h; exact ⟨_, List.mem_map.mpr ⟨q, h, rfl⟩, beq_self_eq_true _⟩
noncomputable def PathsAre (os : List (List Nat)) (acc : List (Str × Tok)) : Prop := acc.map (·.1) = os.map pathS
theorem PathsAre.at {os : List (List Nat)} {acc : List (Str × Tok)} (h : PathsAre os acc) {i : Nat} {v : Value} (hv : (strValues acc).toArray[i]? = some v) : ∃ q t, os[i]? = some q ∧ v = .str (pathS q) t := by
  obtain ⟨x, tx, hx, rfl⟩ := strs_at hv
  have h1 : (acc.map (·.1))[i]? = some x := by rw [List.getElem?_map, hx]; rfl
  rw [h, List.getElem?_map] at h1
  obtain ⟨q, h2, rfl⟩ := Option.map_eq_some_iff.mp h1
  exact ⟨q, tx, h2, rfl⟩
theorem PathsAre.len {os : List (List Nat)} {acc : List (Str × Tok)} (h : PathsAre os acc) : acc.length = os.length := by have := congrArg List.length h; rwa [List.length_map, List.length_map] at this
noncomputable def KeptIs (os : List (List Nat)) (f : List Nat → Bool) (i : Nat) (ys : List Value) : Prop := ∃ acc, ys = strValues acc ∧ PathsAre ((os.take i).filter f) acc
theorem kept_hit {os : List (List Nat)} {f : List Nat → Bool} {i : Nat} {ys : List Value} {q : List Nat} {t : Tok} (h : KeptIs os f i ys) (hq : os[i]? = some q) (hf : f q = true) : KeptIs os f (i + 1) (ys ++ [.str (pathS q) t]) := by
  obtain ⟨acc, rfl, e⟩ := h
  refine ⟨acc ++ [(pathS q, t)], by simp [strValues], ?_⟩
  unfold PathsAre at e ⊢
  rw [take_snoc hq, List.filter_append, List.map_append, List.map_append, e, List.filter_cons_of_pos hf]; rfl
theorem kept_miss {os : List (List Nat)} {f : List Nat → Bool} {i : Nat} {ys : List Value} {q : List Nat} (h : KeptIs os f i ys) (hq : os[i]? = some q) (hf : f q = false) : KeptIs os f (i + 1) ys := by
  obtain ⟨acc, rfl, e⟩ := h
  refine ⟨acc, rfl, ?_⟩
  unfold PathsAre at e ⊢
  rw [take_snoc hq, List.filter_append, e, List.filter_cons_of_neg (by rw [hf]; decide)]; simp
theorem kept_all {os : List (List Nat)} {f : List Nat → Bool} {ys : List Value} {n : Nat} (h : KeptIs os f n ys) (hn : os.length ≤ n) : ∃ acc, ys = strValues acc ∧ PathsAre (os.filter f) acc := by
  obtain ⟨acc, rfl, e⟩ := h
  rw [List.take_of_length_le hn] at e
  exact ⟨acc, rfl, e⟩
noncomputable def IsVal (V : Value → Prop) (s : Shared) (v : Value) (s' : Shared) : Prop := V v ∧ ∃ tk, s' = { s with toks := tk }
theorem isVal {V : Value → Prop} {s : Shared} {v : Value} {tk : Nat} (h : V v) : IsVal V s v { s with toks := tk } := ⟨h, tk, rfl⟩
theorem cut_val {M : Model} {A : Around} {tr : Sem Value} {Q E : Value → Shared → Prop} {s : Shared} (V : Value → Prop) (h1 : wpAny M A tr (IsVal V s) E s) (h2 : ∀ v tk, V v → Q v { s with toks := tk }) : Hold2 (wpAny M A tr Q E s) :=
  wpAny_mono h1 (fun v s' hv => by obtain ⟨e, tk, rfl⟩ := hv; exact h2 v tk e) fun _ _ h => h
noncomputable def IsValN (h₀ : Heap) (L : Addr) (m : Str → Option Value) (news : List (Addr × Obj)) (V : Value → Prop) (s : Shared) (v : Value) (s' : Shared) : Prop := V v ∧ ∃ h' tk, s' = { s with heap := h', toks := tk } ∧ Fr h₀ L h' m ∧ News h₀ L h' news
theorem isValN {h₀ h' : Heap} {L : Addr} {m : Str → Option Value} {news : List (Addr × Obj)} {V : Value → Prop} {s : Shared} {v : Value} {tk : Nat} (F : Fr h₀ L h' m) (N : News h₀ L h' news) (h : V v) : IsValN h₀ L m news V s v { s with heap := h', toks := tk } := ⟨h, h', tk, rfl, F, N⟩
theorem cut_valN {M : Model} {A : Around} {tr : Sem Value} {Q E : Value → Shared → Prop} {s : Shared} {h₀ : Heap} {L : Addr} {m : Str → Option Value} {news : List (Addr × Obj)} (V : Value → Prop) (F : Fr h₀ L s.heap m) (N : News h₀ L s.heap news) (h1 : wpAny M A tr (IsValN h₀ L m news V s) E s) (h2 : ∀ v h' tk, V v → Fr h₀ L h' m → News h₀ L h' news → Q v { s with heap := h', toks := tk }) : Hold2 (wpAny M A tr Q E s) :=
  wpAny_mono h1 (fun v s' hv => by obtain ⟨e, h', tk, rfl, F', N'⟩ := hv; exact h2 v h' tk e F' N') fun _ _ h => h

example : True := by w_top off; trivial
noncomputable def BelowIs (T : List TNode) (q : List Nat) (i : Nat) (ys : List Value) : Prop := ∃ acc, ys = strValues acc ∧ acc.map (·.1) = (belowP ((T.take i).map (·.1.1)) q).map pathS
theorem below_hit {T : List TNode} {q : List Nat} {i : Nat} {ys : List Value} {n : TNode} {t : Tok} (h : BelowIs T q i ys) (hn : T[i]? = some n) (h1 : n.1.1 ≠ q ∧ q <+: n.1.1) : BelowIs T q (i + 1) (ys ++ [.str (pathS n.1.1) t]) := by
  obtain ⟨acc, rfl, e⟩ := h
  refine ⟨acc ++ [(pathS n.1.1, t)], by simp [strValues], ?_⟩
  unfold belowP at e ⊢
  rw [take_snoc hn]
  simp only [List.map_append, List.filter_append, e, List.map_cons, List.map_nil]
  congr 1
  rw [List.filter_cons_of_pos (by simpa using h1)]; rfl
theorem below_miss {T : List TNode} {q : List Nat} {i : Nat} {ys : List Value} {n : TNode} (h : BelowIs T q i ys) (hn : T[i]? = some n) (h1 : ¬ (n.1.1 ≠ q ∧ q <+: n.1.1)) : BelowIs T q (i + 1) ys := by
  obtain ⟨acc, rfl, e⟩ := h
  refine ⟨acc, rfl, ?_⟩
  unfold belowP at e ⊢
  rw [take_snoc hn]
  simp only [List.map_append, List.filter_append, e, List.map_cons, List.map_nil]
  rw [List.filter_cons_of_neg (by simpa using h1)]; simp
noncomputable def DepthsAre (T : List TNode) (q : List Nat) (i : Nat) (ys : List Value) : Prop := IntsAre ys (((belowP (T.map (·.1.1)) q).take i).map fun p => ((p.length - q.length : Nat) : Int))
theorem ints_snoc : ∀ {ys : List Value} {ns : List Int}, IntsAre ys ns → ∀ (n : Int) (t : Tok), IntsAre (ys ++ [.int n t]) (ns ++ [n])
  | _, _, .nil, n, t => .cons n t .nil
  | _, _, .cons a u h, n, t => .cons a u (ints_snoc h n t)
theorem depths_snoc {T : List TNode} {q p : List Nat} {i : Nat} {ys : List Value} {t : Tok} {n : Int} (h : DepthsAre T q i ys) (hp : (belowP (T.map (·.1.1)) q)[i]? = some p) (hn : n = ((p.length - q.length : Nat) : Int)) : DepthsAre T q (i + 1) (ys ++ [.int n t]) := by
  subst hn
  unfold DepthsAre at h ⊢
  rw [take_snoc hp, List.map_append]
  exact ints_snoc h _ _
theorem below_mem {P : List (List Nat)} {p q : List Nat} (h : p ∈ belowP P q) : p ∈ P ∧ p ≠ q ∧ q <+: p := by
  obtain ⟨h1, h2⟩ := List.mem_filter.mp h
  exact ⟨h1, of_decide_eq_true h2⟩
theorem height_spec {w : World} {dW : Nat} {oW : Obj} {T : List TNode} {q : List Nat} {t : Tok} (hD : Obj.IsDictOf (PySem.strKind prg w) oW (kvsOf T)) (hT : Tr (T.map (·.1))) (hTl : T.length ≤ 13) (loW : (dW == sysModules) = false) (hq : q ∈ T.map (·.1.1)) :
    Mut w 348 [.str (pathS q) t, .ref dW] 8 [(dW, oW)] True (fun v led => led = [(dW, oW)] ∧ ∃ t', v = .int (htN (T.map (·.1.1)) q) t') := by
  refine mut_of fun A Q s0 gs dr tk0 ost g G hg hsz hled R hp ret => ?_
  obtain ⟨hd, dp, fr, gd, un⟩ := A; obtain rfl : hd = none := R.hh
  have G' := G; obtain ⟨X, mean, mg, mb, T'⟩ := G
  refine enterMC G' hg hsz hled (R.le (by decide)) (by k_is) (by k_is) (BindsTo.of_eq (binds := [(Str.ofString "path", .str (pathS q) t), (Str.ofString "wished", .ref dW)]) rfl) (by rfl) (by decide) rfl rfl rfl ?_
  intro L h₁ tk cells F N C hlt _ _ A1
  k_fold
  obtain ⟨o1, o2, hE, d1, d2⟩ := CellsAre.two C
  subst hE
  clear C
  replace d1 : o1.data = .cell none := d1
  replace d2 : o2.data = .cell (some (.str (pathS q) t)) := d2
  replace F : Fr g L h₁ (fun y => if y = Str.ofString "wished" then some (.ref dW) else none) := F
  (try simp only [List.cons_append, List.nil_append] at N)
  k_lt hlt
  clear G' hg hled hsz
  have lens := path_lens hT hTl
  have hql := lens q hq
  have hhl := headS_len hql
  (repeat' (first | ((with_reducible show wpAny _ _ _ _ _ (Shared.mk _ (Shared.gens _) _ _ _)); (with_reducible first | refine fl_c ?_ rfl | refine fl_a (by assumption) ?_ rfl | refine fl_b (by assumption) ?_ rfl); (fail_if_success (with_reducible show wpAny _ _ _ _ _ (Shared.mk _ (Shared.gens _) _ _ _)))) | ((with_reducible show wpAny _ _ _ _ _ (Shared.mk _ _ _ (_ + _ + _ + _) _)); (with_reducible refine tk_gen ?_); intro tk_m) | ((with_reducible show wpAny _ _ (eval (Expr.IfExp _ _ _ _) _) _ _ _); (k_here; refine hold2 ?_)) | ((with_reducible show wpAny _ _ (eval (Expr.Constant _ _ _) _) _ _ _); with_reducible first | refine cint ?_ | refine cstr ?_) | ((with_reducible show wpAny _ _ (eval (Expr.Name _ _) _) _ _ _); k_here; k_dflt (refine' nameX_L (hd := ?d) ?F ?v ?_ ?a ?b; (case F => k_asm); (case a => rfl); (case b => rfl); (case v => rfl); (case d => rfl); k_whole)) | ((with_reducible show wpAny _ _ (storeName _ _ _) _ _ _); k_here; k_dflt (refine' storeX_M ?F ?N ?_ ?a ?b; (case F => k_asm); (case N => k_asm); (case a => rfl); (case b => rfl); k_whole; intro h_m m_m F_m N_m; (try k_sweep))) | ((with_reducible show wpAny _ _ (exec _ _) _ _ _); k_fold) | (k_unfold; (try dsimp only)) | (k_end; kc_close) | walk1 | (dsimp only; walk1) | (leave1; (try dsimp only)) | fail "no step"))
  refine cut_head (q := q) (f := id) ?first ?_
  case first =>
    refine IfExp_ ?_
    (repeat' (first | ((with_reducible show wpAny _ _ _ _ _ (Shared.mk _ (Shared.gens _) _ _ _)); (with_reducible first | refine fl_c ?_ rfl | refine fl_a (by assumption) ?_ rfl | refine fl_b (by assumption) ?_ rfl); (fail_if_success (with_reducible show wpAny _ _ _ _ _ (Shared.mk _ (Shared.gens _) _ _ _)))) | ((with_reducible show wpAny _ _ _ _ _ (Shared.mk _ _ _ (_ + _ + _ + _) _)); (with_reducible refine tk_gen ?_); intro tk_m) | ((with_reducible show wpAny _ _ (eval (Expr.Constant _ _ _) _) _ _ _); with_reducible first | refine cint ?_ | refine cstr ?_) | ((with_reducible show wpAny _ _ (eval (Expr.Name _ _) _) _ _ _); k_here; k_dflt (refine' nameX_L (hd := ?d) ?F ?v ?_ ?a ?b; (case F => k_asm); (case a => rfl); (case b => rfl); (case v => rfl); (case d => rfl); k_whole)) | ((with_reducible show wpAny _ _ (storeName _ _ _) _ _ _); k_here; k_dflt (refine' storeX_M ?F ?N ?_ ?a ?b; (case F => k_asm); (case N => k_asm); (case a => rfl); (case b => rfl); k_whole; intro h_m m_m F_m N_m; (try k_sweep))) | ((with_reducible show wpAny _ _ (exec _ _) _ _ _); k_fold) | (k_unfold; (try dsimp only)) | (k_end; kc_close) | walk1 | (dsimp only; walk1) | (leave1; (try dsimp only)) | fail "no step"))
    · refine isHead ?_
      have hr : pathS q = Str.ofString "/" := eq_of_beq (by assumption)
      rw [← root_is] at hr
      rw [pathS_inj hr, root_is, headS_root]
    · refine isHead (headS_ne fun e => ?_)
      have hr : (pathS q == Str.ofString "/") = false := by assumption
      rw [e, root_is] at hr
      simp at hr
  intro v t' tk' hv
  obtain rfl : v = _ := hv
  (repeat' (first | ((with_reducible show wpAny _ _ _ _ _ (Shared.mk _ (Shared.gens _) _ _ _)); (with_reducible first | refine fl_c ?_ rfl | refine fl_a (by assumption) ?_ rfl | refine fl_b (by assumption) ?_ rfl); (fail_if_success (with_reducible show wpAny _ _ _ _ _ (Shared.mk _ (Shared.gens _) _ _ _)))) | ((with_reducible show wpAny _ _ _ _ _ (Shared.mk _ _ _ (_ + _ + _ + _) _)); (with_reducible refine tk_gen ?_); intro tk_m) | ((with_reducible show wpAny _ _ (exec (Stmt.Assign _ (Expr.ListComp _ _ _ _) _) _) _ _ _); (k_here; k_dflt (refine comp_AT (by k_asm) (by rfl) (by with_unfolding_all rfl) (by with_unfolding_all rfl) (by decide) (by rfl) (by decide) (by rfl) (by rfl) (by rfl) ?_))) | ((with_reducible show wpAny _ _ (eval (Expr.Constant _ _ _) _) _ _ _); with_reducible first | refine cint ?_ | refine cstr ?_) | ((with_reducible show wpAny _ _ (eval (Expr.Name _ _) _) _ _ _); k_here; k_dflt (refine' nameX_L (hd := ?d) ?F ?v ?_ ?a ?b; (case F => k_asm); (case a => rfl); (case b => rfl); (case v => rfl); (case d => rfl); k_whole)) | ((with_reducible show wpAny _ _ (storeName _ _ _) _ _ _); k_here; k_dflt (refine' storeX_M ?F ?N ?_ ?a ?b; (case F => k_asm); (case N => k_asm); (case a => rfl); (case b => rfl); k_whole; intro h_m m_m F_m N_m; (try k_sweep))) | ((with_reducible show wpAny _ _ (exec _ _) _ _ _); k_fold) | (k_unfold; (try dsimp only)) | (k_end; kc_close) | walk1 | (dsimp only; walk1) | (leave1; (try dsimp only)) | fail "no step"))
  (with_reducible rename Fr _ _ _ _ => kF); (with_reducible rename News _ _ _ _ => kN); (rename Obj.data _ = Data.cell (some (Value.str (headS q) _)) => d3)
  refine csrc_T (BelowIs T q) (Itc.keys rfl loW hD) trivial kF kN (.inr (by k_mem)) (by rw [sizeLine_eq]; unfold kvsOf; rw [List.length_map]; omega) ⟨[], rfl, rfl⟩ ?_ ?_
  · intro i ys v I oI C oC D m₂ h tk E' hi hP hJ hC hx kF kN off3 ne3
    obtain ⟨k, x, tv, hk, rfl⟩ := hP
    obtain ⟨n, hn, rfl, rfl⟩ := kvs_at hk
    have hpl := lens n.1.1 (List.mem_map.mpr ⟨n, List.mem_of_getElem? hn, rfl⟩)
    (repeat' (first | ((with_reducible show wpAny _ _ _ _ _ (Shared.mk _ (Shared.gens _) _ _ _)); (with_reducible first | refine fl_c ?_ rfl | refine fl_a (by assumption) ?_ rfl | refine fl_b (by assumption) ?_ rfl); (fail_if_success (with_reducible show wpAny _ _ _ _ _ (Shared.mk _ (Shared.gens _) _ _ _)))) | ((with_reducible show wpAny _ _ _ _ _ (Shared.mk _ _ _ (_ + _ + _ + _) _)); (with_reducible refine tk_gen ?_); intro tk_m) | ((with_reducible show wpAny _ _ (eval (Expr.Constant _ _ _) _) _ _ _); with_reducible first | refine cint ?_ | refine cstr ?_) | ((with_reducible show wpAny _ _ (eval (Expr.Name _ _) _) _ _ _); k_here; k_dflt (refine' nameX_L (hd := ?d) ?F ?v ?_ ?a ?b; (case F => k_asm); (case a => rfl); (case b => rfl); (case v => rfl); (case d => rfl); k_whole)) | ((with_reducible show wpAny _ _ (storeName _ _ _) _ _ _); k_here; k_dflt (refine' storeX_M ?F ?N ?_ ?a ?b; (case F => k_asm); (case N => k_asm); (case a => rfl); (case b => rfl); k_whole; intro h_m m_m F_m N_m; (try k_sweep))) | ((with_reducible show wpAny _ _ (exec _ _) _ _ _); k_fold) | (k_unfold; (try dsimp only)) | (k_end; kc_close) | walk1 | (dsimp only; walk1) | (leave1; (try dsimp only)) | fail "no step"))
    · have h1 := t_ne (by assumption)
      rename (Txt.slice _ _ _ == headS q) = true => h2
      rw [under_test _ _ h1] at h2
      exact ce_end (by assumption) (by assumption) (fun p hp => hp) off3 (below_hit hJ hn ⟨h1, of_decide_eq_true h2⟩)
    · have h1 := t_ne (by assumption)
      rename (Txt.slice _ _ _ == headS q) = false => h2
      rw [under_test _ _ h1] at h2
      exact ce_end (by assumption) (by assumption) (fun p hp => hp) off3 (below_miss hJ hn fun h => of_decide_eq_false h2 h.2)
    · exact ce_end (by assumption) (by assumption) (fun p hp => hp) off3 (below_miss hJ hn fun h => h.1 (t_eq (by assumption)))
  · intro g ys hJ D' h' tk kF2 kN2 hoff1
    obtain ⟨acc, rfl, hacc⟩ := hJ
    rw [List.take_of_length_le (by unfold kvsOf; rw [List.length_map]; exact Nat.le_refl _)] at hacc
    have hlen : acc.length = (belowP (T.map (·.1.1)) q).length := by have := congrArg List.length hacc; rwa [List.length_map, List.length_map] at this
    have hlen2 : (belowP (T.map (·.1.1)) q).length ≤ 13 := by have := List.length_filter_le (fun p => decide (p ≠ q ∧ q <+: p)) (T.map (·.1.1)); rw [List.length_map] at this; unfold belowP; omega
    (repeat' (first | ((with_reducible show wpAny _ _ _ _ _ (Shared.mk _ (Shared.gens _) _ _ _)); (with_reducible first | refine fl_c ?_ rfl | refine fl_a (by assumption) ?_ rfl | refine fl_b (by assumption) ?_ rfl); (fail_if_success (with_reducible show wpAny _ _ _ _ _ (Shared.mk _ (Shared.gens _) _ _ _)))) | ((with_reducible show wpAny _ _ _ _ _ (Shared.mk _ _ _ (_ + _ + _ + _) _)); (with_reducible refine tk_gen ?_); intro tk_m) | ((with_reducible show wpAny _ _ (eval (Expr.ListComp _ _ _ _) _) _ _ _); (k_here; k_dflt (refine comp_EU (by k_asm) (by with_unfolding_all rfl) (by decide) (by rfl) (by decide) (by rfl) ?_))) | ((with_reducible show wpAny _ _ (eval (Expr.Constant _ _ _) _) _ _ _); with_reducible first | refine cint ?_ | refine cstr ?_) | ((with_reducible show wpAny _ _ (eval (Expr.Name _ _) _) _ _ _); k_here; k_dflt (refine' nameX_L (hd := ?d) ?F ?v ?_ ?a ?b; (case F => k_asm); (case a => rfl); (case b => rfl); (case v => rfl); (case d => rfl); k_whole)) | ((with_reducible show wpAny _ _ (storeName _ _ _) _ _ _); k_here; k_dflt (refine' storeX_M ?F ?N ?_ ?a ?b; (case F => k_asm); (case N => k_asm); (case a => rfl); (case b => rfl); k_whole; intro h_m m_m F_m N_m; (try k_sweep))) | ((with_reducible show wpAny _ _ (exec _ _) _ _ _); k_fold) | (k_unfold; (try dsimp only)) | (k_end; kc_close) | walk1 | (dsimp only; walk1) | (leave1; (try dsimp only)) | fail "no step"))
    (with_reducible rename Fr _ _ _ _ => kF); (with_reducible rename News _ _ _ _ => kN)
    refine csrc_U (DepthsAre T q) (Itc.list (o := LCg.lst (strValues acc)) (items := (strValues acc).toArray) rfl rfl rfl) trivial kF kN (.inr (by k_mem)) (by rw [sizeLine_eq, List.size_toArray, strv_len]; omega) .nil ?_ ?_
    · intro i ys v I oI C oC D m₂ h tk E' hi hP hJ hC hx kF kN off3 ne3
      obtain ⟨x, tx, hx2, rfl⟩ := strs_at hP
      obtain ⟨p, hp1, rfl⟩ : ∃ p, (belowP (T.map (·.1.1)) q)[i]? = some p ∧ pathS p = x := by
        have h1 : (acc.map (·.1))[i]? = some x := by rw [List.getElem?_map, hx2]; rfl
        rw [hacc, List.getElem?_map] at h1
        exact Option.map_eq_some_iff.mp h1
      obtain ⟨hp2, hp3, hp4⟩ := below_mem (List.mem_of_getElem? hp1)
      have hpl := lens p hp2
      (repeat' (first | ((with_reducible show wpAny _ _ _ _ _ (Shared.mk _ (Shared.gens _) _ _ _)); (with_reducible first | refine fl_c ?_ rfl | refine fl_a (by assumption) ?_ rfl | refine fl_b (by assumption) ?_ rfl); (fail_if_success (with_reducible show wpAny _ _ _ _ _ (Shared.mk _ (Shared.gens _) _ _ _)))) | ((with_reducible show wpAny _ _ _ _ _ (Shared.mk _ _ _ (_ + _ + _ + _) _)); (with_reducible refine tk_gen ?_); intro tk_m) | ((with_reducible show wpAny _ _ (eval (Expr.Constant _ _ _) _) _ _ _); with_reducible first | refine cint ?_ | refine cstr ?_) | ((with_reducible show wpAny _ _ (eval (Expr.Name _ _) _) _ _ _); k_here; k_dflt (refine' nameX_L (hd := ?d) ?F ?v ?_ ?a ?b; (case F => k_asm); (case a => rfl); (case b => rfl); (case v => rfl); (case d => rfl); k_whole)) | ((with_reducible show wpAny _ _ (storeName _ _ _) _ _ _); k_here; k_dflt (refine' storeX_M ?F ?N ?_ ?a ?b; (case F => k_asm); (case N => k_asm); (case a => rfl); (case b => rfl); k_whole; intro h_m m_m F_m N_m; (try k_sweep))) | ((with_reducible show wpAny _ _ (exec _ _) _ _ _); k_fold) | (k_unfold; (try dsimp only)) | (k_end; kc_close) | walk1 | (dsimp only; walk1) | (leave1; (try dsimp only)) | fail "no step"))
      exact ce_end (by assumption) (by assumption) (fun p hp => hp) off3 (depths_snoc hJ hp1 (depth_below hp4 hp3))
    · intro g ys hJ D2 h' tk kF2 kN2 hoff1
      unfold DepthsAre at hJ
      rw [List.take_of_length_le (by rw [List.size_toArray, strv_len]; omega)] at hJ
      refine add_arrays_ints (ns := [0]) (hsz := by rw [sizeLine_eq, List.length_map]; simp only [List.length_cons, List.length_nil]; omega) kF2 kN2 (News.isList kN2 (by k_mem)) (News.isList kN2 (by k_mem)) (.cons 0 _ .nil) hJ fun h' F' N' hi' => ?_
      clear kF2 kN2
      (repeat' (first | ((with_reducible show wpAny _ _ _ _ _ (Shared.mk _ (Shared.gens _) _ _ _)); (with_reducible first | refine fl_c ?_ rfl | refine fl_a (by assumption) ?_ rfl | refine fl_b (by assumption) ?_ rfl); (fail_if_success (with_reducible show wpAny _ _ _ _ _ (Shared.mk _ (Shared.gens _) _ _ _)))) | ((with_reducible show wpAny _ _ _ _ _ (Shared.mk _ _ _ (_ + _ + _ + _) _)); (with_reducible refine tk_gen ?_); intro tk_m) | ((with_reducible show wpAny _ _ (eval (Expr.Constant _ _ _) _) _ _ _); with_reducible first | refine cint ?_ | refine cstr ?_) | ((with_reducible show wpAny _ _ (eval (Expr.Name _ _) _) _ _ _); k_here; k_dflt (refine' nameX_L (hd := ?d) ?F ?v ?_ ?a ?b; (case F => k_asm); (case a => rfl); (case b => rfl); (case v => rfl); (case d => rfl); k_whole)) | ((with_reducible show wpAny _ _ (storeName _ _ _) _ _ _); k_here; k_dflt (refine' storeX_M ?F ?N ?_ ?a ?b; (case F => k_asm); (case N => k_asm); (case a => rfl); (case b => rfl); k_whole; intro h_m m_m F_m N_m; (try k_sweep))) | ((with_reducible show wpAny _ _ (exec _ _) _ _ _); k_fold) | (k_unfold; (try dsimp only)) | (k_end; kc_close) | walk1 | (dsimp only; walk1) | (leave1; (try dsimp only)) | fail "no step"))
      rename _ ∈ [0] ++ _ => ha
      rename ∀ a, a ∈ [0] ++ _ → a ≤ _ => hb
      have e := max_is (by rfl) ha hb
      subst e
      exact ret _ _ _ [(dW, oW)] (Fr.keep (by assumption)) (News.led (News.sub (by assumption) (by k_allIn))) ⟨rfl, _, rfl⟩

example : True := by w_top off; trivial
noncomputable def openB (T : List Node) (q : List Nat) : Bool := T.all fun n => !(decide (n.1 ≠ q ∧ n.1 <+: q) && decide ((n.2.fdiv 64).fmod 2 = 0))
theorem open_all {T : List TNode} {q : List Nat} (h : ∀ n ∈ T.take (kvsOf T).length, ¬ ((n.1.1 ≠ q ∧ n.1.1 <+: q) ∧ (n.1.2.fdiv 64).fmod 2 = 0)) : openB (T.map (·.1)) q = true := by
  rw [List.take_of_length_le (by unfold kvsOf; rw [List.length_map]; exact Nat.le_refl _)] at h
  unfold openB
  rw [List.all_eq_true]
  intro n hn
  obtain ⟨m, hm, rfl⟩ := List.mem_map.mp hn
  have := h m hm
  rw [Bool.not_eq_true', ← Bool.decide_and]
  exact decide_eq_false this
theorem open_not {T : List TNode} {q : List Nat} {n : TNode} (hn : n ∈ T) (h1 : n.1.1 ≠ q) (h2 : n.1.1 <+: q) (h3 : (n.1.2.fdiv 64).fmod 2 = 0) : openB (T.map (·.1)) q = false := by
  rw [Bool.eq_false_iff]
  intro h
  unfold openB at h
  have := (List.all_eq_true.mp h) n.1 (List.mem_map.mpr ⟨n, hn, rfl⟩)
  simp [h1, h2, h3] at this
theorem hold_snoc {T : List TNode} {P : TNode → Prop} {i : Nat} {n : TNode} (h : ∀ n ∈ T.take i, P n) (hn : T[i]? = some n) (hp : P n) : ∀ n ∈ T.take (i + 1), P n := by
  rw [take_snoc hn]
  intro x hx
  rcases List.mem_append.mp hx with hx | hx
  · exact h x hx
  · rw [List.mem_singleton.mp hx]; exact hp
theorem open_spec {w : World} {dW : Nat} {oW : Obj} {T : List TNode} {q : List Nat} {t : Tok} (hD : Obj.IsDictOf (PySem.strKind prg w) oW (kvsOf T)) (hT : Tr (T.map (·.1))) (hTl : T.length ≤ 13) (loW : (dW == sysModules) = false) (hq : q ∈ T.map (·.1.1)) :
    Mut w 360 [.str (pathS q) t, .ref dW] 4 [(dW, oW)] True (fun v led => v = .bool (openB (T.map (·.1)) q) ∧ led = [(dW, oW)]) := by
  refine mut_of fun A Q s0 gs dr tk0 ost g G hg hsz hled R hp ret => ?_
  obtain ⟨hd, dp, fr, gd, un⟩ := A; obtain rfl : hd = none := R.hh
  have G' := G; obtain ⟨X, mean, mg, mb, T'⟩ := G
  refine enterM G' hg hsz hled (R.le (by decide)) (by k_is) (by k_is) (BindsTo.of_eq (binds := [(Str.ofString "path", .str (pathS q) t), (Str.ofString "wished", .ref dW)]) rfl) (locs rfl) rfl rfl rfl (by decide) ?_
  intro L h₁ F N hlt _ _ A1
  k_fold
  clear G' hg hled hsz
  have lens := path_lens hT hTl
  have hql := lens q hq
  (repeat' (first | ((with_reducible show wpAny _ _ _ _ _ (Shared.mk _ (Shared.gens _) _ _ _)); (with_reducible first | refine fl_c ?_ rfl | refine fl_a (by assumption) ?_ rfl | refine fl_b (by assumption) ?_ rfl); (fail_if_success (with_reducible show wpAny _ _ _ _ _ (Shared.mk _ (Shared.gens _) _ _ _)))) | ((with_reducible show wpAny _ _ _ _ _ (Shared.mk _ _ _ (_ + _ + _ + _) _)); (with_reducible refine tk_gen ?_); intro tk_m) | ((with_reducible show wpAny _ _ (exec (Stmt.For (Expr.Name _ _) (Expr.Name _ _) (_ :: _) [] _) _) _ _ _); (k_here; k_dflt (refine wpAny_For ?_))) | ((with_reducible show wpAny _ _ (eval (Expr.Constant _ _ _) _) _ _ _); with_reducible first | refine cint ?_ | refine cstr ?_) | ((with_reducible show wpAny _ _ (eval (Expr.Name _ _) _) _ _ _); k_here; k_dflt (refine' nameX_L (hd := ?d) ?F ?v ?_ ?a ?b; (case F => k_asm); (case a => rfl); (case b => rfl); (case v => rfl); (case d => rfl); k_whole)) | ((with_reducible show wpAny _ _ (storeName _ _ _) _ _ _); k_here; k_dflt (refine' storeX_M ?F ?N ?_ ?a ?b; (case F => k_asm); (case N => k_asm); (case a => rfl); (case b => rfl); k_whole; intro h_m m_m F_m N_m; (try k_sweep))) | ((with_reducible show wpAny _ _ (exec _ _) _ _ _); k_fold) | (k_unfold; (try dsimp only)) | (k_end; kc_close) | walk1 | (dsimp only; walk1) | (leave1; (try dsimp only)) | fail "no step"))
  (with_reducible rename Fr _ _ _ _ => kF); (with_reducible rename News _ _ _ _ => kN)
  refine' for_0 (L := L) [Str.ofString "one", Str.ofString "head"] (fun i m => ∀ n ∈ T.take i, ¬ ((n.1.1 ≠ q ∧ n.1.1 <+: q) ∧ (n.1.2.fdiv 64).fmod 2 = 0)) rfl (Itb.keys rfl loW hD) rfl rfl kF kN (.inr (.head _)) ?h0 ?turn ?done
  case h0 => exact fun _ h => nomatch h
  case turn =>
    intro I i v m₁ oI h tk hlt hi hP hJ kF kN
    k_fold
    obtain ⟨k, x, tv, hk, rfl⟩ := hP
    obtain ⟨n, hn, rfl, rfl⟩ := kvs_at hk
    have hpl := lens n.1.1 (List.mem_map.mpr ⟨n, List.mem_of_getElem? hn, rfl⟩)
    have hhl := headS_len hpl
    have hv := value_kvs hT (List.mem_of_getElem? hn)
    k_lt hlt
    (repeat' (first | ((with_reducible show wpAny _ _ _ _ _ (Shared.mk _ (Shared.gens _) _ _ _)); (with_reducible first | refine fl_c ?_ rfl | refine fl_a (by assumption) ?_ rfl | refine fl_b (by assumption) ?_ rfl); (fail_if_success (with_reducible show wpAny _ _ _ _ _ (Shared.mk _ (Shared.gens _) _ _ _)))) | ((with_reducible show wpAny _ _ _ _ _ (Shared.mk _ _ _ (_ + _ + _ + _) _)); (with_reducible refine tk_gen ?_); intro tk_m) | ((with_reducible show wpAny _ _ (eval (Expr.IfExp _ _ _ _) _) _ _ _); (k_here; refine hold2 ?_)) | ((with_reducible show wpAny _ _ (eval (Expr.Constant _ _ _) _) _ _ _); with_reducible first | refine cint ?_ | refine cstr ?_) | ((with_reducible show wpAny _ _ (eval (Expr.Name _ _) _) _ _ _); k_here; k_dflt (refine' nameX_L (hd := ?d) ?F ?v ?_ ?a ?b; (case F => k_asm); (case a => rfl); (case b => rfl); (case v => rfl); (case d => rfl); k_whole)) | ((with_reducible show wpAny _ _ (storeName _ _ _) _ _ _); k_here; k_dflt (refine' storeX_M ?F ?N ?_ ?a ?b; (case F => k_asm); (case N => k_asm); (case a => rfl); (case b => rfl); k_whole; intro h_m m_m F_m N_m; (try k_sweep))) | ((with_reducible show wpAny _ _ (exec _ _) _ _ _); k_fold) | (k_unfold; (try dsimp only)) | (k_end; kc_close) | walk1 | (dsimp only; walk1) | (leave1; (try dsimp only)) | fail "no step"))
    refine cut_head (q := n.1.1) (f := id) ?first ?_
    case first =>
      refine IfExp_ ?_
      (repeat' (first | ((with_reducible show wpAny _ _ _ _ _ (Shared.mk _ (Shared.gens _) _ _ _)); (with_reducible first | refine fl_c ?_ rfl | refine fl_a (by assumption) ?_ rfl | refine fl_b (by assumption) ?_ rfl); (fail_if_success (with_reducible show wpAny _ _ _ _ _ (Shared.mk _ (Shared.gens _) _ _ _)))) | ((with_reducible show wpAny _ _ _ _ _ (Shared.mk _ _ _ (_ + _ + _ + _) _)); (with_reducible refine tk_gen ?_); intro tk_m) | ((with_reducible show wpAny _ _ (eval (Expr.Constant _ _ _) _) _ _ _); with_reducible first | refine cint ?_ | refine cstr ?_) | ((with_reducible show wpAny _ _ (eval (Expr.Name _ _) _) _ _ _); k_here; k_dflt (refine' nameX_L (hd := ?d) ?F ?v ?_ ?a ?b; (case F => k_asm); (case a => rfl); (case b => rfl); (case v => rfl); (case d => rfl); k_whole)) | ((with_reducible show wpAny _ _ (storeName _ _ _) _ _ _); k_here; k_dflt (refine' storeX_M ?F ?N ?_ ?a ?b; (case F => k_asm); (case N => k_asm); (case a => rfl); (case b => rfl); k_whole; intro h_m m_m F_m N_m; (try k_sweep))) | ((with_reducible show wpAny _ _ (exec _ _) _ _ _); k_fold) | (k_unfold; (try dsimp only)) | (k_end; kc_close) | walk1 | (dsimp only; walk1) | (leave1; (try dsimp only)) | fail "no step"))
      · refine isHead ?_
        have hr : pathS n.1.1 = Str.ofString "/" := eq_of_beq (by assumption)
        rw [← root_is] at hr
        rw [pathS_inj hr, root_is, headS_root]
      · refine isHead (headS_ne fun e => ?_)
        have hr : (pathS n.1.1 == Str.ofString "/") = false := by assumption
        rw [e, root_is] at hr
        simp at hr
    intro v t' tk' hv2
    obtain rfl : v = _ := hv2
    (repeat' (first | ((with_reducible show wpAny _ _ _ _ _ (Shared.mk _ (Shared.gens _) _ _ _)); (with_reducible first | refine fl_c ?_ rfl | refine fl_a (by assumption) ?_ rfl | refine fl_b (by assumption) ?_ rfl); (fail_if_success (with_reducible show wpAny _ _ _ _ _ (Shared.mk _ (Shared.gens _) _ _ _)))) | ((with_reducible show wpAny _ _ _ _ _ (Shared.mk _ _ _ (_ + _ + _ + _) _)); (with_reducible refine tk_gen ?_); intro tk_m) | (k_here; (with_reducible show wpAny _ _ (subscriptTail _ _ (Value.ref _) (Value.str _ _)) _ _ _); (with_unfolding_all refine' dget ?k1 ?k2 ?k3 ?_ ?k4; (case k2 => assumption); (case k3 => assumption); (case k1 => exact (News.get (by k_asm) (by k_mem))); (case k4 => with_unfolding_all rfl); k_whole)) | ((with_reducible show wpAny _ _ (eval (Expr.Constant _ _ _) _) _ _ _); with_reducible first | refine cint ?_ | refine cstr ?_) | ((with_reducible show wpAny _ _ (eval (Expr.Name _ _) _) _ _ _); k_here; k_dflt (refine' nameX_L (hd := ?d) ?F ?v ?_ ?a ?b; (case F => k_asm); (case a => rfl); (case b => rfl); (case v => rfl); (case d => rfl); k_whole)) | ((with_reducible show wpAny _ _ (storeName _ _ _) _ _ _); k_here; k_dflt (refine' storeX_M ?F ?N ?_ ?a ?b; (case F => k_asm); (case N => k_asm); (case a => rfl); (case b => rfl); k_whole; intro h_m m_m F_m N_m; (try k_sweep))) | ((with_reducible show wpAny _ _ (exec _ _) _ _ _); k_fold) | (k_unfold; (try dsimp only)) | (k_end; kc_close) | walk1 | (dsimp only; walk1) | (leave1; (try dsimp only)) | fail "no step"))
    · have h1 := t_ne (by assumption)
      rename (Txt.slice _ _ _ == headS n.1.1) = true => h2
      rw [under_test _ _ (Ne.symm h1)] at h2
      exact ret _ _ _ [(dW, oW)] (Fr.keep (by assumption)) (News.led (News.sub (by assumption) (by k_allIn))) ⟨congrArg Value.bool (open_not (List.mem_of_getElem? hn) h1 (of_decide_eq_true h2) (by assumption)).symm, rfl⟩
    · refine t0_next (by assumption) (by assumption) (fun p hp => hp) ?_ (hold_snoc hJ hn fun h => absurd h.2 (by assumption))
      intro z hz; (repeat refine out_st (contains_ne hz (by rfl)) ?_); simp only [mid, hz]; rfl
    · have h1 := t_ne (by assumption)
      rename (Txt.slice _ _ _ == headS n.1.1) = false => h2
      rw [under_test _ _ (Ne.symm h1)] at h2
      refine t0_next (by assumption) (by assumption) (fun p hp => hp) ?_ (hold_snoc hJ hn fun h => of_decide_eq_false h2 h.1.2)
      intro z hz; (repeat refine out_st (contains_ne hz (by rfl)) ?_); simp only [mid, hz]; rfl
    · refine t0_next (by assumption) (by assumption) (fun p hp => hp) ?_ (hold_snoc hJ hn fun h => h.1.1 (t_eq (by assumption)))
      intro z hz; (repeat refine out_st (contains_ne hz (by rfl)) ?_); simp only [mid, hz]; rfl
  case done =>
    intro m₁ h' tk hJ kF kN
    (repeat' (first | ((with_reducible show wpAny _ _ _ _ _ (Shared.mk _ (Shared.gens _) _ _ _)); (with_reducible first | refine fl_c ?_ rfl | refine fl_a (by assumption) ?_ rfl | refine fl_b (by assumption) ?_ rfl); (fail_if_success (with_reducible show wpAny _ _ _ _ _ (Shared.mk _ (Shared.gens _) _ _ _)))) | ((with_reducible show wpAny _ _ _ _ _ (Shared.mk _ _ _ (_ + _ + _ + _) _)); (with_reducible refine tk_gen ?_); intro tk_m) | ((with_reducible show wpAny _ _ (eval (Expr.Constant _ _ _) _) _ _ _); with_reducible first | refine cint ?_ | refine cstr ?_) | ((with_reducible show wpAny _ _ (eval (Expr.Name _ _) _) _ _ _); k_here; k_dflt (refine' nameX_L (hd := ?d) ?F ?v ?_ ?a ?b; (case F => k_asm); (case a => rfl); (case b => rfl); (case v => rfl); (case d => rfl); k_whole)) | ((with_reducible show wpAny _ _ (storeName _ _ _) _ _ _); k_here; k_dflt (refine' storeX_M ?F ?N ?_ ?a ?b; (case F => k_asm); (case N => k_asm); (case a => rfl); (case b => rfl); k_whole; intro h_m m_m F_m N_m; (try k_sweep))) | ((with_reducible show wpAny _ _ (exec _ _) _ _ _); k_fold) | (k_unfold; (try dsimp only)) | (k_end; kc_close) | walk1 | (dsimp only; walk1) | (leave1; (try dsimp only)) | fail "no step"))
    exact ret _ _ _ [(dW, oW)] (Fr.keep (by assumption)) (News.led (by assumption)) ⟨congrArg Value.bool (open_all hJ).symm, rfl⟩

example : True := by w_top off; trivial
noncomputable def toldN (T : List Node) (ev : Bool) (os : List (List Nat)) : List (List Nat) := os.filter fun q => ev || openB T q
noncomputable def firstN (m : Int) : Int := if m.fdiv 4096 = 4 then 16832 else 33152
noncomputable def rowsN (T : List Node) (dn : List (List Nat)) : List Str := T.map fun n => rowU (if n.1 ∈ dn then n.2 else firstN n.2) 3
theorem mode_in {T : List TNode} (hT : Tr (T.map (·.1))) {n : TNode} (hn : n ∈ T) (c : Prop) [Decidable c] : 0 ≤ (if c then n.1.2 else firstN n.1.2) ∧ (if c then n.1.2 else firstN n.1.2) < 65536 := by
  have h := (tr_mem hT n.1 (List.mem_map.mpr ⟨n, hn, rfl⟩)).1
  split
  · rcases h with ⟨r, h0, h1, e⟩ | ⟨r, h0, h1, e⟩ <;> omega
  · unfold firstN; split <;> omega
theorem rows_snoc {T : List TNode} {dn : List (List Nat)} {i : Nat} {n : TNode} {rows : List (Str × Tok)} {t : Tok} (h : rows.map (·.1) = (rowsN (T.map (·.1)) dn).take i) (hn : T[i]? = some n) : (rows ++ [(rowU (if n.1.1 ∈ dn then n.1.2 else firstN n.1.2) 3, t)]).map (·.1) = (rowsN (T.map (·.1)) dn).take (i + 1) := by
  rw [List.map_append, h, take_snoc (a := rowU (if n.1.1 ∈ dn then n.1.2 else firstN n.1.2) 3)]
  · rfl
  · unfold rowsN; rw [List.getElem?_map, List.getElem?_map, hn]; rfl
theorem told_spec {w : World} {dW dO kO : Nat} {oW : Obj} {T : List TNode} {os : List (List Nat)} {ord : List (Str × Tok)} {ev : Bool} (hD : Obj.IsDictOf (PySem.strKind prg w) oW (kvsOf T)) (hT : Tr (T.map (·.1))) (hTl : T.length ≤ 13) (loW : (dW == sysModules) = false)
    (hO : PathsAre os ord) (hol : os.length ≤ 20) (hin : ∀ q ∈ os, q ∈ T.map (·.1.1)) :
    Mut w 365 [.ref dO, .ref dW, .bool ev] 6 [(dO, W.listOf (strValues ord).toArray kO), (dW, oW)] True (fun v led => ∃ (Tp D1 D2 k1 k2 : Nat) (acc rows : List (Str × Tok)), v = .ref Tp ∧ led = [(Tp, { cls := .type "tuple", data := .seq [Value.ref D1, .ref D2].toArray }), (D1, W.listOf (strValues acc).toArray k1), (D2, W.listOf (strValues rows).toArray k2), (dO, W.listOf (strValues ord).toArray kO), (dW, oW)] ∧
      PathsAre (toldN (T.map (·.1)) ev os) acc ∧ rows.map (·.1) = rowsN (T.map (·.1)) (toldN (T.map (·.1)) ev os)) := by
  refine mut_of fun A Q s0 gs dr tk0 ost g G hg hsz hled R hp ret => ?_
  obtain ⟨hd, dp, fr, gd, un⟩ := A; obtain rfl : hd = none := R.hh
  have G' := G; obtain ⟨X, mean, mg, mb, T'⟩ := G
  have R' := fun env => R.deeper (env := env)
  refine enterMC G' hg hsz hled (R.le (by decide)) (by k_is) (by k_is) (BindsTo.of_eq (binds := [(Str.ofString "order", .ref dO), (Str.ofString "wished", .ref dW), (Str.ofString "everything", .bool ev)]) rfl) (by rfl) (by decide) rfl rfl rfl ?_
  intro L h₁ tk cells F N C hlt _ _ A1
  k_fold
  obtain ⟨o1, o2, hE, d1, d2⟩ := CellsAre.two C
  subst hE
  clear C
  replace d1 : o1.data = .cell (some (.bool ev)) := d1
  replace d2 : o2.data = .cell (some (.ref dW)) := d2
  replace F : Fr g L h₁ (fun y => if y = Str.ofString "order" then some (.ref dO) else none) := F
  (try simp only [List.cons_append, List.nil_append] at N)
  k_lt hlt
  clear G' hg hled hsz
  have hlen := hO.len
  (repeat' (first | ((with_reducible show wpAny _ _ _ _ _ (Shared.mk _ (Shared.gens _) _ _ _)); (with_reducible first | refine fl_c ?_ rfl | refine fl_a (by assumption) ?_ rfl | refine fl_b (by assumption) ?_ rfl); (fail_if_success (with_reducible show wpAny _ _ _ _ _ (Shared.mk _ (Shared.gens _) _ _ _)))) | ((with_reducible show wpAny _ _ _ _ _ (Shared.mk _ _ _ (_ + _ + _ + _) _)); (with_reducible refine tk_gen ?_); intro tk_m) | ((with_reducible show wpAny _ _ (exec (Stmt.Assign _ (Expr.ListComp _ _ _ _) _) _) _ _ _); (k_here; k_dflt (refine comp_AT (by k_asm) (by rfl) (by with_unfolding_all rfl) (by with_unfolding_all rfl) (by decide) (by rfl) (by decide) (by rfl) (by rfl) (by rfl) ?_))) | ((with_reducible show wpAny _ _ (eval (Expr.Constant _ _ _) _) _ _ _); with_reducible first | refine cint ?_ | refine cstr ?_) | ((with_reducible show wpAny _ _ (eval (Expr.Name _ _) _) _ _ _); k_here; k_dflt (refine' nameX_L (hd := ?d) ?F ?v ?_ ?a ?b; (case F => k_asm); (case a => rfl); (case b => rfl); (case v => rfl); (case d => rfl); k_whole)) | ((with_reducible show wpAny _ _ (storeName _ _ _) _ _ _); k_here; k_dflt (refine' storeX_M ?F ?N ?_ ?a ?b; (case F => k_asm); (case N => k_asm); (case a => rfl); (case b => rfl); k_whole; intro h_m m_m F_m N_m; (try k_sweep))) | ((with_reducible show wpAny _ _ (exec _ _) _ _ _); k_fold) | (k_unfold; (try dsimp only)) | (k_end; kc_close) | walk1 | (dsimp only; walk1) | (leave1; (try dsimp only)) | fail "no step"))
  (with_reducible rename Fr _ _ _ _ => kF); (with_reducible rename News _ _ _ _ => kN)
  refine csrc_T (KeptIs os fun q => ev || openB (T.map (·.1)) q) (Itc.list (o := W.listOf (strValues ord).toArray kO) (items := (strValues ord).toArray) rfl rfl rfl) trivial kF kN (.inr (by k_mem)) (by rw [sizeLine_eq, List.size_toArray, strv_len]; omega) ⟨[], rfl, rfl⟩ ?_ ?_
  · intro i ys v I oI C oC D m₂ h tk E' hi hP hJ hC hx kF kN off3 ne3
    obtain ⟨q, tq, hq, rfl⟩ := hO.at hP
    have hq2 := hin q (List.mem_of_getElem? hq)
    (repeat' (first | ((with_reducible show wpAny _ _ _ _ _ (Shared.mk _ (Shared.gens _) _ _ _)); (with_reducible first | refine fl_c ?_ rfl | refine fl_a (by assumption) ?_ rfl | refine fl_b (by assumption) ?_ rfl); (fail_if_success (with_reducible show wpAny _ _ _ _ _ (Shared.mk _ (Shared.gens _) _ _ _)))) | ((with_reducible show wpAny _ _ _ _ _ (Shared.mk _ _ _ (_ + _ + _ + _) _)); (with_reducible refine tk_gen ?_); intro tk_m) | (k_here; (with_reducible show wpAny _ _ (call (Value.ref 360) _ _) _ _ _); refine use_read (open_spec (by assumption) (by assumption) (by assumption) (by assumption) (by assumption)) (by k_asm) (by k_asm) (by k_asm) (by k_asm) (Rm.le (by first | assumption | (rename (∀ env, Rm _ _) => kR_m; exact kR_m _)) (by decide)) trivial (fun p_m hp_m => by rw [List.mem_singleton.mp hp_m]; k_mem) ?_; intro h_m tk_m F_m N_m; (try k_sweep)) | ((with_reducible show wpAny _ _ (eval (Expr.Constant _ _ _) _) _ _ _); with_reducible first | refine cint ?_ | refine cstr ?_) | ((with_reducible show wpAny _ _ (eval (Expr.Name _ _) _) _ _ _); k_here; k_dflt (refine' nameX_L (hd := ?d) ?F ?v ?_ ?a ?b; (case F => k_asm); (case a => rfl); (case b => rfl); (case v => rfl); (case d => rfl); k_whole)) | ((with_reducible show wpAny _ _ (storeName _ _ _) _ _ _); k_here; k_dflt (refine' storeX_M ?F ?N ?_ ?a ?b; (case F => k_asm); (case N => k_asm); (case a => rfl); (case b => rfl); k_whole; intro h_m m_m F_m N_m; (try k_sweep))) | ((with_reducible show wpAny _ _ (exec _ _) _ _ _); k_fold) | (k_unfold; (try dsimp only)) | (k_end; kc_close) | walk1 | (dsimp only; walk1) | (leave1; (try dsimp only)) | fail "no step"))
    · exact ce_end (by assumption) (by assumption) (fun p hp => hp) off3 (kept_hit hJ hq (by rw [show ev = true by assumption]; rfl))
    · refine ce_end (by assumption) (by assumption) (fun p hp => hp) off3 (kept_hit hJ hq ?_)
      rw [show ev = false by assumption, show openB _ q = true by assumption]; rfl
    · refine ce_end (by assumption) (by assumption) (fun p hp => hp) off3 (kept_miss hJ hq ?_)
      rw [show ev = false by assumption, show openB _ q = false by assumption]; rfl
  · intro g ys hJ D' h' tk kF2 kN2 hoff1
    obtain ⟨acc, rfl, hacc⟩ := kept_all hJ (by rw [List.size_toArray, strv_len]; omega)
    clear hJ
    (repeat' (first | ((with_reducible show wpAny _ _ _ _ _ (Shared.mk _ (Shared.gens _) _ _ _)); (with_reducible first | refine fl_c ?_ rfl | refine fl_a (by assumption) ?_ rfl | refine fl_b (by assumption) ?_ rfl); (fail_if_success (with_reducible show wpAny _ _ _ _ _ (Shared.mk _ (Shared.gens _) _ _ _)))) | ((with_reducible show wpAny _ _ _ _ _ (Shared.mk _ _ _ (_ + _ + _ + _) _)); (with_reducible refine tk_gen ?_); intro tk_m) | ((with_reducible show wpAny _ _ (exec (Stmt.For (Expr.Name _ _) (Expr.Name _ _) (_ :: _) [] _) _) _ _ _); (k_here; k_dflt (refine wpAny_For ?_))) | ((with_reducible show wpAny _ _ (storeName _ _ _) _ _ _); (k_here; dsimp only)) | ((with_reducible show wpAny _ _ (eval (Expr.Constant _ _ _) _) _ _ _); with_reducible first | refine cint ?_ | refine cstr ?_) | ((with_reducible show wpAny _ _ (eval (Expr.Name _ _) _) _ _ _); k_here; k_dflt (refine' nameX_L (hd := ?d) ?F ?v ?_ ?a ?b; (case F => k_asm); (case a => rfl); (case b => rfl); (case v => rfl); (case d => rfl); k_whole)) | ((with_reducible show wpAny _ _ (storeName _ _ _) _ _ _); k_here; k_dflt (refine' storeX_M ?F ?N ?_ ?a ?b; (case F => k_asm); (case N => k_asm); (case a => rfl); (case b => rfl); k_whole; intro h_m m_m F_m N_m; (try k_sweep))) | ((with_reducible show wpAny _ _ (exec _ _) _ _ _); k_fold) | (k_unfold; (try dsimp only)) | (k_end; kc_close) | walk1 | (dsimp only; walk1) | (leave1; (try dsimp only)) | fail "no step"))
    (with_reducible rename Fr _ _ _ _ => kF); (with_reducible rename News _ _ _ _ => kN)
    refine' for_1 (L := L) [Str.ofString "path", Str.ofString "first"] (fun i m o => ∃ rows k, o = W.listOf (strValues rows).toArray k ∧ rows.map (·.1) = (rowsN (T.map (·.1)) (toldN (T.map (·.1)) ev os)).take i) rfl (Itb.keys rfl loW hD) rfl rfl kF kN (.inr (by k_mem)) ?h0 ?turn ?done
    case h0 => exact ⟨[], 0, rfl, rfl⟩
    case turn =>
      intro I i v m₁ o₁ oI h tk hlt hi hP hJ kF kN
      k_fold
      obtain ⟨rows, k2, rfl, hrows⟩ := hJ
      obtain ⟨k, x, tv, hk, rfl⟩ := hP
      obtain ⟨n, hn, rfl, rfl⟩ := kvs_at hk
      have hv := value_kvs hT (List.mem_of_getElem? hn)
      k_lt hlt
      (repeat' (first | ((with_reducible show wpAny _ _ _ _ _ (Shared.mk _ (Shared.gens _) _ _ _)); (with_reducible first | refine fl_c ?_ rfl | refine fl_a (by assumption) ?_ rfl | refine fl_b (by assumption) ?_ rfl); (fail_if_success (with_reducible show wpAny _ _ _ _ _ (Shared.mk _ (Shared.gens _) _ _ _)))) | ((with_reducible show wpAny _ _ _ _ _ (Shared.mk _ _ _ (_ + _ + _ + _) _)); (with_reducible refine tk_gen ?_); intro tk_m) | ((with_reducible show wpAny _ _ (eval (Expr.IfExp _ _ _ _) _) _ _ _); (k_here; refine hold2 ?_)) | ((with_reducible show wpAny _ _ (eval (Expr.Constant _ _ _) _) _ _ _); with_reducible first | refine cint ?_ | refine cstr ?_) | ((with_reducible show wpAny _ _ (eval (Expr.Name _ _) _) _ _ _); k_here; k_dflt (refine' nameX_L (hd := ?d) ?F ?v ?_ ?a ?b; (case F => k_asm); (case a => rfl); (case b => rfl); (case v => rfl); (case d => rfl); k_whole)) | ((with_reducible show wpAny _ _ (storeName _ _ _) _ _ _); k_here; k_dflt (refine' storeX_M ?F ?N ?_ ?a ?b; (case F => k_asm); (case N => k_asm); (case a => rfl); (case b => rfl); k_whole; intro h_m m_m F_m N_m; (try k_sweep))) | ((with_reducible show wpAny _ _ (exec _ _) _ _ _); k_fold) | (k_unfold; (try dsimp only)) | (k_end; kc_close) | walk1 | (dsimp only; walk1) | (leave1; (try dsimp only)) | fail "no step"))
      refine cut_val (fun v => ∃ t, v = .int (firstN n.1.2) t) ?first ?_
      case first =>
        refine IfExp_ ?_
        (repeat' (first | ((with_reducible show wpAny _ _ _ _ _ (Shared.mk _ (Shared.gens _) _ _ _)); (with_reducible first | refine fl_c ?_ rfl | refine fl_a (by assumption) ?_ rfl | refine fl_b (by assumption) ?_ rfl); (fail_if_success (with_reducible show wpAny _ _ _ _ _ (Shared.mk _ (Shared.gens _) _ _ _)))) | ((with_reducible show wpAny _ _ _ _ _ (Shared.mk _ _ _ (_ + _ + _ + _) _)); (with_reducible refine tk_gen ?_); intro tk_m) | (k_here; (with_reducible show wpAny _ _ (subscriptTail _ _ (Value.ref _) (Value.str _ _)) _ _ _); (with_unfolding_all refine' dget ?k1 ?k2 ?k3 ?_ ?k4; (case k2 => assumption); (case k3 => assumption); (case k1 => exact (News.get (by k_asm) (by k_mem))); (case k4 => with_unfolding_all rfl); k_whole)) | ((with_reducible show wpAny _ _ (eval (Expr.Constant _ _ _) _) _ _ _); with_reducible first | refine cint ?_ | refine cstr ?_) | ((with_reducible show wpAny _ _ (eval (Expr.Name _ _) _) _ _ _); k_here; k_dflt (refine' nameX_L (hd := ?d) ?F ?v ?_ ?a ?b; (case F => k_asm); (case a => rfl); (case b => rfl); (case v => rfl); (case d => rfl); k_whole)) | ((with_reducible show wpAny _ _ (storeName _ _ _) _ _ _); k_here; k_dflt (refine' storeX_M ?F ?N ?_ ?a ?b; (case F => k_asm); (case N => k_asm); (case a => rfl); (case b => rfl); k_whole; intro h_m m_m F_m N_m; (try k_sweep))) | ((with_reducible show wpAny _ _ (exec _ _) _ _ _); k_fold) | (k_unfold; (try dsimp only)) | (k_end; kc_close) | walk1 | (dsimp only; walk1) | (leave1; (try dsimp only)) | fail "no step"))
        · exact isVal ⟨_, by unfold firstN; rw [if_pos (by assumption)]⟩
        · exact isVal ⟨_, by unfold firstN; rw [if_neg (by assumption)]⟩
      rintro v tk' ⟨t', rfl⟩
      (repeat' (first | ((with_reducible show wpAny _ _ _ _ _ (Shared.mk _ (Shared.gens _) _ _ _)); (with_reducible first | refine fl_c ?_ rfl | refine fl_a (by assumption) ?_ rfl | refine fl_b (by assumption) ?_ rfl); (fail_if_success (with_reducible show wpAny _ _ _ _ _ (Shared.mk _ (Shared.gens _) _ _ _)))) | ((with_reducible show wpAny _ _ _ _ _ (Shared.mk _ _ _ (_ + _ + _ + _) _)); (with_reducible refine tk_gen ?_); intro tk_m) | ((with_reducible show wpAny _ _ (eval (Expr.IfExp _ _ _ _) _) _ _ _); (k_here; refine hold2 ?_)) | ((with_reducible show wpAny _ _ (storeName _ _ _) _ _ _); (k_here; dsimp only)) | ((with_reducible show wpAny _ _ (eval (Expr.Constant _ _ _) _) _ _ _); with_reducible first | refine cint ?_ | refine cstr ?_) | ((with_reducible show wpAny _ _ (eval (Expr.Name _ _) _) _ _ _); k_here; k_dflt (refine' nameX_L (hd := ?d) ?F ?v ?_ ?a ?b; (case F => k_asm); (case a => rfl); (case b => rfl); (case v => rfl); (case d => rfl); k_whole)) | ((with_reducible show wpAny _ _ (storeName _ _ _) _ _ _); k_here; k_dflt (refine' storeX_M ?F ?N ?_ ?a ?b; (case F => k_asm); (case N => k_asm); (case a => rfl); (case b => rfl); k_whole; intro h_m m_m F_m N_m; (try k_sweep))) | ((with_reducible show wpAny _ _ (exec _ _) _ _ _); k_fold) | (k_unfold; (try dsimp only)) | (k_end; kc_close) | walk1 | (dsimp only; walk1) | (leave1; (try dsimp only)) | fail "no step"))
      refine cut_val (fun v => ∃ t, v = .int (if n.1.1 ∈ toldN (T.map (·.1)) ev os then n.1.2 else firstN n.1.2) t) ?second ?_
      case second =>
        refine IfExp_ ?_
        have hd : (acc.map (·.1)).any (· == pathS n.1.1) = decide (n.1.1 ∈ toldN (T.map (·.1)) ev os) := by rw [show acc.map (·.1) = _ from hacc]; exact any_path
        (repeat' (first | ((with_reducible show wpAny _ _ _ _ _ (Shared.mk _ (Shared.gens _) _ _ _)); (with_reducible first | refine fl_c ?_ rfl | refine fl_a (by assumption) ?_ rfl | refine fl_b (by assumption) ?_ rfl); (fail_if_success (with_reducible show wpAny _ _ _ _ _ (Shared.mk _ (Shared.gens _) _ _ _)))) | ((with_reducible show wpAny _ _ _ _ _ (Shared.mk _ _ _ (_ + _ + _ + _) _)); (with_reducible refine tk_gen ?_); intro tk_m) | ((with_reducible show wpAny _ _ (compareOp CmpOp.In (Value.str _ _) (Value.ref _)) _ _ _); (k_here; (refine in_list_strs (News.isList (by k_asm) (by k_mem)) (strsAre_sv _) ?_))) | (k_here; (with_reducible show wpAny _ _ (subscriptTail _ _ (Value.ref _) (Value.str _ _)) _ _ _); (with_unfolding_all refine' dget ?k1 ?k2 ?k3 ?_ ?k4; (case k2 => assumption); (case k3 => assumption); (case k1 => exact (News.get (by k_asm) (by k_mem))); (case k4 => with_unfolding_all rfl); k_whole)) | ((with_reducible show wpAny _ _ (eval (Expr.Constant _ _ _) _) _ _ _); with_reducible first | refine cint ?_ | refine cstr ?_) | ((with_reducible show wpAny _ _ (eval (Expr.Name _ _) _) _ _ _); k_here; k_dflt (refine' nameX_L (hd := ?d) ?F ?v ?_ ?a ?b; (case F => k_asm); (case a => rfl); (case b => rfl); (case v => rfl); (case d => rfl); k_whole)) | ((with_reducible show wpAny _ _ (storeName _ _ _) _ _ _); k_here; k_dflt (refine' storeX_M ?F ?N ?_ ?a ?b; (case F => k_asm); (case N => k_asm); (case a => rfl); (case b => rfl); k_whole; intro h_m m_m F_m N_m; (try k_sweep))) | ((with_reducible show wpAny _ _ (exec _ _) _ _ _); k_fold) | (k_unfold; (try dsimp only)) | (k_end; kc_close) | walk1 | (dsimp only; walk1) | (leave1; (try dsimp only)) | fail "no step"))
        · rename ((acc.map _).any _) = true => h1
          rw [hd] at h1
          exact isVal ⟨_, congrArg (fun x => Value.int x _) (if_pos (of_decide_eq_true h1)).symm⟩
        · rename ((acc.map _).any _) = false => h1
          rw [hd] at h1
          exact isVal ⟨_, congrArg (fun x => Value.int x _) (if_neg (of_decide_eq_false h1)).symm⟩
      rintro v tk' ⟨t', rfl⟩
      have hrl : rows.length ≤ 100000 := by
        have := congrArg List.length hrows
        rw [List.length_map, List.length_take] at this
        unfold rowsN at this
        rw [List.length_map, List.length_map] at this
        omega
      have hm := mode_in hT (List.mem_of_getElem? hn) (n.1.1 ∈ toldN (T.map (·.1)) ev os)
      (repeat' (first | ((with_reducible show wpAny _ _ _ _ _ (Shared.mk _ (Shared.gens _) _ _ _)); (with_reducible first | refine fl_c ?_ rfl | refine fl_a (by assumption) ?_ rfl | refine fl_b (by assumption) ?_ rfl); (fail_if_success (with_reducible show wpAny _ _ _ _ _ (Shared.mk _ (Shared.gens _) _ _ _)))) | ((with_reducible show wpAny _ _ _ _ _ (Shared.mk _ _ _ (_ + _ + _ + _) _)); (with_reducible refine tk_gen ?_); intro tk_m) | (k_here; (with_reducible show wpAny _ _ (call (Value.ref 343) _ _) _ _ _); refine use_pur0 row_spec (by k_asm) (by k_asm) (by k_asm) (by k_asm) (Rm.le (by first | assumption | (rename (∀ env, Rm _ _) => kR_m; exact kR_m _)) (by decide)) (by assumption) ?_; intro v_m h_m tk_m led_m F_m N_m hv_m; obtain ⟨t_m, hv_m⟩ := hv_m; subst hv_m; (try k_sweep)) | (k_here; (with_reducible show wpAny _ _ (call (Value.builtin "list.append") [Value.ref _, Value.str _ _]) _ _ _); k_dflt (refine' append_strs ?k1 ?k2 ?k3 ?z ?_; (case k1 => k_asm); (case k2 => k_asm); (case k3 => k_upd); (case z => first | assumption | omega | (simp only [List.length_append, List.length_singleton, List.length_nil, List.length_cons]; omega)); k_whole); intro h_m F_m N_m; (try k_sweep)) | ((with_reducible show wpAny _ _ (eval (Expr.Constant _ _ _) _) _ _ _); with_reducible first | refine cint ?_ | refine cstr ?_) | ((with_reducible show wpAny _ _ (eval (Expr.Name _ _) _) _ _ _); k_here; k_dflt (refine' nameX_L (hd := ?d) ?F ?v ?_ ?a ?b; (case F => k_asm); (case a => rfl); (case b => rfl); (case v => rfl); (case d => rfl); k_whole)) | ((with_reducible show wpAny _ _ (storeName _ _ _) _ _ _); k_here; k_dflt (refine' storeX_M ?F ?N ?_ ?a ?b; (case F => k_asm); (case N => k_asm); (case a => rfl); (case b => rfl); k_whole; intro h_m m_m F_m N_m; (try k_sweep))) | ((with_reducible show wpAny _ _ (exec _ _) _ _ _); k_fold) | (k_unfold; (try dsimp only)) | (k_end; kc_close) | walk1 | (dsimp only; walk1) | (leave1; (try dsimp only)) | fail "no step"))
      refine t1_next (by assumption) (by assumption) (fun p hp => hp) ?_ ⟨_, _, rfl, rows_snoc hrows hn⟩
      intro z hz; (repeat refine out_st (contains_ne hz (by rfl)) ?_); simp only [mid, hz]; rfl
    case done =>
      intro m₁ o₁ h' tk hJ kF kN
      obtain ⟨rows, k2, rfl, hrows⟩ := hJ
      rw [List.take_of_length_le (by unfold rowsN kvsOf; rw [List.length_map, List.length_map, List.length_map]; exact Nat.le_refl _)] at hrows
      (repeat' (first | ((with_reducible show wpAny _ _ _ _ _ (Shared.mk _ (Shared.gens _) _ _ _)); (with_reducible first | refine fl_c ?_ rfl | refine fl_a (by assumption) ?_ rfl | refine fl_b (by assumption) ?_ rfl); (fail_if_success (with_reducible show wpAny _ _ _ _ _ (Shared.mk _ (Shared.gens _) _ _ _)))) | ((with_reducible show wpAny _ _ _ _ _ (Shared.mk _ _ _ (_ + _ + _ + _) _)); (with_reducible refine tk_gen ?_); intro tk_m) | ((with_reducible show wpAny _ _ (eval (Expr.Constant _ _ _) _) _ _ _); with_reducible first | refine cint ?_ | refine cstr ?_) | ((with_reducible show wpAny _ _ (eval (Expr.Name _ _) _) _ _ _); k_here; k_dflt (refine' nameX_L (hd := ?d) ?F ?v ?_ ?a ?b; (case F => k_asm); (case a => rfl); (case b => rfl); (case v => rfl); (case d => rfl); k_whole)) | ((with_reducible show wpAny _ _ (storeName _ _ _) _ _ _); k_here; k_dflt (refine' storeX_M ?F ?N ?_ ?a ?b; (case F => k_asm); (case N => k_asm); (case a => rfl); (case b => rfl); k_whole; intro h_m m_m F_m N_m; (try k_sweep))) | ((with_reducible show wpAny _ _ (exec _ _) _ _ _); k_fold) | (k_unfold; (try dsimp only)) | (k_end; kc_close) | walk1 | (dsimp only; walk1) | (leave1; (try dsimp only)) | fail "no step"))
      (with_reducible rename News _ _ _ _ => kN)
      refine cap3 kN ?_
      intro tp lr dl e1 e2 e3
      subst e1 e2 e3
      exact ret _ _ _ [(tp, { cls := .type "tuple", data := .seq [Value.ref dl, .ref lr].toArray }), (dl, W.listOf (strValues acc).toArray (strValues acc).length), (lr, W.listOf (strValues rows).toArray k2), (dO, W.listOf (strValues ord).toArray kO), (dW, oW)] (Fr.keep (by assumption)) (News.led (News.sub kN (by k_allIn))) ⟨tp, dl, lr, _, _, acc, rows, rfl, rfl, hacc, hrows⟩

section
open PySem.SeqAt PySem.PyData PyProof.V
noncomputable def dS (ss : List Str) : PyData := .list (ss.map .str)
noncomputable def dSS (rs : List (List Str)) : PyData := .list (rs.map dS)
noncomputable def dP (a b : List Str) : PyData := .tuple [dS a, dS b]
noncomputable def OkS (ss : List Str) : Prop := ∀ x ∈ ss, PyData.strOk x = true
theorem strok_path {q : List Nat} (h : ∀ c ∈ q, c < 1000) : PyData.strOk (pathS q) = true := by
  unfold PyData.strOk
  rw [Array.all_eq_true']
  intro c hc
  have hc' : c ∈ pathL q := by rw [← lst_pathS]; exact Array.mem_toList_iff.mpr hc
  rw [decide_eq_true_eq]
  by_cases hq : q = []
  · subst hq
    rw [List.mem_singleton.mp hc']; decide
  · cases q with
    | nil => exact absurd rfl hq
    | cons d r =>
      obtain ⟨e, he, h2⟩ := List.mem_flatMap.mp hc'
      have := h e he
      simp only [List.mem_cons, List.not_mem_nil, or_false] at h2
      rcases h2 with rfl | rfl
      · decide
      · omega
theorem dS_lay {ss : List Str} (h : OkS ss) : (dS ss).canLay0 = true := by
  show canLayAll0 (ss.map .str) = true
  induction ss with
  | nil => rfl
  | cons x r ih => simp only [List.map_cons, canLayAll0, canLay0, h x (.head _), ih fun y hy => h y (.tail _ hy), Bool.and_self]
theorem dS_depth (ss : List Str) : (dS ss).depth = 1 := by
  have : depthAll (ss.map .str) = 0 := by
    induction ss with
    | nil => rfl
    | cons x r ih => simp only [List.map_cons, depthAll, depth, ih, Nat.max_self]
  show depthAll (ss.map .str) + 1 = 1
  rw [this]
theorem dS_shaped {ss : List Str} (h : OkS ss) : shaped (dS ss) = true := by
  unfold shaped; rw [dS_lay h, dS_depth]; decide
theorem dSS_shaped {rs : List (List Str)} (h : ∀ ss ∈ rs, OkS ss) : shaped (dSS rs) = true := by
  have h1 : canLayAll0 (rs.map dS) = true := by
    induction rs with
    | nil => rfl
    | cons x r ih => simp only [List.map_cons, canLayAll0, dS_lay (h x (.head _)), ih fun y hy => h y (.tail _ hy), Bool.and_self]
  have h2 : depthAll (rs.map dS) ≤ 1 := by
    clear h h1
    induction rs with
    | nil => simp [depthAll]
    | cons x r ih => simp only [List.map_cons, depthAll, dS_depth]; omega
  unfold shaped
  rw [show (dSS rs).canLay0 = true from h1, Bool.true_and, decide_eq_true_eq]
  show depthAll (rs.map dS) + 1 ≤ 64
  omega
theorem dP_shaped {a b : List Str} (ha : OkS a) (hb : OkS b) : shaped (dP a b) = true := by
  unfold shaped dP
  simp only [canLay0, canLayAll0, dS_lay ha, dS_lay hb, depth, depthAll, dS_depth]
  decide
theorem dS_mix : ∀ a b : List Str, noMix (dS a) (dS b) = true
  | [], [] => by simp [dS, noMix, noMixAll]
  | [], _ :: _ => by simp [dS, noMix, noMixAll]
  | _ :: _, [] => by simp [dS, noMix, noMixAll]
  | x :: a, y :: b => by
    have := dS_mix a b
    unfold dS at this ⊢
    rw [noMix] at this ⊢
    rw [List.map_cons, List.map_cons, noMixAll, noMix, this]; rfl
theorem dSS_mix : ∀ a b : List (List Str), noMix (dSS a) (dSS b) = true
  | [], [] => by simp [dSS, noMix, noMixAll]
  | [], _ :: _ => by simp [dSS, noMix, noMixAll]
  | _ :: _, [] => by simp [dSS, noMix, noMixAll]
  | x :: a, y :: b => by
    have := dSS_mix a b
    unfold dSS at this ⊢
    rw [noMix] at this ⊢
    rw [List.map_cons, List.map_cons, noMixAll, dS_mix, this]; rfl
theorem dP_mix (a b c d : List Str) : noMix (dP a b) (dP c d) = true := by
  unfold dP
  simp only [noMix, noMixAll, dS_mix, Bool.and_self]
theorem dS_same : ∀ a b : List Str, PySem.Spec.same (dS a) (dS b) = decide (a = b)
  | [], [] => by simp [dS, PySem.Spec.same, PySem.Spec.sameAll]
  | [], _ :: _ => by simp [dS, PySem.Spec.same, PySem.Spec.sameAll]
  | _ :: _, [] => by simp [dS, PySem.Spec.same, PySem.Spec.sameAll]
  | x :: a, y :: b => by
    have := dS_same a b
    unfold dS at this ⊢
    rw [PySem.Spec.same] at this ⊢
    rw [List.map_cons, List.map_cons, PySem.Spec.sameAll, PySem.Spec.same, this, Bool.beq_eq_decide_eq, ← Bool.decide_and]
    simp
theorem dSS_same : ∀ a b : List (List Str), PySem.Spec.same (dSS a) (dSS b) = decide (a = b)
  | [], [] => by simp [dSS, PySem.Spec.same, PySem.Spec.sameAll]
  | [], _ :: _ => by simp [dSS, PySem.Spec.same, PySem.Spec.sameAll]
  | _ :: _, [] => by simp [dSS, PySem.Spec.same, PySem.Spec.sameAll]
  | x :: a, y :: b => by
    have := dSS_same a b
    unfold dSS at this ⊢
    rw [PySem.Spec.same] at this ⊢
    rw [List.map_cons, List.map_cons, PySem.Spec.sameAll, dS_same, this, ← Bool.decide_and]
    simp
theorem dP_same (a b c d : List Str) : PySem.Spec.same (dP a b) (dP c d) = decide (a = c ∧ b = d) := by
  unfold dP
  rw [PySem.Spec.same, PySem.Spec.sameAll, PySem.Spec.sameAll, PySem.Spec.sameAll, dS_same, dS_same, Bool.and_true, ← Bool.decide_and]
theorem readsAll_strs {h : Heap} : ∀ acc : List (Str × Tok), ReadsAll h (strValues acc) ((acc.map (·.1)).map PyData.str) []
  | [] => .nil
  | (x, t) :: r => .cons (as := []) (.str x t) (readsAll_strs r)
theorem reads_strs {h : Heap} {D k : Nat} {acc : List (Str × Tok)} (e : h.get? D = some (W.listOf (strValues acc).toArray k)) : Reads h (.ref D) (dS (acc.map (·.1))) [D] :=
  .list e rfl rfl (readsAll_strs acc)
theorem reads_pair {h : Heap} {Tp D1 D2 k1 k2 : Nat} {a b : List (Str × Tok)} (e : h.get? Tp = some { cls := .type "tuple", data := .seq [Value.ref D1, .ref D2].toArray }) (e1 : h.get? D1 = some (W.listOf (strValues a).toArray k1)) (e2 : h.get? D2 = some (W.listOf (strValues b).toArray k2)) :
    Reads h (.ref Tp) (dP (a.map (·.1)) (b.map (·.1))) ([D1] ++ ([D2] ++ [])) := .tuple e rfl rfl (.cons (reads_strs e1) (.cons (reads_strs e2) .nil))
noncomputable def lsV (rs : List (Nat × List (Str × Tok) × Nat)) : List Value := rs.map fun e => Value.ref e.1
noncomputable def lsLed (rs : List (Nat × List (Str × Tok) × Nat)) : List (Addr × Obj) := rs.map fun e => (e.1, W.listOf (strValues e.2.1).toArray e.2.2)
theorem readsAll_ls {h : Heap} : ∀ {rs : List (Nat × List (Str × Tok) × Nat)}, (∀ p ∈ lsLed rs, h.get? p.1 = some p.2) → ∃ as, ReadsAll h (lsV rs) (rs.map fun e => dS (e.2.1.map (·.1))) as
  | [], _ => ⟨[], .nil⟩
  | e :: r, k => by
    obtain ⟨as, ha⟩ := readsAll_ls (rs := r) fun p hp => k p (.tail _ hp)
    exact ⟨_, .cons (reads_strs (k _ (.head _))) ha⟩
theorem reads_ls {h : Heap} {D k : Nat} {rs : List (Nat × List (Str × Tok) × Nat)} (e : h.get? D = some (W.listOf (lsV rs).toArray k)) (hl : ∀ p ∈ lsLed rs, h.get? p.1 = some p.2) : ∃ as, Reads h (.ref D) (dSS (rs.map fun e => e.2.1.map (·.1))) as := by
  obtain ⟨as, ha⟩ := readsAll_ls hl
  refine ⟨D :: as, .list e rfl rfl ?_⟩
  rw [List.map_map]; exact ha
section
variable {prog : Program} {w : World} {A : Around} {E Q : Value → Shared → Prop} {s : Shared} {a b : Addr}
theorem eq_strs {aa bb : List (Str × Tok)} {k1 k2 : Nat} (h1 : s.heap.get? a = some (W.listOf (strValues aa).toArray k1)) (h2 : s.heap.get? b = some (W.listOf (strValues bb).toArray k2)) (o1 : OkS (aa.map (·.1))) (o2 : OkS (bb.map (·.1))) (hu : A.units + 64 < cLine)
    (h : Q (.bool (decide (aa.map (·.1) = bb.map (·.1)))) s) : wpAny (model prog w) A (compareOp .Eq (.ref a) (.ref b)) Q E s :=
  eq_dataH_same (reads_strs h1) (reads_strs h2) (dS_shaped o1) (dS_shaped o2) hu (dS_mix _ _) (by rw [dS_same]; exact h)
theorem ne_ls {aa bb : List (Nat × List (Str × Tok) × Nat)} {k1 k2 : Nat} (h1 : s.heap.get? a = some (W.listOf (lsV aa).toArray k1)) (h2 : s.heap.get? b = some (W.listOf (lsV bb).toArray k2)) (l1 : ∀ p ∈ lsLed aa, s.heap.get? p.1 = some p.2) (l2 : ∀ p ∈ lsLed bb, s.heap.get? p.1 = some p.2)
    (o1 : ∀ ss ∈ aa.map fun e => e.2.1.map (·.1), OkS ss) (o2 : ∀ ss ∈ bb.map fun e => e.2.1.map (·.1), OkS ss) (hu : A.units + 64 < cLine)
    (h : Q (.bool (!decide ((aa.map fun e => e.2.1.map (·.1)) = bb.map fun e => e.2.1.map (·.1)))) s) : wpAny (model prog w) A (compareOp .NotEq (.ref a) (.ref b)) Q E s := by
  obtain ⟨as, ra⟩ := reads_ls h1 l1
  obtain ⟨bs, rb⟩ := reads_ls h2 l2
  exact ne_dataH_same ra rb (dSS_shaped o1) (dSS_shaped o2) hu (dSS_mix _ _) (by rw [dSS_same]; exact h)
theorem eq_pairs {a1 a2 b1 b2 : List (Str × Tok)} {A1 A2 B1 B2 k1 k2 k3 k4 : Nat} (h1 : s.heap.get? a = some { cls := .type "tuple", data := .seq [Value.ref A1, .ref A2].toArray }) (h2 : s.heap.get? b = some { cls := .type "tuple", data := .seq [Value.ref B1, .ref B2].toArray })
    (e1 : s.heap.get? A1 = some (W.listOf (strValues a1).toArray k1)) (e2 : s.heap.get? A2 = some (W.listOf (strValues a2).toArray k2)) (e3 : s.heap.get? B1 = some (W.listOf (strValues b1).toArray k3)) (e4 : s.heap.get? B2 = some (W.listOf (strValues b2).toArray k4))
    (o1 : OkS (a1.map (·.1))) (o2 : OkS (a2.map (·.1))) (o3 : OkS (b1.map (·.1))) (o4 : OkS (b2.map (·.1))) (hu : A.units + 64 < cLine)
    (h : Q (.bool (decide (a1.map (·.1) = b1.map (·.1) ∧ a2.map (·.1) = b2.map (·.1)))) s) : wpAny (model prog w) A (compareOp .Eq (.ref a) (.ref b)) Q E s :=
  eq_dataH_same (reads_pair h1 e1 e2) (reads_pair h2 e3 e4) (dP_shaped o1 o2) (dP_shaped o3 o4) hu (dP_mix _ _ _ _) (by rw [dP_same]; exact h)
theorem ne_pairs {a1 a2 b1 b2 : List (Str × Tok)} {A1 A2 B1 B2 k1 k2 k3 k4 : Nat} (h1 : s.heap.get? a = some { cls := .type "tuple", data := .seq [Value.ref A1, .ref A2].toArray }) (h2 : s.heap.get? b = some { cls := .type "tuple", data := .seq [Value.ref B1, .ref B2].toArray })
    (e1 : s.heap.get? A1 = some (W.listOf (strValues a1).toArray k1)) (e2 : s.heap.get? A2 = some (W.listOf (strValues a2).toArray k2)) (e3 : s.heap.get? B1 = some (W.listOf (strValues b1).toArray k3)) (e4 : s.heap.get? B2 = some (W.listOf (strValues b2).toArray k4))
    (o1 : OkS (a1.map (·.1))) (o2 : OkS (a2.map (·.1))) (o3 : OkS (b1.map (·.1))) (o4 : OkS (b2.map (·.1))) (hu : A.units + 64 < cLine)
    (h : Q (.bool (!decide (a1.map (·.1) = b1.map (·.1) ∧ a2.map (·.1) = b2.map (·.1)))) s) : wpAny (model prog w) A (compareOp .NotEq (.ref a) (.ref b)) Q E s :=
  ne_dataH_same (reads_pair h1 e1 e2) (reads_pair h2 e3 e4) (dP_shaped o1 o2) (dP_shaped o3 o4) hu (dP_mix _ _ _ _) (by rw [dP_same]; exact h)
end

end
section
open LCg LCt
section
variable {prog : Program} {w : World} {A : Around} {E : Value → Shared → Prop} {R : Result → Shared → Prop} {s : Shared}
theorem turn2_0 (elt iter : PySem.Expr) (x y : Str) (px py p2 : Pos) (scope : Scope) (pos : Pos) (it acc : Value) (env : Env) :
    compTurn (.ListComp elt [⟨.Name x px, iter, [], 0⟩, ⟨.Name y py, .Name x p2, [], 0⟩] scope pos) 0 it acc env = (standAt iter.pos >>= fun _ => pyNext it >>= fun r => match r with
      | none => pure (.done .next)
      | some v => letOwnedTupleGo (.Name x px) it v >>= fun _ => assign (.Name x px) env v >>= fun _ =>
        eval (.Name x p2) env >>= fun z => standAt p2 >>= fun _ => foldedSetIterable (.Name x p2) env z >>= fun z' => holding [z'] (pyIter z') >>= fun it' =>
          runOwn (.compStart (.ListComp elt [⟨.Name x px, iter, [], 0⟩, ⟨.Name y py, .Name x p2, [], 0⟩] scope pos) 1 it' acc env) env >>= fun _ =>
          again (.compLoop (.ListComp elt [⟨.Name x px, iter, [], 0⟩, ⟨.Name y py, .Name x p2, [], 0⟩] scope pos) 0 it acc env)) := by rfl
theorem turn2_1 (elt iter : PySem.Expr) (x y : Str) (px py p2 : Pos) (scope : Scope) (pos : Pos) (it acc : Value) (env : Env) :
    compTurn (.ListComp elt [⟨.Name x px, iter, [], 0⟩, ⟨.Name y py, .Name x p2, [], 0⟩] scope pos) 1 it acc env = (standAt p2 >>= fun _ => pyNext it >>= fun r => match r with
      | none => pure (.done .next)
      | some v => letOwnedTupleGo (.Name y py) it v >>= fun _ => assign (.Name y py) env v >>= fun _ =>
        (eval elt env >>= fun x => call (.builtin "list.append") [acc, x] >>= fun _ => pure ()) >>= fun _ =>
          again (.compLoop (.ListComp elt [⟨.Name x px, iter, [], 0⟩, ⟨.Name y py, .Name x p2, [], 0⟩] scope pos) 1 it acc env)) := by rfl
theorem loop2_1 {elt iter : PySem.Expr} {x y : Str} {px py p2 : Pos} {scope : Scope} {pos : Pos} {it acc : Value} {env : Env} (I : Nat → Shared → Prop)
    (turn : ∀ n s, I n s → wpAny (model prog w) A (pyNext it) (fun r s₁ => match r with
      | none => R (.ok .next) s₁
      | some v => wpAny (model prog w) A (assign (.Name y py) env v) (fun _ s₂ => wpAny (model prog w) A (eval elt env) (fun x s₃ =>
          wpAny (model prog w) A (call (.builtin "list.append") [acc, x]) (fun _ s₄ => ∃ m, m < n ∧ I m s₄) (notedBy (model prog w) A env fun e s' => R (.error e) s') s₃)
          (notedBy (model prog w) A env fun e s' => R (.error e) s') s₂) (notedBy (model prog w) A env fun e s' => R (.error e) s') s₁) (notedBy (model prog w) A env fun e s' => R (.error e) s') s)
    (n : Nat) (h : I n s) :
    codeAny (model prog w) A (.compLoop (.ListComp elt [⟨.Name x px, iter, [], 0⟩, ⟨.Name y py, .Name x p2, [], 0⟩] scope pos) 1 it acc env) R s := by
  refine codeAny_loop rfl I (fun n s hI => ?_) n h
  show wpAny _ _ ((compTurn (.ListComp elt [⟨.Name x px, iter, [], 0⟩, ⟨.Name y py, .Name x p2, [], 0⟩] scope pos) 1 it acc env).onRaise (fun x => do noteFrame x env; theTreesLotGoes x)) _ _ s
  refine wpAny_noted ?_
  rw [turn2_1]
  refine wpAny_bind (wpAny_standAt (wpAny_bind (wpAny_mono (turn n s hI) (fun r s₁ h₁ => ?_) fun _ _ h' => h')))
  cases r with
  | none => exact wpAny_pure h₁
  | some v =>
    refine wpAny_bind (wpAny_of_eq (a := ()) rfl ?_)
    exact wpAny_bind (wpAny_mono h₁ (fun _ s₂ h₂ => wpAny_bind (wpAny_bind (wpAny_mono h₂ (fun x s₃ h₃ => wpAny_bind (wpAny_mono h₃
      (fun _ s₄ h₄ => wpAny_pure (wpAny_pure ⟨rfl, h₄⟩)) fun _ _ h' => h')) fun _ _ h' => h'))) fun _ _ h' => h')
theorem start2_1 {elt iter : PySem.Expr} {x y : Str} {px py p2 : Pos} {scope : Scope} {pos : Pos} {it acc : Value} {env : Env}
    (h0 : codeAny (model prog w) A (.compLoop (.ListComp elt [⟨.Name x px, iter, [], 0⟩, ⟨.Name y py, .Name x p2, [], 0⟩] scope pos) 1 it acc env) R s)
    (h : wpAny (model prog w) A (pyIter it) (fun it' s' => codeAny (model prog w) A (.compLoop (.ListComp elt [⟨.Name x px, iter, [], 0⟩, ⟨.Name y py, .Name x p2, [], 0⟩] scope pos) 1 it' acc env) R s')
      (notedBy (model prog w) A env fun x s' => R (.error x) s') s) :
    codeAny (model prog w) A (.compStart (.ListComp elt [⟨.Name x px, iter, [], 0⟩, ⟨.Name y py, .Name x p2, [], 0⟩] scope pos) 1 it acc env) R s := by
  refine codeAny_of_tree ?_
  show wpAny _ _ ((compStart (.ListComp elt [⟨.Name x px, iter, [], 0⟩, ⟨.Name y py, .Name x p2, [], 0⟩] scope pos) 1 it acc env).onRaise (fun x => do noteFrame x env; standAt theWindowsPlace)) _ _ s
  refine wpAny_notedAt ?_
  unfold compStart
  show wpAny _ _ (ask >>= _) _ _ s
  refine wpAny_bind (wpAny_askSetting (wpAny_ite ?_))
  split
  · first
      | exact wpAny_bind (wpAny_pure (wpAny_pure (And.intro rfl h0)))
      | exact wpAny_pure (And.intro rfl h0)
  · first
      | exact wpAny_bind (wpAny_rule (wpAny_bind (wpAny_standAt (wpAny_bind (wpAny_mono h (fun it' s' h' => wpAny_pure (And.intro rfl h')) fun _ _ x => x)))))
      | (refine wpAny_bind (wpAny_rule ?_); show wpAny _ _ (standAt p2 >>= _) _ _ s; exact wpAny_bind (wpAny_standAt (wpAny_bind (wpAny_mono h (fun it' s' h' => wpAny_pure (And.intro rfl h')) fun _ _ x => x))))
theorem loop2_0 {elt iter : PySem.Expr} {x y : Str} {px py p2 : Pos} {scope : Scope} {pos : Pos} {it acc : Value} {env : Env} (I : Nat → Shared → Prop)
    (turn : ∀ (Eo Ei : Value → Shared → Prop) n s, I n s → wpAny (model prog w) A (pyNext it) (fun r s₁ => match r with
      | none => R (.ok .next) s₁
      | some v => wpAny (model prog w) A (assign (.Name x px) env v) (fun _ s₂ => wpAny (model prog w) A (eval (.Name x p2) env) (fun z s₃ => wpAny (model prog w) A (pyIter z) (fun it' s₄ =>
          codeAny (model prog w) (A.mark none) (.compStart (.ListComp elt [⟨.Name x px, iter, [], 0⟩, ⟨.Name y py, .Name x p2, [], 0⟩] scope pos) 1 it' acc env) (fun r s' => match r with | .ok _ => ∃ m, m < n ∧ I m s' | .error e => Ei e s') s₄) Eo s₃) Eo s₂) Eo s₁) Eo s)
    (n : Nat) (h : I n s) :
    codeAny (model prog w) A (.compLoop (.ListComp elt [⟨.Name x px, iter, [], 0⟩, ⟨.Name y py, .Name x p2, [], 0⟩] scope pos) 0 it acc env) R s := by
  refine codeAny_loop rfl I (fun n s hI => ?_) n h
  show wpAny _ _ ((compTurn (.ListComp elt [⟨.Name x px, iter, [], 0⟩, ⟨.Name y py, .Name x p2, [], 0⟩] scope pos) 0 it acc env).onRaise (fun x => do noteFrame x env; theTreesLotGoes x)) _ _ s
  refine wpAny_noted ?_
  rw [turn2_0]
  generalize hE : notedBy _ _ _ _ = E1
  refine wpAny_bind (wpAny_standAt (wpAny_bind (wpAny_mono (turn E1 (cameBackBy (model prog w) A env E1) n s hI) (fun r s₁ h₁ => ?_) fun _ _ h' => h')))
  cases r with
  | none => exact wpAny_pure h₁
  | some v =>
    refine wpAny_bind (wpAny_of_eq (a := ()) rfl ?_)
    refine wpAny_bind (wpAny_mono h₁ (fun _ s₂ h₂ => wpAny_bind (wpAny_mono h₂ (fun z s₃ h₃ => ?_) fun _ _ h' => h')) fun _ _ h' => h')
    refine wpAny_bind (wpAny_standAt (wpAny_bind (wpAny_of_eq (a := z) rfl (wpAny_bind (wpAny_holding (wpAny_mono h₃ (fun it' s₄ h₄ => ?_) fun _ _ h' => h'))))))
    refine wpAny_bind (wpAny_runOwn (codeAny_mono h₄ fun r s' hr => ?_))
    cases r with
    | ok f => exact wpAny_pure ⟨rfl, hr⟩
    | error e => exact hr
end
section
variable {prog : Program} {w : World} {A : Around} {E : Value → Shared → Prop} {s : Shared} {h₀ : Heap} {L : Addr} {m : Str → Option Value} {env : Env}
structure Inv2 (h₀ : Heap) (L : Addr) (m : Str → Option Value) (I C D rd : Addr) (news : List (Addr × Obj)) (i : Nat) (ys : List Value) (h : Heap) : Prop where
  it : h.IsListIter I rd i
  fr : Fr h₀ L h m
  ns : ∃ m', h.Ns C m'
  nw : News h₀ L h ((D, LCg.lst ys) :: news)
theorem Inv2.but {I C D rd X : Addr} {news : List (Addr × Obj)} {i : Nat} {ys : List Value} {h h' : Heap} (V : Inv2 h₀ L m I C D rd news i ys h) (hk : ∀ b o, b ≠ X → h.get? b = some o → h'.get? b = some o)
    (nI : I ≠ X) (nC : C ≠ X) (nD : D ≠ X) (nL : L ≠ X) (n0 : h₀.get? X = none) (off : ∀ p ∈ news, p.1 ≠ X) : Inv2 h₀ L m I C D rd news i ys h' :=
  ⟨V.it.at fun o => hk I o nI, fr_but V.fr (fun b o hb => hk b o (by simpa using hb)) nL n0, V.ns.imp fun m' hn => hn.at' fun o => hk C o nC,
   news_but V.nw (fun b o hb => hk b o (by simpa using hb)) fun p hp => by
    rcases List.mem_cons.mp hp with rfl | hp
    · exact nD
    · exact off p hp⟩
theorem lsV_at {rs : List (Nat × List (Str × Tok) × Nat)} {i : Nat} (hi : i < rs.length) {v : Value} (h : (lsV rs).toArray[i]? = some v) : v = .ref (rs[i]).1 := by
  simp [lsV, hi] at h
  exact h.symm
theorem Off1.of {D : Addr} : ∀ {l : List (Addr × Obj)}, (∀ p ∈ l, p.1 ≠ D) → Off1 D l
  | [], _ => trivial
  | _ :: _, h => ⟨h _ (.head _), Off1.of fun p hp => h p (.tail _ hp)⟩
theorem block_2 {iter : PySem.Expr} {x y : Str} {px py p2 pe : Pos} {scope : Scope} {cl : List (Str × Addr)} {pos : Pos} {s₂ : Shared} {I rd : Addr} {k : Nat} {rs : List (Nat × List (Str × Tok) × Nat)} {news : List (Addr × Obj)} {RR : Value → Addr → Result → Shared → Prop}
    (hh : A.handled = none) (hh' : (A.mark none).handled = none) (hcell : ∀ y ∈ scope.names, y.2 ≠ .cell) (hkind : scope.kind = .function) (hx : scope.names.lookup x = some .local) (hy : scope.names.lookup y = some .local)
    (hdx : (x == ("__debug__" : Str)) = false) (hdy : (y == ("__debug__" : Str)) = false)
    (hit : s₂.heap.IsListIter I rd 0) (hne : rd ≠ I) (F : Fr h₀ L s₂.heap m) (N : News h₀ L s₂.heap news) (hIL : L ≠ I) (hI₀ : h₀.get? I = none) (off : ∀ p ∈ news, p.1 ≠ I)
    (hrd : (rd, W.listOf (lsV rs).toArray k) ∈ news) (hls : ∀ p ∈ lsLed rs, p ∈ news) (hsz : (rs.flatMap (·.2.1)).length ≤ sizeLine)
    (hRR : ∀ D C h tk m', Fr h₀ L h m → News h₀ L h ((D, LCg.lst (strValues (rs.flatMap (·.2.1)))) :: news) → Off1 D news → h.Ns C m' → h₀.get? C = none → h₀.get? D = none → C ≠ L → D ≠ L → C ≠ D → (∀ p ∈ news, p.1 ≠ C) → RR (.ref D) C (.ok .next) { s₂ with heap := h, toks := tk }) :
    wpAny (model prog w) A (newList []) (fun acc s₃ => wpAny (model prog w) A (newFunctionEnv scope env.globals cl [] env.qual none .none (some env)) (fun cenv s₄ =>
      codeAny (model prog w) A (.compStart (.ListComp (.Name y pe) [⟨.Name x px, iter, [], 0⟩, ⟨.Name y py, .Name x p2, [], 0⟩] scope pos) 0 (.ref I) acc { cenv with scope := relabel scope env }) (RR acc cenv.locals) s₄) E s₃) E s₂ := by
  refine wpAny_newObj_type (wpAny_newFunctionEnv hcell (by intro y hy; simp at hy) (fun h₁ hns₁ hsb₁ => ?_) hkind)
  dsimp only at hns₁ hsb₁ ⊢
  generalize hH2 : s₂.heap.push { cls := .type "list", dict := none, data := .seq ([] : List Value).toArray } = H2 at hns₁ hsb₁ ⊢
  have hCz : H2.objs.size = s₂.heap.objs.size + 1 := by rw [← hH2, Heap.size_push]
  have hDx : h₁.get? s₂.heap.objs.size = some (LCg.lst []) := hsb₁.extBut _ _ (by rw [hCz]; exact Nat.ne_of_lt (Nat.lt_succ_self _)) (Heap.get?_push_of_some _ (hH2 ▸ Heap.get?_push_size _ rfl))
  have old : ∀ b o, s₂.heap.get? b = some o → h₁.get? b = some o := fun b o e => hsb₁.extBut b o (by have := Heap.lt_size e; rw [hCz]; exact Nat.ne_of_lt (Nat.lt_succ_of_lt this)) (Heap.get?_push_of_some _ (hH2 ▸ Heap.get?_push_of_some _ e))
  have fresh₀ : ∀ a, s₂.heap.objs.size ≤ a → h₀.get? a = none := fun a ha => by
    cases e : h₀.get? a with
    | none => rfl
    | some o' => exact absurd (Heap.lt_size (F.keep a o' e)) (Nat.not_lt.mpr ha)
  have hD₀ : h₀.get? s₂.heap.objs.size = none := fresh₀ _ (Nat.le_refl _)
  have hC₀ : h₀.get? H2.objs.size = none := fresh₀ _ (by rw [hCz]; exact Nat.le_succ _)
  have below : ∀ b o, s₂.heap.get? b = some o → b ≠ s₂.heap.objs.size ∧ b ≠ H2.objs.size := fun b o e => by
    have := Heap.lt_size e
    exact ⟨Nat.ne_of_lt this, by rw [hCz]; exact Nat.ne_of_lt (Nat.lt_succ_of_lt this)⟩
  have hDC : s₂.heap.objs.size ≠ H2.objs.size := by rw [hCz]; exact Nat.ne_of_lt (Nat.lt_succ_self _)
  have hLb : L ≠ s₂.heap.objs.size ∧ L ≠ H2.objs.size := by
    obtain ⟨o, _, _, e, _⟩ := F.ns
    exact below _ _ e
  have hIb : I ≠ s₂.heap.objs.size ∧ I ≠ H2.objs.size := by
    obtain ⟨o, e, _⟩ := hit
    exact below _ _ e
  have offD : ∀ p ∈ news, p.1 ≠ s₂.heap.objs.size := fun p hp => (below _ _ (N p hp).1).1
  have offC : ∀ p ∈ news, p.1 ≠ H2.objs.size := fun p hp => (below _ _ (N p hp).1).2
  generalize hCe : H2.objs.size = C at *
  generalize hDe : s₂.heap.objs.size = D at *
  have V0 : Inv2 h₀ L m I C D rd news 0 [] h₁ := ⟨hit.at fun o => old I o, F.keeps old, ⟨_, hns₁⟩, fun p hp => by
    rcases List.mem_cons.mp hp with rfl | hp
    · exact ⟨hDx, Ne.symm hLb.1, hD₀⟩
    · exact ⟨old _ _ (N p hp).1, (N p hp).2⟩⟩
  have loop : ∀ s₃ : Shared, s₃ = { s₂ with heap := h₁, toks := s₂.toks + ([] : List (Str × Value)).length } →
      codeAny (model prog w) A (.compLoop (.ListComp (.Name y pe) [⟨.Name x px, iter, [], 0⟩, ⟨.Name y py, .Name x p2, [], 0⟩] scope pos) 0 (.ref I) (.ref D) (compEnvC scope cl C env)) (RR (.ref D) C) s₃ := by
    rintro s₃ rfl
    refine loop2_0 (fun k s' => ∃ h' tk i, s' = { s₂ with heap := h', toks := tk } ∧ i ≤ rs.length ∧ k = rs.length + 1 - i ∧ Inv2 h₀ L m I C D rd news i (strValues ((rs.take i).flatMap (·.2.1))) h') ?_ (rs.length + 1)
      ⟨h₁, _, 0, rfl, Nat.zero_le _, rfl, V0⟩
    rintro Eo Ei k' s' ⟨h', tk, i, rfl, hi, rfl, V⟩
    have hlen : (lsV rs).toArray.size = rs.length := by simp [lsV]
    have hl' : h'.IsList rd (lsV rs).toArray := ⟨_, (V.nw _ (.tail _ hrd)).1, rfl, _, rfl⟩
    by_cases hlt : i < rs.length
    · refine (Walks.list hh I rd hne _).item i { s₂ with heap := h', toks := tk } _ _ (by rw [hlen]; exact hlt) ⟨V.it, hl'⟩ fun v h₂ tk₂ hPv hst₂ hk₂ => ?_
      obtain rfl := lsV_at hlt hPv
      have hk : ∀ b o, b ≠ I → h'.get? b = some o → h₂.get? b = some o := fun b o hb => hk₂ b o (by simpa using hb)
      obtain ⟨m', hn⟩ := V.ns
      have F₂ : Fr h₀ L h₂ m := fr_but V.fr hk₂ hIL hI₀
      have N₂ : News h₀ L h₂ ((D, LCg.lst (strValues ((rs.take i).flatMap (·.2.1)))) :: news) := news_but V.nw hk₂ fun p hp => by
        rcases List.mem_cons.mp hp with rfl | hp
        · exact Ne.symm hIb.1
        · exact off p hp
      refine wpAny_assign_Name (wpAny_storeName_local (lookup_relabel_local hx) (hn.at' fun o => hk C o (Ne.symm hIb.2)) (fun h₃ hn₃ hs₃ => ?_) (by simp [compEnvC, relabel, hkind]))
      have hk3 : ∀ b o, b ≠ C → h₂.get? b = some o → h₃.get? b = some o := fun b o hb e => hs₃.extBut b o hb e
      have V₃ : Inv2 h₀ L m I C D rd news (i + 1) (strValues ((rs.take i).flatMap (·.2.1))) h₃ := ⟨hst₂.1.at fun o => hk3 I o hIb.2, F₂.change hs₃ (Ne.symm hLb.2) hC₀, ⟨_, hn₃⟩, news_but N₂ (fun b o hb => hk3 b o (by simpa using hb)) fun p hp => by
        rcases List.mem_cons.mp hp with rfl | hp
        · exact hDC
        · exact offC p hp⟩
      have hmem : ((rs[i]).1, W.listOf (strValues (rs[i]).2.1).toArray (rs[i]).2.2) ∈ news := hls _ (List.mem_map.mpr ⟨rs[i], List.getElem_mem _, rfl⟩)
      have htake : (rs.take (i + 1)).flatMap (·.2.1) = (rs.take i).flatMap (·.2.1) ++ (rs[i]).2.1 := by
        rw [List.take_succ_eq_append_getElem hlt, List.flatMap_append]; simp
      have hle : ∀ j, j ≤ (rs[i]).2.1.length → ((rs.take i).flatMap (·.2.1) ++ (rs[i]).2.1.take j).length ≤ sizeLine := fun j hj => by
        have h1 := congrArg (fun l => (l.flatMap (·.2.1)).length) (List.take_append_drop (i + 1) rs)
        rw [List.flatMap_append, htake, List.length_append, List.length_append] at h1
        rw [List.length_append, List.length_take]
        have : min j (rs[i]).2.1.length ≤ (rs[i]).2.1.length := Nat.min_le_right _ _
        simp only at h1
        omega
      refine ldVarK (v := .ref (rs[i]).1) hn₃ (if_pos rfl) ?_ hkind (lookup_relabel_local hx) hdx
      have hax : h₃.IsList (rs[i]).1 (strValues (rs[i]).2.1).toArray := ⟨_, (V₃.nw _ (.tail _ hmem)).1, rfl, _, rfl⟩
      refine wpAny_pyIter_list hax ?_
      have nI : I ≠ h₃.objs.size := by obtain ⟨o, e, _⟩ := V₃.it; exact Nat.ne_of_lt (Heap.lt_size e)
      have nC : C ≠ h₃.objs.size := by obtain ⟨o, _, _, e, _⟩ := hn₃; exact Nat.ne_of_lt (Heap.lt_size e)
      have nD : D ≠ h₃.objs.size := Nat.ne_of_lt (Heap.lt_size (V₃.nw _ (.head _)).1)
      have nL : L ≠ h₃.objs.size := Nat.ne_of_lt V₃.fr.ns.lt
      have n0 : h₀.get? h₃.objs.size = none := next_is_new V₃.fr
      have offJ : ∀ p ∈ news, p.1 ≠ h₃.objs.size := fun p hp => Nat.ne_of_lt (Heap.lt_size (V₃.nw _ (.tail _ hp)).1)
      have naJ : (rs[i]).1 ≠ h₃.objs.size := offJ _ hmem
      have naC := offC _ hmem
      have naD := offD _ hmem
      have hJ4 : (h₃.push { cls := .type "list_iterator", data := .fields #[.ref (rs[i]).1, .int 0 0] }).IsListIter h₃.objs.size (rs[i]).1 0 := ⟨_, Heap.get?_push_size _ rfl, rfl, rfl⟩
      have V4 : Inv2 h₀ L m I C D rd news (i + 1) (strValues ((rs.take i).flatMap (·.2.1))) (h₃.push { cls := .type "list_iterator", data := .fields #[.ref (rs[i]).1, .int 0 0] }) := V₃.but (X := h₃.objs.size) (fun b o _ e => Heap.get?_push_of_some _ e) nI nC nD nL n0 offJ
      generalize h₃.push _ = h₄ at hJ4 V4 ⊢
      generalize h₃.objs.size = J at nI nC nD nL n0 offJ naJ hJ4 V4 ⊢
      generalize hpre : (rs.take i).flatMap (·.2.1) = pre at htake hle V4
      generalize hae : rs[i] = e at htake hle hmem naJ naC naD hJ4 V4 hax ⊢
      obtain ⟨ax, a, ka⟩ := e
      dsimp only at htake hle hmem naJ naC naD hJ4 V4 hax ⊢
      have loop1 : ∀ s₄ : Shared, (∃ tk, s₄ = { s₂ with heap := h₄, toks := tk }) →
          codeAny (model prog w) (A.mark none) (.compLoop (.ListComp (.Name y pe) [⟨.Name x px, iter, [], 0⟩, ⟨.Name y py, .Name x p2, [], 0⟩] scope pos) 1 (.ref J) (.ref D) (compEnvC scope cl C env))
            (fun r s' => match r with
              | .ok _ => ∃ m_1, m_1 < rs.length + 1 - i ∧ ∃ h' tk i, s' = { s₂ with heap := h', toks := tk } ∧ i ≤ rs.length ∧ m_1 = rs.length + 1 - i ∧ Inv2 h₀ L m I C D rd news i (strValues ((rs.take i).flatMap (·.2.1))) h'
              | .error e => Ei e s') s₄ := by
        rintro s₄ ⟨tk₄, rfl⟩
        refine loop2_1 (fun k s' => ∃ h' tk j, s' = { s₂ with heap := h', toks := tk } ∧ j ≤ a.length ∧ k = a.length + 1 - j ∧ h'.IsListIter J ax j ∧ Inv2 h₀ L m I C D rd news (i + 1) (strValues (pre ++ a.take j)) h') ?_ (a.length + 1)
          ⟨h₄, _, 0, rfl, Nat.zero_le _, rfl, hJ4, by simpa using V4⟩
        rintro k' s' ⟨h₅, tk₅, j, rfl, hj, rfl, hJ₅, V₅⟩
        have hl5 : h₅.IsList ax (strValues a).toArray := ⟨_, (V₅.nw _ (.tail _ hmem)).1, rfl, _, rfl⟩
        have hla : (strValues a).toArray.size = a.length := by simp [strValues]
        by_cases hjl : j < a.length
        · refine (Walks.list hh' J ax naJ _).item j { s₂ with heap := h₅, toks := tk₅ } _ _ (by rw [hla]; exact hjl) ⟨hJ₅, hl5⟩ fun v h₆ tk₆ hPv hst₆ hk₆ => ?_
          obtain rfl : v = .str (a[j]).1 (a[j]).2 := by
            simp [strValues, hjl] at hPv
            exact hPv.symm
          have V₆ := V₅.but (X := J) (fun b o hb => hk₆ b o (by simpa using hb)) nI nC nD nL n0 offJ
          obtain ⟨m₆, hn₆⟩ := V₆.ns
          refine wpAny_assign_Name (wpAny_storeName_local (lookup_relabel_local hy) hn₆ (fun h₇ hn₇ hs₇ => ?_) (by simp [compEnvC, relabel, hkind]))
          refine ldVarK (v := .str (a[j]).1 (a[j]).2) hn₇ (if_pos rfl) ?_ hkind (lookup_relabel_local hy) hdy
          have hk7 : ∀ b o, b ≠ C → h₆.get? b = some o → h₇.get? b = some o := fun b o hb e => hs₇.extBut b o hb e
          refine append_at (hsz := by rw [List.size_toArray]; simpa [strValues] using hle j hj) (hk7 _ _ hDC (V₆.nw _ (.head _)).1) fun h₈ hs₈ hD₈ => ?_
          have hk8 : ∀ b o, b ≠ D → h₇.get? b = some o → h₈.get? b = some o := fun b o hb e => hs₈.extBut b o hb e
          refine ⟨a.length + 1 - (j + 1), by omega, h₈, _, j + 1, rfl, hjl, rfl, (hst₆.1.at fun o => hk7 J o (Ne.symm nC)).at fun o => hk8 J o (Ne.symm nD), (V₆.it.at fun o => hk7 I o hIb.2).at fun o => hk8 I o hIb.1,
            (V₆.fr.change hs₇ (Ne.symm hLb.2) hC₀).change hs₈ (Ne.symm hLb.1) hD₀, ⟨_, hn₇.sameBut hs₈ (Ne.symm hDC)⟩, fun p hp => ?_⟩
          rcases List.mem_cons.mp hp with rfl | hp
          · refine ⟨hD₈.trans (congrArg some ((lst_snoc _ _).trans (congrArg LCg.lst ?_))), Ne.symm hLb.1, hD₀⟩
            rw [List.take_succ_eq_append_getElem hjl, ← List.append_assoc]
            exact (List.map_append (l₁ := pre ++ a.take j) (l₂ := [a[j]])).symm
          · exact ⟨hk8 _ _ (offD p hp) (hk7 _ _ (offC p hp) (V₆.nw _ (.tail _ hp)).1), (V₆.nw _ (.tail _ hp)).2⟩
        · obtain rfl : j = a.length := Nat.le_antisymm hj (Nat.not_lt.mp hjl)
          refine (Walks.list hh' J ax naJ _).done { s₂ with heap := h₅, toks := tk₅ } _ _ ⟨hla ▸ hJ₅, hl5⟩ fun h₆ tk₆ hk₆ => ?_
          have V₆ := V₅.but (X := J) (fun b o hb => hk₆ b o (by simpa using hb)) nI nC nD nL n0 offJ
          rw [List.take_length] at V₆
          exact ⟨rs.length + 1 - (i + 1), by omega, h₆, tk₆, i + 1, rfl, hlt, rfl, by rw [htake]; exact V₆⟩
      exact start2_1 (loop1 _ ⟨_, rfl⟩) (wpAny_pyIter_listiter hJ4 (loop1 _ ⟨_, rfl⟩))
    · obtain rfl : i = rs.length := Nat.le_antisymm hi (Nat.not_lt.mp hlt)
      refine (Walks.list hh I rd hne _).done { s₂ with heap := h', toks := tk } _ _ ⟨hlen ▸ V.it, hl'⟩ fun h₂ tk₂ hk₂ => ?_
      have hk : ∀ b o, b ≠ I → h'.get? b = some o → h₂.get? b = some o := fun b o hb => hk₂ b o (by simpa using hb)
      obtain ⟨m', hn⟩ := V.ns
      have N₂ : News h₀ L h₂ ((D, LCg.lst (strValues (rs.flatMap (·.2.1)))) :: news) := by
        have := V.nw
        rw [List.take_length] at this
        exact news_but this hk₂ fun p hp => by
          rcases List.mem_cons.mp hp with rfl | hp
          · exact Ne.symm hIb.1
          · exact off p hp
      exact hRR D C h₂ tk₂ m' (fr_but V.fr hk₂ hIL hI₀) N₂ (Off1.of offD) (hn.at' fun o => hk C o (Ne.symm hIb.2)) hC₀ hD₀ (Ne.symm hLb.2) (Ne.symm hLb.1) (Ne.symm hDC) offC
  exact codeAny_compStart_list (loop _ rfl) (wpAny_pyIter_listiter V0.it (loop _ rfl))
noncomputable def CSrc2 (A : Around) (h₀ : Heap) (L : Addr) (m : Str → Option Value) (z : Str) (Q : Flow → Shared → Prop) (xv : Value) (s₁ : Shared) : Prop :=
  ∃ rd k rs news, xv = .ref rd ∧ Fr h₀ L s₁.heap m ∧ News h₀ L s₁.heap news ∧ (rd, W.listOf (lsV rs).toArray k) ∈ news ∧ (∀ p ∈ lsLed rs, p ∈ news) ∧ (rs.flatMap (·.2.1)).length ≤ sizeLine ∧
    ∀ D h tk, Fr h₀ L h (fun y => if y = z then some (.ref D) else m y) → News h₀ L h ((D, W.listOf (strValues (rs.flatMap (·.2.1))).toArray (strValues (rs.flatMap (·.2.1))).length) :: news) → Off1 D news → Q .next { s₁ with heap := h, toks := tk }
theorem comp_A2 {iter : PySem.Expr} {x y z : Str} {px py p2 pe pz : Pos} {scope : Scope} {cl : List (Str × Addr)} {pos spos : Pos} {Q : Flow → Shared → Prop} (F₀ : Fr h₀ L s.heap m) (hLe : env.locals = L)
    (hsw : swapsWith (.ListComp (.Name y pe) [⟨.Name x px, iter, [], 0⟩, ⟨.Name y py, .Name x p2, [], 0⟩] scope pos) (some (.Name z pz)) spos.line env = pure true)
    (hh : A.handled = none) (hh' : (A.mark none).handled = none)
    (hclos : closureFor scope env = pure cl) (hcell : ∀ z ∈ scope.names, z.2 ≠ .cell) (hkind : scope.kind = .function)
    (hnames : ∀ z ∈ scope.names, z.2 = .local → scope.names.lookup z.1 = some .local) (hx : scope.names.lookup x = some .local) (hy : scope.names.lookup y = some .local)
    (hdx : (x == ("__debug__" : Str)) = false) (hdy : (y == ("__debug__" : Str)) = false)
    (hz : env.kindOf z = some .local) (hp : (env.scope.kind == .class || (env.scope.kind == .module && env.locals != env.globals)) = false)
    (h : wpAny (model prog w) A (eval iter env) (CSrc2 A h₀ L m z Q) E s)
    (hs : ∀ x, foldedSetIterable iter env x = pure x := by intro _; rfl) :
    wpAny (model prog w) A (exec (.Assign [.Name z pz] (.ListComp (.Name y pe) [⟨.Name x px, iter, [], 0⟩, ⟨.Name y py, .Name x p2, [], 0⟩] scope pos) spos) env) Q E s := by
  subst hLe
  rw [exec_Assign_Name_used _ _ _ _ hsw]
  refine wpAny_bind (wpAny_standAt (wpAny_bind ?_))
  show wpAny _ A (do let _ ← comprehension (.ListComp (.Name y pe) [⟨.Name x px, iter, [], 0⟩, ⟨.Name y py, .Name x p2, [], 0⟩] scope pos) scope env _ (newList []) false (eval iter env) (some (assign (.Name z pz) env))) _ _ s
  refine wpAny_bind (wpAny_mono (wpAny_comprehension_free (use := some (assign (.Name z pz) env)) (Q := fun _ s' => Q .next s') rfl hs hclos hkind hnames
    (wpAny_mono h (fun xv s₁ h₁ => ?_) fun _ _ e => e)) (fun _ s' hq => wpAny_pure (wpAny_pure hq)) fun _ _ e => e)
  obtain ⟨rd, k, rs, news, rfl, F, N, hrd, hls, hsz, R⟩ := h₁
  have hl : s₁.heap.IsList rd (lsV rs).toArray := ⟨_, (N _ hrd).1, rfl, _, rfl⟩
  have hlt : rd < s₁.heap.objs.size := Heap.lt_size (N _ hrd).1
  refine wpAny_pyIter_list hl ?_
  have up : ∀ b o, s₁.heap.get? b = some o → (s₁.heap.push { cls := .type "list_iterator", data := .fields #[.ref rd, .int 0 0] }).get? b = some o := fun b o e => Heap.get?_push_of_some _ e
  refine block_2 hh hh' hcell hkind hx hy hdx hdy ⟨_, Heap.get?_push_size _ rfl, rfl, rfl⟩ (Nat.ne_of_lt hlt) (F.keeps up) (N.grown up) (Nat.ne_of_lt F.ns.lt) (next_is_new F) (fun p hp => Nat.ne_of_lt (Heap.lt_size (N p hp).1)) hrd hls hsz ?_
  intro D C h' tk m' F' N' o1 hn hC₀ hD₀ hCL hDL hCD offC
  show wpAny _ A (assign (.Name z pz) env (.ref D)) _ _ _
  refine wpAny_assign_Name (wpAny_storeName_local hz F'.ns (fun h₂ hn₂ hs₂ => ?_) hp)
  have hL₀ : h₀.get? env.locals = none := Heap.get?_none_of_le F'.above
  have F₂ : Fr h₀ env.locals h₂ (fun y => if y = z then some (.ref D) else m y) := ⟨hn₂, fun b o e => hs₂.extBut b o (fun q => by rw [q, hL₀] at e; cases e) (F'.keep b o e), F'.above⟩
  refine ⟨m', hn.sameBut hs₂ hCL, fun h'' hs'' => R D h'' _ (F₂.change hs'' hCL hC₀) (fun p hp => ?_) o1⟩
  have e : h₂.get? p.1 = some p.2 := hs₂.extBut _ _ (N' p hp).2.1 (N' p hp).1
  refine ⟨hs''.extBut _ _ ?_ e, (N' p hp).2⟩
  rcases List.mem_cons.mp hp with rfl | hp
  · exact Ne.symm hCD
  · exact offC p hp
end

end
example : True := by w_top off; trivial
noncomputable def modeOf (T : List Node) (p : List Nat) : Int := ((T.find? fun n => decide (n.1 = p)).map (·.2)).getD 0
noncomputable def shut (m : Int) : Bool := decide (bitAnd m 64 = 0)
noncomputable def firstM (m : Int) : Int := if bitAnd m 61440 = 16384 then 16832 else 33152
theorem first_pos {m : Int} (h : bitAnd m 61440 = 16384) : firstM m = 16384 + 448 := by unfold firstM; rw [if_pos h]; rfl
theorem first_neg {m : Int} (h : bitAnd m 61440 ≠ 16384) : firstM m = 32768 + 384 := by unfold firstM; rw [if_neg h]; rfl
noncomputable def stepS (T : List Node) (st : (List Nat → Int) × List (List Nat)) (q : List Nat) : (List Nat → Int) × List (List Nat) :=
  if (aboveN q).filter (fun a => shut (st.1 a)) = [] then (fun p => if p = q then modeOf T q else st.1 p, st.2 ++ [q]) else st
noncomputable def setN (T : List Node) (os : List (List Nat)) : (List Nat → Int) × List (List Nat) := os.foldl (stepS T) (fun p => firstM (modeOf T p), [])
theorem setN_snoc {T : List Node} {os : List (List Nat)} {q : List Nat} : setN T (os ++ [q]) = stepS T (setN T os) q := by unfold setN; rw [List.foldl_append]; rfl
theorem mode_of {T : List Node} (hn : (T.map (·.1)).Nodup) {n : Node} (h : n ∈ T) : modeOf T n.1 = n.2 := by
  unfold modeOf
  induction T with
  | nil => exact nomatch h
  | cons a T ih =>
    rw [List.map_cons, List.nodup_cons] at hn
    rw [List.find?_cons]
    rcases List.mem_cons.mp h with e | h
    · subst e; simp
    · have hne : ¬ a.1 = n.1 := fun e => hn.1 (by rw [e]; exact List.mem_map.mpr ⟨n, h, rfl⟩)
      simp only [hne, decide_false]
      exact ih hn.2 h
noncomputable def DictIs (w : World) (T : List TNode) (md : List Nat → Int) (o : Obj) : Prop := ∃ TM : List TNode, Obj.IsDictOf (PySem.strKind prg w) o (kvsOf TM) ∧ TM.map (·.1) = T.map fun n => (n.1.1, md n.1.1)
theorem paths_eq {T TM : List TNode} {md : List Nat → Int} (h : TM.map (·.1) = T.map fun n => (n.1.1, md n.1.1)) : TM.map (·.1.1) = T.map (·.1.1) := by
  have := congrArg (List.map Prod.fst) h
  rw [List.map_map, List.map_map] at this
  exact this
theorem value_nd {T : List TNode} (hnd : (T.map (·.1.1)).Nodup) {n : TNode} (hn : n ∈ T) : valueAt (kvsOf T) (pathS n.1.1) = some (.int n.1.2 n.2) := by
  induction T with
  | nil => exact nomatch hn
  | cons a T ih =>
    rw [List.map_cons, List.nodup_cons] at hnd
    unfold valueAt kvsOf
    rw [List.map_cons, List.find?_cons]
    rcases List.mem_cons.mp hn with e | h
    · subst e
      simp
    · have hne : ¬ pathS a.1.1 = pathS n.1.1 := fun e => hnd.1 (by
        rw [pathS_inj e]
        exact List.mem_map.mpr ⟨n, h, rfl⟩)
      have := ih hnd.2 h
      unfold valueAt kvsOf at this
      simp only [hne, decide_false]
      exact this
theorem dict_val {T TM : List TNode} {md : List Nat → Int} (hnd : (T.map (·.1.1)).Nodup) (h : TM.map (·.1) = T.map fun n => (n.1.1, md n.1.1)) {p : List Nat} (hp : p ∈ T.map (·.1.1)) : ∃ t, valueAt (kvsOf TM) (pathS p) = some (.int (md p) t) := by
  obtain ⟨n, hn, rfl⟩ := List.mem_map.mp hp
  have h1 : (n.1.1, md n.1.1) ∈ TM.map (·.1) := by rw [h]; exact List.mem_map.mpr ⟨n, hn, rfl⟩
  obtain ⟨m, hm, e⟩ := List.mem_map.mp h1
  have := value_nd (T := TM) (by rw [paths_eq h]; exact hnd) hm
  rw [e] at this
  exact ⟨_, this⟩
theorem stored_kvs {TM : List TNode} {q : List Nat} {m : Int} {t : Tok} (hq : q ∈ TM.map (·.1.1)) : stored (kvsOf TM) (pathS q) (.int m t) = kvsOf (TM.map fun n => if n.1.1 = q then ((q, m), t) else n) := by
  unfold stored
  rw [if_pos]
  · unfold kvsOf
    rw [List.map_map, List.map_map]
    refine List.map_congr_left fun n _ => ?_
    show (if pathS n.1.1 = pathS q then _ else _) = _
    by_cases e : n.1.1 = q
    · rw [if_pos (by rw [e])]
      show _ = ((fun n : TNode => (pathS n.1.1, Value.int n.1.2 n.2)) (if n.1.1 = q then ((q, m), t) else n))
      rw [if_pos e]
      show (pathS n.1.1, _) = (pathS q, _)
      rw [e]
    · rw [if_neg (fun h => e (pathS_inj h))]
      show _ = ((fun n : TNode => (pathS n.1.1, Value.int n.1.2 n.2)) (if n.1.1 = q then ((q, m), t) else n))
      rw [if_neg e]
  · obtain ⟨n, hn, rfl⟩ := List.mem_map.mp hq
    exact List.any_eq_true.mpr ⟨_, List.mem_map.mpr ⟨n, hn, rfl⟩, by simp⟩
theorem DictIs.put {w : World} {T TM : List TNode} {md : List Nat → Int} {o : Obj} {q : List Nat} {m : Int} {t : Tok} (h : TM.map (·.1) = T.map fun n => (n.1.1, md n.1.1)) (hq : q ∈ T.map (·.1.1)) (hd : Obj.IsDictOf (PySem.strKind prg w) o (stored (kvsOf TM) (pathS q) (.int m t))) :
    DictIs w T (fun p => if p = q then m else md p) o := by
  rw [stored_kvs (by rw [paths_eq h]; exact hq)] at hd
  refine ⟨_, hd, ?_⟩
  have : ∀ (TM T : List TNode), TM.map (·.1) = T.map (fun n => (n.1.1, md n.1.1)) → (TM.map fun n => if n.1.1 = q then ((q, m), t) else n).map (·.1) = T.map fun n => (n.1.1, if n.1.1 = q then m else md n.1.1) := by
    intro TM
    induction TM with
    | nil => intro T h; cases T with
      | nil => rfl
      | cons _ _ => cases h
    | cons a TM ih => intro T h; cases T with
      | nil => cases h
      | cons b T =>
        rw [List.map_cons, List.map_cons, List.cons.injEq] at h
        rw [List.map_cons, List.map_cons, List.map_cons, ih T h.2]
        have e1 : a.1.1 = b.1.1 := by rw [h.1]
        have key : (if a.1.1 = q then ((q, m), t) else a).1 = (b.1.1, if b.1.1 = q then m else md b.1.1) := by
          by_cases e : a.1.1 = q
          · rw [if_pos e, if_pos (e1 ▸ e), ← e1, e]
          · have e2 : ¬ b.1.1 = q := fun h => e (e1.trans h)
            rw [if_neg e, if_neg e2]; exact h.1
        rw [key]
  exact this TM T h
theorem tnodes_nd {T : List TNode} (hT : Tr (T.map (·.1))) : (T.map (·.1.1)).Nodup := by
  have := tr_nodup hT
  rwa [List.map_map] at this
theorem start_snoc {T TM : List TNode} (hT : Tr (T.map (·.1))) {i : Nat} {n : TNode} {t : Tok} (h : TM.map (·.1) = (T.take i).map fun n => (n.1.1, firstM (modeOf (T.map (·.1)) n.1.1))) (hn : T[i]? = some n) :
    stored (kvsOf TM) (pathS n.1.1) (.int (firstM n.1.2) t) = kvsOf (TM ++ [((n.1.1, firstM n.1.2), t)]) ∧ (TM ++ [((n.1.1, firstM n.1.2), t)]).map (·.1) = (T.take (i + 1)).map fun n => (n.1.1, firstM (modeOf (T.map (·.1)) n.1.1)) := by
  constructor
  · unfold stored
    rw [if_neg, kvsOf, kvsOf, List.map_append]; rfl
    intro hh
    obtain ⟨kv, hkv, e⟩ := List.any_eq_true.mp hh
    obtain ⟨m, hm, rfl⟩ := List.mem_map.mp hkv
    have e2 := pathS_inj (of_decide_eq_true e)
    have h1 : m.1.1 ∈ (T.take i).map (·.1.1) := by
      have := congrArg (List.map Prod.fst) h
      rw [List.map_map, List.map_map] at this
      have h2 : m.1.1 ∈ TM.map (Prod.fst ∘ (·.1)) := List.mem_map.mpr ⟨m, hm, rfl⟩
      rw [this] at h2
      exact h2
    rw [e2] at h1
    have hnd := tnodes_nd hT
    rw [← List.take_append_drop (i + 1) T, take_snoc hn, List.append_assoc, List.map_append, List.nodup_append] at hnd
    exact hnd.2.2 _ h1 _ (by simp) rfl
  · have := mode_of (tr_nodup hT) (n := n.1) (List.mem_map.mpr ⟨n, List.mem_of_getElem? hn, rfl⟩)
    rw [List.map_append, h, take_snoc hn, List.map_append]
    simp [this]
theorem above_mem {T : List TNode} (hcl : ∀ r c, r ++ [c] ∈ T.map (·.1.1) → r ∈ T.map (·.1.1)) {q a : List Nat} (hq : q ∈ T.map (·.1.1)) (ha : a ∈ aboveN q) : a ∈ T.map (·.1.1) := by
  unfold aboveN at ha
  obtain ⟨k, hk, rfl⟩ := List.mem_map.mp ha
  refine closed_pre hcl (q.drop k).length (q.drop k) (q.take k) rfl ?_
  rw [List.take_append_drop]; exact hq

theorem step_pos {T : List Node} {st : (List Nat → Int) × List (List Nat)} {q : List Nat} (h : (aboveN q).filter (fun a => shut (st.1 a)) = []) : stepS T st q = (fun p => if p = q then modeOf T q else st.1 p, st.2 ++ [q]) := by unfold stepS; rw [if_pos h]
theorem step_neg {T : List Node} {st : (List Nat → Int) × List (List Nat)} {q : List Nat} (h : (aboveN q).filter (fun a => shut (st.1 a)) ≠ []) : stepS T st q = st := by unfold stepS; rw [if_neg h]
theorem row_snoc {T : List TNode} {f : TNode → Str} {rows : List (Str × Tok)} {i : Nat} {n : TNode} {t : Tok} (h : rows.map (·.1) = (T.take i).map f) (hn : T[i]? = some n) : ∃ rows', strValues rows ++ [.str (f n) t] = strValues rows' ∧ rows'.map (·.1) = (T.take (i + 1)).map f :=
  ⟨rows ++ [(f n, t)], by simp [strValues], by rw [List.map_append, h, take_snoc hn, List.map_append]; rfl⟩
theorem paths_snoc {os : List (List Nat)} {acc : List (Str × Tok)} {q : List Nat} {t : Tok} (h : PathsAre os acc) : PathsAre (os ++ [q]) (acc ++ [(pathS q, t)]) := by unfold PathsAre at h ⊢; rw [List.map_append, List.map_append, h]; rfl
theorem ok_paths {T : List TNode} (hT : Tr (T.map (·.1))) (hTl : T.length ≤ 13) {os : List (List Nat)} {acc : List (Str × Tok)} (hO : PathsAre os acc) (hin : ∀ q ∈ os, q ∈ T.map (·.1.1)) : OkS (acc.map (·.1)) := by
  intro x hx
  rw [hO] at hx
  obtain ⟨q, hq, rfl⟩ := List.mem_map.mp hx
  obtain ⟨n, hn, rfl⟩ := List.mem_map.mp (hin q hq)
  refine strok_path fun c hc => ?_
  have := (tr_mem hT n.1 (List.mem_map.mpr ⟨n, hn, rfl⟩)).2.2 c hc
  rw [List.length_map] at this
  omega
theorem kept_nil {l : List (List Nat)} {acc : List (Str × Tok)} (h : PathsAre l acc) : decide (acc.map (·.1) = ([] : List (Str × Tok)).map (·.1)) = decide (l = []) := by
  rw [h]
  refine decide_eq_decide.mpr ?_
  cases l <;> simp
theorem kvs_len {T TM : List TNode} {md : List Nat → Int} (hTl : T.length ≤ 13) (h : TM.map (·.1) = T.map fun n => (n.1.1, md n.1.1)) : (kvsOf TM).length ≤ 100000 := by
  have := congrArg List.length h
  rw [List.length_map, List.length_map] at this
  unfold kvsOf
  rw [List.length_map]; omega
theorem setN_len {T : List Node} (os : List (List Nat)) : (setN T os).2.length ≤ os.length := by
  have : ∀ (os : List (List Nat)) (st : (List Nat → Int) × List (List Nat)), (os.foldl (stepS T) st).2.length ≤ st.2.length + os.length := by
    intro os
    induction os with
    | nil => intro st; exact Nat.le_refl _
    | cons q os ih =>
      intro st
      have h1 := ih (stepS T st q)
      have h2 : (stepS T st q).2.length ≤ st.2.length + 1 := by
        unfold stepS
        split
        · rw [List.length_append, List.length_singleton]; exact Nat.le_refl _
        · omega
      rw [List.foldl_cons, List.length_cons]; omega
  have h := this os (fun p => firstM (modeOf T p), [])
  rw [List.length_nil, Nat.zero_add] at h
  exact h
theorem set_spec {w : World} {dW dO kO : Nat} {oW : Obj} {T : List TNode} {os : List (List Nat)} {ord : List (Str × Tok)} (hD : Obj.IsDictOf (PySem.strKind prg w) oW (kvsOf T)) (hT : Tr (T.map (·.1))) (hTl : T.length ≤ 13) (loW : (dW == sysModules) = false) (hcl : ∀ r c, r ++ [c] ∈ T.map (·.1.1) → r ∈ T.map (·.1.1))
    (hO : PathsAre os ord) (hol : os.length ≤ 20) (hin : ∀ q ∈ os, q ∈ T.map (·.1.1)) :
    Mut w 336 [.ref dO, .ref dW] 6 [(dO, W.listOf (strValues ord).toArray kO), (dW, oW)] True (fun v led => ∃ (Tp D1 D2 k1 k2 : Nat) (acc rows : List (Str × Tok)), v = .ref Tp ∧ led = [(Tp, { cls := .type "tuple", data := .seq [Value.ref D1, .ref D2].toArray }), (D1, W.listOf (strValues acc).toArray k1), (D2, W.listOf (strValues rows).toArray k2), (dO, W.listOf (strValues ord).toArray kO), (dW, oW)] ∧
      PathsAre (setN (T.map (·.1)) os).2 acc ∧ rows.map (·.1) = T.map fun n => fileF ((setN (T.map (·.1)) os).1 n.1.1)) := by
  refine mut_of fun A Q s0 gs dr tk0 ost g G hg hsz hled R hp ret => ?_
  obtain ⟨hd, dp, fr, gd, un⟩ := A; obtain rfl : hd = none := R.hh
  have G' := G; obtain ⟨X, mean, mg, mb, T'⟩ := G
  have R' := fun env => R.deeper (env := env)
  refine enterMC G' hg hsz hled (R.le (by decide)) (by k_is) (by k_is) (BindsTo.of_eq (binds := [(Str.ofString "order", .ref dO), (Str.ofString "wished", .ref dW)]) rfl) (by rfl) (by decide) rfl rfl rfl ?_
  intro L h₁ tk cells F N C hlt _ _ A1
  k_fold
  obtain ⟨o1, hE, d1⟩ := CellsAre.one C
  subst hE
  clear C
  replace d1 : o1.data = .cell none := d1
  replace F : Fr g L h₁ (fun y => if y = Str.ofString "wished" then some (.ref dW) else if y = Str.ofString "order" then some (.ref dO) else none) := F
  (try simp only [List.cons_append, List.nil_append] at N)
  k_lt hlt
  clear G' hg hled hsz
  have hlen := hO.len
  (repeat' (first | ((with_reducible show wpAny _ _ _ _ _ (Shared.mk _ (Shared.gens _) _ _ _)); (with_reducible first | refine fl_c ?_ rfl | refine fl_a (by assumption) ?_ rfl | refine fl_b (by assumption) ?_ rfl); (fail_if_success (with_reducible show wpAny _ _ _ _ _ (Shared.mk _ (Shared.gens _) _ _ _)))) | ((with_reducible show wpAny _ _ _ _ _ (Shared.mk _ _ _ (_ + _ + _ + _) _)); (with_reducible refine tk_gen ?_); intro tk_m) | ((with_reducible show wpAny _ _ (exec (Stmt.For (Expr.Name _ _) (Expr.Name _ _) (_ :: _) [] _) _) _ _ _); (k_here; k_dflt (refine wpAny_For ?_))) | ((with_reducible show wpAny _ _ (storeName _ _ _) _ _ _); (k_here; dsimp only)) | ((with_reducible show wpAny _ _ (eval (Expr.Constant _ _ _) _) _ _ _); with_reducible first | refine cint ?_ | refine cstr ?_) | ((with_reducible show wpAny _ _ (eval (Expr.Name _ _) _) _ _ _); k_here; k_dflt (refine' nameX_L (hd := ?d) ?F ?v ?_ ?a ?b; (case F => k_asm); (case a => rfl); (case b => rfl); (case v => rfl); (case d => rfl); k_whole)) | ((with_reducible show wpAny _ _ (storeName _ _ _) _ _ _); k_here; k_dflt (refine' storeX_M ?F ?N ?_ ?a ?b; (case F => k_asm); (case N => k_asm); (case a => rfl); (case b => rfl); k_whole; intro h_m m_m F_m N_m; (try k_sweep))) | ((with_reducible show wpAny _ _ (exec _ _) _ _ _); k_fold) | (k_unfold; (try dsimp only)) | (k_end; kc_close) | walk1 | (dsimp only; walk1) | (leave1; (try dsimp only)) | fail "no step"))
  (with_reducible rename Fr _ _ _ _ => kF); (with_reducible rename News _ _ _ _ => kN); (rename Obj.IsDictOf (PySem.strKind prg w) _ [] => hD0); (rename Obj.data _ = Data.cell (some (Value.ref _)) => d3)
  refine cap1 kN ?_
  intro M e1
  subst e1
  refine' for_1 (L := L) [Str.ofString "path"] (fun i m o => ∃ TM : List TNode, Obj.IsDictOf (PySem.strKind prg w) o (kvsOf TM) ∧ TM.map (·.1) = (T.take i).map fun n => (n.1.1, firstM (modeOf (T.map (·.1)) n.1.1))) rfl (Itb.keys rfl loW hD) rfl rfl kF kN (.inr (by k_mem)) ?h0 ?turn ?done
  case h0 => exact ⟨[], hD0, rfl⟩
  case turn =>
    intro I i v m₁ o₁ oI h tk hlt hi hP hJ kF kN
    k_fold
    obtain ⟨TM, hM, hTM⟩ := hJ
    obtain ⟨k, x, tv, hk, rfl⟩ := hP
    obtain ⟨n, hn, rfl, rfl⟩ := kvs_at hk
    have hv := value_kvs hT (List.mem_of_getElem? hn)
    have hml : (kvsOf TM).length ≤ 100000 := by
      have := congrArg List.length hTM
      rw [List.length_map, List.length_map, List.length_take] at this
      unfold kvsOf
      rw [List.length_map]; omega
    k_lt hlt
    (repeat' (first | ((with_reducible show wpAny _ _ _ _ _ (Shared.mk _ (Shared.gens _) _ _ _)); (with_reducible first | refine fl_c ?_ rfl | refine fl_a (by assumption) ?_ rfl | refine fl_b (by assumption) ?_ rfl); (fail_if_success (with_reducible show wpAny _ _ _ _ _ (Shared.mk _ (Shared.gens _) _ _ _)))) | ((with_reducible show wpAny _ _ _ _ _ (Shared.mk _ _ _ (_ + _ + _ + _) _)); (with_reducible refine tk_gen ?_); intro tk_m) | ((with_reducible show wpAny _ _ (eval (Expr.IfExp _ _ _ _) _) _ _ _); (k_here; refine hold2 ?_)) | ((with_reducible show wpAny _ _ (eval (Expr.Constant _ _ _) _) _ _ _); with_reducible first | refine cint ?_ | refine cstr ?_) | ((with_reducible show wpAny _ _ (eval (Expr.Name _ _) _) _ _ _); k_here; k_dflt (refine' nameX_L (hd := ?d) ?F ?v ?_ ?a ?b; (case F => k_asm); (case a => rfl); (case b => rfl); (case v => rfl); (case d => rfl); k_whole)) | ((with_reducible show wpAny _ _ (storeName _ _ _) _ _ _); k_here; k_dflt (refine' storeX_M ?F ?N ?_ ?a ?b; (case F => k_asm); (case N => k_asm); (case a => rfl); (case b => rfl); k_whole; intro h_m m_m F_m N_m; (try k_sweep))) | ((with_reducible show wpAny _ _ (exec _ _) _ _ _); k_fold) | (k_unfold; (try dsimp only)) | (k_end; kc_close) | walk1 | (dsimp only; walk1) | (leave1; (try dsimp only)) | fail "no step"))
    (with_reducible rename Fr _ _ _ _ => kF2); (with_reducible rename News _ _ _ _ => kN2)
    refine cut_valN (fun v => ∃ t, v = .int (firstM n.1.2) t) kF2 kN2 ?first ?_
    case first =>
      refine IfExp_ ?_
      (repeat' (first | ((with_reducible show wpAny _ _ _ _ _ (Shared.mk _ (Shared.gens _) _ _ _)); (with_reducible first | refine fl_c ?_ rfl | refine fl_a (by assumption) ?_ rfl | refine fl_b (by assumption) ?_ rfl); (fail_if_success (with_reducible show wpAny _ _ _ _ _ (Shared.mk _ (Shared.gens _) _ _ _)))) | ((with_reducible show wpAny _ _ _ _ _ (Shared.mk _ _ _ (_ + _ + _ + _) _)); (with_reducible refine tk_gen ?_); intro tk_m) | (k_here; (with_reducible show wpAny _ _ (call (Value.ref 270) _ _) _ _ _); refine use_pur0 isdir_spec (by k_asm) (by k_asm) (by k_asm) (by k_asm) (Rm.le (by first | assumption | (rename (∀ env, Rm _ _) => kR_m; exact kR_m _)) (by decide)) trivial ?_; intro v_m h_m tk_m led_m F_m N_m hv_m; subst hv_m; (try k_sweep)) | (k_here; (with_reducible show wpAny _ _ (subscriptTail _ _ (Value.ref _) (Value.str _ _)) _ _ _); (with_unfolding_all refine' dget ?k1 ?k2 ?k3 ?_ ?k4; (case k1 => exact (News.get (by k_asm) (by k_mem))); (case k2 => assumption); (case k3 => assumption); (case k4 => with_unfolding_all rfl); k_whole)) | ((with_reducible show wpAny _ _ (eval (Expr.Constant _ _ _) _) _ _ _); with_reducible first | refine cint ?_ | refine cstr ?_) | ((with_reducible show wpAny _ _ (eval (Expr.Name _ _) _) _ _ _); k_here; k_dflt (refine' nameX_L (hd := ?d) ?F ?v ?_ ?a ?b; (case F => k_asm); (case a => rfl); (case b => rfl); (case v => rfl); (case d => rfl); k_whole)) | ((with_reducible show wpAny _ _ (storeName _ _ _) _ _ _); k_here; k_dflt (refine' storeX_M ?F ?N ?_ ?a ?b; (case F => k_asm); (case N => k_asm); (case a => rfl); (case b => rfl); k_whole; intro h_m m_m F_m N_m; (try k_sweep))) | ((with_reducible show wpAny _ _ (exec _ _) _ _ _); k_fold) | (k_unfold; (try dsimp only)) | (k_end; kc_close) | walk1 | (dsimp only; walk1) | (leave1; (try dsimp only)) | fail "no step"))
      · exact isValN (by assumption) (by assumption) ⟨_, congrArg (fun x => Value.int x _) (first_pos (by assumption)).symm⟩
      · exact isValN (by assumption) (by assumption) ⟨_, congrArg (fun x => Value.int x _) (first_neg (by assumption)).symm⟩
    clear kF2 kN2
    rintro v h' tk' ⟨t', rfl⟩ kF2 kN2
    (repeat' (first | ((with_reducible show wpAny _ _ _ _ _ (Shared.mk _ (Shared.gens _) _ _ _)); (with_reducible first | refine fl_c ?_ rfl | refine fl_a (by assumption) ?_ rfl | refine fl_b (by assumption) ?_ rfl); (fail_if_success (with_reducible show wpAny _ _ _ _ _ (Shared.mk _ (Shared.gens _) _ _ _)))) | ((with_reducible show wpAny _ _ _ _ _ (Shared.mk _ _ _ (_ + _ + _ + _) _)); (with_reducible refine tk_gen ?_); intro tk_m) | ((with_reducible show wpAny _ _ (setItem (Value.ref _) (Value.str _ _) _) _ _ _); (k_here; k_dflt (refine' dset ?k1 ?k2 ?k3 ?k4 ?z ?_; (case k1 => k_asm); (case k2 => k_asm); (case k3 => k_updF); (case k4 => assumption); (case z => first | assumption | omega); k_whole); intro h_m o_m F_m N_m hD_m; (try k_sweep))) | ((with_reducible show wpAny _ _ (eval (Expr.Constant _ _ _) _) _ _ _); with_reducible first | refine cint ?_ | refine cstr ?_) | ((with_reducible show wpAny _ _ (eval (Expr.Name _ _) _) _ _ _); k_here; k_dflt (refine' nameX_L (hd := ?d) ?F ?v ?_ ?a ?b; (case F => k_asm); (case a => rfl); (case b => rfl); (case v => rfl); (case d => rfl); k_whole)) | ((with_reducible show wpAny _ _ (storeName _ _ _) _ _ _); k_here; k_dflt (refine' storeX_M ?F ?N ?_ ?a ?b; (case F => k_asm); (case N => k_asm); (case a => rfl); (case b => rfl); k_whole; intro h_m m_m F_m N_m; (try k_sweep))) | ((with_reducible show wpAny _ _ (exec _ _) _ _ _); k_fold) | (k_unfold; (try dsimp only)) | (k_end; kc_close) | walk1 | (dsimp only; walk1) | (leave1; (try dsimp only)) | fail "no step"))
    rename Obj.IsDictOf _ _ (stored _ _ _) => hS
    obtain ⟨q1, q2⟩ := start_snoc (t := t') hT hTM hn
    rw [q1] at hS
    refine t1_next (by assumption) (by assumption) (fun p hp => hp) ?_ ⟨_, hS, q2⟩
    intro z hz; (repeat refine out_st (contains_ne hz (by rfl)) ?_); simp only [mid, hz]; rfl
  case done =>
    intro m₁ o₁ h' tk hJ kF kN
    obtain ⟨TM, hM, hTM⟩ := hJ
    rw [List.take_of_length_le (by unfold kvsOf; rw [List.length_map]; exact Nat.le_refl _)] at hTM
    (repeat' (first | ((with_reducible show wpAny _ _ _ _ _ (Shared.mk _ (Shared.gens _) _ _ _)); (with_reducible first | refine fl_c ?_ rfl | refine fl_a (by assumption) ?_ rfl | refine fl_b (by assumption) ?_ rfl); (fail_if_success (with_reducible show wpAny _ _ _ _ _ (Shared.mk _ (Shared.gens _) _ _ _)))) | ((with_reducible show wpAny _ _ _ _ _ (Shared.mk _ _ _ (_ + _ + _ + _) _)); (with_reducible refine tk_gen ?_); intro tk_m) | ((with_reducible show wpAny _ _ (exec (Stmt.For (Expr.Name _ _) (Expr.Name _ _) (_ :: _) [] _) _) _ _ _); (k_here; k_dflt (refine wpAny_For ?_))) | ((with_reducible show wpAny _ _ (storeName _ _ _) _ _ _); (k_here; dsimp only)) | ((with_reducible show wpAny _ _ (eval (Expr.Constant _ _ _) _) _ _ _); with_reducible first | refine cint ?_ | refine cstr ?_) | ((with_reducible show wpAny _ _ (eval (Expr.Name _ _) _) _ _ _); k_here; k_dflt (refine' nameX_L (hd := ?d) ?F ?v ?_ ?a ?b; (case F => k_asm); (case a => rfl); (case b => rfl); (case v => rfl); (case d => rfl); k_whole)) | ((with_reducible show wpAny _ _ (storeName _ _ _) _ _ _); k_here; k_dflt (refine' storeX_M ?F ?N ?_ ?a ?b; (case F => k_asm); (case N => k_asm); (case a => rfl); (case b => rfl); k_whole; intro h_m m_m F_m N_m; (try k_sweep))) | ((with_reducible show wpAny _ _ (exec _ _) _ _ _); k_fold) | (k_unfold; (try dsimp only)) | (k_end; kc_close) | walk1 | (dsimp only; walk1) | (leave1; (try dsimp only)) | fail "no step"))
    (with_reducible rename Fr _ _ _ _ => kF); (with_reducible rename News _ _ _ _ => kN)
    refine cap1 kN ?_
    intro dn e1
    subst e1
    have hnd := tnodes_nd hT
    refine' for_2 (L := L) [Str.ofString "path"] (fun i m o p => ∃ acc k, o = W.listOf (strValues acc).toArray k ∧ PathsAre (setN (T.map (·.1)) (os.take i)).2 acc ∧ DictIs w T (setN (T.map (·.1)) (os.take i)).1 p) rfl (Itb.list (o := W.listOf (strValues ord).toArray kO) (items := (strValues ord).toArray) rfl rfl rfl) rfl rfl kF kN (.inr (by k_mem)) ?h0' ?turn' ?done'
    case h0' => exact ⟨[], 0, rfl, rfl, TM, hM, hTM⟩
    case turn' =>
      intro I i v m₂ o₂ p₂ oI h tk hlt hi hP hJ kF kN
      k_fold
      obtain ⟨acc, k, rfl, hacc, TM2, hM2, hTM2⟩ := hJ
      obtain ⟨q, tq, hq, rfl⟩ := hO.at hP
      have hq2 := hin q (List.mem_of_getElem? hq)
      have hql : q.length ≤ 12 := by
        obtain ⟨n, hn, rfl⟩ := List.mem_map.mp hq2
        have := (tr_mem hT n.1 (List.mem_map.mpr ⟨n, hn, rfl⟩)).2.1
        rw [List.length_map] at this
        omega
      k_lt hlt
      (repeat' (first | ((with_reducible show wpAny _ _ _ _ _ (Shared.mk _ (Shared.gens _) _ _ _)); (with_reducible first | refine fl_c ?_ rfl | refine fl_a (by assumption) ?_ rfl | refine fl_b (by assumption) ?_ rfl); (fail_if_success (with_reducible show wpAny _ _ _ _ _ (Shared.mk _ (Shared.gens _) _ _ _)))) | ((with_reducible show wpAny _ _ _ _ _ (Shared.mk _ _ _ (_ + _ + _ + _) _)); (with_reducible refine tk_gen ?_); intro tk_m) | (k_here; (with_reducible show wpAny _ _ (eval (Expr.ListComp (Expr.Name _ _) _ _ _) _) _ _ _); k_dflt (refine comp_ET (by k_asm) (by with_unfolding_all rfl) (by decide) (by rfl) (by decide) (by rfl) ?_)) | (k_here; (with_reducible show wpAny _ _ (call (Value.ref 331) _ _) _ _ _); refine use_pur above_spec (by k_asm) (by k_asm) (by k_asm) (by k_asm) (Rm.le (by first | assumption | (rename (∀ env, Rm _ _) => kR_m; exact kR_m _)) (by decide)) (by assumption) ?_; intro v_m h_m tk_m led_m F_m N_m off_m hv_m; obtain ⟨ab_m, acc_m, ka_m, hv1_m, hv2_m, hv3_m⟩ := hv_m; subst hv1_m hv2_m; (try simp only [List.cons_append, List.nil_append] at N_m); (try k_sweep)) | ((with_reducible show wpAny _ _ (eval (Expr.Constant _ _ _) _) _ _ _); with_reducible first | refine cint ?_ | refine cstr ?_) | ((with_reducible show wpAny _ _ (eval (Expr.Name _ _) _) _ _ _); k_here; k_dflt (refine' nameX_L (hd := ?d) ?F ?v ?_ ?a ?b; (case F => k_asm); (case a => rfl); (case b => rfl); (case v => rfl); (case d => rfl); k_whole)) | ((with_reducible show wpAny _ _ (storeName _ _ _) _ _ _); k_here; k_dflt (refine' storeX_M ?F ?N ?_ ?a ?b; (case F => k_asm); (case N => k_asm); (case a => rfl); (case b => rfl); k_whole; intro h_m m_m F_m N_m; (try k_sweep))) | ((with_reducible show wpAny _ _ (exec _ _) _ _ _); k_fold) | (k_unfold; (try dsimp only)) | (k_end; kc_close) | walk1 | (dsimp only; walk1) | (leave1; (try dsimp only)) | fail "no step"))
      (with_reducible rename Fr _ _ _ _ => kF2); (with_reducible rename News _ _ _ _ => kN2); (rename List.map _ _ = List.map pathS (aboveN q) => hab); (rename List (Str × Tok) => acc2)
      replace hab : PathsAre (aboveN q) acc2 := hab
      have hal := hab.len
      have hal2 : (aboveN q).length = q.length := by simp [aboveN]
      refine csrc_T (KeptIs (aboveN q) fun a => shut ((setN (T.map (·.1)) (os.take i)).1 a)) (Itc.list (o := W.listOf (strValues acc2).toArray _) (items := (strValues acc2).toArray) rfl rfl rfl) trivial kF2 kN2 (.inr (by k_mem)) (by rw [sizeLine_eq, List.size_toArray, strv_len]; omega) ⟨[], rfl, rfl⟩ ?_ ?_
      · intro j ys v I2 oI2 C oC D m₃ h tk E' hi2 hP2 hJ2 hC hx kF kN off3 ne3
        obtain ⟨a, ta, ha, rfl⟩ := hab.at hP2
        obtain ⟨tv, hv⟩ := dict_val hnd hTM2 (above_mem hcl hq2 (List.mem_of_getElem? ha))
        (repeat' (first | ((with_reducible show wpAny _ _ _ _ _ (Shared.mk _ (Shared.gens _) _ _ _)); (with_reducible first | refine fl_c ?_ rfl | refine fl_a (by assumption) ?_ rfl | refine fl_b (by assumption) ?_ rfl); (fail_if_success (with_reducible show wpAny _ _ _ _ _ (Shared.mk _ (Shared.gens _) _ _ _)))) | ((with_reducible show wpAny _ _ _ _ _ (Shared.mk _ _ _ (_ + _ + _ + _) _)); (with_reducible refine tk_gen ?_); intro tk_m) | (k_here; (with_reducible show wpAny _ _ (subscriptTail _ _ (Value.ref _) (Value.str _ _)) _ _ _); (with_unfolding_all refine' dget ?k1 ?k2 ?k3 ?_ ?k4; (case k1 => exact (News.get (by k_asm) (by k_mem))); (case k2 => assumption); (case k3 => assumption); (case k4 => with_unfolding_all rfl); k_whole)) | ((with_reducible show wpAny _ _ (eval (Expr.Subscript _ _ _) _) _ _ _); (k_here; dsimp only)) | ((with_reducible show wpAny _ _ (eval (Expr.Constant _ _ _) _) _ _ _); with_reducible first | refine cint ?_ | refine cstr ?_) | ((with_reducible show wpAny _ _ (eval (Expr.Name _ _) _) _ _ _); k_here; k_dflt (refine' nameX_L (hd := ?d) ?F ?v ?_ ?a ?b; (case F => k_asm); (case a => rfl); (case b => rfl); (case v => rfl); (case d => rfl); k_whole)) | ((with_reducible show wpAny _ _ (storeName _ _ _) _ _ _); k_here; k_dflt (refine' storeX_M ?F ?N ?_ ?a ?b; (case F => k_asm); (case N => k_asm); (case a => rfl); (case b => rfl); k_whole; intro h_m m_m F_m N_m; (try k_sweep))) | ((with_reducible show wpAny _ _ (exec _ _) _ _ _); k_fold) | (k_unfold; (try dsimp only)) | (k_end; kc_close) | walk1 | (dsimp only; walk1) | (leave1; (try dsimp only)) | fail "no step"))
        · exact ce_end (by assumption) (by assumption) (fun p hp => hp) off3 (kept_hit hJ2 ha (decide_eq_true (by assumption)))
        · exact ce_end (by assumption) (by assumption) (fun p hp => hp) off3 (kept_miss hJ2 ha (decide_eq_false (by assumption)))
      · intro g ys hJ2 D' h' tk kF3 kN3 hoff1
        obtain ⟨acc3, rfl, h3⟩ := kept_all hJ2 (by rw [List.size_toArray, strv_len]; omega)
        clear hJ2 kF2 kN2
        (repeat' (first | ((with_reducible show wpAny _ _ _ _ _ (Shared.mk _ (Shared.gens _) _ _ _)); (with_reducible first | refine fl_c ?_ rfl | refine fl_a (by assumption) ?_ rfl | refine fl_b (by assumption) ?_ rfl); (fail_if_success (with_reducible show wpAny _ _ _ _ _ (Shared.mk _ (Shared.gens _) _ _ _)))) | ((with_reducible show wpAny _ _ _ _ _ (Shared.mk _ _ _ (_ + _ + _ + _) _)); (with_reducible refine tk_gen ?_); intro tk_m) | ((with_reducible show wpAny _ _ (compareOp CmpOp.Eq (Value.ref _) (Value.ref _)) _ _ _); (k_here; refine hold2 ?_)) | ((with_reducible show wpAny _ _ (eval (Expr.Constant _ _ _) _) _ _ _); with_reducible first | refine cint ?_ | refine cstr ?_) | ((with_reducible show wpAny _ _ (eval (Expr.Name _ _) _) _ _ _); k_here; k_dflt (refine' nameX_L (hd := ?d) ?F ?v ?_ ?a ?b; (case F => k_asm); (case a => rfl); (case b => rfl); (case v => rfl); (case d => rfl); k_whole)) | ((with_reducible show wpAny _ _ (storeName _ _ _) _ _ _); k_here; k_dflt (refine' storeX_M ?F ?N ?_ ?a ?b; (case F => k_asm); (case N => k_asm); (case a => rfl); (case b => rfl); k_whole; intro h_m m_m F_m N_m; (try k_sweep))) | ((with_reducible show wpAny _ _ (exec _ _) _ _ _); k_fold) | (k_unfold; (try dsimp only)) | (k_end; kc_close) | walk1 | (dsimp only; walk1) | (leave1; (try dsimp only)) | fail "no step"))
        (with_reducible rename Fr _ _ _ _ => kF4); (with_reducible rename News _ _ _ _ => kN4)
        refine unhold2 ?_
        refine eq_strs (aa := acc3) (bb := []) (kN4 (D', LCg.lst (strValues acc3)) (by k_mem)).1 (kN4 (_, W.listOf #[] 0) (.head _)).1 (ok_paths hT hTl h3 fun a ha => above_mem hcl hq2 (List.mem_filter.mp ha).1) (fun _ h => nomatch h) (by have := R.un; show un + 3 + 64 < 9900; simp only at this; omega) ?_
        rw [kept_nil h3]
        have kN5 : News _ L _ [(I, oI), (dn, W.listOf (strValues acc).toArray k), (M, p₂), (L + 1, _), (dO, W.listOf (strValues ord).toArray kO), (dW, oW)] := News.sub kN4 (by k_allIn)
        clear kN4
        have hst : setN (T.map (·.1)) (os.take (i + 1)) = stepS (T.map (·.1)) (setN (T.map (·.1)) (os.take i)) q := by rw [take_snoc hq, setN_snoc]
        obtain ⟨n, hn, hnq⟩ := List.mem_map.mp hq2
        have hv := value_kvs hT hn
        have hmo := mode_of (tr_nodup hT) (n := n.1) (List.mem_map.mpr ⟨n, hn, rfl⟩)
        rw [hnq] at hv hmo
        have hml := kvs_len hTl hTM2
        have hacl : acc.length ≤ 100000 := by
          have h1 := hacc.len
          have h2 := setN_len (T := T.map (·.1)) (os.take i)
          rw [List.length_take] at h2
          omega
        (repeat' (first | ((with_reducible show wpAny _ _ _ _ _ (Shared.mk _ (Shared.gens _) _ _ _)); (with_reducible first | refine fl_c ?_ rfl | refine fl_a (by assumption) ?_ rfl | refine fl_b (by assumption) ?_ rfl); (fail_if_success (with_reducible show wpAny _ _ _ _ _ (Shared.mk _ (Shared.gens _) _ _ _)))) | ((with_reducible show wpAny _ _ _ _ _ (Shared.mk _ _ _ (_ + _ + _ + _) _)); (with_reducible refine tk_gen ?_); intro tk_m) | (k_here; (with_reducible show wpAny _ _ (subscriptTail _ _ (Value.ref _) (Value.str _ _)) _ _ _); (with_unfolding_all refine' dget ?k1 ?k2 ?k3 ?_ ?k4; (case k1 => exact (News.get (by k_asm) (by k_mem))); (case k2 => assumption); (case k3 => assumption); (case k4 => with_unfolding_all rfl); k_whole)) | ((with_reducible show wpAny _ _ (eval (Expr.Subscript _ _ _) _) _ _ _); (k_here; dsimp only)) | ((with_reducible show wpAny _ _ (setItem (Value.ref _) (Value.str _ _) _) _ _ _); (k_here; k_dflt (refine' dset ?k1 ?k2 ?k3 ?k4 ?z ?_; (case k1 => k_asm); (case k2 => k_asm); (case k3 => k_updF); (case k4 => assumption); (case z => first | assumption | omega); k_whole); intro h_m o_m F_m N_m hD_m; (try k_sweep))) | (k_here; (with_reducible show wpAny _ _ (call (Value.builtin "list.append") [Value.ref _, Value.str _ _]) _ _ _); k_dflt (refine' append_strs ?k1 ?k2 ?k3 ?z ?_; (case k1 => k_asm); (case k2 => k_asm); (case k3 => k_upd); (case z => first | assumption | omega | (simp only [List.length_append, List.length_singleton, List.length_nil, List.length_cons]; omega)); k_whole); intro h_m F_m N_m; (try k_sweep)) | ((with_reducible show wpAny _ _ (eval (Expr.Constant _ _ _) _) _ _ _); with_reducible first | refine cint ?_ | refine cstr ?_) | ((with_reducible show wpAny _ _ (eval (Expr.Name _ _) _) _ _ _); k_here; k_dflt (refine' nameX_L (hd := ?d) ?F ?v ?_ ?a ?b; (case F => k_asm); (case a => rfl); (case b => rfl); (case v => rfl); (case d => rfl); k_whole)) | ((with_reducible show wpAny _ _ (storeName _ _ _) _ _ _); k_here; k_dflt (refine' storeX_M ?F ?N ?_ ?a ?b; (case F => k_asm); (case N => k_asm); (case a => rfl); (case b => rfl); k_whole; intro h_m m_m F_m N_m; (try k_sweep))) | ((with_reducible show wpAny _ _ (exec _ _) _ _ _); k_fold) | (k_unfold; (try dsimp only)) | (k_end; kc_close) | walk1 | (dsimp only; walk1) | (leave1; (try dsimp only)) | fail "no step"))
        · rename Obj.IsDictOf _ _ (stored _ _ _) => hS
          have hput := DictIs.put hTM2 hq2 hS
          rw [← hmo] at hput
          refine t2_next (by assumption) (by assumption) (fun p hp => hp) ?_ ⟨_, _, rfl, ?_, ?_⟩
          · intro z hz; (repeat refine out_st (contains_ne hz (by rfl)) ?_); simp only [mid, hz]; rfl
          · rw [hst, step_pos (by assumption)]; exact paths_snoc hacc
          · rw [hst, step_pos (by assumption)]; exact hput
        · refine t2_next (by assumption) (by assumption) (fun p hp => hp) ?_ ⟨_, _, rfl, ?_, ?_⟩
          · intro z hz; (repeat refine out_st (contains_ne hz (by rfl)) ?_); simp only [mid, hz]; rfl
          · rw [hst, step_neg (by assumption)]; exact hacc
          · rw [hst, step_neg (by assumption)]; exact ⟨TM2, hM2, hTM2⟩
    case done' =>
      intro m₂ o₂ p₂ h' tk hJ kF kN
      obtain ⟨acc, k, rfl, hacc, TM2, hM2, hTM2⟩ := hJ
      rw [List.take_of_length_le (by rw [List.size_toArray, strv_len]; omega)] at hacc hTM2
      (repeat' (first | ((with_reducible show wpAny _ _ _ _ _ (Shared.mk _ (Shared.gens _) _ _ _)); (with_reducible first | refine fl_c ?_ rfl | refine fl_a (by assumption) ?_ rfl | refine fl_b (by assumption) ?_ rfl); (fail_if_success (with_reducible show wpAny _ _ _ _ _ (Shared.mk _ (Shared.gens _) _ _ _)))) | ((with_reducible show wpAny _ _ _ _ _ (Shared.mk _ _ _ (_ + _ + _ + _) _)); (with_reducible refine tk_gen ?_); intro tk_m) | (k_here; (with_reducible show wpAny _ _ (eval (Expr.ListComp (Expr.Call _ _ _ _) _ _ _) _) _ _ _); k_dflt (refine comp_EU (by k_asm) (by with_unfolding_all rfl) (by decide) (by rfl) (by decide) (by rfl) ?_)) | ((with_reducible show wpAny _ _ (eval (Expr.Constant _ _ _) _) _ _ _); with_reducible first | refine cint ?_ | refine cstr ?_) | ((with_reducible show wpAny _ _ (eval (Expr.Name _ _) _) _ _ _); k_here; k_dflt (refine' nameX_L (hd := ?d) ?F ?v ?_ ?a ?b; (case F => k_asm); (case a => rfl); (case b => rfl); (case v => rfl); (case d => rfl); k_whole)) | ((with_reducible show wpAny _ _ (storeName _ _ _) _ _ _); k_here; k_dflt (refine' storeX_M ?F ?N ?_ ?a ?b; (case F => k_asm); (case N => k_asm); (case a => rfl); (case b => rfl); k_whole; intro h_m m_m F_m N_m; (try k_sweep))) | ((with_reducible show wpAny _ _ (exec _ _) _ _ _); k_fold) | (k_unfold; (try dsimp only)) | (k_end; kc_close) | walk1 | (dsimp only; walk1) | (leave1; (try dsimp only)) | fail "no step"))
      (with_reducible rename Fr _ _ _ _ => kF2); (with_reducible rename News _ _ _ _ => kN2)
      refine csrc_U (fun i ys => ∃ rows, ys = strValues rows ∧ rows.map (·.1) = (T.take i).map fun n => fileF ((setN (T.map (·.1)) os).1 n.1.1)) (Itc.keys rfl loW hD) trivial kF2 kN2 (.inr (by k_mem)) (by rw [sizeLine_eq]; unfold kvsOf; rw [List.length_map]; omega) ⟨[], rfl, rfl⟩ ?_ ?_
      · intro i ys v I oI C oC D m₂ h tk E' hi hP hJ hC hx kF kN off3 ne3
        obtain ⟨k, x, tv, hk, rfl⟩ := hP
        obtain ⟨n, hn, rfl, rfl⟩ := kvs_at hk
        obtain ⟨rows, rfl, hrows⟩ := hJ
        obtain ⟨tv, hv⟩ := dict_val hnd hTM2 (List.mem_map.mpr ⟨n, List.mem_of_getElem? hn, rfl⟩)
        (repeat' (first | ((with_reducible show wpAny _ _ _ _ _ (Shared.mk _ (Shared.gens _) _ _ _)); (with_reducible first | refine fl_c ?_ rfl | refine fl_a (by assumption) ?_ rfl | refine fl_b (by assumption) ?_ rfl); (fail_if_success (with_reducible show wpAny _ _ _ _ _ (Shared.mk _ (Shared.gens _) _ _ _)))) | ((with_reducible show wpAny _ _ _ _ _ (Shared.mk _ _ _ (_ + _ + _ + _) _)); (with_reducible refine tk_gen ?_); intro tk_m) | (k_here; (with_reducible show wpAny _ _ (call (Value.ref 310) _ _) _ _ _); refine use_pur0 filemode_spec (by k_asm) (by k_asm) (by k_asm) (by k_asm) (Rm.le (by first | assumption | (rename (∀ env, Rm _ _) => kR_m; exact kR_m _)) (by decide)) trivial ?_; intro v_m h_m tk_m led_m F_m N_m hv_m; obtain ⟨t_m, hv_m⟩ := hv_m; subst hv_m; (try k_sweep)) | (k_here; (with_reducible show wpAny _ _ (subscriptTail _ _ (Value.ref _) (Value.str _ _)) _ _ _); (with_unfolding_all refine' dget ?k1 ?k2 ?k3 ?_ ?k4; (case k1 => exact (News.get (by k_asm) (by k_mem))); (case k2 => assumption); (case k3 => assumption); (case k4 => with_unfolding_all rfl); k_whole)) | ((with_reducible show wpAny _ _ (eval (Expr.Subscript _ _ _) _) _ _ _); (k_here; dsimp only)) | ((with_reducible show wpAny _ _ (eval (Expr.Constant _ _ _) _) _ _ _); with_reducible first | refine cint ?_ | refine cstr ?_) | ((with_reducible show wpAny _ _ (eval (Expr.Name _ _) _) _ _ _); k_here; k_dflt (refine' nameX_L (hd := ?d) ?F ?v ?_ ?a ?b; (case F => k_asm); (case a => rfl); (case b => rfl); (case v => rfl); (case d => rfl); k_whole)) | ((with_reducible show wpAny _ _ (storeName _ _ _) _ _ _); k_here; k_dflt (refine' storeX_M ?F ?N ?_ ?a ?b; (case F => k_asm); (case N => k_asm); (case a => rfl); (case b => rfl); k_whole; intro h_m m_m F_m N_m; (try k_sweep))) | ((with_reducible show wpAny _ _ (exec _ _) _ _ _); k_fold) | (k_unfold; (try dsimp only)) | (k_end; kc_close) | walk1 | (dsimp only; walk1) | (leave1; (try dsimp only)) | fail "no step"))
        exact ce_end (by assumption) (by assumption) (fun p hp => hp) off3 (row_snoc hrows hn)
      · intro g ys hJ D' h' tk kF3 kN3 hoff1
        obtain ⟨rows, rfl, hrows⟩ := hJ
        rw [List.take_of_length_le (by unfold kvsOf; rw [List.length_map]; exact Nat.le_refl _)] at hrows
        clear kF2 kN2
        (repeat' (first | ((with_reducible show wpAny _ _ _ _ _ (Shared.mk _ (Shared.gens _) _ _ _)); (with_reducible first | refine fl_c ?_ rfl | refine fl_a (by assumption) ?_ rfl | refine fl_b (by assumption) ?_ rfl); (fail_if_success (with_reducible show wpAny _ _ _ _ _ (Shared.mk _ (Shared.gens _) _ _ _)))) | ((with_reducible show wpAny _ _ _ _ _ (Shared.mk _ _ _ (_ + _ + _ + _) _)); (with_reducible refine tk_gen ?_); intro tk_m) | ((with_reducible show wpAny _ _ (eval (Expr.Constant _ _ _) _) _ _ _); with_reducible first | refine cint ?_ | refine cstr ?_) | ((with_reducible show wpAny _ _ (eval (Expr.Name _ _) _) _ _ _); k_here; k_dflt (refine' nameX_L (hd := ?d) ?F ?v ?_ ?a ?b; (case F => k_asm); (case a => rfl); (case b => rfl); (case v => rfl); (case d => rfl); k_whole)) | ((with_reducible show wpAny _ _ (storeName _ _ _) _ _ _); k_here; k_dflt (refine' storeX_M ?F ?N ?_ ?a ?b; (case F => k_asm); (case N => k_asm); (case a => rfl); (case b => rfl); k_whole; intro h_m m_m F_m N_m; (try k_sweep))) | ((with_reducible show wpAny _ _ (exec _ _) _ _ _); k_fold) | (k_unfold; (try dsimp only)) | (k_end; kc_close) | walk1 | (dsimp only; walk1) | (leave1; (try dsimp only)) | fail "no step"))
        (with_reducible rename News _ _ _ _ => kN)
        refine cap3 kN ?_
        intro tp lr dl e1 e2 e3
        subst e2 e3
        exact ret _ _ _ [(tp, { cls := .type "tuple", data := .seq [Value.ref dl, .ref lr].toArray }), (dl, W.listOf (strValues acc).toArray k), (lr, W.listOf (strValues rows).toArray (strValues rows).length), (dO, W.listOf (strValues ord).toArray kO), (dW, oW)] (Fr.keep (by assumption)) (News.led (News.sub kN (by rw [e1]; k_allIn))) ⟨tp, dl, lr, _, _, acc, rows, by rw [e1], rfl, hacc, hrows⟩

section
example : True := by w_top off; trivial
open LCg LCt
section
variable {w : World} {A : Around} {E Q : Value → Shared → Prop} {s : Shared} {h₀ : Heap} {L : Addr} {m : Str → Option Value} {news : List (Addr × Obj)}
theorem sorted_paths {l k : Nat} {acc : List (Str × Tok)} {os : List (List Nat)} (F : Fr h₀ L s.heap m) (N : News h₀ L s.heap news) (hm : (l, W.listOf (strValues acc).toArray k) ∈ news) (hO : PathsAre os acc) (h64 : os.length < 64)
    (h : ∀ (S c : Nat) (acc' : List (Str × Tok)) (srt : List (List Nat)) h', Fr h₀ L h' m → News h₀ L h' ((S, W.listOf (strValues acc').toArray c) :: news) → (∀ p ∈ news, p.1 < S) → PathsAre srt acc' → srt.Perm os → sortedS (srt.map pathS) = true → Q (.ref S) { s with heap := h' }) :
    wpAny (model prg w) A (call (.builtin "sorted") [.ref l]) Q E s := by
  refine sorted_N_str F N (News.isList N hm) (strsAre_sv acc) (by rw [strv_len, hO.len]; exact h64) fun h' vs' ss' e F' N' hS hP hs => ?_
  obtain ⟨acc', rfl, rfl⟩ := sv_of hS
  rw [hO] at hP
  obtain ⟨srt, e1, e2⟩ := perm_map hP
  exact h _ _ acc' srt h' F' N' (fun p hp => Nat.lt_succ_of_lt (Heap.lt_size (N p hp).1)) e1 e2 (by rw [← e1]; exact hs)
theorem list_paths {d : Addr} {o : Obj} {T : List TNode} (hh : A.handled = none) (F : Fr h₀ L s.heap m) (N : News h₀ L s.heap news) (hp : (d, o) ∈ news) (hd : o.IsDictOf (PySem.strKind prg w) (kvsOf T)) (lo' : (d == sysModules) = false) (hn : T.length ≤ 13)
    (h : ∀ (B c : Nat) (acc : List (Str × Tok)) h' tk, PathsAre (T.map (·.1.1)) acc → Fr h₀ L h' m → News h₀ L h' ((B, W.listOf (strValues acc).toArray c) :: news) → (∀ q ∈ news, q.1 < B) → Q (.ref B) { s with heap := h', toks := tk }) :
    wpAny (model prg w) A (call (.type "list") [.ref d]) Q E s :=
  kdl_list_keysS hh F N hp hd lo' (by unfold kvsOf; rw [List.length_map]; omega) fun B c h' tk => keysS_of fun acc e F' N' l1 => h B c acc h' tk (by
    unfold PathsAre
    rw [e]; unfold kvsOf
    rw [List.map_map, List.map_map]; rfl) F' N' l1
end
theorem capK {P : Prop} {h₀ h : Heap} {L a k : Nat} {its : Array Value} {rest : List (Addr × Obj)} (_ : News h₀ L h ((a, W.listOf its k) :: rest)) (key : ∀ k', k' = k → P) : P := key _ rfl
theorem off1_at {D : Addr} {l : List (Addr × Obj)} (h : Off1 D l) : ∀ p ∈ l, p.1 ≠ D := by
  induction l with
  | nil => exact fun _ h => nomatch h
  | cons a l ih =>
    intro p hp
    rcases List.mem_cons.mp hp with e | hp
    · rw [e]; exact h.1
    · exact ih h.2 p hp
theorem of_allLt {d : Addr} : ∀ {l : List (Addr × Obj)}, AllLt d l → ∀ p ∈ l, p.1 < d
  | [], _, _, h => nomatch h
  | _ :: _, h, p, hp => by
    rcases List.mem_cons.mp hp with rfl | hp
    · exact h.1
    · exact of_allLt h.2 p hp
noncomputable def Fresh (B : List (Addr × Obj)) (i : Nat) (ys : List Value) (nw : List (Addr × Obj)) : Prop := ∃ rs : List (Nat × List (Str × Tok) × Nat), ys = lsV rs ∧ nw = lsLed rs ++ B ∧ rs.length = i ∧ (∀ e ∈ rs, e.2.1 = []) ∧ (rs.map (·.1)).Nodup ∧ ∀ e ∈ rs, ∀ p ∈ B, @LT.lt Nat _ p.1 e.1
theorem ls_mem {rs : List (Nat × List (Str × Tok) × Nat)} {e : Nat × List (Str × Tok) × Nat} (h : e ∈ rs) : (e.1, W.listOf (strValues e.2.1).toArray e.2.2) ∈ lsLed rs := List.mem_map.mpr ⟨e, h, rfl⟩
theorem Fresh.snoc {B : List (Addr × Obj)} {i : Nat} {ys : List Value} {nw : List (Addr × Obj)} {a : Nat} (h : Fresh B i ys nw) (ha : ∀ p ∈ nw, p.1 < a) : ∃ nw', Fresh B (i + 1) (ys ++ [.ref a]) nw' ∧ (∀ p ∈ nw', p = (a, W.listOf #[] 0) ∨ p ∈ nw) := by
  obtain ⟨rs, rfl, rfl, hl, he, hnd, hgt⟩ := h
  refine ⟨lsLed (rs ++ [(a, [], 0)]) ++ B, ⟨rs ++ [(a, [], 0)], by simp [lsV], rfl, by rw [List.length_append, hl]; rfl, ?_, ?_, ?_⟩, ?_⟩
  · intro e h
    rcases List.mem_append.mp h with h | h
    · exact he e h
    · rw [List.mem_singleton.mp h]
  · rw [List.map_append, List.map_singleton, List.nodup_append]
    refine ⟨hnd, by simp, fun x hx y hy e => ?_⟩
    obtain ⟨z, hz, rfl⟩ := List.mem_map.mp hx
    rw [List.mem_singleton.mp hy] at e
    have := ha _ (List.mem_append_left _ (ls_mem hz))
    exact absurd (show z.1 < a from this) (by rw [e]; exact Nat.lt_irrefl _)
  · intro e h p hp
    rcases List.mem_append.mp h with h | h
    · exact hgt e h p hp
    · rw [List.mem_singleton.mp h]; exact ha p (List.mem_append_right _ hp)
  · intro p hp
    unfold lsLed at hp ⊢
    rw [List.map_append] at hp
    simp only [List.mem_append, List.map_cons, List.map_nil, List.mem_singleton] at hp ⊢
    rcases hp with (h | h) | h
    · exact .inr (.inl h)
    · exact .inl h
    · exact .inr (.inr h)
noncomputable def levN (P : List (List Nat)) (M : Nat) (srt : List (List Nat)) : List (List Str) := (List.range (M + 1)).map fun k => (srt.filter fun q => decide (htN P q = k)).map pathS
theorem lev_snoc {P : List (List Nat)} {M : Nat} {l : List (List Nat)} {q : List Nat} {β : Type} {r1 r2 : List β} {e e' : β} {F : β → List Str} (h : (r1 ++ e :: r2).map F = levN P M l) (hk : htN P q = r1.length) (he : F e' = F e ++ [pathS q]) : (r1 ++ e' :: r2).map F = levN P M (l ++ [q]) := by
  apply List.ext_getElem?
  intro j
  have hj : ((r1 ++ e :: r2).map F)[j]? = (levN P M l)[j]? := by rw [h]
  unfold levN at hj ⊢
  rw [List.getElem?_map, List.getElem?_map] at hj ⊢
  have hx : ∀ x, (List.range (M + 1))[j]? = some x → x = j := fun x hx => by
    obtain ⟨h1, h2⟩ := List.getElem?_eq_some_iff.mp hx
    rw [← h2, List.getElem_range]
  by_cases hjk : j = r1.length
  · subst hjk
    rw [List.getElem?_append_right (Nat.le_refl _), Nat.sub_self, List.getElem?_cons_zero] at hj ⊢
    cases hr : (List.range (M + 1))[r1.length]? with
    | none => rw [hr] at hj; cases hj
    | some x =>
      obtain rfl := hx x hr
      rw [hr] at hj
      simp only [Option.map_some, Option.some.injEq] at hj ⊢
      rw [he, hj, List.filter_append, List.map_append, List.filter_cons_of_pos (by simpa using hk)]; rfl
  · have e1 : (r1 ++ e' :: r2)[j]? = (r1 ++ e :: r2)[j]? := by
      by_cases hlt : j < r1.length
      · rw [List.getElem?_append_left hlt, List.getElem?_append_left hlt]
      · rw [List.getElem?_append_right (by omega), List.getElem?_append_right (by omega)]
        obtain ⟨d, hd⟩ : ∃ d, j - r1.length = d + 1 := ⟨j - r1.length - 1, by omega⟩
        rw [hd, List.getElem?_cons_succ, List.getElem?_cons_succ]
    rw [e1, hj]
    cases hr : (List.range (M + 1))[j]? with
    | none => rfl
    | some x =>
      obtain rfl := hx x hr
      simp only [Option.map_some, Option.some.injEq]
      rw [List.filter_append, List.filter_cons_of_neg (by simpa using fun h => hjk (h.symm.trans hk))]
      simp
theorem lev_nil {P : List (List Nat)} {M : Nat} {rs : List (Nat × List (Str × Tok) × Nat)} (hl : rs.length = M + 1) (he : ∀ e ∈ rs, e.2.1 = []) : (rs.map fun e => e.2.1.map (·.1)) = levN P M [] := by
  have h1 : (rs.map fun e => e.2.1.map (·.1)) = List.replicate rs.length [] := by
    clear hl
    induction rs with
    | nil => rfl
    | cons e rs ih => rw [List.map_cons, ih fun x hx => he x (.tail _ hx), he e (.head _)]; rfl
  rw [h1, hl]
  unfold levN
  apply List.ext_getElem?
  intro j
  rw [List.getElem?_map, List.getElem?_replicate]
  by_cases h : j < M + 1
  · rw [if_pos h, List.getElem?_range h]; rfl
  · rw [if_neg h, List.getElem?_eq_none (by simp; omega)]; rfl
theorem lsV_eq {rs rs' : List (Nat × List (Str × Tok) × Nat)} (h : rs'.map (·.1) = rs.map (·.1)) : lsV rs = lsV rs' := by
  have : ∀ l : List (Nat × List (Str × Tok) × Nat), lsV l = (l.map (·.1)).map Value.ref := fun l => by unfold lsV; rw [List.map_map]; rfl
  rw [this, this, h]
theorem levels_spec {w : World} {dW : Nat} {oW : Obj} {T : List TNode} (hD : Obj.IsDictOf (PySem.strKind prg w) oW (kvsOf T)) (hT : Tr (T.map (·.1))) (hTl : T.length ≤ 13) (loW : (dW == sysModules) = false) :
    Mut w 353 [.ref dW] 10 [(dW, oW)] True (fun v led => ∃ (D k M : Nat) (rs : List (Nat × List (Str × Tok) × Nat)) (srt : List (List Nat)), v = .ref D ∧ led = (D, W.listOf (lsV rs).toArray k) :: (dW, oW) :: lsLed rs ∧ (rs.map fun e => e.2.1.map (·.1)) = levN (T.map (·.1.1)) M srt ∧ srt.Perm (T.map (·.1.1)) ∧ sortedS (srt.map pathS) = true ∧
      (∃ q ∈ T.map (·.1.1), htN (T.map (·.1.1)) q = M) ∧ ∀ q ∈ T.map (·.1.1), htN (T.map (·.1.1)) q ≤ M) := by
  refine mut_of fun A Q s0 gs dr tk0 ost g G hg hsz hled R hp ret => ?_
  obtain ⟨hd, dp, fr, gd, un⟩ := A; obtain rfl : hd = none := R.hh
  have G' := G; obtain ⟨X, mean, mg, mb, T'⟩ := G
  have R' := fun env => R.deeper (env := env)
  refine enterMC G' hg hsz hled (R.le (by decide)) (by k_is) (by k_is) (BindsTo.of_eq (binds := [(Str.ofString "wished", .ref dW)]) rfl) (by rfl) (by decide) rfl rfl rfl ?_
  intro L h₁ tk cells F N C hlt _ _ A1
  k_fold
  obtain ⟨o1, hE, d1⟩ := CellsAre.one C
  subst hE
  clear C
  replace d1 : o1.data = .cell (some (.ref dW)) := d1
  replace F : Fr g L h₁ (fun y => none) := F
  (try simp only [List.cons_append, List.nil_append] at N)
  k_lt hlt
  clear G' hg hled hsz
  (repeat' (first | ((with_reducible show wpAny _ _ _ _ _ (Shared.mk _ (Shared.gens _) _ _ _)); (with_reducible first | refine fl_c ?_ rfl | refine fl_a (by assumption) ?_ rfl | refine fl_b (by assumption) ?_ rfl); (fail_if_success (with_reducible show wpAny _ _ _ _ _ (Shared.mk _ (Shared.gens _) _ _ _)))) | ((with_reducible show wpAny _ _ _ _ _ (Shared.mk _ _ _ (_ + _ + _ + _) _)); (with_reducible refine tk_gen ?_); intro tk_m) | (k_here; (with_reducible show wpAny _ _ (exec (Stmt.Assign _ (Expr.ListComp (Expr.Call _ _ _ _) _ _ _) _) _) _ _ _); k_dflt (refine comp_AU (by k_asm) (by rfl) (by with_unfolding_all rfl) (by with_unfolding_all rfl) (by decide) (by rfl) (by decide) (by rfl) (by rfl) (by rfl) ?_)) | ((with_reducible show wpAny _ _ (eval (Expr.Constant _ _ _) _) _ _ _); with_reducible first | refine cint ?_ | refine cstr ?_) | ((with_reducible show wpAny _ _ (eval (Expr.Name _ _) _) _ _ _); k_here; k_dflt (refine' nameX_L (hd := ?d) ?F ?v ?_ ?a ?b; (case F => k_asm); (case a => rfl); (case b => rfl); (case v => rfl); (case d => rfl); k_whole)) | ((with_reducible show wpAny _ _ (storeName _ _ _) _ _ _); k_here; k_dflt (refine' storeX_M ?F ?N ?_ ?a ?b; (case F => k_asm); (case N => k_asm); (case a => rfl); (case b => rfl); k_whole; intro h_m m_m F_m N_m; (try k_sweep))) | ((with_reducible show wpAny _ _ (exec _ _) _ _ _); k_fold) | (k_unfold; (try dsimp only)) | (k_end; kc_close) | walk1 | (dsimp only; walk1) | (leave1; (try dsimp only)) | fail "no step"))
  (with_reducible rename Fr _ _ _ _ => kF); (with_reducible rename News _ _ _ _ => kN)
  refine csrc_U (fun i ys => IntsAre ys ((T.take i).map fun n => (htN (T.map (·.1.1)) n.1.1 : Int))) (Itc.keys rfl loW hD) trivial kF kN (.inr (by k_mem)) (by rw [sizeLine_eq]; unfold kvsOf; rw [List.length_map]; omega) .nil ?_ ?_
  · intro i ys v I oI C oC D m₂ h tk E' hi hP hJ hC hx kF kN off3 ne3
    obtain ⟨k, x, tv, hk, rfl⟩ := hP
    obtain ⟨n, hn, rfl, rfl⟩ := kvs_at hk
    have hq2 : n.1.1 ∈ T.map (·.1.1) := List.mem_map.mpr ⟨n, List.mem_of_getElem? hn, rfl⟩
    (repeat' (first | ((with_reducible show wpAny _ _ _ _ _ (Shared.mk _ (Shared.gens _) _ _ _)); (with_reducible first | refine fl_c ?_ rfl | refine fl_a (by assumption) ?_ rfl | refine fl_b (by assumption) ?_ rfl); (fail_if_success (with_reducible show wpAny _ _ _ _ _ (Shared.mk _ (Shared.gens _) _ _ _)))) | ((with_reducible show wpAny _ _ _ _ _ (Shared.mk _ _ _ (_ + _ + _ + _) _)); (with_reducible refine tk_gen ?_); intro tk_m) | (k_here; (with_reducible show wpAny _ _ (call (Value.ref 348) _ _) _ _ _); refine use_readV (height_spec (by assumption) (by assumption) (by assumption) (by assumption) (by assumption)) (by k_asm) (by k_asm) (by k_asm) (by k_asm) (Rm.le (by first | assumption | (rename (∀ env, Rm _ _) => kR_m; exact kR_m _)) (by decide)) trivial (fun p_m hp_m => by rw [List.mem_singleton.mp hp_m]; k_mem) ?_; intro v_m h_m tk_m hv_m F_m N_m; obtain ⟨t_m, hv_m⟩ := hv_m; subst hv_m; (try k_sweep)) | ((with_reducible show wpAny _ _ (eval (Expr.Constant _ _ _) _) _ _ _); with_reducible first | refine cint ?_ | refine cstr ?_) | ((with_reducible show wpAny _ _ (eval (Expr.Name _ _) _) _ _ _); k_here; k_dflt (refine' nameX_L (hd := ?d) ?F ?v ?_ ?a ?b; (case F => k_asm); (case a => rfl); (case b => rfl); (case v => rfl); (case d => rfl); k_whole)) | ((with_reducible show wpAny _ _ (storeName _ _ _) _ _ _); k_here; k_dflt (refine' storeX_M ?F ?N ?_ ?a ?b; (case F => k_asm); (case N => k_asm); (case a => rfl); (case b => rfl); k_whole; intro h_m m_m F_m N_m; (try k_sweep))) | ((with_reducible show wpAny _ _ (exec _ _) _ _ _); k_fold) | (k_unfold; (try dsimp only)) | (k_end; kc_close) | walk1 | (dsimp only; walk1) | (leave1; (try dsimp only)) | fail "no step"))
    refine ce_end (by assumption) (by assumption) (fun p hp => hp) off3 ?_
    rw [take_snoc hn, List.map_append]
    exact ints_snoc hJ _ _
  · intro g ys hJ D' h' tk kF2 kN2 hoff1
    rw [List.take_of_length_le (by unfold kvsOf; rw [List.length_map]; exact Nat.le_refl _)] at hJ
    (repeat' (first | ((with_reducible show wpAny _ _ _ _ _ (Shared.mk _ (Shared.gens _) _ _ _)); (with_reducible first | refine fl_c ?_ rfl | refine fl_a (by assumption) ?_ rfl | refine fl_b (by assumption) ?_ rfl); (fail_if_success (with_reducible show wpAny _ _ _ _ _ (Shared.mk _ (Shared.gens _) _ _ _)))) | ((with_reducible show wpAny _ _ _ _ _ (Shared.mk _ _ _ (_ + _ + _ + _) _)); (with_reducible refine tk_gen ?_); intro tk_m) | (k_here; (with_reducible show wpAny _ _ (exec (Stmt.Assign _ (Expr.ListComp (Expr.List _ _) _ _ _) _) _) _ _ _); k_dflt (refine comp_AL (by k_asm) (by rfl) (by with_unfolding_all rfl) (by with_unfolding_all rfl) (by decide) (by rfl) (by decide) (by rfl) (by rfl) (by rfl) ?_)) | ((with_reducible show wpAny _ _ (eval (Expr.Constant _ _ _) _) _ _ _); with_reducible first | refine cint ?_ | refine cstr ?_) | ((with_reducible show wpAny _ _ (eval (Expr.Name _ _) _) _ _ _); k_here; k_dflt (refine' nameX_L (hd := ?d) ?F ?v ?_ ?a ?b; (case F => k_asm); (case a => rfl); (case b => rfl); (case v => rfl); (case d => rfl); k_whole)) | ((with_reducible show wpAny _ _ (storeName _ _ _) _ _ _); k_here; k_dflt (refine' storeX_M ?F ?N ?_ ?a ?b; (case F => k_asm); (case N => k_asm); (case a => rfl); (case b => rfl); k_whole; intro h_m m_m F_m N_m; (try k_sweep))) | ((with_reducible show wpAny _ _ (exec _ _) _ _ _); k_fold) | (k_unfold; (try dsimp only)) | (k_end; kc_close) | walk1 | (dsimp only; walk1) | (leave1; (try dsimp only)) | fail "no step"))
    refine kso_max kF2 kN2 (News.isList kN2 (.head _)) hJ ?hne rfl fun h' M t' tk' F' N' hm hmx => ?_
    case hne => have := tr_pos hT; rw [List.length_map] at this ⊢; exact this
    obtain ⟨Mn, rfl, hM1, hM2⟩ : ∃ Mn : Nat, M = (Mn : Int) ∧ (∃ q ∈ T.map (·.1.1), htN (T.map (·.1.1)) q = Mn) ∧ ∀ q ∈ T.map (·.1.1), htN (T.map (·.1.1)) q ≤ Mn := by
      obtain ⟨n, hn, rfl⟩ := List.mem_map.mp hm
      refine ⟨_, rfl, ⟨_, List.mem_map.mpr ⟨n, hn, rfl⟩, rfl⟩, fun q hq => ?_⟩
      obtain ⟨n2, hn2, rfl⟩ := List.mem_map.mp hq
      exact Int.ofNat_le.mp (hmx _ (List.mem_map.mpr ⟨n2, hn2, rfl⟩))
    have hM3 : Mn ≤ 100 := by
      obtain ⟨q, hq, rfl⟩ := hM1
      by_cases z : 0 < htN (T.map (·.1.1)) q
      · obtain ⟨p, h1, _, _, h4⟩ := ex_ht z
        obtain ⟨n, hn, rfl⟩ := List.mem_map.mp h1
        have := (tr_mem hT n.1 (List.mem_map.mpr ⟨n, hn, rfl⟩)).2.1
        rw [List.length_map] at this
        omega
      · omega
    clear kF2 kN2 hm hmx hJ kN
    replace N' : News _ L _ [(L + 1, o1), (dW, oW)] := News.sub N' (by k_allIn)
    (repeat' (first | ((with_reducible show wpAny _ _ _ _ _ (Shared.mk _ (Shared.gens _) _ _ _)); (with_reducible first | refine fl_c ?_ rfl | refine fl_a (by assumption) ?_ rfl | refine fl_b (by assumption) ?_ rfl); (fail_if_success (with_reducible show wpAny _ _ _ _ _ (Shared.mk _ (Shared.gens _) _ _ _)))) | ((with_reducible show wpAny _ _ _ _ _ (Shared.mk _ _ _ (_ + _ + _ + _) _)); (with_reducible refine tk_gen ?_); intro tk_m) | ((with_reducible show wpAny _ _ (call (Value.type "range") _ _) _ _ _); (k_here; refine hold2 ?_)) | ((with_reducible show wpAny _ _ (eval (Expr.Constant _ _ _) _) _ _ _); with_reducible first | refine cint ?_ | refine cstr ?_) | ((with_reducible show wpAny _ _ (eval (Expr.Name _ _) _) _ _ _); k_here; k_dflt (refine' nameX_L (hd := ?d) ?F ?v ?_ ?a ?b; (case F => k_asm); (case a => rfl); (case b => rfl); (case v => rfl); (case d => rfl); k_whole)) | ((with_reducible show wpAny _ _ (storeName _ _ _) _ _ _); k_here; k_dflt (refine' storeX_M ?F ?N ?_ ?a ?b; (case F => k_asm); (case N => k_asm); (case a => rfl); (case b => rfl); k_whole; intro h_m m_m F_m N_m; (try k_sweep))) | ((with_reducible show wpAny _ _ (exec _ _) _ _ _); k_fold) | (k_unfold; (try dsimp only)) | (k_end; kc_close) | walk1 | (dsimp only; walk1) | (leave1; (try dsimp only)) | fail "no step"))
    refine unhold2 ?_
    rw [show ((Mn : Int) + 1) = ((Mn + 1 : Nat) : Int) from rfl]
    (with_reducible rename Fr _ _ _ _ => kF2); (with_reducible rename News _ _ _ _ => kN2)
    refine call_rangeL kF2 kN2 fun r t1 t2 t3 h' tk' F' N' l1 => ?_
    clear kF2 kN2
    (repeat' (first | ((with_reducible show wpAny _ _ _ _ _ (Shared.mk _ (Shared.gens _) _ _ _)); (with_reducible first | refine fl_c ?_ rfl | refine fl_a (by assumption) ?_ rfl | refine fl_b (by assumption) ?_ rfl); (fail_if_success (with_reducible show wpAny _ _ _ _ _ (Shared.mk _ (Shared.gens _) _ _ _)))) | ((with_reducible show wpAny _ _ _ _ _ (Shared.mk _ _ _ (_ + _ + _ + _) _)); (with_reducible refine tk_gen ?_); intro tk_m) | ((with_reducible show wpAny _ _ (eval (Expr.Constant _ _ _) _) _ _ _); with_reducible first | refine cint ?_ | refine cstr ?_) | ((with_reducible show wpAny _ _ (eval (Expr.Name _ _) _) _ _ _); k_here; k_dflt (refine' nameX_L (hd := ?d) ?F ?v ?_ ?a ?b; (case F => k_asm); (case a => rfl); (case b => rfl); (case v => rfl); (case d => rfl); k_whole)) | ((with_reducible show wpAny _ _ (storeName _ _ _) _ _ _); k_here; k_dflt (refine' storeX_M ?F ?N ?_ ?a ?b; (case F => k_asm); (case N => k_asm); (case a => rfl); (case b => rfl); k_whole; intro h_m m_m F_m N_m; (try k_sweep))) | ((with_reducible show wpAny _ _ (exec _ _) _ _ _); k_fold) | (k_unfold; (try dsimp only)) | (k_end; kc_close) | walk1 | (dsimp only; walk1) | (leave1; (try dsimp only)) | fail "no step"))
    refine csrc_L (Fresh [(r, rngO (Mn + 1) t1 t2 t3), (L + 1, o1), (dW, oW)]) (Itc.range (n := Mn + 1) (t := t1) (u := t2) (v := t3) rfl (by omega)) trivial F' N' (fun i ys nw hJ => by obtain ⟨rs, _, rfl, _⟩ := hJ; exact .inr (List.mem_append_right _ (.head _))) (by rw [sizeLine_eq]; omega) ⟨[], rfl, rfl, rfl, (fun _ h => nomatch h), List.nodup_nil, (fun _ h => nomatch h)⟩ ?_ ?_
    · intro i ys nw v I oI C oC D m₂ h tk E' hi hP hJ hC hx kF kN off3 ne3
      (repeat' (first | ((with_reducible show wpAny _ _ _ _ _ (Shared.mk _ (Shared.gens _) _ _ _)); (with_reducible first | refine fl_c ?_ rfl | refine fl_a (by assumption) ?_ rfl | refine fl_b (by assumption) ?_ rfl); (fail_if_success (with_reducible show wpAny _ _ _ _ _ (Shared.mk _ (Shared.gens _) _ _ _)))) | ((with_reducible show wpAny _ _ _ _ _ (Shared.mk _ _ _ (_ + _ + _ + _) _)); (with_reducible refine tk_gen ?_); intro tk_m) | ((with_reducible show wpAny _ _ (eval (Expr.Constant _ _ _) _) _ _ _); with_reducible first | refine cint ?_ | refine cstr ?_) | ((with_reducible show wpAny _ _ (eval (Expr.Name _ _) _) _ _ _); k_here; k_dflt (refine' nameX_L (hd := ?d) ?F ?v ?_ ?a ?b; (case F => k_asm); (case a => rfl); (case b => rfl); (case v => rfl); (case d => rfl); k_whole)) | ((with_reducible show wpAny _ _ (storeName _ _ _) _ _ _); k_here; k_dflt (refine' storeX_M ?F ?N ?_ ?a ?b; (case F => k_asm); (case N => k_asm); (case a => rfl); (case b => rfl); k_whole; intro h_m m_m F_m N_m; (try k_sweep))) | ((with_reducible show wpAny _ _ (exec _ _) _ _ _); k_fold) | (k_unfold; (try dsimp only)) | (k_end; kc_close) | walk1 | (dsimp only; walk1) | (leave1; (try dsimp only)) | fail "no step"))
      (with_reducible rename News _ _ _ _ => kN2)
      refine cap1 kN2 ?_
      intro lr e1
      subst e1
      rename _ ∧ _ ∧ _ ∧ AllLt _ nw => q1
      obtain ⟨q2, q3, q4, q5⟩ := q1
      have q6 := of_allLt q5
      obtain ⟨nw', z1, z2⟩ := hJ.snoc q6
      refine cl_end (by assumption) kN2 (fun p hp => ?_) (Off3.of fun p hp => ?_) z1
      · rcases List.mem_cons.mp hp with e | hp
        · rw [e]; exact .tail _ (.head _)
        · rcases List.mem_cons.mp hp with e | hp
          · rw [e]; exact .tail _ (.tail _ (.head _))
          · rcases List.mem_cons.mp hp with e | hp
            · rw [e]; exact .tail _ (.tail _ (.tail _ (.head _)))
            · rcases z2 p hp with e | h
              · rw [e]; exact .head _
              · exact .tail _ (.tail _ (.tail _ (.tail _ h)))
      · rcases z2 p hp with e | h
        · rw [e]; exact ⟨Nat.ne_of_gt q2, Nat.ne_of_gt q3, Nat.ne_of_gt q4⟩
        · exact off3.mem p h
    · intro g ys nw hJ Lv h' tk kF2 kN2 hoff2
      obtain ⟨rs, rfl, rfl, hrl, hre, hrn, hrg⟩ := hJ
      have hLa : ∀ e ∈ rs, e.1 ≠ Lv := fun e he => off1_at hoff2 _ (List.mem_append_left _ (ls_mem he))
      have hLc : @Ne Nat (L + 1) Lv ∧ @Ne Nat dW Lv := ⟨off1_at hoff2 (L + 1, o1) (List.mem_append_right _ (.tail _ (.head _))), off1_at hoff2 (dW, oW) (List.mem_append_right _ (.tail _ (.tail _ (.head _))))⟩
      replace kN2 : News _ L _ ((Lv, LCg.lst (lsV rs)) :: (L + 1, o1) :: (dW, oW) :: lsLed rs) := fun p hp => kN2 p (by
        rcases List.mem_cons.mp hp with e | hp
        · rw [e]; exact .head _
        · rcases List.mem_cons.mp hp with e | hp
          · rw [e]; exact .tail _ (List.mem_append_right _ (.tail _ (.head _)))
          · rcases List.mem_cons.mp hp with e | hp
            · rw [e]; exact .tail _ (List.mem_append_right _ (.tail _ (.tail _ (.head _))))
            · exact .tail _ (List.mem_append_left _ hp))
      clear hoff2 F' N'
      obtain ⟨own, hown⟩ : ∃ own, own = lsLed rs := ⟨_, rfl⟩
      rw [← hown] at kN2
      (repeat' (first | ((with_reducible show wpAny _ _ _ _ _ (Shared.mk _ (Shared.gens _) _ _ _)); (with_reducible first | refine fl_c ?_ rfl | refine fl_a (by assumption) ?_ rfl | refine fl_b (by assumption) ?_ rfl); (fail_if_success (with_reducible show wpAny _ _ _ _ _ (Shared.mk _ (Shared.gens _) _ _ _)))) | ((with_reducible show wpAny _ _ _ _ _ (Shared.mk _ _ _ (_ + _ + _ + _) _)); (with_reducible refine tk_gen ?_); intro tk_m) | (k_here; (with_reducible show wpAny _ _ (call (Value.builtin "sorted") [Value.ref _]) _ _ _); (refine sorted_paths (by k_asm) (by k_asm) (by k_mem) (by assumption) (by rw [List.length_map]; omega) ?_); intro S_m c_m acc_m srt_m h_m F_m N_m l1_m hp_m hq_m hs_m; (try k_sweep)) | (k_here; (with_reducible show wpAny _ _ (call (Value.type "list") [Value.ref _]) _ _ _); (refine list_paths (by first | rfl | exact (Rm.hh (by assumption))) (by k_asm) (by k_asm) (by k_mem) (by assumption) (by assumption) (by assumption) ?_); intro B_m c_m acc_m h_m tk_m hp_m F_m N_m l1_m; (try k_lt l1_m); (try k_sweep)) | ((with_reducible show wpAny _ _ (exec (Stmt.For (Expr.Name _ _) (Expr.Call _ _ _ _) (_ :: _) [] _) _) _ _ _); (k_here; k_dflt (refine wpAny_For ?_))) | ((with_reducible show wpAny _ _ (eval (Expr.Constant _ _ _) _) _ _ _); with_reducible first | refine cint ?_ | refine cstr ?_) | ((with_reducible show wpAny _ _ (eval (Expr.Name _ _) _) _ _ _); k_here; k_dflt (refine' nameX_L (hd := ?d) ?F ?v ?_ ?a ?b; (case F => k_asm); (case a => rfl); (case b => rfl); (case v => rfl); (case d => rfl); k_whole)) | ((with_reducible show wpAny _ _ (storeName _ _ _) _ _ _); k_here; k_dflt (refine' storeX_M ?F ?N ?_ ?a ?b; (case F => k_asm); (case N => k_asm); (case a => rfl); (case b => rfl); k_whole; intro h_m m_m F_m N_m; (try k_sweep))) | ((with_reducible show wpAny _ _ (exec _ _) _ _ _); k_fold) | (k_unfold; (try dsimp only)) | (k_end; kc_close) | walk1 | (dsimp only; walk1) | (leave1; (try dsimp only)) | fail "no step"))
      (with_reducible rename Fr _ _ _ _ => kF); (with_reducible rename News _ _ _ _ => kN); (rename List (List Nat) => srt); (with_reducible rename PathsAre srt _ => hsp); (with_reducible rename List.Perm _ _ => hperm); (with_reducible rename sortedS _ = true => hsrt)
      (with_reducible rename ∀ p ∈ (_, W.listOf _ _) :: _, p.1 < _ => q1)
      refine cap2 kN ?_
      intro S B e1 e2
      subst e1 e2
      refine capK kN ?_
      intro cS e1
      subst e1
      (rename List (Str × Tok) => accS)
      subst hown
      have hsl : accS.length ≤ 13 := by
        rw [hsp.len, hperm.length_eq, List.length_map]; exact hTl
      have hwl : @LT.lt Nat _ L S := Nat.lt_of_succ_lt (q1 (L + 1, o1) (.tail _ (.tail _ (.head _))))
      have hS1 : @LT.lt Nat _ Lv S := q1 (Lv, _) (.tail _ (.head _))
      have hS2 : @LT.lt Nat _ dW S := q1 (dW, _) (.tail _ (.tail _ (.tail _ (.head _))))
      have hS3 : ∀ e ∈ rs, @LT.lt Nat _ e.1 S := fun e he => q1 (e.1, _) (.tail _ (.tail _ (.tail _ (.tail _ (ls_mem he)))))
      have hS4 : @LT.lt Nat _ (L + 1) S := q1 (L + 1, o1) (.tail _ (.tail _ (.head _)))
      replace kN : News _ L _ ((Lv, LCg.lst (lsV rs)) :: (S, W.listOf (strValues accS).toArray cS) :: (L + 1, o1) :: (dW, oW) :: lsLed rs) := fun p hp => kN p (by
        rcases List.mem_cons.mp hp with e | hp
        · rw [e]; exact .tail _ (.tail _ (.head _))
        · rcases List.mem_cons.mp hp with e | hp
          · rw [e]; exact .head _
          · exact .tail _ (.tail _ (.tail _ hp)))
      clear q1
      refine' for_L (L := L) [Str.ofString "path"] (fun i m nw => ∃ rs', nw = (Lv, LCg.lst (lsV rs)) :: (S, W.listOf (strValues accS).toArray cS) :: (L + 1, o1) :: (dW, oW) :: lsLed rs' ∧ rs'.map (·.1) = rs.map (·.1) ∧ (rs'.map fun e => e.2.1.map (·.1)) = levN (T.map (·.1.1)) Mn (srt.take i)) rfl (Itb.list (o := W.listOf (strValues accS).toArray cS) (items := (strValues accS).toArray) rfl rfl rfl) rfl rfl kF kN (.inr (.tail _ (.head _))) ?h0 ?hJS ?turn ?done
      case h0 => exact ⟨rs, rfl, rfl, lev_nil hrl hre⟩
      case hJS => rintro i m nw ⟨rs', rfl, _⟩; exact .inr (.tail _ (.head _))
      case turn =>
        intro I i v m₁ nw₁ oI h tk hltI hi hP hJ hoff kF kN
        k_fold
        obtain ⟨rs', rfl, hra, hrl'⟩ := hJ
        obtain ⟨q, tq, hq, rfl⟩ := hsp.at hP
        have hq2 := hperm.mem_iff.mp (List.mem_of_getElem? hq)
        (repeat' (first | ((with_reducible show wpAny _ _ _ _ _ (Shared.mk _ (Shared.gens _) _ _ _)); (with_reducible first | refine fl_c ?_ rfl | refine fl_a (by assumption) ?_ rfl | refine fl_b (by assumption) ?_ rfl); (fail_if_success (with_reducible show wpAny _ _ _ _ _ (Shared.mk _ (Shared.gens _) _ _ _)))) | ((with_reducible show wpAny _ _ _ _ _ (Shared.mk _ _ _ (_ + _ + _ + _) _)); (with_reducible refine tk_gen ?_); intro tk_m) | (k_here; (with_reducible show wpAny _ _ (subscriptTail _ _ (Value.ref _) (Value.int _ _)) _ _ _); refine hold2 ?_) | (k_here; (with_reducible show wpAny _ _ (call (Value.ref 348) _ _) _ _ _); refine use_readV (height_spec (by assumption) (by assumption) (by assumption) (by assumption) (by assumption)) (by k_asm) (by k_asm) (by k_asm) (by k_asm) (Rm.le (by first | assumption | (rename (∀ env, Rm _ _) => kR_m; exact kR_m _)) (by decide)) trivial (fun p_m hp_m => by rw [List.mem_singleton.mp hp_m]; k_mem) ?_; intro v_m h_m tk_m hv_m F_m N_m; obtain ⟨t_m, hv_m⟩ := hv_m; subst hv_m; (try k_sweep)) | ((with_reducible show wpAny _ _ (eval (Expr.Subscript _ _ _) _) _ _ _); (k_here; dsimp only)) | ((with_reducible show wpAny _ _ (eval (Expr.Constant _ _ _) _) _ _ _); with_reducible first | refine cint ?_ | refine cstr ?_) | ((with_reducible show wpAny _ _ (eval (Expr.Name _ _) _) _ _ _); k_here; k_dflt (refine' nameX_L (hd := ?d) ?F ?v ?_ ?a ?b; (case F => k_asm); (case a => rfl); (case b => rfl); (case v => rfl); (case d => rfl); k_whole)) | ((with_reducible show wpAny _ _ (storeName _ _ _) _ _ _); k_here; k_dflt (refine' storeX_M ?F ?N ?_ ?a ?b; (case F => k_asm); (case N => k_asm); (case a => rfl); (case b => rfl); k_whole; intro h_m m_m F_m N_m; (try k_sweep))) | ((with_reducible show wpAny _ _ (exec _ _) _ _ _); k_fold) | (k_unfold; (try dsimp only)) | (k_end; kc_close) | walk1 | (dsimp only; walk1) | (leave1; (try dsimp only)) | fail "no step"))
        refine unhold2 ?_
        (with_reducible rename Fr _ _ _ _ => kF2); (with_reducible rename News _ _ _ _ => kN2)
        have hqk : htN (T.map (·.1.1)) q < rs'.length := by
          have h1 := congrArg List.length hra
          rw [List.length_map, List.length_map] at h1
          have := hM2 q hq2
          omega
        have hq100 : htN (T.map (·.1.1)) q ≤ 100 := by have := hM2 q hq2; omega
        obtain ⟨⟨a, ac, ak⟩, he⟩ : ∃ e, rs'[htN (T.map (·.1.1)) q]? = some e := ⟨_, List.getElem?_eq_getElem hqk⟩
        have hea : (lsV rs)[htN (T.map (·.1.1)) q]? = some (.ref a) := by
          rw [lsV_eq hra]; unfold lsV
          rw [List.getElem?_map, he]; rfl
        refine PyProof.Rows.item_list (News.isList kN2 (.tail _ (.head _))) (by omega) (by omega) (x := .ref a) (by rw [Int.toNat_natCast, List.getElem?_toArray]; exact hea) ?_
        obtain ⟨r1, r2, rfl, hr1⟩ : ∃ r1 r2, rs' = r1 ++ (a, ac, ak) :: r2 ∧ r1.length = htN (T.map (·.1.1)) q := by
          refine ⟨rs'.take (htN (T.map (·.1.1)) q), rs'.drop (htN (T.map (·.1.1)) q + 1), ?_, by rw [List.length_take]; omega⟩
          obtain ⟨h1, h2⟩ := List.getElem?_eq_some_iff.mp he
          rw [← h2, ← List.drop_eq_getElem_cons h1, List.take_append_drop]
        have hnd2 : ((r1 ++ (a, ac, ak) :: r2).map (·.1)).Nodup := by rw [hra]; exact hrn
        have hin2 : a ∈ rs.map (·.1) := by rw [← hra]; simp
        obtain ⟨e0, he0, hae⟩ := List.mem_map.mp hin2
        have y1 : @LT.lt Nat _ a I := by have := hltI (e0.1, _) (.tail _ (.tail _ (.tail _ (.tail _ (ls_mem he0))))); rw [← hae]; exact this
        have y2 : @Ne Nat a Lv := by rw [← hae]; exact hLa e0 he0
        have y3 : @LT.lt Nat _ a S := by rw [← hae]; exact hS3 e0 he0
        have y4 : @LT.lt Nat _ (L + 1) a := by rw [← hae]; exact hrg e0 he0 (L + 1, o1) (.tail _ (.head _))
        have y5 : @LT.lt Nat _ dW a := by rw [← hae]; exact hrg e0 he0 (dW, oW) (.tail _ (.tail _ (.head _)))
        obtain ⟨own, hown⟩ : ∃ own, own = lsLed r1 ++ lsLed r2 := ⟨_, rfl⟩
        have y6 : ∀ p ∈ own, p.1 ≠ a := by
          rw [List.map_append, List.map_cons] at hnd2
          rw [List.nodup_append, List.nodup_cons] at hnd2
          obtain ⟨_, ⟨hn1, _⟩, hn2⟩ := hnd2
          intro p hp e
          rw [hown] at hp
          rcases List.mem_append.mp hp with hp | hp
          · obtain ⟨x, hx, rfl⟩ := List.mem_map.mp hp
            exact hn2 x.1 (List.mem_map.mpr ⟨x, hx, rfl⟩) a (.head _) e
          · obtain ⟨x, hx, rfl⟩ := List.mem_map.mp hp
            exact hn1 (List.mem_map.mpr ⟨x, hx, e⟩)
        have hsplit : ∀ (x : Nat × List (Str × Tok) × Nat) p, p ∈ lsLed (r1 ++ x :: r2) ↔ p = (x.1, W.listOf (strValues x.2.1).toArray x.2.2) ∨ p ∈ own := by
          intro x p
          rw [hown]
          unfold lsLed
          simp only [List.map_append, List.map_cons, List.mem_append, List.mem_cons]
          constructor
          · rintro (h | h | h)
            · exact .inr (.inl h)
            · exact .inl h
            · exact .inr (.inr h)
          · rintro (h | h | h)
            · exact .inr (.inl h)
            · exact .inl h
            · exact .inr (.inr h)
        have hacl : ac.length ≤ 100000 := by
          have h1 : ((r1 ++ (a, ac, ak) :: r2).map fun e => e.2.1.map (·.1))[r1.length]? = some (ac.map (·.1)) := by simp
          rw [hrl'] at h1
          unfold levN at h1
          rw [List.getElem?_map] at h1
          obtain ⟨z, _, hz⟩ := Option.map_eq_some_iff.mp h1
          have h2 := congrArg List.length hz
          rw [List.length_map, List.length_map] at h2
          have h3 := List.length_filter_le (fun q => decide (htN (T.map (·.1.1)) q = z)) (srt.take i)
          have h4 := List.length_take_le i srt
          have h5 := hperm.length_eq
          rw [List.length_map] at h5
          have h6 : (srt.take i).length ≤ srt.length := by rw [List.length_take]; omega
          omega
        replace kN2 : News _ L _ ((a, W.listOf (strValues ac).toArray ak) :: (I, oI) :: (Lv, LCg.lst (lsV rs)) :: (S, W.listOf (strValues accS).toArray cS) :: (L + 1, o1) :: (dW, oW) :: own) := fun p hp => kN2 p (by
          rcases List.mem_cons.mp hp with e | hp
          · exact .tail _ (.tail _ (.tail _ (.tail _ (.tail _ ((hsplit _ p).mpr (.inl e))))))
          · simp only [List.mem_cons] at hp ⊢
            rcases hp with h | h | h | h | h | h
            · exact .inl h
            · exact .inr (.inl h)
            · exact .inr (.inr (.inl h))
            · exact .inr (.inr (.inr (.inl h)))
            · exact .inr (.inr (.inr (.inr (.inl h))))
            · exact .inr (.inr (.inr (.inr (.inr ((hsplit _ p).mpr (.inr h)))))))
        (repeat' (first | ((with_reducible show wpAny _ _ _ _ _ (Shared.mk _ (Shared.gens _) _ _ _)); (with_reducible first | refine fl_c ?_ rfl | refine fl_a (by assumption) ?_ rfl | refine fl_b (by assumption) ?_ rfl); (fail_if_success (with_reducible show wpAny _ _ _ _ _ (Shared.mk _ (Shared.gens _) _ _ _)))) | ((with_reducible show wpAny _ _ _ _ _ (Shared.mk _ _ _ (_ + _ + _ + _) _)); (with_reducible refine tk_gen ?_); intro tk_m) | (k_here; (with_reducible show wpAny _ _ (call (Value.builtin "list.append") [Value.ref _, Value.str _ _]) _ _ _); k_dflt (refine' append_strs ?k1 ?k2 ?k3 ?z ?_; (case k1 => k_asm); (case k2 => k_asm); (case k3 => k_upd); (case z => first | assumption | omega | (simp only [List.length_append, List.length_singleton, List.length_nil, List.length_cons]; omega)); k_whole); intro h_m F_m N_m; (try k_sweep)) | ((with_reducible show wpAny _ _ (eval (Expr.Constant _ _ _) _) _ _ _); with_reducible first | refine cint ?_ | refine cstr ?_) | ((with_reducible show wpAny _ _ (eval (Expr.Name _ _) _) _ _ _); k_here; k_dflt (refine' nameX_L (hd := ?d) ?F ?v ?_ ?a ?b; (case F => k_asm); (case a => rfl); (case b => rfl); (case v => rfl); (case d => rfl); k_whole)) | ((with_reducible show wpAny _ _ (storeName _ _ _) _ _ _); k_here; k_dflt (refine' storeX_M ?F ?N ?_ ?a ?b; (case F => k_asm); (case N => k_asm); (case a => rfl); (case b => rfl); k_whole; intro h_m m_m F_m N_m; (try k_sweep))) | ((with_reducible show wpAny _ _ (exec _ _) _ _ _); k_fold) | (k_unfold; (try dsimp only)) | (k_end; kc_close) | walk1 | (dsimp only; walk1) | (leave1; (try dsimp only)) | fail "no step"))
        (with_reducible rename News _ _ _ _ => kN3)
        refine tl_next (nw' := (Lv, LCg.lst (lsV rs)) :: (S, W.listOf (strValues accS).toArray cS) :: (L + 1, o1) :: (dW, oW) :: lsLed (r1 ++ (a, ac ++ [(pathS q, tq)], ak + 1) :: r2)) (by assumption) kN3 (fun p hp => ?_) (fun p hp => ?_) ?_ ⟨_, rfl, ?_, ?_⟩
        · simp only [List.mem_cons] at hp ⊢
          rcases hp with h | h | h | h | h | h
          · exact .inr (.inl h)
          · exact .inr (.inr (.inl h))
          · exact .inr (.inr (.inr (.inl h)))
          · exact .inr (.inr (.inr (.inr (.inl h))))
          · exact .inr (.inr (.inr (.inr (.inr (.inl h)))))
          · rcases (hsplit _ p).mp h with h | h
            · exact .inl h
            · exact .inr (.inr (.inr (.inr (.inr (.inr h)))))
        · simp only [List.mem_cons] at hp
          rcases hp with h | h | h | h | h
          · exact hoff p (by rw [h]; exact .head _)
          · exact hoff p (by rw [h]; exact .tail _ (.head _))
          · exact hoff p (by rw [h]; exact .tail _ (.tail _ (.head _)))
          · exact hoff p (by rw [h]; exact .tail _ (.tail _ (.tail _ (.head _))))
          · rcases (hsplit _ p).mp h with h | h
            · rw [h]; exact Nat.ne_of_lt y1
            · exact hoff p (.tail _ (.tail _ (.tail _ (.tail _ ((hsplit (a, ac, ak) p).mpr (.inr h))))))
        · intro z hz; (repeat refine out_st (contains_ne hz (by rfl)) ?_); simp only [mid, hz]; rfl
        · rw [← hra]; simp
        · rw [take_snoc hq]
          exact lev_snoc hrl' hr1.symm (by rw [List.map_append]; rfl)
      case done =>
        intro m₁ nw h' tk hJ kF kN
        obtain ⟨rs', rfl, hra, hrl'⟩ := hJ
        rw [List.take_of_length_le (by rw [List.size_toArray, strv_len, hsp.len]; exact Nat.le_refl _)] at hrl'
        (repeat' (first | ((with_reducible show wpAny _ _ _ _ _ (Shared.mk _ (Shared.gens _) _ _ _)); (with_reducible first | refine fl_c ?_ rfl | refine fl_a (by assumption) ?_ rfl | refine fl_b (by assumption) ?_ rfl); (fail_if_success (with_reducible show wpAny _ _ _ _ _ (Shared.mk _ (Shared.gens _) _ _ _)))) | ((with_reducible show wpAny _ _ _ _ _ (Shared.mk _ _ _ (_ + _ + _ + _) _)); (with_reducible refine tk_gen ?_); intro tk_m) | ((with_reducible show wpAny _ _ (eval (Expr.Constant _ _ _) _) _ _ _); with_reducible first | refine cint ?_ | refine cstr ?_) | ((with_reducible show wpAny _ _ (eval (Expr.Name _ _) _) _ _ _); k_here; k_dflt (refine' nameX_L (hd := ?d) ?F ?v ?_ ?a ?b; (case F => k_asm); (case a => rfl); (case b => rfl); (case v => rfl); (case d => rfl); k_whole)) | ((with_reducible show wpAny _ _ (storeName _ _ _) _ _ _); k_here; k_dflt (refine' storeX_M ?F ?N ?_ ?a ?b; (case F => k_asm); (case N => k_asm); (case a => rfl); (case b => rfl); k_whole; intro h_m m_m F_m N_m; (try k_sweep))) | ((with_reducible show wpAny _ _ (exec _ _) _ _ _); k_fold) | (k_unfold; (try dsimp only)) | (k_end; kc_close) | walk1 | (dsimp only; walk1) | (leave1; (try dsimp only)) | fail "no step"))
        exact ret _ _ _ ((Lv, W.listOf (lsV rs').toArray (lsV rs).length) :: (dW, oW) :: lsLed rs') (Fr.keep (by assumption)) (News.led fun p hp => kN p (by
          rcases List.mem_cons.mp hp with e | hp
          · rw [e, ← lsV_eq hra]; exact .head _
          · rcases List.mem_cons.mp hp with e | hp
            · rw [e]; exact .tail _ (.tail _ (.tail _ (.head _)))
            · exact .tail _ (.tail _ (.tail _ (.tail _ hp))))) ⟨Lv, _, Mn, rs', srt, rfl, rfl, hrl', hperm, hsrt, hM1, hM2⟩

end
noncomputable def leS (a b : Str) : Prop := ¬ (b.cps.toList < a.cps.toList)
theorem leS_trans {a b c : Str} (h : leS a b) (k : leS b c) : leS a c := List.le_trans (l₁ := a.cps.toList) (l₂ := b.cps.toList) (l₃ := c.cps.toList) h k
theorem leS_anti {a b : Str} (h : leS a b) (k : leS b a) : a = b := lst_inj.mp (List.le_antisymm (as := a.cps.toList) (bs := b.cps.toList) h k)
theorem rising_all : ∀ (l : List Str) (p : Str), risingS p l = true → (∀ x ∈ l, leS p x) ∧ l.Pairwise leS
  | [], _, _ => ⟨(fun _ h => nomatch h), .nil⟩
  | x :: r, p, h => by
    unfold risingS at h
    rw [Bool.and_eq_true] at h
    obtain ⟨h1, h2⟩ := h
    have hx : leS p x := by
      rw [ltCps_eq] at h1
      intro hh
      rw [decide_eq_true hh] at h1
      cases h1
    obtain ⟨i1, i2⟩ := rising_all r x h2
    refine ⟨fun y hy => ?_, .cons i1 i2⟩
    rcases List.mem_cons.mp hy with rfl | hy
    · exact hx
    · exact leS_trans hx (i1 y hy)
noncomputable def PwP (l : List (List Nat)) : Prop := l.Pairwise fun a b => leS (pathS a) (pathS b)
theorem pw_of {l : List (List Nat)} (h : sortedS (l.map pathS) = true) : PwP l := by
  cases l with
  | nil => exact .nil
  | cons x r =>
    obtain ⟨h1, h2⟩ := rising_all (r.map pathS) (pathS x) h
    exact .cons (fun y hy => h1 _ (List.mem_map.mpr ⟨y, hy, rfl⟩)) (List.pairwise_map.mp h2)
theorem pw_uniq {a b : List (List Nat)} (hp : a.Perm b) (ha : PwP a) (hb : PwP b) : a = b := hp.eq_of_pairwise (fun x y _ _ h1 h2 => pathS_inj (leS_anti h1 h2)) ha hb
theorem map_inj_paths : ∀ {a b : List (List Nat)}, a.map pathS = b.map pathS → a = b
  | [], [], _ => rfl
  | [], _ :: _, h => by cases h
  | _ :: _, [], h => by cases h
  | x :: a, y :: b, h => by
    rw [List.map_cons, List.map_cons, List.cons.injEq] at h
    rw [pathS_inj h.1, map_inj_paths h.2]
noncomputable def OkP (P : List (List Nat)) (ht : List Nat → Nat) (Rs : List (List (List Nat))) : Prop := Rs.length = ht [] + 1 ∧ ∀ (k : Nat) R, Rs[k]? = some R → R.Nodup ∧ ∀ q, q ∈ R ↔ q ∈ P ∧ ht q = k
theorem ex_map {α β : Type} {f : α → β} : ∀ {l : List β}, (∀ x ∈ l, ∃ a, x = f a) → ∃ r : List α, l = r.map f
  | [], _ => ⟨[], rfl⟩
  | x :: l, h => by
    obtain ⟨a, rfl⟩ := h x (.head _)
    obtain ⟨r, rfl⟩ := ex_map fun y hy => h y (.tail _ hy)
    exact ⟨a :: r, rfl⟩
theorem okR_paths {P : List (List Nat)} {ht : List Nat → Nat} {rounds : List (List Str)} (h : OkR P ht rounds) : ∃ Rs : List (List (List Nat)), rounds = Rs.map (fun R => R.map pathS) ∧ OkP P ht Rs := by
  obtain ⟨Rs, rfl⟩ := ex_map (f := fun R : List (List Nat) => R.map pathS) (l := rounds) fun l hl => by
    obtain ⟨k, hk⟩ := List.getElem?_of_mem hl
    obtain ⟨R, e, _⟩ := h.2 k l hk
    exact ⟨R, e⟩
  refine ⟨Rs, rfl, by rw [← h.1, List.length_map], fun k R hR => ?_⟩
  obtain ⟨R', e, h1, h2⟩ := h.2 k (R.map pathS) (by rw [List.getElem?_map, hR]; rfl)
  obtain rfl := map_inj_paths e
  exact ⟨h1, h2⟩
theorem sorted_levels {P : List (List Nat)} (hnd : P.Nodup) (h0 : [] ∈ P) {Rs Ss : List (List (List Nat))} (hO : OkP P (htN P) Rs) (hl : Ss.length = Rs.length) (hS : ∀ (k : Nat) S R, Ss[k]? = some S → Rs[k]? = some R → S.Perm R ∧ sortedS (S.map pathS) = true)
    {srt : List (List Nat)} (hp : srt.Perm P) (hs : sortedS (srt.map pathS) = true) {M : Nat} (hM1 : ∃ q ∈ P, htN P q = M) (hM2 : ∀ q ∈ P, htN P q ≤ M) (hroot : ∀ q ∈ P, htN P q ≤ htN P []) : Ss.map (fun S => S.map pathS) = levN P M srt := by
  have hM : M = htN P [] := by
    obtain ⟨q, hq, rfl⟩ := hM1
    exact Nat.le_antisymm (hroot q hq) (hM2 [] h0)
  subst hM
  apply List.ext_getElem?
  intro k
  unfold levN
  rw [List.getElem?_map, List.getElem?_map]
  by_cases hk : k < htN P [] + 1
  · have hkS : k < Ss.length := by rw [hl, hO.1]; exact hk
    have hkR : k < Rs.length := by rw [hO.1]; exact hk
    obtain ⟨h1, h2⟩ := hS k Ss[k] Rs[k] (List.getElem?_eq_getElem hkS) (List.getElem?_eq_getElem hkR)
    obtain ⟨h3, h4⟩ := hO.2 k Rs[k] (List.getElem?_eq_getElem hkR)
    rw [List.getElem?_eq_getElem hkS, List.getElem?_range hk]
    simp only [Option.map_some]
    congr 2
    refine pw_uniq (h1.trans ?_) (pw_of h2) (List.Pairwise.filter _ (pw_of hs))
    refine (List.perm_ext_iff_of_nodup h3 (List.Pairwise.filter _ (hp.nodup_iff.mpr hnd))).mpr fun q => ?_
    rw [h4, List.mem_filter, hp.mem_iff, decide_eq_true_eq]
  · rw [List.getElem?_eq_none (by rw [hl, hO.1]; omega), List.getElem?_eq_none (by simp; omega)]; rfl
theorem flat_ok {P : List (List Nat)} {ht : List Nat → Nat} {Rs : List (List (List Nat))} (hO : OkP P ht Rs) (hle : ∀ q ∈ P, ht q ≤ ht []) : Rs.flatten.Nodup ∧ (∀ q, q ∈ Rs.flatten ↔ q ∈ P) ∧ Rs.flatten.Pairwise (fun x y => ht x ≤ ht y) := by
  have hin : ∀ R ∈ Rs, ∃ k, Rs[k]? = some R := fun R hR => List.getElem?_of_mem hR
  refine ⟨?_, fun q => ?_, ?_⟩
  · refine List.pairwise_flatten.mpr ⟨fun R hR => ?_, ?_⟩
    · obtain ⟨k, hk⟩ := hin R hR
      exact (hO.2 k R hk).1
    · rw [List.pairwise_iff_getElem]
      intro i j hi hj hij x hx y hy e
      have h1 := ((hO.2 i _ (List.getElem?_eq_getElem hi)).2 x).mp hx
      have h2 := ((hO.2 j _ (List.getElem?_eq_getElem hj)).2 y).mp hy
      rw [e, h2.2] at h1
      omega
  · rw [List.mem_flatten]
    constructor
    · rintro ⟨R, hR, hq⟩
      obtain ⟨k, hk⟩ := hin R hR
      exact (((hO.2 k R hk).2 q).mp hq).1
    · intro hq
      have hk : ht q < Rs.length := by rw [hO.1]; have := hle q hq; omega
      exact ⟨Rs[ht q], List.getElem_mem hk, ((hO.2 _ _ (List.getElem?_eq_getElem hk)).2 q).mpr ⟨hq, rfl⟩⟩
  · refine List.pairwise_flatten.mpr ⟨fun R hR => ?_, ?_⟩
    · obtain ⟨k, hk⟩ := hin R hR
      rw [List.pairwise_iff_getElem]
      intro i j hi hj _
      rw [(((hO.2 k R hk).2 _).mp (List.getElem_mem hi)).2, (((hO.2 k R hk).2 _).mp (List.getElem_mem hj)).2]
      exact Nat.le_refl _
    · rw [List.pairwise_iff_getElem]
      intro i j hi hj hij x hx y hy
      rw [(((hO.2 i _ (List.getElem?_eq_getElem hi)).2 x).mp hx).2, (((hO.2 j _ (List.getElem?_eq_getElem hj)).2 y).mp hy).2]
      omega
theorem ht_above {P : List (List Nat)} {ht : List Nat → Nat} (H : HtOk P ht) (hcl : ∀ r c, r ++ [c] ∈ P → r ∈ P) {a : List Nat} {c : Nat} : ∀ n (r : List Nat), r.length = n → a ++ c :: r ∈ P → ht (a ++ c :: r) < ht a := by
  intro n
  induction n with
  | zero => intro r e h; rw [List.length_eq_zero_iff.mp e] at h ⊢; exact H.lt a c h
  | succ n ih =>
    intro r e h
    rcases List.eq_nil_or_concat r with rfl | ⟨s, d, rfl⟩
    · cases e
    · rw [List.concat_eq_append] at *
      rw [show a ++ c :: (s ++ [d]) = (a ++ c :: s) ++ [d] by simp] at h ⊢
      have h1 := H.lt _ d h
      have h2 := ih s (by rw [List.length_append] at e; simpa using e) (hcl _ _ h)
      omega
theorem above_iff {q a : List Nat} : a ∈ aboveN q ↔ ∃ c r, q = a ++ c :: r := by
  unfold aboveN
  constructor
  · intro h
    obtain ⟨k, hk, rfl⟩ := List.mem_map.mp h
    rw [List.mem_reverse, List.mem_range] at hk
    exact ⟨q[k], q.drop (k + 1), by rw [← List.drop_eq_getElem_cons hk, List.take_append_drop]⟩
  · rintro ⟨c, r, rfl⟩
    refine List.mem_map.mpr ⟨a.length, ?_, by rw [List.take_left']; rfl⟩
    rw [List.mem_reverse, List.mem_range]; simp

theorem and_F000 (m : Nat) (h : m / 4096 = 4 ∨ m / 4096 = 8) : m &&& 61440 = m / 4096 * 4096 := by
  have hc : ∀ j, Nat.testBit 61440 j = decide (12 ≤ j ∧ j < 16) := by
    intro j
    by_cases hj : j < 16
    · have : ∀ j : Fin 16, Nat.testBit 61440 j.val = decide (12 ≤ j.val ∧ j.val < 16) := by decide
      exact this ⟨j, hj⟩
    · rw [Nat.testBit_lt_two_pow (Nat.lt_of_lt_of_le (show 61440 < 2 ^ 16 by decide) (Nat.pow_le_pow_right (by decide) (Nat.le_of_not_lt hj)))]
      rw [decide_eq_false (by omega)]
  have key : ∀ q k, m / 4096 = q → q = 2 ^ k → k < 4 → m &&& 61440 = 2 ^ (12 + k) := by
    intro q k hq hk hk4
    refine Nat.eq_of_testBit_eq fun j => ?_
    rw [Nat.testBit_and, hc, Nat.testBit_two_pow]
    by_cases hj : 12 ≤ j ∧ j < 16
    · rw [decide_eq_true hj, Bool.and_true]
      obtain ⟨i, rfl⟩ : ∃ i, j = 12 + i := ⟨j - 12, by omega⟩
      rw [Nat.testBit_eq_decide_div_mod_eq, Nat.pow_add, ← Nat.div_div_eq_div_mul, show (2 : Nat) ^ 12 = 4096 from rfl, hq, hk]
      have := Nat.testBit_eq_decide_div_mod_eq (x := 2 ^ k) (i := i)
      rw [← this, Nat.testBit_two_pow]
      exact decide_eq_decide.mpr (by omega)
    · rw [decide_eq_false hj, Bool.and_false, decide_eq_false (by omega)]
  rcases h with h | h
  · rw [key 4 2 h rfl (by decide), h]
  · rw [key 8 3 h rfl (by decide), h]
theorem mode_nat {m : Int} (h : isDirM m ∨ isRegM m) : ∃ n : Nat, m = (n : Int) ∧ (n / 4096 = 4 ∨ n / 4096 = 8) := by
  rcases h with ⟨r, h0, h1, rfl⟩ | ⟨r, h0, h1, rfl⟩
  · exact ⟨(16384 + r).toNat, by omega, .inl (by omega)⟩
  · exact ⟨(32768 + r).toNat, by omega, .inr (by omega)⟩
theorem first_eq {m : Int} (h : isDirM m ∨ isRegM m) : firstM m = firstN m := by
  obtain ⟨n, rfl, hn⟩ := mode_nat h
  unfold firstM firstN
  rw [show (61440 : Int) = ((61440 : Nat) : Int) from rfl, ba_nat, and_F000 n hn, fd _ (by decide)]
  rcases hn with h | h
  · rw [h, if_pos (by decide), if_pos (by omega)]
  · rw [h, if_neg (by decide), if_neg (by omega)]
theorem first_dir {m : Int} (h : isDirM m) : firstM m = 16832 := by
  rw [first_eq (.inl h)]
  obtain ⟨r, h0, h1, rfl⟩ := h
  unfold firstN
  rw [fd _ (by decide), if_pos (by omega)]
theorem shut_iff {m : Int} (h : isDirM m ∨ isRegM m) : shut m = decide ((m.fdiv 64).fmod 2 = 0) := by
  obtain ⟨n, rfl, _⟩ := mode_nat h
  unfold shut
  refine decide_eq_decide.mpr ?_
  rw [show (64 : Int) = ((64 : Nat) : Int) from rfl, ba_nat, fd _ (by decide), fm _ (by decide), show (64 : Nat) = 2 ^ 6 from rfl]
  by_cases hb : n / 2 ^ 6 % 2 = 1
  · rw [(and_bit n 6).mpr hb]
    constructor
    · intro h; exact absurd h (by decide)
    · intro h; exfalso; omega
  · have h0 : n &&& 2 ^ 6 = 0 := by
      refine Nat.eq_of_testBit_eq fun j => ?_
      rw [Nat.testBit_and, Nat.testBit_two_pow, Nat.zero_testBit]
      by_cases hj : 6 = j
      · subst hj; rw [Nat.testBit_eq_decide_div_mod_eq, decide_eq_false hb]; rfl
      · rw [decide_eq_false hj, Bool.and_false]
    rw [h0]
    constructor
    · intro _; omega
    · intro _; rfl
theorem file_mode {m : Int} (h : isDirM m ∨ isRegM m) : fileF m = rowU m 3 := by
  obtain ⟨n, rfl, hn⟩ := mode_nat h
  exact file_row n hn
theorem first_mode (m : Int) : isDirM (firstN m) ∨ isRegM (firstN m) := by
  unfold firstN
  split
  · exact .inl ⟨448, by decide, by decide, rfl⟩
  · exact .inr ⟨384, by decide, by decide, rfl⟩
theorem set_up {T : List Node} : ∀ n (pre : List (List Nat)), pre.length = n → (∀ l q r, pre = l ++ q :: r → ∀ a ∈ aboveN q, a ∉ l) → (∀ q ∈ pre, ∀ a ∈ aboveN q, shut (firstM (modeOf T a)) = false) →
    setN T pre = (fun p => if p ∈ pre then modeOf T p else firstM (modeOf T p), pre) := by
  intro n
  induction n with
  | zero => intro pre e _ _; rw [List.length_eq_zero_iff.mp e]; rfl
  | succ n ih =>
    intro pre e h1 h2
    rcases List.eq_nil_or_concat pre with rfl | ⟨l, q, rfl⟩
    · cases e
    · rw [List.concat_eq_append] at *
      rw [setN_snoc, ih l (by rw [List.length_append] at e; simpa using e) (fun l' q' r' e' => h1 l' q' (r' ++ [q]) (by rw [e']; simp)) (fun q' h => h2 q' (List.mem_append_left _ h)), step_pos]
      · refine Prod.ext (funext fun p => ?_) rfl
        show (if p = q then modeOf T q else if p ∈ l then modeOf T p else firstM (modeOf T p)) = if p ∈ l ++ [q] then modeOf T p else firstM (modeOf T p)
        by_cases hp : p = q
        · rw [if_pos hp, if_pos (by rw [hp]; simp), hp]
        · rw [if_neg hp]
          by_cases hl : p ∈ l
          · rw [if_pos hl, if_pos (List.mem_append_left _ hl)]
          · rw [if_neg hl, if_neg (by simp [hl, hp])]
      · rw [List.filter_eq_nil_iff]
        intro a ha
        show ¬ (shut (if a ∈ l then modeOf T a else firstM (modeOf T a)) = true)
        rw [if_neg (h1 l q [] rfl a ha), h2 q (by simp) a ha]
        decide
theorem set_down {T : List Node} : ∀ n (pre : List (List Nat)), pre.length = n → (∀ l q r, pre = l ++ q :: r → ∀ a ∈ aboveN q, a ∈ l) → (∀ q ∈ pre, ∀ a ∈ aboveN q, shut (firstM (modeOf T a)) = false) →
    (∀ q ∈ pre, (∀ a ∈ aboveN q, openB T a = true → shut (modeOf T a) = false) ↔ openB T q = true) →
    setN T pre = (fun p => if p ∈ pre ∧ openB T p = true then modeOf T p else firstM (modeOf T p), pre.filter (openB T)) := by
  intro n
  induction n with
  | zero => intro pre e _ _ _; rw [List.length_eq_zero_iff.mp e]; unfold setN; simp
  | succ n ih =>
    intro pre e h1 h2 h3
    rcases List.eq_nil_or_concat pre with rfl | ⟨l, q, rfl⟩
    · cases e
    · rw [List.concat_eq_append] at *
      rw [setN_snoc, ih l (by rw [List.length_append] at e; simpa using e) (fun l' q' r' e' => h1 l' q' (r' ++ [q]) (by rw [e']; simp)) (fun q' h => h2 q' (List.mem_append_left _ h)) (fun q' h => h3 q' (List.mem_append_left _ h))]
      have hab := h1 l q [] rfl
      have hq : q ∈ l ++ [q] := by simp
      have key : ((aboveN q).filter (fun a => shut (if a ∈ l ∧ openB T a = true then modeOf T a else firstM (modeOf T a))) = []) ↔ openB T q = true := by
        rw [List.filter_eq_nil_iff, ← h3 q hq]
        constructor
        · intro h a ha ho
          have := h a ha
          rw [if_pos ⟨hab a ha, ho⟩] at this
          exact Bool.eq_false_iff.mpr this
        · intro h a ha
          by_cases ho : openB T a = true
          · rw [if_pos ⟨hab a ha, ho⟩, h a ha ho]; decide
          · rw [if_neg (fun h => ho h.2), h2 q hq a ha]; decide
      by_cases ho : openB T q = true
      · rw [step_pos (key.mpr ho)]
        refine Prod.ext (funext fun p => ?_) ?_
        · show (if p = q then modeOf T q else if p ∈ l ∧ openB T p = true then modeOf T p else firstM (modeOf T p)) = if p ∈ l ++ [q] ∧ openB T p = true then modeOf T p else firstM (modeOf T p)
          by_cases hp : p = q
          · rw [if_pos hp, if_pos (by rw [hp]; exact ⟨hq, ho⟩), hp]
          · rw [if_neg hp]
            by_cases hl : p ∈ l ∧ openB T p = true
            · rw [if_pos hl, if_pos ⟨List.mem_append_left _ hl.1, hl.2⟩]
            · rw [if_neg hl, if_neg (by intro h; refine hl ⟨?_, h.2⟩; simpa [hp] using h.1)]
        · show l.filter (openB T) ++ [q] = (l ++ [q]).filter (openB T)
          rw [List.filter_append, List.filter_cons_of_pos ho]; rfl
      · rw [step_neg (fun h => ho (key.mp h))]
        refine Prod.ext (funext fun p => ?_) ?_
        · show (if p ∈ l ∧ openB T p = true then modeOf T p else firstM (modeOf T p)) = if p ∈ l ++ [q] ∧ openB T p = true then modeOf T p else firstM (modeOf T p)
          by_cases hl : p ∈ l ∧ openB T p = true
          · rw [if_pos hl, if_pos ⟨List.mem_append_left _ hl.1, hl.2⟩]
          · rw [if_neg hl, if_neg]
            intro h
            rcases List.mem_append.mp h.1 with h4 | h4
            · exact hl ⟨h4, h.2⟩
            · rw [List.mem_singleton.mp h4] at h; exact ho h.2
        · show l.filter (openB T) = (l ++ [q]).filter (openB T)
          rw [List.filter_append, List.filter_cons_of_neg ho]; simp
theorem above_dir {T : List TNode} (hT : Tr (T.map (·.1))) (hcl : ∀ r c, r ++ [c] ∈ T.map (·.1.1) → r ∈ T.map (·.1.1)) {q a : List Nat} (hq : q ∈ T.map (·.1.1)) (ha : a ∈ aboveN q) : ∃ m, (a, m) ∈ T.map (·.1) ∧ isDirM m := by
  obtain ⟨c, r, rfl⟩ := above_iff.mp ha
  have h1 : a ++ [c] ∈ T.map (·.1.1) := closed_pre hcl r.length r (a ++ [c]) rfl (by rw [List.append_assoc]; exact hq)
  obtain ⟨n, hn, e⟩ := List.mem_map.mp h1
  obtain ⟨i, hi⟩ := List.getElem?_of_mem hn
  have h4 : (T.map (·.1))[i]? = some (a ++ [c], n.1.2) := by rw [List.getElem?_map, hi, ← e]; rfl
  obtain ⟨m', h5, h6⟩ := tr_parent hT i a c _ h4
  exact ⟨m', List.mem_of_mem_take h5, h6⟩
theorem openB_iff {T : List TNode} (hT : Tr (T.map (·.1))) (hcl : ∀ r c, r ++ [c] ∈ T.map (·.1.1) → r ∈ T.map (·.1.1)) {q : List Nat} (hq : q ∈ T.map (·.1.1)) : openB (T.map (·.1)) q = true ↔ ∀ a ∈ aboveN q, shut (modeOf (T.map (·.1)) a) = false := by
  unfold openB
  rw [List.all_eq_true]
  constructor
  · intro h a ha
    obtain ⟨m, hm, hd⟩ := above_dir hT hcl hq ha
    have hmo := mode_of (tr_nodup hT) hm
    have h1 := h _ hm
    rw [show modeOf (T.map (·.1)) a = m from hmo, shut_iff (.inl hd)]
    rw [Bool.not_eq_true', Bool.and_eq_false_iff] at h1
    rcases h1 with h1 | h1
    · refine absurd ?_ (of_decide_eq_false h1)
      obtain ⟨c, r, rfl⟩ := above_iff.mp ha
      exact ⟨by simp, ⟨_, rfl⟩⟩
    · exact h1
  · intro h n hn
    rw [Bool.not_eq_true', Bool.and_eq_false_iff]
    by_cases ha : n.1 ≠ q ∧ n.1 <+: q
    · right
      have h1 : n.1 ∈ aboveN q := by
        obtain ⟨h2, t, rfl⟩ := ha
        cases t with
        | nil => simp at h2
        | cons c r => exact above_iff.mpr ⟨c, r, rfl⟩
      have := h _ h1
      rw [mode_of (tr_nodup hT) hn, shut_iff ((tr_mem hT n hn).1)] at this
      exact this
    · left; exact decide_eq_false ha
theorem above_trans {q a b : List Nat} (h : a ∈ aboveN q) (k : b ∈ aboveN a) : b ∈ aboveN q ∧ b.length < a.length := by
  obtain ⟨c, r, rfl⟩ := above_iff.mp h
  obtain ⟨d, s, rfl⟩ := above_iff.mp k
  exact ⟨above_iff.mpr ⟨d, s ++ c :: r, by simp⟩, by simp⟩
theorem open_fix {T : List TNode} (hT : Tr (T.map (·.1))) (hcl : ∀ r c, r ++ [c] ∈ T.map (·.1.1) → r ∈ T.map (·.1.1)) {q : List Nat} (hq : q ∈ T.map (·.1.1)) :
    (∀ a ∈ aboveN q, openB (T.map (·.1)) a = true → shut (modeOf (T.map (·.1)) a) = false) ↔ openB (T.map (·.1)) q = true := by
  rw [openB_iff hT hcl hq]
  constructor
  · intro h
    have key : ∀ n a, a.length = n → a ∈ aboveN q → shut (modeOf (T.map (·.1)) a) = false := by
      intro n
      induction n using Nat.strongRecOn with
      | ind n ih =>
        intro a hl ha
        refine h a ha ((openB_iff hT hcl (above_mem hcl hq ha)).mpr fun b hb => ?_)
        obtain ⟨h1, h2⟩ := above_trans ha hb
        exact ih b.length (by omega) b rfl h1
    exact fun a ha => key _ a rfl ha
  · intro h a ha _; exact h a ha

theorem shut_first {m : Int} (h : isDirM m) : shut (firstM m) = false := by
  have e := shut_iff (m := 16832) (.inl ⟨448, by decide, by decide, rfl⟩)
  rw [first_dir h, e]
  decide
theorem before_of {P : List (List Nat)} {ht : List Nat → Nat} (H : HtOk P ht) (hcl : ∀ r c, r ++ [c] ∈ P → r ∈ P) {os : List (List Nat)} (hin : ∀ q ∈ os, q ∈ P) (hpw : os.Pairwise fun x y => ht x ≤ ht y) : ∀ l q r, os = l ++ q :: r → ∀ a ∈ aboveN q, a ∉ l := by
  rintro l q r rfl a ha hl
  obtain ⟨c, s, rfl⟩ := above_iff.mp ha
  have h1 := (List.pairwise_append.mp hpw).2.2 a hl _ (.head _)
  have h2 := ht_above H hcl s.length s rfl (hin (a ++ c :: s) (by simp))
  omega
section
variable {T : List TNode} (hT : Tr (T.map (·.1))) (hcl : ∀ r c, r ++ [c] ∈ T.map (·.1.1) → r ∈ T.map (·.1.1)) {ht : List Nat → Nat} (H : HtOk (T.map (·.1.1)) ht) {os : List (List Nat)} (hmem : ∀ q, q ∈ os ↔ q ∈ T.map (·.1.1)) (hpw : os.Pairwise fun x y => ht x ≤ ht y)
include hT hcl hmem
theorem dirs_above : ∀ q ∈ os, ∀ a ∈ aboveN q, shut (firstM (modeOf (T.map (·.1)) a)) = false := fun q hq a ha => by
  obtain ⟨m, hm, hd⟩ := above_dir hT hcl ((hmem q).mp hq) ha
  have hmo := mode_of (tr_nodup hT) hm
  dsimp only at hmo
  rw [hmo]
  exact shut_first hd
include H hpw
theorem first_order : (setN (T.map (·.1)) os).2 = toldN (T.map (·.1)) true os ∧ (T.map fun n => fileF ((setN (T.map (·.1)) os).1 n.1.1)) = rowsN (T.map (·.1)) (toldN (T.map (·.1)) true os) := by
  have hb := before_of H hcl (fun q hq => (hmem q).mp hq) hpw
  have hd := dirs_above hT hcl hmem
  have e := set_up os.length os rfl hb hd
  have e2 : toldN (T.map (·.1)) true os = os := by unfold toldN; simp
  rw [e, e2]
  refine ⟨rfl, ?_⟩
  unfold rowsN
  rw [List.map_map]
  refine List.map_congr_left fun n hn => ?_
  have hin : n.1.1 ∈ os := (hmem _).mpr (List.mem_map.mpr ⟨n, hn, rfl⟩)
  have hm1 : n.1 ∈ T.map (·.1) := List.mem_map.mpr ⟨n, hn, rfl⟩
  dsimp only [Function.comp]
  rw [if_pos hin, if_pos hin, mode_of (tr_nodup hT) hm1, file_mode (tr_mem hT n.1 hm1).1]
theorem second_order : (setN (T.map (·.1)) os.reverse).2 = toldN (T.map (·.1)) false os.reverse ∧ (T.map fun n => fileF ((setN (T.map (·.1)) os.reverse).1 n.1.1)) = rowsN (T.map (·.1)) (toldN (T.map (·.1)) false os.reverse) := by
  have hb := before_of H hcl (fun q hq => (hmem q).mp hq) hpw
  have hafter : ∀ l q r, os.reverse = l ++ q :: r → ∀ a ∈ aboveN q, a ∈ l := by
    intro l q r e a ha
    have e2 : os = r.reverse ++ q :: l.reverse := by
      have := congrArg List.reverse e
      rw [List.reverse_reverse, List.reverse_append, List.reverse_cons] at this
      rw [this]; simp
    have h1 := hb _ _ _ e2 a ha
    have hq : q ∈ os := by rw [e2]; simp
    have h2 : a ∈ os := (hmem a).mpr (above_mem hcl ((hmem q).mp hq) ha)
    rw [e2] at h2
    rcases List.mem_append.mp h2 with h | h
    · exact absurd h h1
    · rcases List.mem_cons.mp h with h | h
      · obtain ⟨c, s, e3⟩ := above_iff.mp ha
        rw [h] at e3
        have := congrArg List.length e3
        simp at this
      · exact List.mem_reverse.mp h
  have hmem2 : ∀ q, q ∈ os.reverse ↔ q ∈ T.map (·.1.1) := fun q => by rw [List.mem_reverse]; exact hmem q
  have hd := dirs_above hT hcl hmem2
  have hf := fun q (hq : q ∈ os.reverse) => open_fix hT hcl ((hmem2 q).mp hq)
  have e := set_down os.reverse.length os.reverse rfl hafter hd hf
  have e2 : toldN (T.map (·.1)) false os.reverse = os.reverse.filter (openB (T.map (·.1))) := by unfold toldN; simp
  rw [e, e2]
  refine ⟨rfl, ?_⟩
  unfold rowsN
  rw [List.map_map]
  refine List.map_congr_left fun n hn => ?_
  have hin : n.1.1 ∈ os.reverse := (hmem2 _).mpr (List.mem_map.mpr ⟨n, hn, rfl⟩)
  have hm1 : n.1 ∈ T.map (·.1) := List.mem_map.mpr ⟨n, hn, rfl⟩
  dsimp only [Function.comp]
  rw [mode_of (tr_nodup hT) hm1, first_eq (tr_mem hT n.1 hm1).1]
  by_cases ho : openB (T.map (·.1)) n.1.1 = true
  · rw [if_pos ⟨hin, ho⟩, if_pos (List.mem_filter.mpr ⟨hin, ho⟩), file_mode (tr_mem hT n.1 hm1).1]
  · rw [if_neg (fun h => ho h.2), if_neg (fun h => ho (List.mem_filter.mp h).2), file_mode (first_mode _)]
end
theorem strok_app {a b : Str} (ha : PyData.strOk a = true) (hb : PyData.strOk b = true) : PyData.strOk (a ++ b) = true := by
  unfold PyData.strOk at ha hb ⊢
  rw [Array.all_eq_true'] at ha hb ⊢
  intro c hc
  have : c ∈ a.cps ++ b.cps := hc
  rcases Array.mem_append.mp this with h | h
  · exact ha c h
  · exact hb c h
theorem strok_chr {s : Str} (hs : PyData.strOk s = true) (j : Int) : PyData.strOk (chr s j) = true := by
  unfold PyData.strOk at hs ⊢
  rw [Array.all_eq_true'] at hs ⊢
  intro c hc
  have hc' : c ∈ #[s.cps.getD j.toNat 0] := hc
  have e : c = s.cps.getD j.toNat 0 := by simpa using hc'
  rw [e, Array.getD_eq_getD_getElem?]
  cases h : s.cps[j.toNat]? with
  | none => decide
  | some d => exact hs d (Array.mem_of_getElem? h)
theorem strok_row (m : Int) : PyData.strOk (rowU m 3) = true := by
  have s1 : PyData.strOk (Str.ofString "d") = true := by decide +kernel
  have s2 : PyData.strOk (Str.ofString "-") = true := by decide +kernel
  have s3 : PyData.strOk (Str.ofString "-r") = true := by decide +kernel
  have s4 : PyData.strOk (Str.ofString "-w") = true := by decide +kernel
  have s5 : PyData.strOk (Str.ofString "-xTt") = true := by decide +kernel
  have s6 : PyData.strOk (Str.ofString "-xSs") = true := by decide +kernel
  have h0 : PyData.strOk (rowU m 0) = true := by unfold rowU; split <;> assumption
  have hp : ∀ i, PyData.strOk (rowP m i) = true := fun i => by unfold rowP; exact strok_app (strok_chr s3 _) (strok_chr s4 _)
  have hx : ∀ i, PyData.strOk (rowX m i) = true := fun i => by
    unfold rowX
    split
    · exact strok_chr s5 _
    · exact strok_chr s6 _
  have : ∀ i, PyData.strOk (rowU m i) = true := by
    intro i
    induction i with
    | zero => exact h0
    | succ i ih => rw [rowU]; exact strok_app (strok_app ih (hp i)) (hx i)
  exact this 3
theorem ok_rows (T : List Node) (dn : List (List Nat)) : OkS (rowsN T dn) := by
  intro x hx
  obtain ⟨n, _, rfl⟩ := List.mem_map.mp hx
  exact strok_row _

section
variable {w : World} {A : Around} {Q E : Value → Shared → Prop} {s : Shared} {h₀ : Heap} {L : Addr} {m mg mb : Str → Option Value} {mean : ExcName → Option Value} {led news : List (Addr × Obj)} {f : Addr} {args : List Value} {n : Nat} {pre : Prop} {P : Value → List (Addr × Obj) → Prop}
theorem use_grow (S : Mut w f args n led pre P) (hPl : ∀ v led', P v led' → ∀ p ∈ led, p ∈ led') (F : Fr h₀ L s.heap m) (N : News h₀ L s.heap news) (X : (hd.heap_39 w.params).In h₀) (T : Top vw lo mean mg mb h₀) (R : Rm A n) (hp : pre) (sub : ∀ p ∈ led, p ∈ news)
    (k : ∀ v h' tk' led', P v led' → Fr h₀ L h' m → News h₀ L h' (led' ++ news) → Q v { s with heap := h', toks := tk' }) :
    wpAny (model prg w) A (call (.ref f) args) Q E s := by
  refine wpAny_call (S A _ s h₀ ⟨X, mean, mg, mb, T⟩ F.keep (fun p hp => ⟨(N p (sub p hp)).1, (N p (sub p hp)).2.2⟩) R hp fun v h' tk' led' keep hl p => ?_)
  have ext : Ext s.heap h' := fun b o e => by
    by_cases hb : ∀ p ∈ led, p.1 ≠ b
    · exact keep b o e hb
    · obtain ⟨q, hb⟩ := Classical.not_forall.mp hb
      obtain ⟨hq, hb⟩ := Classical.not_imp.mp hb
      obtain rfl := Classical.not_not.mp hb
      rw [(N q (sub q hq)).1] at e
      cases e
      exact (hl q (hPl v led' p q hq)).1
  refine k v h' tk' led' p (F.keeps ext) fun q hq => ?_
  rcases List.mem_append.mp hq with hq | hq
  · refine ⟨(hl q hq).1, ?_, ?_⟩
    · rcases (hl q hq).2 with h | ⟨r, hr, e⟩
      · intro e
        obtain ⟨o, _, _, ho, _⟩ := F.ns
        rw [e, ho] at h; cases h
      · rw [← e]; exact (N r (sub r hr)).2.1
    · rcases (hl q hq).2 with h | ⟨r, hr, e⟩
      · cases e : h₀.get? q.1 with
        | none => rfl
        | some o => have := F.keep _ _ e; rw [h] at this; cases this
      · rw [← e]; exact (N r (sub r hr)).2.2
  · exact N.grown ext q hq
end

section
example : True := by w_top off; trivial
open LCg LCt
theorem rm_start {env : Env} : Rm (callerA.deeper env) 12 :=
  ⟨rfl, (by show 1 + claimMargin + 1 + 12 < 1000; decide +kernel), (by show 4 + 3 + 20 * 12 < 9900; decide)⟩
noncomputable def SrtJ (Rs : List (List (List Nat))) (B : List (Addr × Obj)) (i : Nat) (ys : List Value) (nw : List (Addr × Obj)) : Prop := ∃ (ss : List (Nat × List (Str × Tok) × Nat)) (Ss : List (List (List Nat))), ys = lsV ss ∧ nw = lsLed ss ++ B ∧ Ss.length = i ∧ (ss.map fun e => e.2.1.map (·.1)) = Ss.map (fun S => S.map pathS) ∧
  ∀ (k : Nat) S R, Ss[k]? = some S → Rs[k]? = some R → S.Perm R ∧ sortedS (S.map pathS) = true
theorem SrtJ.snoc {Rs : List (List (List Nat))} {B : List (Addr × Obj)} {i : Nat} {ys : List Value} {nw : List (Addr × Obj)} (h : SrtJ Rs B i ys nw) {S c : Nat} {acc : List (Str × Tok)} {R srt : List (List Nat)} (hR : Rs[i]? = some R) (hO : PathsAre srt acc) (hp : srt.Perm R) (hs : sortedS (srt.map pathS) = true) :
    ∃ nw', SrtJ Rs B (i + 1) (ys ++ [.ref S]) nw' ∧ ∀ p ∈ nw', p = (S, W.listOf (strValues acc).toArray c) ∨ p ∈ nw := by
  obtain ⟨ss, Ss, rfl, rfl, hl, he, hk⟩ := h
  refine ⟨lsLed (ss ++ [(S, acc, c)]) ++ B, ⟨ss ++ [(S, acc, c)], Ss ++ [srt], by simp [lsV], rfl, by rw [List.length_append, hl]; rfl, ?_, ?_⟩, ?_⟩
  · rw [List.map_append, List.map_append, he]
    exact congrArg (_ ++ [·]) hO
  · intro k S' R' h1 h2
    by_cases h : k < Ss.length
    · rw [List.getElem?_append_left h] at h1
      exact hk k S' R' h1 h2
    · have hk' : k = i := by
        have := (List.getElem?_eq_some_iff.mp h1).1
        rw [List.length_append, List.length_singleton] at this
        omega
      subst hk'
      rw [List.getElem?_append_right (by omega), hl, Nat.sub_self] at h1
      cases h1
      rw [hR] at h2; cases h2
      exact ⟨hp, hs⟩
  · intro p hp
    unfold lsLed at hp ⊢
    rw [List.map_append] at hp
    simp only [List.mem_append, List.map_cons, List.map_nil, List.mem_singleton] at hp ⊢
    rcases hp with (h | h) | h
    · exact .inr (.inl h)
    · exact .inl h
    · exact .inr (.inr h)
theorem slt_nil {fr : List (Addr × Obj)} (h : Slt [] fr) : fr = [] := by
  cases fr with
  | nil => rfl
  | cons _ _ => exact absurd h (by simp [Slt])
theorem round_at {rs : List (Nat × List (Str × Tok) × Nat)} {Rs : List (List (List Nat))} (h : (rs.map fun e => e.2.1.map (·.1)) = Rs.map (fun S => S.map pathS)) {i : Nat} (hi : i < rs.length) : ∃ R, Rs[i]? = some R ∧ PathsAre R (rs[i]).2.1 := by
  have h1 : (rs.map fun e => e.2.1.map (·.1))[i]? = (Rs.map (fun S => S.map pathS))[i]? := by rw [h]
  rw [List.getElem?_map, List.getElem?_map, List.getElem?_eq_getElem hi] at h1
  cases e : Rs[i]? with
  | none => rw [e] at h1; cases h1
  | some R =>
    rw [e] at h1
    simp only [Option.map_some, Option.some.injEq] at h1
    exact ⟨R, rfl, h1⟩
theorem flat_paths {rs : List (Nat × List (Str × Tok) × Nat)} {Rs : List (List (List Nat))} (h : (rs.map fun e => e.2.1.map (·.1)) = Rs.map (fun S => S.map pathS)) : PathsAre Rs.flatten (rs.flatMap (·.2.1)) := by
  unfold PathsAre
  rw [List.map_flatten, ← h, List.map_flatMap, List.flatMap_def]
theorem ok_map {T : List TNode} (hT : Tr (T.map (·.1))) (hTl : T.length ≤ 13) {os : List (List Nat)} (hin : ∀ q ∈ os, q ∈ T.map (·.1.1)) : OkS (os.map pathS) := by
  have h := ok_paths hT hTl (os := os) (acc := os.map fun q => (pathS q, 0)) (by unfold PathsAre; rw [List.map_map]; rfl) hin
  rwa [List.map_map] at h
theorem len_sub {os P : List (List Nat)} (hn : os.Nodup) (hP : P.Nodup) (h : ∀ q, q ∈ os ↔ q ∈ P) : os.length = P.length := ((List.perm_ext_iff_of_nodup hn hP).mpr h).length_eq
theorem mem5 {a b c : Addr × Obj} {l2 : List (Addr × Obj)} : ∀ p ∈ l2, p ∈ a :: b :: c :: l2 := fun p hp => .tail _ (.tail _ (.tail _ hp))
theorem sub2 {x y : Addr × Obj} {l : List (Addr × Obj)} (h1 : x ∈ l) (h2 : y ∈ l) : ∀ p ∈ [x, y], p ∈ l := fun p hp => by
  rcases List.mem_cons.mp hp with e | hp
  · rw [e]; exact h1
  · rw [List.mem_singleton.mp hp]; exact h2
theorem told_sub {T : List Node} {ev : Bool} {os : List (List Nat)} : ∀ q ∈ toldN T ev os, q ∈ os := fun q h => (List.mem_filter.mp h).1
noncomputable def PairP (pa : List (List Nat)) (rw : List Str) (dO kO dW : Nat) (oW : Obj) (ord : List (Str × Tok)) (v : Value) (led : List (Addr × Obj)) : Prop := ∃ (Tp D1 D2 k1 k2 : Nat) (acc rows : List (Str × Tok)), v = .ref Tp ∧ led = [(Tp, { cls := .type "tuple", data := .seq [Value.ref D1, .ref D2].toArray }), (D1, W.listOf (strValues acc).toArray k1), (D2, W.listOf (strValues rows).toArray k2), (dO, W.listOf (strValues ord).toArray kO), (dW, oW)] ∧
      PathsAre pa acc ∧ rows.map (·.1) = rw
theorem PairP.keep {pa : List (List Nat)} {rw : List Str} {dO kO dW : Nat} {oW : Obj} {ord : List (Str × Tok)} (v : Value) (led : List (Addr × Obj)) (h : PairP pa rw dO kO dW oW ord v led) : ∀ p ∈ [(dO, W.listOf (strValues ord).toArray kO), (dW, oW)], p ∈ led := fun p hm => by
  obtain ⟨Tp, D1, D2, k1, k2, acc, rows, _, rfl, _⟩ := h; exact mem5 p hm
section
variable {w : World} {dW dO kO : Nat} {oW : Obj} {T : List TNode} {os : List (List Nat)} {ord : List (Str × Tok)}
theorem set_P (hD : Obj.IsDictOf (PySem.strKind prg w) oW (kvsOf T)) (hT : Tr (T.map (·.1))) (hTl : T.length ≤ 13) (loW : (dW == sysModules) = false) (hcl : ∀ r c, r ++ [c] ∈ T.map (·.1.1) → r ∈ T.map (·.1.1))
    (hO : PathsAre os ord) (hol : os.length ≤ 20) (hin : ∀ q ∈ os, q ∈ T.map (·.1.1)) :
    Mut w 336 [.ref dO, .ref dW] 6 [(dO, W.listOf (strValues ord).toArray kO), (dW, oW)] True (PairP (setN (T.map (·.1)) os).2 (T.map fun n => fileF ((setN (T.map (·.1)) os).1 n.1.1)) dO kO dW oW ord) := set_spec hD hT hTl loW hcl hO hol hin
theorem told_P {ev : Bool} (hD : Obj.IsDictOf (PySem.strKind prg w) oW (kvsOf T)) (hT : Tr (T.map (·.1))) (hTl : T.length ≤ 13) (loW : (dW == sysModules) = false)
    (hO : PathsAre os ord) (hol : os.length ≤ 20) (hin : ∀ q ∈ os, q ∈ T.map (·.1.1)) :
    Mut w 365 [.ref dO, .ref dW, .bool ev] 6 [(dO, W.listOf (strValues ord).toArray kO), (dW, oW)] True (PairP (toldN (T.map (·.1)) ev os) (rowsN (T.map (·.1)) (toldN (T.map (·.1)) ev os)) dO kO dW oW ord) := told_spec hD hT hTl loW hO hol hin
end
noncomputable def LevP (P : List (List Nat)) (dW : Nat) (oW : Obj) (v : Value) (led : List (Addr × Obj)) : Prop := ∃ (D k M : Nat) (rs : List (Nat × List (Str × Tok) × Nat)) (srt : List (List Nat)), v = .ref D ∧ led = (D, W.listOf (lsV rs).toArray k) :: (dW, oW) :: lsLed rs ∧ (rs.map fun e => e.2.1.map (·.1)) = levN P M srt ∧ srt.Perm P ∧ sortedS (srt.map pathS) = true ∧
      (∃ q ∈ P, htN P q = M) ∧ ∀ q ∈ P, htN P q ≤ M
theorem LevP.keep {P : List (List Nat)} {dW : Nat} {oW : Obj} (v : Value) (led : List (Addr × Obj)) (h : LevP P dW oW v led) : ∀ p ∈ [(dW, oW)], p ∈ led := fun p hm => by
  obtain ⟨D, k, M, rs', srt, _, rfl, _⟩ := h; rw [List.mem_singleton.mp hm]; exact .tail _ (.head _)
theorem levels_P {w : World} {dW : Nat} {oW : Obj} {T : List TNode} (hD : Obj.IsDictOf (PySem.strKind prg w) oW (kvsOf T)) (hT : Tr (T.map (·.1))) (hTl : T.length ≤ 13) (loW : (dW == sysModules) = false) : Mut w 353 [.ref dW] 10 [(dW, oW)] True (LevP (T.map (·.1.1)) dW oW) := levels_spec hD hT hTl loW
set_option maxHeartbeats 8000000 in
theorem law_holds : PySem.Challenge.rw_pd0159_01.Holds := hd (by
  k_go0
  all_goals try k_fold
  rename Top _ _ _ _ _ _ => T0
  rename (hd.heap_39 _).In _ => X0
  rename Fr _ _ _ _ => kF
  rename News _ _ _ _ => kN
  rename Heap.IsList _ _ _ => hLi
  rename IntsAre _ _ => hIi
  rename ¬ (_ < _) => hle
  rename List Int => zs
  have hl63 : zs.length ≤ 63 := by omega
  (repeat' (first | ((with_reducible show wpAny _ _ _ _ _ (Shared.mk _ (Shared.gens _) _ _ _)); (with_reducible first | refine fl_c ?_ rfl | refine fl_a (by assumption) ?_ rfl | refine fl_b (by assumption) ?_ rfl); (fail_if_success (with_reducible show wpAny _ _ _ _ _ (Shared.mk _ (Shared.gens _) _ _ _)))) | ((with_reducible show wpAny _ _ _ _ _ (Shared.mk _ _ _ (_ + _ + _ + _) _)); (with_reducible refine tk_gen ?_); intro tk_m) | ((with_reducible show wpAny _ _ (call (Value.ref _) _ _) _ _ _); (k_here; refine hold2 ?_)) | ((with_reducible show wpAny _ _ (eval (Expr.Constant _ _ _) _) _ _ _); with_reducible first | refine cint ?_ | refine cstr ?_) | ((with_reducible show wpAny _ _ (eval (Expr.Name _ _) _) _ _ _); k_here; k_dflt (refine' nameX_L (hd := ?d) ?F ?v ?_ ?a ?b; (case F => k_asm); (case a => rfl); (case b => rfl); (case v => rfl); (case d => rfl); k_whole)) | ((with_reducible show wpAny _ _ (storeName _ _ _) _ _ _); k_here; k_dflt (refine' storeX_M ?F ?N ?_ ?a ?b; (case F => k_asm); (case N => k_asm); (case a => rfl); (case b => rfl); k_whole; intro h_m m_m F_m N_m; (try k_sweep))) | (k_unfold; (try dsimp only)) | (k_end; kc_close) | walk1 | (dsimp only; walk1) | (leave1; (try dsimp only)) | fail "no step"))
  refine unhold2 ?_
  refine use_pur (wished_spec hIi hl63) (by k_asm) (by k_asm) X0 T0 (rm_start.le (by decide)) (by obtain ⟨o, e, r⟩ := hLi; exact ⟨o, kF.keep _ _ e, r⟩) ?_
  intro v h' tk' led kF2 kN2 off2 hp
  obtain ⟨d, o, T, rfl, rfl, hD, hT, hTl, loW⟩ := hp
  clear kF kN
  (repeat' (first | ((with_reducible show wpAny _ _ _ _ _ (Shared.mk _ (Shared.gens _) _ _ _)); (with_reducible first | refine fl_c ?_ rfl | refine fl_a (by assumption) ?_ rfl | refine fl_b (by assumption) ?_ rfl); (fail_if_success (with_reducible show wpAny _ _ _ _ _ (Shared.mk _ (Shared.gens _) _ _ _)))) | ((with_reducible show wpAny _ _ _ _ _ (Shared.mk _ _ _ (_ + _ + _ + _) _)); (with_reducible refine tk_gen ?_); intro tk_m) | ((with_reducible show wpAny _ _ (call (Value.ref _) _ _) _ _ _); (k_here; refine hold2 ?_)) | ((with_reducible show wpAny _ _ (storeName _ _ _) _ _ _); (k_here; dsimp only)) | ((with_reducible show wpAny _ _ (eval (Expr.Constant _ _ _) _) _ _ _); with_reducible first | refine cint ?_ | refine cstr ?_) | ((with_reducible show wpAny _ _ (eval (Expr.Name _ _) _) _ _ _); k_here; k_dflt (refine' nameX_L (hd := ?d) ?F ?v ?_ ?a ?b; (case F => k_asm); (case a => rfl); (case b => rfl); (case v => rfl); (case d => rfl); k_whole)) | ((with_reducible show wpAny _ _ (storeName _ _ _) _ _ _); k_here; k_dflt (refine' storeX_M ?F ?N ?_ ?a ?b; (case F => k_asm); (case N => k_asm); (case a => rfl); (case b => rfl); k_whole; intro h_m m_m F_m N_m; (try k_sweep))) | (k_unfold; (try dsimp only)) | (k_end; kc_close) | walk1 | (dsimp only; walk1) | (leave1; (try dsimp only)) | fail "no step"))
  refine unhold2 ?_
  have hcl := tr_closed hT
  have hH := ht_ok hcl
  have hSch := sched_tree hT hTl
  have hS := rounds_spec hSch hD hT hTl loW
  refine use_mutF hS (outer := []) (frs := []) (rest := []) rfl trivial (by k_asm) (by k_asm) (fun _ h => nomatch h) (fun _ _ _ h => nomatch h) rfl X0 T0 (rm_start.le (by decide)) trivial ?_
  intro v h' tk' led' frs' kF kN _ _ hsl hp
  obtain rfl := slt_nil hsl
  obtain ⟨Rr, kR, rs, rfl, rfl, hOk, hrl, hel⟩ := hp
  obtain ⟨Rs, hRs, hOP⟩ := okR_paths hOk
  replace kN := News.sub kN (fun p (hp : p ∈ ((Rr, W.listOf (lsV rs).toArray kR) :: (d, o) :: lsLed rs : List (Addr × Obj))) => List.mem_append_left _ (List.mem_append_left _ hp))
  clear hsl
  (repeat' (first | ((with_reducible show wpAny _ _ _ _ _ (Shared.mk _ (Shared.gens _) _ _ _)); (with_reducible first | refine fl_c ?_ rfl | refine fl_a (by assumption) ?_ rfl | refine fl_b (by assumption) ?_ rfl); (fail_if_success (with_reducible show wpAny _ _ _ _ _ (Shared.mk _ (Shared.gens _) _ _ _)))) | ((with_reducible show wpAny _ _ _ _ _ (Shared.mk _ _ _ (_ + _ + _ + _) _)); (with_reducible refine tk_gen ?_); intro tk_m) | ((with_reducible show wpAny _ _ (eval (Expr.ListComp _ _ _ _) _) _ _ _); (k_here; refine hold2 ?_)) | ((with_reducible show wpAny _ _ (storeName _ _ _) _ _ _); (k_here; dsimp only)) | ((with_reducible show wpAny _ _ (eval (Expr.Constant _ _ _) _) _ _ _); with_reducible first | refine cint ?_ | refine cstr ?_) | ((with_reducible show wpAny _ _ (eval (Expr.Name _ _) _) _ _ _); k_here; k_dflt (refine' nameX_L (hd := ?d) ?F ?v ?_ ?a ?b; (case F => k_asm); (case a => rfl); (case b => rfl); (case v => rfl); (case d => rfl); k_whole)) | ((with_reducible show wpAny _ _ (storeName _ _ _) _ _ _); k_here; k_dflt (refine' storeX_M ?F ?N ?_ ?a ?b; (case F => k_asm); (case N => k_asm); (case a => rfl); (case b => rfl); k_whole; intro h_m m_m F_m N_m; (try k_sweep))) | (k_unfold; (try dsimp only)) | (k_end; kc_close) | walk1 | (dsimp only; walk1) | (leave1; (try dsimp only)) | fail "no step"))
  refine unhold2 ?_
  k_dflt (refine comp_EL (by k_asm) (by with_unfolding_all rfl) (by decide) (by rfl) (by decide) (by rfl) ?_)
  (repeat' (first | ((with_reducible show wpAny _ _ _ _ _ (Shared.mk _ (Shared.gens _) _ _ _)); (with_reducible first | refine fl_c ?_ rfl | refine fl_a (by assumption) ?_ rfl | refine fl_b (by assumption) ?_ rfl); (fail_if_success (with_reducible show wpAny _ _ _ _ _ (Shared.mk _ (Shared.gens _) _ _ _)))) | ((with_reducible show wpAny _ _ _ _ _ (Shared.mk _ _ _ (_ + _ + _ + _) _)); (with_reducible refine tk_gen ?_); intro tk_m) | ((with_reducible show wpAny _ _ (eval (Expr.Constant _ _ _) _) _ _ _); with_reducible first | refine cint ?_ | refine cstr ?_) | ((with_reducible show wpAny _ _ (eval (Expr.Name _ _) _) _ _ _); k_here; k_dflt (refine' nameX_L (hd := ?d) ?F ?v ?_ ?a ?b; (case F => k_asm); (case a => rfl); (case b => rfl); (case v => rfl); (case d => rfl); k_whole)) | ((with_reducible show wpAny _ _ (storeName _ _ _) _ _ _); k_here; k_dflt (refine' storeX_M ?F ?N ?_ ?a ?b; (case F => k_asm); (case N => k_asm); (case a => rfl); (case b => rfl); k_whole; intro h_m m_m F_m N_m; (try k_sweep))) | (k_unfold; (try dsimp only)) | (k_end; kc_close) | walk1 | (dsimp only; walk1) | (leave1; (try dsimp only)) | fail "no step"))
  (with_reducible rename Fr _ _ _ _ => kF); (with_reducible rename News _ _ _ _ => kN)
  refine csrc_L (SrtJ Rs ((Rr, W.listOf (lsV rs).toArray kR) :: (d, o) :: lsLed rs)) (Itc.list (o := W.listOf (lsV rs).toArray kR) (items := (lsV rs).toArray) rfl rfl rfl) trivial kF kN (fun i ys nw hJ => by obtain ⟨ss, _, _, rfl, _⟩ := hJ; exact .inr (List.mem_append_right _ (.head _))) (by rw [sizeLine_eq, List.size_toArray]; unfold lsV; rw [List.length_map]; omega) ⟨[], [], rfl, rfl, rfl, rfl, fun k S R h => by simp at h⟩ ?_ ?_
  · intro i ys nw v I oI C oC D m₂ h tk E' hi hP hJ hC hx kF kN off3 ne3
    have hi' : i < rs.length := by rw [List.size_toArray] at hi; unfold lsV at hi; rwa [List.length_map] at hi
    obtain rfl := lsV_at hi' hP
    obtain ⟨R, hR, hPR⟩ := round_at hRs hi'
    have hRl : R.length < 64 := by
      have h1 := hPR.len
      have h2 := hel _ (List.getElem_mem hi')
      omega
    have hmem : ((rs[i]).1, W.listOf (strValues (rs[i]).2.1).toArray (rs[i]).2.2) ∈ nw := by
      obtain ⟨ss, _, _, rfl, _⟩ := hJ
      exact List.mem_append_right _ (.tail _ (.tail _ (ls_mem (List.getElem_mem hi'))))
    (repeat' (first | ((with_reducible show wpAny _ _ _ _ _ (Shared.mk _ (Shared.gens _) _ _ _)); (with_reducible first | refine fl_c ?_ rfl | refine fl_a (by assumption) ?_ rfl | refine fl_b (by assumption) ?_ rfl); (fail_if_success (with_reducible show wpAny _ _ _ _ _ (Shared.mk _ (Shared.gens _) _ _ _)))) | ((with_reducible show wpAny _ _ _ _ _ (Shared.mk _ _ _ (_ + _ + _ + _) _)); (with_reducible refine tk_gen ?_); intro tk_m) | ((with_reducible show wpAny _ _ (call (Value.builtin "sorted") _ _) _ _ _); (k_here; refine hold2 ?_)) | ((with_reducible show wpAny _ _ (eval (Expr.Constant _ _ _) _) _ _ _); with_reducible first | refine cint ?_ | refine cstr ?_) | ((with_reducible show wpAny _ _ (eval (Expr.Name _ _) _) _ _ _); k_here; k_dflt (refine' nameX_L (hd := ?d) ?F ?v ?_ ?a ?b; (case F => k_asm); (case a => rfl); (case b => rfl); (case v => rfl); (case d => rfl); k_whole)) | ((with_reducible show wpAny _ _ (storeName _ _ _) _ _ _); k_here; k_dflt (refine' storeX_M ?F ?N ?_ ?a ?b; (case F => k_asm); (case N => k_asm); (case a => rfl); (case b => rfl); k_whole; intro h_m m_m F_m N_m; (try k_sweep))) | (k_unfold; (try dsimp only)) | (k_end; kc_close) | walk1 | (dsimp only; walk1) | (leave1; (try dsimp only)) | fail "no step"))
    refine unhold2 ?_
    (with_reducible rename Fr _ _ _ _ => kF2); (with_reducible rename News _ _ _ _ => kN2)
    refine sorted_paths kF2 kN2 (.tail _ (.tail _ (.tail _ hmem))) hPR hRl ?_
    intro S c acc' srt h' F' N' l1 hp hq hs
    obtain ⟨nw', z1, z2⟩ := hJ.snoc (c := c) hR hp hq hs
    refine cl_end F' N' (fun p hp => ?_) (Off3.of fun p hp => ?_) z1
    · rcases List.mem_cons.mp hp with rfl | hp
      · exact .tail _ (.head _)
      · rcases List.mem_cons.mp hp with rfl | hp
        · exact .tail _ (.tail _ (.head _))
        · rcases List.mem_cons.mp hp with rfl | hp
          · exact .tail _ (.tail _ (.tail _ (.head _)))
          · rcases z2 p hp with e | h
            · rw [e]; exact .head _
            · exact .tail _ (.tail _ (.tail _ (.tail _ h)))
    · rcases z2 p hp with e | h
      · rw [e]
        exact ⟨Ne.symm (Nat.ne_of_lt (l1 _ (.head _))), Ne.symm (Nat.ne_of_lt (l1 _ (.tail _ (.head _)))), Ne.symm (Nat.ne_of_lt (l1 _ (.tail _ (.tail _ (.head _)))))⟩
      · exact off3.mem p h
  · intro g ys nw hJ D' h' tk kF3 kN3 hoff1
    obtain ⟨ss, Ss, rfl, rfl, hSl, hSe, hSk⟩ := hJ
    have hSl' : Ss.length = Rs.length := by
      have h1 := congrArg List.length hRs
      rw [List.length_map, List.length_map] at h1
      rw [hSl, List.size_toArray]; unfold lsV; rw [List.length_map, h1]
    (repeat' (first | ((with_reducible show wpAny _ _ _ _ _ (Shared.mk _ (Shared.gens _) _ _ _)); (with_reducible first | refine fl_c ?_ rfl | refine fl_a (by assumption) ?_ rfl | refine fl_b (by assumption) ?_ rfl); (fail_if_success (with_reducible show wpAny _ _ _ _ _ (Shared.mk _ (Shared.gens _) _ _ _)))) | ((with_reducible show wpAny _ _ _ _ _ (Shared.mk _ _ _ (_ + _ + _ + _) _)); (with_reducible refine tk_gen ?_); intro tk_m) | ((with_reducible show wpAny _ _ (call (Value.ref _) _ _) _ _ _); (k_here; refine hold2 ?_)) | ((with_reducible show wpAny _ _ (eval (Expr.Constant _ _ _) _) _ _ _); with_reducible first | refine cint ?_ | refine cstr ?_) | ((with_reducible show wpAny _ _ (eval (Expr.Name _ _) _) _ _ _); k_here; k_dflt (refine' nameX_L (hd := ?d) ?F ?v ?_ ?a ?b; (case F => k_asm); (case a => rfl); (case b => rfl); (case v => rfl); (case d => rfl); k_whole)) | ((with_reducible show wpAny _ _ (storeName _ _ _) _ _ _); k_here; k_dflt (refine' storeX_M ?F ?N ?_ ?a ?b; (case F => k_asm); (case N => k_asm); (case a => rfl); (case b => rfl); k_whole; intro h_m m_m F_m N_m; (try k_sweep))) | (k_unfold; (try dsimp only)) | (k_end; kc_close) | walk1 | (dsimp only; walk1) | (leave1; (try dsimp only)) | fail "no step"))
    refine unhold2 ?_
    (with_reducible rename Fr _ _ _ _ => kF); (with_reducible rename News _ _ _ _ => kN)
    refine use_grow (levels_P hD hT hTl loW) LevP.keep kF kN X0 T0 (rm_start.le (by decide)) trivial (fun p hp => by rw [List.mem_singleton.mp hp]; exact .tail _ (List.mem_append_right _ (.tail _ (.head _)))) ?_
    intro v h' tk' led' hp kF4 kN4
    obtain ⟨D2, k2, M, rs2, srt, rfl, rfl, hlev, hsp, hss, hM1, hM2⟩ := hp
    (repeat' (first | ((with_reducible show wpAny _ _ _ _ _ (Shared.mk _ (Shared.gens _) _ _ _)); (with_reducible first | refine fl_c ?_ rfl | refine fl_a (by assumption) ?_ rfl | refine fl_b (by assumption) ?_ rfl); (fail_if_success (with_reducible show wpAny _ _ _ _ _ (Shared.mk _ (Shared.gens _) _ _ _)))) | ((with_reducible show wpAny _ _ _ _ _ (Shared.mk _ _ _ (_ + _ + _ + _) _)); (with_reducible refine tk_gen ?_); intro tk_m) | ((with_reducible show wpAny _ _ (compareOp CmpOp.NotEq (Value.ref _) (Value.ref _)) _ _ _); (k_here; refine hold2 ?_)) | ((with_reducible show wpAny _ _ (eval (Expr.Constant _ _ _) _) _ _ _); with_reducible first | refine cint ?_ | refine cstr ?_) | ((with_reducible show wpAny _ _ (eval (Expr.Name _ _) _) _ _ _); k_here; k_dflt (refine' nameX_L (hd := ?d) ?F ?v ?_ ?a ?b; (case F => k_asm); (case a => rfl); (case b => rfl); (case v => rfl); (case d => rfl); k_whole)) | ((with_reducible show wpAny _ _ (storeName _ _ _) _ _ _); k_here; k_dflt (refine' storeX_M ?F ?N ?_ ?a ?b; (case F => k_asm); (case N => k_asm); (case a => rfl); (case b => rfl); k_whole; intro h_m m_m F_m N_m; (try k_sweep))) | (k_unfold; (try dsimp only)) | (k_end; kc_close) | walk1 | (dsimp only; walk1) | (leave1; (try dsimp only)) | fail "no step"))
    refine unhold2 ?_
    have h0 : [] ∈ T.map (·.1.1) := by
      obtain ⟨m, e, _⟩ := tr_root hT
      rw [List.getElem?_map] at e
      cases hn : T[0]? with
      | none => rw [hn] at e; cases e
      | some n =>
        rw [hn] at e
        simp only [Option.map_some, Option.some.injEq] at e
        exact List.mem_map.mpr ⟨n, List.mem_of_getElem? hn, by rw [e]⟩
    have hroot : ∀ q ∈ T.map (·.1.1), htN (T.map (·.1.1)) q ≤ htN (T.map (·.1.1)) [] := fun q hq => hH.root hcl _ q rfl hq
    have heq : (ss.map fun e => e.2.1.map (·.1)) = rs2.map fun e => e.2.1.map (·.1) := by
      rw [hSe, hlev]
      exact sorted_levels (tnodes_nd hT) h0 hOP hSl' hSk hsp hss hM1 hM2 hroot
    have hok : ∀ l ∈ ss.map fun e => e.2.1.map (·.1), OkS l := by
      intro l hl
      rw [hSe] at hl
      obtain ⟨S, hS, rfl⟩ := List.mem_map.mp hl
      obtain ⟨k, hk⟩ := List.getElem?_of_mem hS
      have hkl : k < Rs.length := by rw [← hSl']; exact (List.getElem?_eq_some_iff.mp hk).1
      have h1 := (hSk k S _ hk (List.getElem?_eq_getElem hkl)).1
      exact ok_map hT hTl fun q hq => (((hOP.2 k _ (List.getElem?_eq_getElem hkl)).2 q).mp (h1.mem_iff.mp hq)).1
    (with_reducible rename Fr _ _ _ _ => kF); (with_reducible rename News _ _ _ _ => kN)
    refine ne_ls (aa := ss) (bb := rs2) (kN _ (List.mem_append_right _ (.head _))).1 (kN _ (List.mem_append_left _ (.head _))).1 (fun p hp => (kN p (List.mem_append_right _ (.tail _ (List.mem_append_left _ hp)))).1) (fun p hp => (kN p (List.mem_append_left _ (.tail _ (.tail _ hp)))).1) hok (heq ▸ hok) (by show 4 + 3 + 64 < 9900; decide) ?_
    rw [show (!decide ((ss.map fun e => e.2.1.map (·.1)) = rs2.map fun e => e.2.1.map (·.1))) = false by rw [decide_eq_true heq]; rfl]
    have kN5 := News.sub kN (fun p (hp : p ∈ ((Rr, W.listOf (lsV rs).toArray kR) :: (d, o) :: lsLed rs : List (Addr × Obj))) => List.mem_append_right _ (.tail _ (List.mem_append_right _ hp)))
    clear kN
    obtain ⟨ho1, ho2, ho3⟩ := flat_ok hOP hroot
    have hPA := flat_paths hRs
    generalize Rs.flatten = os at ho1 ho2 ho3 hPA
    have hol : os.length ≤ 20 := by
      have := len_sub ho1 (tnodes_nd hT) ho2
      rw [List.length_map] at this
      omega
    have hfl : (rs.flatMap (·.2.1)).length ≤ sizeLine := by rw [sizeLine_eq]; have := hPA.len; omega
    (repeat' (first | ((with_reducible show wpAny _ _ _ _ _ (Shared.mk _ (Shared.gens _) _ _ _)); (with_reducible first | refine fl_c ?_ rfl | refine fl_a (by assumption) ?_ rfl | refine fl_b (by assumption) ?_ rfl); (fail_if_success (with_reducible show wpAny _ _ _ _ _ (Shared.mk _ (Shared.gens _) _ _ _)))) | ((with_reducible show wpAny _ _ _ _ _ (Shared.mk _ _ _ (_ + _ + _ + _) _)); (with_reducible refine tk_gen ?_); intro tk_m) | ((with_reducible show wpAny _ _ (exec (Stmt.Assign _ (Expr.ListComp _ _ _ _) _) _) _ _ _); (k_here; refine hold1 ?_)) | ((with_reducible show wpAny _ _ (eval (Expr.Constant _ _ _) _) _ _ _); with_reducible first | refine cint ?_ | refine cstr ?_) | ((with_reducible show wpAny _ _ (eval (Expr.Name _ _) _) _ _ _); k_here; k_dflt (refine' nameX_L (hd := ?d) ?F ?v ?_ ?a ?b; (case F => k_asm); (case a => rfl); (case b => rfl); (case v => rfl); (case d => rfl); k_whole)) | ((with_reducible show wpAny _ _ (storeName _ _ _) _ _ _); k_here; k_dflt (refine' storeX_M ?F ?N ?_ ?a ?b; (case F => k_asm); (case N => k_asm); (case a => rfl); (case b => rfl); k_whole; intro h_m m_m F_m N_m; (try k_sweep))) | (k_unfold; (try dsimp only)) | (k_end; kc_close) | walk1 | (dsimp only; walk1) | (leave1; (try dsimp only)) | fail "no step"))
    refine unhold1 ?_
    k_dflt (refine comp_A2 (by k_asm) rfl (by with_unfolding_all rfl) rfl rfl (by with_unfolding_all rfl) (by decide) rfl (by decide) rfl rfl (by rfl) (by rfl) rfl rfl ?_)
    (repeat' (first | ((with_reducible show wpAny _ _ _ _ _ (Shared.mk _ (Shared.gens _) _ _ _)); (with_reducible first | refine fl_c ?_ rfl | refine fl_a (by assumption) ?_ rfl | refine fl_b (by assumption) ?_ rfl); (fail_if_success (with_reducible show wpAny _ _ _ _ _ (Shared.mk _ (Shared.gens _) _ _ _)))) | ((with_reducible show wpAny _ _ _ _ _ (Shared.mk _ _ _ (_ + _ + _ + _) _)); (with_reducible refine tk_gen ?_); intro tk_m) | ((with_reducible show wpAny _ _ (eval (Expr.Constant _ _ _) _) _ _ _); with_reducible first | refine cint ?_ | refine cstr ?_) | ((with_reducible show wpAny _ _ (eval (Expr.Name _ _) _) _ _ _); k_here; k_dflt (refine' nameX_L (hd := ?d) ?F ?v ?_ ?a ?b; (case F => k_asm); (case a => rfl); (case b => rfl); (case v => rfl); (case d => rfl); k_whole)) | ((with_reducible show wpAny _ _ (storeName _ _ _) _ _ _); k_here; k_dflt (refine' storeX_M ?F ?N ?_ ?a ?b; (case F => k_asm); (case N => k_asm); (case a => rfl); (case b => rfl); k_whole; intro h_m m_m F_m N_m; (try k_sweep))) | (k_unfold; (try dsimp only)) | (k_end; kc_close) | walk1 | (dsimp only; walk1) | (leave1; (try dsimp only)) | fail "no step"))
    (with_reducible rename Fr _ _ _ _ => kF6); (with_reducible rename News _ _ _ _ => kN6)
    refine ⟨Rr, kR, rs, _, rfl, kF6, kN6, .head _, (fun p hp => .tail _ (.tail _ hp)), hfl, ?_⟩
    intro dO h' tk kF7 kN7 hoff2
    generalize rs.flatMap (·.2.1) = ord at hPA kF7 kN7 hfl
    have hin : ∀ q ∈ os, q ∈ T.map (·.1.1) := fun q hq => (ho2 q).mp hq
    generalize (strValues ord).length = kO at kN7
    replace kN7 := News.sub kN7 (fun p (hp : p ∈ ([(dO, W.listOf (strValues ord).toArray kO), (d, o)] : List (Addr × Obj))) => by
      rcases List.mem_cons.mp hp with e | hp
      · rw [e]; exact .head _
      · rw [List.mem_singleton.mp hp]; exact .tail _ (.tail _ (.head _)))
    clear kN6 kF6 hoff2
    (repeat' (first | ((with_reducible show wpAny _ _ _ _ _ (Shared.mk _ (Shared.gens _) _ _ _)); (with_reducible first | refine fl_c ?_ rfl | refine fl_a (by assumption) ?_ rfl | refine fl_b (by assumption) ?_ rfl); (fail_if_success (with_reducible show wpAny _ _ _ _ _ (Shared.mk _ (Shared.gens _) _ _ _)))) | ((with_reducible show wpAny _ _ _ _ _ (Shared.mk _ _ _ (_ + _ + _ + _) _)); (with_reducible refine tk_gen ?_); intro tk_m) | ((with_reducible show wpAny _ _ (call (Value.ref _) _ _) _ _ _); (k_here; refine hold2 ?_)) | ((with_reducible show wpAny _ _ (eval (Expr.Constant _ _ _) _) _ _ _); with_reducible first | refine cint ?_ | refine cstr ?_) | ((with_reducible show wpAny _ _ (eval (Expr.Name _ _) _) _ _ _); k_here; k_dflt (refine' nameX_L (hd := ?d) ?F ?v ?_ ?a ?b; (case F => k_asm); (case a => rfl); (case b => rfl); (case v => rfl); (case d => rfl); k_whole)) | ((with_reducible show wpAny _ _ (storeName _ _ _) _ _ _); k_here; k_dflt (refine' storeX_M ?F ?N ?_ ?a ?b; (case F => k_asm); (case N => k_asm); (case a => rfl); (case b => rfl); k_whole; intro h_m m_m F_m N_m; (try k_sweep))) | (k_unfold; (try dsimp only)) | (k_end; kc_close) | walk1 | (dsimp only; walk1) | (leave1; (try dsimp only)) | fail "no step"))
    refine unhold2 ?_
    (with_reducible rename Fr _ _ _ _ => kF); (with_reducible rename News _ _ _ _ => kN)
    have hms : ∀ q, q ∈ os ↔ q ∈ T.map (·.1.1) := ho2
    obtain ⟨f1, f2⟩ := first_order hT hcl hH hms ho3
    obtain ⟨g1, g2⟩ := second_order hT hcl hH hms ho3
    have hsO : ∀ q ∈ (setN (T.map (·.1)) os).2, q ∈ os := by rw [f1]; exact told_sub
    have hsR : ∀ q ∈ (setN (T.map (·.1)) os.reverse).2, q ∈ os.reverse := by rw [g1]; exact told_sub
    refine use_grow (set_P hD hT hTl loW hcl hPA hol hin) PairP.keep kF kN X0 T0 (rm_start.le (by decide)) trivial (sub2 (by k_mem) (by k_mem)) ?_
    intro v h' tk' led' hp kF1 kN1
    obtain ⟨Ta, A1, A2, ka1, ka2, acA, rowA, rfl, rfl, hA1, hA2⟩ := hp
    clear kF kN
    replace kN1 := News.sub kN1 (fun p hp => List.mem_append_left _ hp)
    (repeat' (first | ((with_reducible show wpAny _ _ _ _ _ (Shared.mk _ (Shared.gens _) _ _ _)); (with_reducible first | refine fl_c ?_ rfl | refine fl_a (by assumption) ?_ rfl | refine fl_b (by assumption) ?_ rfl); (fail_if_success (with_reducible show wpAny _ _ _ _ _ (Shared.mk _ (Shared.gens _) _ _ _)))) | ((with_reducible show wpAny _ _ _ _ _ (Shared.mk _ _ _ (_ + _ + _ + _) _)); (with_reducible refine tk_gen ?_); intro tk_m) | ((with_reducible show wpAny _ _ (call (Value.ref _) _ _) _ _ _); (k_here; refine hold2 ?_)) | ((with_reducible show wpAny _ _ (eval (Expr.Constant _ _ _) _) _ _ _); with_reducible first | refine cint ?_ | refine cstr ?_) | ((with_reducible show wpAny _ _ (eval (Expr.Name _ _) _) _ _ _); k_here; k_dflt (refine' nameX_L (hd := ?d) ?F ?v ?_ ?a ?b; (case F => k_asm); (case a => rfl); (case b => rfl); (case v => rfl); (case d => rfl); k_whole)) | ((with_reducible show wpAny _ _ (storeName _ _ _) _ _ _); k_here; k_dflt (refine' storeX_M ?F ?N ?_ ?a ?b; (case F => k_asm); (case N => k_asm); (case a => rfl); (case b => rfl); k_whole; intro h_m m_m F_m N_m; (try k_sweep))) | (k_unfold; (try dsimp only)) | (k_end; kc_close) | walk1 | (dsimp only; walk1) | (leave1; (try dsimp only)) | fail "no step"))
    refine unhold2 ?_
    (with_reducible rename Fr _ _ _ _ => kF); (with_reducible rename News _ _ _ _ => kN)
    refine use_grow (told_P (ev := true) hD hT hTl loW hPA hol hin) PairP.keep kF kN X0 T0 (rm_start.le (by decide)) trivial (sub2 (by k_mem) (by k_mem)) ?_
    intro v h' tk' led' hp kF1 kN1
    obtain ⟨Tb, B1, B2, kb1, kb2, acB, rowB, rfl, rfl, hB1, hB2⟩ := hp
    clear kF kN
    (repeat' (first | ((with_reducible show wpAny _ _ _ _ _ (Shared.mk _ (Shared.gens _) _ _ _)); (with_reducible first | refine fl_c ?_ rfl | refine fl_a (by assumption) ?_ rfl | refine fl_b (by assumption) ?_ rfl); (fail_if_success (with_reducible show wpAny _ _ _ _ _ (Shared.mk _ (Shared.gens _) _ _ _)))) | ((with_reducible show wpAny _ _ _ _ _ (Shared.mk _ _ _ (_ + _ + _ + _) _)); (with_reducible refine tk_gen ?_); intro tk_m) | ((with_reducible show wpAny _ _ (compareOp CmpOp.NotEq (Value.ref _) (Value.ref _)) _ _ _); (k_here; refine hold2 ?_)) | ((with_reducible show wpAny _ _ (eval (Expr.Constant _ _ _) _) _ _ _); with_reducible first | refine cint ?_ | refine cstr ?_) | ((with_reducible show wpAny _ _ (eval (Expr.Name _ _) _) _ _ _); k_here; k_dflt (refine' nameX_L (hd := ?d) ?F ?v ?_ ?a ?b; (case F => k_asm); (case a => rfl); (case b => rfl); (case v => rfl); (case d => rfl); k_whole)) | ((with_reducible show wpAny _ _ (storeName _ _ _) _ _ _); k_here; k_dflt (refine' storeX_M ?F ?N ?_ ?a ?b; (case F => k_asm); (case N => k_asm); (case a => rfl); (case b => rfl); k_whole; intro h_m m_m F_m N_m; (try k_sweep))) | (k_unfold; (try dsimp only)) | (k_end; kc_close) | walk1 | (dsimp only; walk1) | (leave1; (try dsimp only)) | fail "no step"))
    refine unhold2 ?_
    (with_reducible rename Fr _ _ _ _ => kF); (with_reducible rename News _ _ _ _ => kN)
    refine ne_pairs (a1 := acA) (a2 := rowA) (b1 := acB) (b2 := rowB) (A1 := A1) (A2 := A2) (B1 := B1) (B2 := B2) (k1 := ka1) (k2 := ka2) (k3 := kb1) (k4 := kb2) (kN (Ta, _) (by k_mem)).1 (kN (Tb, _) (by k_mem)).1 (kN (A1, _) (by k_mem)).1 (kN (A2, _) (by k_mem)).1 (kN (B1, _) (by k_mem)).1 (kN (B2, _) (by k_mem)).1 ?_ ?_ ?_ ?_ (by show 4 + 3 + 64 < 9900; decide) ?_
    · rw [hA1]; exact ok_map hT hTl fun q hq => hin q (hsO q hq)
    · rw [hA2, f2]; exact ok_rows _ _
    · rw [hB1, ← f1]; exact ok_map hT hTl fun q hq => hin q (hsO q hq)
    · rw [hB2]; exact ok_rows _ _
    rw [show (!decide (acA.map (·.1) = acB.map (·.1) ∧ rowA.map (·.1) = rowB.map (·.1))) = false by rw [decide_eq_true ⟨by rw [hA1, hB1, f1], by rw [hA2, hB2, f2]⟩]; rfl]
    have kN8 := News.sub kN (fun p (hp : p ∈ ([(dO, W.listOf (strValues ord).toArray kO), (d, o)] : List (Addr × Obj))) => sub2 (by k_mem) (by k_mem) p hp)
    clear kN
    (repeat' (first | ((with_reducible show wpAny _ _ _ _ _ (Shared.mk _ (Shared.gens _) _ _ _)); (with_reducible first | refine fl_c ?_ rfl | refine fl_a (by assumption) ?_ rfl | refine fl_b (by assumption) ?_ rfl); (fail_if_success (with_reducible show wpAny _ _ _ _ _ (Shared.mk _ (Shared.gens _) _ _ _)))) | ((with_reducible show wpAny _ _ _ _ _ (Shared.mk _ _ _ (_ + _ + _ + _) _)); (with_reducible refine tk_gen ?_); intro tk_m) | ((with_reducible show wpAny _ _ (subscriptTail (Expr.Name _ _) (Expr.Slice _ _ _ _) (Value.ref _) (Value.ref _)) _ _ _); (k_here; refine hold2 ?_)) | ((with_reducible show wpAny _ _ (eval (Expr.Subscript _ _ _) _) _ _ _); (k_here; dsimp only)) | ((with_reducible show wpAny _ _ (eval (Expr.Constant _ _ _) _) _ _ _); with_reducible first | refine cint ?_ | refine cstr ?_) | ((with_reducible show wpAny _ _ (eval (Expr.Name _ _) _) _ _ _); k_here; k_dflt (refine' nameX_L (hd := ?d) ?F ?v ?_ ?a ?b; (case F => k_asm); (case a => rfl); (case b => rfl); (case v => rfl); (case d => rfl); k_whole)) | ((with_reducible show wpAny _ _ (storeName _ _ _) _ _ _); k_here; k_dflt (refine' storeX_M ?F ?N ?_ ?a ?b; (case F => k_asm); (case N => k_asm); (case a => rfl); (case b => rfl); k_whole; intro h_m m_m F_m N_m; (try k_sweep))) | (k_unfold; (try dsimp only)) | (k_end; kc_close) | walk1 | (dsimp only; walk1) | (leave1; (try dsimp only)) | fail "no step"))
    refine unhold2 ?_
    (with_reducible rename Fr _ _ _ _ => kF); (with_reducible rename News _ _ _ _ => kN)
    refine krv_lit (its := (strValues ord).toArray) (zs := strValues ord.reverse) kF kN (News.isList (items := (strValues ord).toArray) kN (by k_mem)) (IsPart.int _ _) (by simp [strValues]) ?_ (by with_unfolding_all rfl) (fun _ => by rfl) (by rw [sizeLine_eq, List.size_toArray, strv_len, hPA.len]; omega)
    intro R1 h' kF1 kN1 l1
    have hPA' : PathsAre os.reverse ord.reverse := by unfold PathsAre at hPA ⊢; rw [List.map_reverse, List.map_reverse, hPA]
    have hol' : os.reverse.length ≤ 20 := by rw [List.length_reverse]; exact hol
    have hin' : ∀ q ∈ os.reverse, q ∈ T.map (·.1.1) := fun q hq => hin q (List.mem_reverse.mp hq)
    clear kF kN
    (repeat' (first | ((with_reducible show wpAny _ _ _ _ _ (Shared.mk _ (Shared.gens _) _ _ _)); (with_reducible first | refine fl_c ?_ rfl | refine fl_a (by assumption) ?_ rfl | refine fl_b (by assumption) ?_ rfl); (fail_if_success (with_reducible show wpAny _ _ _ _ _ (Shared.mk _ (Shared.gens _) _ _ _)))) | ((with_reducible show wpAny _ _ _ _ _ (Shared.mk _ _ _ (_ + _ + _ + _) _)); (with_reducible refine tk_gen ?_); intro tk_m) | ((with_reducible show wpAny _ _ (call (Value.ref _) _ _) _ _ _); (k_here; refine hold2 ?_)) | ((with_reducible show wpAny _ _ (eval (Expr.Constant _ _ _) _) _ _ _); with_reducible first | refine cint ?_ | refine cstr ?_) | ((with_reducible show wpAny _ _ (eval (Expr.Name _ _) _) _ _ _); k_here; k_dflt (refine' nameX_L (hd := ?d) ?F ?v ?_ ?a ?b; (case F => k_asm); (case a => rfl); (case b => rfl); (case v => rfl); (case d => rfl); k_whole)) | ((with_reducible show wpAny _ _ (storeName _ _ _) _ _ _); k_here; k_dflt (refine' storeX_M ?F ?N ?_ ?a ?b; (case F => k_asm); (case N => k_asm); (case a => rfl); (case b => rfl); k_whole; intro h_m m_m F_m N_m; (try k_sweep))) | (k_unfold; (try dsimp only)) | (k_end; kc_close) | walk1 | (dsimp only; walk1) | (leave1; (try dsimp only)) | fail "no step"))
    refine unhold2 ?_
    (with_reducible rename Fr _ _ _ _ => kF); (with_reducible rename News _ _ _ _ => kN)
    refine use_grow (set_P hD hT hTl loW hcl hPA' hol' hin') PairP.keep kF kN X0 T0 (rm_start.le (by decide)) trivial (sub2 (by k_mem) (by k_mem)) ?_
    intro v h' tk' led' hp kF1 kN1
    obtain ⟨Tc, C1, C2, kc1, kc2, acC, rowC, rfl, rfl, hC1, hC2⟩ := hp
    have kN9 := News.sub kN1 (fun p (hp : p ∈ ((Tc, { cls := .type "tuple", data := .seq [Value.ref C1, .ref C2].toArray }) :: (C1, W.listOf (strValues acC).toArray kc1) :: (C2, W.listOf (strValues rowC).toArray kc2) :: [(dO, W.listOf (strValues ord).toArray kO), (d, o)] : List (Addr × Obj))) => by
      rcases List.mem_cons.mp hp with e | hp
      · rw [e]; exact .head _
      · rcases List.mem_cons.mp hp with e | hp
        · rw [e]; exact .tail _ (.head _)
        · rcases List.mem_cons.mp hp with e | hp
          · rw [e]; exact .tail _ (.tail _ (.head _))
          · exact sub2 (by k_mem) (by k_mem) p hp)
    clear kF kN kN1
    (repeat' (first | ((with_reducible show wpAny _ _ _ _ _ (Shared.mk _ (Shared.gens _) _ _ _)); (with_reducible first | refine fl_c ?_ rfl | refine fl_a (by assumption) ?_ rfl | refine fl_b (by assumption) ?_ rfl); (fail_if_success (with_reducible show wpAny _ _ _ _ _ (Shared.mk _ (Shared.gens _) _ _ _)))) | ((with_reducible show wpAny _ _ _ _ _ (Shared.mk _ _ _ (_ + _ + _ + _) _)); (with_reducible refine tk_gen ?_); intro tk_m) | ((with_reducible show wpAny _ _ (subscriptTail (Expr.Name _ _) (Expr.Slice _ _ _ _) (Value.ref _) (Value.ref _)) _ _ _); (k_here; refine hold2 ?_)) | ((with_reducible show wpAny _ _ (eval (Expr.Subscript _ _ _) _) _ _ _); (k_here; dsimp only)) | ((with_reducible show wpAny _ _ (eval (Expr.Constant _ _ _) _) _ _ _); with_reducible first | refine cint ?_ | refine cstr ?_) | ((with_reducible show wpAny _ _ (eval (Expr.Name _ _) _) _ _ _); k_here; k_dflt (refine' nameX_L (hd := ?d) ?F ?v ?_ ?a ?b; (case F => k_asm); (case a => rfl); (case b => rfl); (case v => rfl); (case d => rfl); k_whole)) | ((with_reducible show wpAny _ _ (storeName _ _ _) _ _ _); k_here; k_dflt (refine' storeX_M ?F ?N ?_ ?a ?b; (case F => k_asm); (case N => k_asm); (case a => rfl); (case b => rfl); k_whole; intro h_m m_m F_m N_m; (try k_sweep))) | (k_unfold; (try dsimp only)) | (k_end; kc_close) | walk1 | (dsimp only; walk1) | (leave1; (try dsimp only)) | fail "no step"))
    refine unhold2 ?_
    (with_reducible rename Fr _ _ _ _ => kF); (with_reducible rename News _ _ _ _ => kN)
    refine krv_lit (its := (strValues ord).toArray) (zs := strValues ord.reverse) kF kN (News.isList (items := (strValues ord).toArray) kN (by k_mem)) (IsPart.int _ _) (by simp [strValues]) ?_ (by with_unfolding_all rfl) (fun _ => by rfl) (by rw [sizeLine_eq, List.size_toArray, strv_len, hPA.len]; omega)
    intro R2 h' kF1 kN1 l1
    clear kF kN
    (repeat' (first | ((with_reducible show wpAny _ _ _ _ _ (Shared.mk _ (Shared.gens _) _ _ _)); (with_reducible first | refine fl_c ?_ rfl | refine fl_a (by assumption) ?_ rfl | refine fl_b (by assumption) ?_ rfl); (fail_if_success (with_reducible show wpAny _ _ _ _ _ (Shared.mk _ (Shared.gens _) _ _ _)))) | ((with_reducible show wpAny _ _ _ _ _ (Shared.mk _ _ _ (_ + _ + _ + _) _)); (with_reducible refine tk_gen ?_); intro tk_m) | ((with_reducible show wpAny _ _ (call (Value.ref _) _ _) _ _ _); (k_here; refine hold2 ?_)) | ((with_reducible show wpAny _ _ (eval (Expr.Constant _ _ _) _) _ _ _); with_reducible first | refine cint ?_ | refine cstr ?_) | ((with_reducible show wpAny _ _ (eval (Expr.Name _ _) _) _ _ _); k_here; k_dflt (refine' nameX_L (hd := ?d) ?F ?v ?_ ?a ?b; (case F => k_asm); (case a => rfl); (case b => rfl); (case v => rfl); (case d => rfl); k_whole)) | ((with_reducible show wpAny _ _ (storeName _ _ _) _ _ _); k_here; k_dflt (refine' storeX_M ?F ?N ?_ ?a ?b; (case F => k_asm); (case N => k_asm); (case a => rfl); (case b => rfl); k_whole; intro h_m m_m F_m N_m; (try k_sweep))) | (k_unfold; (try dsimp only)) | (k_end; kc_close) | walk1 | (dsimp only; walk1) | (leave1; (try dsimp only)) | fail "no step"))
    refine unhold2 ?_
    (with_reducible rename Fr _ _ _ _ => kF); (with_reducible rename News _ _ _ _ => kN)
    refine use_grow (told_P (ev := false) hD hT hTl loW hPA' hol' hin') PairP.keep kF kN X0 T0 (rm_start.le (by decide)) trivial (sub2 (.head _) (by k_mem)) ?_
    intro v h' tk' led' hp kF1 kN1
    obtain ⟨Td, B1, B2, kb1, kb2, acB, rowB, rfl, rfl, hB1, hB2⟩ := hp
    clear kF kN
    (repeat' (first | ((with_reducible show wpAny _ _ _ _ _ (Shared.mk _ (Shared.gens _) _ _ _)); (with_reducible first | refine fl_c ?_ rfl | refine fl_a (by assumption) ?_ rfl | refine fl_b (by assumption) ?_ rfl); (fail_if_success (with_reducible show wpAny _ _ _ _ _ (Shared.mk _ (Shared.gens _) _ _ _)))) | ((with_reducible show wpAny _ _ _ _ _ (Shared.mk _ _ _ (_ + _ + _ + _) _)); (with_reducible refine tk_gen ?_); intro tk_m) | ((with_reducible show wpAny _ _ (compareOp CmpOp.Eq (Value.ref _) (Value.ref _)) _ _ _); (k_here; refine hold2 ?_)) | ((with_reducible show wpAny _ _ (eval (Expr.Constant _ _ _) _) _ _ _); with_reducible first | refine cint ?_ | refine cstr ?_) | ((with_reducible show wpAny _ _ (eval (Expr.Name _ _) _) _ _ _); k_here; k_dflt (refine' nameX_L (hd := ?d) ?F ?v ?_ ?a ?b; (case F => k_asm); (case a => rfl); (case b => rfl); (case v => rfl); (case d => rfl); k_whole)) | ((with_reducible show wpAny _ _ (storeName _ _ _) _ _ _); k_here; k_dflt (refine' storeX_M ?F ?N ?_ ?a ?b; (case F => k_asm); (case N => k_asm); (case a => rfl); (case b => rfl); k_whole; intro h_m m_m F_m N_m; (try k_sweep))) | (k_unfold; (try dsimp only)) | (k_end; kc_close) | walk1 | (dsimp only; walk1) | (leave1; (try dsimp only)) | fail "no step"))
    refine unhold2 ?_
    (with_reducible rename Fr _ _ _ _ => kF); (with_reducible rename News _ _ _ _ => kN)
    refine eq_pairs (a1 := acC) (a2 := rowC) (b1 := acB) (b2 := rowB) (A1 := C1) (A2 := C2) (B1 := B1) (B2 := B2) (k1 := kc1) (k2 := kc2) (k3 := kb1) (k4 := kb2) (kN (Tc, _) (by k_mem)).1 (kN (Td, _) (by k_mem)).1 (kN (C1, _) (by k_mem)).1 (kN (C2, _) (by k_mem)).1 (kN (B1, _) (by k_mem)).1 (kN (B2, _) (by k_mem)).1 ?_ ?_ ?_ ?_ (by show 4 + 3 + 64 < 9900; decide) ?_
    · rw [hC1]; exact ok_map hT hTl fun q hq => hin' q (hsR q hq)
    · rw [hC2, g2]; exact ok_rows _ _
    · rw [hB1, ← g1]; exact ok_map hT hTl fun q hq => hin' q (hsR q hq)
    · rw [hB2]; exact ok_rows _ _
    rw [decide_eq_true (show acC.map (·.1) = acB.map (·.1) ∧ rowC.map (·.1) = rowB.map (·.1) from ⟨by rw [hC1, hB1, g1], by rw [hC2, hB2, g2]⟩)]
    clear kN
    (repeat' (first | ((with_reducible show wpAny _ _ _ _ _ (Shared.mk _ (Shared.gens _) _ _ _)); (with_reducible first | refine fl_c ?_ rfl | refine fl_a (by assumption) ?_ rfl | refine fl_b (by assumption) ?_ rfl); (fail_if_success (with_reducible show wpAny _ _ _ _ _ (Shared.mk _ (Shared.gens _) _ _ _)))) | ((with_reducible show wpAny _ _ _ _ _ (Shared.mk _ _ _ (_ + _ + _ + _) _)); (with_reducible refine tk_gen ?_); intro tk_m) | ((with_reducible show wpAny _ _ (eval (Expr.Constant _ _ _) _) _ _ _); with_reducible first | refine cint ?_ | refine cstr ?_) | ((with_reducible show wpAny _ _ (eval (Expr.Name _ _) _) _ _ _); k_here; k_dflt (refine' nameX_L (hd := ?d) ?F ?v ?_ ?a ?b; (case F => k_asm); (case a => rfl); (case b => rfl); (case v => rfl); (case d => rfl); k_whole)) | ((with_reducible show wpAny _ _ (storeName _ _ _) _ _ _); k_here; k_dflt (refine' storeX_M ?F ?N ?_ ?a ?b; (case F => k_asm); (case N => k_asm); (case a => rfl); (case b => rfl); k_whole; intro h_m m_m F_m N_m; (try k_sweep))) | (k_unfold; (try dsimp only)) | (k_end; kc_close) | walk1 | (dsimp only; walk1) | (leave1; (try dsimp only)) | fail "no step")))

end
end Mine.Internal
set_option maxRecDepth 100000 in
set_option maxHeartbeats 8000000 in
theorem PySem.Challenge.cw_pd0159_01_holds : PySem.Challenge.rw_pd0159_01.Holds := by
  exact Mine.Internal.law_holds

