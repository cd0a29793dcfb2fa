import PyProof.Rows.All
import Wide.All
import OpenK.AllK
import Wide.FinOn
import Lean
import PySem.Challenge.RW_ij0130_01
set_option Elab.async false
local macro_rules | `(tactic| walk_at $s:str) => `(tactic| k_extra $s)
namespace Mine
theorem dsq : PySem.instDecidableEqStr = PySem.instDecidableEqStr := rfl
end Mine
name_quick tw2711585505577850959 for PySem.instDecidableEqStr by Mine.dsq
name_quick tw12046425863553024001 for PySem.instDecidableEqStr by Mine.dsq
name_quick tw8620020772036689432 for PySem.instDecidableEqStr by Mine.dsq
name_quick tw5228443966233409354 for PySem.instDecidableEqStr by Mine.dsq
name_quick tw13316322371389871543 for PySem.instDecidableEqStr by Mine.dsq
name_quick tw18286265847491885052 for PySem.instDecidableEqStr by Mine.dsq
name_quick tw8058433561772132124 for PySem.instDecidableEqStr by Mine.dsq
name_quick tw12835720964997663042 for PySem.instDecidableEqStr by Mine.dsq
name_quick tw2504501939568898240 for PySem.instDecidableEqStr by Mine.dsq
name_quick tw13987355940573415152 for PySem.instDecidableEqStr by Mine.dsq
name_quick tw14489655085307688843 for PySem.instDecidableEqStr by Mine.dsq
name_quick tw2651664433501786496 for PySem.instDecidableEqStr by Mine.dsq
name_quick tw6004533443673955352 for PySem.instDecidableEqStr by Mine.dsq
name_quick tw17517737089405305841 for PySem.instDecidableEqStr by Mine.dsq
name_quick tw9674257727999782656 for PySem.instDecidableEqStr by Mine.dsq
name_quick tw219737044198020058 for PySem.instDecidableEqStr by Mine.dsq
name_quick tw13160144027095335755 for PySem.instDecidableEqStr by Mine.dsq
name_quick tw1379578315556383370 for PySem.instDecidableEqStr by Mine.dsq
name_quick tw14364280277409689854 for PySem.instDecidableEqStr by Mine.dsq
name_quick tw17827458813498177553 for PySem.instDecidableEqStr by Mine.dsq
name_quick tw9011979029575296479 for PySem.instDecidableEqStr by Mine.dsq
name_quick tw9787396351842916947 for PySem.instDecidableEqStr by Mine.dsq
name_quick tw43969757491396457 for PySem.instDecidableEqStr by Mine.dsq
name_quick tw1291980286583624508 for PySem.instDecidableEqStr by Mine.dsq
name_quick tw12494133203773749484 for PySem.instDecidableEqStr by Mine.dsq
name_quick tw2718901123391026995 for PySem.instDecidableEqStr by Mine.dsq
name_quick tw2001226814458364393 for PySem.instDecidableEqStr by Mine.dsq
name_quick tw1258717718454355964 for PySem.instDecidableEqStr by Mine.dsq
name_quick tw15560500314895047343 for PySem.instDecidableEqStr by Mine.dsq
name_quick tw16145008321745377990 for PySem.instDecidableEqStr by Mine.dsq
name_quick tw282004115355043989 for PySem.instDecidableEqStr by Mine.dsq
name_quick tw17244072584429378644 for PySem.instDecidableEqStr by Mine.dsq
name_quick tw5550314157272711993 for PySem.instDecidableEqStr by Mine.dsq
name_quick tw13640514254501968386 for PySem.instDecidableEqStr by Mine.dsq
name_quick tw14460367522058181017 for PySem.instDecidableEqStr by Mine.dsq
name_quick tw9047900276149940361 for PySem.instDecidableEqStr by Mine.dsq
name_quick tw3856783459128436802 for PySem.instDecidableEqStr by Mine.dsq
name_quick tw15079194523842364033 for PySem.instDecidableEqStr by Mine.dsq
name_quick tw11882691865914478047 for PySem.instDecidableEqStr by Mine.dsq
name_quick tw10379131730601215995 for PySem.instDecidableEqStr by Mine.dsq
name_quick tw5758256569797452207 for PySem.instDecidableEqStr by Mine.dsq
name_quick tw18386054884457128365 for PySem.instDecidableEqStr by Mine.dsq
name_quick tw931183843429516998 for PySem.instDecidableEqStr by Mine.dsq
name_quick tw6057444674265745922 for PySem.instDecidableEqStr by Mine.dsq
name_quick tw4172830789200971933 for PySem.instDecidableEqStr by Mine.dsq
name_quick tw774047393022817027 for PySem.instDecidableEqStr by Mine.dsq
name_quick tw16495097172686442475 for PySem.instDecidableEqStr by Mine.dsq
name_quick tw973662469405803806 for PySem.instDecidableEqStr by Mine.dsq
name_quick tw17846936440860909165 for PySem.instDecidableEqStr by Mine.dsq
name_quick tw15059462757989803610 for PySem.instDecidableEqStr by Mine.dsq
name_quick tw17475289236778735526 for PySem.instDecidableEqStr by Mine.dsq
name_quick tw17728961539438068574 for PySem.instDecidableEqStr by Mine.dsq
name_quick tw16427306112580772713 for PySem.instDecidableEqStr by Mine.dsq
name_quick tw937105155873367277 for PySem.instDecidableEqStr by Mine.dsq
name_quick tw195516440579289731 for PySem.instDecidableEqStr by Mine.dsq
name_quick tw9190918148164325157 for PySem.instDecidableEqStr by Mine.dsq
name_quick tw17352973434858128600 for PySem.instDecidableEqStr by Mine.dsq
name_quick tw16048576614497160029 for PySem.instDecidableEqStr by Mine.dsq
name_quick tw17730448691065144110 for PySem.instDecidableEqStr by Mine.dsq
name_quick tw14440140849115353679 for PySem.instDecidableEqStr by Mine.dsq
name_quick tw6135381517318000843 for PySem.instDecidableEqStr by Mine.dsq
name_quick tw12177649209318274912 for PySem.instDecidableEqStr by Mine.dsq
name_quick tw17429684086410527887 for PySem.instDecidableEqStr by Mine.dsq
name_quick tw11629953924900746896 for PySem.instDecidableEqStr by Mine.dsq
name_quick tw16138931208732196661 for PySem.instDecidableEqStr by Mine.dsq
name_quick tw16950312913027304927 for PySem.instDecidableEqStr by Mine.dsq
name_quick tw1188131947540300063 for PySem.instDecidableEqStr by Mine.dsq
name_quick tw10015664371746657536 for PySem.instDecidableEqStr by Mine.dsq
name_quick tw3619232141914619222 for PySem.instDecidableEqStr by Mine.dsq
name_quick tw5854881644878751223 for PySem.instDecidableEqStr by Mine.dsq
name_quick tw4706425542698204933 for PySem.instDecidableEqStr by Mine.dsq
name_quick tw10758392820592806131 for PySem.instDecidableEqStr by Mine.dsq
name_quick tw6900397732965128853 for PySem.instDecidableEqStr by Mine.dsq
name_quick tw6952355047532471503 for PySem.instDecidableEqStr by Mine.dsq
name_quick tw5247225353297040015 for PySem.instDecidableEqStr by Mine.dsq
name_quick tw1184552218554016812 for PySem.instDecidableEqStr by Mine.dsq
name_quick tw2759451637364818457 for PySem.instDecidableEqStr by Mine.dsq
name_quick tw9376109419431680627 for PySem.instDecidableEqStr by Mine.dsq
name_quick tw2637321087531721449 for PySem.instDecidableEqStr by Mine.dsq
name_quick tw189603312586018693 for PySem.instDecidableEqStr by Mine.dsq
name_quick tw2736616831223182526 for PySem.instDecidableEqStr by Mine.dsq
name_quick tw3766158894648301139 for PySem.instDecidableEqStr by Mine.dsq
name_quick tw1355338860687761863 for PySem.instDecidableEqStr by Mine.dsq
name_quick tw757081541053455785 for PySem.instDecidableEqStr by Mine.dsq
name_quick tw682011567655089306 for PySem.instDecidableEqStr by Mine.dsq
name_quick tw13241461904039861399 for PySem.instDecidableEqStr by Mine.dsq
name_quick tw16413264400604254196 for PySem.instDecidableEqStr by Mine.dsq
name_quick tw13471461260053382970 for PySem.instDecidableEqStr by Mine.dsq
name_quick tw17719373434677690450 for PySem.instDecidableEqStr by Mine.dsq
name_quick tw4109823476700235019 for PySem.instDecidableEqStr by Mine.dsq
name_quick tw2948108419219029167 for PySem.instDecidableEqStr by Mine.dsq
name_quick tw15020028541594565831 for PySem.instDecidableEqStr by Mine.dsq
name_quick tw3952652319720093869 for PySem.instDecidableEqStr by Mine.dsq
name_quick tw14952990662201256454 for PySem.instDecidableEqStr by Mine.dsq
name_quick tw7344376507651311505 for PySem.instDecidableEqStr by Mine.dsq
name_quick tw4011157648589011858 for PySem.instDecidableEqStr by Mine.dsq
name_quick tw13180171748994924942 for PySem.instDecidableEqStr by Mine.dsq
name_quick tw12268644228514654432 for PySem.instDecidableEqStr by Mine.dsq
name_quick tw13526986893379352335 for PySem.instDecidableEqStr by Mine.dsq
name_quick tw7449101846280096545 for PySem.instDecidableEqStr by Mine.dsq
name_quick tw17318589155259679147 for PySem.instDecidableEqStr by Mine.dsq
name_quick tw6224646082405213132 for PySem.instDecidableEqStr by Mine.dsq
name_quick tw11765014963103734823 for PySem.instDecidableEqStr by Mine.dsq
name_quick tw460243522976405022 for PySem.instDecidableEqStr by Mine.dsq
name_quick tw17848772402925894760 for PySem.instDecidableEqStr by Mine.dsq
name_quick tw8162909057868654942 for PySem.instDecidableEqStr by Mine.dsq
name_quick tw8704618095886561957 for PySem.instDecidableEqStr by Mine.dsq
name_quick tw18328561965235511954 for PySem.instDecidableEqStr by Mine.dsq
name_quick tw4407734736301137906 for PySem.instDecidableEqStr by Mine.dsq
name_quick tw18247082017555167765 for PySem.instDecidableEqStr by Mine.dsq
name_quick tw13427988762788590312 for PySem.instDecidableEqStr by Mine.dsq
name_quick tw4434333111790514575 for PySem.instDecidableEqStr by Mine.dsq
name_quick tw8172093975534723114 for PySem.instDecidableEqStr by Mine.dsq
name_quick tw13721567128424951087 for PySem.instDecidableEqStr by Mine.dsq
name_quick tw9292931687148149277 for PySem.instDecidableEqStr by Mine.dsq
name_quick tw5978237884098788730 for PySem.instDecidableEqStr by Mine.dsq
name_quick tw6144853644547557980 for PySem.instDecidableEqStr by Mine.dsq
name_quick tw9787463984185863102 for PySem.instDecidableEqStr by Mine.dsq
name_quick tw18350330562280901221 for PySem.instDecidableEqStr by Mine.dsq
name_quick tw17943406268862710625 for PySem.instDecidableEqStr by Mine.dsq
name_quick tw18273839248471157720 for PySem.instDecidableEqStr by Mine.dsq
name_quick tw12821735335276811757 for PySem.instDecidableEqStr by Mine.dsq
name_quick tw12225727855978595839 for PySem.instDecidableEqStr by Mine.dsq
name_quick tw7619357645376055252 for PySem.instDecidableEqStr by Mine.dsq
name_quick tw15468230090516036684 for PySem.instDecidableEqStr by Mine.dsq
name_quick tw11510725203611331906 for PySem.instDecidableEqStr by Mine.dsq
name_quick tw14896874001708588922 for PySem.instDecidableEqStr by Mine.dsq
name_quick tw151948405760981731 for PySem.instDecidableEqStr by Mine.dsq
name_quick tw9759809726879904816 for PySem.instDecidableEqStr by Mine.dsq
name_quick tw5732905514179830355 for PySem.instDecidableEqStr by Mine.dsq
name_quick tw7035115661146626270 for PySem.instDecidableEqStr by Mine.dsq
name_quick tw7313295853046975944 for PySem.instDecidableEqStr by Mine.dsq
name_quick tw13262538273218963204 for PySem.instDecidableEqStr by Mine.dsq
name_quick tw607167704815816724 for PySem.instDecidableEqStr by Mine.dsq
name_quick tw3069475018656635626 for PySem.instDecidableEqStr by Mine.dsq
name_quick tw14311459727803291754 for PySem.instDecidableEqStr by Mine.dsq
name_quick tw6813294653679155843 for PySem.instDecidableEqStr by Mine.dsq
name_quick tw489095991917526796 for PySem.instDecidableEqStr by Mine.dsq
name_quick tw2081053591005667728 for PySem.instDecidableEqStr by Mine.dsq
name_quick tw14186486079044719983 for PySem.instDecidableEqStr by Mine.dsq
name_quick tw11277716924127702174 for PySem.instDecidableEqStr by Mine.dsq
name_quick tw15808557625122938864 for PySem.instDecidableEqStr by Mine.dsq
name_quick tw2968979199505139716 for PySem.instDecidableEqStr by Mine.dsq
name_quick tw14190725551584542720 for PySem.instDecidableEqStr by Mine.dsq
name_quick tw16865151637890581275 for PySem.instDecidableEqStr by Mine.dsq
name_quick tw9285146279643344392 for PySem.instDecidableEqStr by Mine.dsq
name_quick tw4278798014809849964 for PySem.instDecidableEqStr by Mine.dsq
name_quick tw17954736447514056666 for PySem.instDecidableEqStr by Mine.dsq
name_quick tw6937325167468391026 for PySem.instDecidableEqStr by Mine.dsq
name_quick tw11130039905162102590 for PySem.instDecidableEqStr by Mine.dsq
name_quick tw1499420768645567495 for PySem.instDecidableEqStr by Mine.dsq
name_quick tw18101931140130867144 for PySem.instDecidableEqStr by Mine.dsq
name_quick tw799472198861031185 for PySem.instDecidableEqStr by Mine.dsq
name_quick tw18366058095514959488 for PySem.instDecidableEqStr by Mine.dsq
name_quick tw10073347824450446311 for PySem.instDecidableEqStr by Mine.dsq
name_quick tw5149714755402479525 for PySem.instDecidableEqStr by Mine.dsq
name_quick tw15007238320947547705 for PySem.instDecidableEqStr by Mine.dsq
name_quick tw9626942728845285128 for PySem.instDecidableEqStr by Mine.dsq
name_quick tw7393211689510517793 for PySem.instDecidableEqStr by Mine.dsq
name_quick tw6234664779796018075 for PySem.instDecidableEqStr by Mine.dsq
name_quick tw7585139358526817783 for PySem.instDecidableEqStr by Mine.dsq
name_quick tw15168306246750427876 for PySem.instDecidableEqStr by Mine.dsq
name_quick tw10647819351689358120 for PySem.instDecidableEqStr by Mine.dsq
name_quick tw10823345740709935493 for PySem.instDecidableEqStr by Mine.dsq
name_quick tw1617757218408452269 for PySem.instDecidableEqStr by Mine.dsq
name_quick tw15560853006256673968 for PySem.instDecidableEqStr by Mine.dsq
name_quick tw12647630874787467225 for PySem.instDecidableEqStr by Mine.dsq
name_quick tw13342524657329470049 for PySem.instDecidableEqStr by Mine.dsq
name_quick tw6142071019320080357 for PySem.instDecidableEqStr by Mine.dsq
name_quick tw8473563963867554017 for PySem.instDecidableEqStr by Mine.dsq
name_quick tw3891137856419664920 for PySem.instDecidableEqStr by Mine.dsq
name_quick tw8944806292087596576 for PySem.instDecidableEqStr by Mine.dsq
name_quick tw13915792640404377917 for PySem.instDecidableEqStr by Mine.dsq
name_quick tw13789449189825218787 for PySem.instDecidableEqStr by Mine.dsq
name_quick tw16643379632663270332 for PySem.instDecidableEqStr by Mine.dsq
name_quick tw16966814322356759819 for PySem.instDecidableEqStr by Mine.dsq
name_quick tw6606113021469975653 for PySem.instDecidableEqStr by Mine.dsq
name_quick tw4658958612460137192 for PySem.instDecidableEqStr by Mine.dsq
name_quick tw8708707556590381134 for PySem.instDecidableEqStr by Mine.dsq
name_quick tw10257574182948591618 for PySem.instDecidableEqStr by Mine.dsq
name_quick tw17964007177503468958 for PySem.instDecidableEqStr by Mine.dsq
name_quick tw6587116730350146372 for PySem.instDecidableEqStr by Mine.dsq
name_quick tw18310272354389090212 for PySem.instDecidableEqStr by Mine.dsq
name_quick tw9062771732600952553 for PySem.instDecidableEqStr by Mine.dsq
name_quick tw8999186272805695465 for PySem.instDecidableEqStr by Mine.dsq
name_quick tw1267870562809915468 for PySem.instDecidableEqStr by Mine.dsq
name_quick tw13804622635509601256 for PySem.instDecidableEqStr by Mine.dsq
name_quick tw7299951869573292228 for PySem.instDecidableEqStr by Mine.dsq
name_quick tw17888162413812561239 for PySem.instDecidableEqStr by Mine.dsq
name_quick tw17138261911001417010 for PySem.instDecidableEqStr by Mine.dsq
name_quick tw14031254098957005024 for PySem.instDecidableEqStr by Mine.dsq
name_quick tw12526863579885937616 for PySem.instDecidableEqStr by Mine.dsq
name_quick tw8552093678088426289 for PySem.instDecidableEqStr by Mine.dsq
name_quick tw503676674663206642 for PySem.instDecidableEqStr by Mine.dsq
name_quick tw5882768191206486792 for PySem.instDecidableEqStr by Mine.dsq
name_quick tw4275521005467322725 for PySem.instDecidableEqStr by Mine.dsq
name_quick tw10190238754879171395 for PySem.instDecidableEqStr by Mine.dsq
name_quick tw9736788993784561348 for PySem.instDecidableEqStr by Mine.dsq
name_quick tw11786184479649081736 for PySem.instDecidableEqStr by Mine.dsq
name_quick tw4507309187265873474 for PySem.instDecidableEqStr by Mine.dsq
name_quick tw3302314484089059179 for PySem.instDecidableEqStr by Mine.dsq
name_quick tw3577408171920636059 for PySem.instDecidableEqStr by Mine.dsq
name_quick tw912392155897948271 for PySem.instDecidableEqStr by Mine.dsq
name_quick tw8180830640274347804 for PySem.instDecidableEqStr by Mine.dsq
name_quick tw17164873540382356111 for PySem.instDecidableEqStr by Mine.dsq
name_quick tw7543195961347049332 for PySem.instDecidableEqStr by Mine.dsq
name_quick tw17071476683966804577 for PySem.instDecidableEqStr by Mine.dsq
name_quick tw13102660428377437172 for PySem.instDecidableEqStr by Mine.dsq
name_quick tw1460277438893781036 for PySem.instDecidableEqStr by Mine.dsq
name_quick tw9977392586421186931 for PySem.instDecidableEqStr by Mine.dsq
name_quick tw17344680358763864322 for PySem.instDecidableEqStr by Mine.dsq
name_quick tw15194748194917737719 for PySem.instDecidableEqStr by Mine.dsq
name_quick tw17842620306162639686 for PySem.instDecidableEqStr by Mine.dsq
name_quick tw8430678208038309684 for PySem.instDecidableEqStr by Mine.dsq
name_quick tw5152784196030571298 for PySem.instDecidableEqStr by Mine.dsq
name_quick tw4613930686462287906 for PySem.instDecidableEqStr by Mine.dsq
name_quick tw39160002569200845 for PySem.instDecidableEqStr by Mine.dsq
name_quick tw8902219603052485911 for PySem.instDecidableEqStr by Mine.dsq
name_quick tw7950560144509940271 for PySem.instDecidableEqStr by Mine.dsq
name_quick tw16180582048198870337 for PySem.instDecidableEqStr by Mine.dsq
name_quick tw4042386549635913901 for PySem.instDecidableEqStr by Mine.dsq
name_quick tw1320183511955256522 for PySem.instDecidableEqStr by Mine.dsq
name_quick tw5889167727604068794 for PySem.instDecidableEqStr by Mine.dsq
name_quick tw15806122291839087668 for PySem.instDecidableEqStr by Mine.dsq
name_quick tw2011108890870493169 for PySem.instDecidableEqStr by Mine.dsq
name_quick tw11793402487394874009 for PySem.instDecidableEqStr by Mine.dsq
name_quick tw6980910045739468074 for PySem.instDecidableEqStr by Mine.dsq
name_quick tw9979284746773624096 for PySem.instDecidableEqStr by Mine.dsq
name_quick tw4724670654266164199 for PySem.instDecidableEqStr by Mine.dsq
name_quick tw14126943448341045398 for PySem.instDecidableEqStr by Mine.dsq
name_quick tw6504275150365058295 for PySem.instDecidableEqStr by Mine.dsq
name_quick tw4858009861420398278 for PySem.instDecidableEqStr by Mine.dsq
name_quick tw11270796479367742343 for PySem.instDecidableEqStr by Mine.dsq
name_quick tw3820604794100220378 for PySem.instDecidableEqStr by Mine.dsq
name_quick tw4888971946704870899 for PySem.instDecidableEqStr by Mine.dsq
name_quick tw10948738476641704880 for PySem.instDecidableEqStr by Mine.dsq
name_quick tw8649964590619651473 for PySem.instDecidableEqStr by Mine.dsq
name_quick tw17975652961387846372 for PySem.instDecidableEqStr by Mine.dsq
name_quick tw790365300219607850 for PySem.instDecidableEqStr by Mine.dsq
name_quick tw3345107109950449737 for PySem.instDecidableEqStr by Mine.dsq
name_quick tw12377561305857167785 for PySem.instDecidableEqStr by Mine.dsq
name_quick tw8656719876789144132 for PySem.instDecidableEqStr by Mine.dsq
name_quick tw15278061642289888581 for PySem.instDecidableEqStr by Mine.dsq
name_quick tw1228064911786449325 for PySem.instDecidableEqStr by Mine.dsq
name_quick tw3698559305507148144 for PySem.instDecidableEqStr by Mine.dsq
name_quick tw4405960384096086239 for PySem.instDecidableEqStr by Mine.dsq
name_quick tw3427515755752030745 for PySem.instDecidableEqStr by Mine.dsq
name_quick tw12731603968600162155 for PySem.instDecidableEqStr by Mine.dsq
name_quick tw7165179329215463379 for PySem.instDecidableEqStr by Mine.dsq
name_quick tw17274371674624000324 for PySem.instDecidableEqStr by Mine.dsq
name_quick tw5357591511691535388 for PySem.instDecidableEqStr by Mine.dsq
name_quick tw4527066259768149269 for PySem.instDecidableEqStr by Mine.dsq
name_quick tw7574553109774388169 for PySem.instDecidableEqStr by Mine.dsq
name_quick tw7081425507203772304 for PySem.instDecidableEqStr by Mine.dsq
name_quick tw4352594626159697269 for PySem.instDecidableEqStr by Mine.dsq
name_quick tw1055568401681811165 for PySem.instDecidableEqStr by Mine.dsq
name_quick tw7785048605280242668 for PySem.instDecidableEqStr by Mine.dsq
name_quick tw3758773823038459598 for PySem.instDecidableEqStr by Mine.dsq
name_quick tw14333388528381170442 for PySem.instDecidableEqStr by Mine.dsq
name_quick tw11853533878840232495 for PySem.instDecidableEqStr by Mine.dsq
name_quick tw18371169792594650754 for PySem.instDecidableEqStr by Mine.dsq
name_quick tw11641389924110848164 for PySem.instDecidableEqStr by Mine.dsq
name_quick tw17899373020297197333 for PySem.instDecidableEqStr by Mine.dsq
name_quick tw9267298106668617725 for PySem.instDecidableEqStr by Mine.dsq
name_quick tw1423138165483278961 for PySem.instDecidableEqStr by Mine.dsq
name_quick tw10045867985992453528 for PySem.instDecidableEqStr by Mine.dsq
name_quick tw16039550372008468697 for PySem.instDecidableEqStr by Mine.dsq
name_quick tw3362959441861295915 for PySem.instDecidableEqStr by Mine.dsq
name_quick tw4745058802850807175 for PySem.instDecidableEqStr by Mine.dsq
name_quick tw11166942722945506595 for PySem.instDecidableEqStr by Mine.dsq
name_quick tw1370275717833778536 for PySem.instDecidableEqStr by Mine.dsq
name_quick tw12393455550290869266 for PySem.instDecidableEqStr by Mine.dsq
name_quick tw4205239288364317433 for PySem.instDecidableEqStr by Mine.dsq
name_quick tw15917270771655136656 for PySem.instDecidableEqStr by Mine.dsq
name_quick tw252367510798351285 for PySem.instDecidableEqStr by Mine.dsq
name_quick tw5068434257544371817 for PySem.instDecidableEqStr by Mine.dsq
name_quick tw16406328271908756883 for PySem.instDecidableEqStr by Mine.dsq
name_quick tw8283515000281207119 for PySem.instDecidableEqStr by Mine.dsq
name_quick tw1690735587144091376 for PySem.instDecidableEqStr by Mine.dsq
name_quick tw10220936982206179058 for PySem.instDecidableEqStr by Mine.dsq
name_quick tw17139780236743587250 for PySem.instDecidableEqStr by Mine.dsq
name_quick tw4319705520415482375 for PySem.instDecidableEqStr by Mine.dsq
name_quick tw16817318245366136608 for PySem.instDecidableEqStr by Mine.dsq
name_quick tw16548257151911338427 for PySem.instDecidableEqStr by Mine.dsq
name_quick tw17552769576498331613 for PySem.instDecidableEqStr by Mine.dsq
name_quick tw6832808476680081064 for PySem.instDecidableEqStr by Mine.dsq
name_quick tw6990963922061375149 for PySem.instDecidableEqStr by Mine.dsq
name_quick tw13580328829973926956 for PySem.instDecidableEqStr by Mine.dsq
name_quick tw4504083675297759592 for PySem.instDecidableEqStr by Mine.dsq
name_quick tw1735497430108182060 for PySem.instDecidableEqStr by Mine.dsq
name_quick tw6711915476519705758 for PySem.instDecidableEqStr by Mine.dsq
name_quick tw4978915544186085027 for PySem.instDecidableEqStr by Mine.dsq
name_quick tw15900120412870309639 for PySem.instDecidableEqStr by Mine.dsq
name_quick tw12828332729040242785 for PySem.instDecidableEqStr by Mine.dsq
name_quick tw13902233598862641821 for PySem.instDecidableEqStr by Mine.dsq
name_quick tw4292500188555128830 for PySem.instDecidableEqStr by Mine.dsq
name_quick tw1749818173716722547 for PySem.instDecidableEqStr by Mine.dsq
name_quick tw9893030918988833448 for PySem.instDecidableEqStr by Mine.dsq
name_quick tw5823794197072137003 for PySem.instDecidableEqStr by Mine.dsq
name_quick tw2315820567201803617 for PySem.instDecidableEqStr by Mine.dsq
name_quick tw16531745337717519161 for PySem.instDecidableEqStr by Mine.dsq
name_quick tw14884601019740666482 for PySem.instDecidableEqStr by Mine.dsq
name_quick tw10650810973499830745 for PySem.instDecidableEqStr by Mine.dsq
name_quick tw7496433998918960881 for PySem.instDecidableEqStr by Mine.dsq
name_quick tw6917869754434977982 for PySem.instDecidableEqStr by Mine.dsq
name_quick tw17069979004554194336 for PySem.instDecidableEqStr by Mine.dsq
name_quick tw15902184279288820625 for PySem.instDecidableEqStr by Mine.dsq
name_quick tw13912434898499826684 for PySem.instDecidableEqStr by Mine.dsq
name_quick tw1711367819467211730 for PySem.instDecidableEqStr by Mine.dsq
name_quick tw3740020263889925745 for PySem.instDecidableEqStr by Mine.dsq
name_quick tw15315713394281565010 for PySem.instDecidableEqStr by Mine.dsq
name_quick tw3953757239420563355 for PySem.instDecidableEqStr by Mine.dsq
name_quick tw13746126617404028095 for PySem.instDecidableEqStr by Mine.dsq
name_quick tw14834023430324568649 for PySem.instDecidableEqStr by Mine.dsq
name_quick tw13650077344797733491 for PySem.instDecidableEqStr by Mine.dsq
name_quick tw16904869804480856166 for PySem.instDecidableEqStr by Mine.dsq
name_quick tw11740888236361828772 for PySem.instDecidableEqStr by Mine.dsq
name_quick tw7573151900890175926 for PySem.instDecidableEqStr by Mine.dsq
name_quick tw7499937903120025604 for PySem.instDecidableEqStr by Mine.dsq
name_quick tw5076957145309523181 for PySem.instDecidableEqStr by Mine.dsq
name_quick tw7386744729831018872 for PySem.instDecidableEqStr by Mine.dsq
name_quick tw17394056326795013819 for PySem.instDecidableEqStr by Mine.dsq
name_quick tw15263041282635125899 for PySem.instDecidableEqStr by Mine.dsq
name_quick tw14778209649434054790 for PySem.instDecidableEqStr by Mine.dsq
name_quick tw11137651959834898467 for PySem.instDecidableEqStr by Mine.dsq
name_quick tw12659028871203227004 for PySem.instDecidableEqStr by Mine.dsq
name_quick tw9931943479562821362 for PySem.instDecidableEqStr by Mine.dsq
name_quick tw2905824091091238844 for PySem.instDecidableEqStr by Mine.dsq
name_quick tw136631920214876835 for PySem.instDecidableEqStr by Mine.dsq
name_quick tw3504847659760329788 for PySem.instDecidableEqStr by Mine.dsq
name_quick tw3826639566459466600 for PySem.instDecidableEqStr by Mine.dsq
name_quick tw17020626225693228618 for PySem.instDecidableEqStr by Mine.dsq
name_quick tw5721027456603625697 for PySem.instDecidableEqStr by Mine.dsq
name_quick tw12290603225136948437 for PySem.instDecidableEqStr by Mine.dsq
name_quick tw389472881494512206 for PySem.instDecidableEqStr by Mine.dsq
name_quick tw6122645084068987007 for PySem.instDecidableEqStr by Mine.dsq
name_quick tw17727738676932873817 for PySem.instDecidableEqStr by Mine.dsq
name_quick tw6607189417530752870 for PySem.instDecidableEqStr by Mine.dsq
name_quick tw15041003319150489328 for PySem.instDecidableEqStr by Mine.dsq
name_quick tw15562837088269578035 for PySem.instDecidableEqStr by Mine.dsq
name_quick tw15039117976438264115 for PySem.instDecidableEqStr by Mine.dsq
name_quick tw8777329075199875621 for PySem.instDecidableEqStr by Mine.dsq
name_quick tw1537898542681612871 for PySem.instDecidableEqStr by Mine.dsq
name_quick tw15880737140895825463 for PySem.instDecidableEqStr by Mine.dsq
name_quick tw17503288770812694035 for PySem.instDecidableEqStr by Mine.dsq
name_quick tw14714103240675001986 for PySem.instDecidableEqStr by Mine.dsq
name_quick tw1041845030581493396 for PySem.instDecidableEqStr by Mine.dsq
name_quick tw2422670821966735624 for PySem.instDecidableEqStr by Mine.dsq
name_quick tw11861152243698038893 for PySem.instDecidableEqStr by Mine.dsq
name_quick tw13847470327216474714 for PySem.instDecidableEqStr by Mine.dsq
name_quick tw5936146933674214641 for PySem.instDecidableEqStr by Mine.dsq
name_quick tw7581816359482902497 for PySem.instDecidableEqStr by Mine.dsq
name_quick tw9594665118957945026 for PySem.instDecidableEqStr by Mine.dsq
name_quick tw6614585292965373069 for PySem.instDecidableEqStr by Mine.dsq
name_quick tw1708024556718086227 for PySem.instDecidableEqStr by Mine.dsq
name_quick tw11891824955294080559 for PySem.instDecidableEqStr by Mine.dsq
name_quick tw10276908904998144438 for PySem.instDecidableEqStr by Mine.dsq
name_quick tw3267979357774110234 for PySem.instDecidableEqStr by Mine.dsq
name_quick tw8123005709971320403 for PySem.instDecidableEqStr by Mine.dsq
name_quick tw3054071069301022655 for PySem.instDecidableEqStr by Mine.dsq
name_quick tw7397068168572129948 for PySem.instDecidableEqStr by Mine.dsq
name_quick tw18360803836614840259 for PySem.instDecidableEqStr by Mine.dsq
name_quick tw18131936236247874842 for PySem.instDecidableEqStr by Mine.dsq
name_quick tw1375587502874563802 for PySem.instDecidableEqStr by Mine.dsq
name_quick tw16869277618539721502 for PySem.instDecidableEqStr by Mine.dsq
name_quick tw11333186260410459676 for PySem.instDecidableEqStr by Mine.dsq
name_quick tw15423634916342008072 for PySem.instDecidableEqStr by Mine.dsq
name_quick tw12606261883493885652 for PySem.instDecidableEqStr by Mine.dsq
name_quick tw9082586571710850966 for PySem.instDecidableEqStr by Mine.dsq
name_quick tw9501820088010722379 for PySem.instDecidableEqStr by Mine.dsq
name_quick tw13159241964716117882 for PySem.instDecidableEqStr by Mine.dsq
name_quick tw13121200027793486533 for PySem.instDecidableEqStr by Mine.dsq
name_quick tw3797612339304411714 for PySem.instDecidableEqStr by Mine.dsq
name_quick tw4800724452203346748 for PySem.instDecidableEqStr by Mine.dsq
name_quick tw3282434896037501709 for PySem.instDecidableEqStr by Mine.dsq
name_quick tw2627984346626558326 for PySem.instDecidableEqStr by Mine.dsq
name_quick tw2118141222776746865 for PySem.instDecidableEqStr by Mine.dsq
name_quick tw16752143609539240740 for PySem.instDecidableEqStr by Mine.dsq
name_quick tw12170303376835216750 for PySem.instDecidableEqStr by Mine.dsq
name_quick tw183835017167291270 for PySem.instDecidableEqStr by Mine.dsq
name_quick tw16873187988247708562 for PySem.instDecidableEqStr by Mine.dsq
name_quick tw18358565975826503601 for PySem.instDecidableEqStr by Mine.dsq
name_quick tw7198390536060210744 for PySem.instDecidableEqStr by Mine.dsq
name_quick tw3149940706203789266 for PySem.instDecidableEqStr by Mine.dsq
name_quick tw4075660801711882420 for PySem.instDecidableEqStr by Mine.dsq
name_quick tw6517296806544964722 for PySem.instDecidableEqStr by Mine.dsq
name_quick tw5565278806992967083 for PySem.instDecidableEqStr by Mine.dsq
name_quick tw11519604305632133818 for PySem.instDecidableEqStr by Mine.dsq
name_quick tw14096952598973939363 for PySem.instDecidableEqStr by Mine.dsq
name_quick tw15823609455315575823 for PySem.instDecidableEqStr by Mine.dsq
name_quick tw8432684481940611981 for PySem.instDecidableEqStr by Mine.dsq
name_quick tw12898947447245864913 for PySem.instDecidableEqStr by Mine.dsq
name_quick tw10040787053062605231 for PySem.instDecidableEqStr by Mine.dsq
name_quick tw6426273055680023932 for PySem.instDecidableEqStr by Mine.dsq
name_quick tw5189142188285759775 for PySem.instDecidableEqStr by Mine.dsq
name_quick tw16350708796919097252 for PySem.instDecidableEqStr by Mine.dsq
name_quick tw5303519439607764402 for PySem.instDecidableEqStr by Mine.dsq
name_quick tw724751600484774222 for PySem.instDecidableEqStr by Mine.dsq
name_quick tw5952267759425050802 for PySem.instDecidableEqStr by Mine.dsq
name_quick tw2283851925072248500 for PySem.instDecidableEqStr by Mine.dsq
name_quick tw4302124980754421698 for PySem.instDecidableEqStr by Mine.dsq
name_quick tw2721586585765338809 for PySem.instDecidableEqStr by Mine.dsq
name_quick tw12436211924289087317 for PySem.instDecidableEqStr by Mine.dsq
name_quick tw11588390666370768167 for PySem.instDecidableEqStr by Mine.dsq
name_quick tw5409283761738284092 for PySem.instDecidableEqStr by Mine.dsq
name_quick tw12472836147817038354 for PySem.instDecidableEqStr by Mine.dsq
name_quick tw6179359751918216688 for PySem.instDecidableEqStr by Mine.dsq
name_quick tw6789855027759293466 for PySem.instDecidableEqStr by Mine.dsq
name_quick tw16280195873916505411 for PySem.instDecidableEqStr by Mine.dsq
name_quick tw5529568453561195837 for PySem.instDecidableEqStr by Mine.dsq
name_quick tw5923252988546675246 for PySem.instDecidableEqStr by Mine.dsq
name_quick tw14909702598903578594 for PySem.instDecidableEqStr by Mine.dsq
name_quick tw2674190319118857908 for PySem.instDecidableEqStr by Mine.dsq
name_quick tw12734952128020822468 for PySem.instDecidableEqStr by Mine.dsq
name_quick tw12182807814244774211 for PySem.instDecidableEqStr by Mine.dsq
name_quick tw667198328695590252 for PySem.instDecidableEqStr by Mine.dsq
name_quick tw7094674258960923220 for PySem.instDecidableEqStr by Mine.dsq
name_quick tw13314330512976039754 for PySem.instDecidableEqStr by Mine.dsq
name_quick tw148260917463534702 for PySem.instDecidableEqStr by Mine.dsq
name_quick tw16127339712140622707 for PySem.instDecidableEqStr by Mine.dsq
name_quick tw13951257522405164796 for PySem.instDecidableEqStr by Mine.dsq
name_quick tw830924265138556478 for PySem.instDecidableEqStr by Mine.dsq
name_quick tw17803129079492736432 for PySem.instDecidableEqStr by Mine.dsq
name_quick tw8796240567053077481 for PySem.instDecidableEqStr by Mine.dsq
name_quick tw4966893808263662355 for PySem.instDecidableEqStr by Mine.dsq
name_quick tw10919533547850550483 for PySem.instDecidableEqStr by Mine.dsq
name_quick tw5946566240119215348 for PySem.instDecidableEqStr by Mine.dsq
name_quick tw14981143343336467331 for PySem.instDecidableEqStr by Mine.dsq
name_quick tw17679261114430710190 for PySem.instDecidableEqStr by Mine.dsq
name_quick tw196644378293983589 for PySem.instDecidableEqStr by Mine.dsq
name_quick tw17000155066101142889 for PySem.instDecidableEqStr by Mine.dsq
name_quick tw2354101950205528012 for PySem.instDecidableEqStr by Mine.dsq
name_quick tw16439824349840649037 for PySem.instDecidableEqStr by Mine.dsq
name_quick tw2334299552400917057 for PySem.instDecidableEqStr by Mine.dsq
name_quick tw16339471991904476338 for PySem.instDecidableEqStr by Mine.dsq
name_quick tw17280976486791472633 for PySem.instDecidableEqStr by Mine.dsq
name_quick tw14323765505736481980 for PySem.instDecidableEqStr by Mine.dsq
name_quick tw5310036984924271277 for PySem.instDecidableEqStr by Mine.dsq
name_quick tw6993175162768986339 for PySem.instDecidableEqStr by Mine.dsq
name_quick tw16593013826814733010 for PySem.instDecidableEqStr by Mine.dsq
name_quick tw7057405563618977329 for PySem.instDecidableEqStr by Mine.dsq
name_quick tw15490439104401381959 for PySem.instDecidableEqStr by Mine.dsq
name_quick tw16643706677886111943 for PySem.instDecidableEqStr by Mine.dsq
name_quick tw16374537267813192141 for PySem.instDecidableEqStr by Mine.dsq
name_quick tw4580202747914273547 for PySem.instDecidableEqStr by Mine.dsq
name_quick tw3433653886696886423 for PySem.instDecidableEqStr by Mine.dsq
name_quick tw1419416864934026935 for PySem.instDecidableEqStr by Mine.dsq
name_quick tw894076849921957361 for PySem.instDecidableEqStr by Mine.dsq
name_quick tw9300948228871686676 for PySem.instDecidableEqStr by Mine.dsq
name_quick tw3424931102881643321 for PySem.instDecidableEqStr by Mine.dsq
name_quick tw9219426015542480343 for PySem.instDecidableEqStr by Mine.dsq
name_quick tw1631149150583789468 for PySem.instDecidableEqStr by Mine.dsq
name_quick tw5349121933718820234 for PySem.instDecidableEqStr by Mine.dsq
name_quick tw2735471455948067141 for PySem.instDecidableEqStr by Mine.dsq
name_quick tw9136488742655976645 for PySem.instDecidableEqStr by Mine.dsq
name_quick tw3365010085382643294 for PySem.instDecidableEqStr by Mine.dsq
name_quick tw15919542637913265678 for PySem.instDecidableEqStr by Mine.dsq
name_quick tw16645262185327669138 for PySem.instDecidableEqStr by Mine.dsq
name_quick tw15980859228951719591 for PySem.instDecidableEqStr by Mine.dsq
name_quick tw17532440430192770315 for PySem.instDecidableEqStr by Mine.dsq
name_quick tw4665496328224945229 for PySem.instDecidableEqStr by Mine.dsq
name_quick tw2670528217467546775 for PySem.instDecidableEqStr by Mine.dsq
name_quick tw10885399304501877467 for PySem.instDecidableEqStr by Mine.dsq
name_quick tw11825729669827539873 for PySem.instDecidableEqStr by Mine.dsq
name_quick tw2478078296215019888 for PySem.instDecidableEqStr by Mine.dsq
name_quick tw11964429278604863157 for PySem.instDecidableEqStr by Mine.dsq
name_quick tw2611137233208623240 for PySem.instDecidableEqStr by Mine.dsq
name_quick tw15773981995205291829 for PySem.instDecidableEqStr by Mine.dsq
name_quick tw1102190903223815498 for PySem.instDecidableEqStr by Mine.dsq
name_quick tw8206430501311747189 for PySem.instDecidableEqStr by Mine.dsq
name_quick tw8540232549379673566 for PySem.instDecidableEqStr by Mine.dsq
name_quick tw2387720566874501970 for PySem.instDecidableEqStr by Mine.dsq
name_quick tw3105397867545767578 for PySem.instDecidableEqStr by Mine.dsq
name_quick tw1402947280878808549 for PySem.instDecidableEqStr by Mine.dsq
name_quick tw10028428298569065181 for PySem.instDecidableEqStr by Mine.dsq
name_quick tw16296994325663420285 for PySem.instDecidableEqStr by Mine.dsq
name_quick tw3976722010076183465 for PySem.instDecidableEqStr by Mine.dsq
name_quick tw12227490674122928909 for PySem.instDecidableEqStr by Mine.dsq
name_quick tw1258299570235058372 for PySem.instDecidableEqStr by Mine.dsq
name_quick tw13833065179229638619 for PySem.instDecidableEqStr by Mine.dsq
name_quick tw6722154040420286063 for PySem.instDecidableEqStr by Mine.dsq
name_quick tw18466492976756830 for PySem.instDecidableEqStr by Mine.dsq
name_quick tw139799656371268569 for PySem.instDecidableEqStr by Mine.dsq
name_quick tw17853915177807527196 for PySem.instDecidableEqStr by Mine.dsq
name_quick tw11433066937589102482 for PySem.instDecidableEqStr by Mine.dsq
name_quick tw9504726810853072989 for PySem.instDecidableEqStr by Mine.dsq
name_quick tw2370070277545300124 for PySem.instDecidableEqStr by Mine.dsq
name_quick tw16846860572762119324 for PySem.instDecidableEqStr by Mine.dsq
name_quick tw18410474027866654770 for PySem.instDecidableEqStr by Mine.dsq
name_quick tw17672482021469178181 for PySem.instDecidableEqStr by Mine.dsq
name_quick tw5698774287046732500 for PySem.instDecidableEqStr by Mine.dsq
name_quick tw5396446701170858492 for PySem.instDecidableEqStr by Mine.dsq
name_quick tw3972328310683599613 for PySem.instDecidableEqStr by Mine.dsq
name_quick tw6679490504615227074 for PySem.instDecidableEqStr by Mine.dsq
name_quick tw8802822988693486460 for PySem.instDecidableEqStr by Mine.dsq
name_quick tw4936483359421988267 for PySem.instDecidableEqStr by Mine.dsq
name_quick tw3327986453032591115 for PySem.instDecidableEqStr by Mine.dsq
name_quick tw9763268239775435451 for PySem.instDecidableEqStr by Mine.dsq
name_quick tw3695515675974049574 for PySem.instDecidableEqStr by Mine.dsq
name_quick tw18163462532019968843 for PySem.instDecidableEqStr by Mine.dsq
name_quick tw14168537005229113720 for PySem.instDecidableEqStr by Mine.dsq
name_quick tw13294325848734340343 for PySem.instDecidableEqStr by Mine.dsq
name_quick tw5697894365363955025 for PySem.instDecidableEqStr by Mine.dsq
name_quick tw7392212959928792091 for PySem.instDecidableEqStr by Mine.dsq
name_quick tw17172517015917474193 for PySem.instDecidableEqStr by Mine.dsq
name_quick tw8693227569615203950 for PySem.instDecidableEqStr by Mine.dsq
name_quick tw8509908385975216990 for PySem.instDecidableEqStr by Mine.dsq
name_quick tw2902314222560053993 for PySem.instDecidableEqStr by Mine.dsq
name_quick tw7582166717755450365 for PySem.instDecidableEqStr by Mine.dsq
name_quick tw14821650378409806113 for PySem.instDecidableEqStr by Mine.dsq
name_quick tw8753696776887207221 for PySem.instDecidableEqStr by Mine.dsq
name_quick tw5512085447785999860 for PySem.instDecidableEqStr by Mine.dsq
name_quick tw6580340599500149305 for PySem.instDecidableEqStr by Mine.dsq
name_quick tw3264259588550801142 for PySem.instDecidableEqStr by Mine.dsq
name_quick tw14746774941630613163 for PySem.instDecidableEqStr by Mine.dsq
name_quick tw11462045893675790159 for PySem.instDecidableEqStr by Mine.dsq
name_quick tw13070384816801012346 for PySem.instDecidableEqStr by Mine.dsq
name_quick tw18263319221461684349 for PySem.instDecidableEqStr by Mine.dsq
name_quick tw1995926237046646575 for PySem.instDecidableEqStr by Mine.dsq
name_quick tw14073706353221006472 for PySem.instDecidableEqStr by Mine.dsq
name_quick tw13678640442995254988 for PySem.instDecidableEqStr by Mine.dsq
name_quick tw17596809139577655471 for PySem.instDecidableEqStr by Mine.dsq
name_quick tw16417370028952169744 for PySem.instDecidableEqStr by Mine.dsq
name_quick tw17344496456200356348 for PySem.instDecidableEqStr by Mine.dsq
name_quick tw11543547407058413889 for PySem.instDecidableEqStr by Mine.dsq
name_quick tw3536357697601684980 for PySem.instDecidableEqStr by Mine.dsq
name_quick tw3256587380925597060 for PySem.instDecidableEqStr by Mine.dsq
name_quick tw13925586954763233925 for PySem.instDecidableEqStr by Mine.dsq
name_quick tw6357409834272390260 for PySem.instDecidableEqStr by Mine.dsq
name_quick tw3558216917135427349 for PySem.instDecidableEqStr by Mine.dsq
name_quick tw15965015591981942514 for PySem.instDecidableEqStr by Mine.dsq
name_quick tw1886563365779066154 for PySem.instDecidableEqStr by Mine.dsq
name_quick tw11161088081135249708 for PySem.instDecidableEqStr by Mine.dsq
name_quick tw7405434945208526273 for PySem.instDecidableEqStr by Mine.dsq
name_quick tw2314638664359121040 for PySem.instDecidableEqStr by Mine.dsq
name_quick tw1702518465993881591 for PySem.instDecidableEqStr by Mine.dsq
name_quick tw6291368078380397288 for PySem.instDecidableEqStr by Mine.dsq
name_quick tw16729788964589934307 for PySem.instDecidableEqStr by Mine.dsq
name_quick tw4549333791460862111 for PySem.instDecidableEqStr by Mine.dsq
name_quick tw17027947056734134637 for PySem.instDecidableEqStr by Mine.dsq
name_quick tw10071868454641916008 for PySem.instDecidableEqStr by Mine.dsq
name_quick tw6019396324639902685 for PySem.instDecidableEqStr by Mine.dsq
name_quick tw5720267713326709755 for PySem.instDecidableEqStr by Mine.dsq
name_quick tw2401699919119007470 for PySem.instDecidableEqStr by Mine.dsq
name_quick tw1085346719588807367 for PySem.instDecidableEqStr by Mine.dsq
name_quick tw8253183596043897158 for PySem.instDecidableEqStr by Mine.dsq
name_quick tw14285029430470858289 for PySem.instDecidableEqStr by Mine.dsq
name_quick tw5862295025349918931 for PySem.instDecidableEqStr by Mine.dsq
name_quick tw6363645014702824404 for PySem.instDecidableEqStr by Mine.dsq
name_quick tw8075568018651887793 for PySem.instDecidableEqStr by Mine.dsq
name_quick tw3522871003180720194 for PySem.instDecidableEqStr by Mine.dsq
name_quick tw13725850141900786883 for PySem.instDecidableEqStr by Mine.dsq
name_quick tw9537544019596298400 for PySem.instDecidableEqStr by Mine.dsq
name_quick tw14433975572909055671 for PySem.instDecidableEqStr by Mine.dsq
name_quick tw3094477031063562474 for PySem.instDecidableEqStr by Mine.dsq
name_quick tw17100903815162463580 for PySem.instDecidableEqStr by Mine.dsq
name_quick tw15066959818950650227 for PySem.instDecidableEqStr by Mine.dsq
name_quick tw8959964123841196786 for PySem.instDecidableEqStr by Mine.dsq
name_quick tw14214133299417103183 for PySem.instDecidableEqStr by Mine.dsq
name_quick tw10619036274816975696 for PySem.instDecidableEqStr by Mine.dsq
name_quick tw4090926877573551719 for PySem.instDecidableEqStr by Mine.dsq
name_quick tw9577309144901391297 for PySem.instDecidableEqStr by Mine.dsq
name_quick tw15542691292777871779 for PySem.instDecidableEqStr by Mine.dsq
name_quick tw12813236842856870187 for PySem.instDecidableEqStr by Mine.dsq
name_quick tw13335737130258781183 for PySem.instDecidableEqStr by Mine.dsq
name_quick tw16942194440817826258 for PySem.instDecidableEqStr by Mine.dsq
name_quick tw5950129339639070837 for PySem.instDecidableEqStr by Mine.dsq
name_quick tw7258234576362860186 for PySem.instDecidableEqStr by Mine.dsq
name_quick tw7987952416473584550 for PySem.instDecidableEqStr by Mine.dsq
name_quick tw12832477231654346042 for PySem.instDecidableEqStr by Mine.dsq
name_quick tw5450187663091677483 for PySem.instDecidableEqStr by Mine.dsq
name_quick tw6519424955469430661 for PySem.instDecidableEqStr by Mine.dsq
name_quick tw14907048974825807369 for PySem.instDecidableEqStr by Mine.dsq
name_quick tw7140130562030077042 for PySem.instDecidableEqStr by Mine.dsq
name_quick tw9151444980202551346 for PySem.instDecidableEqStr by Mine.dsq
name_quick tw3121927803925309910 for PySem.instDecidableEqStr by Mine.dsq
name_quick tw313226197891681235 for PySem.instDecidableEqStr by Mine.dsq
name_quick tw18428756778242999024 for PySem.instDecidableEqStr by Mine.dsq
name_quick tw9305466669911107070 for PySem.instDecidableEqStr by Mine.dsq
name_quick tw16018607276475445134 for PySem.instDecidableEqStr by Mine.dsq
name_quick tw15034313371233782410 for PySem.instDecidableEqStr by Mine.dsq
name_quick tw3436264866546951355 for PySem.instDecidableEqStr by Mine.dsq
name_quick tw9455686188066324210 for PySem.instDecidableEqStr by Mine.dsq
name_quick tw6944952908185719654 for PySem.instDecidableEqStr by Mine.dsq
name_quick tw2447921434856996015 for PySem.instDecidableEqStr by Mine.dsq
name_quick tw1706496860858754268 for PySem.instDecidableEqStr by Mine.dsq
name_quick tw11108263761283441063 for PySem.instDecidableEqStr by Mine.dsq
name_quick tw2862820112641550484 for PySem.instDecidableEqStr by Mine.dsq
name_quick tw5289962621202845349 for PySem.instDecidableEqStr by Mine.dsq
name_quick tw5631866682500559305 for PySem.instDecidableEqStr by Mine.dsq
name_quick tw8474383852179026721 for PySem.instDecidableEqStr by Mine.dsq
name_quick tw6841013123486265825 for PySem.instDecidableEqStr by Mine.dsq
name_quick tw9396933662098498411 for PySem.instDecidableEqStr by Mine.dsq
name_quick tw4430655021044022179 for PySem.instDecidableEqStr by Mine.dsq
name_quick tw3228652444460286982 for PySem.instDecidableEqStr by Mine.dsq
name_quick tw12488000419048109807 for PySem.instDecidableEqStr by Mine.dsq
name_quick tw13254397897704925713 for PySem.instDecidableEqStr by Mine.dsq
name_quick tw8125055898148337911 for PySem.instDecidableEqStr by Mine.dsq
name_quick tw7269565832213808900 for PySem.instDecidableEqStr by Mine.dsq
name_quick tw13776390136698705113 for PySem.instDecidableEqStr by Mine.dsq
name_quick tw10797649063328284778 for PySem.instDecidableEqStr by Mine.dsq
name_quick tw11625766737575182897 for PySem.instDecidableEqStr by Mine.dsq
name_quick tw9411460985935078520 for PySem.instDecidableEqStr by Mine.dsq
name_quick tw7503421922109321716 for PySem.instDecidableEqStr by Mine.dsq
name_quick tw13749758060653150092 for PySem.instDecidableEqStr by Mine.dsq
name_quick tw17238727255148662236 for PySem.instDecidableEqStr by Mine.dsq
name_quick tw1210750091971509897 for PySem.instDecidableEqStr by Mine.dsq
name_quick tw11186114360453789277 for PySem.instDecidableEqStr by Mine.dsq
name_quick tw900395245841561262 for PySem.instDecidableEqStr by Mine.dsq
name_quick tw9917628215930124269 for PySem.instDecidableEqStr by Mine.dsq
name_quick tw6434265647005701932 for PySem.instDecidableEqStr by Mine.dsq
name_quick tw4921902886906138986 for PySem.instDecidableEqStr by Mine.dsq
name_quick tw716658179208862652 for PySem.instDecidableEqStr by Mine.dsq
name_quick tw11788150170368784547 for PySem.instDecidableEqStr by Mine.dsq
name_quick tw16328912562034613984 for PySem.instDecidableEqStr by Mine.dsq
name_quick tw7098571738820278039 for PySem.instDecidableEqStr by Mine.dsq
name_quick tw6891000109920058784 for PySem.instDecidableEqStr by Mine.dsq
name_quick tw1401972060568974870 for PySem.instDecidableEqStr by Mine.dsq
name_quick tw2895304030280410150 for PySem.instDecidableEqStr by Mine.dsq
name_quick tw14305139224198610471 for PySem.instDecidableEqStr by Mine.dsq
name_quick tw1993567047419047990 for PySem.instDecidableEqStr by Mine.dsq
name_quick tw3209381107111851631 for PySem.instDecidableEqStr by Mine.dsq
name_quick tw17169101284591775605 for PySem.instDecidableEqStr by Mine.dsq
name_quick tw12945451867199242903 for PySem.instDecidableEqStr by Mine.dsq
name_quick tw8098380416015320538 for PySem.instDecidableEqStr by Mine.dsq
name_quick tw4691851695120001716 for PySem.instDecidableEqStr by Mine.dsq
name_quick tw10299114407867686024 for PySem.instDecidableEqStr by Mine.dsq
name_quick tw11790162104776037713 for PySem.instDecidableEqStr by Mine.dsq
name_quick tw17325535178939296128 for PySem.instDecidableEqStr by Mine.dsq
name_quick tw11310463157757771331 for PySem.instDecidableEqStr by Mine.dsq
name_quick tw6127375697748050860 for PySem.instDecidableEqStr by Mine.dsq
name_quick tw4525517667737911620 for PySem.instDecidableEqStr by Mine.dsq
name_quick tw14389334442490810641 for PySem.instDecidableEqStr by Mine.dsq
name_quick tw9265879793445154701 for PySem.instDecidableEqStr by Mine.dsq
name_quick tw2316978204111340717 for PySem.instDecidableEqStr by Mine.dsq
name_quick tw6386114725318944757 for PySem.instDecidableEqStr by Mine.dsq
name_quick tw15195428891847259777 for PySem.instDecidableEqStr by Mine.dsq
name_quick tw15247426752500302083 for PySem.instDecidableEqStr by Mine.dsq
name_quick tw17026713947507217902 for PySem.instDecidableEqStr by Mine.dsq
name_quick tw13471316229770301743 for PySem.instDecidableEqStr by Mine.dsq
name_quick tw12128325577817847261 for PySem.instDecidableEqStr by Mine.dsq
name_quick tw18283703058932287227 for PySem.instDecidableEqStr by Mine.dsq
name_quick tw3865406201487662470 for PySem.instDecidableEqStr by Mine.dsq
name_quick tw12095823642532355627 for PySem.instDecidableEqStr by Mine.dsq
name_quick tw5386766301290243201 for PySem.instDecidableEqStr by Mine.dsq
name_quick tw16697116713213952808 for PySem.instDecidableEqStr by Mine.dsq
name_quick tw608726401823008365 for PySem.instDecidableEqStr by Mine.dsq
name_quick tw1536587703002861866 for PySem.instDecidableEqStr by Mine.dsq
name_quick tw6148621092414575339 for PySem.instDecidableEqStr by Mine.dsq
name_quick tw878741703135273975 for PySem.instDecidableEqStr by Mine.dsq
name_quick tw5345256250457102556 for PySem.instDecidableEqStr by Mine.dsq
name_quick tw9281714027785469542 for PySem.instDecidableEqStr by Mine.dsq
name_quick tw5770868932273138760 for PySem.instDecidableEqStr by Mine.dsq
name_quick tw5248340912204065574 for PySem.instDecidableEqStr by Mine.dsq
name_quick tw14097648870716263351 for PySem.instDecidableEqStr by Mine.dsq
name_quick tw2081907255765424308 for PySem.instDecidableEqStr by Mine.dsq
name_quick tw9165568632223901487 for PySem.instDecidableEqStr by Mine.dsq
name_quick tw5853609219237828028 for PySem.instDecidableEqStr by Mine.dsq
name_quick tw7729641633298002090 for PySem.instDecidableEqStr by Mine.dsq
name_quick tw10996506086634736982 for PySem.instDecidableEqStr by Mine.dsq
name_quick tw6059929106960060952 for PySem.instDecidableEqStr by Mine.dsq
name_quick tw4904739604578439355 for PySem.instDecidableEqStr by Mine.dsq
name_quick tw1333364371103165705 for PySem.instDecidableEqStr by Mine.dsq
name_quick tw1204117194425446250 for PySem.instDecidableEqStr by Mine.dsq
name_quick tw9673203406766833760 for PySem.instDecidableEqStr by Mine.dsq
name_quick tw11254254501726123291 for PySem.instDecidableEqStr by Mine.dsq
name_quick tw16369446117885005094 for PySem.instDecidableEqStr by Mine.dsq
name_quick tw12237943961548833269 for PySem.instDecidableEqStr by Mine.dsq
name_quick tw2922074901204462755 for PySem.instDecidableEqStr by Mine.dsq
name_quick tw13642483538084851733 for PySem.instDecidableEqStr by Mine.dsq
name_quick tw10767066097796618615 for PySem.instDecidableEqStr by Mine.dsq
name_quick tw15663404670287596823 for PySem.instDecidableEqStr by Mine.dsq
name_quick tw8603108125212654177 for PySem.instDecidableEqStr by Mine.dsq
name_quick tw11994158751524154303 for PySem.instDecidableEqStr by Mine.dsq
name_quick tw6214688769961185500 for PySem.instDecidableEqStr by Mine.dsq
name_quick tw1857294707202544078 for PySem.instDecidableEqStr by Mine.dsq
name_quick tw17300597898927385350 for PySem.instDecidableEqStr by Mine.dsq
name_quick tw7652866986338317172 for PySem.instDecidableEqStr by Mine.dsq
name_quick tw15199281503961881116 for PySem.instDecidableEqStr by Mine.dsq
name_quick tw13615603153576403970 for PySem.instDecidableEqStr by Mine.dsq
name_quick tw4039474712603431140 for PySem.instDecidableEqStr by Mine.dsq
name_quick tw17554001833073541016 for PySem.instDecidableEqStr by Mine.dsq
name_quick tw8881496252177385917 for PySem.instDecidableEqStr by Mine.dsq
name_quick tw1218959903707654005 for PySem.instDecidableEqStr by Mine.dsq
name_quick tw4187477659947935285 for PySem.instDecidableEqStr by Mine.dsq
name_quick tw11863081143760314161 for PySem.instDecidableEqStr by Mine.dsq
name_quick tw12989987162080215863 for PySem.instDecidableEqStr by Mine.dsq
name_quick tw11838138170533393997 for PySem.instDecidableEqStr by Mine.dsq
name_quick tw15781324953245214433 for PySem.instDecidableEqStr by Mine.dsq
name_quick tw12540713548012372134 for PySem.instDecidableEqStr by Mine.dsq
name_quick tw16658944759067139292 for PySem.instDecidableEqStr by Mine.dsq
name_quick tw5415697137353194442 for PySem.instDecidableEqStr by Mine.dsq
name_quick tw7483462131439158144 for PySem.instDecidableEqStr by Mine.dsq
name_quick tw10205541121877940668 for PySem.instDecidableEqStr by Mine.dsq
name_quick tw7299303143086499733 for PySem.instDecidableEqStr by Mine.dsq
name_quick tw16432479971616331241 for PySem.instDecidableEqStr by Mine.dsq
name_quick tw9575731206691268911 for PySem.instDecidableEqStr by Mine.dsq
name_quick tw482417222145425773 for PySem.instDecidableEqStr by Mine.dsq
name_quick tw3779786700533648404 for PySem.instDecidableEqStr by Mine.dsq
name_quick tw7365555872484859036 for PySem.instDecidableEqStr by Mine.dsq
name_quick tw12809422525583811893 for PySem.instDecidableEqStr by Mine.dsq
name_quick tw14615009949319019899 for PySem.instDecidableEqStr by Mine.dsq
name_quick tw17828083071136270317 for PySem.instDecidableEqStr by Mine.dsq
name_quick tw1711657323119017317 for PySem.instDecidableEqStr by Mine.dsq
name_quick tw16495559152270511615 for PySem.instDecidableEqStr by Mine.dsq
name_quick tw8703263022893421829 for PySem.instDecidableEqStr by Mine.dsq
name_quick tw7561037823649445926 for PySem.instDecidableEqStr by Mine.dsq
name_quick tw13169248704851481478 for PySem.instDecidableEqStr by Mine.dsq
name_quick tw8017206721242287953 for PySem.instDecidableEqStr by Mine.dsq
name_quick tw921073385446354868 for PySem.instDecidableEqStr by Mine.dsq
name_quick tw3325841961599345399 for PySem.instDecidableEqStr by Mine.dsq
name_quick tw6434138532213402376 for PySem.instDecidableEqStr by Mine.dsq
name_quick tw9236875199018929784 for PySem.instDecidableEqStr by Mine.dsq
name_quick tw1620339239838986703 for PySem.instDecidableEqStr by Mine.dsq
name_quick tw12945968074294007009 for PySem.instDecidableEqStr by Mine.dsq
name_quick tw14553827428707814869 for PySem.instDecidableEqStr by Mine.dsq
name_quick tw3039592710220408265 for PySem.instDecidableEqStr by Mine.dsq
name_quick tw9492235034089005946 for PySem.instDecidableEqStr by Mine.dsq
name_quick tw2660918139993853925 for PySem.instDecidableEqStr by Mine.dsq
name_quick tw558745408833754511 for PySem.instDecidableEqStr by Mine.dsq
name_quick tw7581352650102555174 for PySem.instDecidableEqStr by Mine.dsq
name_quick tw17532718790514356516 for PySem.instDecidableEqStr by Mine.dsq
name_quick tw15323854079317868165 for PySem.instDecidableEqStr by Mine.dsq
name_quick tw7692015426583400375 for PySem.instDecidableEqStr by Mine.dsq
name_quick tw563124612126607214 for PySem.instDecidableEqStr by Mine.dsq
name_quick tw4933834842325187142 for PySem.instDecidableEqStr by Mine.dsq
name_quick tw1916944219915559503 for PySem.instDecidableEqStr by Mine.dsq
name_quick tw578555737997480806 for PySem.instDecidableEqStr by Mine.dsq
name_quick tw3118938333895590913 for PySem.instDecidableEqStr by Mine.dsq
name_quick tw721709456127091705 for PySem.instDecidableEqStr by Mine.dsq
name_quick tw16180483070735683940 for PySem.instDecidableEqStr by Mine.dsq
name_quick tw11682084944484805031 for PySem.instDecidableEqStr by Mine.dsq
name_quick tw13903129631018457399 for PySem.instDecidableEqStr by Mine.dsq
name_quick tw8946543629884556368 for PySem.instDecidableEqStr by Mine.dsq
name_quick tw17230556039016184743 for PySem.instDecidableEqStr by Mine.dsq
name_quick tw11886712299990487620 for PySem.instDecidableEqStr by Mine.dsq
name_quick tw10093032338203421213 for PySem.instDecidableEqStr by Mine.dsq
name_quick tw3488208955921114670 for PySem.instDecidableEqStr by Mine.dsq
name_quick tw17730428716208468724 for PySem.instDecidableEqStr by Mine.dsq
name_quick tw9794667896261083176 for PySem.instDecidableEqStr by Mine.dsq
name_quick tw10566222408779648918 for PySem.instDecidableEqStr by Mine.dsq
name_quick tw14223099787259518943 for PySem.instDecidableEqStr by Mine.dsq
name_quick tw2569364866550412066 for PySem.instDecidableEqStr by Mine.dsq
name_quick tw12456492676567594705 for PySem.instDecidableEqStr by Mine.dsq
name_quick tw950723637873067451 for PySem.instDecidableEqStr by Mine.dsq
name_quick tw8385612375773290118 for PySem.instDecidableEqStr by Mine.dsq
name_quick tw9515652053505349548 for PySem.instDecidableEqStr by Mine.dsq
name_quick tw15475462885187679331 for PySem.instDecidableEqStr by Mine.dsq
name_quick tw3636048126100218174 for PySem.instDecidableEqStr by Mine.dsq
name_quick tw7641510929779896126 for PySem.instDecidableEqStr by Mine.dsq
name_quick tw10589684114461592954 for PySem.instDecidableEqStr by Mine.dsq
name_quick tw6465293525145412827 for PySem.instDecidableEqStr by Mine.dsq
name_quick tw10846213317406478298 for PySem.instDecidableEqStr by Mine.dsq
name_quick tw12064662690394058248 for PySem.instDecidableEqStr by Mine.dsq
name_quick tw10964334890339321822 for PySem.instDecidableEqStr by Mine.dsq
name_quick tw5706481520468235054 for PySem.instDecidableEqStr by Mine.dsq
name_quick tw11985326045990495214 for PySem.instDecidableEqStr by Mine.dsq
name_quick tw12177639751122801600 for PySem.instDecidableEqStr by Mine.dsq
name_quick tw10709196673778178906 for PySem.instDecidableEqStr by Mine.dsq
name_quick tw5925582254088234700 for PySem.instDecidableEqStr by Mine.dsq
name_quick tw11796506867022685745 for PySem.instDecidableEqStr by Mine.dsq
name_quick tw12477758415327278626 for PySem.instDecidableEqStr by Mine.dsq
name_quick tw6929956602132211858 for PySem.instDecidableEqStr by Mine.dsq
name_quick tw12832791649633735192 for PySem.instDecidableEqStr by Mine.dsq
name_quick tw7461879971939330490 for PySem.instDecidableEqStr by Mine.dsq
name_quick tw17020146562604978829 for PySem.instDecidableEqStr by Mine.dsq
name_quick tw18126140380344562322 for PySem.instDecidableEqStr by Mine.dsq
name_quick tw62646100399185699 for PySem.instDecidableEqStr by Mine.dsq
name_quick tw16979880578912567463 for PySem.instDecidableEqStr by Mine.dsq
name_quick tw13236226663087606529 for PySem.instDecidableEqStr by Mine.dsq
name_quick tw12981051755390344553 for PySem.instDecidableEqStr by Mine.dsq
name_quick tw17057272898397164401 for PySem.instDecidableEqStr by Mine.dsq
name_quick tw17815586953681464072 for PySem.instDecidableEqStr by Mine.dsq
name_quick tw6888100737891179579 for PySem.instDecidableEqStr by Mine.dsq
name_quick tw325292655437039998 for PySem.instDecidableEqStr by Mine.dsq
name_quick tw178441218286455893 for PySem.instDecidableEqStr by Mine.dsq
name_quick tw1107438419126420414 for PySem.instDecidableEqStr by Mine.dsq
name_quick tw12973657651903071711 for PySem.instDecidableEqStr by Mine.dsq
name_quick tw12877114100897624224 for PySem.instDecidableEqStr by Mine.dsq
name_quick tw14265314264860633672 for PySem.instDecidableEqStr by Mine.dsq
name_quick tw392140993173905013 for PySem.instDecidableEqStr by Mine.dsq
name_quick tw18056578402003937789 for PySem.instDecidableEqStr by Mine.dsq
name_quick tw10352308551163946355 for PySem.instDecidableEqStr by Mine.dsq
name_quick tw15983881195869794717 for PySem.instDecidableEqStr by Mine.dsq
name_quick tw9868982950595657695 for PySem.instDecidableEqStr by Mine.dsq
name_quick tw14934708107589980039 for PySem.instDecidableEqStr by Mine.dsq
name_quick tw7286323032743288035 for PySem.instDecidableEqStr by Mine.dsq
name_quick tw13156168479132978002 for PySem.instDecidableEqStr by Mine.dsq
name_quick tw10029231156530900338 for PySem.instDecidableEqStr by Mine.dsq
name_quick tw15157221202141545114 for PySem.instDecidableEqStr by Mine.dsq
name_quick tw10727534119236929211 for PySem.instDecidableEqStr by Mine.dsq
name_quick tw8119918657739134586 for PySem.instDecidableEqStr by Mine.dsq
name_quick tw14874922208557711187 for PySem.instDecidableEqStr by Mine.dsq
name_quick tw17919728810627054236 for PySem.instDecidableEqStr by Mine.dsq
name_quick tw13775618736486673144 for PySem.instDecidableEqStr by Mine.dsq
name_quick tw8488268690174267210 for PySem.instDecidableEqStr by Mine.dsq
name_quick tw10455430044892516648 for PySem.instDecidableEqStr by Mine.dsq
name_quick tw15736541856241217950 for PySem.instDecidableEqStr by Mine.dsq
name_quick tw18416463498863911781 for PySem.instDecidableEqStr by Mine.dsq
name_quick tw5998781340512891400 for PySem.instDecidableEqStr by Mine.dsq
name_quick tw11636919720809706868 for PySem.instDecidableEqStr by Mine.dsq
name_quick tw12371321757623732685 for PySem.instDecidableEqStr by Mine.dsq
name_quick tw686183698351167624 for PySem.instDecidableEqStr by Mine.dsq
name_quick tw8047484207015712433 for PySem.instDecidableEqStr by Mine.dsq
name_quick tw5315457868209417068 for PySem.instDecidableEqStr by Mine.dsq
name_quick tw383695940523520267 for PySem.instDecidableEqStr by Mine.dsq
name_quick tw8537084889766193716 for PySem.instDecidableEqStr by Mine.dsq
name_quick tw14588557730865908194 for PySem.instDecidableEqStr by Mine.dsq
name_quick tw10719484529398299949 for PySem.instDecidableEqStr by Mine.dsq
name_quick tw14870196432650325839 for PySem.instDecidableEqStr by Mine.dsq
name_quick tw2110668173088178060 for PySem.instDecidableEqStr by Mine.dsq
name_quick tw9720828393056574044 for PySem.instDecidableEqStr by Mine.dsq
name_quick tw16292439048969090190 for PySem.instDecidableEqStr by Mine.dsq
name_quick tw17497748084772794779 for PySem.instDecidableEqStr by Mine.dsq
name_quick tw17382798495522986874 for PySem.instDecidableEqStr by Mine.dsq
name_quick tw4071324889030633612 for PySem.instDecidableEqStr by Mine.dsq
name_quick tw9236379625843700516 for PySem.instDecidableEqStr by Mine.dsq
name_quick tw5423003317807263696 for PySem.instDecidableEqStr by Mine.dsq
name_quick tw12726346659333912481 for PySem.instDecidableEqStr by Mine.dsq
name_quick tw3131671291697673992 for PySem.instDecidableEqStr by Mine.dsq
name_quick tw662354867322794072 for PySem.instDecidableEqStr by Mine.dsq
name_quick tw272414042388314806 for PySem.instDecidableEqStr by Mine.dsq
name_quick tw15376083050721069600 for PySem.instDecidableEqStr by Mine.dsq
name_quick tw10970087489707964778 for PySem.instDecidableEqStr by Mine.dsq
name_quick tw7670514497116975361 for PySem.instDecidableEqStr by Mine.dsq
name_quick tw12635297910168745909 for PySem.instDecidableEqStr by Mine.dsq
name_quick tw3365093317950918147 for PySem.instDecidableEqStr by Mine.dsq
name_quick tw18340240734955500558 for PySem.instDecidableEqStr by Mine.dsq
name_quick tw4091194055036891139 for PySem.instDecidableEqStr by Mine.dsq
name_quick tw4594841794817819559 for PySem.instDecidableEqStr by Mine.dsq
name_quick tw1410096668721982599 for PySem.instDecidableEqStr by Mine.dsq
name_quick tw12143486254990352099 for PySem.instDecidableEqStr by Mine.dsq
name_quick tw2958062672499776758 for PySem.instDecidableEqStr by Mine.dsq
name_quick tw7431591544816029494 for PySem.instDecidableEqStr by Mine.dsq
name_quick tw12599741558188205749 for PySem.instDecidableEqStr by Mine.dsq
name_quick tw13809362725867891129 for PySem.instDecidableEqStr by Mine.dsq
name_quick tw8610040677353227653 for PySem.instDecidableEqStr by Mine.dsq
name_quick tw16737559591592110954 for PySem.instDecidableEqStr by Mine.dsq
name_quick tw1343220272319300887 for PySem.instDecidableEqStr by Mine.dsq
name_quick tw4287028408620065468 for PySem.instDecidableEqStr by Mine.dsq
name_quick tw13251646731365433171 for PySem.instDecidableEqStr by Mine.dsq
name_quick tw13002492023102617099 for PySem.instDecidableEqStr by Mine.dsq
name_quick tw8654737378357257675 for PySem.instDecidableEqStr by Mine.dsq
name_quick tw4183877074749451670 for PySem.instDecidableEqStr by Mine.dsq
name_quick tw1763209079605825380 for PySem.instDecidableEqStr by Mine.dsq
name_quick tw8459811325457737761 for PySem.instDecidableEqStr by Mine.dsq
name_quick tw18200712748503757919 for PySem.instDecidableEqStr by Mine.dsq
name_quick tw16437185098154296904 for PySem.instDecidableEqStr by Mine.dsq
name_quick tw13559156169165276386 for PySem.instDecidableEqStr by Mine.dsq
name_quick tw6182678533730793537 for PySem.instDecidableEqStr by Mine.dsq
name_quick tw13816233472422033322 for PySem.instDecidableEqStr by Mine.dsq
name_quick tw2088498060469179804 for PySem.instDecidableEqStr by Mine.dsq
name_quick tw3889259530307233657 for PySem.instDecidableEqStr by Mine.dsq
name_quick tw16258813485015810305 for PySem.instDecidableEqStr by Mine.dsq
name_quick tw6967401301877209104 for PySem.instDecidableEqStr by Mine.dsq
name_quick tw3735880847841164279 for PySem.instDecidableEqStr by Mine.dsq
name_quick tw5820445615435017067 for PySem.instDecidableEqStr by Mine.dsq
name_quick tw3386650904741475044 for PySem.instDecidableEqStr by Mine.dsq
name_quick tw11363912090873407280 for PySem.instDecidableEqStr by Mine.dsq
name_quick tw2951486255847992690 for PySem.instDecidableEqStr by Mine.dsq
name_quick tw12679591844961189642 for PySem.instDecidableEqStr by Mine.dsq
name_quick tw9131251417149488404 for PySem.instDecidableEqStr by Mine.dsq
name_quick tw16712280214892120555 for PySem.instDecidableEqStr by Mine.dsq
name_quick tw11707371222683016368 for PySem.instDecidableEqStr by Mine.dsq
name_quick tw14766643958189025262 for PySem.instDecidableEqStr by Mine.dsq
name_quick tw12850107946570832962 for PySem.instDecidableEqStr by Mine.dsq
name_quick tw4319011637217762917 for PySem.instDecidableEqStr by Mine.dsq
name_quick tw15250204685079549951 for PySem.instDecidableEqStr by Mine.dsq
name_quick tw1667231139898017245 for PySem.instDecidableEqStr by Mine.dsq
name_quick tw7892128664451923741 for PySem.instDecidableEqStr by Mine.dsq
name_quick tw4949472239710415697 for PySem.instDecidableEqStr by Mine.dsq
name_quick tw12513138341781932208 for PySem.instDecidableEqStr by Mine.dsq
name_quick tw2664551874359636763 for PySem.instDecidableEqStr by Mine.dsq
name_quick tw17335170898614401699 for PySem.instDecidableEqStr by Mine.dsq
name_quick tw347637069881736656 for PySem.instDecidableEqStr by Mine.dsq
name_quick tw3148276903521382524 for PySem.instDecidableEqStr by Mine.dsq
name_quick tw7469732015759309437 for PySem.instDecidableEqStr by Mine.dsq
name_quick tw1481926694345511941 for PySem.instDecidableEqStr by Mine.dsq
name_quick tw4318056027017086478 for PySem.instDecidableEqStr by Mine.dsq
name_quick tw1638017585896720355 for PySem.instDecidableEqStr by Mine.dsq
name_quick tw11543483234476862875 for PySem.instDecidableEqStr by Mine.dsq
name_quick tw10819683100428557426 for PySem.instDecidableEqStr by Mine.dsq
name_quick tw8400853705098224536 for PySem.instDecidableEqStr by Mine.dsq
name_quick tw7733015712792483723 for PySem.instDecidableEqStr by Mine.dsq
name_quick tw2883484788219351825 for PySem.instDecidableEqStr by Mine.dsq
name_quick tw15103234261437856402 for PySem.instDecidableEqStr by Mine.dsq
name_quick tw4681523508651956083 for PySem.instDecidableEqStr by Mine.dsq
name_quick tw5646442142991981755 for PySem.instDecidableEqStr by Mine.dsq
name_quick tw15067931366933112725 for PySem.instDecidableEqStr by Mine.dsq
name_quick tw13252181687094117063 for PySem.instDecidableEqStr by Mine.dsq
name_quick tw18220123701641295943 for PySem.instDecidableEqStr by Mine.dsq
name_quick tw11036193050239951465 for PySem.instDecidableEqStr by Mine.dsq
name_quick tw2302674139485633275 for PySem.instDecidableEqStr by Mine.dsq
name_quick tw12025208970609079342 for PySem.instDecidableEqStr by Mine.dsq
name_quick tw1495452243305574823 for PySem.instDecidableEqStr by Mine.dsq
name_quick tw4824431525194463578 for PySem.instDecidableEqStr by Mine.dsq
name_quick tw10487160056961263569 for PySem.instDecidableEqStr by Mine.dsq
name_quick tw10058976618658966374 for PySem.instDecidableEqStr by Mine.dsq
name_quick tw10030586065758793078 for PySem.instDecidableEqStr by Mine.dsq
name_quick tw6733733256287894996 for PySem.instDecidableEqStr by Mine.dsq
name_quick tw4552823106982906706 for PySem.instDecidableEqStr by Mine.dsq
name_quick tw2039238271031011813 for PySem.instDecidableEqStr by Mine.dsq
name_quick tw2078703811421203504 for PySem.instDecidableEqStr by Mine.dsq
name_quick tw13759679279233594173 for PySem.instDecidableEqStr by Mine.dsq
name_quick tw12577023982554244617 for PySem.instDecidableEqStr by Mine.dsq
name_quick tw16326889199254633757 for PySem.instDecidableEqStr by Mine.dsq
name_quick tw16289391198768371057 for PySem.instDecidableEqStr by Mine.dsq
name_quick tw2447775223705975068 for PySem.instDecidableEqStr by Mine.dsq
name_quick tw6448080314894763839 for PySem.instDecidableEqStr by Mine.dsq
name_quick tw7957090006295546105 for PySem.instDecidableEqStr by Mine.dsq
name_quick tw11277413387252134812 for PySem.instDecidableEqStr by Mine.dsq
name_quick tw16148938690769344688 for PySem.instDecidableEqStr by Mine.dsq
name_quick tw1869930749605803152 for PySem.instDecidableEqStr by Mine.dsq
name_quick tw15542503528162795033 for PySem.instDecidableEqStr by Mine.dsq
name_quick tw13951202360752479828 for PySem.instDecidableEqStr by Mine.dsq
name_quick tw4679858250743294509 for PySem.instDecidableEqStr by Mine.dsq
name_quick tw12329403913580668285 for PySem.instDecidableEqStr by Mine.dsq
name_quick tw13329733208086693882 for PySem.instDecidableEqStr by Mine.dsq
name_quick tw10460931487171540145 for PySem.instDecidableEqStr by Mine.dsq
name_quick tw11707433790658880453 for PySem.instDecidableEqStr by Mine.dsq
name_quick tw441327347791068078 for PySem.instDecidableEqStr by Mine.dsq
name_quick tw2571919107429820419 for PySem.instDecidableEqStr by Mine.dsq
name_quick tw17768419659990539469 for PySem.instDecidableEqStr by Mine.dsq
name_quick tw505943868828395459 for PySem.instDecidableEqStr by Mine.dsq
name_quick tw6624491594363574236 for PySem.instDecidableEqStr by Mine.dsq
name_quick tw9407582987413476825 for PySem.instDecidableEqStr by Mine.dsq
name_quick tw6792406925840432001 for PySem.instDecidableEqStr by Mine.dsq
name_quick tw1157545019965518967 for PySem.instDecidableEqStr by Mine.dsq
name_quick tw10670733350059645105 for PySem.instDecidableEqStr by Mine.dsq
name_quick tw8588708647495961459 for PySem.instDecidableEqStr by Mine.dsq
name_quick tw5555313912996828296 for PySem.instDecidableEqStr by Mine.dsq
name_quick tw8800560270773162519 for PySem.instDecidableEqStr by Mine.dsq
name_quick tw10314498396905981064 for PySem.instDecidableEqStr by Mine.dsq
name_quick tw17018449646109014956 for PySem.instDecidableEqStr by Mine.dsq
name_quick tw9626621113073979434 for PySem.instDecidableEqStr by Mine.dsq
name_quick tw18188234029961486008 for PySem.instDecidableEqStr by Mine.dsq
name_quick tw16644606511662114574 for PySem.instDecidableEqStr by Mine.dsq
name_quick tw17814930658547583709 for PySem.instDecidableEqStr by Mine.dsq
name_quick tw15766043655864335149 for PySem.instDecidableEqStr by Mine.dsq
name_quick tw3142773779024712118 for PySem.instDecidableEqStr by Mine.dsq
name_quick tw10353204498128435838 for PySem.instDecidableEqStr by Mine.dsq
name_quick tw14420389602138693270 for PySem.instDecidableEqStr by Mine.dsq
name_quick tw6012508502120743258 for PySem.instDecidableEqStr by Mine.dsq
name_quick tw618205885557783147 for PySem.instDecidableEqStr by Mine.dsq
name_quick tw14224011070414065920 for PySem.instDecidableEqStr by Mine.dsq
name_quick tw17207840028585114417 for PySem.instDecidableEqStr by Mine.dsq
name_quick tw6213141578215901147 for PySem.instDecidableEqStr by Mine.dsq
name_quick tw14210447440969649564 for PySem.instDecidableEqStr by Mine.dsq
name_quick tw13142473509193869113 for PySem.instDecidableEqStr by Mine.dsq
name_quick tw5701610774189311196 for PySem.instDecidableEqStr by Mine.dsq
name_quick tw6551367506479906963 for PySem.instDecidableEqStr by Mine.dsq
name_quick tw3306904295867340462 for PySem.instDecidableEqStr by Mine.dsq
name_quick tw11317593695737139937 for PySem.instDecidableEqStr by Mine.dsq
name_quick tw6817277305950994716 for PySem.instDecidableEqStr by Mine.dsq
name_quick tw16349216596472256690 for PySem.instDecidableEqStr by Mine.dsq
name_quick tw17774800907425398282 for PySem.instDecidableEqStr by Mine.dsq
name_quick tw7191607858210974391 for PySem.instDecidableEqStr by Mine.dsq
name_quick tw17913803186225011329 for PySem.instDecidableEqStr by Mine.dsq
name_quick tw6090905460779295987 for PySem.instDecidableEqStr by Mine.dsq
name_quick tw11420187438672877268 for PySem.instDecidableEqStr by Mine.dsq
name_quick tw17695988578738506429 for PySem.instDecidableEqStr by Mine.dsq
name_quick tw9575948337506731703 for PySem.instDecidableEqStr by Mine.dsq
name_quick tw5111356299099525756 for PySem.instDecidableEqStr by Mine.dsq
name_quick tw5815302876190815700 for PySem.instDecidableEqStr by Mine.dsq
name_quick tw16474492168511960337 for PySem.instDecidableEqStr by Mine.dsq
name_quick tw12985358249318526461 for PySem.instDecidableEqStr by Mine.dsq
name_quick tw14112274594779413971 for PySem.instDecidableEqStr by Mine.dsq
name_quick tw11939915149646268982 for PySem.instDecidableEqStr by Mine.dsq
name_quick tw8642067239939848140 for PySem.instDecidableEqStr by Mine.dsq
name_quick tw17993156020533580102 for PySem.instDecidableEqStr by Mine.dsq
name_quick tw10563471281537121611 for PySem.instDecidableEqStr by Mine.dsq
name_quick tw11013792430000457035 for PySem.instDecidableEqStr by Mine.dsq
name_quick tw5832503352825792928 for PySem.instDecidableEqStr by Mine.dsq
name_quick tw5518745428033880147 for PySem.instDecidableEqStr by Mine.dsq
name_quick tw18011898689540126615 for PySem.instDecidableEqStr by Mine.dsq
name_quick tw12475847535787081790 for PySem.instDecidableEqStr by Mine.dsq
name_quick tw14401720017095790664 for PySem.instDecidableEqStr by Mine.dsq
name_quick tw14273802060069496912 for PySem.instDecidableEqStr by Mine.dsq
name_quick tw4748654258956052638 for PySem.instDecidableEqStr by Mine.dsq
name_quick tw7745614565497352828 for PySem.instDecidableEqStr by Mine.dsq
name_quick tw2614552105083212210 for PySem.instDecidableEqStr by Mine.dsq
name_quick tw535072334866317008 for PySem.instDecidableEqStr by Mine.dsq
name_quick tw8732485361984058174 for PySem.instDecidableEqStr by Mine.dsq
name_quick tw17537794083376710389 for PySem.instDecidableEqStr by Mine.dsq
name_quick tw6683783046931543321 for PySem.instDecidableEqStr by Mine.dsq
name_quick tw13902060940116135572 for PySem.instDecidableEqStr by Mine.dsq
name_quick tw8727135674562949291 for PySem.instDecidableEqStr by Mine.dsq
name_quick tw16189536214700107852 for PySem.instDecidableEqStr by Mine.dsq
name_quick tw17434858337260393937 for PySem.instDecidableEqStr by Mine.dsq
name_quick tw15271515629493726085 for PySem.instDecidableEqStr by Mine.dsq
name_quick tw10057510723706494237 for PySem.instDecidableEqStr by Mine.dsq
name_quick tw1305609685974793870 for PySem.instDecidableEqStr by Mine.dsq
name_quick tw4989861115921178866 for PySem.instDecidableEqStr by Mine.dsq
name_quick tw10092856319447448734 for PySem.instDecidableEqStr by Mine.dsq
name_quick tw14979626087600564940 for PySem.instDecidableEqStr by Mine.dsq
name_quick tw470574548607681690 for PySem.instDecidableEqStr by Mine.dsq
name_quick tw11452132507678324671 for PySem.instDecidableEqStr by Mine.dsq
name_quick tw18123110421147349612 for PySem.instDecidableEqStr by Mine.dsq
name_quick tw2408619945344806742 for PySem.instDecidableEqStr by Mine.dsq
name_quick tw3560238982266916124 for PySem.instDecidableEqStr by Mine.dsq
name_quick tw6125931036764729998 for PySem.instDecidableEqStr by Mine.dsq
name_quick tw13900631225919944168 for PySem.instDecidableEqStr by Mine.dsq
name_quick tw12224272158712414510 for PySem.instDecidableEqStr by Mine.dsq
name_quick tw16223305294053301992 for PySem.instDecidableEqStr by Mine.dsq
name_quick tw11882390891050353253 for PySem.instDecidableEqStr by Mine.dsq
name_quick tw14023627001141898710 for PySem.instDecidableEqStr by Mine.dsq
name_quick tw4299136966843209011 for PySem.instDecidableEqStr by Mine.dsq
name_quick tw293829605474521371 for PySem.instDecidableEqStr by Mine.dsq
name_quick tw9862997608875712007 for PySem.instDecidableEqStr by Mine.dsq
name_quick tw8376441433122354887 for PySem.instDecidableEqStr by Mine.dsq
name_quick tw9248541637817142097 for PySem.instDecidableEqStr by Mine.dsq
name_quick tw15894407043143930727 for PySem.instDecidableEqStr by Mine.dsq
name_quick tw18034167525097398909 for PySem.instDecidableEqStr by Mine.dsq
name_quick tw6267220430429643429 for PySem.instDecidableEqStr by Mine.dsq
name_quick tw16942504070071679284 for PySem.instDecidableEqStr by Mine.dsq
name_quick tw12635813782599140982 for PySem.instDecidableEqStr by Mine.dsq
name_quick tw3793695936567050837 for PySem.instDecidableEqStr by Mine.dsq
name_quick tw15207642765257501584 for PySem.instDecidableEqStr by Mine.dsq
name_quick tw15215539614974913122 for PySem.instDecidableEqStr by Mine.dsq
name_quick tw13853819408611901635 for PySem.instDecidableEqStr by Mine.dsq
name_quick tw13581749221687468397 for PySem.instDecidableEqStr by Mine.dsq
name_quick tw4224760802259116069 for PySem.instDecidableEqStr by Mine.dsq
name_quick tw1735007293439650466 for PySem.instDecidableEqStr by Mine.dsq
name_quick tw5976474108018559520 for PySem.instDecidableEqStr by Mine.dsq
name_quick tw3545756843259802059 for PySem.instDecidableEqStr by Mine.dsq
name_quick tw14544052848187043789 for PySem.instDecidableEqStr by Mine.dsq
name_quick tw17233024954070867409 for PySem.instDecidableEqStr by Mine.dsq
name_quick tw13036272033356848781 for PySem.instDecidableEqStr by Mine.dsq
name_quick tw11328821685186248670 for PySem.instDecidableEqStr by Mine.dsq
name_quick tw13981391230805400906 for PySem.instDecidableEqStr by Mine.dsq
name_quick tw930746551332336609 for PySem.instDecidableEqStr by Mine.dsq
name_quick tw15025364365136419289 for PySem.instDecidableEqStr by Mine.dsq
name_quick tw10227693086864044499 for PySem.instDecidableEqStr by Mine.dsq
name_quick tw14326252917377295143 for PySem.instDecidableEqStr by Mine.dsq
name_quick tw6654550962395885724 for PySem.instDecidableEqStr by Mine.dsq
name_quick tw7543618554067911206 for PySem.instDecidableEqStr by Mine.dsq
name_quick tw18099695126128789690 for PySem.instDecidableEqStr by Mine.dsq
name_quick tw1393629259489396696 for PySem.instDecidableEqStr by Mine.dsq
name_quick tw13404028037160507757 for PySem.instDecidableEqStr by Mine.dsq
name_quick tw6245536207120538393 for PySem.instDecidableEqStr by Mine.dsq
name_quick tw14185684948912167051 for PySem.instDecidableEqStr by Mine.dsq
name_quick tw3470799630455053000 for PySem.instDecidableEqStr by Mine.dsq
name_quick tw16414604833108395602 for PySem.instDecidableEqStr by Mine.dsq
name_quick tw16349804527192203551 for PySem.instDecidableEqStr by Mine.dsq
name_quick tw13783648951372772217 for PySem.instDecidableEqStr by Mine.dsq
name_quick tw15450981722951097364 for PySem.instDecidableEqStr by Mine.dsq
name_quick tw17015423121036801654 for PySem.instDecidableEqStr by Mine.dsq
name_quick tw2504098582860672743 for PySem.instDecidableEqStr by Mine.dsq
name_quick tw7788680626742099145 for PySem.instDecidableEqStr by Mine.dsq
name_quick tw5200128776193632040 for PySem.instDecidableEqStr by Mine.dsq
name_quick tw12450158673883907302 for PySem.instDecidableEqStr by Mine.dsq
name_quick tw1377046205977697930 for PySem.instDecidableEqStr by Mine.dsq
name_quick tw6697550738653902072 for PySem.instDecidableEqStr by Mine.dsq
name_quick tw10320149354908582346 for PySem.instDecidableEqStr by Mine.dsq
name_quick tw6380782515089751550 for PySem.instDecidableEqStr by Mine.dsq
name_quick tw7323676302269181137 for PySem.instDecidableEqStr by Mine.dsq
name_quick tw12359285113459375979 for PySem.instDecidableEqStr by Mine.dsq
name_quick tw9305782018832362445 for PySem.instDecidableEqStr by Mine.dsq
name_quick tw387338674003428930 for PySem.instDecidableEqStr by Mine.dsq
name_quick tw17000458434675057986 for PySem.instDecidableEqStr by Mine.dsq
name_quick tw15224661121926592747 for PySem.instDecidableEqStr by Mine.dsq
name_quick tw7824674403005707151 for PySem.instDecidableEqStr by Mine.dsq
name_quick tw2719445374943340272 for PySem.instDecidableEqStr by Mine.dsq
name_quick tw3880421473898291048 for PySem.instDecidableEqStr by Mine.dsq
name_quick tw17024950926791866790 for PySem.instDecidableEqStr by Mine.dsq
name_quick tw9130231340562597213 for PySem.instDecidableEqStr by Mine.dsq
name_quick tw2077871619930789226 for PySem.instDecidableEqStr by Mine.dsq
name_quick tw14043711374191979534 for PySem.instDecidableEqStr by Mine.dsq
name_quick tw1772237422875290029 for PySem.instDecidableEqStr by Mine.dsq
name_quick tw7650934615059315214 for PySem.instDecidableEqStr by Mine.dsq
name_quick tw16049961110935095269 for PySem.instDecidableEqStr by Mine.dsq
name_quick tw11236458984494512445 for PySem.instDecidableEqStr by Mine.dsq
name_quick tw4466658021391931909 for PySem.instDecidableEqStr by Mine.dsq
name_quick tw7802139600951554647 for PySem.instDecidableEqStr by Mine.dsq
name_quick tw10500077913531017323 for PySem.instDecidableEqStr by Mine.dsq
name_quick tw9529234661008812162 for PySem.instDecidableEqStr by Mine.dsq
name_quick tw17045043414572947948 for PySem.instDecidableEqStr by Mine.dsq
name_quick tw1468114885665857710 for PySem.instDecidableEqStr by Mine.dsq
name_quick tw18211773271919218964 for PySem.instDecidableEqStr by Mine.dsq
name_quick tw6834602518627153040 for PySem.instDecidableEqStr by Mine.dsq
name_quick tw13551572312386263098 for PySem.instDecidableEqStr by Mine.dsq
name_quick tw9041768174481992944 for PySem.instDecidableEqStr by Mine.dsq
name_quick tw10508251915553800215 for PySem.instDecidableEqStr by Mine.dsq
name_quick tw4966674849315620570 for PySem.instDecidableEqStr by Mine.dsq
name_quick tw8987815912523675519 for PySem.instDecidableEqStr by Mine.dsq
name_quick tw12050852935592152754 for PySem.instDecidableEqStr by Mine.dsq
name_quick tw4110589180456253056 for PySem.instDecidableEqStr by Mine.dsq
name_quick tw10470071008263537045 for PySem.instDecidableEqStr by Mine.dsq
name_quick tw17863021456227041891 for PySem.instDecidableEqStr by Mine.dsq
name_quick tw15742981410569661332 for PySem.instDecidableEqStr by Mine.dsq
name_quick tw10317580896714288900 for PySem.instDecidableEqStr by Mine.dsq
name_quick tw4775785305629353868 for PySem.instDecidableEqStr by Mine.dsq
name_quick tw14530364306720264245 for PySem.instDecidableEqStr by Mine.dsq
name_quick tw16655555454665732581 for PySem.instDecidableEqStr by Mine.dsq
name_quick tw8989982439271903415 for PySem.instDecidableEqStr by Mine.dsq
name_quick tw3764465048917985505 for PySem.instDecidableEqStr by Mine.dsq
name_quick tw15319007112934793488 for PySem.instDecidableEqStr by Mine.dsq
name_quick tw329819065673440000 for PySem.instDecidableEqStr by Mine.dsq
name_quick tw17279654841073493023 for PySem.instDecidableEqStr by Mine.dsq
name_quick tw9413167413068371254 for PySem.instDecidableEqStr by Mine.dsq
name_quick tw11935356649212052271 for PySem.instDecidableEqStr by Mine.dsq
name_quick tw2088544591296533915 for PySem.instDecidableEqStr by Mine.dsq
name_quick tw9800571698397750058 for PySem.instDecidableEqStr by Mine.dsq
name_quick tw15078596067121957158 for PySem.instDecidableEqStr by Mine.dsq
name_quick tw17431367730909923944 for PySem.instDecidableEqStr by Mine.dsq
name_quick tw10138199336372458610 for PySem.instDecidableEqStr by Mine.dsq
name_quick tw10424941004445345732 for PySem.instDecidableEqStr by Mine.dsq
name_quick tw16176465441171805009 for PySem.instDecidableEqStr by Mine.dsq
name_quick tw16998109343291152856 for PySem.instDecidableEqStr by Mine.dsq
name_quick tw9910355351051955638 for PySem.instDecidableEqStr by Mine.dsq
name_quick tw8686407601681055034 for PySem.instDecidableEqStr by Mine.dsq
name_quick tw13512673800721320934 for PySem.instDecidableEqStr by Mine.dsq
section
open PySem PySem.W PyProof.Rows
set_option maxRecDepth 100000
set_option maxHeartbeats 0
namespace Mine
open_top hd for PySem.Challenge.rw_ij0130_01
end Mine
end
section
open PySem PySem.W PyProof.Rows PySem.Calls
namespace Mine
section
variable {α : Type} {prog : Program} {w : World} {A : Around} {E : Value → Shared → Prop}
/-- what a read-only, allocating tree gives -/
noncomputable def wpA (K : Frag) (S : Setting) (P : α → Prop) : Sem α → Prop
  | .pure a => P a
  | .rule _ k => wpA K S P (k ())
  | .at _ k => wpA K S P (k ())
  | .point _ k => wpA K S P (k ())
  | .ask k => wpA K S P (k S)
  | .load a _ k => match K.lookup a with
    | some o => wpA K S P (k o)
    | none => False
  | .fresh k => ∀ t, wpA K S P (k t)
  | .alloc o k => match o.isFreed with
    | false => ∀ a, wpA K S P (k a)
    | true => False
  | _ => False
theorem keeps_rfl (s : Shared) : Keeps s s := ⟨s.heap, s.toks, rfl, fun _ _ e => e⟩
theorem keeps_trans {s s' s'' : Shared} (h : Keeps s s') (h' : Keeps s' s'') : Keeps s s'' := by
  obtain ⟨a, b, rfl, k⟩ := h
  obtain ⟨c, d, rfl, k'⟩ := h'
  exact ⟨c, d, rfl, fun x o e => k' x o (k x o e)⟩
theorem Keeps.heap {s s' : Shared} (h : Keeps s s') : ∀ b o, s.heap.get? b = some o → s'.heap.get? b = some o := by
  obtain ⟨a, b, rfl, k⟩ := h
  exact k
theorem wp_of_wpA {K : Frag} {P : α → Prop} : ∀ (t : Sem α) {s : Shared} {Q : α → Shared → Prop}, K.In s.heap → wpA K ⟨prog, w.params⟩ P t → (∀ a s', Keeps s s' → P a → Q a s') → wpAny (model prog w) A t Q E s := by
  intro t
  induction t with
  | pure a => intro s Q _ h q; exact wpAny_pure (q a s (keeps_rfl s) h)
  | rule _ k ih => intro s Q X h q; exact PySem.W.X.x_rule (ih () X h q)
  | «at» _ k ih => intro s Q X h q; exact PySem.W.X.x_at (ih () X h q)
  | point _ k ih => intro s Q X h q; exact PySem.W.X.x_point (ih () X h q)
  | ask k ih => intro s Q X h q; exact PySem.W.X.x_ask (ih _ X h q)
  | load a p k ih =>
    intro s Q X h q
    simp only [wpA] at h
    split at h
    · rename_i o ho
      exact PySem.W.X.x_load (X _ _ ho) (ih o X h q)
    · exact h.elim
  | fresh k ih =>
    intro s Q X h q
    exact PySem.W.X.x_fresh (ih _ (s := { s with toks := s.toks + 1 }) X (h s.toks) fun a s' hk hp => q a s' (keeps_trans ⟨s.heap, s.toks + 1, rfl, fun _ _ e => e⟩ hk) hp)
  | alloc o k ih =>
    intro s Q X h q
    simp only [wpA] at h
    split at h
    · refine wpAny_bind (m := alloc o) (f := k) (wpAny_alloc ?_)
      have hk : ∀ b o', s.heap.get? b = some o' → (s.heap.push o).get? b = some o' := fun b o' e => Heap.get?_push_of_some _ e
      exact ih _ (s := { s with heap := s.heap.push o }) (X.keeps hk) (h s.heap.objs.size) fun a s' hk' hp => q a s' (keeps_trans ⟨_, s.toks, rfl, hk⟩ hk') hp
    · exact h.elim
  | _ => intro s Q _ h; exact h.elim
end
end Mine
end
section
open PySem PySem.W PyProof.Rows PySem.Calls
namespace Mine
section
variable {prog : Program} {w : World} {A : Around} {s : Shared} {K : Frag} {R : Result → Shared → Prop} {name qual : Str} {params : Arguments} {body : List Stmt} {scope : Scope} {dV kV doc pm cdv ct oc : Value} {an od : Option Addr} {osl : Array (Option Value)} {f : Addr} {args : Args} {binds : List (Str × Value)}
/-- a call of a def of the written part that raises nothing -/
theorem enterG (X : K.In s.heap) (hl : s.heap.NoLimit) (ho : K.lookup f = some ⟨oc, od, .func (fnOf name qual params body scope dV kV doc pm an cdv ct), osl⟩) (hcd : codeIn K cdv qual = true)
    (hroom : A.depth < recursionLimit) (hbind : BindsTo s (fnOf name qual params body scope dV kV doc pm an cdv ct) args binds) (hloc : ∀ y ∈ binds, scope.names.lookup y.1 = some .local) (hcell : ∀ x ∈ scope.names, x.2 ≠ .cell)
    (h : ∀ h₁, Fr s.heap s.heap.objs.size h₁ (fun y => binds.reverse.lookup y) → News s.heap s.heap.objs.size h₁ [] →
      wpAny (model prog w) (A.deeper (envOf qual scope s.heap.objs.size f cdv)) (execs body (envOf qual scope s.heap.objs.size f cdv))
        (fun fl s' => R (.ok (.ret (match fl with | .ret v => v | _ => .none))) s') (fun _ _ => False) { s with heap := h₁, toks := s.toks + binds.length })
    (hco : scope.isCoroutine = false := by rfl) (hgen : scope.isGenerator = false := by rfl) (hk : scope.kind = .function := by rfl) :
    codeAny (model prog w) A (.call (.ref f) args) R s := by
  refine codeAny_call_def (fd := fnOf name qual params body scope dV kV doc pm an cdv ct) (body := body) (binds := binds) hroom (X _ _ ho) rfl hl (codeRec_of X hcd) rfl hbind hcell hloc (fun h₁ hns hk₁ => ?_) hco hgen hk
  exact wpAny_mono (h h₁ ⟨hns, hk₁, Nat.le_refl _⟩ News.nil) (fun _ _ x => x) fun _ _ x => x.elim
end
end Mine
namespace Mine
section
variable {prog : Program} {w : World} {A : Around} {s : Shared} {E : Value → Shared → Prop} {Q : Value → Shared → Prop} {K : Frag}
/-- a bound built-in of the written part, run to its end by computation -/
theorem call_bound (X : K.In s.heap) {f : Addr} {args all : List Value} {id : String} {b : Builtin} (P : Value → Prop) (hp : plainId id = true) (hb : entryFor table id = some b)
    (hw : wpA K ⟨prog, w.params⟩ (fun fin => fin = .again (.builtin id ⟨all, []⟩)) (callAny (.ref f) ⟨args, []⟩))
    (hv : wpA K ⟨prog, w.params⟩ (fun fin => ∃ v, fin = .done (.ret v) ∧ P v) (b ⟨all, []⟩)) (h : ∀ v s', Keeps s s' → P v → Q v s') :
    wpAny (model prog w) A (call (.ref f) args) Q E s := by
  refine wpAny_call (codeAny_of_tree ?_)
  show wpAny _ _ (callAny (.ref f) ⟨args, []⟩) _ _ s
  refine wp_of_wpA (K := K) _ X hw fun fin s₁ k₁ e => ?_
  subst e
  refine ⟨plainId_quiet hp _, codeAny_builtin hb ?_⟩
  refine wp_of_wpA (K := K) _ (X.keeps (Keeps.heap k₁)) hv fun fin s₂ k₂ e => ?_
  obtain ⟨v, rfl, pv⟩ := e
  exact h v s₂ (keeps_trans k₁ k₂) pv
theorem keeps_M' {K : Frag} {M : Model} {f : Addr} {vs : Array Value} {od : Option Addr} {sl : Array (Option Value)} (hk : K.lookup f = some ⟨.type "builtin_function_or_method", od, .fields vs, sl⟩) (h : Heap) (X : K.In h) :
    ∃ k, (k = Keeper.frame ∨ k = Keeper.machine ∨ k = Keeper.boundFrame) ∧ Looks M h (keeperOf (.ref f)) k :=
  ⟨.machine, .inr (.inl rfl), (Looks.ld (part := none) (X _ _ hk)).andThen .now⟩
theorem callWith_B {M : Model} {env : Env} {pos : Pos} {h₀ : Heap} {f : Addr} {vs : Array Value} {od : Option Addr} {sl : Array (Option Value)} {e : Expr} {rest : List Expr} (_X : K.In h₀) (hk : K.lookup f = some ⟨.type "builtin_function_or_method", od, .fields vs, sl⟩)
    (h : wpAny M A (spliced (backTo pos (starEach (e :: rest) env))) (fun vs s₁ => K.In s₁.heap ∧ wpAny M A (call (.ref f) vs) Q E s₁) E s)
    (he : starEach (e :: rest) env = (false, eval e env) :: starEach rest env := by rfl) (hplain : (backTo pos (starEach rest env)).any (·.1) = false := by rfl) :
    wpAny M A (callWith pos (.ref f) [] (backTo pos (starEach (e :: rest) env)) []) Q E s := by
  rw [he] at h ⊢
  exact callWith_of (by show ((false || (backTo pos (starEach rest env)).any (·.1)) || false) = false; rw [hplain]; rfl) (keeps_M' hk) (evalArgs_plain h)
end
end Mine
namespace Mine
/-- the end of a call that only makes new things -/
noncomputable def RetG (Q : Value → Shared → Prop) (fl : Flow) (s' : Shared) : Prop := Q (match fl with | .ret v => v | _ => .none) s'
theorem retG_of {s : Shared} {Q : Value → Shared → Prop} {L : Addr} {h' : Heap} {m : Str → Option Value} {tk : Nat} {v : Value} (F : Fr s.heap L h' m) (h : ∀ s', Keeps s s' → Q v s') : RetG Q (.ret v) { s with heap := h', toks := tk } := h _ ⟨_, _, rfl, F.keep⟩
section
variable {prog : Program} {w : World} {A : Around} {s : Shared} {K : Frag} {Q : Value → Shared → Prop} {E : Value → Shared → Prop} {name qual : Str} {params : Arguments} {body : List Stmt} {scope : Scope} {dV kV doc pm cdv ct oc : Value} {an od : Option Addr} {osl : Array (Option Value)} {f : Addr} {args : List Value} {binds : List (Str × Value)}
theorem call_G (X : K.In s.heap) (hl : s.heap.NoLimit) (ho : K.lookup f = some ⟨oc, od, .func (fnOf name qual params body scope dV kV doc pm an cdv ct), osl⟩) (hcd : codeIn K cdv qual = true)
    (hroom : A.depth < recursionLimit) (hbind : BindsTo s (fnOf name qual params body scope dV kV doc pm an cdv ct) ⟨args, []⟩ binds) (hloc : ∀ y ∈ binds, scope.names.lookup y.1 = some .local) (hcell : ∀ x ∈ scope.names, x.2 ≠ .cell)
    (h : ∀ h₁, Fr s.heap s.heap.objs.size h₁ (fun y => binds.reverse.lookup y) → News s.heap s.heap.objs.size h₁ [] →
      wpAny (model prog w) (A.deeper (envOf qual scope s.heap.objs.size f cdv)) (execs body (envOf qual scope s.heap.objs.size f cdv))
        (RetG Q) (fun _ _ => False) { s with heap := h₁, toks := s.toks + binds.length })
    (hco : scope.isCoroutine = false := by rfl) (hgen : scope.isGenerator = false := by rfl) (hk : scope.kind = .function := by rfl) :
    wpAny (model prog w) A (call (.ref f) args) Q E s :=
  wpAny_call (enterG X hl ho hcd hroom hbind hloc hcell (fun h₁ F N => wpAny_mono (h h₁ F N) (fun _ _ x => x) fun _ _ x => x) hco hgen hk)
end
end Mine
end
section
open PySem PySem.W PyProof.Rows PySem.Calls
namespace Mine
example : True := by k_with_none; trivial
theorem call796 (prog : Program) (w : World) (v : Value) (P : Fin → Prop) : wpA (Mine.hd.heap_39 w.params) ⟨prog, w.params⟩ P (callAny (.ref 796) ⟨[v], []⟩) = P (.again (.builtin "re.Pattern.search" ⟨[.ref 93, v], []⟩)) := by kernel_rfl
example : True := by (k_with "call_G" => (refine' call_G (by assumption) (by exact TopRead.nolimit (by assumption)) (by k_is) (by k_is) (by assumption) (by exact BindsTo.of_eq rfl) (by exact locs rfl) (by decide) ?_ (by exact rfl) (by exact rfl) (by exact rfl); intro h₁ F N; (try dsimp only))); trivial
example : True := by (k_with "callWith ref" => (k_here; k_dflt (refine' callWith_B (by k_asm) (by k_is) ?_; k_whole))); trivial
theorem entry_search : entryFor table "re.Pattern.search" = some Builtin.«re.Pattern.search» := entryFor_of_tree (by kernel_rfl)
theorem plain_search : plainId "re.Pattern.search" = true := by decide +kernel
noncomputable def Safe (x : Str) : Prop := ∀ (prog : Program) (w : World) (t : Tok), wpA (Mine.hd.heap_39 w.params) ⟨prog, w.params⟩ (fun fin => ∃ v, fin = .done (.ret v) ∧ v = .none) (Builtin.«re.Pattern.search» ⟨[.ref 93, .str x t], []⟩)
noncomputable def Unsafe' (x : Str) : Prop := ∀ (prog : Program) (w : World) (t : Tok), wpA (Mine.hd.heap_39 w.params) ⟨prog, w.params⟩ (fun fin => ∃ v, fin = .done (.ret v) ∧ ∃ a, v = .ref a) (Builtin.«re.Pattern.search» ⟨[.ref 93, .str x t], []⟩)
section
variable {prog : Program} {w : World} {A : Around} {s : Shared} {Q : Value → Shared → Prop} {E : Value → Shared → Prop} {x : Str} {t : Tok} {h₀ : Heap} {L : Addr} {m : Str → Option Value} {news : List (Addr × Obj)}
theorem call_safe (F : Fr h₀ L s.heap m) (N : News h₀ L s.heap news) (X : (Mine.hd.heap_39 w.params).In h₀) (hx : Safe x) (h : ∀ h' tk, Fr h₀ L h' m → News h₀ L h' news → Q .none { s with heap := h', toks := tk }) : wpAny (model prog w) A (call (.ref 796) [.str x t]) Q E s :=
  call_bound (X.keeps F.keep) (fun v => v = .none) plain_search entry_search (by rw [call796]) (hx prog w t) fun v s' k e => by
    subst e
    obtain ⟨h', tk, rfl, k⟩ := k
    exact h h' tk (F.keeps k) (N.grown k)
theorem call_unsafe (F : Fr h₀ L s.heap m) (N : News h₀ L s.heap news) (X : (Mine.hd.heap_39 w.params).In h₀) (hx : Unsafe' x) (h : ∀ h' tk a, Fr h₀ L h' m → News h₀ L h' news → Q (.ref a) { s with heap := h', toks := tk }) : wpAny (model prog w) A (call (.ref 796) [.str x t]) Q E s :=
  call_bound (X.keeps F.keep) (fun v => ∃ a, v = .ref a) plain_search entry_search (by rw [call796]) (hx prog w t) fun v s' k e => by
    obtain ⟨a, rfl⟩ := e
    obtain ⟨h', tk, rfl, k⟩ := k
    exact h h' tk a (F.keeps k) (N.grown k)
end
example : True := by (k_with "call ref" => (k_here; first
  | (refine' call_safe (by assumption) (by assumption) (by assumption) (by assumption) ?_; intro h' tk' F' N'; (try k_sweep))
  | (refine' call_unsafe (by assumption) (by assumption) (by assumption) (by assumption) ?_; intro h' tk' a' F' N'; (try k_sweep)))); trivial

example : True := by (k_with "ends" => ((try dsimp only); first | (exfalso; omega) | (refine retG_of (by assumption) ?_))); trivial
section
variable {prog : Program} {w : World} {A : Around} {s : Shared} {Q : Value → Shared → Prop} {E : Value → Shared → Prop} {p : Program} {loose : List Str} {mg mb : Str → Option Value} {x : Str} {t : Tok}
set_option maxRecDepth 100000 in
set_option maxHeartbeats 800000 in
theorem quote_safe (X : (Mine.hd.heap_39 w.params).In s.heap) (T : TopRead p loose mg mb s.heap) (hroom : A.depth < recursionLimit) (hs : Safe x) (hl : x.length ≠ 0) (hz : x.length ≤ 100) (h : ∀ s', Keeps s s' → ∀ t', Q (.str x t') s') :
    wpAny (model prog w) A (call (.ref 803) [.str x t]) Q E s := by
  walk_at "call_G"
  k_steps
  all_goals walk_at "ends"
  all_goals exact fun s' hk => h s' hk _
set_option maxRecDepth 100000 in
set_option maxHeartbeats 800000 in
theorem quote_empty (X : (Mine.hd.heap_39 w.params).In s.heap) (T : TopRead p loose mg mb s.heap) (hroom : A.depth < recursionLimit) (h : ∀ s', Keeps s s' → ∀ t', Q (.str (Str.ofString "''") t') s') :
    wpAny (model prog w) A (call (.ref 803) [.str (Str.ofString "") t]) Q E s := by
  walk_at "call_G"
  k_steps
  all_goals walk_at "ends"
  all_goals exact fun s' hk => h s' hk _

example : True := by (k_with "binaryOp Add str str" => (k_here; refine' SB.add ?_ (by ((try simp only [Str.length_append]); rw [sizeLine_eq]; omega)); intro t' k')); trivial
set_option maxRecDepth 100000 in
set_option maxHeartbeats 800000 in
theorem quote_unsafe (X : (Mine.hd.heap_39 w.params).In s.heap) (T : TopRead p loose mg mb s.heap) (hroom : A.depth < recursionLimit) (hs : Unsafe' x) (hl : x.length ≠ 0) (hz : x.length ≤ 100)
    (hq : (Str.ofString "'").length = 1) (hr : (Txt.replace x (Str.ofString "'") (Str.ofString "'\"'\"'")).length ≤ 1000)
    (h : ∀ s', Keeps s s' → ∀ t', Q (.str (Str.ofString "'" ++ Txt.replace x (Str.ofString "'") (Str.ofString "'\"'\"'") ++ Str.ofString "'") t') s') :
    wpAny (model prog w) A (call (.ref 803) [.str x t]) Q E s := by
  walk_at "call_G"
  k_steps
  all_goals walk_at "ends"
  all_goals exact fun s' hk => h s' hk _
end
example : True := by k_with_none; trivial
end Mine
end
section
open PySem PySem.W PyProof.Rows PySem.Calls PySem.Spec
namespace Mine
section
variable {prog : Program} {w : World} {A : Around} {s : Shared} {K : Frag} {R : Result → Shared → Prop} {Q : Value → Shared → Prop} {E : Value → Shared → Prop} {name qual : Str} {params : Arguments} {body : List Stmt} {scope : Scope} {dV kV doc pm cdv ct oc : Value} {an od : Option Addr} {osl : Array (Option Value)} {f : Addr} {pos : List Value} {kw : List (Str × Value)} {binds : List (Str × Value)}
  {h₀ : Heap} {L : Addr} {m : Str → Option Value} {own rest : List (Addr × Obj)} {p : Program} {loose : List Str} {mg mb : Str → Option Value}
/-- the ground of a callee that may change what is its own, and keeps all else -/
theorem groundH (F : Fr h₀ L s.heap m) (N : News h₀ L s.heap own) (N' : News h₀ L s.heap rest) (hd : ∀ q ∈ rest, q.1 ∉ own.map (·.1)) :
    h₀.StaysIn (hideAll s.heap (own.map (·.1))) ∧ ∀ h' L' m' own', Fr (hideAll s.heap (own.map (·.1))) L' h' m' → News (hideAll s.heap (own.map (·.1))) L' h' own' → Fr h₀ L h' m ∧ News h₀ L h' (own' ++ rest) := by
  have nm : ∀ b o, h₀.get? b = some o → b ∉ own.map (·.1) := fun b o e q => by
    obtain ⟨p, hp, rfl⟩ := List.mem_map.mp q
    rw [(N p hp).2.2] at e; cases e
  have st : h₀.StaysIn (hideAll s.heap (own.map (·.1))) := fun b o e => hideAll_get _ (F.keep b o e) (nm b o e)
  obtain ⟨oL, es, ep, hL, hLd, hLk, hLf⟩ := F.ns
  have nL : L ∉ own.map (·.1) := fun q => by
    obtain ⟨p, hp, e⟩ := List.mem_map.mp q
    exact (N p hp).2.1 e
  have hLg := hideAll_get (own.map (·.1)) hL nL
  refine ⟨st, fun h' L' m' own' F' M => ⟨⟨⟨oL, es, ep, F'.keep L oL hLg, hLd, hLk, hLf⟩, fun b o e => F'.keep b o (st b o e), F.above⟩, fun q hq => ?_⟩⟩
  rcases List.mem_append.mp hq with hq | hq
  · refine ⟨(M q hq).1, fun e => ?_, ?_⟩
    · have := (M q hq).2.2; rw [e, hLg] at this; cases this
    · cases z : h₀.get? q.1 with
      | none => rfl
      | some o => have := (M q hq).2.2; rw [st _ _ z] at this; cases this
  · exact ⟨F'.keep _ _ (hideAll_get _ (N' q hq).1 (hd q hq)), (N' q hq).2⟩
noncomputable def LeaveH (h₀ : Heap) (L : Addr) (m : Str → Option Value) (g : Heap) (rest : List (Addr × Obj)) (Q : Value → Shared → Prop) (fl : Flow) (s' : Shared) : Prop :=
  ∃ L' m' own', Fr g L' s'.heap m' ∧ News g L' s'.heap own' ∧ (Fr h₀ L s'.heap m → News h₀ L s'.heap (own' ++ rest) → Q (match fl with | .ret v => v | _ => .none) s')
theorem leaveH_ {g : Heap} {L' : Addr} {m' : Str → Option Value} {own' : List (Addr × Obj)} {fl : Flow} {s' : Shared} (F' : Fr g L' s'.heap m') (N' : News g L' s'.heap own')
    (k : Fr h₀ L s'.heap m → News h₀ L s'.heap (own' ++ rest) → Q (match fl with | .ret v => v | _ => .none) s') : LeaveH h₀ L m g rest Q fl s' := ⟨L', m', own', F', N', k⟩

theorem callHR (F : Fr h₀ L s.heap m) (N : News h₀ L s.heap own) (N' : News h₀ L s.heap rest) (hd : ∀ q ∈ rest, q.1 ∉ own.map (·.1)) (X : K.In h₀) (T : TopRead p loose mg mb h₀)
    (ho : K.lookup f = some ⟨oc, od, .func (fnOf name qual params body scope dV kV doc pm an cdv ct), osl⟩) (hcd : codeIn K cdv qual = true) (hroom : A.depth < recursionLimit)
    (hbind : BindsTo s (fnOf name qual params body scope dV kV doc pm an cdv ct) ⟨pos, kw⟩ binds) (hloc : ∀ y ∈ binds, scope.names.lookup y.1 = some .local) (hcell : ∀ x ∈ scope.names, x.2 ≠ .cell)
    (h : ∀ g L' h₁, h₀.StaysIn g → Fr g L' h₁ (fun y => binds.reverse.lookup y) → News g L' h₁ own → (∀ q ∈ rest, g.get? q.1 = some q.2) → K.In g → TopRead p loose mg mb g →
      wpAny (model prog w) (A.deeper (envOf qual scope L' f cdv)) (execs body (envOf qual scope L' f cdv)) (LeaveH h₀ L m g rest Q) (fun _ _ => False) { s with heap := h₁, toks := s.toks + binds.length })
    (hco : scope.isCoroutine = false := by rfl) (hgen : scope.isGenerator = false := by rfl) (hk : scope.kind = .function := by rfl) :
    wpAny (model prog w) A (call (.ref f) pos kw) Q E s := by
  obtain ⟨st, lv⟩ := groundH F N N' hd
  refine wpAny_call (codeAny_call_def (fd := fnOf name qual params body scope dV kV doc pm an cdv ct) (body := body) (binds := binds) hroom ((X.keeps F.keep) _ _ ho) rfl (T.nolimit.keeps F.keep) (codeRec_of (X.keeps F.keep) hcd) rfl hbind hcell hloc (fun h₁ hns hk₁ => ?_) hco hgen hk)
  refine wpAny_mono (h _ s.heap.objs.size h₁ st ⟨hns, fun b o e => hk₁ b o (of_hideAll _ e), Nat.le_of_eq (hideAll_size _ _)⟩
    (fun q hq => ⟨hk₁ _ _ (N q hq).1, Nat.ne_of_lt (Heap.lt_size (N q hq).1), hideAll_none _ (List.mem_map_of_mem hq)⟩) (fun q hq => hideAll_get _ (N' q hq).1 (hd q hq)) (X.keeps st) (T.keeps st)) (fun fl s' hl => ?_) fun _ _ y => y.elim
  obtain ⟨L', m', own', F', M, k⟩ := hl
  obtain ⟨a, b⟩ := lv _ _ _ _ F' M
  exact k a b
theorem callHS (F : Fr h₀ L s.heap m) (N : News h₀ L s.heap own) (N' : News h₀ L s.heap rest) (hd : ∀ q ∈ rest, q.1 ∉ own.map (·.1)) (X : K.In h₀) (T : TopRead p loose mg mb h₀)
    (ho : K.lookup f = some ⟨oc, od, .func (fnOf name qual params body scope dV kV doc pm an cdv ct), osl⟩) (hcd : codeIn K cdv qual = true) (hroom : A.depth < recursionLimit)
    (hbind : BindsTo s (fnOf name qual params body scope dV kV doc pm an cdv ct) ⟨pos, kw⟩ binds) (hloc : ∀ y ∈ binds, scope.names.lookup y.1 = some .local) (hcell : ∀ x ∈ scope.names, x.2 ≠ .cell)
    (h : ∀ g L' h₁, h₀.StaysIn g → Fr g L' h₁ (fun y => binds.reverse.lookup y) → News g L' h₁ own → K.In g → TopRead p loose mg mb g →
      wpAny (model prog w) (A.deeper (envOf qual scope L' f cdv)) (execs body (envOf qual scope L' f cdv)) (LeaveH h₀ L m g rest Q) (fun _ _ => False) { s with heap := h₁, toks := s.toks + binds.length })
    (hco : scope.isCoroutine = false := by rfl) (hgen : scope.isGenerator = false := by rfl) (hk : scope.kind = .function := by rfl) :
    wpAny (model prog w) A (call (.ref f) pos kw) Q E s := callHR F N N' hd X T ho hcd hroom hbind hloc hcell (fun g L' h₁ st F₁ N₁ _ => h g L' h₁ st F₁ N₁) hco hgen hk
theorem callH (F : Fr h₀ L s.heap m) (N : News h₀ L s.heap own) (N' : News h₀ L s.heap rest) (hd : ∀ q ∈ rest, q.1 ∉ own.map (·.1)) (X : K.In h₀) (T : TopRead p loose mg mb h₀)
    (ho : K.lookup f = some ⟨oc, od, .func (fnOf name qual params body scope dV kV doc pm an cdv ct), osl⟩) (hcd : codeIn K cdv qual = true) (hroom : A.depth < recursionLimit)
    (hbind : BindsTo s (fnOf name qual params body scope dV kV doc pm an cdv ct) ⟨pos, kw⟩ binds) (hloc : ∀ y ∈ binds, scope.names.lookup y.1 = some .local) (hcell : ∀ x ∈ scope.names, x.2 ≠ .cell)
    (h : ∀ g L' h₁, Fr g L' h₁ (fun y => binds.reverse.lookup y) → News g L' h₁ own → K.In g → TopRead p loose mg mb g →
      wpAny (model prog w) (A.deeper (envOf qual scope L' f cdv)) (execs body (envOf qual scope L' f cdv)) (LeaveH h₀ L m g rest Q) (fun _ _ => False) { s with heap := h₁, toks := s.toks + binds.length })
    (hco : scope.isCoroutine = false := by rfl) (hgen : scope.isGenerator = false := by rfl) (hk : scope.kind = .function := by rfl) :
    wpAny (model prog w) A (call (.ref f) pos kw) Q E s := callHS F N N' hd X T ho hcd hroom hbind hloc hcell (fun g L' h₁ _ => h g L' h₁) hco hgen hk
noncomputable def LeaveC (h₀ : Heap) (L : Addr) (m : Str → Option Value) (g : Heap) (R : Result → Shared → Prop) (fl : Flow) (s' : Shared) : Prop :=
  ∃ L' m' own', Fr g L' s'.heap m' ∧ News g L' s'.heap own' ∧ (Fr h₀ L s'.heap m → News h₀ L s'.heap own' → R (.ok (.ret (match fl with | .ret v => v | _ => .none))) s')
theorem leaveC_ {R : Result → Shared → Prop} {g : Heap} {L' : Addr} {m' : Str → Option Value} {own' : List (Addr × Obj)} {fl : Flow} {s' : Shared} (F' : Fr g L' s'.heap m') (N' : News g L' s'.heap own')
    (k : Fr h₀ L s'.heap m → News h₀ L s'.heap own' → R (.ok (.ret (match fl with | .ret v => v | _ => .none))) s') : LeaveC h₀ L m g R fl s' := ⟨L', m', own', F', N', k⟩
theorem codeH {R : Result → Shared → Prop} {kw : List (Str × Value)} (F : Fr h₀ L s.heap m) (N : News h₀ L s.heap own) (X : K.In h₀) (T : TopRead p loose mg mb h₀)
    (ho : K.lookup f = some ⟨oc, od, .func (fnOf name qual params body scope dV kV doc pm an cdv ct), osl⟩) (hcd : codeIn K cdv qual = true) (hroom : A.depth < recursionLimit)
    (hbind : BindsTo s (fnOf name qual params body scope dV kV doc pm an cdv ct) ⟨pos, kw⟩ binds) (hloc : ∀ y ∈ binds, scope.names.lookup y.1 = some .local) (hcell : ∀ x ∈ scope.names, x.2 ≠ .cell)
    (h : ∀ g L' h₁, h₀.StaysIn g → Fr g L' h₁ (fun y => binds.reverse.lookup y) → News g L' h₁ own → K.In g → TopRead p loose mg mb g →
      wpAny (model prog w) (A.deeper (envOf qual scope L' f cdv)) (execs body (envOf qual scope L' f cdv)) (LeaveC h₀ L m g R) (fun _ _ => False) { s with heap := h₁, toks := s.toks + binds.length })
    (hco : scope.isCoroutine = false := by rfl) (hgen : scope.isGenerator = false := by rfl) (hk : scope.kind = .function := by rfl) :
    codeAny (model prog w) A (.call (.ref f) ⟨pos, kw⟩) R s := by
  obtain ⟨st, lv⟩ := groundH F N (News.nil (h := s.heap) (h₀ := h₀) (L := L)) (List.forall_mem_nil _)
  refine codeAny_call_def (fd := fnOf name qual params body scope dV kV doc pm an cdv ct) (body := body) (binds := binds) hroom ((X.keeps F.keep) _ _ ho) rfl (T.nolimit.keeps F.keep) (codeRec_of (X.keeps F.keep) hcd) rfl hbind hcell hloc (fun h₁ hns hk₁ => ?_) hco hgen hk
  refine wpAny_mono (h _ s.heap.objs.size h₁ st ⟨hns, fun b o e => hk₁ b o (of_hideAll _ e), Nat.le_of_eq (hideAll_size _ _)⟩
    (fun q hq => ⟨hk₁ _ _ (N q hq).1, Nat.ne_of_lt (Heap.lt_size (N q hq).1), hideAll_none _ (List.mem_map_of_mem hq)⟩) (X.keeps st) (T.keeps st)) (fun fl s' hl => ?_) fun _ _ y => y.elim
  obtain ⟨L', m', own', F', M, k⟩ := hl
  obtain ⟨a, b⟩ := lv _ _ _ _ F' M
  rw [List.append_nil] at b
  exact k a b
theorem body_swap {M : Model} {b b' : List Stmt} {sc sc' : Scope} {L' : Addr} {P : Flow → Shared → Prop} (eB : b = b') (eS : sc = sc') (h : wpAny M (A.deeper (envOf qual sc' L' f cdv)) (execs b' (envOf qual sc' L' f cdv)) P E s) : wpAny M (A.deeper (envOf qual sc L' f cdv)) (execs b (envOf qual sc L' f cdv)) P E s := by
  subst eB eS; exact h
end
end Mine
end
section
open PySem PySem.W PyProof.Rows PySem.Calls PySem.Spec
namespace Mine
section
variable {prog : Program} {w : World} {A : Around} {s : Shared} {K : Frag} {Q : Value → Shared → Prop} {E : Value → Shared → Prop} {name qual : Str} {params : Arguments} {body : List Stmt} {scope : Scope} {dV kV doc pm cdv ct oc : Value} {an od : Option Addr} {osl : Array (Option Value)} {f : Addr} {pos : List Value} {binds : List (Str × Value)}
  {g : Heap} {L Lo : Addr} {oLo : Obj} {m : Str → Option Value} {own ex : List (Addr × Obj)} {p : Program} {loose : List Str} {mg mb : Str → Option Value} {env envo : Env} {X : String}
/-- a call, two frames deep, of a written def that ends in a raise -/
theorem call_raises (F : Fr g L s.heap m) (N : News g L s.heap ((Lo, oLo) :: (ex ++ own))) (hex : ∀ q ∈ ex, q.1 ∉ own.map (·.1) ∧ q.1 ≠ Lo) (hLo : Lo ∉ own.map (·.1)) (hdo : ∃ es ep, oLo.data = .dict es ep) (XK : K.In g) (T : TopRead p loose mg mb g)
    (hA : A.frames = some [env, envo]) (hf : env.frame = some L) (hfo : envo.frame = some Lo) (hke : env.scope.kind ≠ .module) (hko : envo.scope.kind ≠ .module)
    (ho : K.lookup f = some ⟨oc, od, .func (fnOf name qual params body scope dV kV doc pm an cdv ct), osl⟩) (hcd : codeIn K cdv qual = true) (hroom : A.depth < recursionLimit)
    (hbind : BindsTo s (fnOf name qual params body scope dV kV doc pm an cdv ct) ⟨pos, []⟩ binds) (hloc : ∀ y ∈ binds, scope.names.lookup y.1 = some .local) (hcell : ∀ x ∈ scope.names, x.2 ≠ .cell)
    (h : ∀ g₂ L₂ h₁, g.StaysIn g₂ → Fr g₂ L₂ h₁ (fun y => binds.reverse.lookup y) → News g₂ L₂ h₁ own → (∀ q ∈ ex, g₂.get? q.1 = some q.2) → K.In g₂ → TopRead p loose mg mb g₂ →
      ∀ LV : Value → Shared → Prop, PassesOwn (model prog w) (A.deeper (envOf qual scope L₂ f cdv)) (envOf qual scope L₂ f cdv) LV →
      (∀ s' h₂ m₂ own₂ e', own₂.map (·.1) = own.map (·.1) → Fr g₂ L₂ h₂ m₂ → News g₂ L₂ h₂ own₂ → Heap.MadeExcOf h₂ s'.heap e' (.type X) [] →
          (∀ h' sl, Fr g L h' m → News g L h' ((Lo, { oLo with slots := sl }) :: (ex ++ own₂)) → (∃ o, h'.get? e' = some o ∧ o.cls = .type X) → E (.ref e') { s' with heap := h' }) → LV (.ref e') s') →
      wpAny (model prog w) (A.deeper (envOf qual scope L₂ f cdv)) (execs body (envOf qual scope L₂ f cdv)) (fun _ _ => False) LV
        { s with heap := h₁, toks := s.toks + binds.length })
    (hco : scope.isCoroutine = false := by rfl) (hgen : scope.isGenerator = false := by rfl) (hk : scope.kind = .function := by rfl) :
    wpAny (model prog w) A (call (.ref f) pos) Q E s := by
  have No : News g L s.heap own := fun q hq => N q (List.mem_cons_of_mem _ (List.mem_append_right _ hq))
  have nm : ∀ b o, g.get? b = some o → b ∉ own.map (·.1) := fun b o e q => by
    obtain ⟨p, hp, rfl⟩ := List.mem_map.mp q
    rw [(No p hp).2.2] at e; cases e
  have st : g.StaysIn (hideAll s.heap (own.map (·.1))) := fun b o e => hideAll_get _ (F.keep b o e) (nm b o e)
  refine wpAny_call (codeAny_call_def (fd := fnOf name qual params body scope dV kV doc pm an cdv ct) (body := body) (binds := binds) hroom ((XK.keeps F.keep) _ _ ho) rfl (T.nolimit.keeps F.keep) (codeRec_of (XK.keeps F.keep) hcd) rfl hbind hcell hloc (fun h₁ hns hk₁ => ?_) hco hgen hk)
  refine wpAny_mono (h _ s.heap.objs.size h₁ st ⟨hns, fun b o e => hk₁ b o (of_hideAll _ e), Nat.le_of_eq (hideAll_size _ _)⟩
    (fun q hq => ⟨hk₁ _ _ (No q hq).1, Nat.ne_of_lt (Heap.lt_size (No q hq).1), hideAll_none _ (List.mem_map_of_mem hq)⟩) (fun q hq => hideAll_get _ (N q (List.mem_cons_of_mem _ (List.mem_append_left _ hq))).1 (hex q hq).1) (XK.keeps st) (T.keeps st) _ PassesOwn.leaving fun s' h₂ m₂ own₂ e' ha F₂ N₂ hx k => ?_) (fun fl s' hl => hl.elim) fun _ _ x => x
  obtain ⟨oL, es, ep, hL, hLd, hLk, hLf⟩ := F.ns
  obtain ⟨eso, epo, hLod⟩ := hdo
  have nL : L ∉ own.map (·.1) := fun q => by
    obtain ⟨p, hp, e⟩ := List.mem_map.mp q
    exact (No p hp).2.1 e
  have NLo := N _ (List.Mem.head _)
  have gL : g.get? L = none := by
    cases q : g.get? L with
    | none => rfl
    | some o => exact absurd (Nat.lt_of_lt_of_le (Heap.lt_size q) F.above) (Nat.lt_irrefl _)
  have keep2 : ∀ b o, s.heap.get? b = some o → b ∉ own.map (·.1) → h₂.get? b = some o := fun b o e n => F₂.keep _ _ (hideAll_get _ e n)
  have lt2 : ∀ b o, s.heap.get? b = some o → b ≠ s.heap.objs.size := fun b o e => Nat.ne_of_lt (Heap.lt_size e)
  have hL2 := keep2 _ _ hL nL
  have hLo2 := keep2 _ _ NLo.1 hLo
  obtain ⟨o2, es2, ep2, h2, h2d, _⟩ := id F₂.ns
  have hbase : ∀ b o, h₂.get? b = some o → b ≠ s.heap.objs.size → b ≠ L → b ≠ Lo → (hideAll h₂ [s.heap.objs.size, L, Lo]).get? b = some o := fun b o e n1 n2 n3 => hideAll_get _ e (by simp; exact ⟨n1, n2, n3⟩)
  have hfr : (A.deeper (envOf qual scope s.heap.objs.size f cdv)).frames = some [envOf qual scope s.heap.objs.size f cdv, env, envo] := by
    show A.frames.map _ = _
    rw [hA]; rfl
  have nf : ∀ {o : Obj} {a b}, o.data = .dict a b → ∀ vs, o.data ≠ .fields vs := fun e vs q => by rw [e] at q; cases q
  refine wpAny_leaves_madeW (base := hideAll h₂ [s.heap.objs.size, L, Lo]) (L := s.heap.objs.size) hfr rfl (fun b o q => of_hideAll _ q)
    ⟨by show scope.kind ≠ .module; rw [hk]; decide, ⟨_, o2, rfl, hideAll_none _ (by simp), h2, nf h2d⟩, hke, ⟨L, oL, hf, hideAll_none _ (by simp), hL2, nf hLd⟩, hko, ⟨Lo, oLo, hfo, hideAll_none _ (by simp), hLo2, nf hLod⟩, trivial⟩
    hx fun h' t FW tup _ up => ?_
  obtain ⟨sl, hs⟩ := up _ _ (hx.keeps _ _ hLo2) (nf hLod)
  have stay : ∀ b o, h₂.get? b = some o → b ≠ s.heap.objs.size → b ≠ L → b ≠ Lo → h'.get? b = some o := fun b o e n1 n2 n3 => FW.1 b o (hbase b o e n1 n2 n3)
  refine k h' sl ⟨up.ns ⟨oL, es, ep, hx.keeps _ _ hL2, hLd, hLk, hLf⟩, fun b o e => ?_, F.above⟩ (fun q hq => ?_) FW.there
  · have es := F.keep b o e
    exact stay b o (keep2 b o es (nm b o e)) (lt2 b o es) (fun z => by rw [z, gL] at e; cases e) (fun z => by rw [z, NLo.2.2] at e; cases e)
  · rcases List.mem_cons.mp hq with rfl | hq
    · exact ⟨hs, NLo.2⟩
    · rcases List.mem_append.mp hq with hq | hq
      · have Nq := N q (List.mem_cons_of_mem _ (List.mem_append_left _ hq))
        exact ⟨stay _ _ (keep2 _ _ Nq.1 (hex q hq).1) (lt2 _ _ Nq.1) Nq.2.1 (hex q hq).2, Nq.2⟩
      · have Nq := N₂ q hq
        have hm : q.1 ∈ own.map (·.1) := by rw [← ha]; exact List.mem_map_of_mem hq
        obtain ⟨r, hr, er⟩ := List.mem_map.mp hm
        have Nr := No r hr
        rw [er] at Nr
        exact ⟨stay _ _ Nq.1 Nq.2.1 Nr.2.1 (fun z => hLo (z ▸ hm)), Nr.2⟩
end
end Mine
end
section
open PySem PySem.W PyProof.Rows PySem.Calls
namespace Mine
/-- a plain value, its token forgotten -/
inductive AV where
  | none
  | bool (b : Bool)
  | int (i : Int)
  | str (s : Str)
  | ref (a : Addr)
noncomputable def AV.enc : AV → Tok → Value
  | .none, _ => .none
  | .bool b, _ => .bool b
  | .int i, t => .int i t
  | .str s, t => .str s t
  | .ref a, _ => .ref a
abbrev AEnv := List (Str × AV)
structure MS where
  lv : AEnv
  av : AEnv
  inp : List Nat
inductive Fl where
  | next
  | brk
  | cont
  | ret (v : AV)
noncomputable def setL (x : Str) (v : AV) : AEnv → AEnv
  | [] => [(x, v)]
  | p :: r => if x == p.1 then (x, v) :: r else p :: setL x v r
theorem setL_lookup (x : Str) (v : AV) : ∀ (l : AEnv) (y : Str), (setL x v l).lookup y = if y = x then some v else l.lookup y
  | [], y => by
    by_cases h : y = x
    · subst h; simp [setL]
    · simp [setL, h, List.lookup, beq_false_of_ne h]
  | (z, u) :: r, y => by
    have ih := setL_lookup x v r y
    unfold setL
    by_cases hz : x = z
    · subst hz
      simp only [beq_self_eq_true, if_true]
      by_cases h : y = x
      · subst h; simp
      · simp [h, List.lookup, beq_false_of_ne h]
    · rw [if_neg (by simpa using hz)]
      by_cases h : y = z
      · subst h
        simp [List.lookup, Ne.symm hz]
      · simp only [List.lookup, beq_false_of_ne h]
        exact ih

noncomputable def cEval : Const → Option AV
  | .none => some .none
  | .bool b => some (.bool b)
  | .int i => some (.int i)
  | .str s => some (.str s)
  | _ => none
noncomputable def nEval (sc : Scope) (lv : AEnv) (x : Str) : Option AV := if (x == ("__debug__" : Str)) = true then none else if sc.names.lookup x = some .local then lv.lookup x else none
noncomputable def aEval (sc : Scope) (av : AEnv) (x a : Str) : Option AV := if (x == ("self" : Str)) = true then (if sc.names.lookup x = some .local then (if (a == ("punctuation_chars" : Str)) = true then av.lookup (Str.ofString "_punctuation_chars") else av.lookup a) else none) else none
noncomputable def vEval (sc : Scope) (lv av : AEnv) (e : Expr) : Option AV := match e with
  | .Constant c _ _ => cEval c
  | .Name x _ => nEval sc lv x
  | .Attribute o a _ => match o with
    | .Name x _ => aEval sc av x a
    | _ => none
  | _ => none
/-- the stream's next sign -/
noncomputable def headS : List Nat → Str
  | [] => Str.empty
  | c :: _ => ⟨#[c]⟩
/-- self.instream.read(1) -/
noncomputable def isOne (e : Expr) : Bool := match e with
  | .Constant c _ _ => match c with
    | .int i => i == 1
    | _ => false
  | _ => false
noncomputable def oneArgE (l : List Expr) : Bool := match l with
  | [] => false
  | c :: r => isOne c && r.isEmpty
noncomputable def callOf (e : Expr) : Option (Expr × List Expr × List Keyword × Pos) := match e with
  | .Call f args kws p => some (f, args, kws, p)
  | _ => none
noncomputable def attrOf (e : Expr) : Option (Expr × Str × Pos) := match e with
  | .Attribute o a p => some (o, a, p)
  | _ => none
noncomputable def nameOf' (e : Expr) : Option (Str × Pos) := match e with
  | .Name x p => some (x, p)
  | _ => none
noncomputable def readN (sc : Scope) (o : Expr) (a b : Str) (ap : Pos) (args : List Expr) (kws : List Keyword) (p : Pos) : Bool := (nameOf' o).any fun x => oneArgE args && (kws.isEmpty && (x.1 == ("self" : Str) && (a == ("instream" : Str) && (b == ("read" : Str) && (sc.names.lookup x.1 == some .local && ap.endLine == p.line)))))
noncomputable def readA (sc : Scope) (o : Expr) (b : Str) (ap : Pos) (args : List Expr) (kws : List Keyword) (p : Pos) : Bool := (attrOf o).any fun a => readN sc a.1 a.2.1 b ap args kws p
noncomputable def readF (sc : Scope) (f : Expr) (args : List Expr) (kws : List Keyword) (p : Pos) : Bool := (attrOf f).any fun b => readA sc b.1 b.2.1 b.2.2 args kws p
noncomputable def isRead (sc : Scope) (e : Expr) : Bool := (callOf e).any fun c => readF sc c.1 c.2.1 c.2.2.1 c.2.2.2
noncomputable def orcR (sc : Scope) (e : Expr) (σ : MS) : Option (AV × MS) := match isRead sc e with
  | true => some (.str (headS σ.inp), { σ with inp := σ.inp.tail })
  | false => none
/-- truth, and the texts whose length it asks -/
noncomputable def truth (dq : Bool) : AV → Option (Bool × List Str)
  | .none => some (false, [])
  | .bool b => some (b, [])
  | .int i => some (i != 0, [])
  | .str s => some ((s.length : Int) != 0, [s])
  | .ref _ => match dq with
    | true => some (false, [])
    | false => none
noncomputable def isN (a b : AV) : Option Bool := match b with
  | .none => some (match a with
    | .none => true
    | _ => false)
  | _ => none
noncomputable def eqT (a b : AV) : Option Bool := match a with
  | .str x => match b with
    | .str y => some (x.cps.toList == y.cps.toList)
    | .none => some false
    | _ => none
  | .none => match b with
    | .none => some true
    | _ => none
  | _ => none
noncomputable def inT (a b : AV) : Option Bool := match a with
  | .str y => match b with
    | .str x => some (Txt.contains x y)
    | _ => none
  | _ => none
noncomputable def ltT (f : Int → Int → Bool) (a b : AV) : Option Bool := match a with
  | .int i => match b with
    | .int j => some (f i j)
    | _ => none
  | _ => none
noncomputable def cmpT (op : CmpOp) (a b : AV) : Option Bool := match op with
  | .Is => isN a b
  | .IsNot => (isN a b).map fun z => !z
  | .Eq => eqT a b
  | .In => inT a b
  | .NotIn => (inT a b).map fun z => !z
  | .GtE => ltT (fun i j => decide (j ≤ i)) a b
  | .Gt => ltT (fun i j => decide (j < i)) a b
  | _ => none
noncomputable def strC (e : Expr) : Option Str := match e with
  | .Constant c _ _ => match c with
    | .str s => some s
    | _ => none
  | _ => none
noncomputable def strsOf : List Expr → Option (List Str)
  | [] => some []
  | e :: r => (strC e).bind fun s => (strsOf r).map (s :: ·)
noncomputable def isAnd : BoolOp → Bool
  | .And => true
  | .Or => false
noncomputable def strAV (v : AV) : Option Str := match v with
  | .str y => some y
  | _ => none
noncomputable def inTup (op : CmpOp) (v : Option AV) (xs : Option (List Str)) : Option (Bool × List Str) := match op with
  | .In => v.bind fun v => (strAV v).bind fun y => xs.bind fun xs => if xs.length ≤ 100 then some (xs.any (· == y), []) else none
  | _ => none
noncomputable def cmp2 (op : CmpOp) (a b : Option AV) : Option (Bool × List Str) := a.bind fun a => b.bind fun b => (cmpT op a b).map fun r => (r, [])
noncomputable def cmpE (sc : Scope) (lv av : AEnv) (l : Expr) (op : CmpOp) (r : Expr) : Option (Bool × List Str) := match r with
  | .Tuple es _ _ => inTup op (vEval sc lv av l) (strsOf es)
  | .Name x p => cmp2 op (vEval sc lv av l) (vEval sc lv av (.Name x p))
  | .Constant c k p => cmp2 op (vEval sc lv av l) (vEval sc lv av (.Constant c k p))
  | .Attribute o a p => cmp2 op (vEval sc lv av l) (vEval sc lv av (.Attribute o a p))
  | _ => none
noncomputable def cmpL (sc : Scope) (lv av : AEnv) (l : Expr) (ops : List CmpOp) (rs : List Expr) : Option (Bool × List Str) := match ops with
  | [] => none
  | op :: ops' => match ops' with
    | [] => match rs with
      | [] => none
      | r :: rs' => match rs' with
        | [] => cmpE sc lv av l op r
        | _ :: _ => none
    | _ :: _ => none
noncomputable def notT (op : UnaryOp) (r : Option (Bool × List Str)) : Option (Bool × List Str) := match op with
  | .Not => r.map fun r => (!r.1, r.2)
  | _ => none
noncomputable def tst (sc : Scope) (lv av : AEnv) : Nat → Expr → Option (Bool × List Str)
  | 0, _ => none
  | n + 1, e => match e with
    | .UnaryOp op x _ => notT op (tst sc lv av n x)
    | .BoolOp op xs p => match xs with
      | [] => some (isAnd op, [])
      | x :: r => (tst sc lv av n x).bind fun q => if q.1 = isAnd op then (tst sc lv av n (.BoolOp op r p)).map fun z => (z.1, q.2 ++ z.2) else some (q.1, q.2)
    | .Compare l ops rs _ => cmpL sc lv av l ops rs
    | .Name x p => (vEval sc lv av (.Name x p)).bind (truth false)
    | .Constant c k p => (vEval sc lv av (.Constant c k p)).bind (truth false)
    | .Attribute o a p => (vEval sc lv av (.Attribute o a p)).bind (truth true)
    | _ => none
noncomputable def addO {α : Type} (o : List Str) (r : Option (α × List Str)) : Option (α × List Str) := r.map fun q => (q.1, o ++ q.2)
noncomputable def isRef (v : AV) : Bool := match v with
  | .ref _ => true
  | _ => false
noncomputable def asgN (sc : Scope) (orc : Expr → MS → Option (AV × MS)) (σ : MS) (x : Str) (e : Expr) : Option ((Fl × MS) × List Str) :=
  if (x == ("self" : Str)) = true then none else if sc.names.lookup x = some .local then (match orc e σ with
    | some q => some ((.next, { q.2 with lv := setL x q.1 q.2.lv }), [])
    | none => (vEval sc σ.lv σ.av e).map fun v => ((.next, { σ with lv := setL x v σ.lv }), [])) else none
noncomputable def asgA (sc : Scope) (σ : MS) (x a : Str) (e : Expr) : Option ((Fl × MS) × List Str) :=
  if (x == ("self" : Str)) = true then (if sc.names.lookup x = some .local then (σ.av.lookup a).bind fun _ => (vEval sc σ.lv σ.av e).bind fun v => if isRef v = true then none else some ((.next, { σ with av := setL a v σ.av }), []) else none) else none
noncomputable def asg (sc : Scope) (orc : Expr → MS → Option (AV × MS)) (σ : MS) (t e : Expr) : Option ((Fl × MS) × List Str) := match t with
  | .Name x _ => asgN sc orc σ x e
  | .Attribute o a _ => match o with
    | .Name x _ => asgA sc σ x a e
    | _ => none
  | _ => none
noncomputable def asgs (sc : Scope) (orc : Expr → MS → Option (AV × MS)) (σ : MS) (ts : List Expr) (e : Expr) : Option ((Fl × MS) × List Str) := match ts with
  | [] => none
  | t :: ts' => match ts' with
    | [] => asg sc orc σ t e
    | _ :: _ => none
noncomputable def augA (sc : Scope) (σ : MS) (x a : Str) (e : Expr) : Option ((Fl × MS) × List Str) :=
  if (x == ("self" : Str)) = true then (if sc.names.lookup x = some .local then (σ.av.lookup a).bind fun u => (strAV u).bind fun u => (vEval sc σ.lv σ.av e).bind fun v => (strAV v).map fun v => ((.next, { σ with av := setL a (.str (u ++ v)) σ.av }), [u ++ v]) else none) else none
noncomputable def aug (sc : Scope) (σ : MS) (t : Expr) (op : Operator) (e : Expr) : Option ((Fl × MS) × List Str) := match t with
  | .Attribute o a _ => match o with
    | .Name x _ => match op with
      | .Add => augA sc σ x a e
      | _ => none
    | _ => none
  | _ => none
/-- a while's turn that must return -/
noncomputable def retO (o : List Str) (r : Option ((Fl × MS) × List Str)) : Option ((Fl × MS) × List Str) := r.bind fun q => match q.1.1 with
  | .ret v => some ((.ret v, q.1.2), o ++ q.2)
  | _ => none
mutual
noncomputable def stmt (sc : Scope) (orc : Expr → MS → Option (AV × MS)) : Nat → MS → Stmt → Option ((Fl × MS) × List Str)
  | 0, _, _ => none
  | n + 1, σ, st => match st with
    | .If t b e _ => (tst sc σ.lv σ.av 40 t).bind fun q => if q.1 = true then addO q.2 (run sc orc n σ b) else addO q.2 (run sc orc n σ e)
    | .Assign ts e _ => asgs sc orc σ ts e
    | .While t b els _ => match els with
      | [] => (tst sc σ.lv σ.av 40 t).bind fun q => if q.1 = true then retO q.2 (run sc orc n σ b) else some ((.next, σ), q.2)
      | _ :: _ => none
    | .AugAssign t op e _ => aug sc σ t op e
    | .Break _ => some ((.brk, σ), [])
    | .Continue _ => some ((.cont, σ), [])
    | .Return oe _ => match oe with
      | some e => (vEval sc σ.lv σ.av e).map fun v => ((.ret v, σ), [])
      | none => none
    | _ => none
noncomputable def run (sc : Scope) (orc : Expr → MS → Option (AV × MS)) : Nat → MS → List Stmt → Option ((Fl × MS) × List Str)
  | 0, _, _ => none
  | n + 1, σ, b => match b with
    | [] => some ((.next, σ), [])
    | st :: r => (stmt sc orc n σ st).bind fun q => match q.1.1 with
      | .next => addO q.2 (run sc orc n q.1.2 r)
      | f => some ((f, q.1.2), q.2)
end

noncomputable def LocOK (lv : AEnv) (m : Str → Option Value) : Prop := ∀ y v, lv.lookup y = some v → ∃ t, m y = some (v.enc t)
/-- what is known of the object's own dict: the attributes that turn, and those that stay -/
structure AttrOK (names : List Str) (fx : List (Str × Value)) (D : Addr → Prop) (av : AEnv) (es : List DictEntry) : Prop where
  at_ : ∀ a v, av.lookup a = some v → a ∈ names ∧ (∃ t, getL a es = some (some (v.enc t))) ∧ ∀ b, v = .ref b → D b
  stays : ∀ q ∈ fx, av.lookup q.1 = none ∧ q.1 ∈ names ∧ getL q.1 es = some (some q.2)
  keys : ∀ e ∈ es, ∃ a ∈ names, ∃ t, e.key = .str a t
structure Stat (K : Frag) (C : Addr) (names : List Str) : Prop where
  pg : plainGet K C (Str.ofString "") = true
  hd : hasDictIn K C = true
  no : ∀ a ∈ names, findIn K (.ref C) a = some none
  sa : findIn K (.ref C) "__setattr__" = some (some (.builtin "object.__setattr__"))
  po : plainOver K C = true

theorem getL_some {a : Str} {es : List DictEntry} {u : Value} : getL a es = some (some u) ↔ ∃ e, es.find? (·.key.isStr a) = some e ∧ e.val = u := by
  unfold getL
  cases h : es.find? (·.key.isStr a) with
  | some e => simp
  | none =>
    simp only
    split <;> simp
theorem getL_put_self (a : Str) (hs : Int) (t : Tok) (v : Value) : ∀ es : List DictEntry, (∃ u, getL a es = some (some u)) → getL a (putL a hs (.str a t) v es) = some (some v) ∧ (putL a hs (.str a t) v es).length = es.length ∧ ∀ n, putN a es n = n
  | [], h => by
    obtain ⟨u, h⟩ := h
    simp [getL] at h
  | e :: r, h => by
    by_cases he : e.key.isStr a = true
    · refine ⟨?_, ?_, fun n => ?_⟩
      · simp [putL, he, getL]
      · simp [putL, he]
      · simp [putN, he]
    · have he' : e.key.isStr a = false := by simpa using he
      have h' : ∃ u, getL a r = some (some u) := by
        obtain ⟨u, h⟩ := h
        obtain ⟨x, hx, e⟩ := getL_some.mp h
        rw [List.find?_cons, he'] at hx
        exact ⟨u, getL_some.mpr ⟨x, hx, e⟩⟩
      obtain ⟨i1, i2, i3⟩ := getL_put_self a hs t v r h'
      refine ⟨?_, ?_, fun n => ?_⟩
      · obtain ⟨x, hx, ex⟩ := getL_some.mp i1
        refine getL_some.mpr ⟨x, ?_, ex⟩
        unfold putL
        rw [if_neg he, List.find?_cons, he']
        exact hx
      · unfold putL
        rw [if_neg he]
        simp [i2]
      · have := i3 n
        unfold putN at this ⊢
        simp only [List.any_cons, he', Bool.false_or]
        exact this
theorem isStr_ne {v : Value} {a b : Str} (h : v.isStr a = true) (hab : a ≠ b) : v.isStr b = false := by
  cases v <;> simp_all [Value.isStr]
theorem getL_put_other {a b : Str} (hab : b ≠ a) (hs : Int) (t : Tok) (v : Value) : ∀ (es : List DictEntry) (u : Value), getL b es = some (some u) → getL b (putL a hs (.str a t) v es) = some (some u)
  | [], u, h => by simp [getL] at h
  | e :: r, u, h => by
    obtain ⟨y, hy, ey⟩ := getL_some.mp h
    by_cases he : e.key.isStr b = true
    · have ha := isStr_ne he hab
      refine getL_some.mpr ⟨y, ?_, ey⟩
      unfold putL
      rw [if_neg (by rw [ha]; exact Bool.false_ne_true)]
      rw [List.find?_cons, he] at hy ⊢
      exact hy
    · have he' : e.key.isStr b = false := by simpa using he
      rw [List.find?_cons, he'] at hy
      refine getL_some.mpr ?_
      unfold putL
      split
      · refine ⟨y, ?_, ey⟩
        rw [List.find?_cons]
        simp only [he']
        exact hy
      · obtain ⟨z, hz, ez⟩ := getL_some.mp (getL_put_other hab hs t v r u (getL_some.mpr ⟨y, hy, ey⟩))
        refine ⟨z, ?_, ez⟩
        rw [List.find?_cons, he']
        exact hz
theorem putL_keys (a : Str) (hs : Int) (t : Tok) (v : Value) : ∀ es : List DictEntry, (∃ u, getL a es = some (some u)) → ∀ e' ∈ putL a hs (.str a t) v es, ∃ e ∈ es, e'.key = e.key
  | [], h, _, _ => by
    obtain ⟨u, h⟩ := h
    simp [getL] at h
  | e :: r, h, e', he' => by
    unfold putL at he'
    by_cases he : e.key.isStr a = true
    · rw [if_pos he] at he'
      rcases List.mem_cons.mp he' with rfl | hm
      · exact ⟨e, List.mem_cons_self, rfl⟩
      · exact ⟨e', List.mem_cons_of_mem _ hm, rfl⟩
    · rw [if_neg he] at he'
      rcases List.mem_cons.mp he' with rfl | hm
      · exact ⟨_, List.mem_cons_self, rfl⟩
      · have h' : ∃ u, getL a r = some (some u) := by
          obtain ⟨u, h⟩ := h
          obtain ⟨x, hx, ex⟩ := getL_some.mp h
          rw [List.find?_cons, (by simpa using he : e.key.isStr a = false)] at hx
          exact ⟨u, getL_some.mpr ⟨x, hx, ex⟩⟩
        obtain ⟨e2, h2, h3⟩ := putL_keys a hs t v r h' e' hm
        exact ⟨e2, List.mem_cons_of_mem _ h2, h3⟩
theorem getL_none {names : List Str} {es : List DictEntry} (hk : ∀ e ∈ es, ∃ a ∈ names, ∃ t, e.key = .str a t) {f : Str} (hf : f ∉ names) : getL f es = some none := by
  have h1 : es.find? (·.key.isStr f) = none := by
    rw [List.find?_eq_none]
    intro e he hs
    obtain ⟨a, ha, t, e'⟩ := hk e he
    rw [e'] at hs
    exact hf (by rw [← (beq_iff_eq.mp hs : a = f)]; exact ha)
  have h2 : es.any (·.refKey) = false := by
    rw [List.any_eq_false]
    intro e he
    obtain ⟨a, ha, t, e'⟩ := hk e he
    unfold DictEntry.refKey
    rw [e']
    simp
  unfold getL
  rw [h1, h2]
  rfl
theorem LocOK.set {lv : AEnv} {m : Str → Option Value} (h : LocOK lv m) {x : Str} {v : AV} {t : Tok} : LocOK (setL x v lv) (fun y => if y = x then some (v.enc t) else m y) := by
  intro y u hu
  rw [setL_lookup] at hu
  by_cases hy : y = x
  · subst hy
    rw [if_pos rfl] at hu
    cases hu
    exact ⟨t, by simp⟩
  · rw [if_neg hy] at hu
    obtain ⟨t', e⟩ := h y u hu
    exact ⟨t', by simp [hy, e]⟩
theorem AttrOK.set {names : List Str} {fx : List (Str × Value)} {D : Addr → Prop} {av : AEnv} {es : List DictEntry} (h : AttrOK names fx D av es) {a : Str} {v u : AV} {hs : Int} {t t' : Tok} (ha : av.lookup a = some u) (hv : ∀ b, v = .ref b → D b) :
    AttrOK names fx D (setL a v av) (putL a hs (.str a t) (v.enc t') es) := by
  obtain ⟨hm, ⟨t₀, e₀⟩, _⟩ := h.at_ a u ha
  constructor
  · intro b w hw
    rw [setL_lookup] at hw
    by_cases hb : b = a
    · subst hb
      rw [if_pos rfl] at hw
      cases hw
      exact ⟨hm, ⟨t', (getL_put_self _ _ _ _ es ⟨_, e₀⟩).1⟩, hv⟩
    · rw [if_neg hb] at hw
      obtain ⟨hm', ⟨t₁, e₁⟩, hd⟩ := h.at_ b w hw
      exact ⟨hm', ⟨t₁, getL_put_other hb _ _ _ es _ e₁⟩, hd⟩
  · intro q hq
    obtain ⟨h1, h2, h3⟩ := h.stays q hq
    have hne : q.1 ≠ a := fun e => by rw [e, ha] at h1; cases h1
    refine ⟨?_, h2, getL_put_other hne _ _ _ es _ h3⟩
    rw [setL_lookup, if_neg hne]; exact h1
  · intro e' he'
    obtain ⟨e, he, ek⟩ := putL_keys a hs t (v.enc t') es ⟨_, e₀⟩ e' he'
    rw [ek]
    exact h.keys e he
end Mine
end
section
open PySem PySem.W PyProof.Rows PySem.Calls
namespace Mine
theorem slice_one {B : Str} {i : Nat} {j : Int} (hi : i < B.length) (hj : j = (i : Int) + 1) : Txt.slice B (some (i : Int)) (some j) = headS (B.cps.toList.drop i) := by
  have hl : B.cps.toList.length = B.length := by simp [Str.length]
  show StrLaws.sliceText B (some (i : Int)) (some j) = _
  rw [StrLaws.sliceText_plain ⟨by omega, by omega, by rw [hl]; omega⟩]
  have hi' : i < B.cps.toList.length := by rw [hl]; exact hi
  rw [Int.toNat_natCast, show (j - (i : Int)).toNat = 1 by omega, List.drop_eq_getElem_cons hi']
  rfl
theorem head_of {B : Str} {i : Nat} (hi : i < B.length) : ∃ c, headS (B.cps.toList.drop i) = ⟨#[c]⟩ := by
  have hi' : i < B.cps.toList.length := by simpa [Str.length] using hi
  rw [List.drop_eq_getElem_cons hi']
  exact ⟨_, rfl⟩
theorem slice_turn {B : Str} {i : Nat} {j : Int} (hi : i < B.length) (hj : j = (i : Int) + 1) :
    Txt.slice (Txt.slice B (some (i : Int)) (some j) ++ Str.ofString " ") none (some (-1)) = headS (B.cps.toList.drop i) := by
  rw [slice_one hi hj]
  obtain ⟨c, e⟩ := head_of hi
  rw [e, slice_to_neg (by decide)]
  have e2 : (⟨#[c]⟩ : Str) ++ Str.ofString " " = ⟨#[c, 32]⟩ := by
    have : Str.ofString " " = ⟨#[32]⟩ := by decide +kernel
    rw [this]; rfl
  rw [e2]
  show StrLaws.sliceText ⟨#[c, 32]⟩ none (some (max 0 ((2 : Int) + -1))) = _
  rw [StrLaws.sliceText_to ⟨by decide, (show (max 0 ((2 : Int) + -1)) ≤ ((2 : Nat) : Int) from by decide)⟩]
  rfl
theorem head_end {B : Str} {i : Nat} (hi : B.length ≤ i) : headS (B.cps.toList.drop i) = Str.ofString "" := by
  have : B.cps.toList.drop i = [] := List.drop_eq_nil_of_le (by simpa [Str.length] using hi)
  rw [this]
  decide +kernel
end Mine
end
section
open PySem PySem.W PyProof.Rows PySem.Calls
namespace Mine
section
variable {prog : Program} {w : World} {A : Around} {E : Value → Shared → Prop} {K : Frag} {x dx C L : Addr} {h₀ : Heap} {names : List Str} {R : List Nat → List (Addr × Obj) → Prop} {cn : Str} {sc : Scope} {fa : Addr} {cd : Value} {orc : Expr → MS → Option (AV × MS)} {fx : List (Str × Value)} {D : Addr → Prop}

/-- the frame, the ledger with the object itself, and what is known of both -/
structure Ok (h₀ : Heap) (L x dx C : Addr) (names : List Str) (fx : List (Str × Value)) (D : Addr → Prop) (R : List Nat → List (Addr × Obj) → Prop) (σ : MS) (h : Heap) : Prop where
  ex : ∃ m es n rest, Fr h₀ L h m ∧ News h₀ L h ((x, instObj C dx) :: (dx, dictOf es n) :: rest) ∧ R σ.inp rest ∧ LocOK σ.lv m ∧ AttrOK names fx D σ.av es ∧ es.length ≤ 1000 ∧ m "self" = some (.ref x)
/-- what the turn asks of others: the property, the stream -/
structure Asks (prog : Program) (w : World) (A : Around) (h₀ : Heap) (L x dx C : Addr) (names : List Str) (fx : List (Str × Value)) (D : Addr → Prop) (R : List Nat → List (Addr × Obj) → Prop) (env : Env) (orc : Expr → MS → Option (AV × MS)) : Prop where
  prop : ∀ {σ : MS} {s : Shared} {v : AV} {Q : Value → Shared → Prop} {E : Value → Shared → Prop}, Ok h₀ L x dx C names fx D R σ s.heap → σ.av.lookup (Str.ofString "_punctuation_chars") = some v →
    (∀ h' tk t, Ok h₀ L x dx C names fx D R σ h' → Q (v.enc t) { s with heap := h', toks := tk }) → wpAny (model prog w) A (getAttr (.ref x) (Str.ofString "punctuation_chars") true) Q E s
  ask : ∀ {σ σ' : MS} {s : Shared} {e : Expr} {v : AV} {Q : Value → Shared → Prop} {E : Value → Shared → Prop}, orc e σ = some (v, σ') → Ok h₀ L x dx C names fx D R σ s.heap →
    (∀ h' tk t, Ok h₀ L x dx C names fx D R σ' h' → Q (v.enc t) { s with heap := h', toks := tk }) → wpAny (model prog w) A (eval e env) Q E s
  swaps : ∀ {σ : MS} {e : Expr} {r : AV × MS} {t : Option Expr} {l : Nat}, orc e σ = some r → swapsWith e t l env = pure false
  deq : ∀ {σ : MS} {s : Shared} {a : Addr} {Q : Bool → Shared → Prop} {E : Value → Shared → Prop}, D a → Ok h₀ L x dx C names fx D R σ s.heap → (∀ tk, Q false { s with toks := tk }) → wpAny (model prog w) A (truthy (.ref a)) Q E s

theorem Ok.keep {σ : MS} {h h' : Heap} (O : Ok h₀ L x dx C names fx D R σ h) (k : ∀ b o, h.get? b = some o → h'.get? b = some o) : Ok h₀ L x dx C names fx D R σ h' := by
  obtain ⟨m, es, n, rest, F, N, r⟩ := O.ex
  exact ⟨m, es, n, rest, F.keeps k, N.grown k, r⟩

theorem getAttr_ok {σ : MS} {s : Shared} {a : Str} {v : AV} {Q : Value → Shared → Prop} (X : K.In h₀) (S : Stat K C names) (O : Ok h₀ L x dx C names fx D R σ s.heap) (ha : σ.av.lookup a = some v)
    (h : ∀ t, Q (v.enc t) { s with toks := s.toks + 1 }) : wpAny (model prog w) A (getAttr (.ref x) a true) Q E s := by
  obtain ⟨m, es, n, rest, F, N, hR, LO, AO, hl, hs⟩ := O.ex
  obtain ⟨hm, ⟨t, e⟩, _⟩ := AO.at_ a v ha
  have I := InstAt.of_news N (List.Mem.head _) (List.Mem.tail _ (List.Mem.head _))
  refine get_own F X I S.pg S.hd (S.no a hm) (by rfl) e ?_ (h t)
  cases v <;> rfl

theorem absurd_none {α : Type} {r : α} {P : Prop} (h : (none : Option α) = some r) : P := nomatch h
theorem absurd_ff {P : Prop} (h : false = true) : P := nomatch h
theorem nEval_inv {sc : Scope} {lv : AEnv} {x : Str} {v : AV} (h : nEval sc lv x = some v) : (x == ("__debug__" : Str)) = false ∧ sc.names.lookup x = some .local ∧ lv.lookup x = some v := by
  have h : (if (x == ("__debug__" : Str)) = true then none else if sc.names.lookup x = some .local then lv.lookup x else none) = some v := h
  by_cases h1 : (x == ("__debug__" : Str)) = true
  · rw [if_pos h1] at h; cases h
  · rw [if_neg h1] at h
    by_cases h2 : sc.names.lookup x = some .local
    · rw [if_pos h2] at h; exact ⟨by cases hz : (x == ("__debug__" : Str)) with | true => exact absurd hz h1 | false => rfl, h2, h⟩
    · rw [if_neg h2] at h; cases h
theorem self_inv {α : Type} {sc : Scope} {x : Str} {p : Option α} {v : α} (h : (if (x == ("self" : Str)) = true then (if sc.names.lookup x = some .local then p else none) else none) = some v) : x = Str.ofString "self" ∧ sc.names.lookup x = some .local ∧ p = some v := by
  by_cases h1 : (x == ("self" : Str)) = true
  · rw [if_pos h1] at h
    by_cases h2 : sc.names.lookup x = some .local
    · rw [if_pos h2] at h; exact ⟨eq_of_beq h1, h2, h⟩
    · rw [if_neg h2] at h; cases h
  · rw [if_neg h1] at h; cases h
theorem bind_inv {α β : Type} {p : Option α} {f : α → Option β} {v : β} (h : p.bind f = some v) : ∃ a, p = some a ∧ f a = some v := Option.bind_eq_some_iff.mp h
/-- the expressions that vEval serves -/
inductive VE : Expr → Prop
  | con (c : Const) (k : Nat) (p : Pos) : VE (.Constant c k p)
  | name (y : Str) (p : Pos) : VE (.Name y p)
  | attr (y : Str) (q : Pos) (a : Str) (p : Pos) : VE (.Attribute (.Name y q) a p)
theorem vEval_kinds {sc : Scope} {lv av : AEnv} {e : Expr} {v : AV} (h : vEval sc lv av e = some v) : VE e := by
  cases e with
  | Constant c k p => exact .con c k p
  | Name y p => exact .name y p
  | Attribute o a p =>
    cases o with
    | Name y q => exact .attr y q a p
    | _ => exfalso; exact absurd_none h
  | _ => exfalso; exact absurd_none h
theorem strC_inv {e : Expr} {y : Str} (h : strC e = some y) : ∃ k p, e = .Constant (.str y) k p := by
  cases e with
  | Constant c k p =>
    cases c with
    | str z => exact ⟨k, p, by rw [show z = y from Option.some.inj h]⟩
    | _ => exfalso; exact absurd_none h
  | _ => exfalso; exact absurd_none h
/-- the tests that tst serves -/
inductive TK (sc : Scope) (lv av : AEnv) : Expr → Prop
  | not (y : Expr) (p : Pos) : TK sc lv av (.UnaryOp .Not y p)
  | bool (op : BoolOp) (xs : List Expr) (p : Pos) : TK sc lv av (.BoolOp op xs p)
  | tup (l : Expr) (es : List Expr) (k : Nat) (q p : Pos) : TK sc lv av (.Compare l [.In] [.Tuple es k q] p)
  | cmp (l : Expr) (op : CmpOp) (r : Expr) (p : Pos) (h1 : cmpE sc lv av l op r = cmp2 op (vEval sc lv av l) (vEval sc lv av r)) (h2 : behindInMarks op r = false) : TK sc lv av (.Compare l [op] [r] p)
  | val (e : Expr) (d : Bool) (h1 : ∀ n, tst sc lv av (n + 1) e = (vEval sc lv av e).bind (truth d)) (h2 : ∀ env : Env, isTrue e env (eval e env) = (do let v ← eval e env; standAt e.pos; holding [v] (truthy v))) (h3 : d = true → ∃ o a p, e = .Attribute o a p) : TK sc lv av e
theorem cmpL_inv {sc : Scope} {lv av : AEnv} {l : Expr} {ops : List CmpOp} {rs : List Expr} {r : Bool × List Str} (h : cmpL sc lv av l ops rs = some r) : ∃ op e, ops = [op] ∧ rs = [e] ∧ cmpE sc lv av l op e = some r := by
  cases ops with
  | nil => exfalso; exact absurd_none h
  | cons op ops' =>
    cases ops' with
    | cons _ _ => exfalso; exact absurd_none h
    | nil =>
      cases rs with
      | nil => exfalso; exact absurd_none h
      | cons e rs' =>
        cases rs' with
        | cons _ _ => exfalso; exact absurd_none h
        | nil => exact ⟨op, e, rfl, rfl, h⟩
theorem tst_kinds {sc : Scope} {lv av : AEnv} {n : Nat} {e : Expr} {r : Bool × List Str} (h : tst sc lv av (n + 1) e = some r) : TK sc lv av e := by
  cases e with
  | UnaryOp op y p =>
    cases op with
    | Not => exact .not y p
    | _ => exfalso; exact absurd_none h
  | BoolOp op xs p => exact .bool op xs p
  | Compare l ops rs p =>
    obtain ⟨op, e, rfl, rfl, h⟩ := cmpL_inv (show cmpL sc lv av l ops rs = some r from h)
    cases e with
    | Tuple es k q =>
      cases op with
      | In => exact .tup l es k q p
      | _ => exfalso; exact absurd_none h
    | Name _ _ => exact .cmp l op _ p rfl rfl
    | Constant _ _ _ => exact .cmp l op _ p rfl rfl
    | Attribute _ _ _ => exact .cmp l op _ p rfl rfl
    | _ => exfalso; exact absurd_none h
  | Name y p => exact .val _ false (fun _ => rfl) (fun _ => rfl) (fun q => nomatch q)
  | Constant c k p => exact .val _ false (fun _ => rfl) (fun _ => rfl) (fun q => nomatch q)
  | Attribute y a p => exact .val _ true (fun _ => rfl) (fun _ => rfl) (fun _ => ⟨y, a, p, rfl⟩)
  | _ => exfalso; exact absurd_none h
/-- the statements that stmt serves -/
inductive SK : Stmt → Prop
  | if_ (t : Expr) (b e : List Stmt) (p : Pos) : SK (.If t b e p)
  | asgN (y : Str) (q : Pos) (e : Expr) (p : Pos) : SK (.Assign [.Name y q] e p)
  | asgA (y : Str) (q : Pos) (a : Str) (q' : Pos) (e : Expr) (p : Pos) : SK (.Assign [.Attribute (.Name y q) a q'] e p)
  | while_ (t : Expr) (b : List Stmt) (p : Pos) : SK (.While t b [] p)
  | augA (y : Str) (q : Pos) (a : Str) (q' : Pos) (e : Expr) (p : Pos) : SK (.AugAssign (.Attribute (.Name y q) a q') .Add e p)
  | brk (p : Pos) : SK (.Break p)
  | cont (p : Pos) : SK (.Continue p)
  | ret (e : Expr) (p : Pos) : SK (.Return (some e) p)
theorem stmt_kinds {sc : Scope} {orc : Expr → MS → Option (AV × MS)} {n : Nat} {σ : MS} {st : Stmt} {r : (Fl × MS) × List Str} (h : stmt sc orc (n + 1) σ st = some r) : SK st := by
  cases st with
  | If t b e p => exact .if_ t b e p
  | Assign ts e p =>
    cases ts with
    | nil => exfalso; exact absurd_none h
    | cons t ts' =>
      cases ts' with
      | cons _ _ => exfalso; exact absurd_none h
      | nil =>
        cases t with
        | Name y q => exact .asgN y q e p
        | Attribute y a q =>
          cases y with
          | Name y q' => exact .asgA y q' a q e p
          | _ => exfalso; exact absurd_none h
        | _ => exfalso; exact absurd_none h
  | While t b els p =>
    cases els with
    | cons _ _ => exfalso; exact absurd_none h
    | nil => exact .while_ t b p
  | AugAssign t op e p =>
    cases t with
    | Attribute y a q =>
      cases y with
      | Name y q' =>
        cases op with
        | Add => exact .augA y q' a q e p
        | _ => exfalso; exact absurd_none h
      | _ => exfalso; exact absurd_none h
    | _ => exfalso; exact absurd_none h
  | Break p => exact .brk p
  | Continue p => exact .cont p
  | Return oe p =>
    cases oe with
    | none => exfalso; exact absurd_none h
    | some e => exact .ret e p
  | _ => exfalso; exact absurd_none h
theorem vEval_ok {σ : MS} {s : Shared} {e : Expr} {v : AV} {Q : Value → Shared → Prop} (X : K.In h₀) (S : Stat K C names) (hk : sc.kind = .function) (Z : Asks prog w A h₀ L x dx C names fx D R (envOf cn sc L fa cd) orc) (O : Ok h₀ L x dx C names fx D R σ s.heap) (hv : vEval sc σ.lv σ.av e = some v)
    (h : ∀ h' t tk, Ok h₀ L x dx C names fx D R σ h' → Q (v.enc t) { s with heap := h', toks := tk }) : wpAny (model prog w) A (eval e (envOf cn sc L fa cd)) Q E s := by
  obtain ⟨m, es, n, rest, F, N, hR, LO, AO, hl, hs⟩ := id O.ex
  cases vEval_kinds hv with
  | con c k p =>
    cases c with
    | none => cases hv; exact wpAny_pure (h s.heap 0 s.toks O)
    | bool b => cases hv; exact wpAny_pure (h s.heap 0 s.toks O)
    | int i => cases hv; exact wpAny_Constant_int (h s.heap _ _ O)
    | str y => cases hv; exact Constant_str (h s.heap _ _ O)
    | _ => exfalso; exact absurd_none hv
  | name y p =>
    obtain ⟨h1, h2, hv⟩ := nEval_inv hv
    obtain ⟨t, e⟩ := LO y v hv
    exact nameX_L (cl := []) F e (h s.heap t s.toks O) hk h2 h1
  | attr y q a p =>
    obtain ⟨rfl, h2, hv⟩ := self_inv hv
    refine Attribute_name (nameX_L (cl := []) F hs ?_ hk h2 (by decide))
    by_cases ha : (a == ("punctuation_chars" : Str)) = true
    · rw [if_pos ha] at hv
      rw [show a = Str.ofString "punctuation_chars" from eq_of_beq ha]
      exact Z.prop O hv fun h' tk t O' => h h' t tk O'
    · rw [if_neg ha] at hv
      exact getAttr_ok X S O hv fun t => h s.heap t _ O

theorem truth_ok {σ : MS} {env : Env} (Z : Asks prog w A h₀ L x dx C names fx D R env orc) {d : Bool} {v : AV} {t : Tok} {s : Shared} {b : Bool} {o : List Str} {Q : Bool → Shared → Prop} (O : Ok h₀ L x dx C names fx D R σ s.heap) (hv : truth d v = some (b, o)) (hd : d = true → ∀ a, v = .ref a → D a) (ho : ∀ y ∈ o, y.length ≤ sizeLine) (h : ∀ tk, Q b { s with toks := tk }) :
    wpAny (model prog w) A (truthy (v.enc t)) Q E s := by
  cases v with
  | none => cases hv; exact truthy_none (h s.toks)
  | bool c => cases hv; exact wpAny_truthy_bool (h s.toks)
  | int i => cases hv; exact P.truthy_int (h s.toks)
  | str y =>
    cases hv
    have hy := ho y (List.Mem.head _)
    rw [sizeLine_eq] at hy
    exact P.truthy_str (by omega) (h _)
  | ref a =>
    cases d with
    | true => cases hv; exact Z.deq (hd rfl a rfl) O h
    | false => cases hv

theorem cmp_ok {op : CmpOp} {a b : AV} {ta tb : Tok} {s : Shared} {r : Bool} {Q : Value → Shared → Prop} (hr : cmpT op a b = some r) (h : Q (.bool r) s) : wpAny (model prog w) A (compareOp op (a.enc ta) (b.enc tb)) Q E s := by
  cases op with
  | Is =>
    cases b with
    | none =>
      cases a with
      | none => cases hr; exact wpAny_is_self rfl h
      | _ => cases hr; exact wpAny_is_other rfl (by intro e; cases e) h
    | _ => exfalso; exact absurd_none hr
  | IsNot =>
    cases b with
    | none =>
      cases a with
      | none => cases hr; exact wpAny_isNot_self rfl h
      | _ => cases hr; exact wpAny_isNot_other rfl (by intro e; cases e) h
    | _ => exfalso; exact absurd_none hr
  | Eq =>
    cases a with
    | str x =>
      cases b with
      | str y => cases hr; exact P.eq_str h
      | none => cases hr; exact EqNone.eq_str_none h
      | _ => exfalso; exact absurd_none hr
    | none =>
      cases b with
      | none => cases hr; exact EqNone.eq_none_none h
      | _ => exfalso; exact absurd_none hr
    | _ => exfalso; exact absurd_none hr
  | In =>
    cases a with
    | str x =>
      cases b with
      | str y => cases hr; exact SB.contains h
      | _ => exfalso; exact absurd_none hr
    | _ => exfalso; exact absurd_none hr
  | NotIn =>
    cases a with
    | str x =>
      cases b with
      | str y => cases hr; exact SB.notContains h
      | _ => exfalso; exact absurd_none hr
    | _ => exfalso; exact absurd_none hr
  | GtE =>
    cases a with
    | int x =>
      cases b with
      | int y => cases hr; exact P.ge_int h
      | _ => exfalso; exact absurd_none hr
    | _ => exfalso; exact absurd_none hr
  | Gt =>
    cases a with
    | int x =>
      cases b with
      | int y => cases hr; exact P.gt_int h
      | _ => exfalso; exact absurd_none hr
    | _ => exfalso; exact absurd_none hr
  | _ => exfalso; exact absurd_none hr

theorem strsOf_ok {env : Env} {pos : Pos} : ∀ {es : List Expr} {xs : List Str} {s : Shared} {Q : List Value → Shared → Prop}, strsOf es = some xs → (∀ vs tk, StrsAre vs xs → Q vs { s with toks := tk }) →
    wpAny (model prog w) A (spliced (backTo pos (starEach es env))) Q E s
  | [], xs, s, Q, hx, h => by
    cases hx
    exact spliced_none (h [] s.toks .nil)
  | e :: r, xs, s, Q, hx, h => by
    obtain ⟨y, he, hx⟩ := bind_inv hx
    obtain ⟨ys, hy, rfl⟩ := Option.map_eq_some_iff.mp hx
    obtain ⟨k, p, rfl⟩ := strC_inv he
    refine spliced_more (Constant_str ?_)
    exact strsOf_ok (s := { s with toks := s.toks + 1 }) hy fun vs tk hvs => h _ _ (.cons y _ hvs)
theorem StrsAre.length' : ∀ {vs : List Value} {xs : List Str}, StrsAre vs xs → vs.length = xs.length
  | _, _, .nil => rfl
  | _, _, .cons _ _ r => by simp [StrsAre.length' r]

theorem attr_ref {σ : MS} {h : Heap} {v : AV} {a : Addr} {e : Expr} {n : Str} {p : Pos} (O : Ok h₀ L x dx C names fx D R σ h) (hv : vEval sc σ.lv σ.av (.Attribute e n p) = some v) (ea : v = .ref a) : D a := by
  obtain ⟨m, es, n', rest, F, N, hR, LO, AO, hl, hs⟩ := O.ex
  cases vEval_kinds hv with
  | attr y q a' p =>
    obtain ⟨_, _, hv⟩ := self_inv hv
    by_cases ha : (n == ("punctuation_chars" : Str)) = true
    · rw [if_pos ha] at hv; exact (AO.at_ _ _ hv).2.2 a ea
    · rw [if_neg ha] at hv; exact (AO.at_ _ _ hv).2.2 a ea
theorem strAV_inv {v : AV} {y : Str} (h : strAV v = some y) : v = .str y := by
  cases v with
  | str z => rw [show z = y from Option.some.inj h]
  | _ => exfalso; exact absurd_none h
theorem cmp2_ok {σ : MS} {op : CmpOp} {l r : Expr} {pos : Pos} {s : Shared} {b : Bool} {o : List Str} {Q : Bool → Shared → Prop} {wh : Sem Value} (X : K.In h₀) (S : Stat K C names) (hk : sc.kind = .function) (Z : Asks prog w A h₀ L x dx C names fx D R (envOf cn sc L fa cd) orc) (O : Ok h₀ L x dx C names fx D R σ s.heap)
    (ht : cmp2 op (vEval sc σ.lv σ.av l) (vEval sc σ.lv σ.av r) = some (b, o)) (h : ∀ h' tk, Ok h₀ L x dx C names fx D R σ h' → Q b { s with heap := h', toks := tk }) (hm : behindInMarks op r = false) :
    wpAny (model prog w) A (isTrue (.Compare l [op] [r] pos) (envOf cn sc L fa cd) wh) Q E s := by
  obtain ⟨a, h1, ht⟩ := bind_inv ht
  obtain ⟨b', h2, ht⟩ := bind_inv ht
  obtain ⟨r', hr, e⟩ := Option.map_eq_some_iff.mp ht
  cases e
  exact wpAny_isTrue_Compare1 (vEval_ok X S hk Z O h1 fun h' t tk O' => vEval_ok (s := { s with heap := h', toks := tk }) X S hk Z O' h2 fun h'' t' tk' O'' => cmp_ok hr (wpAny_truthy_bool (h h'' tk' O''))) hm
theorem tst_ok {σ : MS} (X : K.In h₀) (S : Stat K C names) (hk : sc.kind = .function) (Z : Asks prog w A h₀ L x dx C names fx D R (envOf cn sc L fa cd) orc) : ∀ (n : Nat) {s : Shared} {e : Expr} {b : Bool} {o : List Str} {Q : Bool → Shared → Prop}, Ok h₀ L x dx C names fx D R σ s.heap →
    tst sc σ.lv σ.av n e = some (b, o) → (∀ y ∈ o, y.length ≤ sizeLine) → (∀ h' tk, Ok h₀ L x dx C names fx D R σ h' → Q b { s with heap := h', toks := tk }) →
    wpAny (model prog w) A (isTrue e (envOf cn sc L fa cd) (eval e (envOf cn sc L fa cd))) Q E s
  | 0, s, e, b, o, Q, O, ht, ho, h => by cases ht
  | n + 1, s, e, b, o, Q, O, ht, ho, h => by
    cases tst_kinds ht with
    | not y p =>
      obtain ⟨r, hr, e⟩ := Option.map_eq_some_iff.mp (show (tst sc σ.lv σ.av n y).map (fun r => (!r.1, r.2)) = some (b, o) from ht)
      cases e
      exact isTrue_not (tst_ok X S hk Z n O (b := r.1) (o := r.2) hr ho fun h' tk O' => h h' tk O')
    | bool op xs p =>
      cases xs with
      | nil =>
        cases op with
        | And => cases ht; exact isTrue_and_nil (h s.heap s.toks O)
        | Or => cases ht; exact isTrue_or_nil (h s.heap s.toks O)
      | cons y r =>
        obtain ⟨q, h1, ht⟩ := bind_inv (show (tst sc σ.lv σ.av n y).bind (fun q => if q.1 = isAnd op then (tst sc σ.lv σ.av n (.BoolOp op r p)).map fun z => (z.1, q.2 ++ z.2) else some (q.1, q.2)) = some (b, o) from ht)
        obtain ⟨c, o1⟩ := q
        by_cases hc : c = isAnd op
        · rw [if_pos hc] at ht
          obtain ⟨z, hz, e⟩ := Option.map_eq_some_iff.mp ht
          cases e
          have go : ∀ {h' : Heap} {tk : Nat}, Ok h₀ L x dx C names fx D R σ h' → wpAny (model prog w) A (isTrue (.BoolOp op r p) (envOf cn sc L fa cd) (eval (.BoolOp op r p) (envOf cn sc L fa cd))) Q E { s with heap := h', toks := tk } := fun {h'} {tk} O' =>
            tst_ok X S hk Z n (s := { s with heap := h', toks := tk }) O' (b := z.1) (o := z.2) hz (fun y hy => ho y (List.mem_append_right _ hy)) fun h'' tk' O'' => h h'' tk' O''
          cases op with
          | And =>
            refine isTrue_and (tst_ok X S hk Z n O h1 (fun y hy => ho y (List.mem_append_left _ hy)) fun h' tk O' => ?_)
            rw [if_pos (show c = true from hc)]; exact go O'
          | Or =>
            refine isTrue_or (tst_ok X S hk Z n O h1 (fun y hy => ho y (List.mem_append_left _ hy)) fun h' tk O' => ?_)
            rw [if_neg (show ¬ (c = true) from by rw [hc]; exact Bool.false_ne_true)]; exact go O'
        · rw [if_neg hc] at ht
          cases ht
          cases op with
          | And =>
            refine isTrue_and (tst_ok X S hk Z n O h1 ho fun h' tk O' => ?_)
            have hcf : c = false := by revert hc; cases c <;> decide
            subst hcf
            exact h h' tk O'
          | Or =>
            refine isTrue_or (tst_ok X S hk Z n O h1 ho fun h' tk O' => ?_)
            have hct : c = true := by revert hc; cases c <;> decide
            subst hct
            exact h h' tk O'
    | tup l es k q p =>
      obtain ⟨v, h1, ht⟩ := bind_inv (show (vEval sc σ.lv σ.av l).bind (fun v => (strAV v).bind fun y => (strsOf es).bind fun xs => if xs.length ≤ 100 then some (xs.any (· == y), []) else none) = some (b, o) from ht)
      obtain ⟨y, hy, ht⟩ := bind_inv ht
      obtain ⟨xs, h2, ht3⟩ := bind_inv ht
      have hv := strAV_inv hy
      subst hv
      by_cases hsz : xs.length ≤ 100
      · rw [if_pos hsz] at ht3
        cases ht3
        refine wpAny_isTrue_Compare1 (vEval_ok X S hk Z O h1 fun h' t tk O' => ?_) rfl
        refine Tuple_ (strsOf_ok h2 fun vs tk' hvs => ?_)
        refine wpAny_newObj_type ?_ (by show vs.toArray.size ≤ sizeLine; rw [List.size_toArray, StrsAre.length' hvs, sizeLine_eq]; omega)
        refine in_tuple_strs ⟨_, Heap.get?_push_size _ rfl, rfl, _, rfl⟩ (by simpa using hvs) (wpAny_truthy_bool ?_)
        exact h _ _ (O'.keep fun b o' e => Heap.get?_push_of_some _ e)
      · rw [if_neg hsz] at ht3; cases ht3
    | cmp l op r p h1 h2 =>
      exact cmp2_ok X S hk Z O (h1.symm.trans (show cmpE sc σ.lv σ.av l op r = some (b, o) from ht)) h h2
    | val _ d h1 h2 h3 =>
      obtain ⟨v, hv, e⟩ := bind_inv ((h1 n).symm.trans ht)
      refine isTrue_plain (vEval_ok X S hk Z O hv fun h' t tk O' => truth_ok (s := { s with heap := h', toks := tk }) Z O' e (fun q a ea => ?_) ho fun tk' => h h' tk' O') (h2 _)
      obtain ⟨y, a', p, rfl⟩ := h3 q
      exact attr_ref O hv ea

theorem setAttr_ok {σ : MS} {s : Shared} {a : Str} {u v : AV} {t : Tok} {Q : Unit → Shared → Prop} (X : K.In h₀) (S : Stat K C names) (hx : x ≠ dx) (hr : ∀ i rest, R i rest → ∀ p ∈ rest, p.1 ≠ dx) (O : Ok h₀ L x dx C names fx D R σ s.heap)
    (ha : σ.av.lookup a = some u) (hv : ∀ b, v = .ref b → D b) (h : ∀ h' tk, Ok h₀ L x dx C names fx D R { σ with av := setL a v σ.av } h' → Q () { s with heap := h', toks := tk }) :
    wpAny (model prog w) A (setAttr (.ref x) a (v.enc t)) Q E s := by
  obtain ⟨m, es, n, rest, F, N, hR, LO, AO, hl, hs⟩ := O.ex
  obtain ⟨hm, ⟨t₀, e₀⟩, _⟩ := AO.at_ a u ha
  obtain ⟨p1, p2, p3⟩ := getL_put_self a (PyData.keyHash w.params a) (s.toks + 1) (v.enc t) es ⟨_, e₀⟩
  have I := InstAt.of_news N (List.Mem.head _) (List.Mem.tail _ (List.Mem.head _))
  refine set_dict F X N I rfl S.sa S.po ?_ S.hd (by rw [e₀]; rfl) rfl (Upd.tail hx (Upd.head (hr _ _ hR))) (by rw [p2]; exact hl) fun h' F' N' => ?_
  · unfold takerIn
    rw [S.no a hm]; rfl
  · rw [p3 n] at N'
    exact h h' _ ⟨m, _, n, rest, F', N', hR, LO, AttrOK.set AO ha hv, by rw [p2]; exact hl, hs⟩

theorem swaps_ok {lv av : AEnv} {e : Expr} {v : AV} {t : Option Expr} {l : Nat} {env : Env} (h : vEval sc lv av e = some v) : swapsWith e t l env = pure false := by
  cases vEval_kinds h <;> rfl
inductive FlR : Fl → Flow → Prop
  | next : FlR .next .next
  | brk : FlR .brk .brk
  | cont : FlR .cont .cont
  | ret (v : AV) (t : Tok) : FlR (.ret v) (.ret (v.enc t))

theorem asgN_ok {σ σ' : MS} {s : Shared} {y : Str} {q p : Pos} {e : Expr} {f : Fl} {o : List Str} {Q : Flow → Shared → Prop} (X : K.In h₀) (S : Stat K C names) (hk : sc.kind = .function) (Z : Asks prog w A h₀ L x dx C names fx D R (envOf cn sc L fa cd) orc) (O : Ok h₀ L x dx C names fx D R σ s.heap)
    (hst : asgN sc orc σ y e = some ((f, σ'), o)) (h : ∀ h' tk fl, Ok h₀ L x dx C names fx D R σ' h' → FlR f fl → Q fl { s with heap := h', toks := tk }) :
    wpAny (model prog w) A (exec (.Assign [.Name y q] e p) (envOf cn sc L fa cd)) Q E s := by
  unfold asgN at hst
  by_cases h1 : (y == ("self" : Str)) = true
  · rw [if_pos h1] at hst; cases hst
  rw [if_neg h1] at hst
  by_cases h2 : sc.names.lookup y = some .local
  case neg => rw [if_neg h2] at hst; cases hst
  rw [if_pos h2] at hst
  have hne : ∀ {u : Value} {m : Str → Option Value}, m "self" = some (.ref x) → (if ("self" : Str) = y then some u else m "self") = some (.ref x) := fun hs => by
    rw [if_neg (fun e => h1 (by rw [← e]; exact beq_self_eq_true _))]
    exact hs
  cases h3 : orc e σ with
  | some r =>
    rw [h3] at hst
    cases hst
    refine wpAny_Assign_Name (Z.ask (v := r.1) (σ' := r.2) h3 O fun h' tk t O' => ?_) (Z.swaps h3)
    obtain ⟨m, es, n', rest, F, N, hR, LO, AO, hl, hs⟩ := O'.ex
    exact storeX_L (cl := []) F N (fun h' F' N' => h h' _ .next ⟨_, es, n', rest, F', N', hR, LO.set, AO, hl, hne hs⟩ .next) hk h2
  | none =>
    rw [h3] at hst
    obtain ⟨v, h4, e⟩ := Option.map_eq_some_iff.mp hst
    cases e
    refine wpAny_Assign_Name (vEval_ok X S hk Z O h4 fun h' t tk O' => ?_) (swaps_ok h4)
    obtain ⟨m, es, n', rest, F, N, hR, LO, AO, hl, hs⟩ := O'.ex
    exact storeX_L (cl := []) F N (fun h' F' N' => h h' _ .next ⟨_, es, n', rest, F', N', hR, LO.set, AO, hl, hne hs⟩ .next) hk h2
theorem asgA_ok {σ σ' : MS} {s : Shared} {y a : Str} {q q' p : Pos} {e : Expr} {f : Fl} {o : List Str} {Q : Flow → Shared → Prop} (X : K.In h₀) (S : Stat K C names) (hk : sc.kind = .function) (Z : Asks prog w A h₀ L x dx C names fx D R (envOf cn sc L fa cd) orc) (hx : x ≠ dx) (hr : ∀ i rest, R i rest → ∀ p ∈ rest, p.1 ≠ dx) (O : Ok h₀ L x dx C names fx D R σ s.heap)
    (hst : asgA sc σ y a e = some ((f, σ'), o)) (h : ∀ h' tk fl, Ok h₀ L x dx C names fx D R σ' h' → FlR f fl → Q fl { s with heap := h', toks := tk }) :
    wpAny (model prog w) A (exec (.Assign [.Attribute (.Name y q) a q'] e p) (envOf cn sc L fa cd)) Q E s := by
  obtain ⟨rfl, h2, hst⟩ := self_inv hst
  obtain ⟨u, h3, hst⟩ := bind_inv hst
  obtain ⟨v, h4, hst⟩ := bind_inv hst
  by_cases hnr : isRef v = true
  · rw [if_pos hnr] at hst; cases hst
  rw [if_neg hnr] at hst
  cases hst
  refine plainObj_wpAny_Assign_Attribute (vEval_ok X S hk Z O h4 fun h' t tk O' => ?_) (swaps_ok h4)
  obtain ⟨m, es, n', rest, F, N, hR, LO, AO, hl, hs⟩ := id O'.ex
  refine nameX_L (cl := []) F hs ?_ hk h2 (by decide)
  exact setAttr_ok (s := { s with heap := h', toks := tk }) X S hx hr O' h3 (fun b e => absurd (by rw [e]; rfl) hnr) fun h'' tk' O'' => h h'' tk' .next O'' .next
theorem augA_ok {σ σ' : MS} {s : Shared} {y a : Str} {q q' p : Pos} {e : Expr} {f : Fl} {o : List Str} {Q : Flow → Shared → Prop} (X : K.In h₀) (S : Stat K C names) (hk : sc.kind = .function) (Z : Asks prog w A h₀ L x dx C names fx D R (envOf cn sc L fa cd) orc) (hx : x ≠ dx) (hr : ∀ i rest, R i rest → ∀ p ∈ rest, p.1 ≠ dx) (O : Ok h₀ L x dx C names fx D R σ s.heap)
    (hst : augA sc σ y a e = some ((f, σ'), o)) (ho : ∀ y ∈ o, y.length ≤ sizeLine) (h : ∀ h' tk fl, Ok h₀ L x dx C names fx D R σ' h' → FlR f fl → Q fl { s with heap := h', toks := tk }) :
    wpAny (model prog w) A (exec (.AugAssign (.Attribute (.Name y q) a q') .Add e p) (envOf cn sc L fa cd)) Q E s := by
  obtain ⟨rfl, h2, hst⟩ := self_inv hst
  obtain ⟨u', h3, hst⟩ := bind_inv hst
  obtain ⟨u, hu, hst⟩ := bind_inv hst
  obtain ⟨v', h4, hst⟩ := bind_inv hst
  obtain ⟨v, hv, e⟩ := Option.map_eq_some_iff.mp hst
  cases e
  have e1 := strAV_inv hu
  have e2 := strAV_inv hv
  subst e1 e2
  obtain ⟨m, es, n, rest, F, N, hR, LO, AO, hl, hs⟩ := id O.ex
  refine wpAny_AugAssign_AttributeAny (nameX_L (cl := []) F hs ?_ hk h2 (by decide))
  refine getAttr_ok X S O h3 fun t => ?_
  refine vEval_ok (s := { s with toks := s.toks + 1 }) X S hk Z O h4 fun h' t' tk' O' => ?_
  have hsz := ho _ (List.Mem.head _)
  rw [Str.length_append] at hsz
  refine SB.iadd (fun t'' k => ?_) hsz
  exact setAttr_ok (v := .str (u ++ v)) (s := { s with heap := h', toks := k }) X S hx hr O' h3 (fun b e => nomatch e) fun h'' tk' O'' => h h'' tk' .next O'' .next

theorem run_ok (X : K.In h₀) (S : Stat K C names) (hk : sc.kind = .function) (Z : Asks prog w A h₀ L x dx C names fx D R (envOf cn sc L fa cd) orc) (hx : x ≠ dx) (hr : ∀ i rest, R i rest → ∀ p ∈ rest, p.1 ≠ dx) : ∀ (n : Nat),
    (∀ {E : Value → Shared → Prop} {s : Shared} {σ σ' : MS} {st : Stmt} {f : Fl} {o : List Str} {Q : Flow → Shared → Prop}, Ok h₀ L x dx C names fx D R σ s.heap → stmt sc orc n σ st = some ((f, σ'), o) → (∀ y ∈ o, y.length ≤ sizeLine) →
      (∀ h' tk fl, Ok h₀ L x dx C names fx D R σ' h' → FlR f fl → Q fl { s with heap := h', toks := tk }) → wpAny (model prog w) A (exec st (envOf cn sc L fa cd)) Q E s) ∧
    (∀ {E : Value → Shared → Prop} {s : Shared} {σ σ' : MS} {body : List Stmt} {f : Fl} {o : List Str} {Q : Flow → Shared → Prop}, Ok h₀ L x dx C names fx D R σ s.heap → run sc orc n σ body = some ((f, σ'), o) → (∀ y ∈ o, y.length ≤ sizeLine) →
      (∀ h' tk fl, Ok h₀ L x dx C names fx D R σ' h' → FlR f fl → Q fl { s with heap := h', toks := tk }) → wpAny (model prog w) A (execs body (envOf cn sc L fa cd)) Q E s) := by
  intro n
  induction n with
  | zero => exact ⟨fun _ h => absurd_none h, fun _ h => absurd_none h⟩
  | succ n ih =>
    obtain ⟨ihS, ihR⟩ := ih
    constructor
    · intro E s σ σ' st f o Q O hst ho h
      cases stmt_kinds hst with
      | if_ tt b e p =>
        obtain ⟨q, h1, hst⟩ := bind_inv (show (tst sc σ.lv σ.av 40 tt).bind (fun q => if q.1 = true then addO q.2 (run sc orc n σ b) else addO q.2 (run sc orc n σ e)) = some ((f, σ'), o) from hst)
        obtain ⟨c, o1⟩ := q
        cases c with
        | true =>
          rw [if_pos rfl] at hst
          obtain ⟨⟨⟨f1, σ1⟩, o2⟩, hr', e⟩ := Option.map_eq_some_iff.mp hst
          cases e
          refine wpAny_If (tst_ok X S hk Z _ O h1 (fun y hy => ho y (List.mem_append_left _ hy)) fun h' tk O' => ?_)
          rw [if_pos rfl]
          exact ihR (s := { s with heap := h', toks := tk }) O' hr' (fun y hy => ho y (List.mem_append_right _ hy)) fun h'' tk' fl O'' hf => h h'' tk' fl O'' hf
        | false =>
          rw [if_neg Bool.false_ne_true] at hst
          obtain ⟨⟨⟨f1, σ1⟩, o2⟩, hr', e⟩ := Option.map_eq_some_iff.mp hst
          cases e
          refine wpAny_If (tst_ok X S hk Z _ O h1 (fun y hy => ho y (List.mem_append_left _ hy)) fun h' tk O' => ?_)
          rw [if_neg Bool.false_ne_true]
          exact ihR (s := { s with heap := h', toks := tk }) O' hr' (fun y hy => ho y (List.mem_append_right _ hy)) fun h'' tk' fl O'' hf => h h'' tk' fl O'' hf
      | asgN y q e p => exact asgN_ok X S hk Z O hst h
      | asgA y q a q' e p => exact asgA_ok X S hk Z hx hr O hst h
      | while_ tt b p =>
        obtain ⟨q, h1, hst⟩ := bind_inv (show (tst sc σ.lv σ.av 40 tt).bind (fun q => if q.1 = true then retO q.2 (run sc orc n σ b) else some ((.next, σ), q.2)) = some ((f, σ'), o) from hst)
        obtain ⟨c, o1⟩ := q
        cases c with
        | false =>
          rw [if_neg Bool.false_ne_true] at hst
          cases hst
          refine wpAny_While (codeAny_whileLoop (R := fun r s' => match r with | .ok f => Q f s' | .error e => cameBackBy (model prog w) A (envOf cn sc L fa cd) E e s') (fun _ s' => ∃ h' tk, s' = { s with heap := h', toks := tk } ∧ Ok h₀ L x dx C names fx D R σ h') ?_ 0 ⟨s.heap, s.toks, rfl, O⟩)
          rintro _ s' ⟨h', tk, rfl, O'⟩
          refine tst_ok (s := { s with heap := h', toks := tk }) X S hk Z _ O' h1 ho fun h'' tk' O'' => ?_
          rw [if_neg Bool.false_ne_true]
          exact wpAny_execs_nil (h h'' tk' .next O'' .next)
        | true =>
          rw [if_pos rfl] at hst
          obtain ⟨⟨⟨f2, σ2⟩, o2⟩, h2, hst⟩ := bind_inv hst
          cases f2 with
          | ret v =>
            cases hst
            refine wpAny_While (codeAny_whileLoop (R := fun r s' => match r with | .ok f => Q f s' | .error e => cameBackBy (model prog w) A (envOf cn sc L fa cd) E e s') (fun _ s' => ∃ h' tk, s' = { s with heap := h', toks := tk } ∧ Ok h₀ L x dx C names fx D R σ h') ?_ 0 ⟨s.heap, s.toks, rfl, O⟩)
            rintro _ s' ⟨h', tk, rfl, O'⟩
            refine tst_ok (s := { s with heap := h', toks := tk }) X S hk Z _ O' h1 (fun y hy => ho y (List.mem_append_left _ hy)) fun h'' tk' O'' => ?_
            rw [if_pos rfl]
            refine ihR (s := { s with heap := h'', toks := tk' }) O'' h2 (fun y hy => ho y (List.mem_append_right _ hy)) fun h3 tk3 fl O3 hf => ?_
            cases hf with
            | ret _ t => exact h h3 tk3 _ O3 (.ret v t)
          | _ => exfalso; exact absurd_none hst
      | augA y q a q' e p => exact augA_ok X S hk Z hx hr O hst ho h
      | brk p => cases hst; exact wpAny_Break (h s.heap s.toks .brk O .brk)
      | cont p => cases hst; exact wpAny_Continue (h s.heap s.toks .cont O .cont)
      | ret e p =>
        obtain ⟨v, hv, e⟩ := Option.map_eq_some_iff.mp (show (vEval sc σ.lv σ.av e).map (fun v => ((Fl.ret v, σ), ([] : List Str))) = some ((f, σ'), o) from hst)
        cases e
        exact wpAny_Return_some (vEval_ok X S hk Z O hv fun h' t tk O' => h h' tk _ O' (.ret v t))
    · intro E s σ σ' body f o Q O hb ho h
      cases body with
      | nil =>
        cases hb
        exact wpAny_execs_nil (h s.heap s.toks .next O .next)
      | cons st r =>
        obtain ⟨⟨⟨f1, σ1⟩, o1⟩, h1, hb⟩ := bind_inv (show (stmt sc orc n σ st).bind (fun q => match q.1.1 with
          | .next => addO q.2 (run sc orc n q.1.2 r)
          | f => some ((f, q.1.2), q.2)) = some ((f, σ'), o) from hb)
        cases f1 with
        | next =>
          obtain ⟨⟨⟨f1, σ1'⟩, o2⟩, hq, e⟩ := Option.map_eq_some_iff.mp hb
          cases e
          refine wpAny_execs_cons (ihS O h1 (fun y hy => ho y (List.mem_append_left _ hy)) fun h' tk fl O' hf => ?_)
          cases hf
          exact ihR (s := { s with heap := h', toks := tk }) O' hq (fun y hy => ho y (List.mem_append_right _ hy)) fun h'' tk' fl O'' hf => h h'' tk' fl O'' hf
        | brk =>
          cases hb
          refine wpAny_execs_cons (ihS O h1 ho fun h' tk fl O' hf => ?_)
          cases hf
          exact h h' tk _ O' .brk
        | cont =>
          cases hb
          refine wpAny_execs_cons (ihS O h1 ho fun h' tk fl O' hf => ?_)
          cases hf
          exact h h' tk _ O' .cont
        | ret v =>
          cases hb
          refine wpAny_execs_cons (ihS O h1 ho fun h' tk fl O' hf => ?_)
          cases hf with
          | ret _ t => exact h h' tk _ O' (.ret v t)
end
end Mine
end
section
open PySem PySem.W PyProof.Rows PySem.Calls
set_option maxRecDepth 100000
namespace Mine
noncomputable def clsBody (c : Str) : List Stmt := match PySem.Challenge.pw_ij0130_01.main.body.find? (fun st => match st with | .ClassDef n _ _ _ _ _ _ _ _ _ _ => n == c | _ => false) with
  | some (.ClassDef _ _ _ b _ _ _ _ _ _ _) => b
  | _ => []
noncomputable def defIn (b : List Stmt) (f : Str) : List Stmt × Scope := match b.find? (fun st => match st with | .FunctionDef n _ _ _ _ _ _ _ _ _ => n == f | _ => false) with
  | some (.FunctionDef _ _ b _ _ _ sc _ _ _) => (b, sc)
  | _ => ([], default)
noncomputable def rtFn : List Stmt × Scope := defIn (clsBody "shlex") "read_token"
noncomputable def whileOf : List Stmt → List Stmt
  | .While _ b _ _ :: _ => b
  | _ :: r => whileOf r
  | [] => []
noncomputable def rtTurn : List Stmt := whileOf rtFn.1
noncomputable def WC : Str := Str.ofString "abcdfeghijklmnopqrstuvwxyzABCDEFGHIJKLMNOPQRSTUVWXYZ0123456789_ßàáâãäåæçèéêëìíîïðñòóôõöøùúûüýþÿÀÁÂÃÄÅÆÇÈÉÊËÌÍÎÏÐÑÒÓÔÕÖØÙÚÛÜÝÞ"
noncomputable def av0 (st pb fs : Addr) (state : AV) (tok : Str) : AEnv :=
  [(Str.ofString "infile", .none), (Str.ofString "posix", .bool true), (Str.ofString "eof", .none), (Str.ofString "commenters", .str (Str.ofString "")), (Str.ofString "wordchars", .str WC), (Str.ofString "whitespace", .str (Str.ofString " \t\r\n")), (Str.ofString "whitespace_split", .bool true),
   (Str.ofString "quotes", .str (Str.ofString "'\"")), (Str.ofString "escape", .str (Str.ofString "\\")), (Str.ofString "escapedquotes", .str (Str.ofString "\"")), (Str.ofString "state", state), (Str.ofString "pushback", .ref pb), (Str.ofString "lineno", .int 1), (Str.ofString "debug", .int 0), (Str.ofString "token", .str tok), (Str.ofString "filestack", .ref fs), (Str.ofString "source", .none), (Str.ofString "_punctuation_chars", .str (Str.ofString ""))]
noncomputable def lv0 (x : Addr) (q : Bool) (nc : AEnv) : AEnv := [(Str.ofString "self", .ref x), (Str.ofString "quoted", .bool q), (Str.ofString "escapedstate", .str (Str.ofString " "))] ++ nc

noncomputable def avS (st pb fs : Addr) (state : String) (tok : Str) : AEnv := av0 st pb fs (.str (Str.ofString state)) tok
noncomputable def e0 : Str := Str.ofString ""
noncomputable def nc (y : Str) : AEnv := [(Str.ofString "nextchar", .str y)]
section
variable (x st pb fs : Addr) (r : List Nat) (t : Str) (q : Bool) (c : Nat) (cs : List Nat)
theorem sp_nil : run rtFn.2 (orcR rtFn.2) 60 ⟨lv0 x false [], (avS st pb fs " " e0), []⟩ rtTurn = some ((.brk, ⟨lv0 x false (nc e0), (av0 st pb fs .none e0), []⟩), [e0, e0]) := by kernel_rfl
theorem sp_32 : run rtFn.2 (orcR rtFn.2) 60 ⟨lv0 x false [], (avS st pb fs " " e0), 32 :: r⟩ rtTurn = some ((.cont, ⟨lv0 x false (nc ⟨#[32]⟩), (avS st pb fs " " e0), r⟩), [e0, ⟨#[32]⟩, e0]) := by kernel_rfl
theorem sp_97 : run rtFn.2 (orcR rtFn.2) 60 ⟨lv0 x false [], (avS st pb fs " " e0), 97 :: r⟩ rtTurn = some ((.next, ⟨lv0 x false (nc ⟨#[97]⟩), (avS st pb fs "a" ⟨#[97]⟩), r⟩), [e0, ⟨#[97]⟩]) := by kernel_rfl
theorem sp_39 : run rtFn.2 (orcR rtFn.2) 60 ⟨lv0 x false [], (avS st pb fs " " e0), 39 :: r⟩ rtTurn = some ((.next, ⟨lv0 x false (nc ⟨#[39]⟩), (avS st pb fs "'" e0), r⟩), [e0, ⟨#[39]⟩]) := by kernel_rfl
theorem sp_34 : run rtFn.2 (orcR rtFn.2) 60 ⟨lv0 x false [], (avS st pb fs " " e0), 34 :: r⟩ rtTurn = some ((.next, ⟨lv0 x false (nc ⟨#[34]⟩), (avS st pb fs "\"" e0), r⟩), [e0, ⟨#[34]⟩]) := by kernel_rfl
theorem q39_32 : run rtFn.2 (orcR rtFn.2) 60 ⟨lv0 x q [], (avS st pb fs "'" t), 32 :: r⟩ rtTurn = some ((.next, ⟨lv0 x true (nc ⟨#[32]⟩), (avS st pb fs "'" (t ++ ⟨#[32]⟩)), r⟩), [e0, ⟨#[32]⟩, t ++ ⟨#[32]⟩]) := by kernel_rfl
theorem q39_97 : run rtFn.2 (orcR rtFn.2) 60 ⟨lv0 x q [], (avS st pb fs "'" t), 97 :: r⟩ rtTurn = some ((.next, ⟨lv0 x true (nc ⟨#[97]⟩), (avS st pb fs "'" (t ++ ⟨#[97]⟩)), r⟩), [e0, ⟨#[97]⟩, t ++ ⟨#[97]⟩]) := by kernel_rfl
theorem q39_39 : run rtFn.2 (orcR rtFn.2) 60 ⟨lv0 x q [], (avS st pb fs "'" t), 39 :: r⟩ rtTurn = some ((.next, ⟨lv0 x true (nc ⟨#[39]⟩), (avS st pb fs "a" t), r⟩), [e0, ⟨#[39]⟩]) := by kernel_rfl
theorem q39_34 : run rtFn.2 (orcR rtFn.2) 60 ⟨lv0 x q [], (avS st pb fs "'" t), 34 :: r⟩ rtTurn = some ((.next, ⟨lv0 x true (nc ⟨#[34]⟩), (avS st pb fs "'" (t ++ ⟨#[34]⟩)), r⟩), [e0, ⟨#[34]⟩, t ++ ⟨#[34]⟩]) := by kernel_rfl
theorem q34_32 : run rtFn.2 (orcR rtFn.2) 60 ⟨lv0 x q [], (avS st pb fs "\"" t), 32 :: r⟩ rtTurn = some ((.next, ⟨lv0 x true (nc ⟨#[32]⟩), (avS st pb fs "\"" (t ++ ⟨#[32]⟩)), r⟩), [e0, ⟨#[32]⟩, t ++ ⟨#[32]⟩]) := by kernel_rfl
theorem q34_97 : run rtFn.2 (orcR rtFn.2) 60 ⟨lv0 x q [], (avS st pb fs "\"" t), 97 :: r⟩ rtTurn = some ((.next, ⟨lv0 x true (nc ⟨#[97]⟩), (avS st pb fs "\"" (t ++ ⟨#[97]⟩)), r⟩), [e0, ⟨#[97]⟩, t ++ ⟨#[97]⟩]) := by kernel_rfl
theorem q34_39 : run rtFn.2 (orcR rtFn.2) 60 ⟨lv0 x q [], (avS st pb fs "\"" t), 39 :: r⟩ rtTurn = some ((.next, ⟨lv0 x true (nc ⟨#[39]⟩), (avS st pb fs "\"" (t ++ ⟨#[39]⟩)), r⟩), [e0, ⟨#[39]⟩, t ++ ⟨#[39]⟩]) := by kernel_rfl
theorem q34_34 : run rtFn.2 (orcR rtFn.2) 60 ⟨lv0 x q [], (avS st pb fs "\"" t), 34 :: r⟩ rtTurn = some ((.next, ⟨lv0 x true (nc ⟨#[34]⟩), (avS st pb fs "a" t), r⟩), [e0, ⟨#[34]⟩]) := by kernel_rfl
theorem a_nil : run rtFn.2 (orcR rtFn.2) 60 ⟨lv0 x q [], (avS st pb fs "a" t), []⟩ rtTurn = some ((.brk, ⟨lv0 x q (nc e0), (av0 st pb fs .none t), []⟩), [e0, e0]) := by kernel_rfl
theorem a_32q : run rtFn.2 (orcR rtFn.2) 60 ⟨lv0 x true [], (avS st pb fs "a" ⟨#[]⟩), 32 :: r⟩ rtTurn = some ((.brk, ⟨lv0 x true (nc ⟨#[32]⟩), (avS st pb fs " " ⟨#[]⟩), r⟩), [e0, ⟨#[32]⟩, ⟨#[]⟩]) := by kernel_rfl
theorem a_32t : run rtFn.2 (orcR rtFn.2) 60 ⟨lv0 x q [], (avS st pb fs "a" ⟨⟨c :: cs⟩⟩), 32 :: r⟩ rtTurn = some ((.brk, ⟨lv0 x q (nc ⟨#[32]⟩), (avS st pb fs " " ⟨⟨c :: cs⟩⟩), r⟩), [e0, ⟨#[32]⟩, ⟨⟨c :: cs⟩⟩]) := by kernel_rfl
theorem a_97 : run rtFn.2 (orcR rtFn.2) 60 ⟨lv0 x q [], (avS st pb fs "a" t), 97 :: r⟩ rtTurn = some ((.next, ⟨lv0 x q (nc ⟨#[97]⟩), (avS st pb fs "a" (t ++ ⟨#[97]⟩)), r⟩), [e0, ⟨#[97]⟩, t ++ ⟨#[97]⟩]) := by kernel_rfl
theorem a_39 : run rtFn.2 (orcR rtFn.2) 60 ⟨lv0 x q [], (avS st pb fs "a" t), 39 :: r⟩ rtTurn = some ((.next, ⟨lv0 x q (nc ⟨#[39]⟩), (avS st pb fs "'" t), r⟩), [e0, ⟨#[39]⟩]) := by kernel_rfl
theorem a_34 : run rtFn.2 (orcR rtFn.2) 60 ⟨lv0 x q [], (avS st pb fs "a" t), 34 :: r⟩ rtTurn = some ((.next, ⟨lv0 x q (nc ⟨#[34]⟩), (avS st pb fs "\"" t), r⟩), [e0, ⟨#[34]⟩]) := by kernel_rfl
theorem n_nil : run rtFn.2 (orcR rtFn.2) 60 ⟨lv0 x false [], (av0 st pb fs .none e0), []⟩ rtTurn = some ((.brk, ⟨lv0 x false (nc e0), (av0 st pb fs .none e0), []⟩), [e0]) := by kernel_rfl
end
end Mine
end
section
open PySem PySem.W PyProof.Rows PySem.Calls
set_option maxRecDepth 100000
namespace Mine
/-- where the reader stands -/
inductive Mo where
  | sp
  | a (t : Str) (q : Bool)
  | q (d : Nat) (t : Str) (q : Bool)
/-- the text read so far, whether it was quoted, whether the stream has ended, what is left -/
structure Rd where
  t : Str
  q : Bool
  done : Bool
  rest : List Nat
noncomputable def one (c : Nat) : Str := ⟨#[c]⟩
noncomputable def isSign (c : Nat) : Bool := c == 32 || c == 97 || c == 39 || c == 34
noncomputable def scan : Mo → List Nat → Option Rd
  | .sp, [] => some ⟨e0, false, true, []⟩
  | .sp, c :: r => if c = 32 then scan .sp r else if c = 97 then scan (.a (one 97) false) r else if c = 39 then scan (.q 39 e0 false) r else if c = 34 then scan (.q 34 e0 false) r else none
  | .a t q, [] => some ⟨t, q, true, []⟩
  | .a t q, c :: r => if c = 32 then (match t, q with
      | ⟨⟨[]⟩⟩, false => none
      | t, q => some ⟨t, q, false, r⟩)
    else if c = 97 then scan (.a (t ++ one 97) q) r else if c = 39 then scan (.q 39 t q) r else if c = 34 then scan (.q 34 t q) r else none
  | .q _ _ _, [] => none
  | .q d t q, c :: r => if d = 39 ∨ d = 34 then (if c = d then scan (.a t true) r else if isSign c then scan (.q d (t ++ one c) true) r else none) else none
noncomputable def moLen : Mo → Nat
  | .sp => 0
  | .a t _ => t.length
  | .q _ t _ => t.length
noncomputable def moQ : Mo → Bool
  | .sp => false
  | .a _ q => q
  | .q _ _ q => q
noncomputable def moT : Mo → Str
  | .sp => e0
  | .a t _ => t
  | .q _ t _ => t
noncomputable def moS : Mo → String
  | .sp => " "
  | .a _ _ => "a"
  | .q d _ _ => if d = 39 then "'" else "\""
noncomputable def moσ (x st pb fs : Addr) (mo : Mo) (inp : List Nat) : MS := ⟨lv0 x (moQ mo) [], avS st pb fs (moS mo) (moT mo), inp⟩
noncomputable def rdσ (x st pb fs : Addr) (r : Rd) : MS := ⟨lv0 x r.q [], av0 st pb fs (if r.done then .none else .str (Str.ofString " ")) r.t, r.rest⟩
/-- one turn: it stops with what scan gives, or goes on to where scan gives the same -/
noncomputable def TurnOf (x st pb fs : Addr) (mo : Mo) (inp : List Nat) (r : Rd) : Prop :=
  ∃ f σ' o y, run rtFn.2 (orcR rtFn.2) 60 (moσ x st pb fs mo inp) rtTurn = some ((f, σ'), o) ∧ (∀ z ∈ o, z.length ≤ moLen mo + 1) ∧ σ'.lv = lv0 x (match (f : Fl) with | .brk => r.q | _ => moQ y) (nc (headS inp)) ∧
    ((f = .brk ∧ σ'.av = (rdσ x st pb fs r).av ∧ σ'.inp = r.rest) ∨
     ((f = .next ∨ f = .cont) ∧ ∃ c, inp = c :: σ'.inp ∧ σ'.av = (moσ x st pb fs y σ'.inp).av ∧ scan y σ'.inp = some r ∧ moLen y ≤ moLen mo + 1))
theorem len_one (c : Nat) : (one c).length = 1 := rfl
theorem len_e0 : e0.length = 0 := by decide +kernel
theorem all_nil {P : Str → Prop} : ∀ z ∈ ([] : List Str), P z := fun _ h => nomatch h
theorem all_cons {P : Str → Prop} {a : Str} {l : List Str} (h : P a) (k : ∀ z ∈ l, P z) : ∀ z ∈ a :: l, P z := fun z hz => by
  rcases List.mem_cons.mp hz with rfl | hz
  · exact h
  · exact k z hz
theorem le_e0 {n : Nat} : e0.length ≤ n := by rw [len_e0]; exact Nat.zero_le _
theorem le_one {c n : Nat} : (one c).length ≤ n + 1 := Nat.succ_le_succ (Nat.zero_le _)
theorem le_app {t : Str} {c : Nat} : (t ++ one c).length ≤ t.length + 1 := by rw [Str.length_append]; exact Nat.le_refl _
theorem le_nil {n : Nat} : (⟨#[]⟩ : Str).length ≤ n := Nat.zero_le _
section
variable {x st pb fs : Addr} {mo : Mo} {inp : List Nat} {r : Rd} {σ' : MS} {o : List Str} {c : Nat}
theorem turn_stop (h : run rtFn.2 (orcR rtFn.2) 60 (moσ x st pb fs mo inp) rtTurn = some ((.brk, σ'), o)) (ho : ∀ z ∈ o, z.length ≤ moLen mo + 1) (hl : σ'.lv = lv0 x r.q (nc (headS inp))) (ha : σ'.av = (rdσ x st pb fs r).av) (hi : σ'.inp = r.rest) : TurnOf x st pb fs mo inp r :=
  ⟨.brk, σ', o, .sp, h, ho, hl, .inl ⟨rfl, ha, hi⟩⟩
theorem turn_next (y : Mo) (h : run rtFn.2 (orcR rtFn.2) 60 (moσ x st pb fs mo (c :: inp)) rtTurn = some ((.next, σ'), o)) (ho : ∀ z ∈ o, z.length ≤ moLen mo + 1) (hl : σ'.lv = lv0 x (moQ y) (nc (headS (c :: inp)))) (hi : σ'.inp = inp) (ha : σ'.av = (moσ x st pb fs y inp).av) (hs : scan y inp = some r) (hm : moLen y ≤ moLen mo + 1) : TurnOf x st pb fs mo (c :: inp) r := by
  subst hi
  exact ⟨.next, σ', o, y, h, ho, hl, .inr ⟨.inl rfl, c, rfl, ha, hs, hm⟩⟩
theorem turn_cont (y : Mo) (h : run rtFn.2 (orcR rtFn.2) 60 (moσ x st pb fs mo (c :: inp)) rtTurn = some ((.cont, σ'), o)) (ho : ∀ z ∈ o, z.length ≤ moLen mo + 1) (hl : σ'.lv = lv0 x (moQ y) (nc (headS (c :: inp)))) (hi : σ'.inp = inp) (ha : σ'.av = (moσ x st pb fs y inp).av) (hs : scan y inp = some r) (hm : moLen y ≤ moLen mo + 1) : TurnOf x st pb fs mo (c :: inp) r := by
  subst hi
  exact ⟨.cont, σ', o, y, h, ho, hl, .inr ⟨.inr rfl, c, rfl, ha, hs, hm⟩⟩
end
theorem turn_of (x st pb fs : Addr) : ∀ (mo : Mo) (inp : List Nat) (r : Rd), scan mo inp = some r → TurnOf x st pb fs mo inp r
  | .sp, [], r, h => by
    cases h
    exact turn_stop (sp_nil x st pb fs) (by repeat (first | exact all_nil | refine all_cons (by first | exact le_e0 | exact le_one | exact le_app | exact le_nil | exact Nat.le_succ _) ?_)) rfl rfl rfl
  | .sp, c :: rs, r, h => by
    unfold scan at h
    by_cases h1 : c = 32
    · subst h1
      rw [if_pos rfl] at h
      refine turn_cont (.sp) (sp_32 x st pb fs rs) ?_ rfl rfl rfl h (by simp)
      repeat (first | exact all_nil | refine all_cons (by first | exact le_e0 | exact le_one | exact le_app | exact le_nil | exact Nat.le_succ _) ?_)
    rw [if_neg h1] at h
    by_cases h2 : c = 97
    · subst h2
      rw [if_pos rfl] at h
      refine turn_next (.a (one 97) false) (sp_97 x st pb fs rs) ?_ rfl rfl rfl h (by show 1 ≤ _; omega)
      repeat (first | exact all_nil | refine all_cons (by first | exact le_e0 | exact le_one | exact le_app | exact le_nil | exact Nat.le_succ _) ?_)
    rw [if_neg h2] at h
    by_cases h3 : c = 39
    · subst h3
      rw [if_pos rfl] at h
      refine turn_next (.q 39 e0 false) (sp_39 x st pb fs rs) ?_ rfl rfl rfl h (by show e0.length ≤ _; rw [len_e0]; omega)
      repeat (first | exact all_nil | refine all_cons (by first | exact le_e0 | exact le_one | exact le_app | exact le_nil | exact Nat.le_succ _) ?_)
    rw [if_neg h3] at h
    by_cases h4 : c = 34
    · subst h4
      rw [if_pos rfl] at h
      refine turn_next (.q 34 e0 false) (sp_34 x st pb fs rs) ?_ rfl rfl rfl h (by show e0.length ≤ _; rw [len_e0]; omega)
      repeat (first | exact all_nil | refine all_cons (by first | exact le_e0 | exact le_one | exact le_app | exact le_nil | exact Nat.le_succ _) ?_)
    rw [if_neg h4] at h
    cases h
  | .a t q, [], r, h => by
    cases h
    exact turn_stop (a_nil x st pb fs t q) (by repeat (first | exact all_nil | refine all_cons (by first | exact le_e0 | exact le_one | exact le_app | exact le_nil | exact Nat.le_succ _) ?_)) rfl rfl rfl
  | .a t q, c :: rs, r, h => by
    unfold scan at h
    by_cases h1 : c = 32
    · subst h1
      rw [if_pos rfl] at h
      obtain ⟨⟨l⟩⟩ := t
      cases l with
      | nil =>
        cases q with
        | false => cases h
        | true =>
          cases h
          refine turn_stop (a_32q x st pb fs rs) ?_ rfl rfl rfl
          repeat (first | exact all_nil | refine all_cons (by first | exact le_e0 | exact le_one | exact le_app | exact le_nil | exact Nat.le_succ _) ?_)
      | cons c cs =>
        cases h
        refine turn_stop (a_32t x st pb fs rs q c cs) ?_ rfl rfl rfl
        repeat (first | exact all_nil | refine all_cons (by first | exact le_e0 | exact le_one | exact le_app | exact le_nil | exact Nat.le_succ _) ?_)
    rw [if_neg h1] at h
    by_cases h2 : c = 97
    · subst h2
      rw [if_pos rfl] at h
      refine turn_next (.a (t ++ one 97) q) (a_97 x st pb fs rs t q) ?_ rfl rfl rfl h (by show (t ++ one 97).length ≤ _; rw [Str.length_append]; exact Nat.le_refl _)
      repeat (first | exact all_nil | refine all_cons (by first | exact le_e0 | exact le_one | exact le_app | exact le_nil | exact Nat.le_succ _) ?_)
    rw [if_neg h2] at h
    by_cases h3 : c = 39
    · subst h3
      rw [if_pos rfl] at h
      refine turn_next (.q 39 t q) (a_39 x st pb fs rs t q) ?_ rfl rfl rfl h (Nat.le_succ _)
      repeat (first | exact all_nil | refine all_cons (by first | exact le_e0 | exact le_one | exact le_app | exact le_nil | exact Nat.le_succ _) ?_)
    rw [if_neg h3] at h
    by_cases h4 : c = 34
    · subst h4
      rw [if_pos rfl] at h
      refine turn_next (.q 34 t q) (a_34 x st pb fs rs t q) ?_ rfl rfl rfl h (Nat.le_succ _)
      repeat (first | exact all_nil | refine all_cons (by first | exact le_e0 | exact le_one | exact le_app | exact le_nil | exact Nat.le_succ _) ?_)
    rw [if_neg h4] at h
    cases h
  | .q d t q, [], r, h => by cases h
  | .q d t q, c :: rs, r, h => by
    unfold scan at h
    split at h
    case isFalse => cases h
    rename_i hd
    have fin : ∀ (k : Nat) (o : List Str), (∀ z ∈ o, z = e0 ∨ z = one k ∨ z = t ++ one k) → ∀ z ∈ o, z.length ≤ moLen (.q d t q) + 1 := fun k o ho z hz => by
      show z.length ≤ t.length + 1
      rcases ho z hz with rfl | rfl | rfl
      · rw [len_e0]; omega
      · show 1 ≤ _; omega
      · rw [Str.length_append]; exact Nat.le_refl _
    by_cases h1 : c = d
    · rw [if_pos h1] at h
      subst h1
      rcases hd with rfl | rfl
      · exact turn_next (.a t true) (q39_39 x st pb fs rs t q) (fin 39 _ (by repeat (first | exact all_nil | refine all_cons (by first | exact .inl rfl | exact .inr (.inl rfl) | exact .inr (.inr rfl)) ?_))) rfl rfl rfl h (Nat.le_succ _)
      · exact turn_next (.a t true) (q34_34 x st pb fs rs t q) (fin 34 _ (by repeat (first | exact all_nil | refine all_cons (by first | exact .inl rfl | exact .inr (.inl rfl) | exact .inr (.inr rfl)) ?_))) rfl rfl rfl h (Nat.le_succ _)
    rw [if_neg h1] at h
    split at h
    case isFalse => cases h
    rename_i hc
    have hl : moLen (.q d (t ++ one c) true) ≤ moLen (.q d t q) + 1 := by show (t ++ one c).length ≤ t.length + 1; rw [Str.length_append]; exact Nat.le_refl _
    have hc' : c = 32 ∨ c = 97 ∨ c = 39 ∨ c = 34 := by simpa [isSign, or_assoc] using hc
    rcases hd with rfl | rfl
    · rcases hc' with rfl | rfl | rfl | rfl
      · exact turn_next (.q 39 (t ++ one 32) true) (q39_32 x st pb fs rs t q) (fin 32 _ (by repeat (first | exact all_nil | refine all_cons (by first | exact .inl rfl | exact .inr (.inl rfl) | exact .inr (.inr rfl)) ?_))) rfl rfl rfl h (hl)
      · exact turn_next (.q 39 (t ++ one 97) true) (q39_97 x st pb fs rs t q) (fin 97 _ (by repeat (first | exact all_nil | refine all_cons (by first | exact .inl rfl | exact .inr (.inl rfl) | exact .inr (.inr rfl)) ?_))) rfl rfl rfl h (hl)
      · exact absurd rfl h1
      · exact turn_next (.q 39 (t ++ one 34) true) (q39_34 x st pb fs rs t q) (fin 34 _ (by repeat (first | exact all_nil | refine all_cons (by first | exact .inl rfl | exact .inr (.inl rfl) | exact .inr (.inr rfl)) ?_))) rfl rfl rfl h (hl)
    · rcases hc' with rfl | rfl | rfl | rfl
      · exact turn_next (.q 34 (t ++ one 32) true) (q34_32 x st pb fs rs t q) (fin 32 _ (by repeat (first | exact all_nil | refine all_cons (by first | exact .inl rfl | exact .inr (.inl rfl) | exact .inr (.inr rfl)) ?_))) rfl rfl rfl h (hl)
      · exact turn_next (.q 34 (t ++ one 97) true) (q34_97 x st pb fs rs t q) (fin 97 _ (by repeat (first | exact all_nil | refine all_cons (by first | exact .inl rfl | exact .inr (.inl rfl) | exact .inr (.inr rfl)) ?_))) rfl rfl rfl h (hl)
      · exact turn_next (.q 34 (t ++ one 39) true) (q34_39 x st pb fs rs t q) (fin 39 _ (by repeat (first | exact all_nil | refine all_cons (by first | exact .inl rfl | exact .inr (.inl rfl) | exact .inr (.inr rfl)) ?_))) rfl rfl rfl h (hl)
      · exact absurd rfl h1
end Mine
end
section
open PySem PySem.W PyProof.Rows PySem.Calls
set_option maxRecDepth 100000
namespace Mine
theorem LocOK.mono {lv lv' : AEnv} {m : Str → Option Value} (h : LocOK lv m) (k : ∀ y v, lv'.lookup y = some v → lv.lookup y = some v) : LocOK lv' m := fun y v e => h y v (k y v e)
theorem lv0_sub (x : Addr) (q : Bool) (n : AEnv) : ∀ y v, (lv0 x q []).lookup y = some v → (lv0 x q n).lookup y = some v := by
  intro y v h
  unfold lv0 at h ⊢
  simp only [List.append_nil] at h
  rw [List.lookup_append, h]; rfl
section
variable {prog : Program} {w : World} {A : Around} {E : Value → Shared → Prop} {K : Frag} {x dx C L : Addr} {h₀ : Heap} {names : List Str} {fx : List (Str × Value)} {D : Addr → Prop} {R : List Nat → List (Addr × Obj) → Prop} {cn : Str} {fa : Addr} {cd : Value} {st pb fs : Addr}
theorem Ok.forget {σ σ' : MS} {h : Heap} (O : Ok h₀ L x dx C names fx D R σ h) (hv : ∀ y v, σ'.lv.lookup y = some v → σ.lv.lookup y = some v) (ha : σ'.av = σ.av) (hi : σ'.inp = σ.inp) : Ok h₀ L x dx C names fx D R σ' h := by
  obtain ⟨m, es, n, rest, F, N, hR, LO, AO, hl, hs⟩ := O.ex
  exact ⟨m, es, n, rest, F, N, hi ▸ hR, LO.mono hv, ha ▸ AO, hl, hs⟩

theorem loop_ok (X : K.In h₀) (S : Stat K C names) (hk : rtFn.2.kind = .function) (Z : Asks prog w A h₀ L x dx C names fx D R (envOf cn rtFn.2 L fa cd) (orcR rtFn.2)) (hx : x ≠ dx) (hr : ∀ i rest, R i rest → ∀ p ∈ rest, p.1 ≠ dx)
    {s : Shared} {mo : Mo} {inp : List Nat} {r : Rd} {Q : Flow → Shared → Prop} {k : Nat} {tp pos : Pos} (O : Ok h₀ L x dx C names fx D R (moσ x st pb fs mo inp) s.heap) (hs : scan mo inp = some r) (hB : moLen mo + inp.length < sizeLine)
    (h : ∀ h' tk, Ok h₀ L x dx C names fx D R (rdσ x st pb fs r) h' → Q .next { s with heap := h', toks := tk }) :
    wpAny (model prog w) A (exec (.While (.Constant (.bool true) k tp) rtTurn [] pos) (envOf cn rtFn.2 L fa cd)) Q E s := by
  refine wpAny_While (codeAny_whileLoop (R := fun r s' => match r with | .ok f => Q f s' | .error e => cameBackBy (model prog w) A (envOf cn rtFn.2 L fa cd) E e s') (fun n s' => ∃ h' tk mo inp, s' = { s with heap := h', toks := tk } ∧ n = inp.length ∧ Ok h₀ L x dx C names fx D R (moσ x st pb fs mo inp) h' ∧ scan mo inp = some r ∧ moLen mo + inp.length < sizeLine) ?_ inp.length ⟨s.heap, s.toks, mo, inp, rfl, rfl, O, hs, hB⟩)
  rintro n s' ⟨h₁, tk₁, mo₁, inp₁, rfl, rfl, O₁, hs₁, hB₁⟩
  refine isTrue_plain (wpAny_pure (wpAny_truthy_bool ?_))
  rw [if_pos rfl]
  obtain ⟨f, σ', o, y, e, ho, hlv, hf⟩ := turn_of x st pb fs mo₁ inp₁ r hs₁
  refine (run_ok X S hk Z hx hr 60).2 (s := { s with heap := h₁, toks := tk₁ }) O₁ e (fun z hz => by have := ho z hz; omega) fun h₂ tk₂ fl O₂ hfl => ?_
  rcases hf with ⟨rfl, ha, hi⟩ | ⟨hf, c, hc, ha, hs₂, hl⟩
  · cases hfl
    exact h h₂ tk₂ (O₂.forget (by rw [hlv]; exact lv0_sub _ _ _) ha.symm hi.symm)
  · have go : ∃ m, m < inp₁.length ∧ ∃ h' tk mo inp, ({ s with heap := h₂, toks := tk₂ } : Shared) = { s with heap := h', toks := tk } ∧ m = inp.length ∧ Ok h₀ L x dx C names fx D R (moσ x st pb fs mo inp) h' ∧ scan mo inp = some r ∧ moLen mo + inp.length < sizeLine := by
      have hlen : inp₁.length = σ'.inp.length + 1 := by rw [hc]; rfl
      refine ⟨σ'.inp.length, by omega, h₂, tk₂, y, σ'.inp, rfl, rfl, O₂.forget ?_ ha.symm rfl, hs₂, by omega⟩
      rw [hlv]
      rcases hf with rfl | rfl <;> exact lv0_sub _ _ _
    rcases hf with rfl | rfl <;> cases hfl <;> exact go
end
end Mine
end
section
open PySem PySem.W PyProof.Rows PySem.Calls
set_option maxRecDepth 100000
namespace Mine
noncomputable def wAt : List Stmt → Nat × Pos × Pos
  | .While (.Constant _ k p) _ _ q :: _ => (k, p, q)
  | _ :: r => wAt r
  | [] => (0, default, default)
theorem rt_split : rtFn.1 = rtFn.1.take 2 ++ (.While (.Constant (.bool true) (wAt rtFn.1).1 (wAt rtFn.1).2.1) rtTurn [] (wAt rtFn.1).2.2 :: rtFn.1.drop 3) := by kernel_rfl
theorem rt_kind : rtFn.2.kind = .function := by kernel_rfl
noncomputable def lvSelf (x : Addr) : AEnv := [(Str.ofString "self", .ref x)]
section
variable (x st pb fs : Addr) (r : List Nat) (t : Str) (q : Bool) (c : Nat) (cs : List Nat) (sv : AV)
theorem rt_pre : run rtFn.2 (orcR rtFn.2) 60 ⟨lvSelf x, av0 st pb fs sv t, r⟩ (rtFn.1.take 2) = some ((.next, ⟨lv0 x false [], av0 st pb fs sv t, r⟩), []) := by kernel_rfl
theorem rt_post_q : run rtFn.2 (orcR rtFn.2) 60 ⟨lv0 x true [], av0 st pb fs sv t, r⟩ (rtFn.1.drop 3) = some ((.ret (.str t), ⟨lv0 x true [(Str.ofString "result", .str t)], av0 st pb fs sv e0, r⟩), []) := by kernel_rfl
theorem rt_post_t : run rtFn.2 (orcR rtFn.2) 60 ⟨lv0 x false [], av0 st pb fs sv ⟨⟨c :: cs⟩⟩, r⟩ (rtFn.1.drop 3) = some ((.ret (.str ⟨⟨c :: cs⟩⟩), ⟨lv0 x false [(Str.ofString "result", .str ⟨⟨c :: cs⟩⟩)], av0 st pb fs sv e0, r⟩), []) := by kernel_rfl
theorem rt_post_e : run rtFn.2 (orcR rtFn.2) 60 ⟨lv0 x false [], av0 st pb fs sv ⟨#[]⟩, r⟩ (rtFn.1.drop 3) = some ((.ret .none, ⟨lv0 x false [(Str.ofString "result", .none)], av0 st pb fs sv e0, r⟩), []) := by kernel_rfl
end
/-- what read_token gives back -/
noncomputable def tokOf (t : Str) (q : Bool) : AV := match t, q with
  | ⟨⟨[]⟩⟩, false => .none
  | t, _ => .str t
theorem rt_post (x st pb fs : Addr) (r : List Nat) (t : Str) (q : Bool) (sv : AV) : ∃ v, run rtFn.2 (orcR rtFn.2) 60 ⟨lv0 x q [], av0 st pb fs sv t, r⟩ (rtFn.1.drop 3) = some ((.ret (tokOf t q), ⟨lv0 x q [(Str.ofString "result", v)], av0 st pb fs sv e0, r⟩), []) := by
  cases q with
  | true =>
    refine ⟨.str t, ?_⟩
    have e : tokOf t true = .str t := by obtain ⟨⟨l⟩⟩ := t; cases l <;> rfl
    rw [e]
    exact rt_post_q x st pb fs r t sv
  | false =>
    obtain ⟨⟨l⟩⟩ := t
    cases l with
    | nil => exact ⟨_, rt_post_e x st pb fs r sv⟩
    | cons c cs => exact ⟨_, rt_post_t x st pb fs r c cs sv⟩
/-- where the shlex object stands between two calls of read_token -/
structure Lx where
  done : Bool
  inp : List Nat
noncomputable def lxAv (st pb fs : Addr) (l : Lx) : AEnv := av0 st pb fs (if l.done then .none else .str (Str.ofString " ")) e0
/-- one call of read_token: its value, and where the object stands behind it -/
noncomputable def readTok (l : Lx) : Option (AV × Lx) := match l.done with
  | true => match l.inp with
    | [] => some (.none, ⟨true, []⟩)
    | _ :: _ => none
  | false => (scan .sp l.inp).map fun r => (tokOf r.t r.q, ⟨r.done, r.rest⟩)
theorem execs_app (env : Env) (b : List Stmt) : ∀ a : List Stmt, execs (a ++ b) env = (execs a env >>= fun f => match f with | .next => execs b env | f => pure f)
  | [] => rfl
  | st :: r => by
    show execs (st :: (r ++ b)) env = _
    rw [execs_cons, execs_cons, bind_assoc]
    refine congrArg (fun k => exec st env >>= k) (funext fun f => ?_)
    cases f with
    | next => exact execs_app env b r
    | _ => rfl
theorem wp_execs_app {prog : Program} {w : World} {A : Around} {E : Value → Shared → Prop} {env : Env} {a b : List Stmt} {s : Shared} {Q : Flow → Shared → Prop}
    (h : wpAny (model prog w) A (execs a env) (fun f s' => match f with | .next => wpAny (model prog w) A (execs b env) Q E s' | f => Q f s') E s) : wpAny (model prog w) A (execs (a ++ b) env) Q E s := by
  rw [execs_app]
  refine wpAny_bind (wpAny_mono h (fun f s' h' => ?_) fun _ _ x => x)
  cases f with
  | next => exact h'
  | _ => exact wpAny_pure h'
section
variable {prog : Program} {w : World} {A : Around} {E : Value → Shared → Prop} {K : Frag} {x dx C L : Addr} {h₀ : Heap} {names : List Str} {fx : List (Str × Value)} {D : Addr → Prop} {R : List Nat → List (Addr × Obj) → Prop} {cn : Str} {fa : Addr} {cd : Value} {st pb fs : Addr}
theorem loop_end (X : K.In h₀) (S : Stat K C names) (Z : Asks prog w A h₀ L x dx C names fx D R (envOf cn rtFn.2 L fa cd) (orcR rtFn.2)) (hx : x ≠ dx) (hr : ∀ i rest, R i rest → ∀ p ∈ rest, p.1 ≠ dx)
    {s : Shared} {Q : Flow → Shared → Prop} {k : Nat} {tp pos : Pos} (O : Ok h₀ L x dx C names fx D R ⟨lv0 x false [], av0 st pb fs .none e0, []⟩ s.heap)
    (h : ∀ h' tk, Ok h₀ L x dx C names fx D R ⟨lv0 x false [], av0 st pb fs .none e0, []⟩ h' → Q .next { s with heap := h', toks := tk }) :
    wpAny (model prog w) A (exec (.While (.Constant (.bool true) k tp) rtTurn [] pos) (envOf cn rtFn.2 L fa cd)) Q E s := by
  refine wpAny_While (codeAny_whileLoop (R := fun r s' => match r with | .ok f => Q f s' | .error e => cameBackBy (model prog w) A (envOf cn rtFn.2 L fa cd) E e s') (fun _ s' => ∃ h' tk, s' = { s with heap := h', toks := tk } ∧ Ok h₀ L x dx C names fx D R ⟨lv0 x false [], av0 st pb fs .none e0, []⟩ h') ?_ 0 ⟨s.heap, s.toks, rfl, O⟩)
  rintro n s' ⟨h₁, tk₁, rfl, O₁⟩
  refine isTrue_plain (wpAny_pure (wpAny_truthy_bool ?_))
  rw [if_pos rfl]
  refine (run_ok X S rt_kind Z hx hr 60).2 (s := { s with heap := h₁, toks := tk₁ }) O₁ (n_nil x st pb fs) (fun z hz => ?_) fun h₂ tk₂ fl O₂ hfl => ?_
  · simp at hz; subst hz; rw [len_e0]; omega
  · cases hfl
    exact h h₂ tk₂ (O₂.forget (lv0_sub _ _ _) rfl rfl)
theorem rt_body (X : K.In h₀) (S : Stat K C names) (Z : Asks prog w A h₀ L x dx C names fx D R (envOf cn rtFn.2 L fa cd) (orcR rtFn.2)) (hx : x ≠ dx) (hr : ∀ i rest, R i rest → ∀ p ∈ rest, p.1 ≠ dx)
    {s : Shared} {l l' : Lx} {v : AV} {Q : Flow → Shared → Prop} (O : Ok h₀ L x dx C names fx D R ⟨lvSelf x, lxAv st pb fs l, l.inp⟩ s.heap) (hs : readTok l = some (v, l')) (hB : l.inp.length + 1 < sizeLine)
    (h : ∀ h' tk t, Ok h₀ L x dx C names fx D R ⟨lvSelf x, lxAv st pb fs l', l'.inp⟩ h' → Q (.ret (v.enc t)) { s with heap := h', toks := tk }) :
    wpAny (model prog w) A (execs rtFn.1 (envOf cn rtFn.2 L fa cd)) Q E s := by
  have R60 := @run_ok prog w A K x dx C L h₀ names R cn rtFn.2 fa cd (orcR rtFn.2) fx D X S rt_kind Z hx hr 60
  rw [rt_split]
  refine wp_execs_app (R60.2 O (rt_pre x st pb fs l.inp e0 _) (fun z hz => nomatch hz) fun h₁ tk₁ fl O₁ hf => ?_)
  cases hf
  have tail : ∀ (sv : AV) (t : Str) (q : Bool) (inp : List Nat) (h₂ : Heap) (tk₂ : Nat), Ok h₀ L x dx C names fx D R ⟨lv0 x q [], av0 st pb fs sv t, inp⟩ h₂ → (∀ h' tk t', Ok h₀ L x dx C names fx D R ⟨lvSelf x, av0 st pb fs sv e0, inp⟩ h' → Q (.ret ((tokOf t q).enc t')) { s with heap := h', toks := tk }) →
      wpAny (model prog w) A (execs (rtFn.1.drop 3) (envOf cn rtFn.2 L fa cd)) Q E { s with heap := h₂, toks := tk₂ } := by
    intro sv t q inp h₂ tk₂ O₂ k
    obtain ⟨rv, e⟩ := rt_post x st pb fs inp t q sv
    refine R60.2 (s := { s with heap := h₂, toks := tk₂ }) O₂ e (fun z hz => nomatch hz) fun h₃ tk₃ fl O₃ hf => ?_
    cases hf with
    | ret _ t' =>
      refine k h₃ tk₃ t' (O₃.forget (fun y u hy => ?_) rfl rfl)
      unfold lvSelf at hy
      unfold lv0
      rw [List.lookup_append, List.lookup_cons] at *
      split at hy
      · rename_i hb
        simp only [List.lookup_cons, hb]
        exact hy ▸ rfl
      · cases hy
  unfold readTok at hs
  split at hs
  · rename_i hd
    split at hs
    case h_2 => cases hs
    rename_i hi
    cases hs
    rw [hi, hd] at O₁
    refine wpAny_execs_cons (loop_end (s := { s with heap := h₁, toks := tk₁ }) (x := x) (st := st) (pb := pb) (fs := fs) X S Z hx hr O₁ fun h₂ tk₂ O₂ => ?_)
    exact tail _ e0 false [] h₂ tk₂ O₂ fun h' tk t' O' => h h' tk t' O'
  · rename_i hd
    obtain ⟨r, hr', e⟩ := Option.map_eq_some_iff.mp hs
    cases e
    refine wpAny_execs_cons (loop_ok (s := { s with heap := h₁, toks := tk₁ }) (x := x) (st := st) (pb := pb) (fs := fs) (mo := .sp) (inp := l.inp) X S rt_kind Z hx hr ?_ hr' (by show 0 + _ < _; omega) fun h₂ tk₂ O₂ => ?_)
    · rw [hd] at O₁
      exact O₁
    · refine tail _ r.t r.q r.rest h₂ tk₂ O₂ fun h' tk t' O' => h h' tk t' ?_
      exact O'
end
end Mine
end
section
open PySem PySem.W PyProof.Rows PySem.Calls
namespace Mine
example : True := by k_with_none; trivial
example : True := by (k_with "callH" => (refine' callH (rest := []) (by assumption) (by assumption) (by exact News.nil) (by exact List.forall_mem_nil _) (by assumption) (by assumption) (by k_is) (by k_is) (by first | assumption | (show _ < _; simp only [depth_deeper, depth_in1] at *; omega)) (by first | exact BindsTo.of_eq rfl | exact binds_K (by k_in) rfl (by k_is) rfl rfl rfl) (by exact locs rfl) (by decide) ?_ (by exact rfl) (by exact rfl) (by exact rfl); intro g L' h₁ F N X T; (try dsimp only))); trivial
example : True := by (k_with "call ref" => (k_here; k_dflt (walk_at "callH"))); trivial
example : True := by (k_with "LeaveH" => (k_dflt (refine leaveH_ (by assumption) (by assumption) ?_); intro kF kN; ground_anew kF; (have kX := kFor kF (by k_asm)); (try simp only [List.append_nil] at kN); (try dsimp only))); trivial
section
variable {prog : Program} {w : World} {A : Around} {s : Shared} {Q : Value → Shared → Prop} {E : Value → Shared → Prop} {p : Program} {loose : List Str} {mg mb : Str → Option Value} {h₀ : Heap} {L : Addr} {m : Str → Option Value}

theorem my_len {x : Str} {i j : Option Int} {n : Nat} (h : x.length + 1 ≤ n) : (Txt.slice x i j ++ Str.ofString " ").length ≤ n := by
  have e1 : (Str.ofString " ").length = 1 := by decide +kernel
  rw [Str.length_append, e1]
  exact Nat.le_trans (Nat.add_le_add_right (PyProof.Txt.length_slice_le _ _ _) _) h
/-- a slice of a text, whatever stands before the brackets -/
theorem my_ss {rest : List (Addr × Obj)} {value : Expr} {a b : Option Expr} {q : Pos} {x : Str} {i j : Int} {t ui uj : Tok} (hF : Fr h₀ L s.heap m) (hN : News h₀ L s.heap rest) (hx : x.length ≤ 200000)
    (h : ∀ h' t' k, Fr h₀ L h' m → News h₀ L h' rest → Q (.str (Txt.slice x (some i) (some j)) t') { s with heap := h', toks := k }) :
    wpAny (model prog w) A (subscriptTail value (.Slice a b none q) (.str x t) (.ref s.heap.objs.size)) Q E { s with heap := s.heap.push { cls := .type "slice", data := .fields #[.int i ui, .int j uj, .none] } } :=
  kba_turn (value' := .Name (Str.ofString "_") ⟨0, 0, 0, 0⟩) (fun _ => rfl) (slice_strN_ss hF hN h (by with_unfolding_all rfl) (fun _ => rfl) (by rw [sizeLine_eq]; omega))
theorem my_ns {rest : List (Addr × Obj)} {value : Expr} {a b : Option Expr} {q : Pos} {x : Str} {j : Int} {t uj : Tok} (hF : Fr h₀ L s.heap m) (hN : News h₀ L s.heap rest) (hx : x.length ≤ 200000)
    (h : ∀ h' t' k, Fr h₀ L h' m → News h₀ L h' rest → Q (.str (Txt.slice x none (some j)) t') { s with heap := h', toks := k }) :
    wpAny (model prog w) A (subscriptTail value (.Slice a b none q) (.str x t) (.ref s.heap.objs.size)) Q E { s with heap := s.heap.push { cls := .type "slice", data := .fields #[.none, .int j uj, .none] } } :=
  kba_turn (value' := .Name (Str.ofString "_") ⟨0, 0, 0, 0⟩) (fun _ => rfl) (slice_strN_ns hF hN h (by with_unfolding_all rfl) (fun _ => rfl) (by rw [sizeLine_eq]; omega))
/-- a StringIO's own dict, as its __init__ leaves it -/
abbrev sioOf (g1 g2 g3 : Int) (t1 t2 t3 u1 u2 : Tok) (B : Str) (i : Int) (u3 : Tok) : Obj := dictOf [⟨g1, .str (Str.ofString "_StringIO__newline") t1, .str (Str.ofString "\n") u1⟩, ⟨g2, .str (Str.ofString "_StringIO__buf") t2, .str B u2⟩, ⟨g3, .str (Str.ofString "_StringIO__pos") t3, .int i u3⟩] 3
example : True := by (k_with "subscriptTail" => (k_here; (with_reducible rename Fr _ _ _ _ => F'); (with_reducible rename News _ _ _ _ => N'); first | (with_reducible refine my_ss (s := ⟨_, _, _, _, _⟩) F' N' (by omega) ?_) | (with_reducible refine my_ns (s := ⟨_, _, _, _, _⟩) F' N' (by with_reducible refine my_len ?_; omega) ?_); intro _ _ _ _ _)); trivial
set_option maxRecDepth 100000 in
set_option maxHeartbeats 800000 in
theorem read_c {rest : List (Addr × Obj)} {st sd : Addr} {g1 g2 g3 : Int} {t1 t2 t3 u1 u2 u3 t : Tok} {B : Str} {i : Nat} (F : Fr h₀ L s.heap m)
    (N : News h₀ L s.heap [(st, instObj 641 sd), (sd, sioOf g1 g2 g3 t1 t2 t3 u1 u2 B (i : Int) u3)])
    (M : News h₀ L s.heap rest) (hd : ∀ q ∈ rest, q.1 ∉ List.map (fun (x : Addr × Obj) => x.1) [(st, instObj 641 sd), (sd, sioOf g1 g2 g3 t1 t2 t3 u1 u2 B (i : Int) u3)]) (hne : @Ne Nat st sd) (X : (Mine.hd.heap_39 w.params).In h₀) (T : TopRead p loose mg mb h₀) (hroom : A.depth + 10 < recursionLimit) (hi : i ≤ B.length) (hB : B.length ≤ 100000)
    (h : ∀ h' tk u t' (j : Nat), j = min (i + 1) B.length → Fr h₀ L h' m → News h₀ L h' [(st, instObj 641 sd), (sd, sioOf g1 g2 g3 t1 t2 t3 u1 u2 B (j : Int) u)] → News h₀ L h' rest → Q (.str (headS (B.cps.toList.drop i)) t') { s with heap := h', toks := tk }) :
    wpAny (model prog w) A (call (.ref 587) [.ref st, .int 1 t]) Q E s := by
  have hr' : A.depth < recursionLimit := by omega
  k_dflt (refine' callH F N M hd X T ?k1 ?k2 hr' ?k3 ?k4 ?k5 ?_ ?c1 ?c2 ?c3; (case k1 => k_is); (case k2 => k_is); (case k3 => first | exact BindsTo.of_eq rfl | exact binds_K (by k_in) rfl (by k_is) rfl rfl rfl); (case k4 => exact locs rfl); (case k5 => decide); (case c1 => exact rfl); (case c2 => exact rfl); (case c3 => exact rfl); intro g L' h₁ F N X T; (try dsimp only))
  k_steps
  · rw [← head_end (B := B) (i := i) (by omega)]
    exact h _ _ _ _ i (by omega) (by assumption) (fun q hq => by rename News _ _ _ _ => kN; exact kN q (List.mem_append_left _ hq)) (fun q hq => by rename News _ _ _ _ => kN; exact kN q (List.mem_append_right _ hq))
  · rw [slice_turn (B := B) (i := i) (j := (i : Int) + 1) (by omega) rfl]
    exact h _ _ _ _ (i + 1) (by omega) (by assumption) (fun q hq => by rename News _ _ _ _ => kN; exact kN q (List.mem_append_left _ hq)) (fun q hq => by rename News _ _ _ _ => kN; exact kN q (List.mem_append_right _ hq))
  · rw [slice_turn (B := B) (i := i) (j := (B.length : Int)) (by omega) (by omega)]
    exact h _ _ _ _ B.length (by omega) (by assumption) (fun q hq => by rename News _ _ _ _ => kN; exact kN q (List.mem_append_left _ hq)) (fun q hq => by rename News _ _ _ _ => kN; exact kN q (List.mem_append_right _ hq))
end
example : True := by k_with_none; trivial
end Mine
end
section
open PySem PySem.W PyProof.Rows PySem.Calls
set_option maxRecDepth 100000
namespace Mine
noncomputable def lexNames : List Str := Str.ofString "instream" :: (av0 0 0 0 .none e0).map (·.1)
theorem stat_lex (w : World) : Stat (Mine.hd.heap_39 w.params) 776 lexNames where
  pg := by k_is
  hd := by k_is
  no := by
    have h : lexNames.all (fun a => decide (findIn (Mine.hd.heap_39 w.params) (.ref 776) a = some none)) = true := by kernel_rfl
    intro a ha
    exact of_decide_eq_true (List.all_eq_true.mp h a ha)
  sa := by k_is
  po := by k_is

section
variable {prog : Program} {w : World} {A : Around} {x dx L : Addr} {h₀ : Heap} {fx : List (Str × Value)} {D : Addr → Prop} {R : List Nat → List (Addr × Obj) → Prop} {p : Program} {loose : List Str} {mg mb : Str → Option Value}
set_option maxHeartbeats 800000 in
theorem prop_lex (X : (Mine.hd.heap_39 w.params).In h₀) (T : TopRead p loose mg mb h₀) (hroom : A.depth + 30 < recursionLimit) {σ : MS} {s : Shared} {v : AV} {Q : Value → Shared → Prop} {E : Value → Shared → Prop}
    (O : Ok h₀ L x dx 776 lexNames fx D R σ s.heap) (hv : σ.av.lookup (Str.ofString "_punctuation_chars") = some v) (h : ∀ h' tk t, Ok h₀ L x dx 776 lexNames fx D R σ h' → Q (v.enc t) { s with heap := h', toks := tk }) :
    wpAny (model prog w) A (getAttr (.ref x) (Str.ofString "punctuation_chars") true) Q E s := by
  obtain ⟨m, es, n, rest, F, N, hR, LO, AO, hl, hs⟩ := id O.ex
  obtain ⟨hm, ⟨t, e⟩, _⟩ := AO.at_ _ v hv
  have I := InstAt.of_news N (List.Mem.head _) (List.Mem.tail _ (List.Mem.head _))
  have X' := X.keeps F.keep
  have T' := T.keeps F.keep
  refine' get_prop F X I ?k1 ?k2 ?k3 ?k4 ?k5 ?k6 ?_
  case k1 => k_is
  case k2 => k_is
  case k3 => k_is
  case k4 => k_is
  case k5 => k_is
  case k6 => k_is
  refine' enterG (s := { s with toks := s.toks + 1 }) X' T'.nolimit ?k1 ?k2 ?kr ?k3 ?k4 ?k5 ?_ ?c1 ?c2 ?c3
  case k1 => k_is
  case k2 => k_is
  case kr => show _ < _; simp only [Around.in1_depth]; omega
  case k3 => exact BindsTo.of_eq rfl
  case k4 => exact locs rfl
  case k5 => decide
  case c1 => exact rfl
  case c2 => exact rfl
  case c3 => exact rfl
  intro h₁ F₁ N₁
  have I₁ : PySem.W.InstAt h₁ x (instObj 776 dx) 776 (some (dictOf es n)) := ⟨F₁.keep _ _ I.at_, rfl, rfl, F₁.keep _ _ (N _ (List.Mem.tail _ (List.Mem.head _))).1⟩
  refine wpAny_execs_cons (wpAny_Return_some (Attribute_name (nameX_L (cl := []) F₁ rfl ?_ rfl rfl (by decide))))
  refine get_own F₁ X' I₁ (stat_lex w).pg (stat_lex w).hd ((stat_lex w).no _ hm) (by rfl) e (by cases v <;> rfl) ?_
  exact handed_on (by cases v <;> rfl) (h h₁ _ t (O.keep F₁.keep))

theorem method_eq {env : Env} {o : Expr} {name : Str} {ap p : Pos} {args : List Expr} (hp : ap.endLine = p.line) (hb : attributeBase o name env (eval o env) = eval o env)
    (hf : methodCallForm (args.length + 0) (backTo p (starEach args env)) [] = true) :
    eval (.Call (.Attribute o name ap) args [] p) env = (do
      let ov ← eval o env
      standAt ap.atName
      let (f, first) ← holding [ov] (getMethod ov name (do return (← importBound o env).getD true))
      callWith p f first (backTo p (starEach args env)) []) := by
  show (do
    let ov ← attributeBase o name env (eval o env)
    standAt ap.atName
    methodCall o name ap p env ov (args.length + 0) (backTo p (starEach args env)) []) = _
  rw [hb]
  unfold methodCall calleeOf methodCallPos
  rw [hf]
  simp only [hp, beq_self_eq_true, Bool.not_true, Bool.false_or, if_true, pure_bind]
theorem isOne_inv {c : Expr} (h : isOne c = true) : ∃ k p, c = .Constant (.int 1) k p := by
  cases c with
  | Constant c k p =>
    cases c with
    | int i => exact ⟨k, p, by rw [show i = 1 from eq_of_beq h]⟩
    | _ => exact absurd_ff h
  | _ => exact absurd_ff h
theorem oneArgE_inv {l : List Expr} (h : oneArgE l = true) : ∃ k p, l = [.Constant (.int 1) k p] := by
  cases l with
  | nil => exact absurd_ff h
  | cons c r =>
    obtain ⟨h1, h2⟩ := Bool.and_eq_true_iff.mp (show (isOne c && r.isEmpty) = true from h)
    obtain ⟨k, p, rfl⟩ := isOne_inv h1
    exact ⟨k, p, by rw [List.isEmpty_iff.mp h2]⟩
theorem callOf_inv {e : Expr} {r : Expr × List Expr × List Keyword × Pos} (h : callOf e = some r) : e = .Call r.1 r.2.1 r.2.2.1 r.2.2.2 := by
  cases e with
  | Call f args kws p => cases h; rfl
  | _ => exact absurd_none h
theorem attrOf_inv {e : Expr} {r : Expr × Str × Pos} (h : attrOf e = some r) : e = .Attribute r.1 r.2.1 r.2.2 := by
  cases e with
  | Attribute o a p => cases h; rfl
  | _ => exact absurd_none h
theorem nameOf_inv {e : Expr} {r : Str × Pos} (h : nameOf' e = some r) : e = .Name r.1 r.2 := by
  cases e with
  | Name x p => cases h; rfl
  | _ => exact absurd_none h
theorem any_inv {α : Type} {o : Option α} {f : α → Bool} (h : o.any f = true) : ∃ a, o = some a ∧ f a = true := by
  cases o with
  | none => exact absurd_ff h
  | some a => exact ⟨a, rfl, h⟩
theorem and7 {a b c d e f g : Bool} (h : (a && (b && (c && (d && (e && (f && g)))))) = true) : a = true ∧ b = true ∧ c = true ∧ d = true ∧ e = true ∧ f = true ∧ g = true := by
  simpa only [Bool.and_eq_true] using h
theorem isRead_inv {sc : Scope} {e : Expr} (h : isRead sc e = true) : ∃ p1 p2 ap k p4 p5, e = .Call (.Attribute (.Attribute (.Name (Str.ofString "self") p1) (Str.ofString "instream") p2) (Str.ofString "read") ap) [.Constant (.int 1) k p4] [] p5 ∧ sc.names.lookup (Str.ofString "self") = some .local ∧ ap.endLine = p5.line := by
  obtain ⟨c, e1, h⟩ := any_inv h
  obtain ⟨b, e2, h⟩ := any_inv h
  obtain ⟨a, e3, h⟩ := any_inv h
  obtain ⟨x, e4, h⟩ := any_inv h
  obtain ⟨h0, h1, h2, h3, h4, h5, h6⟩ := and7 h
  obtain ⟨k, q, hq⟩ := oneArgE_inv h0
  have z3 : x.1 = Str.ofString "self" := eq_of_beq h2
  exact ⟨x.2, a.2.2, b.2.2, k, q, c.2.2.2, by rw [callOf_inv e1, attrOf_inv e2, attrOf_inv e3, nameOf_inv e4, hq, List.isEmpty_iff.mp h1, z3, show a.2.1 = _ from eq_of_beq h3, show b.2.1 = _ from eq_of_beq h4], z3 ▸ eq_of_beq h5, eq_of_beq h6⟩
/-- the stream's two objects, its text from some place on still to be read -/
noncomputable def RL (st sd : Addr) (B : Str) (inp : List Nat) (rest : List (Addr × Obj)) : Prop :=
  ∃ g1 g2 g3 t1 t2 t3 u1 u2 u3, ∃ i : Nat, rest = [(st, instObj 641 sd), (sd, sioOf g1 g2 g3 t1 t2 t3 u1 u2 B (i : Int) u3)] ∧ i ≤ B.length ∧ inp = B.cps.toList.drop i
set_option maxHeartbeats 800000 in
theorem read_lex {st sd : Addr} {B : Str} {cn : Str} {sc : Scope} {fa : Addr} {cd : Value} (hk : sc.kind = .function) (hfx : (Str.ofString "instream", Value.ref st) ∈ fx) (hB : B.length ≤ 100000) (h1 : @Ne Nat st sd) (h2 : @Ne Nat x st) (h3 : @Ne Nat x sd) (h4 : @Ne Nat dx st) (h5 : @Ne Nat dx sd)
    (X : (Mine.hd.heap_39 w.params).In h₀) (T : TopRead p loose mg mb h₀) (hroom : A.depth + 30 < recursionLimit) {σ : MS} {s : Shared} {e : Expr} {Q : Value → Shared → Prop} {E : Value → Shared → Prop}
    (he : isRead sc e = true) (O : Ok h₀ L x dx 776 lexNames fx D (RL st sd B) σ s.heap)
    (h : ∀ h' tk t, Ok h₀ L x dx 776 lexNames fx D (RL st sd B) { σ with inp := σ.inp.tail } h' → Q (.str (headS σ.inp) t) { s with heap := h', toks := tk }) :
    wpAny (model prog w) A (eval e (envOf cn sc L fa cd)) Q E s := by
  obtain ⟨m, es, n, rest, F, N, ⟨g1, g2, g3, t1, t2, t3, u1, u2, u3, i, hrest, hi, hinp⟩, LO, AO, hl, hs⟩ := O.ex
  subst hrest
  obtain ⟨p1, p2, b, k, p4, p5, rfl, hy, hp⟩ := isRead_inv he
  have I := InstAt.of_news N (List.Mem.head _) (List.Mem.tail _ (List.Mem.head _))
  have I' := InstAt.of_news N (List.Mem.tail _ (List.Mem.tail _ (List.Mem.head _))) (List.Mem.tail _ (List.Mem.tail _ (List.Mem.tail _ (List.Mem.head _))))
  obtain ⟨_, f2, f3⟩ := AO.stays _ hfx
  refine MethodCall_ (Attribute_name (nameX_L (cl := []) F hs ?_ hk hy (by decide))) (method_eq hp rfl (by rfl))
  refine get_own F X I (stat_lex w).pg (stat_lex w).hd ((stat_lex w).no _ f2) (by rfl) f3 rfl ?_
  refine' method_inst F X I' ?k1 ?k2 ?k3 ?k4 ?_
  case k1 => k_is
  case k2 => k_is
  case k3 => k_is
  case k4 => k_get
  refine callWith_K X (by k_is) (spliced_more (wpAny_Constant_int (spliced_none ⟨X.keeps F.keep, ?_⟩)) rfl) rfl rfl
  refine read_c (rest := [(x, instObj 776 dx), (dx, dictOf es n)]) (s := { s with toks := s.toks + 1 + 1 }) F (fun q hq => N q (List.mem_cons_of_mem _ (List.mem_cons_of_mem _ hq))) (fun q hq => N q ?_) ?_ h1 X T (by omega) hi hB fun h' tk u t' j hj F' N₁ N₂ => ?_
  · rcases List.mem_cons.mp hq with rfl | hq
    · exact List.Mem.head _
    · rw [List.mem_singleton.mp hq]; exact List.Mem.tail _ (List.Mem.head _)
  · intro q hq
    simp only [List.map_cons, List.map_nil, List.mem_cons, List.not_mem_nil, or_false] at hq ⊢
    rcases hq with rfl | rfl
    · exact fun e => e.elim h2 h3
    · exact fun e => e.elim h4 h5
  · have e : headS σ.inp = headS (B.cps.toList.drop i) := by rw [hinp]
    rw [← e]
    refine h h' tk t' ⟨m, es, n, _, F', fun q hq => ?_, ⟨g1, g2, g3, t1, t2, t3, u1, u2, u, j, rfl, by omega, ?_⟩, LO, AO, hl, hs⟩
    · rcases List.mem_cons.mp hq with rfl | hq
      · exact N₂ _ (List.Mem.head _)
      · rcases List.mem_cons.mp hq with rfl | hq
        · exact N₂ _ (List.Mem.tail _ (List.Mem.head _))
        · exact N₁ q hq
    · show σ.inp.tail = _
      rw [hinp, List.tail_drop]
      by_cases hlt : i < B.length
      · rw [show j = i + 1 by omega]
      · rw [List.drop_eq_nil_of_le (by simp [Str.length] at *; omega), List.drop_eq_nil_of_le (by simp [Str.length] at *; omega)]
end
end Mine
end
section
open PySem PySem.W PyProof.Rows PySem.Calls
set_option maxRecDepth 100000
namespace Mine
theorem slot_deque_len : Slot "collections.deque" "__len__" "collections.deque.__len__" :=
  .of (owner := "collections.deque") (n := "__len__") (by rw [typeLookup_type, builtinLookup_eq_fast]; kernel_rfl) (by decide +kernel) (by decide +kernel) (by decide +kernel)
    (by first | exact .inl (by decide +kernel) | exact .inr (by decide +kernel)) (by rw [isSubtype_type]; kernel_rfl)
theorem entry_deque_len : entryFor table "collections.deque.__len__" = some Builtin.«collections.deque.__len__» := entryFor_of_tree (by kernel_rfl)
theorem args_deque_len (a : Value) : argsOk "collections.deque.__len__" ⟨[a], []⟩ := by unfold argsOk; kernel_rfl
theorem noBool_deque : typeLookup (.type "collections.deque") "__bool__" = pure none := by rw [typeLookup_type, builtinLookup_eq_fast]; kernel_rfl
/-- an empty deque -/
noncomputable def dqObj (n : Int) : Obj := { cls := .type "collections.deque", data := .fields #[.none, .int n 0] }
noncomputable def IsDq (h : Heap) (a : Addr) : Prop := ∃ n, h.get? a = some (dqObj n)
section
variable {prog : Program} {w : World} {A : Around} {E : Value → Shared → Prop} {s : Shared}
theorem len_body_dq {l : Addr} {Q : Value → Shared → Prop} (hl : IsDq s.heap l)
    (h : Q (.int 0 (s.toks + 1)) { s with toks := s.toks + 1 + 1 }) : wpAny (model prog w) A (Builtin.«len» ⟨[.ref l], []⟩) (fun fin s' => ∃ r, fin = .done (.ret r) ∧ Q r s') E s := by
  obtain ⟨n, ho⟩ := hl
  have hT : s.TypeIs (.ref l) "collections.deque" := ⟨_, ho, rfl⟩
  unfold Builtin.«len»
  refine wpAny_bind (m := oneArg "len" _) (wpAny_pure ?_)
  refine wpAny_bind (m := callSpecial? (.ref l) (Str.ofString "__len__")) (wpAny_callSpecial?_slot (name := Str.ofString "__len__") hT slot_deque_len
    (wpAny_call_entry slot_deque_len hT entry_deque_len ?_ (args_deque_len _)))
  · show wpAny _ _ (do retInt (← Builtin.Deque.size (.ref l))) _ _ s
    unfold Builtin.Deque.size
    refine wpAny_bind (wpAny_bind (wpAny_fieldsOf ho rfl ?_))
    refine wpAny_pure (wpAny_bind (wpAny_mkInt (wpAny_pure ⟨_, rfl, ?_⟩)))
    refine wpAny_bind (wpAny_holding (wpAny_pure ?_))
    refine wpAny_bind (wpAny_letGo ?_)
    exact wpAny_bind (wpAny_mkInt (wpAny_pure ⟨_, rfl, h⟩))
theorem truthy_dq {l : Addr} {Q : Bool → Shared → Prop} (hl : IsDq s.heap l) (h : Q false { s with toks := s.toks + 1 + 1 }) : wpAny (model prog w) A (truthy (.ref l)) Q E s := by
  have hT : s.TypeIs (.ref l) "collections.deque" := by obtain ⟨n, ho⟩ := hl; exact ⟨_, ho, rfl⟩
  have key : wpAny (model prog w) A (runValue (.builtin "len" ⟨[.ref l], []⟩)) (fun r s' => r = .int 0 (s.toks + 1) ∧ Q false s') E s := by
    refine wpAny_runValue (codeAny_builtin entry_len ?_)
    rw [Around.under_plainId plain_len _]
    exact wpAny_mono (len_body_dq (Q := fun r s' => r = .int 0 (s.toks + 1) ∧ Q false s') hl ⟨rfl, h⟩)
      (fun fin s' h' => by obtain ⟨r, rfl, hq⟩ := h'; exact hq) fun _ _ e => e
  unfold truthy
  first
    | refine wpAny_bind (wpAny_callSpecial?_none (name := Str.ofString "__bool__") hT noBool_deque ?_)
    | refine wpAny_bind (wpAny_pure (wpAny_bind (wpAny_callSpecial?_none (name := Str.ofString "__bool__") hT noBool_deque ?_)))
  first
    | refine wpAny_bind (wpAny_specialOf (name := Str.ofString "__len__") hT slot_deque_len.lookup ?_)
    | refine wpAny_bind (wpAny_pure (wpAny_bind (wpAny_specialOf (name := Str.ofString "__len__") hT slot_deque_len.lookup ?_)))
  first
    | exact wpAny_bind (wpAny_mono key (fun r s' h' => by obtain ⟨rfl, hq⟩ := h'; exact wpAny_pure hq) fun _ _ e => e)
    | exact wpAny_bind (wpAny_pure (wpAny_bind (wpAny_mono key (fun r s' h' => by obtain ⟨rfl, hq⟩ := h'; exact wpAny_pure hq) fun _ _ e => e)))
end
end Mine
end
section
open PySem PySem.W PyProof.Rows PySem.Calls
set_option maxRecDepth 100000
namespace Mine
noncomputable def fxL (st : Addr) : List (Str × Value) := [(Str.ofString "instream", .ref st)]
/-- the two deques of a shlex object -/
noncomputable def Dp (pb fs a : Addr) : Prop := a = pb ∨ a = fs
/-- the shlex object and its stream, between two calls -/
noncomputable def LexAt (h₀ : Heap) (L x dx st sd pb fs : Addr) (B : Str) (l : Lx) (h : Heap) : Prop :=
  ∃ es n rest, News h₀ L h ((x, instObj 776 dx) :: (dx, dictOf es n) :: rest) ∧ RL st sd B l.inp rest ∧ AttrOK lexNames (fxL st) (Dp pb fs) (lxAv st pb fs l) es ∧ es.length ≤ 1000
structure Dis (x dx st sd : Addr) : Prop where
  h0 : @Ne Nat x dx
  h1 : @Ne Nat st sd
  h2 : @Ne Nat x st
  h3 : @Ne Nat x sd
  h4 : @Ne Nat dx st
  h5 : @Ne Nat dx sd
theorem RL.off {st sd x dx : Addr} {B : Str} (d : Dis x dx st sd) {i : List Nat} {rest : List (Addr × Obj)} (h : RL st sd B i rest) : ∀ p ∈ rest, p.1 ≠ dx := by
  obtain ⟨g1, g2, g3, t1, t2, t3, u1, u2, u3, k, rfl, _⟩ := h
  intro p hp
  rcases List.mem_cons.mp hp with rfl | hp
  · exact Ne.symm d.h4
  · rw [List.mem_singleton.mp hp]; exact Ne.symm d.h5
theorem RL.len {st sd : Addr} {B : Str} {i : List Nat} {rest : List (Addr × Obj)} (h : RL st sd B i rest) : i.length ≤ B.length := by
  obtain ⟨g1, g2, g3, t1, t2, t3, u1, u2, u3, k, rfl, hk, rfl⟩ := h
  simp [Str.length]
section
variable {prog : Program} {w : World} {A : Around} {x dx st sd pb fs L : Addr} {h₀ : Heap} {B : Str} {p : Program} {loose : List Str} {mg mb : Str → Option Value} {s : Shared} {m : Str → Option Value}
theorem IsDq.mono {h h' : Heap} {a : Addr} (k : h.StaysIn h') (q : IsDq h a) : IsDq h' a := by
  obtain ⟨n, e⟩ := q
  exact ⟨n, k _ _ e⟩
theorem deq_lex {fx : List (Str × Value)} {R : List Nat → List (Addr × Obj) → Prop} {names : List Str} {C : Addr} (hpb : IsDq h₀ pb) (hfs : IsDq h₀ fs) {σ : MS} {s : Shared} {a : Addr} {Q : Bool → Shared → Prop} {E : Value → Shared → Prop} (hd : Dp pb fs a) (O : Ok h₀ L x dx C names fx (Dp pb fs) R σ s.heap) (h : ∀ tk, Q false { s with toks := tk }) :
    wpAny (model prog w) A (truthy (.ref a)) Q E s := by
  obtain ⟨m, es, n, rest, F, _⟩ := O.ex
  refine truthy_dq ?_ (h _)
  rcases hd with rfl | rfl
  · exact hpb.mono F.keep
  · exact hfs.mono F.keep
theorem asks_read {cn : Str} {fa : Addr} {cd : Value} (d : Dis x dx st sd) (hB : B.length ≤ 100000) (hpb : IsDq h₀ pb) (hfs : IsDq h₀ fs) (X : (Mine.hd.heap_39 w.params).In h₀) (T : TopRead p loose mg mb h₀) (hroom : A.depth + 30 < recursionLimit) :
    Asks prog w A h₀ L x dx 776 lexNames (fxL st) (Dp pb fs) (RL st sd B) (envOf cn rtFn.2 L fa cd) (orcR rtFn.2) where
  prop := fun O hv h => prop_lex X T hroom O hv h
  ask := fun {σ σ'} {s} {e} {v} {Q} {E} ho O h => by
    unfold orcR at ho
    split at ho
    case h_2 => cases ho
    rename_i he
    cases ho
    exact read_lex rt_kind (List.Mem.head _) hB d.h1 d.h2 d.h3 d.h4 d.h5 X T hroom he O fun h' tk t O' => h h' tk t O'
  swaps := fun {σ} {e} {r} {t} {l} ho => by
    unfold orcR at ho
    split at ho
    case h_2 => cases ho
    rename_i he
    cases e <;> first | rfl | (cases he; done)
  deq := fun hd O h => deq_lex hpb hfs hd O h
set_option maxHeartbeats 800000 in
theorem call_read {l l' : Lx} {v : AV} {Q : Value → Shared → Prop} {E : Value → Shared → Prop} (d : Dis x dx st sd) (hB : B.length ≤ 100000) (hpb : IsDq h₀ pb) (hfs : IsDq h₀ fs) (X : (Mine.hd.heap_39 w.params).In h₀) (T : TopRead p loose mg mb h₀) (hroom : A.depth + 40 < recursionLimit)
    (F : Fr h₀ L s.heap m) (O : LexAt h₀ L x dx st sd pb fs B l s.heap) (hs : readTok l = some (v, l')) (h : ∀ h' tk t, Fr h₀ L h' m → LexAt h₀ L x dx st sd pb fs B l' h' → Q (v.enc t) { s with heap := h', toks := tk }) :
    wpAny (model prog w) A (call (.ref 744) [.ref x]) Q E s := by
  obtain ⟨es, n, rest, N, hR, AO, hl⟩ := O
  have hr' : A.depth < recursionLimit := by omega
  refine' callHS (rest := []) F N News.nil (List.forall_mem_nil _) X T ?k1 ?k2 hr' ?k3 ?k4 ?k5 ?_ ?c1 ?c2 ?c3
  case k1 => k_is
  case k2 => k_is
  case k3 => exact BindsTo.of_eq rfl
  case k4 => exact locs rfl
  case k5 => decide
  case c1 => exact rfl
  case c2 => exact rfl
  case c3 => exact rfl
  intro g L' h₁ st' F₁ N₁ X₁ T₁
  refine body_swap (b' := rtFn.1) (sc' := rtFn.2) (by kernel_rfl) (by kernel_rfl) ?_
  have hlen := hR.len
  refine rt_body (st := st) (pb := pb) (fs := fs) (l := l) (l' := l') (v := v) X₁ (stat_lex w) (asks_read d hB (hpb.mono st') (hfs.mono st') X₁ T₁ (by simp only [depth_deeper]; omega)) d.h0 (fun _ _ q => q.off d)
    ⟨_, es, n, rest, F₁, N₁, hR, ?_, AO, hl, rfl⟩ hs (by rw [sizeLine_eq]; omega) fun h' tk t O' => ?_
  · intro y u hy
    unfold lvSelf at hy
    rw [List.lookup_cons] at hy
    split at hy
    · rename_i hb
      cases hy
      refine ⟨0, ?_⟩
      show List.lookup y [(Str.ofString "self", Value.ref x)] = _
      rw [List.lookup_cons, hb]
      rfl
    · cases hy
  · obtain ⟨m', es', n', rest', F', N', hR', _, AO', hl', _⟩ := O'.ex
    refine leaveH_ F' N' fun F₂ N₂ => ?_
    rw [List.append_nil] at N₂
    exact h h' tk t F₂ ⟨es', n', rest', N₂, hR', AO', hl'⟩
end
end Mine
end
section
open PySem PySem.W PyProof.Rows PySem.Calls
set_option maxRecDepth 100000
namespace Mine
noncomputable def gtFn : List Stmt × Scope := defIn (clsBody "shlex") "get_token"
noncomputable def orcN (_ : Expr) (_ : MS) : Option (AV × MS) := none
noncomputable def rawAt : List Stmt → Pos × Pos × Pos × Pos × Pos
  | .Assign [.Name _ p1] (.Call (.Attribute (.Name _ p2) _ p3) [] [] p4) p5 :: _ => (p1, p2, p3, p4, p5)
  | _ :: r => rawAt r
  | [] => default
theorem gt_split : gtFn.1 = gtFn.1.take 1 ++ (.Assign [.Name (Str.ofString "raw") (rawAt gtFn.1).1] (.Call (.Attribute (.Name (Str.ofString "self") (rawAt gtFn.1).2.1) (Str.ofString "read_token") (rawAt gtFn.1).2.2.1) [] [] (rawAt gtFn.1).2.2.2.1) (rawAt gtFn.1).2.2.2.2 :: gtFn.1.drop 2) := by kernel_rfl
theorem gt_line : (rawAt gtFn.1).2.2.1.endLine = (rawAt gtFn.1).2.2.2.1.line := by kernel_rfl
theorem gt_kind : gtFn.2.kind = .function := by kernel_rfl
theorem gt_self : gtFn.2.names.lookup (Str.ofString "self") = some .local := by kernel_rfl
theorem gt_raw : gtFn.2.names.lookup (Str.ofString "raw") = some .local := by kernel_rfl
noncomputable def lvRaw (x : Addr) (v : AV) : AEnv := [(Str.ofString "self", .ref x), (Str.ofString "raw", v)]
section
variable (x st pb fs : Addr) (r : List Nat) (t : Str) (sv : AV)
theorem gt_pre : run gtFn.2 orcN 60 ⟨lvSelf x, av0 st pb fs sv e0, r⟩ (gtFn.1.take 1) = some ((.next, ⟨lvSelf x, av0 st pb fs sv e0, r⟩), []) := by kernel_rfl
theorem gt_none : run gtFn.2 orcN 60 ⟨lvRaw x .none, av0 st pb fs sv e0, r⟩ (gtFn.1.drop 2) = some ((.ret .none, ⟨lvRaw x .none, av0 st pb fs sv e0, r⟩), []) := by kernel_rfl
theorem gt_str : run gtFn.2 orcN 60 ⟨lvRaw x (.str t), av0 st pb fs sv e0, r⟩ (gtFn.1.drop 2) = some ((.ret (.str t), ⟨lvRaw x (.str t), av0 st pb fs sv e0, r⟩), []) := by kernel_rfl
end
theorem noName_lex : Str.ofString "read_token" ∉ lexNames ∧ Str.ofString "get_token" ∉ lexNames := by decide +kernel
section
variable {prog : Program} {w : World} {A : Around} {x dx st sd pb fs L : Addr} {h₀ : Heap} {B : Str} {p : Program} {loose : List Str} {mg mb : Str → Option Value} {s : Shared} {m : Str → Option Value}
theorem asks_none {env : Env} (hpb : IsDq h₀ pb) (hfs : IsDq h₀ fs) (X : (Mine.hd.heap_39 w.params).In h₀) (T : TopRead p loose mg mb h₀) (hroom : A.depth + 30 < recursionLimit) :
    Asks prog w A h₀ L x dx 776 lexNames (fxL st) (Dp pb fs) (RL st sd B) env orcN where
  prop := fun O hv h => prop_lex X T hroom O hv h
  ask := fun ho _ _ => nomatch ho
  swaps := fun ho => nomatch ho
  deq := fun hd O h => deq_lex hpb hfs hd O h
theorem locSelf (x : Addr) : LocOK (lvSelf x) (fun y => ([(Str.ofString "self", Value.ref x)] : List (Str × Value)).reverse.lookup y) := by
  intro y u hy
  unfold lvSelf at hy
  rw [List.lookup_cons] at hy
  split at hy
  · rename_i hb
    cases hy
    refine ⟨0, ?_⟩
    show List.lookup y [(Str.ofString "self", Value.ref x)] = _
    rw [List.lookup_cons, hb]
    rfl
  · cases hy
theorem setRaw (x : Addr) (v : AV) : setL (Str.ofString "raw") v (lvSelf x) = lvRaw x v := rfl
theorem tok_cases {l l' : Lx} {v : AV} (h : readTok l = some (v, l')) : v = .none ∨ ∃ t, v = .str t := by
  unfold readTok at h
  split at h
  · split at h
    · cases h; exact .inl rfl
    · cases h
  · obtain ⟨r, _, e⟩ := Option.map_eq_some_iff.mp h
    cases e
    unfold tokOf
    split
    · exact .inl rfl
    · exact .inr ⟨_, rfl⟩
set_option maxHeartbeats 800000 in
theorem call_token {l l' : Lx} {v : AV} {Q : Value → Shared → Prop} {E : Value → Shared → Prop} (d : Dis x dx st sd) (hB : B.length ≤ 100000) (hpb : IsDq h₀ pb) (hfs : IsDq h₀ fs) (X : (Mine.hd.heap_39 w.params).In h₀) (T : TopRead p loose mg mb h₀) (hroom : A.depth + 50 < recursionLimit)
    (F : Fr h₀ L s.heap m) (O : LexAt h₀ L x dx st sd pb fs B l s.heap) (hs : readTok l = some (v, l')) (h : ∀ h' tk t, Fr h₀ L h' m → LexAt h₀ L x dx st sd pb fs B l' h' → Q (v.enc t) { s with heap := h', toks := tk }) :
    wpAny (model prog w) A (call (.ref 737) [.ref x]) Q E s := by
  obtain ⟨es, n, rest, N, hR, AO, hl⟩ := O
  have hr' : A.depth < recursionLimit := by omega
  refine' callHS (rest := []) F N News.nil (List.forall_mem_nil _) X T ?k1 ?k2 hr' ?k3 ?k4 ?k5 ?_ ?c1 ?c2 ?c3
  case k1 => k_is
  case k2 => k_is
  case k3 => exact BindsTo.of_eq rfl
  case k4 => exact locs rfl
  case k5 => decide
  case c1 => exact rfl
  case c2 => exact rfl
  case c3 => exact rfl
  intro g L' h₁ st' F₁ N₁ X₁ T₁
  refine body_swap (b' := gtFn.1) (sc' := gtFn.2) (by kernel_rfl) (by kernel_rfl) ?_
  have hro : ∀ env : Env, (A.deeper env).depth = A.depth + 1 := fun env => depth_deeper _ _
  have Z : ∀ env env' : Env, Asks prog w (A.deeper env') g L' x dx 776 lexNames (fxL st) (Dp pb fs) (RL st sd B) env orcN := fun env env' => asks_none (hpb.mono st') (hfs.mono st') X₁ T₁ (by rw [hro]; omega)
  have hoff : ∀ (i : List Nat) (rest : List (Addr × Obj)), RL st sd B i rest → ∀ p ∈ rest, p.1 ≠ dx := fun _ _ q => q.off d
  rw [gt_split]
  refine wp_execs_app ((run_ok X₁ (stat_lex w) gt_kind (Z _ _) d.h0 hoff 60).2 (σ := ⟨lvSelf x, lxAv st pb fs l, l.inp⟩) ⟨_, es, n, rest, F₁, N₁, hR, locSelf x, AO, hl, rfl⟩ (gt_pre x st pb fs l.inp _) (fun z hz => nomatch hz) fun h₂ tk₂ fl O₂ hf => ?_)
  cases hf
  obtain ⟨m₂, es₂, n₂, rest₂, F₂, N₂, hR₂, LO₂, AO₂, hl₂, hs₂⟩ := O₂.ex
  have I := InstAt.of_news N₂ (List.Mem.head _) (List.Mem.tail _ (List.Mem.head _))
  refine wpAny_execs_cons (wpAny_Assign_Name (MethodCall_ (nameX_L (cl := []) F₂ hs₂ ?_ gt_kind gt_self (by decide)) (method_eq gt_line rfl (by rfl))) rfl)
  refine' method_inst F₂ X₁ I ?k1 ?k2 ?k3 ?k4 ?_
  case k1 => k_is
  case k2 => k_is
  case k3 => k_is
  case k4 => exact getL_none AO₂.keys noName_lex.1
  refine callWith_K0 (K := Mine.hd.heap_39 w.params) (X₁.keeps F₂.keep) (by k_is) ?_
  refine call_read (s := { s with heap := h₂, toks := tk₂ }) d hB (hpb.mono st') (hfs.mono st') X₁ T₁ (by rw [hro]; omega) F₂ ⟨es₂, n₂, rest₂, N₂, hR₂, AO₂, hl₂⟩ hs fun h₃ tk₃ t₃ F₃ O₃ => ?_
  obtain ⟨es₃, n₃, rest₃, N₃, hR₃, AO₃, hl₃⟩ := O₃
  refine storeX_L (cl := []) F₃ N₃ (fun h₄ F₄ N₄ => ?_) gt_kind gt_raw
  have O₄ : Ok g L' x dx 776 lexNames (fxL st) (Dp pb fs) (RL st sd B) ⟨lvRaw x v, lxAv st pb fs l', l'.inp⟩ h₄ := by
    refine ⟨_, es₃, n₃, rest₃, F₄, N₄, hR₃, ?_, AO₃, hl₃, ?_⟩
    · have := LO₂.set (x := Str.ofString "raw") (v := v) (t := t₃)
      rwa [setRaw] at this
    · exact hs₂
  have e : ∃ σ', run gtFn.2 orcN 60 ⟨lvRaw x v, lxAv st pb fs l', l'.inp⟩ (gtFn.1.drop 2) = some ((.ret v, σ'), []) ∧ σ'.inp = l'.inp ∧ σ'.av = lxAv st pb fs l' := by
    rcases tok_cases hs with rfl | ⟨t, rfl⟩
    · exact ⟨_, gt_none x st pb fs l'.inp _, rfl, rfl⟩
    · exact ⟨_, gt_str x st pb fs l'.inp t _, rfl, rfl⟩
  obtain ⟨σ', e, ei, ea⟩ := e
  refine (run_ok X₁ (stat_lex w) gt_kind (Z _ _) d.h0 hoff 60).2 (s := { s with heap := h₄, toks := _ }) O₄ e (fun z hz => nomatch hz) fun h₅ tk₅ fl O₅ hf => ?_
  cases hf with
  | ret _ t =>
    obtain ⟨m', es', n', rest', F', N', hR', _, AO', hl', _⟩ := O₅.ex
    refine leaveH_ F' N' fun F₆ N₆ => ?_
    rw [List.append_nil] at N₆
    rw [ei] at hR'
    rw [ea] at AO'
    exact h h₅ tk₅ t F₆ ⟨es', n', rest', N₆, hR', AO', hl'⟩
end
end Mine
end
section
open PySem PySem.W PyProof.Rows PySem.Calls PySem.Spec
set_option maxRecDepth 100000
namespace Mine
abbrev ListObj (acc : Array Value) (c : Nat) : Obj := { cls := .type "list", dict := none, data := .seq acc c, slots := #[] }
/-- an iterator of an own class: how it gives its texts, and how it ends, with one frame below the present one -/
structure Iter (prog : Program) (w : World) (A : Around) (K : Frag) (g : Heap) (L : Addr) (m : Str → Option Value) (x Lo C : Addr) (as : List Addr) (I : List (Addr × Obj) → List Str → Prop) : Prop where
  addr : ∀ {own ts}, I own ts → own.map (·.1) = as
  inst : ∀ {own ts h}, I own ts → News g L h own → ∃ ox od, InstAt h x ox C od
  noLen : findIn K (.ref C) "__len__" = some none
  noHint : findIn K (.ref C) "__length_hint__" = some none
  iter : ∀ {s : Shared} {own ts} {Q : Value → Shared → Prop} {E : Value → Shared → Prop}, Fr g L s.heap m → I own ts → News g L s.heap own → (∀ h' tk, (∀ b o, s.heap.get? b = some o → h'.get? b = some o) → Q (.ref x) { s with heap := h', toks := tk }) → wpAny (model prog w) A (pyIter (.ref x)) Q E s
  next : ∀ {s : Shared} {oLo own ex t ts} {Q : Option Value → Shared → Prop} {E : Value → Shared → Prop}, Fr g L s.heap m → News g L s.heap ((Lo, oLo) :: (ex ++ own)) → (∀ q ∈ ex, q.1 ∉ as ∧ q.1 ≠ Lo) → (∃ es ep, oLo.data = .dict es ep) → I own (t :: ts) →
    (∀ h' tk own' t', Fr g L h' m → News g L h' ((Lo, oLo) :: (ex ++ own')) → I own' ts → Q (some (.str t t')) { s with heap := h', toks := tk }) → wpAny (model prog w) A (pyNext (.ref x)) Q E s
  stop : ∀ {s : Shared} {oLo own ex} {Q : Option Value → Shared → Prop} {E : Value → Shared → Prop}, Fr g L s.heap m → News g L s.heap ((Lo, oLo) :: (ex ++ own)) → (∀ q ∈ ex, q.1 ∉ as ∧ q.1 ≠ Lo) → (∃ es ep, oLo.data = .dict es ep) → I own [] →
    (∀ h' tk own' sl, Fr g L h' m → News g L h' ((Lo, { oLo with slots := sl }) :: (ex ++ own')) → own'.map (·.1) = as → Q none { s with heap := h', toks := tk }) → wpAny (model prog w) A (pyNext (.ref x)) Q E s
theorem strsAre_push {acc : Array Value} {xs : List Str} {y : Str} {t : Tok} (h : StrsAre acc.toList xs) : StrsAre (acc.push (.str y t)).toList (xs ++ [y]) := by
  rw [Array.toList_push]
  exact h.append' (.cons y t .nil)
section
variable {prog : Program} {w : World} {A : Around} {s : Shared} {K : Frag} {g : Heap} {L x Lo C S : Addr} {oLo : Obj} {m : Str → Option Value} {own ex : List (Addr × Obj)} {as : List Addr} {I : List (Addr × Obj) → List Str → Prop} {R : Result → Shared → Prop} {res : Value}
theorem upd_news {h h' : Heap} {pre post : List (Addr × Obj)} {o o' : Obj} (F : Fr g L h m) (N : News g L h (pre ++ (S, o) :: post)) (h1 : ∀ p ∈ pre, p.1 ≠ S) (h2 : ∀ p ∈ post, p.1 ≠ S) (hs : Heap.SameBut S h h') (ho : h'.get? S = some o') :
    Fr g L h' m ∧ News g L h' (pre ++ (S, o') :: post) := by
  have hS := N (S, o) (List.mem_append_right _ (List.Mem.head _))
  exact ⟨F.change hs hS.2.1 hS.2.2, News.setAt N h1 h2 hs ho⟩
theorem loop_own (It : Iter prog w A.in1 K g L m x Lo C as I) (hLo : Lo ∉ as) : ∀ (ts : List Str) {s : Shared} {acc : Array Value} {c : Nat} {done : List Str} {own : List (Addr × Obj)}, Fr g L s.heap m → News g L s.heap ((Lo, oLo) :: ((S, ListObj acc c) :: ex ++ own)) → (∀ q ∈ ((S, ListObj acc c) :: ex), q.1 ∉ as ∧ q.1 ≠ Lo) → (∀ q ∈ ex, q.1 ≠ S) → (∃ es ep, oLo.data = .dict es ep) → I own ts → StrsAre acc.toList done → done.length + ts.length ≤ 100000 →
    (∀ h' tk acc' c' own' sl, Fr g L h' m → News g L h' ((Lo, { oLo with slots := sl }) :: ((S, ListObj acc' c') :: ex ++ own')) → own'.map (·.1) = as → StrsAre acc'.toList (done ++ ts) → R (.ok (.ret res)) { s with heap := h', toks := tk }) →
    codeAny (model prog w) A (.builtin "list.extend.loop" ⟨[.ref S, .ref x, res], []⟩) R s
  | [], s, acc, c, done, own, F, N, hex, hS, hd, hI, hacc, hn, hR => by
    refine codeAny_builtin PySem.F.entry_extend_loop ?_
    rw [Around.under_plainId PySem.F.plain_extend_loop _]
    show wpAny _ A.in1 (pyNext (.ref x) >>= _) _ _ s
    refine wpAny_bind (It.stop F N hex hd hI fun h' tk own' sl F' N' hI' => ?_)
    exact wpAny_pure (hR h' tk acc c own' sl F' N' hI' (by rw [List.append_nil]; exact hacc))
  | t :: ts, s, acc, c, done, own, F, N, hex, hS, hd, hI, hacc, hn, hR => by
    refine codeAny_builtin PySem.F.entry_extend_loop ?_
    rw [Around.under_plainId PySem.F.plain_extend_loop _]
    show wpAny _ A.in1 (pyNext (.ref x) >>= _) _ _ s
    refine wpAny_bind (It.next F N hex hd hI fun h' tk own' t' F' N' hI' => ?_)
    show wpAny _ A.in1 (updateSeq S (·.push (.str t t')) >>= _) _ _ _
    have NS := N' (S, ListObj acc c) (List.mem_cons_of_mem _ (List.mem_append_left _ (List.Mem.head _)))
    have hlen := hacc.len_eq
    rw [Array.length_toList] at hlen
    simp only [List.length_cons] at hn
    refine wpAny_bind (wpAny_updateSeq NS.1 rfl ?_ (by rw [sizeLine_eq]; omega) (by show (acc.push (.str t t')).size ≤ _; rw [Array.size_push, sizeLine_eq]; omega))
    have hsame := Heap.SameBut.update h' S (Obj.mapSeq (·.push (.str t t')))
    have hget := Heap.get?_update_self (Obj.mapSeq (·.push (.str t t'))) NS.1 rfl
    have ha : own'.map (·.1) = as := It.addr hI'
    obtain ⟨F₂, N₂⟩ := upd_news (pre := [(Lo, oLo)]) (post := ex ++ own') F' N' (fun p hp => by rw [List.mem_singleton.mp hp]; exact fun e => (hex _ (List.Mem.head _)).2 e.symm) (fun p hp => by
      rcases List.mem_append.mp hp with hp | hp
      · exact hS p hp
      · intro e
        have := List.mem_map_of_mem (f := (·.1)) hp
        rw [ha, e] at this
        exact (hex _ (List.Mem.head _)).1 this) hsame hget
    refine wpAny_pure ⟨plainId_quiet PySem.F.plain_extend_loop _, loop_own It hLo ts (s := { s with heap := _, toks := tk }) (done := done ++ [t]) F₂ N₂ (fun q hq => ?_) hS hd hI' (strsAre_push hacc) (by simp only [List.length_append, List.length_cons, List.length_nil]; omega) fun h'' tk'' acc' c' own'' sl F'' N'' hI'' hs'' => ?_⟩
    · rcases List.mem_cons.mp hq with rfl | hq
      · exact hex (S, ListObj acc c) (List.Mem.head _)
      · exact hex q (List.mem_cons_of_mem _ hq)
    · exact hR h'' tk'' acc' c' own'' sl F'' N'' hI'' (by rw [List.append_assoc] at hs''; exact hs'')
end
section
variable {prog : Program} {w : World} {A : Around} {s : Shared} {K : Frag} {g : Heap} {L x Lo C : Addr} {oLo : Obj} {m : Str → Option Value} {own ex : List (Addr × Obj)} {as : List Addr} {I : List (Addr × Obj) → List Str → Prop} {ts : List Str} {Q : Value → Shared → Prop} {E : Value → Shared → Prop}
theorem list_own (It : Iter prog w A.in1.in1 K g L m x Lo C as I) (XK : K.In g) (F : Fr g L s.heap m) (N : News g L s.heap ((Lo, oLo) :: (ex ++ own))) (hex : ∀ q ∈ ex, q.1 ∉ as ∧ q.1 ≠ Lo) (hLo : Lo ∉ as) (hd : ∃ es ep, oLo.data = .dict es ep) (hI : I own ts) (hn : ts.length ≤ 100000)
    (h : ∀ S h' tk acc c own' sl, Fr g L h' m → News g L h' ((Lo, { oLo with slots := sl }) :: ((S, ListObj acc c) :: ex ++ own')) → own'.map (·.1) = as → StrsAre acc.toList ts → Q (.ref S) { s with heap := h', toks := tk }) :
    wpAny (model prog w) A (call (.type "list") [.ref x]) Q E s := by
  refine callType_codes (Q₁ := fun obj s₁ => obj = .ref s.heap.objs.size ∧ s₁ = { s with heap := s.heap.push { cls := .type "list", data := .seq #[] } }) PySem.F.called_list (PySem.F.typeCall_list_1 _) PySem.F.entry_list_init
    (code_list_new _ ⟨rfl, rfl⟩) fun obj s₁ h₁ => ?_
  obtain ⟨rfl, rfl⟩ := h₁
  have hlt : ∀ q ∈ ((Lo, oLo) :: (ex ++ own)), q.1 ≠ s.heap.objs.size := fun q hq => Nat.ne_of_lt (Heap.lt_size (N q hq).1)
  generalize hSdef : s.heap.objs.size = S at *
  have F₁ := F.push (m := m) { cls := .type "list", data := .seq #[] }
  have N₁ : News g L (s.heap.push { cls := .type "list", data := .seq #[] }) ((S, ListObj #[] 0) :: (Lo, oLo) :: (ex ++ own)) := by
    have := N.push F { cls := .type "list", data := .seq #[] }
    rwa [hSdef] at this
  have N₂ : News g L (s.heap.push { cls := .type "list", data := .seq #[] }) ([(Lo, oLo)] ++ (S, ListObj #[] 0) :: (ex ++ own)) := fun q hq => N₁ q (by
    rcases List.mem_append.mp hq with hq | hq
    · rw [List.mem_singleton.mp hq]; exact List.mem_cons_of_mem _ (List.Mem.head _)
    · rcases List.mem_cons.mp hq with rfl | hq
      · exact List.Mem.head _
      · exact List.mem_cons_of_mem _ (List.mem_cons_of_mem _ hq))
  have hpre : ∀ p ∈ [(Lo, oLo)], p.1 ≠ S := fun p hp => hlt p (by rw [List.mem_singleton.mp hp]; exact List.Mem.head _)
  have hpost : ∀ p ∈ ex ++ own, p.1 ≠ S := fun p hp => hlt p (List.mem_cons_of_mem _ hp)
  have hS : (s.heap.push { cls := .type "list", data := .seq #[] }).get? S = some { cls := .type "list", data := .seq #[] } := (N₁ _ (List.Mem.head _)).1
  refine ⟨⟨_, hS, rfl⟩, PySem.F.args_list_init_2 _ _, ?_⟩
  show wpAny _ A.in1.in1 (do let old ← Builtin.List.listItems (.ref S); Builtin.List.listUpdate (.ref S) (fun _ => #[]); letGo old.toList.reverse; Builtin.List.listExtendWith (.ref S) (.ref x) .none) _ _ _
  refine wpAny_bind ?_
  unfold Builtin.List.listItems
  refine wpAny_bind (wpAny_seqItems hS rfl (wpAny_pure ?_))
  show wpAny _ _ (updateSeq S (fun _ => #[]) >>= fun _ => letGo (#[] : Array Value).toList.reverse >>= fun _ => Builtin.List.listExtendWith (.ref S) (.ref x) .none) _ _ _
  refine wpAny_bind (wpAny_updateSeq hS rfl ?_)
  obtain ⟨F₃, N₃⟩ := upd_news F₁ N₂ hpre hpost (Heap.SameBut.update _ S (Obj.mapSeq (fun _ => (#[] : Array Value)))) (Heap.get?_update_self (Obj.mapSeq (fun _ => (#[] : Array Value))) hS rfl)
  refine wpAny_bind (wpAny_letGo ?_)
  unfold Builtin.List.listExtendWith
  have own_of : ∀ {h : Heap} {o : Obj}, News g L h ([(Lo, oLo)] ++ (S, o) :: (ex ++ own)) → News g L h own := fun N q hq => N q (List.mem_append_right _ (List.mem_cons_of_mem _ (List.mem_append_right _ hq)))
  obtain ⟨ox, od, Ix⟩ := It.inst hI (own_of N₃)
  have hSx : S ≠ x := by
    intro e
    obtain ⟨ox', od', Ix'⟩ := It.inst hI (fun q hq => N q (List.mem_cons_of_mem _ (List.mem_append_right _ hq)))
    have := Heap.lt_size Ix'.at_
    rw [← e, ← hSdef] at this
    exact Nat.lt_irrefl _ this
  refine wpAny_bind (Ix.type.here ?_)
  have h1 : Builtin.List.listSameRef (.ref S) (.ref x) = false := by simp [Builtin.List.listSameRef, hSx]
  have h2 : (Value.ref C == Value.type "list") = false := rfl
  have h3 : (Value.ref C == Value.type "tuple") = false := rfl
  simp only [h1, h2, h3, Bool.or_false, Bool.false_eq_true, if_false]
  refine wpAny_bind (It.iter F₃ hI (own_of N₃) fun h₄ tk₄ k₄ => ?_)
  have F₄ := F₃.keeps k₄
  have N₄ := News.grown N₃ k₄
  obtain ⟨ox, od, Ix⟩ := It.inst hI (own_of N₄)
  refine wpAny_bind (wpAny_holding ?_)
  unfold Builtin.List.listLengthHint
  refine wpAny_bind ?_
  unfold specialOf
  refine wpAny_bind (Ix.type.here ((looks_findIn (XK.keeps F₄.keep) It.noLen).here ?_))
  show wpAny _ _ (specialOf (.ref x) (Str.ofString "__length_hint__") >>= _) _ _ _
  unfold specialOf
  refine wpAny_bind (wpAny_bind (Ix.type.here ((looks_findIn (XK.keeps F₄.keep) It.noHint).here ?_)))
  refine wpAny_pure ?_
  show wpAny _ _ (rule "list.extend.makes-room" >>= fun _ => Builtin.List.listTouch (.ref S) >>= fun _ =>
    again (.builtin "list.extend.loop" ⟨[.ref S, .ref x, .none], []⟩)) _ _ _
  refine wpAny_bind (wpAny_rule ?_)
  refine wpAny_bind ?_
  show wpAny _ _ (updateSeq S (·.push .none) >>= fun _ => updateSeq S (·.pop)) _ _ _
  have NS₄ := (N₄ _ (List.mem_append_right _ (List.Mem.head _))).1
  refine wpAny_bind (wpAny_updateSeq NS₄ rfl ?_)
  obtain ⟨F₅, N₅⟩ := upd_news F₄ N₄ hpre hpost (Heap.SameBut.update _ S (Obj.mapSeq (·.push Value.none))) (Heap.get?_update_self (Obj.mapSeq (·.push Value.none)) NS₄ rfl)
  have NS₅ := (N₅ _ (List.mem_append_right _ (List.Mem.head _))).1
  refine wpAny_updateSeq (hz := by seq_fits) NS₅ rfl ?_
  obtain ⟨F₆, N₆⟩ := upd_news F₅ N₅ hpre hpost (Heap.SameBut.update _ S (Obj.mapSeq (·.pop))) (Heap.get?_update_self (Obj.mapSeq (·.pop)) NS₅ rfl)
  refine wpAny_pure ⟨plainId_quiet PySem.F.plain_extend_loop _, loop_own It hLo ts (s := { s with heap := _, toks := tk₄ }) (done := []) F₆ N₆ (fun q hq => ?_) (fun q hq => hpost q (List.mem_append_left _ hq)) hd hI .nil (by simpa using hn) fun h' tk acc c own' sl F' N' hI' hs' => ?_⟩
  · rcases List.mem_cons.mp hq with rfl | hq
    · refine ⟨fun e => ?_, fun e => hpre _ (List.mem_singleton.mpr rfl) e.symm⟩
      rw [← It.addr hI] at e
      obtain ⟨r, hr, er⟩ := List.mem_map.mp e
      exact hpost r (List.mem_append_right _ hr) er
    · exact hex q hq
  · exact ⟨rfl, h S h' tk acc c own' sl F' N' hI' hs'⟩
end
end Mine
end
section
open PySem PySem.W PyProof.Rows PySem.Calls PySem.Spec
namespace Mine
section
variable {prog : Program} {w : World} {A : Around} {s : Shared} {K : Frag} {Q : Value → Shared → Prop} {E : Value → Shared → Prop} {name qual : Str} {params : Arguments} {body : List Stmt} {scope : Scope} {dV kV doc pm cdv ct oc : Value} {an od : Option Addr} {osl : Array (Option Value)} {f : Addr} {pos : List Value} {kw : List (Str × Value)} {binds : List (Str × Value)}
  {h₀ : Heap} {L : Addr} {m : Str → Option Value} {own : List (Addr × Obj)} {p : Program} {loose : List Str} {mg mb : Str → Option Value}
/-- the end of a callee under which an exception was caught: the caller's frame has other slots -/
noncomputable def LeaveL (h₀ : Heap) (L : Addr) (m : Str → Option Value) (own : List (Addr × Obj)) (g : Heap) (oL : Obj) (Q : Value → Shared → Prop) (fl : Flow) (s' : Shared) : Prop :=
  ∃ S sobj L' m' sl, Fr g L' s'.heap m' ∧ News g L' s'.heap [(L, { oL with slots := sl }), (S, sobj)] ∧ (∀ es ep, sobj.data ≠ .dict es ep) ∧
    (Fr h₀ L s'.heap m → News h₀ L s'.heap ((S, sobj) :: own) → (∀ q ∈ own, q.1 ≠ S) → Q (match fl with | .ret v => v | _ => .none) s')
/-- a call whose callee's base has not the caller's own frame, so that an exception may be caught there -/
theorem callHL (F : Fr h₀ L s.heap m) (N : News h₀ L s.heap own) (X : K.In h₀) (T : TopRead p loose mg mb h₀)
    (ho : K.lookup f = some ⟨oc, od, .func (fnOf name qual params body scope dV kV doc pm an cdv ct), osl⟩) (hcd : codeIn K cdv qual = true) (hroom : A.depth < recursionLimit)
    (hbind : BindsTo s (fnOf name qual params body scope dV kV doc pm an cdv ct) ⟨pos, kw⟩ binds) (hloc : ∀ y ∈ binds, scope.names.lookup y.1 = some .local) (hcell : ∀ x ∈ scope.names, x.2 ≠ .cell)
    (h : ∀ g oL L' h₁, (∃ es ep, oL.data = .dict es ep) → Fr g L' h₁ (fun y => binds.reverse.lookup y) → News g L' h₁ [(L, oL)] → (∀ q ∈ own, g.get? q.1 = some q.2) → K.In g → TopRead p loose mg mb g →
      wpAny (model prog w) (A.deeper (envOf qual scope L' f cdv)) (execs body (envOf qual scope L' f cdv)) (LeaveL h₀ L m own g oL Q) (fun _ _ => False) { s with heap := h₁, toks := s.toks + binds.length })
    (hco : scope.isCoroutine = false := by rfl) (hgen : scope.isGenerator = false := by rfl) (hk : scope.kind = .function := by rfl) :
    wpAny (model prog w) A (call (.ref f) pos kw) Q E s := by
  have gL : h₀.get? L = none := by
    cases q : h₀.get? L with
    | none => rfl
    | some o => exact absurd (Nat.lt_of_lt_of_le (Heap.lt_size q) F.above) (Nat.lt_irrefl _)
  have st : h₀.StaysIn (hideAll s.heap [L]) := fun b o e => hideAll_get _ (F.keep b o e) (fun hm => by rw [List.mem_singleton.mp hm, gL] at e; cases e)
  obtain ⟨oL, es, ep, hL, hLd, hLk, hLf⟩ := F.ns
  refine wpAny_call (codeAny_call_def (fd := fnOf name qual params body scope dV kV doc pm an cdv ct) (body := body) (binds := binds) hroom ((X.keeps F.keep) _ _ ho) rfl (T.nolimit.keeps F.keep) (codeRec_of (X.keeps F.keep) hcd) rfl hbind hcell hloc (fun h₁ hns hk₁ => ?_) hco hgen hk)
  refine wpAny_mono (h (hideAll s.heap [L]) oL s.heap.objs.size h₁ ⟨es, ep, hLd⟩ ⟨hns, fun b o e => hk₁ b o (of_hideAll _ e), Nat.le_of_eq (hideAll_size _ _)⟩
    (fun q hq => ?_) (fun q hq => hideAll_get _ (N q hq).1 (fun hm => (N q hq).2.1 (List.mem_singleton.mp hm))) (X.keeps st) (T.keeps st)) (fun fl s' hl => ?_) fun _ _ y => y.elim
  · rw [List.mem_singleton.mp hq]
    exact ⟨hk₁ _ _ hL, Nat.ne_of_lt (Heap.lt_size hL), hideAll_none _ (List.mem_singleton.mpr rfl)⟩
  · obtain ⟨S, sobj, L', m', sl, F', N', hsd, k⟩ := hl
    have hL' := (N' _ (List.Mem.head _)).1
    have NS := N' _ (List.Mem.tail _ (List.Mem.head _))
    have hSL : S ≠ L := fun e => by
      have h1 : s'.heap.get? S = some sobj := NS.1
      have h2 : s'.heap.get? L = some { oL with slots := sl } := hL'
      rw [e, h2] at h1
      have h3 : sobj = { oL with slots := sl } := (Option.some.inj h1).symm
      exact hsd es ep (by rw [h3]; exact hLd)
    have hSs : s.heap.get? S = none := by
      cases q : s.heap.get? S with
      | none => rfl
      | some o => have := NS.2.2; rw [hideAll_get [L] q (fun hm => hSL (List.mem_singleton.mp hm))] at this; cases this
    refine k ⟨⟨_, es, ep, hL', hLd, hLk, hLf⟩, fun b o e => F'.keep b o (st b o e), F.above⟩ (fun q hq => ?_) fun q hq e => ?_
    · rcases List.mem_cons.mp hq with rfl | hq
      · exact ⟨NS.1, hSL, by
          cases q : h₀.get? S with
          | none => rfl
          | some o => have := NS.2.2; rw [st _ _ q] at this; cases this⟩
      · exact ⟨F'.keep _ _ (hideAll_get _ (N q hq).1 fun hm => (N q hq).2.1 (List.mem_singleton.mp hm)), (N q hq).2⟩
    · have := (N q hq).1; rw [e, hSs] at this; cases this
end
end Mine
end
section
open PySem PySem.W PyProof.Rows PySem.Calls PySem.Spec
set_option maxRecDepth 100000
namespace Mine
noncomputable def nxFn : List Stmt × Scope := defIn (clsBody "shlex") "__next__"
noncomputable def nxAt : List Stmt → Pos × Pos × Pos × Pos × Pos × Expr × Pos × Pos × Pos
  | [.Assign [.Name _ p1] (.Call (.Attribute (.Name _ p2) _ p3) [] [] p4) p5, .If t [.Raise (some (.Name _ p6)) none p7] [] p8, _] => (p1, p2, p3, p4, p5, t, p6, p7, p8)
  | _ => default
theorem nx_split : nxFn.1 = (.Assign [.Name (Str.ofString "token") (nxAt nxFn.1).1] (.Call (.Attribute (.Name (Str.ofString "self") (nxAt nxFn.1).2.1) (Str.ofString "get_token") (nxAt nxFn.1).2.2.1) [] [] (nxAt nxFn.1).2.2.2.1) (nxAt nxFn.1).2.2.2.2.1 ::
    .If (nxAt nxFn.1).2.2.2.2.2.1 [.Raise (some (.Name ("StopIteration" : Str) (nxAt nxFn.1).2.2.2.2.2.2.1)) none (nxAt nxFn.1).2.2.2.2.2.2.2.1] [] (nxAt nxFn.1).2.2.2.2.2.2.2.2 :: nxFn.1.drop 2) := by kernel_rfl
theorem nx_line : (nxAt nxFn.1).2.2.1.endLine = (nxAt nxFn.1).2.2.2.1.line := by kernel_rfl
theorem nx_kind : nxFn.2.kind = .function := by kernel_rfl
theorem nx_self : nxFn.2.names.lookup (Str.ofString "self") = some .local := by kernel_rfl
theorem nx_tok : nxFn.2.names.lookup (Str.ofString "token") = some .local := by kernel_rfl
noncomputable def lvTok (x : Addr) (v : AV) : AEnv := [(Str.ofString "self", .ref x), (Str.ofString "token", v)]
section
variable (x st pb fs : Addr) (r : List Nat) (t : Str) (sv : AV)
theorem nx_none : tst nxFn.2 (lvTok x .none) (av0 st pb fs sv e0) 40 (nxAt nxFn.1).2.2.2.2.2.1 = some (true, []) := by kernel_rfl
theorem nx_str : tst nxFn.2 (lvTok x (.str t)) (av0 st pb fs sv e0) 40 (nxAt nxFn.1).2.2.2.2.2.1 = some (false, []) := by kernel_rfl
theorem nx_ret : run nxFn.2 orcN 60 ⟨lvTok x (.str t), av0 st pb fs sv e0, r⟩ (nxFn.1.drop 2) = some ((.ret (.str t), ⟨lvTok x (.str t), av0 st pb fs sv e0, r⟩), []) := by kernel_rfl
end
theorem setTok (x : Addr) (v : AV) : setL (Str.ofString "token") v (lvSelf x) = lvTok x v := rfl
section
variable {prog : Program} {w : World} {A : Around} {x dx st sd pb fs L : Addr} {h₀ : Heap} {B : Str} {p : Program} {loose : List Str} {mg mb : Str → Option Value} {s : Shared} {m : Str → Option Value}
theorem LexAt.of_ok {σ : MS} {h : Heap} {l : Lx} (O : Ok h₀ L x dx 776 lexNames (fxL st) (Dp pb fs) (RL st sd B) σ h) (ea : σ.av = lxAv st pb fs l) (ei : σ.inp = l.inp) : (∃ m, Fr h₀ L h m) ∧ LexAt h₀ L x dx st sd pb fs B l h := by
  obtain ⟨m, es, n, rest, F, N, hR, LO, AO, hl, hs⟩ := O.ex
  exact ⟨⟨m, F⟩, es, n, rest, N, ei ▸ hR, ea ▸ AO, hl⟩
set_option maxHeartbeats 800000 in
theorem nx_body {cn : Str} {fa : Addr} {cd : Value} {l l' : Lx} {v : AV} {Q : Flow → Shared → Prop} {E : Value → Shared → Prop} (d : Dis x dx st sd) (hB : B.length ≤ 100000) (hpb : IsDq h₀ pb) (hfs : IsDq h₀ fs) (X : (Mine.hd.heap_39 w.params).In h₀) (T : TopRead p loose mg mb h₀) (hroom : A.depth + 60 < recursionLimit) (hh : A.handled = none)
    (F : Fr h₀ L s.heap m) (hs_ : m "self" = some (.ref x)) (hlv : LocOK (lvSelf x) m) (O : LexAt h₀ L x dx st sd pb fs B l s.heap) (hs : readTok l = some (v, l'))
    (hQ : ∀ y, v = .str y → ∀ h' tk t m', Fr h₀ L h' m' → LexAt h₀ L x dx st sd pb fs B l' h' → Q (.ret (.str y t)) { s with heap := h', toks := tk })
    (hE : v = .none → ∀ h' h'' tk e m', Fr h₀ L h' m' → LexAt h₀ L x dx st sd pb fs B l' h' → Heap.MadeExc h' h'' e "StopIteration" [] → E (.ref e) { s with heap := h'', toks := tk }) :
    wpAny (model prog w) A (execs nxFn.1 (envOf cn nxFn.2 L fa cd)) Q E s := by
  obtain ⟨es, n, rest, N, hR, AO, hl⟩ := O
  have Z : Asks prog w A h₀ L x dx 776 lexNames (fxL st) (Dp pb fs) (RL st sd B) (envOf cn nxFn.2 L fa cd) orcN := asks_none hpb hfs X T (by omega)
  have hoff : ∀ (i : List Nat) (rest : List (Addr × Obj)), RL st sd B i rest → ∀ p ∈ rest, p.1 ≠ dx := fun _ _ q => q.off d
  have I := InstAt.of_news N (List.Mem.head _) (List.Mem.tail _ (List.Mem.head _))
  rw [nx_split]
  refine wpAny_execs_cons (wpAny_Assign_Name (MethodCall_ (nameX_L (cl := []) F hs_ ?_ nx_kind nx_self (by decide)) (method_eq nx_line rfl (by rfl))) rfl)
  refine' method_inst F X I ?k1 ?k2 ?k3 ?k4 ?_
  case k1 => k_is
  case k2 => k_is
  case k3 => k_is
  case k4 => exact getL_none AO.keys noName_lex.2
  refine callWith_K0 (K := Mine.hd.heap_39 w.params) (X.keeps F.keep) (by k_is) ?_
  refine call_token d hB hpb hfs X T (by omega) F ⟨es, n, rest, N, hR, AO, hl⟩ hs fun h₃ tk₃ t₃ F₃ O₃ => ?_
  obtain ⟨es₃, n₃, rest₃, N₃, hR₃, AO₃, hl₃⟩ := O₃
  refine storeX_L (cl := []) F₃ N₃ (fun h₄ F₄ N₄ => ?_) nx_kind nx_tok
  have O₄ : Ok h₀ L x dx 776 lexNames (fxL st) (Dp pb fs) (RL st sd B) ⟨lvTok x v, lxAv st pb fs l', l'.inp⟩ h₄ := by
    refine ⟨_, es₃, n₃, rest₃, F₄, N₄, hR₃, ?_, AO₃, hl₃, ?_⟩
    · have := hlv.set (x := Str.ofString "token") (v := v) (t := t₃)
      rwa [setTok] at this
    · exact hs_
  rcases tok_cases hs with rfl | ⟨y, rfl⟩
  · refine wpAny_execs_cons (wpAny_If (tst_ok (s := { s with heap := h₄, toks := _ }) X (stat_lex w) nx_kind Z 40 O₄ (nx_none x st pb fs _) (fun z hz => nomatch hz) fun h₅ tk₅ O₅ => ?_))
    rw [if_pos rfl]
    obtain ⟨⟨m₅, F₅⟩, L₅⟩ := LexAt.of_ok (l := l') O₅ rfl rfl
    refine wpAny_execs_cons (owsi_raiseC hh ?_ fun h' e hm => hE rfl h₅ h' _ e m₅ F₅ L₅ hm)
    refine' name_B F₅ X T ?k3 ?k4 ?k5 ⟨rfl, rfl⟩ ?k6 ?k7
    case k3 => k_is
    case k4 => boot_by_name
    case k5 => decide
    case k6 => exact nx_kind
    case k7 => kernel_rfl
  · refine wpAny_execs_cons (wpAny_If (tst_ok (s := { s with heap := h₄, toks := _ }) X (stat_lex w) nx_kind Z 40 O₄ (nx_str x st pb fs y _) (fun z hz => nomatch hz) fun h₅ tk₅ O₅ => ?_))
    rw [if_neg Bool.false_ne_true]
    refine wpAny_execs_nil ((run_ok X (stat_lex w) nx_kind Z d.h0 hoff 60).2 (s := { s with heap := h₅, toks := tk₅ }) O₅ (nx_ret x st pb fs l'.inp y _) (fun z hz => nomatch hz) fun h₆ tk₆ fl O₆ hf => ?_)
    cases hf with
    | ret _ t =>
      obtain ⟨⟨m₆, F₆⟩, L₆⟩ := LexAt.of_ok (l := l') O₆ rfl rfl
      exact hQ y rfl h₆ tk₆ t m₆ F₆ L₆
end
end Mine
end
section
open PySem PySem.W PyProof.Rows PySem.Calls PySem.Spec
set_option maxRecDepth 100000
namespace Mine
/-- the texts that the object will give, one after the other -/
inductive Toks : Lx → List Str → Prop
  | stop {l l' : Lx} : readTok l = some (.none, l') → Toks l []
  | more {l l' : Lx} {t : Str} {ts : List Str} : readTok l = some (.str t, l') → Toks l' ts → Toks l (t :: ts)
noncomputable def LexI (x dx st sd pb fs : Addr) (B : Str) (own : List (Addr × Obj)) (ts : List Str) : Prop :=
  ∃ l es n rest n1 n2, own = ((x, instObj 776 dx) :: (dx, dictOf es n) :: rest) ++ [(pb, dqObj n1), (fs, dqObj n2)] ∧ RL st sd B l.inp rest ∧ AttrOK lexNames (fxL st) (Dp pb fs) (lxAv st pb fs l) es ∧ es.length ≤ 1000 ∧ Toks l ts
theorem RL.addr {st sd : Addr} {B : Str} {i : List Nat} {rest : List (Addr × Obj)} (h : RL st sd B i rest) : rest.map (·.1) = [st, sd] := by
  obtain ⟨g1, g2, g3, t1, t2, t3, u1, u2, u3, k, rfl, _⟩ := h
  rfl
section
variable {prog : Program} {w : World} {A : Around} {x dx st sd pb fs L Lo : Addr} {g : Heap} {B : Str} {p : Program} {loose : List Str} {mg mb : Str → Option Value} {m : Str → Option Value} {env envo : Env}
set_option maxHeartbeats 800000 in
theorem lex_iter_call {s : Shared} {Q : Value → Shared → Prop} {E : Value → Shared → Prop} (X : (Mine.hd.heap_39 w.params).In s.heap) (T : TopRead p loose mg mb s.heap) (hroom : A.depth < recursionLimit)
    (h : ∀ h' tk, (∀ b o, s.heap.get? b = some o → h'.get? b = some o) → Q (.ref x) { s with heap := h', toks := tk }) : wpAny (model prog w) A (call (.ref 766) [.ref x]) Q E s := by
  refine' call_G X T.nolimit ?k1 ?k2 hroom ?k3 ?k4 ?k5 ?_ ?c1 ?c2 ?c3
  case k1 => k_is
  case k2 => k_is
  case k3 => exact BindsTo.of_eq rfl
  case k4 => exact locs rfl
  case k5 => decide
  case c1 => exact rfl
  case c2 => exact rfl
  case c3 => exact rfl
  intro h₁ F N
  refine wpAny_execs_cons (wpAny_Return_some (nameX_L (cl := []) F rfl ?_ rfl rfl (by decide)))
  exact h h₁ _ F.keep
set_option maxHeartbeats 1600000 in
theorem lex_iter (d : Dis x dx st sd) (hB : B.length ≤ 100000) (X : (Mine.hd.heap_39 w.params).In g) (T : TopRead p loose mg mb g) (hroom : A.depth + 70 < recursionLimit) (hh : A.handled = none)
    (hA : A.frames = some [env, envo]) (hf : env.frame = some L) (hfo : envo.frame = some Lo) (hke : env.scope.kind ≠ .module) (hko : envo.scope.kind ≠ .module) (hLo : Lo ∉ [x, dx, st, sd, pb, fs]) (hp : pb ∉ [x, dx, st, sd]) (hq : fs ∉ [x, dx, st, sd]) :
    Iter prog w A (Mine.hd.heap_39 w.params) g L m x Lo 776 [x, dx, st, sd, pb, fs] (LexI x dx st sd pb fs B) where
  addr := fun {own ts} h => by
    obtain ⟨l, es, n, rest, n1, n2, rfl, hR, _⟩ := h
    show x :: dx :: (rest ++ _).map (·.1) = _
    rw [List.map_append, hR.addr]
    rfl
  inst := fun {own ts h} h N => by
    obtain ⟨l, es, n, rest, n1, n2, rfl, hR, _⟩ := h
    exact ⟨_, _, InstAt.of_news N (List.Mem.head _) (List.Mem.tail _ (List.Mem.head _))⟩
  noLen := by k_is
  noHint := by k_is
  iter := fun {s own ts Q E} F h N k => by
    obtain ⟨l, es, n, rest, n1, n2, rfl, hR, _⟩ := h
    have I := InstAt.of_news N (List.Mem.head _) (List.Mem.tail _ (List.Mem.head _))
    refine' owit_iter F X I ?hs ?hf ?_
    case hs => k_is
    case hf => k_is
    refine lex_iter_call (X.keeps F.keep) (T.keeps F.keep) (by omega) fun h' tk kk => ?_
    have N' := News.grown N kk
    have I' := InstAt.of_news N' (List.Mem.head _) (List.Mem.tail _ (List.Mem.head _))
    refine' owit_it (s := { s with heap := h', toks := tk }) (F.keeps kk) X I' ?hs (k h' tk kk)
    case hs => k_is
  next := fun {s oLo own ex t ts Q E} F N hex hd hI k => by
    obtain ⟨l, es, n, rest, n1, n2, rfl, hR, AO, hl, hT⟩ := hI
    cases hT
    rename_i l' hs hT'
    have No : News g L s.heap ((x, instObj 776 dx) :: (dx, dictOf es n) :: rest) := fun q hq => N q (List.mem_cons_of_mem _ (List.mem_append_right _ (List.mem_append_left _ hq)))
    have Nr : News g L s.heap ((Lo, oLo) :: (ex ++ [(pb, dqObj n1), (fs, dqObj n2)])) := fun q hq => N q (by
      rcases List.mem_cons.mp hq with rfl | hq
      · exact List.Mem.head _
      · rcases List.mem_append.mp hq with hq | hq
        · exact List.mem_cons_of_mem _ (List.mem_append_left _ hq)
        · exact List.mem_cons_of_mem _ (List.mem_append_right _ (List.mem_append_right _ hq)))
    have I := InstAt.of_news No (List.Mem.head _) (List.Mem.tail _ (List.Mem.head _))
    have ha : ((x, instObj 776 dx) :: (dx, dictOf es n) :: rest).map (·.1) = [x, dx, st, sd] := by
      show x :: dx :: rest.map (·.1) = _
      rw [hR.addr]
    have sub4 : ∀ b, b ∈ [x, dx, st, sd] → b ∈ [x, dx, st, sd, pb, fs] := fun b hb => List.mem_append_left [pb, fs] hb
    have out4 : ∀ q ∈ ex ++ [(pb, dqObj n1), (fs, dqObj n2)], q.1 ∉ [x, dx, st, sd] := fun q hm => by
      rcases List.mem_append.mp hm with hm | hm
      · exact fun h => (hex q hm).1 (sub4 _ h)
      · rcases List.mem_cons.mp hm with rfl | hm
        · exact hp
        · rw [List.mem_singleton.mp hm]; exact hq
    refine' owit_next F X I ?hs ?hf ?_
    case hs => k_is
    case hf => k_is
    have hr' : A.depth < recursionLimit := by omega
    refine' callHR (rest := (Lo, oLo) :: (ex ++ [(pb, dqObj n1), (fs, dqObj n2)])) F No Nr ?kd X T ?k1 ?k2 hr' ?k3 ?k4 ?k5 ?_ ?c1 ?c2 ?c3
    case kd =>
      intro q hq
      rw [ha]
      rcases List.mem_cons.mp hq with rfl | hq
      · exact fun h => hLo (sub4 _ h)
      · exact out4 q hq
    case k1 => k_is
    case k2 => k_is
    case k3 => exact BindsTo.of_eq rfl
    case k4 => exact locs rfl
    case k5 => decide
    case c1 => exact rfl
    case c2 => exact rfl
    case c3 => exact rfl
    intro g₂ L' h₁ st' F₁ N₁ G₁ X₁ T₁
    have hpb : IsDq g₂ pb := ⟨n1, G₁ (pb, dqObj n1) (List.mem_cons_of_mem _ (List.mem_append_right _ (List.Mem.head _)))⟩
    have hfs : IsDq g₂ fs := ⟨n2, G₁ (fs, dqObj n2) (List.mem_cons_of_mem _ (List.mem_append_right _ (List.Mem.tail _ (List.Mem.head _))))⟩
    refine body_swap (b' := nxFn.1) (sc' := nxFn.2) (by kernel_rfl) (by kernel_rfl) ?_
    refine nx_body (s := { s with heap := h₁, toks := _ }) (l := l) (l' := l') (v := .str t) d hB hpb hfs X₁ T₁ (by rw [depth_deeper]; omega) hh F₁ rfl (locSelf x) ⟨es, n, rest, N₁, hR, AO, hl⟩ hs (fun y hy h' tk t' m' F' O' => ?_) (fun e => nomatch e)
    cases hy
    obtain ⟨es', n', rest', N', hR', AO', hl'⟩ := O'
    refine leaveH_ F' N' fun F₂ N₂ => ?_
    refine k h' tk (((x, instObj 776 dx) :: (dx, dictOf es' n') :: rest') ++ [(pb, dqObj n1), (fs, dqObj n2)]) t' F₂ (fun q hq => N₂ q ?_) ⟨l', es', n', rest', n1, n2, rfl, hR', AO', hl', hT'⟩
    rcases List.mem_cons.mp hq with rfl | hq
    · exact List.mem_append_right _ (List.Mem.head _)
    · rcases List.mem_append.mp hq with hq | hq
      · exact List.mem_append_right _ (List.mem_cons_of_mem _ (List.mem_append_left _ hq))
      · rcases List.mem_append.mp hq with hq | hq
        · exact List.mem_append_left _ hq
        · exact List.mem_append_right _ (List.mem_cons_of_mem _ (List.mem_append_right _ hq))
  stop := fun {s oLo own ex Q E} F N hex hd hI k => by
    obtain ⟨l, es, n, rest, n1, n2, rfl, hR, AO, hl, hT⟩ := hI
    cases hT
    rename_i l' hs
    have No : News g L s.heap ((x, instObj 776 dx) :: (dx, dictOf es n) :: rest) := fun q hq => N q (List.mem_cons_of_mem _ (List.mem_append_right _ (List.mem_append_left _ hq)))
    have Nr : News g L s.heap ((Lo, oLo) :: ((ex ++ [(pb, dqObj n1), (fs, dqObj n2)]) ++ ((x, instObj 776 dx) :: (dx, dictOf es n) :: rest))) := fun q hq => N q (by
      rcases List.mem_cons.mp hq with rfl | hq
      · exact List.Mem.head _
      · rcases List.mem_append.mp hq with hq | hq
        · rcases List.mem_append.mp hq with hq | hq
          · exact List.mem_cons_of_mem _ (List.mem_append_left _ hq)
          · exact List.mem_cons_of_mem _ (List.mem_append_right _ (List.mem_append_right _ hq))
        · exact List.mem_cons_of_mem _ (List.mem_append_right _ (List.mem_append_left _ hq)))
    have I := InstAt.of_news No (List.Mem.head _) (List.Mem.tail _ (List.Mem.head _))
    have ha : ((x, instObj 776 dx) :: (dx, dictOf es n) :: rest).map (·.1) = [x, dx, st, sd] := by
      show x :: dx :: rest.map (·.1) = _
      rw [hR.addr]
    have sub4 : ∀ b, b ∈ [x, dx, st, sd] → b ∈ [x, dx, st, sd, pb, fs] := fun b hb => List.mem_append_left [pb, fs] hb
    have out4 : ∀ q ∈ ex ++ [(pb, dqObj n1), (fs, dqObj n2)], q.1 ∉ [x, dx, st, sd] := fun q hm => by
      rcases List.mem_append.mp hm with hm | hm
      · exact fun h => (hex q hm).1 (sub4 _ h)
      · rcases List.mem_cons.mp hm with rfl | hm
        · exact hp
        · rw [List.mem_singleton.mp hm]; exact hq
    refine' owit_next F X I ?hs ?hf ?_
    case hs => k_is
    case hf => k_is
    have hr' : A.depth < recursionLimit := by omega
    refine' call_raises (X := "StopIteration") F Nr ?kex ?kLo hd X T hA hf hfo hke hko ?k1 ?k2 hr' ?k3 ?k4 ?k5 ?_ ?c1 ?c2 ?c3
    case kex =>
      intro q hq
      rw [ha]
      refine ⟨out4 q hq, ?_⟩
      rcases List.mem_append.mp hq with hm | hm
      · exact (hex q hm).2
      · rcases List.mem_cons.mp hm with rfl | hm
        · exact fun e => hLo (by rw [← e]; exact List.mem_append_right [x, dx, st, sd] (List.Mem.head _))
        · rw [List.mem_singleton.mp hm]
          exact fun e => hLo (by rw [← e]; exact List.mem_append_right [x, dx, st, sd] (List.Mem.tail _ (List.Mem.head _)))
    case kLo => rw [ha]; exact fun h => hLo (sub4 _ h)
    case k1 => k_is
    case k2 => k_is
    case k3 => exact BindsTo.of_eq rfl
    case k4 => exact locs rfl
    case k5 => decide
    case c1 => exact rfl
    case c2 => exact rfl
    case c3 => exact rfl
    intro g₂ L' h₁ st' F₁ N₁ G₁ X₁ T₁ LV _ hLV
    have hpb : IsDq g₂ pb := ⟨n1, G₁ (pb, dqObj n1) ((List.mem_append_right _ (List.Mem.head _)))⟩
    have hfs : IsDq g₂ fs := ⟨n2, G₁ (fs, dqObj n2) ((List.mem_append_right _ (List.Mem.tail _ (List.Mem.head _))))⟩
    refine body_swap (b' := nxFn.1) (sc' := nxFn.2) (by kernel_rfl) (by kernel_rfl) ?_
    refine nx_body (s := { s with heap := h₁, toks := _ }) (l := l) (l' := l') (v := .none) d hB hpb hfs X₁ T₁ (by rw [depth_deeper]; omega) hh F₁ rfl (locSelf x) ⟨es, n, rest, N₁, hR, AO, hl⟩ hs (fun y hy => nomatch hy) (fun _ h' h'' tk e m' F' O' hm => ?_)
    obtain ⟨es', n', rest', N', hR', AO', hl'⟩ := O'
    have ha' : ((x, instObj 776 dx) :: (dx, dictOf es' n') :: rest').map (·.1) = [x, dx, st, sd] := by
      show x :: dx :: rest'.map (·.1) = _
      rw [hR'.addr]
    refine hLV { s with heap := h'', toks := tk } h' m' _ e (ha'.trans ha.symm) F' N' hm.of fun h₃ sl F₃ N₃ ht => ?_
    unfold OwitStop
    refine wpAny_isInstance (b := true) (s := { s with heap := h₃, toks := tk }) ht (by rw [isSubtype_type]; kernel_rfl) ?_
    show (if true = true then _ else _)
    rw [if_pos rfl]
    refine k h₃ tk (((x, instObj 776 dx) :: (dx, dictOf es' n') :: rest') ++ [(pb, dqObj n1), (fs, dqObj n2)]) sl F₃ (fun q hq => N₃ q ?_) (by rw [List.map_append, ha']; rfl)
    rcases List.mem_cons.mp hq with rfl | hq
    · exact List.Mem.head _
    · rcases List.mem_append.mp hq with hq | hq
      · exact List.mem_cons_of_mem _ (List.mem_append_left _ (List.mem_append_left _ hq))
      · rcases List.mem_append.mp hq with hq | hq
        · exact List.mem_cons_of_mem _ (List.mem_append_right _ hq)
        · exact List.mem_cons_of_mem _ (List.mem_append_left _ (List.mem_append_right _ hq))
end
end Mine
end
section
open PySem PySem.W PyProof.Rows PySem.Calls PySem.Spec
set_option maxRecDepth 100000
namespace Mine
theorem sz1 : Str.empty.length ≤ sizeLine := by size_fits
local macro_rules | `(tactic| size_fits) => `(tactic| with_reducible exact sz1)
theorem mro_deque : ∃ c tl, mroOf (.type "collections.deque") = pure (c :: tl) := ⟨.type "collections.deque", [.type "object"], by rw [mroOf_type]; kernel_rfl⟩
theorem mro_deque' : mroOf (.type "collections.deque") = pure [.type "collections.deque", .type "object"] := by rw [mroOf_type]; kernel_rfl
theorem lookup_deque_new : typeLookup (.type "collections.deque") "__new__" = pure (some (.builtin "collections.deque.__new__")) := by rw [typeLookup_type, builtinLookup_eq_fast]; kernel_rfl
theorem slot_deque_init : Slot "collections.deque" "__init__" "collections.deque.__init__" :=
  .of (owner := "collections.deque") (n := "__init__") (by rw [typeLookup_type, builtinLookup_eq_fast]; kernel_rfl) (by decide +kernel) (by decide +kernel) (by decide +kernel)
    (by first | exact .inl (by decide +kernel) | exact .inr (by decide +kernel)) (by rw [isSubtype_type]; kernel_rfl)
theorem called_deque : TypeCalled "collections.deque" "collections.deque.__new__" "collections.deque.__init__" :=
  ⟨by decide +kernel, by decide +kernel, mro_deque, madeBy_type mro_deque' lookup_deque_new (by decide +kernel), by decide +kernel, by rw [isSubtype_type]; kernel_rfl, slot_deque_init⟩
theorem typeCall_deque : checkTypeCall "collections.deque" ⟨[], []⟩ = pure () := by kernel_rfl
theorem newCall_deque : checkBuiltinCall "collections.deque.__new__" ⟨[.type "collections.deque"], []⟩ = pure () := by kernel_rfl
theorem entry_deque_new : entryFor table "collections.deque.__new__" = some Builtin.«collections.deque.__new__» := entryFor_of_tree (by kernel_rfl)
theorem entry_deque_init : entryFor table "collections.deque.__init__" = some Builtin.«collections.deque.__init__» := entryFor_of_tree (by kernel_rfl)
theorem plain_deque_new : plainId "collections.deque.__new__" = true := by decide +kernel
theorem args_deque_init (a : Value) : argsOk "collections.deque.__init__" ⟨[a], []⟩ := by unfold argsOk; kernel_rfl
theorem sub_deque_self : isSubtype (.type "collections.deque") (.type "collections.deque") = pure true := by rw [isSubtype_type]; kernel_rfl
theorem nodict_deque : typeHasDict (.type "collections.deque") = false := by kernel_rfl
section
variable {prog : Program} {w : World} {A : Around} {E : Value → Shared → Prop} {s : Shared}
theorem code_deque_new {Q₁ : Value → Shared → Prop}
    (h : Q₁ (.ref s.heap.objs.size) { s with heap := s.heap.push (dqObj 0) }) :
    codeAny (model prog w) A (.call (.builtin "collections.deque.__new__") ⟨[.type "collections.deque"], []⟩) (wants Q₁ E) s := by
  refine codeAny_of_tree ?_
  show wpAny _ A.in1 (do checkBuiltinCall "collections.deque.__new__" ⟨[.type "collections.deque"], []⟩; again (.builtin "collections.deque.__new__" ⟨[.type "collections.deque"], []⟩)) _ _ s
  refine wpAny_bind ?_
  with_reducible refine wpAny_of_eq newCall_deque ?_
  refine (wpAny_pure ⟨plainId_quiet plain_deque_new _, codeAny_builtin entry_deque_new ?_⟩)
  rw [Around.under_plainId plain_deque_new _]
  unfold Builtin.«collections.deque.__new__» Builtin.Deque.newArgs Builtin.Deque.new
  refine wpAny_bind ?_
  repeat ((fail_if_success (with_reducible show wpAny _ _ (isSubtype _ _) _ _ _)); wp_step)
  have hsub := sub_deque_self
  have hnd := nodict_deque
  show wpAny _ _ (isSubtype (Value.type "collections.deque") (Value.type "collections.deque")) _ _ _
  rw [hsub]
  refine wpAny_pure ?_
  show wpAny _ _ (pure (Value.type "collections.deque", ([] : List Value))) _ _ _
  refine wpAny_pure ?_
  dsimp only
  rw [hnd]
  show wpAny _ _ (newObj (.type "collections.deque") (.fields #[.none, .int 0 0]) none >>= fun v => ret v) _ _ _
  refine wpAny_bind (wpAny_newObj_type (wpAny_pure ?_))
  exact h
theorem init_deque {a : Addr} {Q : Fin → Shared → Prop} (ha : s.heap.get? a = some (dqObj 0)) (h : ∀ h', h'.get? a = some (dqObj 0) → Heap.SameBut a s.heap h' → Q (.done (.ret .none)) { s with heap := h' }) :
    wpAny (model prog w) A (Builtin.«collections.deque.__init__» ⟨[.ref a], []⟩) Q E s := by
  show wpAny _ _ (setField (.ref a) 0 .none >>= fun _ => Builtin.Deque.clear (.ref a) >>= fun _ => ret .none) _ _ _
  refine wpAny_bind (wpAny_setField ha rfl (by show 0 < 2; decide) ?_)
  have e1 : (s.heap.update a (Obj.mapFields (·.setIfInBounds 0 .none))).get? a = some (dqObj 0) := by
    rw [Heap.get?_update_self _ ha rfl]; rfl
  unfold Builtin.Deque.clear Builtin.Deque.items
  refine wpAny_bind (wpAny_bind (wpAny_bind (wpAny_fieldsOf e1 rfl (wpAny_pure ?_))))
  refine wpAny_pure (wpAny_pure ?_)
  exact h _ e1 (Heap.SameBut.update ..)
theorem call_deque {Q : Value → Shared → Prop} (h : ∀ h', (∀ b o, s.heap.get? b = some o → h'.get? b = some o) → h'.get? s.heap.objs.size = some (dqObj 0) → Q (.ref s.heap.objs.size) { s with heap := h' }) :
    wpAny (model prog w) A (call (.type "collections.deque") []) Q E s := by
  refine callType_codes (Q₁ := fun obj s₁ => obj = .ref s.heap.objs.size ∧ s₁ = { s with heap := s.heap.push (dqObj 0) }) called_deque typeCall_deque entry_deque_init
    (code_deque_new ⟨rfl, rfl⟩) fun obj s₁ h₁ => ?_
  obtain ⟨rfl, rfl⟩ := h₁
  have hS : (s.heap.push (dqObj 0)).get? s.heap.objs.size = some (dqObj 0) := Heap.get?_push_size _ rfl
  refine ⟨⟨_, hS, rfl⟩, args_deque_init _, init_deque (s := { s with heap := s.heap.push (dqObj 0) }) hS fun h' e hs => ⟨rfl, h h' (fun b o eb => ?_) e⟩⟩
  rw [hs.2 b (Nat.ne_of_lt (Heap.lt_size eb))]
  exact Heap.get?_push_of_some _ eb
theorem call_dequeN {g : Heap} {L : Addr} {m : Str → Option Value} {news : List (Addr × Obj)} {Q : Value → Shared → Prop} (F : Fr g L s.heap m) (N : News g L s.heap news)
    (h : ∀ a h', Fr g L h' m → News g L h' ((a, dqObj 0) :: news) → (∀ q ∈ news, q.1 < a) → Q (.ref a) { s with heap := h' }) :
    wpAny (model prog w) A (call (.type "collections.deque") []) Q E s := by
  refine call_deque fun h' k e => h _ h' (F.keeps k) (fun q hq => ?_) fun q hq => Heap.lt_size (N q hq).1
  rcases List.mem_cons.mp hq with rfl | hq
  · have hp := (N.push F (dqObj 0)) (s.heap.objs.size, dqObj 0) (List.Mem.head _)
    exact ⟨e, hp.2⟩
  · exact (News.grown N k) q hq
end
end Mine
end
section
open PySem PySem.W PyProof.Rows PySem.Calls PySem.Spec
set_option maxRecDepth 100000
namespace Mine
/-- what a read-only tree gives, the state unchanged -/
noncomputable def rdA {α : Type} (K : Frag) (S : Setting) (P : α → Prop) : Sem α → Prop
  | .pure a => P a
  | .rule _ k => rdA K S P (k ())
  | .at _ k => rdA K S P (k ())
  | .point _ k => rdA K S P (k ())
  | .ask k => rdA K S P (k S)
  | .load a _ k => match K.lookup a with
    | some o => rdA K S P (k o)
    | none => False
  | _ => False
theorem wp_of_rdA {α : Type} {prog : Program} {w : World} {A : Around} {E : Value → Shared → Prop} {K : Frag} {P : α → Prop} : ∀ (t : Sem α) {s : Shared} {Q : α → Shared → Prop}, K.In s.heap → rdA K ⟨prog, w.params⟩ P t → (∀ a, P a → Q a s) → wpAny (model prog w) A t Q E s := by
  intro t
  induction t with
  | pure a => intro s Q _ h q; exact wpAny_pure (q a h)
  | rule _ k ih => intro s Q X h q; exact PySem.W.X.x_rule (ih () X h q)
  | «at» _ k ih => intro s Q X h q; exact PySem.W.X.x_at (ih () X h q)
  | point _ k ih => intro s Q X h q; exact PySem.W.X.x_point (ih () X h q)
  | ask k ih => intro s Q X h q; exact PySem.W.X.x_ask (ih _ X h q)
  | load a p k ih =>
    intro s Q X h q
    simp only [rdA] at h
    split at h
    · rename_i o ho
      exact PySem.W.X.x_load (X _ _ ho) (ih o X h q)
    · exact h.elim
  | _ => intro s Q _ h; exact h.elim
theorem looks_rdA {α : Type} {prog : Program} {w : World} {K : Frag} {h : Heap} {t : Sem α} {r : α} (X : K.In h) (e : rdA K ⟨prog, w.params⟩ (fun a => a = r) t) : Looks (model prog w) h t r := fun _ _ _ _ k q =>
  wp_of_rdA t (X.keeps k) e fun a ea => ea ▸ q
theorem made641 (prog : Program) (w : World) (P : Option String → Prop) : rdA (Mine.hd.heap_39 w.params) ⟨prog, w.params⟩ P (Bind.madeBy (.ref 641)) = P none := by kernel_rfl
theorem base641 (prog : Program) (w : World) (P : Value → Prop) : rdA (Mine.hd.heap_39 w.params) ⟨prog, w.params⟩ P (Bind.staticBase (.ref 641)) = P (.type "object") := by kernel_rfl
theorem madeObj (prog : Program) (w : World) (P : Option String → Prop) : rdA (Mine.hd.heap_39 w.params) ⟨prog, w.params⟩ P (Bind.madeBy (.type "object")) = P (some "object.__new__") := by kernel_rfl
theorem call641 (prog : Program) (w : World) (P : Option Value → Prop) : rdA (Mine.hd.heap_39 w.params) ⟨prog, w.params⟩ P (specialOf (.ref 641) "__call__") = P (some (.builtin "type.__call__")) := by kernel_rfl
theorem typ641 (prog : Program) (w : World) (P : Bool → Prop) : rdA (Mine.hd.heap_39 w.params) ⟨prog, w.params⟩ P (isInstance (.ref 641) (.type "type")) = P true := by kernel_rfl
theorem top641 (prog : Program) (w : World) (P : Bool → Prop) : rdA (Mine.hd.heap_39 w.params) ⟨prog, w.params⟩ P (isSubtype (.ref 641) (.type "object")) = P true := by kernel_rfl
theorem self641 (prog : Program) (w : World) (P : Bool → Prop) : rdA (Mine.hd.heap_39 w.params) ⟨prog, w.params⟩ P (isSubtype (.ref 641) (.ref 641)) = P true := by kernel_rfl
noncomputable def ob641 (w : World) : Obj := ((Mine.hd.heap_39 w.params).lookup 641).getD default
theorem at641 (w : World) : (Mine.hd.heap_39 w.params).lookup 641 = some (ob641 w) := by kernel_rfl
noncomputable def isCls : Obj → Bool
  | ⟨_, _, .cls cd, _⟩ => !cd.abstract && !cd.hasDel && !cd.mro.isEmpty
  | _ => false
theorem cls641 (w : World) : isCls (ob641 w) = true := by kernel_rfl
theorem cls641' (w : World) : ∃ oc od cd sl, (Mine.hd.heap_39 w.params).lookup 641 = some ⟨oc, od, .cls cd, sl⟩ ∧ cd.abstract = false ∧ cd.hasDel = false ∧ cd.mro.isEmpty = false := by
  have h := cls641 w
  have e := at641 w
  generalize ob641 w = o at h e
  unfold isCls at h
  split at h
  · rename_i oc od cd sl
    simp only [Bool.and_eq_true, Bool.not_eq_true'] at h
    exact ⟨oc, od, cd, sl, e, h.1.1, h.1.2, h.2⟩
  · cases h
section
variable {prog : Program} {w : World} {A : Around} {s : Shared} {K : Frag} {Q : Value → Shared → Prop} {E : Value → Shared → Prop} {name qual : Str} {params : Arguments} {body : List Stmt} {scope : Scope} {dV kV doc pm cdv ct oc : Value} {an od : Option Addr} {osl : Array (Option Value)} {f : Addr} {args : List Value}
theorem call_GV (PB : List (Str × Value) → Prop) (X : K.In s.heap) (hl : s.heap.NoLimit) (ho : K.lookup f = some ⟨oc, od, .func (fnOf name qual params body scope dV kV doc pm an cdv ct), osl⟩) (hcd : codeIn K cdv qual = true)
    (hroom : A.depth < recursionLimit) (hb : wpA K ⟨prog, w.params⟩ PB (bindArgs (fnOf name qual params body scope dV kV doc pm an cdv ct) ⟨args, []⟩)) (hloc : ∀ b, PB b → ∀ y ∈ b, scope.names.lookup y.1 = some .local) (hcell : ∀ x ∈ scope.names, x.2 ≠ .cell)
    (h : ∀ b hp tk h₁, PB b → (∀ a o, s.heap.get? a = some o → hp.get? a = some o) → Fr hp hp.objs.size h₁ (fun y => b.reverse.lookup y) → News hp hp.objs.size h₁ [] → K.In hp →
      wpAny (model prog w) (A.deeper (envOf qual scope hp.objs.size f cdv)) (execs body (envOf qual scope hp.objs.size f cdv)) (RetG Q) (fun _ _ => False) { s with heap := h₁, toks := tk })
    (hco : scope.isCoroutine = false := by rfl) (hgen : scope.isGenerator = false := by rfl) (hk : scope.kind = .function := by rfl) :
    wpAny (model prog w) A (call (.ref f) args) Q E s := by
  refine wpAny_call (codeAny_call_function hroom (X _ _ ho) rfl hco hgen rfl (codeRec_of X hcd) (wp_of_wpA _ X hb fun b s₁ ks pb => ?_))
  obtain ⟨hp, tk, rfl, k⟩ := ks
  refine wpAny_newFunctionEnv hcell (hloc b pb) (fun h₁ hns hsb => ⟨(hl.keeps k).fresh _ hsb, codeAny_func ?_⟩) hk
  have hk₁ : ∀ a o, hp.get? a = some o → h₁.get? a = some o := fun a o e => hsb.extBut a o (Nat.ne_of_lt (Heap.lt_size e)) (Heap.get?_push_of_some _ e)
  exact wpAny_mono (h b hp _ h₁ pb k ⟨hns, hk₁, Nat.le_refl _⟩ News.nil (X.keeps k)) (fun _ _ x => x) fun _ _ x => x.elim
end
section
variable {prog : Program} {w : World} {A : Around} {R : Result → Shared → Prop} {h : Heap} {g : Array GenState} {d : Drawn} {t : Nat} {os : OsState}
theorem new641 (X : (Mine.hd.heap_39 w.params).In h) (hq : R (.ok (.ret (.ref (h.objs.size + 1)))) ⟨(h.push emptyDict).push (instObj 641 h.objs.size), g, d, t, os⟩) :
    codeAny (model prog w) A (.call (.builtin "object.__new__") ⟨[.ref 641], []⟩) R ⟨h, g, d, t, os⟩ := by
  obtain ⟨oc, od, cd, sl, hl, e1, e2, e4⟩ := cls641' w
  have hC := X _ _ hl
  have F := PySem.F.objNew
  refine codeAny_call_builtin_code (Code.quiet_builtin _ F.quiet) ?_
  simp only [checkBuiltinCall, F.kind, F.split, F.row]
  have base : Looks (model prog w) h (Bind.staticBase (.ref 641)) (.type "object") := looks_rdA X (by rw [base641])
  have made : Looks (model prog w) h (Bind.madeBy (.type "object")) (some "object.__new__") := looks_rdA X (by rw [madeObj])
  have typ : Looks (model prog w) h (isInstance (.ref 641) (.type "type")) true := looks_rdA X (by rw [typ641])
  have top : Looks (model prog w) h (isSubtype (.ref 641) (.type "object")) true := looks_rdA X (by rw [top641])
  have args : Bind.checkArgs "object.__new__" ⟨.hand, "object.__new__", "__new__", .cls, []⟩ ⟨[.ref 641], []⟩ = pure () := by kernel_rfl
  rw [args]
  repeat (first | simp only [bne_self_eq_false, Bool.false_eq_true, if_false] | lk)
  refine codeAny_builtin F.entry ?_
  unfold Builtin.«object.__new__»
  have fin : ∀ A', wpAny (model prog w) A' (do
      let d ← if typeHasDict (.ref 641) then some <$> alloc { cls := .type "dict", data := .dict #[] } else pure none
      ret (← newObj (.ref 641) .plain d)) (fun fin s' => match fin with | .done f => R (.ok f) s' | .again c' => c'.quiet = true ∧ codeAny (model prog w) A c' R s') (fun e s' => R (.error e) s') ⟨h, g, d, t, os⟩ := by
    intro A'
    show wpAny _ _ ((alloc emptyDict >>= fun x => pure (some x)) >>= _) _ _ _
    refine wpAny_bind (wpAny_bind (wpAny_alloc (wpAny_pure (wpAny_bind ?_))))
    show wpAny _ _ (newObjAsIs _ _ _) _ _ _
    unfold newObjAsIs classHasDel
    refine wpAny_bind (wpAny_alloc (wpAny_bind (wpAny_bind (wpAny_load (Heap.get?_push_of_some _ (Heap.get?_push_of_some _ hC)) (wpAny_pure ?_)))))
    rw [e2]
    refine wpAny_pure (wpAny_pure ?_)
    show R _ _
    rw [Heap.size_push]
    exact hq
  repeat (first | simp only [e1, Bool.false_eq_true, if_false] | ((with_reducible show wpAny _ _ (ite (typeHasDict _ = true) _ _) _ _ _); exact fin _) | lk)
end
section
variable {prog : Program} {w : World} {A : Around} {s : Shared} {Q : Value → Shared → Prop} {E : Value → Shared → Prop} {v : Value} {p : Program} {loose : List Str} {mg mb : Str → Option Value}
set_option maxHeartbeats 1600000 in
theorem new134 (X : (Mine.hd.heap_39 w.params).In s.heap) (T : TopRead p loose mg mb s.heap) (hroom : A.depth + 10 < recursionLimit)
    (h : ∀ x dx h' tk, (∀ a o, s.heap.get? a = some o → h'.get? a = some o) → (∀ b o, s.heap.get? b = some o → b < dx) → dx < x → h'.get? x = some (instObj 641 dx) → h'.get? dx = some emptyDict → Q (.ref x) { s with heap := h', toks := tk }) :
    wpAny (model prog w) A (call (.ref 134) [.ref 641, v]) Q E s := by
  have hr' : A.depth < recursionLimit := by omega
  refine' call_GV (fun b => ∃ x y, b = [(Str.ofString "cls", .ref 641), (Str.ofString "args", .ref x), (Str.ofString "kwargs", .ref y)]) X T.nolimit ?k1 ?k2 hr' ?kb ?kl ?k5 ?_ ?c1 ?c2 ?c3
  case k1 => k_is
  case k2 => k_is
  case kb => refine cast (α := ∀ a b : Addr, (fun b => ∃ x y, b = [(Str.ofString "cls", Value.ref 641), (Str.ofString "args", .ref x), (Str.ofString "kwargs", .ref y)]) [(Str.ofString "cls", .ref 641), (Str.ofString "args", .ref a), (Str.ofString "kwargs", .ref b)]) (by kernel_rfl) (fun a b => ⟨a, b, rfl⟩)
  case kl => rintro _ ⟨x, y, rfl⟩; exact locs rfl
  case k5 => decide
  case c1 => exact rfl
  case c2 => exact rfl
  case c3 => exact rfl
  rintro _ hp tk h₁ ⟨x, y, rfl⟩ kp F₁ N₁ X₁
  have T₁ := T.keeps kp
  k_steps
  refine wpAny_call (new641 (X₁.keeps F₁.keep) ?_)
  refine h (h₁.objs.size + 1) h₁.objs.size _ _ (fun a o e => Heap.get?_push_of_some _ (Heap.get?_push_of_some _ (F₁.keep _ _ (kp a o e)))) ?_ (Nat.lt_succ_self _) ?_ ?_
  · exact fun b o e => Heap.lt_size (F₁.keep _ _ (kp b o e))
  · heap_get
  · exact Heap.get?_push_of_some _ (Heap.get?_push_size _ rfl)
end
section
variable {prog : Program} {w : World} {A : Around} {s : Shared} {R : Result → Shared → Prop} {h₀ : Heap} {L : Addr} {m : Str → Option Value} {news : List (Addr × Obj)} {v : Value} {p : Program} {loose : List Str} {mg mb : Str → Option Value}
theorem make641 (F : Fr h₀ L s.heap m) (N : News h₀ L s.heap news) (X₀ : (Mine.hd.heap_39 w.params).In h₀) (T : TopRead p loose mg mb h₀) (hroom : A.depth + 20 < recursionLimit)
    (h : ∀ x dx h' tk, Fr h₀ L h' m → News h₀ L h' ((x, instObj 641 dx) :: (dx, emptyDict) :: news) → (∀ p ∈ news, p.1 < dx) → dx < x →
      codeAny (model prog w) (A.under (.builtin "type.__call__" ⟨[.ref 641, v], []⟩)) (.call (.ref 411) ⟨[.ref x, v], []⟩) (InitBack x R) { s with heap := h', toks := tk }) :
    codeAny (model prog w) A (.call (.ref 641) ⟨[v], []⟩) R s := by
  have X := X₀.keeps F.keep
  obtain ⟨oc, od, cd, sl, hl, e1, e2, e4⟩ := cls641' w
  have hC := X _ _ hl
  obtain ⟨hp, g, d, tk, os⟩ := s
  have made : Looks (model prog w) hp (Bind.madeBy (.ref 641)) none := looks_rdA X (by rw [made641])
  have call_ : Looks (model prog w) hp (specialOf (.ref 641) "__call__") (some (.builtin "type.__call__")) := looks_rdA X (by rw [call641])
  have typ : Looks (model prog w) hp (isInstance (.ref 641) (.type "type")) true := looks_rdA X (by rw [typ641])
  have self : Looks (model prog w) hp (isSubtype (.ref 641) (.ref 641)) true := looks_rdA X (by rw [self641])
  refine codeAny_of_tree ?_
  show wpAny _ _ (callAny (.ref 641) _) _ _ _
  refine nd_load hC ?_
  show wpAny _ _ (callAny.viaDunder (.ref 641) _) _ _ _
  unfold callAny.viaDunder
  refine wpAny_bind (call_.at ?_)
  dsimp only
  rw [tc_bind]
  refine wpAny_bind (wpAny_pure (wpAny_bind (wpAny_pure ?_)))
  refine wpAny_pure (a := Fin.again (.call (.builtin "type.__call__") ⟨[.ref 641, v], []⟩)) (And.intro rfl ?_)
  refine codeAny_call_builtin_at (Code.quiet_builtin _ (by decide +kernel)) entry_typeCall ?_
  with_reducible refine check_slot tc_kind tc_split typ (tc_args _ _ _) ?_
  unfold Builtin.«type.__call__»
  have hm : Looks (model prog w) hp (mroOf (.ref 641)) cd.mro := ((Looks.ld (part := none) hC).andThen .now).andThen .now
  repeat (first | simp only [e4, Bool.false_eq_true, if_false] | ((fail_if_success (with_reducible show wpAny _ _ (getAttr (.ref 641) _ _) _ _ _)); lk))
  refine' cls_sm (s := ⟨hp, g, d, tk, os⟩) (K := Mine.hd.heap_39 w.params) (f := .ref 134) F X₀ ?k1 ?k2 ?k3 ?k4 ?k5 ?_
  case k1 => k_is
  case k2 => k_is
  case k3 => k_is
  case k4 => k_is
  case k5 => rfl
  repeat (first | simp only [e4, Bool.false_eq_true, if_false] | ((fail_if_success (with_reducible show wpAny _ _ (call (.ref 134) _ _) _ _ _)); lk))
  refine new134 (s := ⟨hp, g, d, tk + 1, os⟩) X (T.keeps F.keep) (by show A.depth + 1 + 10 < _; omega) fun x dx h' tk' k l1 l2 hx hdx => ?_
  have F' : Fr h₀ L h' m := F.keeps k
  have hL : ∃ o, hp.get? L = some o := by obtain ⟨oL, _, _, hL, _⟩ := F.ns; exact ⟨oL, hL⟩
  have fresh : ∀ b, dx ≤ b → b ≠ L ∧ h₀.get? b = none := fun b hb => by
    refine ⟨fun e => ?_, ?_⟩
    · obtain ⟨o, ho⟩ := hL
      have := l1 _ _ ho
      rw [e] at hb; exact absurd hb (Nat.not_le_of_lt this)
    · cases q : h₀.get? b with
      | none => rfl
      | some o => exact absurd hb (Nat.not_le_of_lt (l1 _ _ (F.keep _ _ q)))
  have N' : News h₀ L h' ((x, instObj 641 dx) :: (dx, emptyDict) :: news) := fun q hq => by
    rcases List.mem_cons.mp hq with rfl | hq
    · exact ⟨hx, fresh x (Nat.le_of_lt l2)⟩
    · rcases List.mem_cons.mp hq with rfl | hq
      · exact ⟨hdx, fresh dx (Nat.le_refl _)⟩
      · exact (News.grown N k) q hq
  have z := h x dx h' tk' F' N' (fun p hp => l1 _ _ (N p hp).1) l2
  have t1 : Looks (model prog w) h' (typeOf (.ref x)) (.ref 641) := (Looks.ld hx).andThen .now
  have s1 := self.keeps k
  have i1 : Looks (model prog w) h' (typeLookup (.ref 641) "__init__") (some (.ref 411)) := (looks_findIn X (by k_is)).keeps k
  have b1 : Looks (model prog w) h' (bindSpecial (.ref 411) (.ref x)) (.ref 411, [.ref x]) := (bind_fn X (.ref x) (by k_is)).keeps k
  unfold isInstance callSpecial? specialOf
  repeat (first | with_reducible refine wpAny_call ?_ | lk)
  refine codeAny_mono z fun r s' z => ?_
  rcases r with e | (v | _ | _ | _) <;> first | exact z | exact z.elim | skip
  obtain ⟨rfl, z⟩ := z
  exact wpAny_pure (wpAny_pure z)
end
end Mine
end
section
open PySem PySem.W PyProof.Rows PySem.Calls PySem.Spec
set_option maxRecDepth 100000
namespace Mine
noncomputable def tokV : Option (Option Value) → Tok
  | some (some (.str _ t)) => t
  | some (some (.int _ t)) => t
  | _ => 0
noncomputable def refsOf : AEnv → List Addr
  | [] => []
  | (_, .ref a) :: r => a :: refsOf r
  | _ :: r => refsOf r
theorem mem_refsOf : ∀ {av : AEnv} {n : Str} {b : Addr}, (n, AV.ref b) ∈ av → b ∈ refsOf av
  | (_, v) :: r, n, b, h => by
    rcases List.mem_cons.mp h with e | h
    · cases e
      exact List.Mem.head _
    · have := mem_refsOf h
      cases v <;> first | exact this | exact List.mem_cons_of_mem _ this
noncomputable def keysOk (names : List Str) (es : List DictEntry) : Bool := es.all fun e => match e.key with
  | .str a _ => names.contains a
  | _ => false
theorem mem_of_lookup {av : AEnv} {a : Str} {v : AV} (h : av.lookup a = some v) : (a, v) ∈ av := by
  induction av with
  | nil => cases h
  | cons p r ih =>
    obtain ⟨b, u⟩ := p
    rw [List.lookup_cons] at h
    split at h
    · rename_i e
      cases h
      rw [eq_of_beq e]
      exact List.Mem.head _
    · exact List.mem_cons_of_mem _ (ih h)
theorem attr_ok {names : List Str} {fx : List (Str × Value)} {D : Addr → Prop} {av : AEnv} {es : List DictEntry} (h1 : av.all (fun p => names.contains p.1) = true) (h2 : av.map (fun p => getL p.1 es) = av.map (fun p => some (some (p.2.enc (tokV (getL p.1 es))))))
    (h3 : ∀ b ∈ refsOf av, D b) (h4 : ∀ q ∈ fx, av.lookup q.1 = none ∧ q.1 ∈ names ∧ getL q.1 es = some (some q.2)) (h5 : keysOk names es = true) : AttrOK names fx D av es where
  at_ := fun a v h => by
    have hm := mem_of_lookup h
    refine ⟨?_, ⟨_, List.map_inj_left.mp h2 _ hm⟩, fun b e => h3 b (mem_refsOf (n := a) (e ▸ hm))⟩
    exact List.contains_iff_mem.mp (List.all_eq_true.mp h1 _ hm)
  stays := h4
  keys := fun e he => by
    have := List.all_eq_true.mp h5 e he
    split at this
    · rename_i a t hk
      exact ⟨a, List.contains_iff_mem.mp this, t, hk⟩
    · cases this
section
variable {prog : Program} {w : World} {A : Around} {s : Shared} {Q : Value → Shared → Prop} {E : Value → Shared → Prop} {p : Program} {loose : List Str} {mg mb : Str → Option Value} {h₀ g : Heap} {L L' x dx st sd pb fs : Addr} {m m' : Str → Option Value} {own : List (Addr × Obj)} {B : Str} {ts : List Str} {envo env : Env} {oL dS : Obj} {es : List DictEntry} {n : Nat}
theorem split_end (X : (Mine.hd.heap_39 w.params).In g) (T : TopRead p loose mg mb g) (F : Fr g L' s.heap m') (N : News g L' s.heap [(fs, dqObj 0), (pb, dqObj 0), (st, instObj 641 sd), (sd, dS), (x, instObj 776 dx), (dx, dictOf es n), (L, oL)])
    (hR : RL st sd B B.cps.toList [(st, instObj 641 sd), (sd, dS)]) (hAO : AttrOK lexNames (fxL st) (Dp pb fs) (lxAv st pb fs ⟨false, B.cps.toList⟩) es) (h8 : es.length ≤ 1000)
    (hne : @Ne Nat x dx ∧ @Ne Nat st sd ∧ @Ne Nat x st ∧ @Ne Nat x sd ∧ @Ne Nat dx st ∧ @Ne Nat dx sd) (hnp : @Ne Nat pb x ∧ @Ne Nat pb dx ∧ @Ne Nat pb st ∧ @Ne Nat pb sd) (hnq : @Ne Nat fs x ∧ @Ne Nat fs dx ∧ @Ne Nat fs st ∧ @Ne Nat fs sd)
    (hnL : @Ne Nat L x ∧ @Ne Nat L dx ∧ @Ne Nat L st ∧ @Ne Nat L sd ∧ @Ne Nat L pb ∧ @Ne Nat L fs) (hoL : ∃ es ep, oL.data = .dict es ep) (hroom : A.depth + 100 < recursionLimit) (hh : A.handled = none)
    (hA : A.frames = some [envo]) (hf : env.frame = some L') (hke : env.scope.kind ≠ .module) (hfo : envo.frame = some L) (hko : envo.scope.kind ≠ .module) (hB : B.length ≤ 100000) (hn : ts.length ≤ 100000) (hts : Toks ⟨false, B.cps.toList⟩ ts)
    (h : ∀ S h' tk acc c, Fr h₀ L h' m → News h₀ L h' ((S, ListObj acc c) :: own) → (∀ q ∈ own, q.1 ≠ S) → StrsAre acc.toList ts → Q (.ref S) { s with heap := h', toks := tk }) :
    wpAny (model prog w) (A.deeper env) (call (.type "list") [.ref x]) (fun v s' => LeaveL h₀ L m own g oL Q (.ret v) s') E s := by
  obtain ⟨n1, n2, n3, n4, n5, n6⟩ := hne
  obtain ⟨p1, p2, p3, p4⟩ := hnp
  obtain ⟨q1, q2, q3, q4⟩ := hnq
  obtain ⟨l1, l2, l3, l4, l5, l6⟩ := hnL
  have hLo : L ∉ [x, dx, st, sd, pb, fs] := by
    simp only [List.mem_cons, List.not_mem_nil, or_false, not_or]; exact ⟨l1, l2, l3, l4, l5, l6⟩
  have hp : pb ∉ [x, dx, st, sd] := by
    simp only [List.mem_cons, List.not_mem_nil, or_false, not_or]; exact ⟨p1, p2, p3, p4⟩
  have hq : fs ∉ [x, dx, st, sd] := by
    simp only [List.mem_cons, List.not_mem_nil, or_false, not_or]; exact ⟨q1, q2, q3, q4⟩
  have N₂ : News g L' s.heap ((L, oL) :: ([] ++ (((x, instObj 776 dx) :: (dx, dictOf es n) :: [(st, instObj 641 sd), (sd, dS)]) ++ [(pb, dqObj 0), (fs, dqObj 0)]))) := fun q hq => N q (by
    simp only [List.nil_append, List.cons_append, List.mem_cons, List.not_mem_nil, or_false] at hq ⊢
    rcases hq with h | h | h | h | h | h | h <;> simp [h])
  refine list_own (lex_iter ⟨n1, n2, n3, n4, n5, n6⟩ hB X T (by show A.depth + 1 + 70 < _; omega) hh (by show A.frames.map _ = _; rw [hA]; rfl) hf hfo hke hko hLo hp hq) X F N₂ (List.forall_mem_nil _) hLo hoL ⟨_, es, n, _, 0, 0, rfl, hR, hAO, h8, hts⟩ hn fun S h' tk acc c own' sl F' N' ha hs => ?_
  refine ⟨S, ListObj acc c, L', m', sl, F', fun q hq => N' q ?_, (fun _ _ e => by cases e), fun F₂ N₃ hS => h S h' tk acc c F₂ N₃ hS hs⟩
  rcases List.mem_cons.mp hq with rfl | hq
  · exact List.Mem.head _
  · rw [List.mem_singleton.mp hq]
    exact List.mem_cons_of_mem _ (List.Mem.head _)
end
end Mine
end
section
open PySem PySem.W PyProof.Rows PySem.Calls PySem.Spec
set_option maxRecDepth 100000
namespace Mine
section
variable {prog : Program} {w : World} {A : Around} {s : Shared} {K : Frag} {R : Result → Shared → Prop} {name qual : Str} {params : Arguments} {body : List Stmt} {scope : Scope} {dV kV doc pm cdv ct oc : Value} {an od : Option Addr} {osl : Array (Option Value)} {f : Addr} {pos : List Value} {kw : List (Str × Value)} {binds : List (Str × Value)}
  {h₀ : Heap} {L : Addr} {m : Str → Option Value} {own rest : List (Addr × Obj)} {p : Program} {loose : List Str} {mg mb : Str → Option Value}
noncomputable def LeaveCR (h₀ : Heap) (L : Addr) (m : Str → Option Value) (g : Heap) (rest : List (Addr × Obj)) (R : Result → Shared → Prop) (fl : Flow) (s' : Shared) : Prop :=
  ∃ L' m' own', Fr g L' s'.heap m' ∧ News g L' s'.heap own' ∧ (Fr h₀ L s'.heap m → News h₀ L s'.heap (own' ++ rest) → R (.ok (.ret (match fl with | .ret v => v | _ => .none))) s')
theorem codeHR (F : Fr h₀ L s.heap m) (N : News h₀ L s.heap own) (M : News h₀ L s.heap rest) (hd : ∀ q ∈ rest, q.1 ∉ own.map (·.1)) (X : K.In h₀) (T : TopRead p loose mg mb h₀)
    (ho : K.lookup f = some ⟨oc, od, .func (fnOf name qual params body scope dV kV doc pm an cdv ct), osl⟩) (hcd : codeIn K cdv qual = true) (hroom : A.depth < recursionLimit)
    (hbind : BindsTo s (fnOf name qual params body scope dV kV doc pm an cdv ct) ⟨pos, kw⟩ binds) (hloc : ∀ y ∈ binds, scope.names.lookup y.1 = some .local) (hcell : ∀ x ∈ scope.names, x.2 ≠ .cell)
    (h : ∀ g L' h₁, Fr g L' h₁ (fun y => binds.reverse.lookup y) → News g L' h₁ own → K.In g → TopRead p loose mg mb g →
      wpAny (model prog w) (A.deeper (envOf qual scope L' f cdv)) (execs body (envOf qual scope L' f cdv)) (LeaveCR h₀ L m g rest R) (fun _ _ => False) { s with heap := h₁, toks := s.toks + binds.length })
    (hco : scope.isCoroutine = false := by rfl) (hgen : scope.isGenerator = false := by rfl) (hk : scope.kind = .function := by rfl) :
    codeAny (model prog w) A (.call (.ref f) ⟨pos, kw⟩) R s := by
  obtain ⟨st, lv⟩ := groundH F N M hd
  refine codeAny_call_def (fd := fnOf name qual params body scope dV kV doc pm an cdv ct) (body := body) (binds := binds) hroom ((X.keeps F.keep) _ _ ho) rfl (T.nolimit.keeps F.keep) (codeRec_of (X.keeps F.keep) hcd) rfl hbind hcell hloc (fun h₁ hns hk₁ => ?_) hco hgen hk
  refine wpAny_mono (h _ s.heap.objs.size h₁ ⟨hns, fun b o e => hk₁ b o (of_hideAll _ e), Nat.le_of_eq (hideAll_size _ _)⟩
    (fun q hq => ⟨hk₁ _ _ (N q hq).1, Nat.ne_of_lt (Heap.lt_size (N q hq).1), hideAll_none _ (List.mem_map_of_mem hq)⟩) (X.keeps st) (T.keeps st)) (fun fl s' hl => ?_) fun _ _ y => y.elim
  obtain ⟨L', m', own', F', M, k⟩ := hl
  obtain ⟨a, b⟩ := lv _ _ _ _ F' M
  exact k a b
end
example : True := by k_with_none; trivial
example : True := by (k_with "MY_ENTER" => (refine' codeH (by assumption) (by assumption) (by assumption) (by assumption) (by k_is) (by k_is) (by first | assumption | ((try simp only [depth_under_make, depth_under_kw, depth_in1, depth_deeper]); omega)) (by first | exact BindsTo.of_eq rfl | exact binds_K (by k_in) rfl (by k_is) rfl rfl rfl) (by exact locs rfl) (by decide) ?_ (by exact rfl) (by exact rfl) (by exact rfl); intro zg zL zh _ zF zN zX zT; (try dsimp only))); trivial
example : True := by (k_with "call ref" => (k_here; k_dflt (refine wpAny_call ?_; walk_at "MY_ENTER"))); trivial
example : True := by (k_with "LeaveC" => (k_dflt (refine leaveC_ (by assumption) (by assumption) ?_); intro kF kN; ground_anew kF; (have kX := kFor kF (by k_asm)); (try dsimp only))); trivial
section
variable {prog : Program} {w : World} {A : Around} {s : Shared} {Q : Value → Shared → Prop} {E : Value → Shared → Prop} {R : Result → Shared → Prop} {p : Program} {loose : List Str} {mg mb : Str → Option Value} {h₀ : Heap} {L x dx : Addr} {m : Str → Option Value} {rest : List (Addr × Obj)} {B : Str} {t : Tok}
set_option maxHeartbeats 4000000 in
theorem sio_init (F : Fr h₀ L s.heap m) (N : News h₀ L s.heap [(x, instObj 641 dx), (dx, emptyDict)]) (M : News h₀ L s.heap rest) (hd : ∀ q ∈ rest, q.1 ∉ List.map (fun (x : Addr × Obj) => x.1) [(x, instObj 641 dx), (dx, emptyDict)]) (hne : @Nat.lt dx x) (X : (Mine.hd.heap_39 w.params).In h₀) (T : TopRead p loose mg mb h₀) (hroom : A.depth + 20 < recursionLimit)
    (h : ∀ h' tk g1 g2 g3 t1 t2 t3 u1 u2 u3, Fr h₀ L h' m → News h₀ L h' ([(x, instObj 641 dx), (dx, sioOf g1 g2 g3 t1 t2 t3 u1 u2 B 0 u3)] ++ rest) → R (.ok (.ret .none)) { s with heap := h', toks := tk }) :
    codeAny (model prog w) A (.call (.ref 411) ⟨[.ref x, .str B t], []⟩) R s := by
  have hr' : A.depth < recursionLimit := by omega
  have hne' : @Ne Nat x dx := Nat.ne_of_gt hne
  have hne2 : @Ne Nat dx x := Nat.ne_of_lt hne
  k_dflt (refine' codeHR F N M hd X T ?k1 ?k2 hr' ?k3 ?k4 ?k5 ?_ ?c1 ?c2 ?c3; (case k1 => k_is); (case k2 => k_is); (case k3 => first | exact BindsTo.of_eq rfl | exact binds_K (by k_in) rfl (by k_is) rfl rfl rfl); (case k4 => exact locs rfl); (case k5 => decide); (case c1 => exact rfl); (case c2 => exact rfl); (case c3 => exact rfl); intro g L' h₁ F₁ N₁ X₁ T₁; (try dsimp only))
  k_steps
  exact ⟨_, _, _, by assumption, by assumption, fun F₂ N₂ => h _ _ _ _ _ _ _ _ _ _ _ F₂ N₂⟩
/-- StringIO(text) -/
theorem make_sio {own : List (Addr × Obj)} (F : Fr h₀ L s.heap m) (N : News h₀ L s.heap own) (X : (Mine.hd.heap_39 w.params).In h₀) (T : TopRead p loose mg mb h₀) (hroom : A.depth + 60 < recursionLimit)
    (h : ∀ x dx h' tk g1 g2 g3 t1 t2 t3 u1 u2 u3, Fr h₀ L h' m → News h₀ L h' ((x, instObj 641 dx) :: (dx, sioOf g1 g2 g3 t1 t2 t3 u1 u2 B 0 u3) :: own) → (∀ p ∈ own, p.1 < dx) → dx < x → Q (.ref x) { s with heap := h', toks := tk }) :
    wpAny (model prog w) A (call (.ref 641) [.str B t]) Q E s := by
  refine wpAny_call (make641 F N X T (by omega) fun x dx h' tk F' N' l1 l2 => ?_)
  have hne : dx ≠ x := Nat.ne_of_lt l2
  refine sio_init (rest := own) F' (fun q hq => N' q ?_) (fun q hq => N' q (List.mem_cons_of_mem _ (List.mem_cons_of_mem _ hq))) (fun q hq hm => ?_) l2 X T ?_ fun h2 tk2 g1 g2 g3 t1 t2 t3 u1 u2 u3 F2 N2 => ⟨rfl, h x dx h2 tk2 g1 g2 g3 t1 t2 t3 u1 u2 u3 F2 N2 l1 l2⟩
  · rcases List.mem_cons.mp hq with rfl | hq
    · exact List.Mem.head _
    · rw [List.mem_singleton.mp hq]; exact List.Mem.tail _ (List.Mem.head _)
  · have := l1 q hq
    simp only [List.map_cons, List.map_nil, List.mem_cons, List.not_mem_nil, or_false] at hm
    rcases hm with e | e
    · rw [e] at this; exact Nat.lt_irrefl _ (Nat.lt_trans l2 this)
    · rw [e] at this; exact Nat.lt_irrefl _ this
  · simp only [depth_under_make]; omega
end
example : True := by k_with_none; trivial
end Mine
end
section
open PySem PySem.W PyProof.Rows PySem.Calls PySem.Spec
set_option maxRecDepth 100000
namespace Mine
/-- what is known of the object's own dict while it is being filled -/
structure HasA (es : List DictEntry) (l : AEnv) : Prop where
  at_ : ∀ a v, l.lookup a = some v → ∃ t, getL a es = some (some (v.enc t))
  keys : ∀ e ∈ es, ∃ a ∈ lexNames, ∃ t, e.key = .str a t
  len : es.length ≤ l.length
theorem HasA.nil : HasA [] [] := ⟨fun _ _ h => (nomatch h), fun _ h => (nomatch h), Nat.le_refl _⟩
theorem getL_put_any (a : Str) (hs : Int) (t : Tok) (v : Value) : ∀ es : List DictEntry, getL a (putL a hs (.str a t) v es) = some (some v)
  | [] => getL_some.mpr ⟨⟨hs, .str a t, v⟩, by
      show List.find? _ [_] = _
      rw [List.find?_cons_of_pos]
      exact beq_self_eq_true a, rfl⟩
  | e :: r => by
    by_cases he : e.key.isStr a = true
    · exact (getL_put_self a hs t v (e :: r) ⟨e.val, getL_some.mpr ⟨e, by rw [List.find?_cons, he], rfl⟩⟩).1
    · have he' : e.key.isStr a = false := by simpa using he
      obtain ⟨x, hx, ex⟩ := getL_some.mp (getL_put_any a hs t v r)
      refine getL_some.mpr ⟨x, ?_, ex⟩
      show List.find? _ (if e.key.isStr a then _ else _) = _
      rw [if_neg he, List.find?_cons, he']
      exact hx
theorem putL_len (a : Str) (hs : Int) (k v : Value) : ∀ es : List DictEntry, (putL a hs k v es).length ≤ es.length + 1
  | [] => Nat.le_refl _
  | e :: r => by
    have ih := putL_len a hs k v r
    show (if e.key.isStr a then _ else _ : List DictEntry).length ≤ _
    split
    · simp
    · simp only [List.length_cons]; omega
theorem putL_keys' {names : List Str} {a : Str} {hs : Int} {t : Tok} {v : Value} (ha : a ∈ names) : ∀ {es : List DictEntry}, (∀ e ∈ es, ∃ a ∈ names, ∃ t, e.key = .str a t) → ∀ e ∈ putL a hs (.str a t) v es, ∃ a ∈ names, ∃ t, e.key = .str a t
  | [], _, e, he => by
    have he : e ∈ [(⟨hs, .str a t, v⟩ : DictEntry)] := he
    rw [List.mem_singleton.mp he]; exact ⟨a, ha, t, rfl⟩
  | x :: r, h, e, he => by
    have he : e ∈ (if x.key.isStr a then (⟨x.hash, x.key, v⟩ : DictEntry) :: r else x :: putL a hs (.str a t) v r) := he
    split at he
    · rcases List.mem_cons.mp he with rfl | he
      · exact h x (List.Mem.head _)
      · exact h e (List.mem_cons_of_mem _ he)
    · rcases List.mem_cons.mp he with rfl | he
      · exact h _ (List.Mem.head _)
      · exact putL_keys' ha (fun e he => h e (List.mem_cons_of_mem _ he)) e he
theorem HasA.set {es : List DictEntry} {l : AEnv} {a : Str} {v : AV} {hs : Int} {t u : Tok} (H : HasA es l) (ha : a ∈ lexNames) : HasA (putL a hs (.str a t) (v.enc u) es) ((a, v) :: l) where
  at_ := fun b w hw => by
    by_cases hb : b = a
    · subst hb
      rw [List.lookup_cons, beq_self_eq_true] at hw
      cases hw
      exact ⟨u, getL_put_any _ _ _ _ es⟩
    · rw [List.lookup_cons, beq_false_of_ne hb] at hw
      obtain ⟨t', e⟩ := H.at_ b w hw
      exact ⟨t', getL_put_other hb _ _ _ es _ e⟩
  keys := putL_keys' ha H.keys
  len := Nat.le_trans (putL_len _ _ _ _ es) (Nat.succ_le_succ H.len)
theorem HasA.isSome {es : List DictEntry} {l : AEnv} (H : HasA es l) (a : Str) : (getL a es).isSome = true := by
  have h2 : es.any (·.refKey) = false := by
    rw [List.any_eq_false]
    intro e he
    obtain ⟨a, ha, t, e'⟩ := H.keys e he
    unfold DictEntry.refKey
    rw [e']
    simp
  unfold getL
  rw [h2]
  cases es.find? (·.key.isStr a) <;> rfl
theorem updF_upd {d : Addr} {o o' : Obj} : ∀ {l : List (Addr × Obj)} {g : Obj → List (Addr × Obj)}, UpdF d o l g → Upd d o o' l (g o')
  | _, _, .head h => .head h
  | _, _, .tail h k => .tail h (updF_upd k)
theorem updF_mem {d : Addr} {o : Obj} : ∀ {l : List (Addr × Obj)} {g : Obj → List (Addr × Obj)}, UpdF d o l g → (d, o) ∈ l
  | _, _, .head _ => .head _
  | _, _, .tail _ k => .tail _ (updF_mem k)
theorem enc_str {y : Str} {t : Tok} : Value.str y t = (AV.str y).enc t := rfl
theorem enc_bool {b : Bool} : Value.bool b = (AV.bool b).enc 0 := rfl
theorem enc_int {i : Int} {t : Tok} : Value.int i t = (AV.int i).enc t := rfl
theorem enc_none : Value.none = AV.none.enc 0 := rfl
theorem enc_ref {a : Addr} : Value.ref a = (AV.ref a).enc 0 := rfl
section
variable {prog : Program} {w : World} {A : Around} {s : Shared} {E : Value → Shared → Prop} {h₀ : Heap} {L x dx : Addr} {m : Str → Option Value} {news : List (Addr × Obj)} {es : List DictEntry} {n : Nat} {l : AEnv} {a : Str} {u : Value} {v : AV} {t : Tok} {g : Obj → List (Addr × Obj)} {expr : Bool}
theorem set_A {Q : Unit → Shared → Prop} (H : HasA es l) (F : Fr h₀ L s.heap m) (X : (Mine.hd.heap_39 w.params).In h₀) (N : News h₀ L s.heap news) (hx : (x, instObj 776 dx) ∈ news) (U : UpdF dx (dictOf es n) news g) (hu : u = v.enc t) (ha : lexNames.contains a = true) (hl : l.length ≤ 100)
    (h : ∀ h' tk es' n', Fr h₀ L h' m → News h₀ L h' (g (dictOf es' n')) → HasA es' ((a, v) :: l) → Q () { s with heap := h', toks := tk }) : wpAny (model prog w) A (setAttr (.ref x) a u) Q E s := by
  subst hu
  have hm := List.contains_iff_mem.mp ha
  have hL := H.set (hs := PyData.keyHash w.params a) (t := s.toks + 1) (v := v) (u := t) hm
  refine set_dict F X N (InstAt.of_news N hx (updF_mem U)) rfl (stat_lex w).sa (stat_lex w).po ?_ (stat_lex w).hd (H.isSome a) rfl (updF_upd U) (Nat.le_trans hL.len (by rw [List.length_cons]; omega)) fun h' F' N' => h h' _ _ _ F' N' hL
  unfold takerIn
  rw [(stat_lex w).no a hm]; rfl
theorem get_A {Q : Value → Shared → Prop} (H : HasA es l) (F : Fr h₀ L s.heap m) (X : (Mine.hd.heap_39 w.params).In h₀) (N : News h₀ L s.heap news) (hx : (x, instObj 776 dx) ∈ news) (hd : (dx, dictOf es n) ∈ news) (hv : l.lookup a = some v) (ha : lexNames.contains a = true)
    (h : ∀ t, Q (v.enc t) { s with toks := s.toks + 1 }) : wpAny (model prog w) A (getAttr (.ref x) a true) Q E s := by
  obtain ⟨t, e⟩ := H.at_ a v hv
  refine get_own F X (InstAt.of_news N hx hd) (stat_lex w).pg (stat_lex w).hd ((stat_lex w).no a (List.contains_iff_mem.mp ha)) (by rfl) e ?_ (h t)
  cases v <;> rfl
theorem get_Ab {b : Bool} {Q : Value → Shared → Prop} (H : HasA es l) (F : Fr h₀ L s.heap m) (X : (Mine.hd.heap_39 w.params).In h₀) (N : News h₀ L s.heap news) (hx : (x, instObj 776 dx) ∈ news) (hd : (dx, dictOf es n) ∈ news) (hv : l.lookup a = some (.bool b)) (ha : lexNames.contains a = true)
    (h : Q (.bool b) { s with toks := s.toks + 1 }) : wpAny (model prog w) A (getAttr (.ref x) a true) Q E s := get_A H F X N hx hd hv ha fun _ => h
theorem get_As {y : Str} {Q : Value → Shared → Prop} (H : HasA es l) (F : Fr h₀ L s.heap m) (X : (Mine.hd.heap_39 w.params).In h₀) (N : News h₀ L s.heap news) (hx : (x, instObj 776 dx) ∈ news) (hd : (dx, dictOf es n) ∈ news) (hv : l.lookup a = some (.str y)) (ha : lexNames.contains a = true)
    (h : ∀ t, Q (.str y t) { s with toks := s.toks + 1 }) : wpAny (model prog w) A (getAttr (.ref x) a true) Q E s := get_A H F X N hx hd hv ha h
end
/-- the attributes that are known give what the object is to hold -/
theorem HasA.attr {es : List DictEntry} {l : AEnv} {st pb fs : Addr} {lx : Lx} (H : HasA es l) (h1 : (lxAv st pb fs lx).all (fun p => lexNames.contains p.1) = true) (h2 : (lxAv st pb fs lx).map (fun p => l.lookup p.1) = (lxAv st pb fs lx).map (fun p => some p.2)) (h3 : refsOf (lxAv st pb fs lx) = [pb, fs])
    (h4 : (lxAv st pb fs lx).lookup (Str.ofString "instream") = none) (h5 : lexNames.contains (Str.ofString "instream") = true) (h6 : l.lookup (Str.ofString "instream") = some (.ref st)) : AttrOK lexNames (fxL st) (Dp pb fs) (lxAv st pb fs lx) es where
  at_ := fun a v h => by
    have hm := mem_of_lookup h
    refine ⟨List.contains_iff_mem.mp (List.all_eq_true.mp h1 _ hm), H.at_ a v (List.map_inj_left.mp h2 _ hm), fun b e => ?_⟩
    have hb := mem_refsOf (n := a) (e ▸ hm)
    rw [h3] at hb
    rcases List.mem_cons.mp hb with rfl | hb
    · exact .inl rfl
    · exact .inr (List.mem_singleton.mp hb)
  stays := fun q hq => by
    unfold fxL at hq
    rw [List.mem_singleton.mp hq]
    obtain ⟨t, e⟩ := H.at_ _ _ h6
    exact ⟨h4, List.contains_iff_mem.mp h5, e⟩
  keys := H.keys
end Mine
end
section
open PySem PySem.W PyProof.Rows PySem.Calls PySem.Spec
set_option maxRecDepth 100000
namespace Mine
example : True := by k_with_none; trivial
example : True := by (k_with "MY_ENTER" => (refine' codeH (by assumption) (by assumption) (by assumption) (by assumption) (by k_is) (by k_is) (by first | assumption | ((try simp only [depth_under_make, depth_under_kw, depth_in1, depth_deeper]); omega)) (by first | exact BindsTo.of_eq rfl | exact binds_K (by k_in) rfl (by k_is) rfl rfl rfl) (by exact locs rfl) (by decide) ?_ (by exact rfl) (by exact rfl) (by exact rfl); intro zg zL zh _ zF zN zX zT; (try dsimp only))); trivial
example : True := by (k_with "call ref" => (k_here; k_dflt (first
  | (refine' make_sio (by k_asm) (by k_asm) (by k_asm) (by k_asm) (by (try simp only [depth_under_make, depth_under_kw, depth_in1, depth_deeper]); omega) ?_; intro x' d' h' t' zg1 zg2 zg3 zt1 zt2 zt3 zu1 zu2 zu3 F' N' l1 l2; (try k_lt l1); (try k_lt2 l2); (try k_sweep))
  | (refine' call_cls (by k_asm) (by k_asm) (by k_asm) (by k_is) (by k_is) (by k_is) ?_; k_whole; intro x' d' h' F' N' l1 l2; (have zHA := HasA.nil); (try k_lt l1); (try k_lt2 l2); (try k_sweep); walk_at "MY_ENTER")
  | (refine wpAny_call ?_; walk_at "MY_ENTER")))); trivial
example : True := by (k_with "LeaveC" => (k_dflt (refine leaveC_ (by assumption) (by assumption) ?_); intro kF kN; ground_anew kF; (have kX := kFor kF (by k_asm)); (try dsimp only [InitBack]); (try refine ⟨rfl, ?_⟩); (try dsimp only))); trivial
example : True := by (k_with "setAttr ref" => (k_here; k_dflt (refine' set_A (by assumption) (by k_asm) (by assumption) (by k_asm) (by k_mem) (by k_updF) (by first | exact enc_str | exact enc_bool | exact enc_int | exact enc_none | exact enc_ref) (by kernel_rfl) (by exact Nat.le_of_ble_eq_true rfl) ?_); intro zh' ztk zes zn zF' zN' zHA; (try dsimp only at zN'); (try k_sweep))); trivial
example : True := by (k_with "getAttr ref" => (k_here; k_dflt (first
  | refine' get_Ab (by assumption) (by k_asm) (by assumption) (by k_asm) (by k_mem) (by k_mem) (by rfl) (by kernel_rfl) ?_
  | (refine' get_As (by assumption) (by k_asm) (by assumption) (by k_asm) (by k_mem) (by k_mem) (by rfl) (by kernel_rfl) ?_; intro zt'')))); trivial
example : True := by (k_with "call type:collections.deque" => (k_here; k_dflt (refine' call_dequeN (by k_asm) (by k_asm) ?_); intro a' h' F' N' l1; (try k_lt l1); (try k_sweep))); trivial
section
variable {prog : Program} {w : World} {A : Around} {s : Shared} {Q : Value → Shared → Prop} {E : Value → Shared → Prop} {p : Program} {loose : List Str} {mg mb : Str → Option Value} {h₀ : Heap} {L : Addr} {m : Str → Option Value} {own : List (Addr × Obj)} {B : Str} {t : Tok} {ts : List Str} {envo : Env}
set_option maxHeartbeats 4000000 in
theorem call_split (F : Fr h₀ L s.heap m) (N : News h₀ L s.heap own) (X : (Mine.hd.heap_39 w.params).In h₀) (T : TopRead p loose mg mb h₀) (hroom : A.depth + 100 < recursionLimit) (hh : A.handled = none)
    (hA : A.frames = some [envo]) (hfo : envo.frame = some L) (hko : envo.scope.kind ≠ .module) (hB : B.length ≤ 100000) (hn : ts.length ≤ 100000) (hts : Toks ⟨false, B.cps.toList⟩ ts)
    (h : ∀ S h' tk acc c, Fr h₀ L h' m → News h₀ L h' ((S, ListObj acc c) :: own) → (∀ q ∈ own, q.1 ≠ S) → StrsAre acc.toList ts → Q (.ref S) { s with heap := h', toks := tk }) :
    wpAny (model prog w) A (call (.ref 788) [.str B t]) Q E s := by
  have hr' : A.depth < recursionLimit := by omega
  k_dflt (refine' callHL F N X T ?k1 ?k2 hr' ?k3 ?k4 ?k5 ?_ ?c1 ?c2 ?c3; (case k1 => k_is); (case k2 => k_is); (case k3 => first | exact BindsTo.of_eq rfl | exact binds_K (by k_in) rfl (by k_is) rfl rfl rfl); (case k4 => exact locs rfl); (case k5 => decide); (case c1 => exact rfl); (case c2 => exact rfl); (case c3 => exact rfl); intro g oL L' h₁ hoL F₁ N₁ G₁ X₁ T₁; (try dsimp only))
  k_steps
  rename Fr g L' _ _ => kF
  rename News g L' _ _ => kN
  rename Fr g L' _ _ => kF
  rename News g L' _ _ => kN
  rename HasA _ _ => kH
  k_dflt (refine' split_end (envo := envo) ?hX T₁ kF kN ?hR (kH.attr ?h1 ?h2 ?h3 ?h4 ?h5 ?h6) ?h8 ?hne ?hnp ?hnq ?hnL hoL hroom hh hA ?hf ?hke hfo hko hB hn hts h)
  case hX => assumption
  case hf => rfl
  case hke => exact fun e => by cases e
  case hne => refine ⟨?_, ?_, ?_, ?_, ?_, ?_⟩ <;> omega
  case hnp => refine ⟨?_, ?_, ?_, ?_⟩ <;> omega
  case hnq => refine ⟨?_, ?_, ?_, ?_⟩ <;> omega
  case hnL => refine ⟨?_, ?_, ?_, ?_, ?_, ?_⟩ <;> omega
  case h1 => kernel_rfl
  case h2 => kernel_rfl
  case h3 => kernel_rfl
  case h4 => kernel_rfl
  case h5 => kernel_rfl
  case h6 => kernel_rfl
  case h8 => exact Nat.le_trans kH.len (Nat.le_of_ble_eq_true rfl)
  case hR => exact ⟨_, _, _, _, _, _, _, _, _, 0, rfl, Nat.zero_le _, rfl⟩
end
example : True := by k_with_none; trivial
end Mine
end
section
open PySem PySem.W PyProof.Rows PySem.Calls PySem.Spec
set_option maxRecDepth 100000
namespace Mine
theorem sz0 : Str.empty.length ≤ sizeLine := by size_fits
local macro_rules | `(tactic| size_fits) => `(tactic| with_reducible exact sz0)
abbrev mwObj (id : String) (a : Addr) : Obj := { cls := .type "method-wrapper", data := .fields #[.builtin id, .ref a] }
theorem wd_get : Slot "wrapper_descriptor" "__get__" "wrapper_descriptor.__get__" :=
  .of (owner := "wrapper_descriptor") (n := "__get__") (by rw [typeLookup_type, builtinLookup_eq_fast]; kernel_rfl) (by decide +kernel) (by decide +kernel) (by decide +kernel)
    (by first | exact .inl (by decide +kernel) | exact .inr (by decide +kernel)) (by rw [isSubtype_type]; kernel_rfl)
theorem wd_entry : entryFor table "wrapper_descriptor.__get__" = some Builtin.«wrapper_descriptor.__get__» := entryFor_of_tree (by kernel_rfl)
theorem wd_args (a b c : Value) : argsOk "wrapper_descriptor.__get__" ⟨[a, b, c], []⟩ := by unfold argsOk; kernel_rfl
theorem wd_set : typeLookup (.type "wrapper_descriptor") "__set__" = pure none := by rw [typeLookup_type, builtinLookup_eq_fast]; kernel_rfl
theorem wd_del : typeLookup (.type "wrapper_descriptor") "__delete__" = pure none := by rw [typeLookup_type, builtinLookup_eq_fast]; kernel_rfl
theorem lc_find : typeLookup (.type "list") "__contains__" = pure (some (.builtin "list.__contains__")) := by rw [typeLookup_type, builtinLookup_eq_fast]; kernel_rfl
theorem lc_type : typeOf (.builtin "list.__contains__") = pure (.type "wrapper_descriptor") := by kernel_rfl
theorem sub_list : isSubtype (.type "list") (.type "list") = pure true := by rw [isSubtype_type]; kernel_rfl
theorem tc_find : typeLookup (.type "tuple") "__contains__" = pure (some (.builtin "tuple.__contains__")) := by rw [typeLookup_type, builtinLookup_eq_fast]; kernel_rfl
theorem tcn_type : typeOf (.builtin "tuple.__contains__") = pure (.type "wrapper_descriptor") := by kernel_rfl
theorem sub_tuple : isSubtype (.type "tuple") (.type "tuple") = pure true := by rw [isSubtype_type]; kernel_rfl
section
variable {prog : Program} {w : World} {A : Around} {E : Value → Shared → Prop} {s : Shared}
theorem wd_seq {ty id : String} (e1 : typeOf (.builtin id) = pure (.type "wrapper_descriptor")) (e2 : (".".intercalate (id.cutAt '.').dropLast) = ty) (hs : isSubtype (.type ty) (.type ty) = pure true) {a : Addr} {xs : Array Value} {k : Nat} {Q : Value → Shared → Prop} (hx : s.heap.get? a = some { cls := .type ty, data := .seq xs k }) (h : Q (.ref s.heap.objs.size) { s with heap := s.heap.push (mwObj id a) }) :
    wpAny (model prog w) A (call (.builtin "wrapper_descriptor.__get__") [.builtin id, .ref a, .type ty]) Q E s := by
  refine wpAny_call_entry wd_get (show Shared.TypeIs _ (.builtin id) _ from e1) wd_entry ?_ (wd_args _ _ _)
  have hT : s.TypeIs (.ref a) ty := ⟨_, hx, rfl⟩
  obtain ⟨hp, g, d, tk, os⟩ := s
  unfold Builtin.«wrapper_descriptor.__get__»
  repeat (any_goals (first | assumption | wp_step))
  rw [e2, hs]
  repeat (any_goals (first | assumption | wp_step))
  all_goals exact ⟨_, rfl, h⟩
theorem meets_contains {ty id : String} (e1 : typeOf (.builtin id) = pure (.type "wrapper_descriptor")) (e2 : (".".intercalate (id.cutAt '.').dropLast) = ty) (e3 : isSubtype (.type ty) (.type ty) = pure true) (f1 : typeLookup (.type ty) "__contains__" = pure (some (.builtin id))) (a : Addr) (xs : Array Value) (k : Nat) (u : Tok) :
    Meets (Builtin.«object.__getattribute__» ⟨[.ref a, .str (Str.ofString "__contains__") u], []⟩) (fun A R s => s.heap.get? a = some { cls := .type ty, data := .seq xs k } ∧ R (.ok (.ret (.ref s.heap.objs.size))) { s with heap := s.heap.push (mwObj id a) }) :=
  Meets.of_wp fun prog w A R s hs => by
    obtain ⟨hp, g, d, tk, os⟩ := s
    obtain ⟨hx, hs⟩ := hs
    have hT : (⟨hp, g, d, tk, os⟩ : Shared).TypeIs (.ref a) ty := ⟨_, hx, rfl⟩
    have f2 := e1
    have f3 := wd_get.lookup
    have f4 := wd_set
    have f5 := wd_del
    unfold Builtin.«object.__getattribute__»
    repeat (any_goals (first | assumption | ((with_reducible show wpAny _ _ (call (Value.builtin "wrapper_descriptor.__get__") _ _) _ _ _); refine wd_seq e1 e2 e3 hx ?_) | wp_step))
    all_goals exact ⟨_, rfl, hs⟩
theorem gc_seq {ty ga id : String} (sl : Slot ty "__getattribute__" ga) (en : entryFor table ga = some Builtin.«object.__getattribute__») (ar : ∀ a b, argsOk ga ⟨[a, b], []⟩) (hn : (Value.builtin ga == Value.builtin "object.__getattribute__") = false)
    (f5 : typeLookup (.type ty) "__getattr__" = pure none) (e1 : typeOf (.builtin id) = pure (.type "wrapper_descriptor")) (e2 : (".".intercalate (id.cutAt '.').dropLast) = ty) (e3 : isSubtype (.type ty) (.type ty) = pure true) (f1 : typeLookup (.type ty) "__contains__" = pure (some (.builtin id)))
    {a : Addr} {xs : Array Value} {k : Nat} {Q : Value → Shared → Prop} (hx : s.heap.get? a = some { cls := .type ty, data := .seq xs k })
    (h : ∀ tk, Q (.ref s.heap.objs.size) { s with heap := s.heap.push (mwObj id a), toks := tk }) : wpAny (model prog w) A (getAttr (.ref a) (Str.ofString "__contains__") true) Q E s := by
  obtain ⟨hp, g, d, tk, os⟩ := s
  have hT : ∀ tk', (⟨hp, g, d, tk', os⟩ : Shared).TypeIs (.ref a) ty := fun _ => ⟨_, hx, rfl⟩
  have f3 := sl.lookup
  have f4 := sl.bind (.ref a)
  unfold getAttr getAttrBy
  repeat (any_goals (first | assumption | exact hT _ | ((with_reducible show wpAny _ _ (call (Value.builtin ga) _ _) _ _ _); refine call_meets sl (hT _) en (ar _ _) (meets_contains e1 e2 e3 f1 a xs k _) ⟨hx, ?_⟩) | ((with_reducible show wpAny _ _ (handedOut _) _ _ _); refine handed_on rfl ?_) | with_reducible_and_instances refine wpAny_bind ?_ | ((with_reducible show wpAny _ _ (getAttrByItsOwn _ _ _ _ _ _) _ _ _); wp_delta) | ((with_reducible show wpAny _ _ (ite _ _ _) _ _ _); simp only [hn, Bool.and_false, Bool.false_eq_true, if_false]) | wp_step))
  all_goals exact h _
theorem gc_list {a : Addr} {xs : Array Value} {k : Nat} {Q : Value → Shared → Prop} (hx : s.heap.get? a = some { cls := .type "list", data := .seq xs k })
    (h : ∀ tk, Q (.ref s.heap.objs.size) { s with heap := s.heap.push (mwObj "list.__contains__" a), toks := tk }) : wpAny (model prog w) A (getAttr (.ref a) (Str.ofString "__contains__") true) Q E s :=
  gc_seq F.slot_list_getattribute am_entry_list_getattribute F.args_list_getattribute_2 (by decide +kernel) am_list_getattr_none lc_type (by decide +kernel) sub_list lc_find hx h
theorem gc_tuple {a : Addr} {xs : Array Value} {k : Nat} {Q : Value → Shared → Prop} (hx : s.heap.get? a = some { cls := .type "tuple", data := .seq xs k })
    (h : ∀ tk, Q (.ref s.heap.objs.size) { s with heap := s.heap.push (mwObj "tuple.__contains__" a), toks := tk }) : wpAny (model prog w) A (getAttr (.ref a) (Str.ofString "__contains__") true) Q E s :=
  gc_seq F.slot_tuple_getattribute am_entry_tuple_getattribute F.args_tuple_getattribute_2 (by decide +kernel) am_tuple_getattr_none tcn_type (by decide +kernel) sub_tuple tc_find hx h
end
end Mine
end
section
open PySem PySem.W PyProof.Rows PySem.Calls PySem.Spec
set_option maxRecDepth 100000
namespace Mine
theorem cb_list (a : Addr) (x : Str) (t : Tok) : checkBoundCall "list.__contains__" ⟨[.ref a, .str x t], []⟩ = pure () := by kernel_rfl
theorem cb_tuple (a : Addr) (x : Str) (t : Tok) : checkBoundCall "tuple.__contains__" ⟨[.ref a, .str x t], []⟩ = pure () := by kernel_rfl
theorem plain_lc : plainId "list.__contains__" = true := by decide +kernel
theorem plain_tc : plainId "tuple.__contains__" = true := by decide +kernel
/-- the texts to be left out: a list or a tuple -/
noncomputable def Skip (h : Heap) (a : Addr) (id : String) (ys : List Str) : Prop :=
  (id = "list.__contains__" ∧ ∃ xs k, h.get? a = some { cls := .type "list", data := .seq xs k } ∧ StrsAre xs.toList ys) ∨
  (id = "tuple.__contains__" ∧ ∃ xs k, h.get? a = some { cls := .type "tuple", data := .seq xs k } ∧ StrsAre xs.toList ys)
theorem Skip.keep {h h' : Heap} {a : Addr} {id : String} {ys : List Str} (S : Skip h a id ys) (k : ∀ b o, h.get? b = some o → h'.get? b = some o) : Skip h' a id ys := by
  rcases S with ⟨e, xs, n, hx, hs⟩ | ⟨e, xs, n, hx, hs⟩
  · exact .inl ⟨e, xs, n, k _ _ hx, hs⟩
  · exact .inr ⟨e, xs, n, k _ _ hx, hs⟩
section
variable {prog : Program} {w : World} {A : Around} {E : Value → Shared → Prop} {s : Shared} {Q : Value → Shared → Prop}
theorem bound_call {u a : Addr} {id : String} {x : Str} {t : Tok} {b : Builtin} (hm : s.heap.get? u = some (mwObj id a)) (hc : checkBoundCall id ⟨[.ref a, .str x t], []⟩ = pure ()) (hp : plainId id = true) (hb : entryFor table id = some b)
    (h : wpAny (model prog w) A.in1 (b ⟨[.ref a, .str x t], []⟩) (fun fin s' => match fin with | .done f => (match f with | .ret v => Q v s' | _ => False) | .again c' => c'.quiet = true ∧ codeAny (model prog w) A c' (wants Q E) s') E s) :
    wpAny (model prog w) A (call (.ref u) [.str x t]) Q E s := by
  refine wpAny_call (codeAny_of_tree ?_)
  show wpAny _ _ (callAny (.ref u) ⟨[.str x t], []⟩) _ _ s
  unfold callAny
  refine wpAny_bind (wpAny_load hm ?_)
  show wpAny _ _ (if (Value.type "method-wrapper" == Value.type "method" || Value.type "method-wrapper" == Value.type "builtin_function_or_method" || Value.type "method-wrapper" == Value.type "method-wrapper") = true then _ else _) _ _ _
  rw [if_pos (by decide)]
  dsimp only
  show wpAny _ _ (if (Value.type "method-wrapper" != Value.type "method") = true then _ else _) _ _ _
  rw [if_pos (by decide)]
  refine wpAny_bind (wpAny_of_eq hc (wpAny_pure ⟨plainId_quiet hp _, codeAny_builtin hb ?_⟩))
  rw [Around.under_plainId hp _]
  refine wpAny_mono h (fun fin s' h' => ?_) fun _ _ x => x
  cases fin with
  | done f => cases f <;> exact h'
  | again c => exact h'
theorem call_skip {u a : Addr} {id : String} {x : Str} {t : Tok} {ys : List Str} (hm : s.heap.get? u = some (mwObj id a)) (hS : Skip s.heap a id ys) (h : Q (.bool (ys.any (· == x))) s) :
    wpAny (model prog w) A (call (.ref u) [.str x t]) Q E s := by
  rcases hS with ⟨rfl, xs, k, hl, hi⟩ | ⟨rfl, xs, k, hl, hi⟩
  · refine bound_call hm (cb_list a x t) plain_lc entry_list_contains ?_
    have g := SeqInW.list_containsW a xs k none #[] (.str x t) (isStrOf x) (fun y hy => eq_isStrOf x t hi y (by simpa using hy)) prog w A (wants Q E) s ⟨hl, by
      show Q (.bool (xs.any (isStrOf x))) s
      rw [← Array.any_toList, any_isStrOf x hi]; exact h⟩
    refine wpAny_mono g (fun fin s' h' => ?_) fun _ _ x => x
    cases fin with
    | done f => cases f <;> exact h'
    | again c => exact h'
  · refine bound_call hm (cb_tuple a x t) plain_tc entry_tuple_contains (tuple_contains_strs ⟨_, hl, rfl, _, rfl⟩ hi ?_)
    exact h
theorem gc_skip {g : Heap} {L a : Addr} {m : Str → Option Value} {news : List (Addr × Obj)} {id : String} {ys : List Str} (F : Fr g L s.heap m) (N : News g L s.heap news) (S : Skip g a id ys)
    (h : ∀ q h' tk, Fr g L h' m → News g L h' ((q, mwObj id a) :: news) → (∀ p ∈ news, p.1 < q) → Q (.ref q) { s with heap := h', toks := tk }) : wpAny (model prog w) A (getAttr (.ref a) (Str.ofString "__contains__") true) Q E s := by
  rcases S.keep F.keep with ⟨rfl, xs, k, hl, hi⟩ | ⟨rfl, xs, k, hl, hi⟩
  · exact gc_list hl fun tk => h _ _ tk (F.push _) (N.push F _) fun p hp => Heap.lt_size (N p hp).1
  · exact gc_tuple hl fun tk => h _ _ tk (F.push _) (N.push F _) fun p hp => Heap.lt_size (N p hp).1
end
end Mine
end
section
open PySem PySem.W PyProof.Rows PySem.Calls PySem.Spec
set_option maxRecDepth 100000
namespace Mine
abbrev liObj (l : Value) (i : Nat) : Obj := { cls := .type "list_iterator", data := .fields #[l, .int i 0] }
section
variable {prog : Program} {w : World} {A : Around} {E : Value → Shared → Prop} {s : Shared} {g : Heap} {L l it : Addr} {m : Str → Option Value} {news pre post : List (Addr × Obj)} {xs : Array Value} {k i : Nat} {x : Value} {Q : Value → Shared → Prop}
theorem li_iter (F : Fr g L s.heap m) (N : News g L s.heap news) (hl : s.heap.IsList l xs)
    (h : ∀ q h', Fr g L h' m → News g L h' ((q, liObj (.ref l) 0) :: news) → (∀ p ∈ news, p.1 < q) → Q (.ref q) { s with heap := h' }) : wpAny (model prog w) A (call (.builtin "iter") [.ref l]) Q E s := by
  refine call_function_entry (by decide +kernel) (by decide +kernel) kdk_entry_iter (kdk_args_iter _) ?_
  unfold Builtin.«iter»
  refine wpAny_bind (m := someArgs "iter" 1 2 _) (wpAny_of_eq (a := [Value.ref l]) (by first | rfl | kernel_rfl!) ?_)
  show wpAny _ _ (pyIter (.ref l) >>= _) _ _ _
  refine wpAny_bind (wpAny_pyIter_list hl ?_)
  exact wpAny_pure ⟨_, rfl, h _ _ (F.push _) (News.push F N _ rfl) (fun q hq => Heap.lt_size (N q hq).1)⟩
theorem li_open (hit : s.heap.get? it = some (liObj (.ref l) i)) (hl : s.heap.IsList l xs)
    (h : wpAny (model prog w) A.in1.in1 (Builtin.«list_iterator.__next__» ⟨[.ref it], []⟩) (fun fin s' => ∃ v, fin = .done (.ret v) ∧ Q v s') E s) : wpAny (model prog w) A (call (.builtin "next") [.ref it]) Q E s := by
  have hT : s.heap.IsListIter it l i := ⟨_, hit, rfl, rfl⟩
  refine call_function_entry (by decide +kernel) (by decide +kernel) kdk_entry_next (kdk_args_next _) ?_
  unfold Builtin.«next»
  refine wpAny_bind (m := someArgs "next" 1 2 _) (wpAny_of_eq (a := [Value.ref it]) (by first | rfl | kernel_rfl!) ?_)
  dsimp only
  refine wpAny_bind (wpAny_specialOf (name := Str.ofString "__next__") hT.typeIs slot_listiter_next.lookup ?_)
  refine wpAny_ite_split (fun hab => absurd hab (by decide)) (fun _ => ?_)
  refine wpAny_bind (wpAny_callSpecial?_slot (name := Str.ofString "__next__") hT.typeIs slot_listiter_next
    (wpAny_call_entry slot_listiter_next hT.typeIs entry_listiter_next (wpAny_mono h (fun fin s' h' => ?_) fun _ _ z => z) (args_listiter_next _)))
  obtain ⟨v, rfl, hq⟩ := h'
  exact ⟨v, rfl, wpAny_pure ⟨_, rfl, hq⟩⟩
theorem li_item (F : Fr g L s.heap m) (N : News g L s.heap (pre ++ (it, liObj (.ref l) i) :: post)) (h1 : ∀ p ∈ pre, p.1 ≠ it) (h2 : ∀ p ∈ post, p.1 ≠ it) (hl : s.heap.IsList l xs) (hx : xs[i]? = some x)
    (h : ∀ h', Fr g L h' m → News g L h' (pre ++ (it, liObj (.ref l) (i + 1)) :: post) → Q x { s with heap := h' }) : wpAny (model prog w) A (call (.builtin "next") [.ref it]) Q E s := by
  have ho := (N _ (List.mem_append_right _ (List.Mem.head _))).1
  obtain ⟨ol, hol, _, nl, hdl⟩ := id hl
  refine li_open ho hl ?_
  show wpAny _ _ (field (.ref it) 0 >>= _) _ _ s
  refine wpAny_bind (wpAny_field ho rfl (x := .ref l) rfl ?_)
  show wpAny _ _ (if (Value.ref l == Value.none) = true then _ else _) _ _ s
  rw [if_neg (show ¬ ((Value.ref l == Value.none) = true) from Bool.false_ne_true)]
  show wpAny _ _ (field (.ref it) 1 >>= _) _ _ s
  refine wpAny_bind (wpAny_field ho rfl (x := .int i 0) rfl ?_)
  show wpAny _ _ (seqItems? (.ref l) >>= _) _ _ s
  refine wpAny_bind (wpAny_seqItems hol hdl ?_)
  simp only [Int.toNat_natCast, hx]
  refine wpAny_bind (wpAny_setField ho rfl (by show 1 < 2; decide) (wpAny_pure ⟨x, rfl, ?_⟩))
  obtain ⟨F', N'⟩ := upd_news F N h1 h2 (Heap.SameBut.update _ it (Obj.mapFields (·.setIfInBounds 1 (rawInt ((i : Int) + 1))))) (Heap.get?_update_self (Obj.mapFields (·.setIfInBounds 1 (rawInt ((i : Int) + 1)))) ho rfl)
  exact h _ F' N'
theorem li_end (hh : A.handled = none) (F : Fr g L s.heap m) (N : News g L s.heap (pre ++ (it, liObj (.ref l) i) :: post)) (h1 : ∀ p ∈ pre, p.1 ≠ it) (h2 : ∀ p ∈ post, p.1 ≠ it) (hl : s.heap.IsList l xs) (hx : xs[i]? = none)
    (h : ∀ h₂ h' e, Fr g L h₂ m → News g L h₂ (pre ++ (it, liObj .none i) :: post) → Heap.MadeExcOf h₂ h' e (.type "StopIteration") [] → E (.ref e) { s with heap := h' }) : wpAny (model prog w) A (call (.builtin "next") [.ref it]) Q E s := by
  have ho := (N _ (List.mem_append_right _ (List.Mem.head _))).1
  obtain ⟨ol, hol, _, nl, hdl⟩ := id hl
  refine li_open ho hl ?_
  show wpAny _ _ (field (.ref it) 0 >>= _) _ _ s
  refine wpAny_bind (wpAny_field ho rfl (x := .ref l) rfl ?_)
  show wpAny _ _ (if (Value.ref l == Value.none) = true then _ else _) _ _ s
  rw [if_neg (show ¬ ((Value.ref l == Value.none) = true) from Bool.false_ne_true)]
  show wpAny _ _ (field (.ref it) 1 >>= _) _ _ s
  refine wpAny_bind (wpAny_field ho rfl (x := .int i 0) rfl ?_)
  show wpAny _ _ (seqItems? (.ref l) >>= _) _ _ s
  refine wpAny_bind (wpAny_seqItems hol hdl ?_)
  simp only [Int.toNat_natCast, hx]
  obtain ⟨F', N'⟩ := upd_news F N h1 h2 (Heap.SameBut.update _ it (Obj.mapFields (·.setIfInBounds 0 .none))) (Heap.get?_update_self (Obj.mapFields (·.setIfInBounds 0 .none)) ho rfl)
  refine wpAny_bind (wpAny_rule (wpAny_bind (wpAny_setField ho rfl (by show 0 < 2; decide) ?_)))
  show wpAny _ _ (newExc (.type "StopIteration") [] >>= _) _ _ _
  refine wpAny_bind ?_
  simp only [newExc, newTuple]
  refine wpAny_bind (wpAny_newObj_type ?_ (by size_fits))
  refine wpAny_bind (m := firstArgMember _ _) (wpAny_of_eq (a := Value.none) (by first | rfl | (simp only [firstArgMember]; rfl)) ?_)
  refine wpAny_newObj_type ?_ (by size_fits)
  simp only [raiseNew]
  refine wpAny_bind (wpAny_handled ?_)
  rw [show A.in1.in1.handled = none from hh]
  refine wpAny_bind (wpAny_pure (wpAny_throw ?_))
  refine h _ _ _ F' N' ⟨fun b o e => Heap.get?_push_of_some _ (Heap.get?_push_of_some _ e), Heap.get?_none_of_le ?_, _, Heap.get?_push_size _ rfl, Heap.get?_none_of_le (Nat.le_refl _), Heap.get?_push_of_some _ (Heap.get?_push_size _ rfl)⟩
  show _ ≤ (Heap.push _ _).objs.size
  rw [Heap.size_push]
  exact Nat.le_succ _
end
end Mine
end
section
open PySem PySem.W PyProof.Rows PySem.Calls PySem.Spec
set_option maxRecDepth 100000
namespace Mine
example : True := by k_with_none; trivial
section
variable {M : Model} {A : Around} {E : Value → Shared → Prop} {s : Shared} {id : String} {a u : Addr} {pos : Pos} {first : List Value}
theorem mw_fields {args : List (Bool × Sem Value)} {Q : Value → Shared → Prop} (hplain : args.any (·.1) = false)
    (h : wpAny M A (evalArgs (.ref u) true args []) (fun x s₁ => s₁.heap.get? u = some (mwObj id a) ∧ wpAny M A (call (.ref u) (first ++ x.pos) x.kw) Q E s₁) E s) : wpAny M A (callWith pos (.ref u) first args []) Q E s := by
  unfold callWith
  refine wpAny_bind (wpAny_holding (wpAny_mono h (fun x s₁ h₁ => wpAny_bind (wpAny_standAt ?_)) fun _ _ x => x))
  obtain ⟨ho, hcall⟩ := h₁
  simp only [hplain, List.any_nil, Bool.or_false]
  refine wpAny_bind (m := keeperOf (.ref u)) ?_
  unfold keeperOf
  refine wpAny_bind (wpAny_load ho ?_)
  simp only [show (Value.type "method-wrapper" != Value.type "method") = true by decide, show (Value.type "method-wrapper" == Value.type "builtin_function_or_method" || Value.type "method-wrapper" == Value.type "method-wrapper") = true by decide, if_true]
  refine wpAny_pure ?_
  exact wpAny_bind (wpAny_mono hcall (fun r s₂ hr => wpAny_bind (wpAny_holding (wpAny_point (wpAny_pure hr)))) fun _ _ x => x)
theorem mw_with {env : Env} {e : Expr} {rest : List Expr} {Q : Value → Shared → Prop} (_hm : s.heap.get? u = some (mwObj id a))
    (h : wpAny M A (spliced (backTo pos (starEach (e :: rest) env))) (fun vs s₁ => s₁.heap.get? u = some (mwObj id a) ∧ wpAny M A (call (.ref u) (first ++ vs)) Q E s₁) E s)
    (he : starEach (e :: rest) env = (false, eval e env) :: starEach rest env := by rfl) (hplain : (backTo pos (starEach rest env)).any (·.1) = false := by rfl) :
    wpAny M A (callWith pos (.ref u) first (backTo pos (starEach (e :: rest) env)) []) Q E s := by
  rw [he] at h ⊢
  refine mw_fields (id := id) (a := a) (by show (false || (backTo pos (starEach rest env)).any (·.1)) = false; rw [hplain]; rfl) ?_
  exact evalArgs_plain h
end
theorem call_skip' {prog : Program} {w : World} {A : Around} {E : Value → Shared → Prop} {s : Shared} {Q : Value → Shared → Prop} {u a : Addr} {id : String} {x : Str} {t : Tok} {ys : List Str} {b : Bool} (hm : s.heap.get? u = some (mwObj id a)) (hS : Skip s.heap a id ys) (hb : ys.any (· == x) = b) (h : Q (.bool b) s) :
    wpAny (model prog w) A (call (.ref u) [.str x t]) Q E s := call_skip hm hS (hb ▸ h)
abbrev ffObj (d mw it : Addr) : Obj := { cls := .ref 77, dict := some d, data := .plain, slots := #[some (.ref mw), some (.ref it)] }
abbrev ffScope : Scope := { kind := .function, names := [(Str.ofString "self", .local), (Str.ofString "func", .local), (Str.ofString "item", .local), (Str.ofString "next", .globalImplicit), (Str.ofString "bool", .globalImplicit)], isGenerator := false, isCoroutine := false }
abbrev mff (x mw : Addr) (o : Option Value) : Str → Option Value := fun y => if y = Str.ofString "item" then o else if y = Str.ofString "func" then some (.ref mw) else if y = Str.ofString "self" then some (.ref x) else none
example : True := by (k_with "callWith ref" => (k_here; k_dflt (refine' mw_with (by exact News.get (by k_asm) (by k_mem)) ?_))); trivial
example : True := by (k_with "And" => ((with_reducible show (Heap.get? _ _ = some (mwObj _ _)) ∧ _); refine ⟨News.get (by k_asm) (by k_mem), ?_⟩; try dsimp only [List.nil_append, List.cons_append])); trivial
example : True := by (k_with "call ref" => (k_here; k_dflt (refine' call_skip' (by exact News.get (by k_asm) (by k_mem)) (by exact Skip.keep (by assumption) (Fr.keep (by assumption))) (by assumption) ?_))); trivial
example : True := by (k_with "call builtin:next" => (k_here; k_dflt (refine' li_item (pre := []) (by k_asm) (by k_asm) (by exact List.forall_mem_nil _) (by assumption) (by exact PySem.W.stays_list (Fr.keep (by assumption)) (by assumption)) (by assumption) ?_); intro h' F' N'; (try dsimp only [List.nil_append] at N'); (try k_sweep))); trivial
theorem mff_set (x mw : Addr) (o : Option Value) (v : Value) : (fun y => if y = Str.ofString "item" then some v else mff x mw o y) = mff x mw (some v) := funext fun y => by
  unfold mff
  by_cases h : y = Str.ofString "item"
  · rw [if_pos h, if_pos h]
  · rw [if_neg h, if_neg h, if_neg h]
section
variable {prog : Program} {w : World} {A : Around} {E : Value → Shared → Prop} {s : Shared} {g : Heap} {L x d mw it S1 S2 fa : Addr} {id : String} {xs : Array Value} {ys : List Str} {i : Nat} {t : Str} {tk : Tok} {o : Option Value} {p : Program} {loose : List Str} {mg mb : Str → Option Value} {cn : Str} {cd : Value} {p1 p2 p3 p4 p5 p6 p7 p8 p9 p10 p11 p12 p13 p14 p15 p16 p17 p18 p19 p20 p21 p22 p23 p24 p25 p26 : Pos} {k2 : Nat} {Q : Flow → Shared → Prop}
set_option maxHeartbeats 4000000 in
theorem ff_turn (F : Fr g L s.heap (mff x mw o)) (N : News g L s.heap [(it, liObj (.ref S1) i), (x, ffObj d mw it), (d, dictOf [] 0), (mw, mwObj id S2)]) (hne : ∀ p ∈ [(x, ffObj d mw it), (d, dictOf [] 0), (mw, mwObj id S2)], p.1 ≠ it) (X : (Mine.hd.heap_39 w.params).In g) (T : TopRead p loose mg mb g) (hS : Skip g S2 id ys) (hl : g.IsList S1 xs) (hx : xs[i]? = some (.str t tk))
    (h1 : ys.any (· == t) = true → ∀ h' tk', Fr g L h' (mff x mw (some (.str t tk))) → News g L h' [(it, liObj (.ref S1) (i + 1)), (x, ffObj d mw it), (d, dictOf [] 0), (mw, mwObj id S2)] → Q .next { s with heap := h', toks := tk' })
    (h2 : ys.any (· == t) = false → ∀ h' tk', Fr g L h' (mff x mw (some (.str t tk))) → News g L h' [(it, liObj (.ref S1) (i + 1)), (x, ffObj d mw it), (d, dictOf [] 0), (mw, mwObj id S2)] → Q (.ret (.str t tk)) { s with heap := h', toks := tk' }) :
    wpAny (model prog w) A (execs [ .Assign [.Name (Str.ofString "item") p1] (.Call (.Name (Str.ofString "next") p2) [.Attribute (.Name (Str.ofString "self") p3) (Str.ofString "_it") p4] [] p5) p6, .If (.BoolOp .Or [.Compare (.Name (Str.ofString "func") p7) [.Is] [.Constant .none k2 p8] p9, .Compare (.Name (Str.ofString "func") p10) [.Is] [.Name (Str.ofString "bool") p11] p12] p13) [.If (.UnaryOp .Not (.Name (Str.ofString "item") p14) p15) [.Return (some (.Name (Str.ofString "item") p16)) p17] [] p18] [.If (.UnaryOp .Not (.Call (.Name (Str.ofString "func") p19) [.Name (Str.ofString "item") p20] [] p21) p22) [.Return (some (.Name (Str.ofString "item") p23)) p24] [] p25] p26] (envOf cn ffScope L fa cd)) Q E s := by
  cases hb : ys.any (· == t)
  · k_steps
    all_goals (try dsimp only)
    all_goals rename Fr g L _ _ => kF
    all_goals rw [mff_set] at kF
    all_goals first
      | exact h2 hb _ _ kF (by assumption)
      | exact News.get (by assumption) (by news_mem)
  · k_steps
    all_goals (try dsimp only)
    all_goals rename Fr g L _ _ => kF
    all_goals rw [mff_set] at kF
    all_goals first
      | exact h1 hb _ _ kF (by assumption)
      | exact News.get (by assumption) (by news_mem)
set_option maxHeartbeats 4000000 in
theorem ff_last (F : Fr g L s.heap (mff x mw o)) (N : News g L s.heap [(it, liObj (.ref S1) i), (x, ffObj d mw it), (d, dictOf [] 0), (mw, mwObj id S2)]) (hne : ∀ p ∈ [(x, ffObj d mw it), (d, dictOf [] 0), (mw, mwObj id S2)], p.1 ≠ it) (X : (Mine.hd.heap_39 w.params).In g) (T : TopRead p loose mg mb g) (hl : g.IsList S1 xs) (hx : xs[i]? = none) (hh : A.handled = none)
    (hend : ∀ h₂ h' tk' e, Fr g L h₂ (mff x mw o) → News g L h₂ [(it, liObj .none i), (x, ffObj d mw it), (d, dictOf [] 0), (mw, mwObj id S2)] → Heap.MadeExcOf h₂ h' e (.type "StopIteration") [] → E (.ref e) { s with heap := h', toks := tk' }) :
    wpAny (model prog w) A (execs [ .Assign [.Name (Str.ofString "item") p1] (.Call (.Name (Str.ofString "next") p2) [.Attribute (.Name (Str.ofString "self") p3) (Str.ofString "_it") p4] [] p5) p6, .If (.BoolOp .Or [.Compare (.Name (Str.ofString "func") p7) [.Is] [.Constant .none k2 p8] p9, .Compare (.Name (Str.ofString "func") p10) [.Is] [.Name (Str.ofString "bool") p11] p12] p13) [.If (.UnaryOp .Not (.Name (Str.ofString "item") p14) p15) [.Return (some (.Name (Str.ofString "item") p16)) p17] [] p18] [.If (.UnaryOp .Not (.Call (.Name (Str.ofString "func") p19) [.Name (Str.ofString "item") p20] [] p21) p22) [.Return (some (.Name (Str.ofString "item") p23)) p24] [] p25] p26] (envOf cn ffScope L fa cd)) Q E s := by
  k_steps
  refine li_end (pre := []) hh (by assumption) (by assumption) (List.forall_mem_nil _) hne (PySem.W.stays_list (Fr.keep (by assumption)) hl) hx fun h₂ h' e F' N' hm => ?_
  exact hend h₂ h' _ e F' N' hm
end
noncomputable def nextKept (ys : List Str) : List Str → Option (Str × List Str)
  | [] => none
  | t :: r => if ys.any (· == t) then nextKept ys r else some (t, r)
theorem strsAre_head {vs : List Value} {y : Str} {r : List Str} {i : Nat} (h : StrsAre (vs.drop i) (y :: r)) : ∃ t, vs[i]? = some (.str y t) ∧ StrsAre (vs.drop (i + 1)) r := by
  cases hd : vs.drop i with
  | nil => rw [hd] at h; cases h
  | cons v l =>
    rw [hd] at h
    cases h with
    | cons _ t h' =>
      refine ⟨t, ?_, ?_⟩
      · have := congrArg List.head? hd
        rw [List.head?_drop] at this
        exact this
      · rw [← List.drop_drop, hd] 
        exact h'
theorem strsAre_end {vs : List Value} {i : Nat} (h : StrsAre (vs.drop i) []) : vs[i]? = none := by
  cases hd : vs.drop i with
  | nil => exact List.getElem?_eq_none (List.drop_eq_nil_iff.mp hd)
  | cons v l => rw [hd] at h; cases h
section
variable {prog : Program} {w : World} {A : Around} {E : Value → Shared → Prop} {s : Shared} {g : Heap} {L x d mw it S1 S2 fa : Addr} {id : String} {xs : Array Value} {ys rem : List Str} {i : Nat} {o : Option Value} {p : Program} {loose : List Str} {mg mb : Str → Option Value} {cn : Str} {cd : Value} {p1 p2 p3 p4 p5 p6 p7 p8 p9 p10 p11 p12 p13 p14 p15 p16 p17 p18 p19 p20 p21 p22 p23 p24 p25 p26 p27 p28 : Pos} {k1 k2 : Nat} {Q : Flow → Shared → Prop}
theorem ff_while (F : Fr g L s.heap (mff x mw o)) (N : News g L s.heap [(it, liObj (.ref S1) i), (x, ffObj d mw it), (d, dictOf [] 0), (mw, mwObj id S2)]) (hne : ∀ p ∈ [(x, ffObj d mw it), (d, dictOf [] 0), (mw, mwObj id S2)], p.1 ≠ it) (X : (Mine.hd.heap_39 w.params).In g) (T : TopRead p loose mg mb g) (hS : Skip g S2 id ys) (hl : g.IsList S1 xs) (hr : StrsAre (xs.toList.drop i) rem) (hh : A.handled = none)
    (hE : PassesOwn (model prog w) A (envOf cn ffScope L fa cd) E)
    (hret : ∀ t r, nextKept ys rem = some (t, r) → ∀ h' tk' tt j, Fr g L h' (mff x mw (some (.str t tt))) → News g L h' [(it, liObj (.ref S1) j), (x, ffObj d mw it), (d, dictOf [] 0), (mw, mwObj id S2)] → StrsAre (xs.toList.drop j) r → Q (.ret (.str t tt)) { s with heap := h', toks := tk' })
    (hend : nextKept ys rem = none → ∀ h₂ h' tk' e m j, Fr g L h₂ m → News g L h₂ [(it, liObj .none j), (x, ffObj d mw it), (d, dictOf [] 0), (mw, mwObj id S2)] → Heap.MadeExcOf h₂ h' e (.type "StopIteration") [] → E (.ref e) { s with heap := h', toks := tk' }) :
    wpAny (model prog w) A (exec (.While (.Constant (.bool true) k1 p27) [ .Assign [.Name (Str.ofString "item") p1] (.Call (.Name (Str.ofString "next") p2) [.Attribute (.Name (Str.ofString "self") p3) (Str.ofString "_it") p4] [] p5) p6, .If (.BoolOp .Or [.Compare (.Name (Str.ofString "func") p7) [.Is] [.Constant .none k2 p8] p9, .Compare (.Name (Str.ofString "func") p10) [.Is] [.Name (Str.ofString "bool") p11] p12] p13) [.If (.UnaryOp .Not (.Name (Str.ofString "item") p14) p15) [.Return (some (.Name (Str.ofString "item") p16)) p17] [] p18] [.If (.UnaryOp .Not (.Call (.Name (Str.ofString "func") p19) [.Name (Str.ofString "item") p20] [] p21) p22) [.Return (some (.Name (Str.ofString "item") p23)) p24] [] p25] p26] [] p28) (envOf cn ffScope L fa cd)) Q E s := by
  refine wpAny_While (codeAny_whileLoop (R := fun r s' => match r with | .ok f => Q f s' | .error e => cameBackBy (model prog w) A (envOf cn ffScope L fa cd) E e s')
    (fun n s' => ∃ h' tk o i rem', s' = { s with heap := h', toks := tk } ∧ n = rem'.length ∧ Fr g L h' (mff x mw o) ∧ News g L h' [(it, liObj (.ref S1) i), (x, ffObj d mw it), (d, dictOf [] 0), (mw, mwObj id S2)] ∧ StrsAre (xs.toList.drop i) rem' ∧ nextKept ys rem' = nextKept ys rem) ?_ rem.length ⟨s.heap, s.toks, o, i, rem, rfl, rfl, F, N, hr, rfl⟩)
  rintro n s' ⟨h₁, tk₁, o₁, i₁, rem₁, rfl, rfl, F₁, N₁, hr₁, hk⟩
  refine isTrue_plain (wpAny_pure (wpAny_truthy_bool ?_))
  rw [if_pos rfl]
  cases rem₁ with
  | nil =>
    refine wpAny_passesOwn hE (ff_last (s := { s with heap := h₁, toks := tk₁ }) F₁ N₁ hne X T hl (by have := strsAre_end hr₁; simpa using this) hh fun h₂ h' tk' e F' N' hm => ?_)
    exact hend hk.symm h₂ h' tk' e _ _ F' N' hm
  | cons t r =>
    obtain ⟨tt, hx, hr₂⟩ := strsAre_head hr₁
    refine wpAny_passesOwn hE (ff_turn (s := { s with heap := h₁, toks := tk₁ }) F₁ N₁ hne X T hS hl (by simpa using hx) (fun hb h' tk' F' N' => ?_) (fun hb h' tk' F' N' => ?_))
    · refine ⟨r.length, Nat.lt_succ_self _, h', tk', _, _, r, rfl, rfl, F', N', hr₂, ?_⟩
      rw [← hk]
      show _ = if ys.any (· == t) then _ else _
      rw [if_pos hb]
    · refine hret t r ?_ h' tk' tt _ F' N' hr₂
      rw [← hk]
      show (if ys.any (· == t) then _ else _) = _
      rw [if_neg (by rw [hb]; exact Bool.false_ne_true)]
end
example : True := by k_with_none; trivial
end Mine
end
section
open PySem PySem.W PyProof.Rows PySem.Calls PySem.Spec
set_option maxRecDepth 100000
namespace Mine
noncomputable def keptOf (ys rem : List Str) : List Str := rem.filter fun t => !ys.any (· == t)
theorem kept_cons {ys : List Str} : ∀ {rem : List Str} {t : Str} {ts : List Str}, keptOf ys rem = t :: ts → ∃ r, nextKept ys rem = some (t, r) ∧ keptOf ys r = ts
  | [], t, ts, h => by cases h
  | y :: r, t, ts, h => by
    unfold keptOf at h
    rw [List.filter_cons] at h
    unfold nextKept
    cases hb : ys.any (· == y) with
    | true =>
      rw [hb] at h
      obtain ⟨r', h1, h2⟩ := kept_cons (ys := ys) (rem := r) h
      exact ⟨r', by rw [if_pos rfl]; exact h1, h2⟩
    | false =>
      rw [hb] at h
      simp only [Bool.not_false, if_true] at h
      cases h
      exact ⟨r, by rw [if_neg Bool.false_ne_true], rfl⟩
theorem kept_nil {ys : List Str} : ∀ {rem : List Str}, keptOf ys rem = [] → nextKept ys rem = none
  | [], _ => rfl
  | y :: r, h => by
    unfold keptOf at h
    rw [List.filter_cons] at h
    unfold nextKept
    cases hb : ys.any (· == y) with
    | true =>
      rw [hb] at h
      rw [if_pos rfl]
      exact kept_nil h
    | false =>
      rw [hb] at h
      simp at h
noncomputable def FfI (it x d mw S1 S2 : Addr) (id : String) (xs : Array Value) (ys : List Str) (own : List (Addr × Obj)) (ts : List Str) : Prop :=
  ∃ i rem, own = [(it, liObj (.ref S1) i), (x, ffObj d mw it), (d, dictOf [] 0), (mw, mwObj id S2)] ∧ StrsAre (xs.toList.drop i) rem ∧ keptOf ys rem = ts
theorem mff_start (x mw : Addr) : (fun y => if y = Str.ofString "func" then some (Value.ref mw) else ([(Str.ofString "self", Value.ref x)] : List (Str × Value)).reverse.lookup y) = mff x mw none := funext fun y => by
  unfold mff
  by_cases h1 : y = Str.ofString "item"
  · subst h1
    rw [if_pos rfl, if_neg (by decide)]
    show List.lookup _ [(Str.ofString "self", Value.ref x)] = none
    rw [List.lookup_cons, show (Str.ofString "item" == Str.ofString "self") = false from by decide]
    rfl
  · rw [if_neg h1]
    by_cases h2 : y = Str.ofString "func"
    · rw [if_pos h2, if_pos h2]
    · rw [if_neg h2, if_neg h2]
      by_cases h3 : y = Str.ofString "self"
      · subst h3
        rw [if_pos rfl]
        rfl
      · rw [if_neg h3]
        show List.lookup y [(Str.ofString "self", Value.ref x)] = none
        rw [List.lookup_cons, beq_false_of_ne h3]
        rfl
section
variable {prog : Program} {w : World} {A : Around} {E : Value → Shared → Prop} {s : Shared} {g : Heap} {L Lo x d mw it S1 S2 fa : Addr} {id : String} {xs : Array Value} {ys rem : List Str} {i : Nat} {p : Program} {loose : List Str} {mg mb m : Str → Option Value} {env envo : Env}
set_option maxHeartbeats 800000 in
theorem ff_iter_call {s : Shared} {Q : Value → Shared → Prop} {E : Value → Shared → Prop} (X : (Mine.hd.heap_39 w.params).In s.heap) (T : TopRead p loose mg mb s.heap) (hroom : A.depth < recursionLimit)
    (h : ∀ h' tk, (∀ b o, s.heap.get? b = some o → h'.get? b = some o) → Q (.ref x) { s with heap := h', toks := tk }) : wpAny (model prog w) A (call (.ref 66) [.ref x]) Q E s := by
  refine' call_G X T.nolimit ?k1 ?k2 hroom ?k3 ?k4 ?k5 ?_ ?c1 ?c2 ?c3
  case k1 => k_is
  case k2 => k_is
  case k3 => exact BindsTo.of_eq rfl
  case k4 => exact locs rfl
  case k5 => decide
  case c1 => exact rfl
  case c2 => exact rfl
  case c3 => exact rfl
  intro h₁ F N
  refine wpAny_execs_cons (wpAny_Return_some (nameX_L (cl := []) F rfl ?_ rfl rfl (by decide)))
  exact h h₁ _ F.keep
set_option maxHeartbeats 1600000 in
theorem ff_iter (hne : ∀ p ∈ [(x, ffObj d mw it), (d, dictOf [] 0), (mw, mwObj id S2)], p.1 ≠ it) (X : (Mine.hd.heap_39 w.params).In g) (T : TopRead p loose mg mb g) (hroom : A.depth + 70 < recursionLimit) (hh : A.handled = none) (hS : Skip g S2 id ys) (hl : g.IsList S1 xs)
    (hA : A.frames = some [env, envo]) (hf : env.frame = some L) (hfo : envo.frame = some Lo) (hke : env.scope.kind ≠ .module) (hko : envo.scope.kind ≠ .module) (hLo : Lo ∉ [it, x, d, mw]) :
    Iter prog w A (Mine.hd.heap_39 w.params) g L m x Lo 77 [it, x, d, mw] (FfI it x d mw S1 S2 id xs ys) where
  addr := fun {own ts} h => by
    obtain ⟨i, rem, rfl, _⟩ := h
    rfl
  inst := fun {own ts h} h N => by
    obtain ⟨i, rem, rfl, _⟩ := h
    exact ⟨_, _, InstAt.of_news (dx := d) (sl := #[some (.ref mw), some (.ref it)]) N (List.Mem.tail _ (List.Mem.head _)) (List.Mem.tail _ (List.Mem.tail _ (List.Mem.head _)))⟩
  noLen := by k_is
  noHint := by k_is
  iter := fun {s own ts Q E} F h N k => by
    obtain ⟨i, rem, rfl, _⟩ := h
    have I := InstAt.of_news (dx := d) (sl := #[some (.ref mw), some (.ref it)]) N (List.Mem.tail _ (List.Mem.head _)) (List.Mem.tail _ (List.Mem.tail _ (List.Mem.head _)))
    refine' owit_iter F X I ?hs ?hf ?_
    case hs => k_is
    case hf => k_is
    refine ff_iter_call (X.keeps F.keep) (T.keeps F.keep) (by omega) fun h' tk kk => ?_
    have N' := News.grown N kk
    have I' := InstAt.of_news (dx := d) (sl := #[some (.ref mw), some (.ref it)]) N' (List.Mem.tail _ (List.Mem.head _)) (List.Mem.tail _ (List.Mem.tail _ (List.Mem.head _)))
    refine' owit_it (s := { s with heap := h', toks := tk }) (F.keeps kk) X I' ?hs (k h' tk kk)
    case hs => k_is
  next := fun {s oLo own ex t ts Q E} F N hex hd hI k => by
    obtain ⟨i, rem, rfl, hr, hT⟩ := hI
    obtain ⟨r, hk, hT'⟩ := kept_cons hT
    have No : News g L s.heap [(it, liObj (.ref S1) i), (x, ffObj d mw it), (d, dictOf [] 0), (mw, mwObj id S2)] := fun q hq => N q (List.mem_cons_of_mem _ (List.mem_append_right _ hq))
    have Nr : News g L s.heap ((Lo, oLo) :: ex) := fun q hq => N q (by
      rcases List.mem_cons.mp hq with rfl | hq
      · exact List.Mem.head _
      · exact List.mem_cons_of_mem _ (List.mem_append_left _ hq))
    have I := InstAt.of_news (dx := d) (sl := #[some (.ref mw), some (.ref it)]) No (List.Mem.tail _ (List.Mem.head _)) (List.Mem.tail _ (List.Mem.tail _ (List.Mem.head _)))
    refine' owit_next F X I ?hs ?hf ?_
    case hs => k_is
    case hf => k_is
    have hr' : A.depth < recursionLimit := by omega
    refine' callHR (rest := (Lo, oLo) :: ex) F No Nr ?kd X T ?k1 ?k2 hr' ?k3 ?k4 ?k5 ?_ ?c1 ?c2 ?c3
    case kd =>
      intro q hq
      rcases List.mem_cons.mp hq with rfl | hq
      · exact hLo
      · exact (hex q hq).1
    case k1 => k_is
    case k2 => k_is
    case k3 => exact BindsTo.of_eq rfl
    case k4 => exact locs rfl
    case k5 => decide
    case c1 => exact rfl
    case c2 => exact rfl
    case c3 => exact rfl
    intro g₂ L' h₁ st' F₁ N₁ G₁ X₁ T₁
    refine wpAny_execs_cons (wpAny_Assign_Name (Attribute_name (nameX_L (cl := []) F₁ rfl ?_ rfl rfl (by decide))) rfl)
    have I₁ := InstAt.of_news (dx := d) (sl := #[some (.ref mw), some (.ref it)]) N₁ (List.Mem.tail _ (List.Mem.head _)) (List.Mem.tail _ (List.Mem.tail _ (List.Mem.head _)))
    refine' get_slot F₁ X₁ I₁ ?g1 ?g2 ?g3 ?g4 ?g5 ?g6 (v := .ref mw) ?g7 rfl ?_
    case g1 => k_is
    case g2 => k_is
    case g3 => k_is
    case g4 => k_is
    case g5 => k_is
    case g6 => k_is
    case g7 => rfl
    refine storeX_L (cl := []) F₁ N₁ (fun h₂ F₂ N₂ => ?_) rfl rfl
    replace F₂ : Fr g₂ L' h₂ (mff x mw none) := by rw [← mff_start]; exact F₂
    refine wpAny_execs_cons (ff_while (s := { s with heap := h₂, toks := _ }) F₂ N₂ hne X₁ T₁ (hS.keep st') (PySem.W.stays_list st' hl) hr hh PassesOwn.never (fun t' r' e h' tk' tt j F' N' hr' => ?_) (fun e => by rw [hk] at e; cases e))
    rw [hk] at e
    cases e
    refine leaveH_ F' N' fun F₃ N₃ => ?_
    refine k h' tk' [(it, liObj (.ref S1) j), (x, ffObj d mw it), (d, dictOf [] 0), (mw, mwObj id S2)] tt F₃ (fun q hq => N₃ q ?_) ⟨j, r, rfl, hr', hT'⟩
    rcases List.mem_cons.mp hq with rfl | hq
    · exact List.mem_append_right _ (List.Mem.head _)
    · rcases List.mem_append.mp hq with hq | hq
      · exact List.mem_append_right _ (List.mem_cons_of_mem _ hq)
      · exact List.mem_append_left _ hq
  stop := fun {s oLo own ex Q E} F N hex hd hI k => by
    obtain ⟨i, rem, rfl, hr, hT⟩ := hI
    have hk := kept_nil hT
    have No : News g L s.heap [(it, liObj (.ref S1) i), (x, ffObj d mw it), (d, dictOf [] 0), (mw, mwObj id S2)] := fun q hq => N q (List.mem_cons_of_mem _ (List.mem_append_right _ hq))
    have I := InstAt.of_news (dx := d) (sl := #[some (.ref mw), some (.ref it)]) No (List.Mem.tail _ (List.Mem.head _)) (List.Mem.tail _ (List.Mem.tail _ (List.Mem.head _)))
    refine' owit_next F X I ?hs ?hf ?_
    case hs => k_is
    case hf => k_is
    have hr' : A.depth < recursionLimit := by omega
    refine' call_raises (X := "StopIteration") F N ?kex ?kLo hd X T hA hf hfo hke hko ?k1 ?k2 hr' ?k3 ?k4 ?k5 ?_ ?c1 ?c2 ?c3
    case kex => exact hex
    case kLo => exact hLo
    case k1 => k_is
    case k2 => k_is
    case k3 => exact BindsTo.of_eq rfl
    case k4 => exact locs rfl
    case k5 => decide
    case c1 => exact rfl
    case c2 => exact rfl
    case c3 => exact rfl
    intro g₂ L' h₁ st' F₁ N₁ G₁ X₁ T₁ LV hP hLV
    refine wpAny_execs_cons (wpAny_Assign_Name (Attribute_name (nameX_L (cl := []) F₁ rfl ?_ rfl rfl (by decide))) rfl)
    have I₁ := InstAt.of_news (dx := d) (sl := #[some (.ref mw), some (.ref it)]) N₁ (List.Mem.tail _ (List.Mem.head _)) (List.Mem.tail _ (List.Mem.tail _ (List.Mem.head _)))
    refine' get_slot F₁ X₁ I₁ ?e1 ?e2 ?e3 ?e4 ?e5 ?e6 (v := .ref mw) ?e7 rfl ?_
    case e1 => k_is
    case e2 => k_is
    case e3 => k_is
    case e4 => k_is
    case e5 => k_is
    case e6 => k_is
    case e7 => rfl
    refine storeX_L (cl := []) F₁ N₁ (fun h₂ F₂ N₂ => ?_) rfl rfl
    replace F₂ : Fr g₂ L' h₂ (mff x mw none) := by rw [← mff_start]; exact F₂
    refine wpAny_execs_cons (ff_while (s := { s with heap := h₂, toks := _ }) F₂ N₂ hne X₁ T₁ (hS.keep st') (PySem.W.stays_list st' hl) hr hh hP (fun t' r' e => by rw [hk] at e; cases e) (fun _ h₃ h' tk' e m₃ j F' N' hm => ?_))
    refine hLV { s with heap := h', toks := tk' } h₃ m₃ [(it, liObj .none j), (x, ffObj d mw it), (d, dictOf [] 0), (mw, mwObj id S2)] e rfl F' N' hm fun h₄ sl F₄ N₄ ht => ?_
    unfold OwitStop
    refine wpAny_isInstance (b := true) (s := { s with heap := h₄, toks := tk' }) ht (by rw [isSubtype_type]; kernel_rfl) ?_
    show (if true = true then _ else _)
    rw [if_pos rfl]
    exact k h₄ tk' [(it, liObj .none j), (x, ffObj d mw it), (d, dictOf [] 0), (mw, mwObj id S2)] sl F₄ N₄ rfl
end
end Mine
end
section
open PySem PySem.W PyProof.Rows PySem.Calls PySem.Spec
set_option maxRecDepth 100000
namespace Mine
example : True := by k_with_none; trivial
example : True := by (k_with "MY_ENTER" => (refine' codeH (by assumption) (by assumption) (by assumption) (by assumption) (by k_is) (by k_is) (by first | assumption | ((try simp only [depth_under_make, depth_under_kw, depth_in1, depth_deeper]); omega)) (by first | exact BindsTo.of_eq rfl | exact binds_K (by k_in) rfl (by k_is) rfl rfl rfl) (by exact locs rfl) (by decide) ?_ (by exact rfl) (by exact rfl) (by exact rfl); intro zg zL zh _ zF zN zX zT; (try dsimp only))); trivial
example : True := by (k_with "call ref" => (k_here; k_dflt (first
  | (refine' call_cls (by k_asm) (by k_asm) (by k_asm) (by k_is) (by k_is) (by k_is) ?_; k_whole; intro x' d' h' F' N' l1 l2; (try k_lt l1); (try k_lt2 l2); (try k_sweep); walk_at "MY_ENTER")
  | (refine wpAny_call ?_; walk_at "MY_ENTER")))); trivial
example : True := by (k_with "LeaveC" => (k_dflt (refine leaveC_ (by assumption) (by assumption) ?_); intro kF kN; ground_anew kF; (have kX := kFor kF (by k_asm)); (try dsimp only [InitBack]); (try refine ⟨rfl, ?_⟩); (try dsimp only))); trivial
example : True := by (k_with "getAttr ref" => (k_here; k_dflt (refine' gc_skip (by k_asm) (by k_asm) (by assumption) ?_); intro q' h' t' F' N' l1; (try k_lt l1); (try k_sweep))); trivial
section
variable {prog : Program} {w : World} {A : Around} {s : Shared} {Q : Value → Shared → Prop} {E : Value → Shared → Prop} {p : Program} {loose : List Str} {mg mb : Str → Option Value} {h₀ : Heap} {L : Addr} {m : Str → Option Value} {own : List (Addr × Obj)} {envo : Env} {S1 S2 : Addr} {id : String} {xs ys : List Str} {a1 a2 : Array Value} {c1 c2 : Nat}
theorem filter_end {g : Heap} {L' x d mw it : Addr} {m' : Str → Option Value} {env : Env} {oL : Obj} (X : (Mine.hd.heap_39 w.params).In g) (T : TopRead p loose mg mb g) (F : Fr g L' s.heap m') (N : News g L' s.heap [(it, liObj (.ref S1) 0), (x, ffObj d mw it), (d, dictOf [] 0), (mw, mwObj id S2), (L, oL)])
    (hS : Skip g S2 id ys) (hl : g.IsList S1 a1) (hs1 : StrsAre a1.toList xs) (hn : xs.length ≤ 100000)
    (hne : @Ne Nat x it ∧ @Ne Nat d it ∧ @Ne Nat mw it) (hnL : @Ne Nat L it ∧ @Ne Nat L x ∧ @Ne Nat L d ∧ @Ne Nat L mw) (hoL : ∃ es ep, oL.data = .dict es ep) (hroom : A.depth + 100 < recursionLimit) (hh : A.handled = none)
    (hA : A.frames = some [envo]) (hf : env.frame = some L') (hke : env.scope.kind ≠ .module) (hfo : envo.frame = some L) (hko : envo.scope.kind ≠ .module)
    (h : ∀ S h' tk acc c, Fr h₀ L h' m → News h₀ L h' ((S, ListObj acc c) :: own) → (∀ q ∈ own, q.1 ≠ S) → StrsAre acc.toList (keptOf ys xs) → Q (.ref S) { s with heap := h', toks := tk }) :
    wpAny (model prog w) (A.deeper env) (call (.type "list") [.ref x]) (fun v s' => LeaveL h₀ L m own g oL Q (.ret v) s') E s := by
  obtain ⟨n1, n2, n3⟩ := hne
  obtain ⟨l1, l2, l3, l4⟩ := hnL
  have hLo : L ∉ [it, x, d, mw] := by
    simp only [List.mem_cons, List.not_mem_nil, or_false, not_or]; exact ⟨l1, l2, l3, l4⟩
  have hne : ∀ p ∈ [(x, ffObj d mw it), (d, dictOf [] 0), (mw, mwObj id S2)], p.1 ≠ it := by
    intro p hp
    rcases List.mem_cons.mp hp with rfl | hp
    · exact n1
    · rcases List.mem_cons.mp hp with rfl | hp
      · exact n2
      · rw [List.mem_singleton.mp hp]; exact n3
  have N₂ : News g L' s.heap ((L, oL) :: ([] ++ [(it, liObj (.ref S1) 0), (x, ffObj d mw it), (d, dictOf [] 0), (mw, mwObj id S2)])) := fun q hq => N q (by
    simp only [List.nil_append, List.mem_cons, List.not_mem_nil, or_false] at hq ⊢
    rcases hq with h | h | h | h | h <;> simp [h])
  have hlen : (keptOf ys xs).length ≤ 100000 := Nat.le_trans (List.length_filter_le _ _) hn
  refine list_own (ff_iter (xs := a1) hne X T (by show A.depth + 1 + 70 < _; omega) hh hS hl (by show A.frames.map _ = _; rw [hA]; rfl) hf hfo hke hko hLo) X F N₂ (List.forall_mem_nil _) hLo hoL ⟨0, xs, rfl, hs1, rfl⟩ hlen fun S h' tk acc c own' sl F' N' ha hs => ?_
  refine ⟨S, ListObj acc c, L', m', sl, F', fun q hq => N' q ?_, (fun _ _ e => by cases e), fun F₂ N₃ hS => h S h' tk acc c F₂ N₃ hS hs⟩
  rcases List.mem_cons.mp hq with rfl | hq
  · exact List.Mem.head _
  · rw [List.mem_singleton.mp hq]
    exact List.mem_cons_of_mem _ (List.Mem.head _)
set_option maxHeartbeats 4000000 in
theorem call_filter (F : Fr h₀ L s.heap m) (N : News h₀ L s.heap own) (H1 : (S1, ListObj a1 c1) ∈ own) (hs1 : StrsAre a1.toList xs) (H2 : ∀ g, (∀ q ∈ own, g.get? q.1 = some q.2) → Skip g S2 id ys) (X : (Mine.hd.heap_39 w.params).In h₀) (T : TopRead p loose mg mb h₀) (hroom : A.depth + 100 < recursionLimit) (hh : A.handled = none)
    (hA : A.frames = some [envo]) (hfo : envo.frame = some L) (hko : envo.scope.kind ≠ .module) (hn : xs.length ≤ 100000)
    (h : ∀ S h' tk acc c, Fr h₀ L h' m → News h₀ L h' ((S, ListObj acc c) :: own) → (∀ q ∈ own, q.1 ≠ S) → StrsAre acc.toList (keptOf ys xs) → Q (.ref S) { s with heap := h', toks := tk }) :
    wpAny (model prog w) A (call (.ref 88) [.ref S1, .ref S2]) Q E s := by
  have hr' : A.depth < recursionLimit := by omega
  k_dflt (refine' callHL F N X T ?k1 ?k2 hr' ?k3 ?k4 ?k5 ?_ ?c1 ?c2 ?c3; (case k1 => k_is); (case k2 => k_is); (case k3 => first | exact BindsTo.of_eq rfl | exact binds_K (by k_in) rfl (by k_is) rfl rfl rfl); (case k4 => exact locs rfl); (case k5 => decide); (case c1 => exact rfl); (case c2 => exact rfl); (case c3 => exact rfl); intro g oL L' h₁ hoL F₁ N₁ G₁ X₁ T₁; (try dsimp only))
  have e1 := G₁ _ H1
  have e2 := H2 g G₁
  have e3 : g.IsList S1 a1 := ⟨_, e1, rfl, _, rfl⟩
  k_steps
  rename Heap.StaysIn g _ => hst
  k_dflt (refine' li_iter (l := S1) (xs := a1) ?F ?N ?l ?_; (case F => k_asm); (case N => k_asm); (case l => exact ⟨_, (Fr.keep (by assumption)) _ _ (hst _ _ e1), rfl, _, rfl⟩))
  intro q' h' F' N' l1
  (try k_lt l1)
  (try k_sweep)
  k_steps
  rename Fr g L' _ _ => kF
  rename News g L' _ _ => kN
  k_dflt (refine' filter_end (envo := envo) ?hX T₁ kF kN e2 e3 hs1 hn ?hne ?hnL hoL hroom hh hA ?hf ?hke hfo hko h)
  case hX => assumption
  case hf => rfl
  case hke => exact fun e => by cases e
  case hne => refine ⟨?_, ?_, ?_⟩ <;> omega
  case hnL => refine ⟨?_, ?_, ?_, ?_⟩ <;> omega
end
example : True := by k_with_none; trivial
end Mine
end
section
open PySem PySem.W PyProof.Rows PySem.Calls PySem.Spec
set_option maxRecDepth 100000
namespace Mine
abbrev allPz : Nat → Bool := fun _ => true
section
variable {prog : Program} {w : World} {A : Around} {elt iter : Expr} {x : Str} {px pos : Pos} {scope : Scope} {I : Addr} {fp wr : List Addr} {n₀ : Nat} {P : Nat → Value → Prop} {St₀ : Nat → Heap → Prop} {cenv : Env}
/-- the loop of a generator expression without tests, whose element may call: what it gives at the around that it runs in -/
theorem ge_loop (hh : A.handled = none) (W₀ : ∀ A' : Around, A'.handled = none → Walks prog w A' I fp wr n₀ P St₀) (F : Nat → Value → Prop) (href : Heap)
    (hx : cenv.kindOf x = some .local) (hp : (cenv.scope.kind == .class || (cenv.scope.kind == .module && cenv.locals != cenv.globals)) = false) (hco : cenv.scope.isCoroutine = false) (hCf : cenv.locals ∉ fp)
    (hq : ∀ i v (s₂ : Shared) m₂ (E' : Value → Shared → Prop), P i v → s₂.heap.Ns cenv.locals m₂ → m₂ x = some v → (∀ b ∈ fp, b ∉ wr → ∀ o, href.get? b = some o → s₂.heap.get? b = some o) →
      wpAny (model prog w) (A.over (.compLoop (.GeneratorExp elt [⟨.Name x px, iter, [], 0⟩] scope pos) 0 (.ref I) .none cenv) []) (eval elt cenv) (fun y s₃ => F i y ∧ Keeps s₂ s₃) E' s₂) :
    ∀ (k i : Nat) (s₀ s : Shared) (m : Str → Option Value), n₀ - i = k → i ≤ n₀ → St₀ i s.heap → s.heap.Ns cenv.locals m → GenSince cenv.locals wr s₀ s → (∀ b ∈ fp, b ∉ wr → ∀ o, href.get? b = some o → s.heap.get? b = some o) →
      Seg (model prog w) A (fun n s₀ r s₁ => r = .ok .next ∧ (n = 0 ∧ GenSince cenv.locals wr s₀ s₁)) (genProto cenv.locals fp wr allPz n₀ F) (passing allPz n₀ i).length s₀
        (.compLoop (.GeneratorExp elt [⟨.Name x px, iter, [], 0⟩] scope pos) 0 (.ref I) .none cenv)
        ((model prog w).den (.compLoop (.GeneratorExp elt [⟨.Name x px, iter, [], 0⟩] scope pos) 0 (.ref I) .none cenv)) [] s
  | 0, i, s₀, s, m, hk, hi, hst, hn, hsince, hkp => by
    have hh' : (A.over (.compLoop (.GeneratorExp elt [⟨.Name x px, iter, [], 0⟩] scope pos) 0 (.ref I) .none cenv) []).handled = none := hh
    have hin : i = n₀ := by omega
    subst hin
    show Seg _ A _ _ _ s₀ _ ((compTurn (.GeneratorExp elt [⟨.Name x px, iter, [], 0⟩] scope pos) 0 (.ref I) .none cenv).onRaise (leaving cenv)) [] s
    rw [compTurn_gen, Sem.onRaise_eq_wrap]
    refine seg_bind_wrap (wpAny_standAt (seg_bind_wrap ((W₀ _ hh').done s _ _ hst fun h' tk hk' => ?_)))
    exact seg_end (.ok .next) ⟨rfl, by rw [passing_end]; rfl, hsince.step fun b o _ hw e => hk' b o hw e⟩
  | k + 1, i, s₀, s, m, hk, hi, hst, hn, hsince, hkp => by
    have hh' : (A.over (.compLoop (.GeneratorExp elt [⟨.Name x px, iter, [], 0⟩] scope pos) 0 (.ref I) .none cenv) []).handled = none := hh
    have hlt : i < n₀ := by omega
    have hCw : cenv.locals ∉ wr := fun h => hCf ((W₀ A hh).sub _ h)
    show Seg _ A _ _ _ s₀ _ ((compTurn (.GeneratorExp elt [⟨.Name x px, iter, [], 0⟩] scope pos) 0 (.ref I) .none cenv).onRaise (leaving cenv)) [] s
    rw [compTurn_gen, Sem.onRaise_eq_wrap]
    refine seg_bind_wrap (wpAny_standAt (seg_bind_wrap ((W₀ _ hh').item i s _ _ hlt hst fun v h₁ tk₁ hPv hst₁ hk₁ => ?_)))
    refine seg_bind_wrap (wpAny_of_eq (rfl : letOwnedTupleGo (.Name x px) (.ref I) v = pure ()) (seg_bind_wrap (wpAny_assign_Name (wpAny_storeName_local hx (hn.at' fun o e => hk₁ _ o hCw e) (fun h₂ hn₂ hs₂ => ?_) hp))))
    have up : ∀ b o, b ≠ cenv.locals → b ∉ wr → s.heap.get? b = some o → h₂.get? b = some o := fun b o hbC hbw e => hs₂.extBut b o hbC (hk₁ b o hbw e)
    have hkp₂ : ∀ b ∈ fp, b ∉ wr → ∀ o, href.get? b = some o → h₂.get? b = some o := fun b hb hbw o e => up b o (fun h => hCf (h ▸ hb)) hbw (hkp b hb hbw o e)
    have hst₂ : St₀ (i + 1) h₂ := (W₀ A hh).frame _ _ _ hst₁ fun b hb o e => hs₂.extBut b o (fun h => hCf (h ▸ hb)) e
    simp only [List.forIn_nil]
    refine seg_bind_wrap (wpAny_pure ?_)
    rw [passing_true hlt rfl, List.length_cons]
    simp only [if_true]
    have hy : ∀ v, yieldOut cenv v = yieldValue v := fun v => by simp only [yieldOut, hco, Bool.false_eq_true, if_false]
    simp only [hy]
    rw [Sem.bind_eq_wrap', Sem.bind_eq_wrap', Sem.wrap_wrap, Sem.wrap_wrap]
    refine seg_wrap (wpAny_mono (hq i v _ _ _ hPv hn₂ (by simp) hkp₂) (fun y s₄ h₄ => ?_) fun _ _ e => e)
    obtain ⟨hFy, h₄, tk₄, rfl, hk₄⟩ := h₄
    refine seg_at (seg_yield rfl rfl rfl ⟨⟨i, passing_here hlt rfl, hFy⟩, hsince.step fun b o hbC hbw e => hk₄ b o (up b o hbC hbw e), fun s'' hal => ?_⟩)
    exact seg_again rfl (ge_loop hh W₀ F href hx hp hco hCf hq k (i + 1) s'' s'' _ (by omega) hlt ((W₀ A hh).frame _ _ _ hst₂ fun b hb o e => hal b (List.mem_cons_of_mem _ hb) o (hk₄ b o e))
      ((hn₂.keeps hk₄).at' fun o e => hal _ (List.mem_cons_self ..) o e) (GenSince.refl _ _ _) fun b hb hbw o e => hal b (List.mem_cons_of_mem _ hb) o (hk₄ b o (hkp₂ b hb hbw o e)))
theorem ge_start (hh : A.handled = none) (W₀ : ∀ A' : Around, A'.handled = none → Walks prog w A' I fp wr n₀ P St₀) (F : Nat → Value → Prop) (href : Heap)
    (hx : cenv.kindOf x = some .local) (hp : (cenv.scope.kind == .class || (cenv.scope.kind == .module && cenv.locals != cenv.globals)) = false) (hco : cenv.scope.isCoroutine = false) (hCf : cenv.locals ∉ fp)
    (hq : ∀ i v (s₂ : Shared) m₂ (E' : Value → Shared → Prop), P i v → s₂.heap.Ns cenv.locals m₂ → m₂ x = some v → (∀ b ∈ fp, b ∉ wr → ∀ o, href.get? b = some o → s₂.heap.get? b = some o) →
      wpAny (model prog w) (A.over (.compLoop (.GeneratorExp elt [⟨.Name x px, iter, [], 0⟩] scope pos) 0 (.ref I) .none cenv) []) (eval elt cenv) (fun y s₃ => F i y ∧ Keeps s₂ s₃) E' s₂)
    (s₀ s : Shared) (m : Str → Option Value) (hst : St₀ 0 s.heap) (hn : s.heap.Ns cenv.locals m) (hsince : GenSince cenv.locals wr s₀ s) (hkp : ∀ b ∈ fp, b ∉ wr → ∀ o, href.get? b = some o → s.heap.get? b = some o) :
    Seg (model prog w) A (fun n s₀ r s₁ => r = .ok .next ∧ (n = 0 ∧ GenSince cenv.locals wr s₀ s₁)) (genProto cenv.locals fp wr allPz n₀ F) (passing allPz n₀ 0).length s₀
      (.compStart (.GeneratorExp elt [⟨.Name x px, iter, [], 0⟩] scope pos) 0 (.ref I) .none cenv)
      ((model prog w).den (.compStart (.GeneratorExp elt [⟨.Name x px, iter, [], 0⟩] scope pos) 0 (.ref I) .none cenv)) [] s := by
  have hh' : (A.over (.compStart (.GeneratorExp elt [⟨.Name x px, iter, [], 0⟩] scope pos) 0 (.ref I) .none cenv) []).handled = none := hh
  have loop := ge_loop (iter := iter) (px := px) (scope := scope) (pos := pos) hh W₀ F href hx hp hco hCf hq n₀ 0 s₀ s m (Nat.sub_zero _) (Nat.zero_le _) hst hn hsince hkp
  show Seg _ A _ _ _ s₀ _ ((compStart (.GeneratorExp elt [⟨.Name x px, iter, [], 0⟩] scope pos) 0 (.ref I) .none cenv).onRaise (leaving cenv)) [] s
  unfold compStart
  rw [Sem.onRaise_eq_wrap]
  show Seg _ A _ _ _ s₀ _ ((ask >>= _).wrap _ _ _ _) [] s
  refine seg_bind_wrap (wpAny_askSetting ?_)
  split
  · exact seg_again rfl loop
  · first
      | exact seg_bind_wrap (wpAny_rule (seg_bind_wrap (wpAny_standAt (seg_bind_wrap ((W₀ _ hh').self 0 s _ _ hst (seg_again rfl loop))))))
      | (refine seg_bind_wrap (wpAny_rule ?_); show Seg _ A _ _ _ s₀ _ ((standAt iter.pos >>= _).wrap _ _ _ _) [] s; exact seg_bind_wrap (wpAny_standAt (seg_bind_wrap ((W₀ _ hh').self 0 s _ _ hst (seg_again rfl loop)))))
theorem ge_fresh {a : Addr} {g : Nat} (hh : A.handled = none) (W₀ : ∀ A' : Around, A'.handled = none → Walks prog w A' I fp wr n₀ P St₀) (F : Nat → Value → Prop)
    (hx : cenv.kindOf x = some .local) (hp : (cenv.scope.kind == .class || (cenv.scope.kind == .module && cenv.locals != cenv.globals)) = false) (hco : cenv.scope.isCoroutine = false) (hCf : cenv.locals ∉ fp) {s : Shared} {m : Str → Option Value}
    (hq : ∀ i v (s₂ : Shared) m₂ (E' : Value → Shared → Prop), P i v → s₂.heap.Ns cenv.locals m₂ → m₂ x = some v → (∀ b ∈ fp, b ∉ wr → ∀ o, s.heap.get? b = some o → s₂.heap.get? b = some o) →
      wpAny (model prog w) (A.in1.over (.compLoop (.GeneratorExp elt [⟨.Name x px, iter, [], 0⟩] scope pos) 0 (.ref I) .none cenv) []) (eval elt cenv) (fun y s₃ => F i y ∧ Keeps s₂ s₃) E' s₂)
    (hg : s.heap.IsGen a g) (hgs : s.gens[g]? = some (.fresh (.compStart (.GeneratorExp elt [⟨.Name x px, iter, [], 0⟩] scope pos) 0 (.ref I) .none cenv)))
    (hst : St₀ 0 s.heap) (hn : s.heap.Ns cenv.locals m) (hl : s.heap.NoLimit) : GenAt prog w A a g cenv.locals fp wr allPz n₀ F 0 s :=
  ⟨hg, hl, _, hgs, fun s'' hal => ⟨rfl, ge_start (A := A.in1) hh W₀ F s.heap hx hp hco hCf hq s'' s'' m ((W₀ A hh).frame _ _ _ hst fun b hb o e => hal b (List.mem_cons_of_mem _ hb) o e)
    (hn.at' fun o e => hal _ (List.mem_cons_self ..) o e) (GenSince.refl _ _ _) fun b hb _ o e => hal b (List.mem_cons_of_mem _ hb) o e⟩⟩
end
end Mine
end
section
open PySem PySem.W PyProof.Rows PySem.Calls PySem.Spec
set_option maxRecDepth 100000
namespace Mine
/-- the table of a code object's inner codes -/
noncomputable def PlOk (ps₀ : Array Value) (o : Obj) : Prop := ∃ more, o = { cls := .none, data := .fields (ps₀ ++ more) } ∧ TriplesOk (ps₀ ++ more).toList
theorem PlOk.more {ps₀ more : Array Value} {o : Obj} (h : PlOk (ps₀ ++ more) o) : PlOk ps₀ o := by
  obtain ⟨m, e, t⟩ := h
  exact ⟨more ++ m, by rw [e, Array.append_assoc], by rw [← Array.append_assoc]; exact t⟩
theorem genexpr_code {M : Model} {A : Around} {E : Value → Shared → Prop} {s : Shared} {env : Env} {c P : Addr} {ps : Array Value} {pos : Pos} {qualname : Str} {scope : Scope} {Q : Value → Shared → Prop} (hc : env.code = .ref c) (hok : s.heap.IsCode c P ps) (htab : s.heap.TableAt c P ps)
    (hQ : ∀ code h' tk more, Heap.ExtBut P s.heap h' → h'.IsCode c P (ps ++ more) → h'.TableAt c P (ps ++ more) → Q code { s with heap := h', toks := tk }) :
    wpAny M A (genexprCode env pos qualname scope) Q E s := by
  cases hnf : codeAmong pos ps.toList with
  | some cv => exact wpAny_genexprCode_hit hc hok hnf (hQ cv s.heap s.toks #[] (Heap.ExtBut.refl _ _) (by rw [Array.append_empty]; exact hok) (by rw [Array.append_empty]; exact htab))
  | none => exact wpAny_genexprCodeX hc hok htab hnf fun c' h' tk hx _ _ hC _ hT _ => hQ _ h' tk _ hx hC hT
/-- a made generator of texts, not yet begun -/
structure GenMade (prog : Program) (w : World) (A : Around) (a : Addr) (n : Nat) (F : Nat → Value → Prop) (h : Heap) (s : Shared) : Prop where
  ex : ∃ fp wr g St, WalksS prog w A.in4 a fp wr (GenOnlyQ g) (passing allPz n 0).length (fun j y => ∃ i, (passing allPz n 0)[j]? = some i ∧ F i y) St ∧ St 0 s ∧ (∀ i s', St i s' → s'.TypeIs (.ref a) "generator") ∧ a ∈ fp ∧ (∀ b ∈ fp, b < s.heap.objs.size) ∧ ∀ b ∈ wr, h.get? b = none
section
variable {prog : Program} {w : World} {A : Around} {E : Value → Shared → Prop} {s : Shared} {g : Heap} {L c P l : Addr} {m : Str → Option Value} {ps items : Array Value} {po : Obj} {env : Env} {elt : Expr} {x y : Str} {px py pos : Pos} {scope : Scope} {Q : Value → Shared → Prop} {F : Nat → Value → Prop}
theorem ge_eval (hh : A.handled = none) (Fr₀ : Fr g L s.heap m) (N : News g L s.heap [(P, po)]) (hpo : po.data = .fields ps) (hcode : env.code = .ref c) (hC : s.heap.IsCode c P ps) (hTb : s.heap.TableAt c P ps) (hlim : s.heap.NoLimit)
    (hco : scope.isCoroutine = false) (hclos : closureFor scope env = pure []) (hcell : ∀ y ∈ scope.names, y.2 ≠ .cell) (h0 : scope.names.lookup (".0" : Str) = some NameKind.local) (hx : scope.names.lookup x = some .local) (hkind : scope.kind = .function) (hroom : A.depth < recursionLimit)
    (hit : ∀ (Q : Value → Shared → Prop), Q (.ref l) s → wpAny (model prog w) A (eval (.Name y py) env) Q E s) (hl : g.IsList l items)
    (hbi : ∀ (s' : Shared) (Q : Addr → Shared → Prop), (∀ b o, g.get? b = some o → s'.heap.get? b = some o) → Q builtinsNs s' → wpAny (model prog w) A (builtinsFor env.globals env.builtins) Q E s')
    (hq : ∀ (C I : Addr) code i v (s₂ : Shared) m₂ (E' : Value → Shared → Prop), items[i]? = some v → s₂.heap.Ns C m₂ → m₂ x = some v → (∀ b o, g.get? b = some o → s₂.heap.get? b = some o) →
      wpAny (model prog w) (A.in4.in1.over (.compLoop (.GeneratorExp elt [⟨.Name x px, .Name y py, [], 0⟩] scope pos) 0 (.ref I) .none (genEnv scope [] C code builtinsNs env)) []) (eval elt (genEnv scope [] C code builtinsNs env)) (fun y s₃ => F i y ∧ Keeps s₂ s₃) E' s₂)
    (h : ∀ a h' tk gs po', gs.bare = true → Fr g L h' m → News g L h' [(P, po')] → PlOk ps po' → GenMade prog w A a items.size F s.heap { s with heap := h', toks := tk, gens := s.gens.push gs } → Q (.ref a) { s with heap := h', toks := tk, gens := s.gens.push gs }) :
    wpAny (model prog w) A (eval (.GeneratorExp elt [⟨.Name x px, .Name y py, [], 0⟩] scope pos) env) Q E s := by
  have hls := PySem.W.stays_list Fr₀.keep hl
  have hllt : l < s.heap.objs.size := by obtain ⟨_, e, _⟩ := hls; exact Heap.lt_size e
  have NP := N _ (List.Mem.head _)
  refine wpAny_GeneratorExp_make (cl := []) hco hclos hcell h0 hkind hroom (hit _ ?_) (fun _ => rfl)
  refine wpAny_pyIter_list hls ⟨hlim.push _, ?_⟩
  have k₁ : ∀ b o, s.heap.get? b = some o → (s.heap.push { cls := .type "list_iterator", data := .fields #[.ref l, .int 0 0] }).get? b = some o := fun b o e => Heap.get?_push_of_some _ e
  generalize hI : s.heap.objs.size = I at *
  have hgI : s.heap.get? I = none := by rw [← hI]; exact Heap.get?_none_of_le (Nat.le_refl _)
  have hIt : (s.heap.push { cls := .type "list_iterator", data := .fields #[.ref l, .int 0 0] }).IsListIter I l 0 := ⟨_, by rw [← hI]; exact Heap.get?_push_size _ rfl, rfl, rfl⟩
  have hsz₁ : (s.heap.push { cls := .type "list_iterator", data := .fields #[.ref l, .int 0 0] }).objs.size = I + 1 := by rw [Heap.size_push, hI]
  generalize s.heap.push { cls := .type "list_iterator", data := .fields #[.ref l, .int 0 0] } = h₁ at *
  have hPI : P ≠ I := fun e => by rw [e, hgI] at NP; exact absurd NP.1 (by simp)
  refine genexpr_code (s := { s with heap := h₁ }) hcode (hC.keeps k₁) (hTb.keeps k₁) fun code h₂ tk₂ more₂ hx₂ hc₂ hT₂ => ?_
  have hgP : ∀ b o, g.get? b = some o → b ≠ P := fun b o e z => by rw [z, NP.2.2] at e; cases e
  have kg : ∀ b o, g.get? b = some o → h₂.get? b = some o := fun b o e => hx₂ b o (hgP b o e) (k₁ b o (Fr₀.keep b o e))
  have F₂ : Fr g L h₂ m := by
    obtain ⟨oL, e1, e2, hL, r⟩ := Fr₀.ns
    exact ⟨⟨oL, e1, e2, hx₂ L oL (Ne.symm NP.2.1) (k₁ _ _ hL), r⟩, kg, Fr₀.above⟩
  obtain ⟨o, vs, file, tf, flags, tg, inF, text, tt, op, ho, hd, h11, h2, h7, h9, h10, hop, hpd, htr, hne⟩ := id hc₂
  have N₂ : News g L h₂ [(P, op)] := fun q hq => by
    rw [List.mem_singleton.mp hq]; exact ⟨hop, NP.2⟩
  have hsz₂ : I < h₂.objs.size := by
    obtain ⟨_, e, _⟩ := hIt
    exact Heap.lt_size (hx₂ I _ (Ne.symm hPI) e)
  refine hbi { s with heap := h₂, toks := tk₂ } _ kg ?_
  intro h₃ hn₃ hs₃
  have keep₃ : ∀ b o, h₂.get? b = some o → h₃.get? b = some o := fun b o e => hs₃.extBut b o (Nat.ne_of_lt (Heap.lt_size e)) (Heap.get?_push_of_some _ e)
  have hsz₃ : h₃.objs.size = h₂.objs.size + 1 := by rw [hs₃.1, Heap.size_push]
  have keep₅ : ∀ b o, h₂.get? b = some o → (h₃.push { cls := .type "generator", data := .fields #[.int s.gens.size 0, .str "<genexpr>" (tk₂ + 1), .str (env.qual ++ "<genexpr>") (tk₂ + 1 + 1)] }).get? b = some o := fun b o e => Heap.get?_push_of_some _ (keep₃ b o e)
  have hlim₂ : h₂.NoLimit := by
    obtain ⟨mc, hns, hnn⟩ := hlim
    obtain ⟨oS, es, ep, hoS, hdS, r⟩ := hns
    refine ⟨mc, ⟨oS, es, ep, hx₂ _ _ (fun e => ?_) (k₁ _ _ hoS), hdS, r⟩, hnn⟩
    rw [e, NP.1] at hoS
    rw [← Option.some.inj hoS, hpo] at hdS
    cases hdS
  have hcS : cStatics < h₂.objs.size := let ⟨_, hn, _⟩ := hlim₂; hn.lt
  have hcI : cStatics ≠ I := fun e => by
    obtain ⟨mc, hns, _⟩ := hlim
    have := hns.lt
    rw [e, hI] at this
    exact Nat.lt_irrefl _ this
  have hgen : ∀ s' : Shared, s' = ({ s with gens := s.gens.push (.fresh (.compStart (.GeneratorExp elt [⟨.Name x px, .Name y py, [], 0⟩] scope pos) 0 (.ref I) .none (genEnv scope [] h₂.objs.size code builtinsNs env))), toks := tk₂ + 1 + 1 + 1, heap := h₃.push { cls := .type "generator", data := .fields #[.int s.gens.size 0, .str "<genexpr>" (tk₂ + 1), .str (env.qual ++ "<genexpr>") (tk₂ + 1 + 1)] } } : Shared) →
      GenAt prog w A.in4 h₃.objs.size s.gens.size h₂.objs.size (List.range h₂.objs.size) [I] allPz items.size F 0 s' := by
    rintro _ rfl
    refine ge_fresh (A := A.in4) (cenv := genEnv scope [] h₂.objs.size code builtinsNs env) (St₀ := fun i h => h.IsListIter I l i ∧ h.IsList l items) (P := fun i v => items[i]? = some v) (m := fun y => if y = ".0" then some (.ref I) else none) hh
      (fun A' hA => (Walks.list hA I l (Nat.ne_of_lt hllt) items).mono_fp fun b hb => List.mem_range.mpr ?_) F hx (by simp [genEnv, hkind]) hco (fun hm => Nat.lt_irrefl _ (List.mem_range.mp hm))
      (fun i v s₂ m₂ E' hv hn hm hkeep => hq _ _ _ i v s₂ m₂ E' hv hn hm fun b o e => hkeep b (List.mem_range.mpr (Heap.lt_size (kg b o e))) (fun hb => ?_) o (keep₅ b o (kg b o e)))
      ⟨_, _, _, Heap.get?_push_size _ rfl, rfl, rfl, rfl⟩ (Array.getElem?_push_size ..) ⟨?_, ?_⟩ (hn₃.push _) (hlim₂.keeps keep₅)
    · rcases List.mem_cons.mp hb with rfl | hb
      · exact hsz₂
      · rw [List.mem_singleton.mp hb]; exact Nat.lt_trans hllt hsz₂
    · have z := Fr₀.keep b o e
      rw [List.mem_singleton.mp hb, hgI] at z
      cases z
    · obtain ⟨oi, hoi, r⟩ := hIt
      exact ⟨oi, keep₅ _ _ (hx₂ I _ (Ne.symm hPI) hoi), r⟩
    · obtain ⟨ol, hol, r⟩ := hl
      exact ⟨ol, keep₅ _ _ (kg _ _ hol), r⟩
  have hfresh : s.heap.get? h₂.objs.size = none := Heap.get?_none_of_le (by rw [hI]; exact Nat.le_of_lt hsz₂)
  refine h _ _ _ _ op rfl (F₂.keeps keep₅) (News.grown N₂ keep₅) ⟨more₂, Option.some.inj (hop.symm.trans hT₂.2), htr⟩ ⟨h₃.objs.size :: h₂.objs.size :: List.range h₂.objs.size, h₂.objs.size :: [I], s.gens.size, GenAt prog w A.in4 h₃.objs.size s.gens.size h₂.objs.size (List.range h₂.objs.size) [I] allPz items.size F, ?_, hgen _ rfl, fun i s' st => st.1.typeIs, List.mem_cons_self, ?_, ?_⟩
  · exact WalksS.genexpQ (prog := prog) (w := w) (A := A.in4) hh h₃.objs.size s.gens.size h₂.objs.size (List.range h₂.objs.size) [I] allPz items.size F (by rw [hsz₃]; exact Nat.succ_ne_self _) (fun hm => by have := List.mem_range.mp hm; omega)
      (fun b hb => by rw [List.mem_singleton.mp hb]; exact List.mem_range.mpr hsz₂) hroom (List.mem_range.mpr hcS) (Nat.ne_of_lt hcS) (fun hb => hcI (List.mem_singleton.mp hb))
  · intro b hb
    show b < (h₃.push _).objs.size
    rw [Heap.size_push, hsz₃]
    rcases List.mem_cons.mp hb with rfl | hb
    · rw [hsz₃]; exact Nat.lt_succ_self _
    · rcases List.mem_cons.mp hb with rfl | hb
      · exact Nat.lt_succ_of_lt (Nat.lt_succ_self _)
      · exact Nat.lt_succ_of_lt (Nat.lt_succ_of_lt (List.mem_range.mp hb))
  · intro b hb
    rcases List.mem_cons.mp hb with rfl | hb
    · exact hfresh
    · rw [List.mem_singleton.mp hb]; exact hgI
end
end Mine
end
section
open PySem PySem.W PyProof.Rows PySem.Calls PySem.Spec
set_option maxRecDepth 100000
namespace Mine
noncomputable def ob794 (w : World) : Obj := ((Mine.hd.heap_39 w.params).lookup 794).getD default
theorem at794 (w : World) : (Mine.hd.heap_39 w.params).lookup 794 = some (ob794 w) := by kernel_rfl
noncomputable def fieldsIn : Obj → Array Value
  | ⟨_, _, .fields vs, _⟩ => vs
  | _ => #[]
noncomputable def isInt' : Value → Bool
  | .int _ _ => true
  | _ => false
noncomputable def isStr' : Value → Bool
  | .str _ _ => true
  | _ => false
noncomputable def isBool' : Value → Bool
  | .bool _ => true
  | _ => false
noncomputable def codeOk (o : Obj) : Bool := (match o.data with
  | .fields _ => true
  | _ => false) && isStr' ((fieldsIn o).getD 18 .none) && isInt' ((fieldsIn o).getD 7 .none) && isBool' ((fieldsIn o).getD 9 .none) && isInt' ((fieldsIn o).getD 10 .none)
theorem code794 (w : World) : codeOk (ob794 w) = true := by kernel_rfl
theorem place794 (w : World) : (fieldsIn (ob794 w)).getD 11 .none = .ref 790 := by kernel_rfl
theorem of_int' {v : Value} (h : isInt' v = true) : ∃ i t, v = .int i t := by cases v <;> first | exact ⟨_, _, rfl⟩ | (cases h; done)
theorem of_str' {v : Value} (h : isStr' v = true) : ∃ i t, v = .str i t := by cases v <;> first | exact ⟨_, _, rfl⟩ | (cases h; done)
theorem of_bool' {v : Value} (h : isBool' v = true) : ∃ i, v = .bool i := by cases v <;> first | exact ⟨_, rfl⟩ | (cases h; done)
theorem isCode794 {w : World} {h : Heap} {po : Obj} {ps : Array Value} (X : (Mine.hd.heap_39 w.params).In h) (hp : h.get? 790 = some po) (hd : po.data = .fields ps) (ht : TriplesOk ps.toList) : h.IsCode 794 790 ps := by
  have e := X _ _ (at794 w)
  have c := code794 w
  have p := place794 w
  generalize ob794 w = o at e c p
  obtain ⟨oc, od, dt, osl⟩ := o
  cases dt <;> simp only [codeOk, Bool.false_and, Bool.true_and, Bool.and_eq_true, Bool.false_eq_true] at c
  rename_i vs
  obtain ⟨⟨⟨c1, c2⟩, c3⟩, c4⟩ := c
  simp only [fieldsIn] at c1 c2 c3 c4 p
  obtain ⟨i1, t1, e1⟩ := of_str' c1
  obtain ⟨i2, t2, e2⟩ := of_int' c2
  obtain ⟨i3, e3⟩ := of_bool' c3
  obtain ⟨i4, t4, e4⟩ := of_int' c4
  exact ⟨_, vs, i1, t1, i2, t2, i3, i4, t4, po, e, rfl, p, e1, e2, e3, e4, hp, hd, ht, by decide⟩
noncomputable def isCode' (o : Obj) : Bool := o.cls == .type "code"
theorem cls794 (w : World) : isCode' (ob794 w) = true := by kernel_rfl
theorem table794 {w : World} {h : Heap} {ps : Array Value} (X : (Mine.hd.heap_39 w.params).In h) (hp : h.get? 790 = some { cls := .none, data := .fields ps }) : h.TableAt 794 790 ps := by
  have e := X _ _ (at794 w)
  have c := code794 w
  have p := place794 w
  have k := cls794 w
  generalize ob794 w = o at e c p k
  obtain ⟨oc, od, dt, osl⟩ := o
  cases dt <;> simp only [codeOk, Bool.false_and, Bool.true_and, Bool.and_eq_true, Bool.false_eq_true] at c
  rename_i vs
  simp only [fieldsIn] at p
  refine ⟨⟨_, vs, e, eq_of_beq k, rfl, ?_⟩, hp⟩
  rw [Array.getD_eq_getD_getElem?] at p
  cases h11 : vs[11]? with
  | none => rw [h11] at p; cases p
  | some z => rw [h11] at p; exact congrArg some p
/-- what quote gives of a text -/
noncomputable def Quo (y z : Str) : Prop := ∀ {prog : Program} {w : World} {A : Around} {s : Shared} {Q : Value → Shared → Prop} {E : Value → Shared → Prop} {p : Program} {loose : List Str} {mg mb : Str → Option Value} {t : Tok}, (Mine.hd.heap_39 w.params).In s.heap → TopRead p loose mg mb s.heap → A.depth < recursionLimit →
  (∀ s', Keeps s s' → ∀ t', Q (.str z t') s') → wpAny (model prog w) A (call (.ref 803) [.str y t]) Q E s
section
variable {prog : Program} {w : World} {A : Around} {s : Shared} {Q : Value → Shared → Prop} {E : Value → Shared → Prop} {p : Program} {loose : List Str} {mg mb : Str → Option Value} {h₀ : Heap} {L S1 bm : Addr} {ob po : Obj} {m : Str → Option Value} {own : List (Addr × Obj)} {ps ps₀ a1 : Array Value} {c1 : Nat} {xs : List Str} {qt : Str → Str}
set_option maxHeartbeats 4000000 in
theorem call_join (F : Fr h₀ L s.heap m) (N : News h₀ L s.heap [(790, po)]) (N' : News h₀ L s.heap own) (hd : ∀ q ∈ own, q.1 ∉ List.map (fun (x : Addr × Obj) => x.1) [(790, po)]) (hpo : PlOk ps₀ po) (H1 : (S1, ListObj a1 c1) ∈ own) (hs1 : StrsAre a1.toList xs) (X : (Mine.hd.heap_39 w.params).In h₀) (T : TopRead p loose mg mb h₀) (Bm : BMod h₀ mainGlobals mg bm ob) (hroom : A.depth + 100 < recursionLimit) (hh : A.handled = none)
    (hG : AllBare s.gens) (hqt : ∀ y ∈ xs, Quo y (qt y)) (hn : xs.length ≤ 100000) (hjo : JoinOk (Str.ofString " ") (xs.map qt) = true)
    (h : ∀ s' t' po', Fr h₀ L s'.heap m → News h₀ L s'.heap ((790, po') :: own) → PlOk ps₀ po' → AllBare s'.gens → s'.os = s.os → s'.drawn = s.drawn → Q (.str (Txt.join (Str.ofString " ") (xs.map qt)) t') s') :
    wpAny (model prog w) A (call (.ref 795) [.ref S1]) Q E s := by
  have hr' : A.depth < recursionLimit := by omega
  obtain ⟨more, hpe, hpt⟩ := id hpo
  have hpd : po.data = .fields (ps₀ ++ more) := by rw [hpe]
  k_dflt (refine' callHR (rest := own) F N N' hd X T ?k1 ?k2 hr' ?k3 ?k4 ?k5 ?_ ?c1 ?c2 ?c3; (case k1 => k_is); (case k2 => k_is); (case k3 => first | exact BindsTo.of_eq rfl | exact binds_K (by k_in) rfl (by k_is) rfl rfl rfl); (case k4 => exact locs rfl); (case k5 => decide); (case c1 => exact rfl); (case c2 => exact rfl); (case c3 => exact rfl); intro g L' h₁ st F₁ N₁ G₁ X₁ T₁; (try dsimp only))
  have e1 := G₁ _ H1
  have e3 : g.IsList S1 a1 := ⟨_, e1, rfl, _, rfl⟩
  have Bg := Bm.keeps st
  k_steps
  refine ge_eval (F := fun i y => ∃ a t, xs[i]? = some a ∧ y = .str (qt a) t) hh F₁ N₁ hpd rfl (isCode794 (X₁.keeps F₁.keep) (N₁ _ (List.Mem.head _)).1 hpd hpt) (table794 (X₁.keeps F₁.keep) (by rw [← hpe]; exact (N₁ _ (List.Mem.head _)).1)) (T₁.nolimit.keeps F₁.keep) rfl ?hclos ?hcell rfl rfl rfl ?hroom (fun Q hQ => nameX_L (cl := []) F₁ rfl hQ rfl rfl (by decide)) e3 (fun s' Q k hQ => ?hbi) ?hq ?_
  case hclos => first | rfl | kernel_rfl
  case hcell => decide
  case hroom => show A.depth + 1 < _; omega
  case hbi => exact wpAny_builtinsFor (Bg.keeps k).ns (Bg.keeps k).name (Bg.keeps k).ne (Bg.keeps k).obj (Bg.keeps k).cls (Bg.keeps k).dict (Bg.keeps k).data hQ
  case hq =>
    intro C I code i v s₂ m₂ E' hv hns hm k
    have X₂ := X₁.keeps k
    have T₂ := T₁.keeps k
    obtain ⟨y, t, rfl, hy⟩ := hs1.item i v (by simpa using hv)
    refine Call_Name rfl (wp_of_rdA (P := fun v => v = .ref 803) _ X₂ (cast (α := (Value.ref 803 = Value.ref 803)) (by kernel_rfl) rfl) fun v e => ?_)
    subst e
    refine callWith_K X₂ (by k_is) (spliced_more (ldG hns hm (spliced_none ⟨X₂, ?_⟩)) rfl) rfl rfl
    refine hqt y (List.mem_of_getElem? hy) X₂ T₂ (Nat.lt_of_le_of_lt (m := A.depth + 10) ?hdep (by omega)) fun s' ks t' => ⟨⟨y, t', hy, rfl⟩, ks⟩
    case hdep => first | (show A.depth + 1 + 0 + 0 ≤ _; omega) | (show A.depth + 1 + 0 + 1 ≤ _; omega) | (show A.depth + 1 + 0 + 2 ≤ _; omega)
  intro a h' tk gs po' hb F' N' hp' GM
  k_steps
  obtain ⟨fp, wr, gi, St, W, hst, hT, ha, hfp, hwr⟩ := GM.ex
  have hsz : a1.size = xs.length := by
    have := hs1.len_eq
    rwa [Array.length_toList] at this
  have hpass : passing allPz a1.size 0 = List.range xs.length := by
    rw [hsz]
    unfold passing
    rw [List.drop_zero]
    exact List.filter_eq_self.mpr fun _ _ => rfl
  rw [hpass, List.length_range] at W
  refine SC.joinGen W.in4_2 hT hst hfp ha (fun j v hv => ?_) (fun s' lt hm hacc => ?_) (by rw [sizeLine_eq]; omega)
  · obtain ⟨i, _, y, t, _, rfl⟩ := hv
    exact ⟨_, _, rfl⟩
  have hl : lt.map (·.1) = xs.map qt := by
    apply List.ext_getElem?
    intro j
    have hlen : lt.length = xs.length := by simpa [strValues] using hacc.1
    by_cases hj : j < xs.length
    · have hj' : j < lt.length := by omega
      obtain ⟨i, hi, y, u, hy, hv⟩ := hacc.2 j (.str lt[j].1 lt[j].2) (by simp [strValues, List.getElem?_eq_getElem hj'])
      have hij : i = j := by simpa [hj] using hi.symm
      subst hij
      injection hv with h1 _
      rw [List.getElem?_map, List.getElem?_map, hy, List.getElem?_eq_getElem hj']
      simp [h1]
    · rw [List.getElem?_eq_none (by rw [List.length_map]; omega), List.getElem?_eq_none (by rw [List.length_map]; omega)]
  rw [hl]
  refine ⟨hjo, fun t' k' => ?_⟩
  have nw : ∀ b o, h₁.get? b = some o → b ∉ wr := fun b o e hb => by
    have := hwr b hb
    rw [show h₁.get? b = none from this] at e
    cases e
  obtain ⟨oL, q1, q2, hL, q3⟩ := F₁.ns
  obtain ⟨oL', r1, r2, hL', r3⟩ := F'.ns
  have F'' : Fr g L' s'.heap _ := ⟨⟨oL', r1, r2, hm.heap _ _ (nw _ _ hL) hL', r3⟩, fun b o e => hm.heap _ _ (nw _ _ (F₁.keep b o e)) (F'.keep b o e), F'.above⟩
  have N'' : News g L' s'.heap [(790, po')] := fun q hq => by
    rw [List.mem_singleton.mp hq]
    have z := N' _ (List.Mem.head _)
    exact ⟨hm.heap _ _ (nw _ _ (N₁ _ (List.Mem.head _)).1) z.1, z.2⟩
  refine leaveH_ (s' := { s' with toks := k' }) F'' N'' fun F₂ N₂ => ?_
  exact h { s' with toks := k' } t' po' F₂ N₂ hp'.more (GenOnlyQ.bare hm.gens (hG.push hb)) hm.os hm.drawn
end
end Mine
end
section
open PySem PySem.W PyProof.Rows PySem.Calls PySem.Spec
set_option maxRecDepth 100000
namespace Mine
example : True := by k_with_none; trivial
example : True := by (k_with "call_G" => (refine' call_G (by assumption) (by exact TopRead.nolimit (by assumption)) (by k_is) (by k_is) (by assumption) (by exact BindsTo.of_eq rfl) (by exact locs rfl) (by decide) ?_ (by rfl) (by rfl) (by rfl); intro zh zF zN; (try dsimp only))); trivial
example : True := by (k_with "compareOp In str ref" => (k_here; k_dflt (refine' in_list_strs (by exact PySem.W.stays_list (Fr.keep (by assumption)) (by assumption)) (by assumption) ?_))); trivial
/-- the law's seven words -/
noncomputable def menu (x : Int) : Str :=
  if x.fmod 7 = 0 then Str.ofString "a" else if x.fmod 7 = 1 then Str.ofString "" else if x.fmod 7 = 2 then Str.ofString " " else if x.fmod 7 = 3 then Str.ofString "'" else if x.fmod 7 = 4 then Str.ofString "\"" else if x.fmod 7 = 5 then Str.ofString "''" else Str.ofString "a a"
noncomputable def goes (ys : List Str) (y : Str) : Bool := (y == Str.ofString "a" && ys.any (· == Str.ofString "a")) || (y == Str.ofString "''" && ys.any (· == Str.ofString ""))
section
variable {prog : Program} {w : World} {A : Around} {s : Shared} {Q : Value → Shared → Prop} {E : Value → Shared → Prop} {p : Program} {loose : List Str} {mg mb : Str → Option Value} {x : Int} {t : Tok}
set_option maxHeartbeats 1600000 in
theorem law_word (X : (Mine.hd.heap_39 w.params).In s.heap) (T : TopRead p loose mg mb s.heap) (hroom : A.depth < recursionLimit) (h : ∀ s', Keeps s s' → ∀ t', Q (.str (menu x) t') s') :
    wpAny (model prog w) A (call (.ref 810) [.int x t]) Q E s := by
  walk_at "call_G"
  k_steps
  all_goals rename Int.fmod x 7 = _ => he
  all_goals refine retG_of (by assumption) fun s' hk => ?_
  all_goals have := h s' hk
  all_goals simp only [menu, he] at this
  all_goals exact this _
set_option maxHeartbeats 1600000 in
theorem law_goes {y : Str} {l : Addr} {vs : List Value} {ys : List Str} (X : (Mine.hd.heap_39 w.params).In s.heap) (T : TopRead p loose mg mb s.heap) (hroom : A.depth < recursionLimit) (hl : s.heap.IsList l vs.toArray) (hi : StrsAre vs ys) (h : ∀ s', Keeps s s' → Q (.bool (goes ys y)) s') :
    wpAny (model prog w) A (call (.ref 822) [.str y t, .ref l]) Q E s := by
  have hg := h
  walk_at "call_G"
  k_steps
  all_goals (try dsimp only)
  all_goals refine retG_of (by assumption) fun s' hk => ?_
  all_goals replace hg := hg s' hk
  all_goals unfold goes at hg
  all_goals clear h
  all_goals first
    | (simp only [*, Bool.true_and, Bool.false_and, Bool.or_false, Bool.false_or, Bool.true_or, Bool.or_true, Bool.and_true, Bool.and_false] at hg ⊢; exact hg)
    | (simp_all; done)
end
example : True := by k_with_none; trivial
end Mine
end
section
open PySem PySem.W PyProof.Rows PySem.Calls PySem.Spec
set_option maxRecDepth 100000
namespace Mine
example : True := by k_with_none; trivial
example : True := by (k_with "call_G" => (refine' call_G (by assumption) (by exact TopRead.nolimit (by assumption)) (by k_is) (by k_is) (by assumption) (by exact BindsTo.of_eq rfl) (by exact locs rfl) (by decide) ?_ (by exact rfl) (by exact rfl) (by exact rfl); intro h₁ F N; (try dsimp only))); trivial
section
variable {prog : Program} {w : World} {A : Around} {s : Shared} {Q : Value → Shared → Prop} {E : Value → Shared → Prop} {p : Program} {loose : List Str} {mg mb : Str → Option Value} {x : Int} {t : Tok}
noncomputable def sign (c : Nat) : Str := ⟨#[c]⟩
/-- a sign as the law marks it -/
noncomputable def markS (x : Str) : Str := if x == Str.ofString "'" then Str.ofString "\"" ++ x ++ Str.ofString "\"" else Str.ofString "'" ++ x ++ Str.ofString "'"
noncomputable def marked (y : Str) : Str := Txt.join (Str.ofString "") (y.cps.toList.map fun c => markS (sign c))
theorem marks_len : ∀ l : List Nat, (List.map (fun (x : Str) => x.length) (l.map fun c => markS (sign c))).sum ≤ 3 * l.length
  | [] => by simp
  | c :: r => by
    have ih := marks_len r
    have l1 : (Str.ofString "'").length = 1 := by decide +kernel
    have l2 : (Str.ofString "\"").length = 1 := by decide +kernel
    have l3 : (sign c).length = 1 := rfl
    have hc : (markS (sign c)).length = 3 := by
      unfold markS
      split <;> rw [Str.length_append, Str.length_append] <;> omega
    simp only [List.map_cons, List.sum_cons, List.length_cons, hc]
    omega
theorem mark_elt {env : Env} {x : Str} {u : Tok} {m₃ : Str → Option Value} {p1 p2 p3 p4 p5 p6 p7 p8 p9 p10 p11 p12 p13 p14 : Pos} {k1 k2 k3 k4 k5 : Nat} {F : Value → Prop} (hk : env.scope.kind = .function) (hl : env.scope.names.lookup (Str.ofString "sign") = some .local) (hx : x.length ≤ 100) (hn : s.heap.Ns env.locals m₃) (hm : m₃ (Str.ofString "sign") = some (.str x u)) (hF : ∀ t', F (.str (markS x) t')) :
    wpAny (model prog w) A (eval (.IfExp (.Compare (.Name (Str.ofString "sign") p1) [.Eq] [.Constant (.str (Str.ofString "'")) k1 p2] p3) (.BinOp (.BinOp (.Constant (.str (Str.ofString "\"")) k2 p4) .Add (.Name (Str.ofString "sign") p5) p6) .Add (.Constant (.str (Str.ofString "\"")) k3 p7) p8) (.BinOp (.BinOp (.Constant (.str (Str.ofString "'")) k4 p9) .Add (.Name (Str.ofString "sign") p10) p11) .Add (.Constant (.str (Str.ofString "'")) k5 p12) p13) p14) env) (fun y s₄ => F y ∧ Keeps s s₄) E s := by
  have keep : ∀ tk, Keeps s { s with toks := tk } := fun tk => ⟨s.heap, tk, rfl, fun _ _ e => e⟩
  have l1 : (Str.ofString "'").length = 1 := by decide +kernel
  have l2 : (Str.ofString "\"").length = 1 := by decide +kernel
  refine IfExp_ (wpAny_isTrue_Compare1 (ldG hn hm (Constant_str (P.eq_str (wpAny_truthy_bool ?_))) hk hl) rfl)
  rw [eq_meets]
  unfold markS at hF
  cases hb : (x == Str.ofString "'") with
  | true =>
    rw [hb] at hF
    simp only [if_true] at hF ⊢
    refine wpAny_BinOp (wpAny_BinOp (Constant_str (ldG hn hm (SB.add (fun t₁ k₁ => Constant_str (SB.add (fun t₂ k₂ => ⟨hF t₂, keep k₂⟩) ?_)) ?_) hk hl)))
    · rw [Str.length_append, l2, sizeLine_eq]; omega
    · rw [l2, sizeLine_eq]; omega
  | false =>
    rw [hb] at hF
    simp only [Bool.false_eq_true, if_false] at hF ⊢
    refine wpAny_BinOp (wpAny_BinOp (Constant_str (ldG hn hm (SB.add (fun t₁ k₁ => Constant_str (SB.add (fun t₂ k₂ => ⟨hF t₂, keep k₂⟩) ?_)) ?_) hk hl)))
    · rw [Str.length_append, l1, sizeLine_eq]; omega
    · rw [l1, sizeLine_eq]; omega
theorem paired_strs {f : Str → Str} {y : Str} : ∀ {vs ys : List Value} (i : Nat), (∀ j v, vs[j]? = some v → SignAt y (i + j) v) → vs.length + i = y.cps.size → Paired (fun v z => ∃ x t t', v = Value.str x t ∧ z = .str (f x) t') vs ys → StrsAre ys ((y.cps.toList.drop i).map fun c => f (sign c))
  | [], _, i, hv, hlen, .nil => by
    have hlen' : i = y.cps.size := by simpa using hlen
    rw [List.drop_eq_nil_of_le (by rw [Array.length_toList]; omega)]
    exact .nil
  | v :: vs, z :: ys, i, hv, hlen, .cons hF hr => by
    obtain ⟨c, u, hc, rfl⟩ := hv 0 v rfl
    obtain ⟨x, t, t', e, rfl⟩ := hF
    cases e
    have hlt : i < y.cps.toList.length := by rw [Array.length_toList]; simp only [List.length_cons] at hlen; omega
    have hci : y.cps.toList[i]? = some c := by simpa using hc
    rw [List.drop_eq_getElem_cons hlt, List.map_cons]
    have e2 : y.cps.toList[i] = c := by
      rw [List.getElem?_eq_getElem hlt] at hci
      exact Option.some.inj hci
    rw [e2]
    exact .cons _ _ (paired_strs (i + 1) (fun j v hj => by have := hv (j + 1) v (by simpa using hj); rwa [show i + (j + 1) = i + 1 + j by omega] at this) (by simp only [List.length_cons] at hlen; omega) hr)
set_option maxHeartbeats 1600000 in
theorem law_marked {y : Str} (hy : (y == Str.ofString "") = false) (hz : y.length ≤ 1000) (X : (Mine.hd.heap_39 w.params).In s.heap) (T : TopRead p loose mg mb s.heap) (hroom : A.depth < recursionLimit) (hh : A.handled = none) (h : ∀ s', Keeps s s' → ∀ t', Q (.str (marked y) t') s') :
    wpAny (model prog w) A (call (.ref 815) [.str y t]) Q E s := by
  walk_at "call_G"
  k_steps
  refine wpAny_pyIter_str fun o St W hst => ?_
  refine ⟨fun _ => true, fun v z => ∃ x t t', v = .str x t ∧ z = .str (markS x) t', _, _, _, _, _, _, rfl, W _ hh, ?_, hst, ?_, ⟨?_, ?_⟩, fun D h' tk ys vs hD hl hpl hlen hP hF hk => ?_⟩
  · show y.cps.size ≤ _
    rw [sizeLine_eq]; exact Nat.le_trans hz (by decide)
  · intro b hb
    rw [List.mem_singleton.mp hb]
    show _ < (Heap.push _ _).objs.size
    rw [Heap.size_push]; exact Nat.lt_succ_self _
  · intro C i v s₃ m₃ E' _ hn hm _ _
    simp only [List.forIn_nil]
    exact wpAny_pure ⟨rfl, keeps_rfl _⟩
  · intro C i v s₃ m₃ E' hv _ hn hm _ _
    obtain ⟨c, u, _, rfl⟩ := hv
    exact mark_elt (env := compEnv _ C _) (F := fun z => ∃ x t t', Value.str (sign c) u = .str x t ∧ z = .str (markS x) t') rfl rfl (by show 1 ≤ 100; decide) hn hm fun t' => ⟨_, _, _, rfl, rfl⟩
  · rename Fr _ _ _ _ => kF
    have hs : StrsAre ys.toList ((y.cps.toList.drop 0).map fun c => markS (sign c)) := paired_strs 0 (fun j v hj => by rw [Nat.zero_add]; exact hP j v hj) (by simpa using hlen) (by have z := hF; rw [List.filter_eq_self.mpr (fun _ _ => rfl)] at z; exact z)
    rw [List.drop_zero] at hs
    refine spliced_none ?_
    refine join_list hl hs ?_ fun t' k => ?_
    · have z := marks_len y.cps.toList
      have z0 : (Str.ofString "").length = 0 := by decide +kernel
      rw [z0, Nat.mul_zero, Nat.add_zero]
      have zz : y.cps.toList.length ≤ 1000 := by rw [Array.length_toList]; exact hz
      omega
    · refine h _ ⟨h', k, rfl, fun b o e => ?_⟩ t'
      have e1 := kF.keep b o e
      refine hk b o (fun hb => ?_) (Heap.get?_push_of_some _ e1)
      rw [List.mem_singleton.mp hb] at e1
      exact absurd (Heap.lt_size e1) (Nat.lt_irrefl _)
end
example : True := by k_with_none; trivial
end Mine
end
section
open PySem PySem.W PyProof.Rows PySem.Calls PySem.Spec
set_option maxRecDepth 100000
namespace Mine
section
variable {prog : Program} {w : World} {A : Around} {E : Value → Shared → Prop} {s : Shared} {g : Heap} {L l : Addr} {m : Str → Option Value} {news : List (Addr × Obj)} {items : Array Value} {env : Env} {elt iter : Expr} {x y : Str} {px py pos spos : Pos} {ifs : List Expr} {scope : Scope} {cl : List (Str × Addr)} {p : Value → Bool} {Fp : Value → Value → Prop}
/-- what a comprehension's tests and element do, at any heap that has grown from the present one -/
structure CompDo (prog : Program) (w : World) (A : Around) (env : Env) (scope : Scope) (cl : List (Str × Addr)) (x : Str) (ifs : List Expr) (elt : Expr) (items : Array Value) (p : Value → Bool) (Fp : Value → Value → Prop) (h : Heap) : Prop where
  tests : ∀ (C : Addr) (i : Nat) v (s₃ : Shared) m₃ (E' : Value → Shared → Prop), items[i]? = some v → s₃.heap.Ns C m₃ → m₃ x = some v → (∀ b o, h.get? b = some o → s₃.heap.get? b = some o) →
    wpAny (model prog w) A (forIn ifs true fun c r => if r = true then do let ok ← isTrue c (compEnvC scope cl C env) (eval c (compEnvC scope cl C env)); pure (ForInStep.yield ok) else pure (ForInStep.yield r)) (fun ok s₄ => ok = p v ∧ Keeps s₃ s₄) E' s₃
  elt : ∀ (C : Addr) (i : Nat) v (s₃ : Shared) m₃ (E' : Value → Shared → Prop), items[i]? = some v → p v = true → s₃.heap.Ns C m₃ → m₃ x = some v → (∀ b o, h.get? b = some o → s₃.heap.get? b = some o) →
    wpAny (model prog w) A (eval elt (compEnvC scope cl C env)) (fun y s₄ => Fp v y ∧ Keeps s₃ s₄) E' s₃
theorem vals_eq {vs : List Value} {items : Array Value} (hlen : vs.length = items.size) (hP : ∀ (j : Nat) v, vs[j]? = some v → items[j]? = some v) : vs = items.toList := by
  apply List.ext_getElem?
  intro j
  by_cases hj : j < vs.length
  · have h1 := hP j vs[j] (List.getElem?_eq_getElem hj)
    rw [List.getElem?_eq_getElem hj, Array.getElem?_toList, h1]
  · rw [List.getElem?_eq_none (by omega), List.getElem?_eq_none (by rw [Array.length_toList]; omega)]
theorem comp_ev {Q : Value → Shared → Prop} (F : Fr g L s.heap m) (N : News g L s.heap news) (hh : A.handled = none) (hclos : closureFor scope env = pure cl) (hcell : ∀ y ∈ scope.names, y.2 ≠ .cell) (hkind : scope.kind = .function)
    (hnames : ∀ y ∈ scope.names, y.2 = .local → scope.names.lookup y.1 = some .local) (hx : scope.names.lookup x = some .local) (hl : s.heap.IsList l items) (hn : items.size ≤ 100000)
    (hit : ∀ (Q : Value → Shared → Prop), Q (.ref l) s → wpAny (model prog w) A (eval iter env) Q E s) (hd : CompDo prog w A env scope cl x ifs elt items p Fp s.heap)
    (hQ : ∀ D h' tk ys c, Fr g L h' m → News g L h' ((D, ListObj ys c) :: news) → (∀ q ∈ news, q.1 ≠ D) → Paired Fp (items.toList.filter p) ys.toList → Q (.ref D) { s with heap := h', toks := tk })
    (hs : ∀ x, foldedSetIterable iter env x = pure x := by intro _; rfl) :
    wpAny (model prog w) A (eval (.ListComp elt [⟨.Name x px, iter, ifs, 0⟩] scope pos) env) Q E s := by
  have hlt : l < s.heap.objs.size := by obtain ⟨_, e, _⟩ := hl; exact Heap.lt_size e
  refine wpAny_ListComp_free p Fp hclos hcell hkind hnames hx (hit _ (wpAny_pyIter_list hl ?_)) hs
  have up : ∀ b o, s.heap.get? b = some o → (s.heap.push { cls := .type "list_iterator", data := .fields #[.ref l, .int 0 0] }).get? b = some o := fun b o e => Heap.get?_push_of_some _ e
  have nI : ∀ b o, s.heap.get? b = some o → b ∉ [s.heap.objs.size] := fun b o e hb => by rw [List.mem_singleton.mp hb] at e; exact absurd (Heap.lt_size e) (Nat.lt_irrefl _)
  refine ⟨s.heap.objs.size, [s.heap.objs.size, l], [s.heap.objs.size], items.size, _, _, rfl, Walks.list hh _ l (Nat.ne_of_lt hlt) items, by rw [sizeLine_eq]; omega, ⟨⟨_, Heap.get?_push_size _ rfl, rfl, rfl⟩, hl.push _⟩, fun b hb => ?_, ⟨?_, ?_⟩, fun D h' tk ys vs hD hlD hpl hlen hP hF hk => ?_⟩
  · show b < (Heap.push _ _).objs.size
    rw [Heap.size_push]
    rcases List.mem_cons.mp hb with rfl | hb
    · exact Nat.lt_succ_self _
    · rw [List.mem_singleton.mp hb]; exact Nat.lt_succ_of_lt hlt
  · exact fun C i v s₃ m₃ E' _ hv hns hm k _ => hd.tests C i v s₃ m₃ E' hv hns hm fun b o e => k b o (nI b o e) (up b o e)
  · exact fun C i v s₃ m₃ E' _ hv hp hns hm k _ => hd.elt C i v s₃ m₃ E' hv hp hns hm fun b o e => k b o (nI b o e) (up b o e)
  · have kk : ∀ b o, s.heap.get? b = some o → h'.get? b = some o := fun b o e => hk b o (nI b o e) (up b o e)
    rw [vals_eq hlen hP] at hF
    obtain ⟨c, hc⟩ := hpl
    have hD' : s.heap.get? D = none := by
      cases q : s.heap.get? D with
      | none => rfl
      | some o => have := up _ _ q; rw [hD] at this; cases this
    refine hQ D h' tk ys c (F.keeps kk) (fun q hq => ?_) (fun q hq e => by have := (N q hq).1; rw [e, hD'] at this; cases this) hF
    rcases List.mem_cons.mp hq with rfl | hq
    · refine ⟨hc, fun e => ?_, ?_⟩
      · obtain ⟨oL, _, _, hL, _⟩ := F.ns
        have e' : D = L := e
        rw [← e', hD'] at hL; cases hL
      · cases q : g.get? D with
        | none => rfl
        | some o => have := F.keep _ _ q; rw [hD'] at this; cases this
    · exact (News.grown N kk) q hq
theorem comp_as {Q : Flow → Shared → Prop} (F : Fr g L s.heap m) (N : News g L s.heap news) (hLe : env.locals = L) (hsw : swapsWith (.ListComp elt [⟨.Name x px, iter, ifs, 0⟩] scope pos) (some (.Name y py)) spos.line env = pure true) (hh : A.handled = none) (hclos : closureFor scope env = pure cl) (hcell : ∀ y ∈ scope.names, y.2 ≠ .cell) (hkind : scope.kind = .function)
    (hnames : ∀ y ∈ scope.names, y.2 = .local → scope.names.lookup y.1 = some .local) (hx : scope.names.lookup x = some .local) (hy : env.kindOf y = some .local) (hp : (env.scope.kind == .class || (env.scope.kind == .module && env.locals != env.globals)) = false) (hl : s.heap.IsList l items) (hn : items.size ≤ 100000)
    (hit : ∀ (Q : Value → Shared → Prop), Q (.ref l) s → wpAny (model prog w) A (eval iter env) Q E s) (hd : CompDo prog w A env scope cl x ifs elt items p Fp s.heap)
    (hQ : ∀ D h' tk ys c, Fr g L h' (fun z => if z = y then some (.ref D) else m z) → News g L h' ((D, ListObj ys c) :: news) → (∀ q ∈ news, q.1 ≠ D) → Paired Fp (items.toList.filter p) ys.toList → Q .next { s with heap := h', toks := tk })
    (hs : ∀ x, foldedSetIterable iter env x = pure x := by intro _; rfl) :
    wpAny (model prog w) A (exec (.Assign [.Name y py] (.ListComp elt [⟨.Name x px, iter, ifs, 0⟩] scope pos) spos) env) Q E s := by
  subst hLe
  have hlt : l < s.heap.objs.size := by obtain ⟨_, e, _⟩ := hl; exact Heap.lt_size e
  refine wpAny_Assign_ListComp_free p Fp hsw hclos hcell hkind hnames hx hy hp (hit _ (wpAny_pyIter_list hl ?_)) hs
  have up : ∀ b o, s.heap.get? b = some o → (s.heap.push { cls := .type "list_iterator", data := .fields #[.ref l, .int 0 0] }).get? b = some o := fun b o e => Heap.get?_push_of_some _ e
  have nI : ∀ b o, s.heap.get? b = some o → b ∉ [s.heap.objs.size] := fun b o e hb => by rw [List.mem_singleton.mp hb] at e; exact absurd (Heap.lt_size e) (Nat.lt_irrefl _)
  have gL : g.get? env.locals = none := by
    cases q : g.get? env.locals with
    | none => rfl
    | some o => exact absurd (Nat.lt_of_lt_of_le (Heap.lt_size q) F.above) (Nat.lt_irrefl _)
  have hLs : env.locals ∉ [s.heap.objs.size] := fun hb => by
    have := F.ns.lt
    rw [List.mem_singleton.mp hb] at this
    exact Nat.lt_irrefl _ this
  refine ⟨s.heap.objs.size, [s.heap.objs.size, l], [s.heap.objs.size], items.size, _, _, m, rfl, Walks.list hh _ l (Nat.ne_of_lt hlt) items, by rw [sizeLine_eq]; omega, ⟨⟨_, Heap.get?_push_size _ rfl, rfl, rfl⟩, hl.push _⟩, fun b hb => ?_, hLs, F.ns.at' (fun o e => up _ o e), ⟨?_, ?_⟩, fun D h' tk ys vs hD hlD hpl hlen hP hF hns hk => ?_⟩
  · show b < (Heap.push _ _).objs.size
    rw [Heap.size_push]
    rcases List.mem_cons.mp hb with rfl | hb
    · exact Nat.lt_succ_self _
    · rw [List.mem_singleton.mp hb]; exact Nat.lt_succ_of_lt hlt
  · exact fun C i v s₃ m₃ E' _ hv hns hm k _ => hd.tests C i v s₃ m₃ E' hv hns hm fun b o e => k b o (nI b o e) (up b o e)
  · exact fun C i v s₃ m₃ E' _ hv hp hns hm k _ => hd.elt C i v s₃ m₃ E' hv hp hns hm fun b o e => k b o (nI b o e) (up b o e)
  · have kk : ∀ b o, b ≠ env.locals → s.heap.get? b = some o → h'.get? b = some o := fun b o hb e => hk b o hb (nI b o e) (up b o e)
    rw [vals_eq hlen hP] at hF
    obtain ⟨c, hc⟩ := hpl
    have hD' : s.heap.get? D = none := by
      cases q : s.heap.get? D with
      | none => rfl
      | some o => have := up _ _ q; rw [hD] at this; cases this
    have F' : Fr g env.locals h' (fun z => if z = y then some (.ref D) else m z) := ⟨hns, fun b o e => kk b o (fun z => by rw [z, gL] at e; cases e) (F.keep b o e), F.above⟩
    refine hQ D h' tk ys c F' (fun q hq => ?_) (fun q hq e => by have := (N q hq).1; rw [e, hD'] at this; cases this) hF
    rcases List.mem_cons.mp hq with rfl | hq
    · refine ⟨hc, fun e => ?_, ?_⟩
      · obtain ⟨oL, _, _, hL, _⟩ := F.ns
        have e' : D = env.locals := e
        rw [← e', hD'] at hL; cases hL
      · cases q : g.get? D with
        | none => rfl
        | some o => have := F.keep _ _ q; rw [hD'] at this; cases this
    · exact ⟨kk _ _ (N q hq).2.1 (N q hq).1, (N q hq).2⟩
end
end Mine
end
section
open PySem PySem.W PyProof.Rows PySem.Calls PySem.Spec
set_option maxRecDepth 100000
namespace Mine
section
variable {prog : Program} {w : World} {A : Around} {E : Value → Shared → Prop} {s : Shared} {m : Str → Option Value} {fa : Addr} {fname x y : Str} {p1 p2 p3 pos : Pos} {cenv : Env} {v u : Value} {Q : Value → Shared → Prop} {p : Program} {loose : List Str} {mg mb : Str → Option Value}
theorem elt_call (X : (Mine.hd.heap_39 w.params).In s.heap) (hrd : rdA (Mine.hd.heap_39 w.params) ⟨prog, w.params⟩ (fun v => v = .ref fa) (eval (.Name fname p1) cenv)) (hk : keepIn (Mine.hd.heap_39 w.params) (.ref fa) = true)
    (hn : s.heap.Ns cenv.locals m) (hm : m x = some v) (hkind : cenv.scope.kind = .function) (hl : cenv.scope.names.lookup x = some .local) (hd : (x == ("__debug__" : Str)) = false) (h : wpAny (model prog w) A (call (.ref fa) [v]) Q E s) :
    wpAny (model prog w) A (eval (.Call (.Name fname p1) [.Name x p2] [] pos) cenv) Q E s := by
  refine Call_Name rfl (wp_of_rdA _ X hrd fun f e => ?_)
  subst e
  exact callWith_K X hk (spliced_more (ldG hn hm (spliced_none ⟨X, h⟩) hkind hl hd) rfl) rfl rfl
/-- what a written def of one text gives -/
noncomputable def Gives1 (fa : Addr) (y z : Str) : Prop := ∀ {prog : Program} {w : World} {A : Around} {s : Shared} {Q : Value → Shared → Prop} {E : Value → Shared → Prop} {p : Program} {loose : List Str} {mg mb : Str → Option Value} {t : Tok}, (Mine.hd.heap_39 w.params).In s.heap → TopRead p loose mg mb s.heap → A.depth + 20 < recursionLimit → A.handled = none →
  (∀ s', Keeps s s' → ∀ t', Q (.str z t') s') → wpAny (model prog w) A (call (.ref fa) [.str y t]) Q E s
theorem Quo.gives {y z : Str} (q : Quo y z) : Gives1 803 y z := fun X T hr _ h => q X T (by omega) h
theorem marked_gives {y : Str} (hz : y.length ≤ 1000) (hy : (y == Str.ofString "") = false) : Gives1 815 y (marked y) := fun X T hr hh h => law_marked hy hz X T (by omega) hh h
end
/-- the seven words -/
noncomputable def words7 : List Str := [Str.ofString "a", Str.ofString "", Str.ofString " ", Str.ofString "'", Str.ofString "\"", Str.ofString "''", Str.ofString "a a"]
/-- a word as quote writes it -/
noncomputable def quoted (y : Str) : Str :=
  if y == Str.ofString "a" then Str.ofString "a" else if y == Str.ofString "" then Str.ofString "''" else if y == Str.ofString " " then Str.ofString "' '" else if y == Str.ofString "'" then Str.ofString "''\"'\"''" else if y == Str.ofString "\"" then Str.ofString "'\"'" else if y == Str.ofString "''" then Str.ofString "''\"'\"''\"'\"''" else Str.ofString "'a a'"
theorem safe_a : Safe (Str.ofString "a") := fun prog w t => by
  have e : ∀ P : Fin → Prop, wpA (Mine.hd.heap_39 w.params) ⟨prog, w.params⟩ P (Builtin.«re.Pattern.search» ⟨[.ref 93, .str (Str.ofString "a") t], []⟩) = P (.done (.ret .none)) := fun P => by kernel_rfl
  rw [e]; exact ⟨_, rfl, rfl⟩
theorem quo_a : Quo (Str.ofString "a") (Str.ofString "a") := fun X T hr h => quote_safe X T hr safe_a (by decide +kernel) (by decide +kernel) h
theorem quo_e : Quo (Str.ofString "") (Str.ofString "''") := fun X T hr h => quote_empty X T hr h
theorem unsafe_b : Unsafe' (Str.ofString " ") := fun prog w t => by
  have e : ∀ P : Fin → Prop, wpA (Mine.hd.heap_39 w.params) ⟨prog, w.params⟩ P (Builtin.«re.Pattern.search» ⟨[.ref 93, .str (Str.ofString " ") t], []⟩) = ∀ (a b : Addr), P (.done (.ret (.ref b))) := fun P => by kernel_rfl
  rw [e]; exact fun a b => ⟨_, rfl, _, rfl⟩
theorem quo_b : Quo (Str.ofString " ") (Str.ofString "' '") := fun X T hr h => quote_unsafe X T hr unsafe_b (by decide +kernel) (by decide +kernel) (by decide +kernel) (by decide +kernel) fun s' k t' => by
  have z := h s' k t'
  rwa [show Str.ofString "' '" = Str.ofString "'" ++ Txt.replace (Str.ofString " ") (Str.ofString "'") (Str.ofString "'\"'\"'") ++ Str.ofString "'" from by kernel_rfl] at z
theorem unsafe_q : Unsafe' (Str.ofString "'") := fun prog w t => by
  have e : ∀ P : Fin → Prop, wpA (Mine.hd.heap_39 w.params) ⟨prog, w.params⟩ P (Builtin.«re.Pattern.search» ⟨[.ref 93, .str (Str.ofString "'") t], []⟩) = ∀ (a b : Addr), P (.done (.ret (.ref b))) := fun P => by kernel_rfl
  rw [e]; exact fun a b => ⟨_, rfl, _, rfl⟩
theorem quo_q : Quo (Str.ofString "'") (Str.ofString "''\"'\"''") := fun X T hr h => quote_unsafe X T hr unsafe_q (by decide +kernel) (by decide +kernel) (by decide +kernel) (by decide +kernel) fun s' k t' => by
  have z := h s' k t'
  rwa [show Str.ofString "''\"'\"''" = Str.ofString "'" ++ Txt.replace (Str.ofString "'") (Str.ofString "'") (Str.ofString "'\"'\"'") ++ Str.ofString "'" from by kernel_rfl] at z
theorem unsafe_m : Unsafe' (Str.ofString "\"") := fun prog w t => by
  have e : ∀ P : Fin → Prop, wpA (Mine.hd.heap_39 w.params) ⟨prog, w.params⟩ P (Builtin.«re.Pattern.search» ⟨[.ref 93, .str (Str.ofString "\"") t], []⟩) = ∀ (a b : Addr), P (.done (.ret (.ref b))) := fun P => by kernel_rfl
  rw [e]; exact fun a b => ⟨_, rfl, _, rfl⟩
theorem quo_m : Quo (Str.ofString "\"") (Str.ofString "'\"'") := fun X T hr h => quote_unsafe X T hr unsafe_m (by decide +kernel) (by decide +kernel) (by decide +kernel) (by decide +kernel) fun s' k t' => by
  have z := h s' k t'
  rwa [show Str.ofString "'\"'" = Str.ofString "'" ++ Txt.replace (Str.ofString "\"") (Str.ofString "'") (Str.ofString "'\"'\"'") ++ Str.ofString "'" from by kernel_rfl] at z
theorem unsafe_qq : Unsafe' (Str.ofString "''") := fun prog w t => by
  have e : ∀ P : Fin → Prop, wpA (Mine.hd.heap_39 w.params) ⟨prog, w.params⟩ P (Builtin.«re.Pattern.search» ⟨[.ref 93, .str (Str.ofString "''") t], []⟩) = ∀ (a b : Addr), P (.done (.ret (.ref b))) := fun P => by kernel_rfl
  rw [e]; exact fun a b => ⟨_, rfl, _, rfl⟩
theorem quo_qq : Quo (Str.ofString "''") (Str.ofString "''\"'\"''\"'\"''") := fun X T hr h => quote_unsafe X T hr unsafe_qq (by decide +kernel) (by decide +kernel) (by decide +kernel) (by decide +kernel) fun s' k t' => by
  have z := h s' k t'
  rwa [show Str.ofString "''\"'\"''\"'\"''" = Str.ofString "'" ++ Txt.replace (Str.ofString "''") (Str.ofString "'") (Str.ofString "'\"'\"'") ++ Str.ofString "'" from by kernel_rfl] at z
theorem unsafe_aa : Unsafe' (Str.ofString "a a") := fun prog w t => by
  have e : ∀ P : Fin → Prop, wpA (Mine.hd.heap_39 w.params) ⟨prog, w.params⟩ P (Builtin.«re.Pattern.search» ⟨[.ref 93, .str (Str.ofString "a a") t], []⟩) = ∀ (a b : Addr), P (.done (.ret (.ref b))) := fun P => by kernel_rfl
  rw [e]; exact fun a b => ⟨_, rfl, _, rfl⟩
theorem quo_aa : Quo (Str.ofString "a a") (Str.ofString "'a a'") := fun X T hr h => quote_unsafe X T hr unsafe_aa (by decide +kernel) (by decide +kernel) (by decide +kernel) (by decide +kernel) fun s' k t' => by
  have z := h s' k t'
  rwa [show Str.ofString "'a a'" = Str.ofString "'" ++ Txt.replace (Str.ofString "a a") (Str.ofString "'") (Str.ofString "'\"'\"'") ++ Str.ofString "'" from by kernel_rfl] at z
end Mine
end
section
open PySem PySem.W PyProof.Rows PySem.Calls PySem.Spec
set_option maxRecDepth 100000
namespace Mine
/-- a word as the law's marks write it -/
noncomputable def marked' (y : Str) : Str := if y == Str.ofString "" then Str.ofString "\"\"" else marked y
/-- how a writing of a word is read back -/
structure ReadBack (z y : Str) : Prop where
  mid : ∀ rest, readTok ⟨false, z.cps.toList ++ 32 :: rest⟩ = some (.str y, ⟨false, rest⟩)
  fin : readTok ⟨false, z.cps.toList⟩ = some (.str y, ⟨true, []⟩)
theorem rb_q {y : Str} (h : y ∈ words7) : ReadBack (quoted y) y := by
  simp only [words7, List.mem_cons, List.not_mem_nil, or_false] at h
  rcases h with rfl | rfl | rfl | rfl | rfl | rfl | rfl <;> exact ⟨fun rest => by kernel_rfl, by kernel_rfl⟩
theorem rb_m {y : Str} (h : y ∈ words7) : ReadBack (marked' y) y := by
  simp only [words7, List.mem_cons, List.not_mem_nil, or_false] at h
  rcases h with rfl | rfl | rfl | rfl | rfl | rfl | rfl <;> exact ⟨fun rest => by kernel_rfl, by kernel_rfl⟩
theorem quo_all {y : Str} (h : y ∈ words7) : Quo y (quoted y) := by
  simp only [words7, List.mem_cons, List.not_mem_nil, or_false] at h
  rcases h with rfl | rfl | rfl | rfl | rfl | rfl | rfl
  · rw [show quoted (Str.ofString "a") = _ from by kernel_rfl]; exact quo_a
  · rw [show quoted (Str.ofString "") = _ from by kernel_rfl]; exact quo_e
  · rw [show quoted (Str.ofString " ") = _ from by kernel_rfl]; exact quo_b
  · rw [show quoted (Str.ofString "'") = _ from by kernel_rfl]; exact quo_q
  · rw [show quoted (Str.ofString "\"") = _ from by kernel_rfl]; exact quo_m
  · rw [show quoted (Str.ofString "''") = _ from by kernel_rfl]; exact quo_qq
  · rw [show quoted (Str.ofString "a a") = _ from by kernel_rfl]; exact quo_aa
theorem skip_sp (r : List Nat) : readTok ⟨false, 32 :: r⟩ = readTok ⟨false, r⟩ := rfl
theorem Toks.sp {r : List Nat} {ts : List Str} (h : Toks ⟨false, r⟩ ts) : Toks ⟨false, 32 :: r⟩ ts := by
  cases h with
  | stop e => exact .stop ((skip_sp r).trans e)
  | more e h' => exact .more ((skip_sp r).trans e) h'
theorem toks_end : Toks ⟨true, []⟩ [] := .stop rfl
theorem toks_empty : Toks ⟨false, []⟩ [] := .stop (l' := ⟨true, []⟩) (by kernel_rfl)
/-- the signs of a line: the words' writings with blanks between -/
noncomputable def lineOf (enc : Str → Str) (sep : List Nat) : List Str → List Nat
  | [] => []
  | [y] => (enc y).cps.toList
  | y :: r => (enc y).cps.toList ++ sep ++ lineOf enc sep r
theorem toks_line1 {enc : Str → Str} : ∀ {ws : List Str}, (∀ y ∈ ws, ReadBack (enc y) y) → Toks ⟨false, lineOf enc [32] ws⟩ ws
  | [], _ => toks_empty
  | [y], h => .more (h y (List.Mem.head _)).fin toks_end
  | y :: z :: r, h => by
    have ih := toks_line1 (enc := enc) (ws := z :: r) fun v hv => h v (List.Mem.tail _ hv)
    refine .more (l' := ⟨false, lineOf enc [32] (z :: r)⟩) ?_ ih
    show readTok ⟨false, (enc y).cps.toList ++ [32] ++ lineOf enc [32] (z :: r)⟩ = _
    rw [List.append_assoc]
    exact (h y (List.Mem.head _)).mid _
theorem toks_line2 {enc : Str → Str} : ∀ {ws : List Str}, (∀ y ∈ ws, ReadBack (enc y) y) → Toks ⟨false, lineOf enc [32, 32] ws⟩ ws
  | [], _ => toks_empty
  | [y], h => .more (h y (List.Mem.head _)).fin toks_end
  | y :: z :: r, h => by
    have ih := toks_line2 (enc := enc) (ws := z :: r) fun v hv => h v (List.Mem.tail _ hv)
    refine .more (l' := ⟨false, 32 :: lineOf enc [32, 32] (z :: r)⟩) ?_ ih.sp
    show readTok ⟨false, (enc y).cps.toList ++ [32, 32] ++ lineOf enc [32, 32] (z :: r)⟩ = _
    rw [List.append_assoc]
    exact (h y (List.Mem.head _)).mid _
theorem toks_app1 {enc : Str → Str} {rest : List Nat} {ts : List Str} (ht : Toks ⟨false, rest⟩ ts) : ∀ {ws : List Str}, ws ≠ [] → (∀ y ∈ ws, ReadBack (enc y) y) → Toks ⟨false, lineOf enc [32] ws ++ 32 :: rest⟩ (ws ++ ts)
  | [], h0, _ => absurd rfl h0
  | [y], _, h => .more ((h y (List.Mem.head _)).mid rest) ht
  | y :: z :: r, _, h => by
    have ih := toks_app1 (enc := enc) ht (ws := z :: r) (by simp) fun v hv => h v (List.Mem.tail _ hv)
    refine .more (l' := ⟨false, lineOf enc [32] (z :: r) ++ 32 :: rest⟩) ?_ ih
    show readTok ⟨false, (enc y).cps.toList ++ [32] ++ lineOf enc [32] (z :: r) ++ 32 :: rest⟩ = _
    rw [List.append_assoc, List.append_assoc]
    exact (h y (List.Mem.head _)).mid _
theorem toks_app2 {enc : Str → Str} {rest : List Nat} {ts : List Str} (ht : Toks ⟨false, rest⟩ ts) : ∀ {ws : List Str}, ws ≠ [] → (∀ y ∈ ws, ReadBack (enc y) y) → Toks ⟨false, lineOf enc [32, 32] ws ++ 32 :: rest⟩ (ws ++ ts)
  | [], h0, _ => absurd rfl h0
  | [y], _, h => .more ((h y (List.Mem.head _)).mid rest) ht
  | y :: z :: r, _, h => by
    have ih := toks_app2 (enc := enc) ht (ws := z :: r) (by simp) fun v hv => h v (List.Mem.tail _ hv)
    refine .more (l' := ⟨false, 32 :: (lineOf enc [32, 32] (z :: r) ++ 32 :: rest)⟩) ?_ ih.sp
    show readTok ⟨false, (enc y).cps.toList ++ [32, 32] ++ lineOf enc [32, 32] (z :: r) ++ 32 :: rest⟩ = _
    rw [List.append_assoc, List.append_assoc]
    exact (h y (List.Mem.head _)).mid _
end Mine
end
section
open PySem PySem.W PyProof.Rows PySem.Calls PySem.Spec
set_option maxRecDepth 100000
namespace Mine
theorem join_line {enc : Str → Str} {sep : Str} : ∀ ws : List Str, (Str.join sep (ws.map enc)).cps.toList = lineOf enc sep.cps.toList ws
  | [] => rfl
  | [y] => rfl
  | y :: z :: r => by
    have ih := join_line (enc := enc) (sep := sep) (z :: r)
    show ((enc y).cps ++ sep.cps ++ (Str.join sep ((z :: r).map enc)).cps).toList = (enc y).cps.toList ++ sep.cps.toList ++ lineOf enc sep.cps.toList (z :: r)
    rw [Array.toList_append, Array.toList_append, ih]
theorem txt_line {enc : Str → Str} {sep : Str} (ws : List Str) : (Txt.join sep (ws.map enc)).cps.toList = lineOf enc sep.cps.toList ws := by
  rw [show Txt.join sep (ws.map enc) = Str.join sep (ws.map enc) from StrLaws.glued_eq_join sep _]
  exact join_line ws
theorem sep1 : (Str.ofString " ").cps.toList = [32] := by decide +kernel
theorem sep2 : (Str.ofString "  ").cps.toList = [32, 32] := by decide +kernel
theorem any_eq_true {l : List Str} {y : Str} : l.any (· == y) = true ↔ y ∈ l := by
  rw [List.any_eq_true]
  constructor
  · rintro ⟨z, hz, e⟩
    rw [eq_of_beq e] at hz; exact hz
  · exact fun h => ⟨y, h, beq_self_eq_true y⟩
theorem kept_append (ys a b : List Str) : keptOf ys (a ++ b) = keptOf ys a ++ keptOf ys b := List.filter_append ..
theorem kept_kept (ys a : List Str) : keptOf ys (keptOf ys a) = keptOf ys a := by
  unfold keptOf
  rw [List.filter_filter]
  congr 1
  funext y
  cases ys.any (· == y) <;> rfl
theorem kept_self (a : List Str) : keptOf a a = [] := by
  unfold keptOf
  rw [List.filter_eq_nil_iff]
  intro y hy
  rw [any_eq_true.mpr hy]
  decide
theorem mem_kept {ys a : List Str} {y : Str} (h : y ∈ keptOf ys a) : y ∈ a := (List.mem_filter.mp h).1
theorem quoted_inj {a b : Str} (ha : a ∈ words7) (hb : b ∈ words7) (h : quoted a = quoted b) : a = b := by
  have key : ∀ a ∈ words7, ∀ b ∈ words7, quoted a = quoted b → a = b := by
    have d : (words7.all fun a => words7.all fun b => !(quoted a == quoted b) || a == b) = true := by decide +kernel
    intro a ha b hb h
    have z := List.all_eq_true.mp (List.all_eq_true.mp d a ha) b hb
    rw [h, beq_self_eq_true] at z
    exact eq_of_beq (by simpa using z)
  exact key a ha b hb h
theorem kept_quoted {ys a : List Str} (hy : ∀ y ∈ ys, y ∈ words7) (ha : ∀ y ∈ a, y ∈ words7) : keptOf (ys.map quoted) (a.map quoted) = (keptOf ys a).map quoted := by
  unfold keptOf
  rw [List.filter_map]
  congr 1
  apply List.filter_congr
  intro y hm
  show (!(ys.map quoted).any (· == quoted y)) = !ys.any (· == y)
  congr 1
  rw [Bool.eq_iff_iff, any_eq_true, any_eq_true, List.mem_map]
  constructor
  · rintro ⟨z, hz, e⟩
    rw [quoted_inj (hy z hz) (ha y hm) e] at hz; exact hz
  · exact fun h => ⟨y, h, rfl⟩
theorem kept_goes {ys a : List Str} (hy : ∀ y ∈ ys, y ∈ words7) (ha : ∀ y ∈ a, y ∈ words7) : keptOf (ys.map quoted) a = a.filter fun y => !goes ys y := by
  unfold keptOf
  apply List.filter_congr
  intro y hm
  congr 1
  have d : (words7.all fun z => words7.all fun y => (quoted z == y) == ((z == Str.ofString "a" && y == Str.ofString "a") || (z == Str.ofString "" && y == Str.ofString "''"))) = true := by decide +kernel
  rw [Bool.eq_iff_iff, any_eq_true, List.mem_map]
  unfold goes
  rw [Bool.or_eq_true, Bool.and_eq_true, Bool.and_eq_true, any_eq_true, any_eq_true, beq_iff_eq, beq_iff_eq]
  constructor
  · rintro ⟨z, hz, e⟩
    have w := eq_of_beq (List.all_eq_true.mp (List.all_eq_true.mp d z (hy z hz)) y (ha y hm))
    rw [e, beq_self_eq_true] at w
    have w' := w.symm
    rw [Bool.or_eq_true, Bool.and_eq_true, Bool.and_eq_true, beq_iff_eq, beq_iff_eq, beq_iff_eq, beq_iff_eq] at w'
    rcases w' with ⟨h1, h2⟩ | ⟨h1, h2⟩
    · exact .inl ⟨h2, h1 ▸ hz⟩
    · exact .inr ⟨h2, h1 ▸ hz⟩
  · rintro (⟨rfl, h⟩ | ⟨rfl, h⟩)
    · exact ⟨_, h, by decide +kernel⟩
    · exact ⟨_, h, by decide +kernel⟩
theorem menu_mem (x : Int) : menu x ∈ words7 := by
  unfold menu words7
  repeat' split
  all_goals simp
end Mine
end
section
open PySem PySem.W PyProof.Rows PySem.Calls PySem.Spec
set_option maxRecDepth 100000
namespace Mine
theorem join_rec : ((recsOf Mine.hd.view_39).map (·.name)).contains (Str.ofString "join") = true := by kernel_rfl
noncomputable def fnCode (o : Obj) : Value := match o.data with
  | .func fd => fd.code
  | _ => .none
theorem at795 (w : World) : ∃ o, (Mine.hd.heap_39 w.params).lookup 795 = some o ∧ fnCode o = .ref 794 := ⟨((Mine.hd.heap_39 w.params).lookup 795).getD default, by kernel_rfl, by kernel_rfl⟩
theorem place790 {w : World} {h : Heap} {loose : List Str} {mean : ExcName → Option Value} {mg mb : Str → Option Value} (X : (Mine.hd.heap_39 w.params).In h) (T : Top Mine.hd.view_39 loose mean mg mb h) : h.get? 790 = some { cls := .none, data := .fields #[] } := by
  obtain ⟨d, hd, e⟩ := List.mem_map.mp (List.contains_iff_mem.mp join_rec)
  obtain ⟨a, o, fd, c, P, h1, h2, h3, h4, hC, hT⟩ := T.tab d hd
  have hm : mg (Str.ofString "join") = some (.ref 795) := mg_of X T.g (by k_is)
  rw [e, hm] at h1
  cases h1
  obtain ⟨o', l1, l2⟩ := at795 w
  have e1 := X _ _ l1
  rw [h2] at e1
  cases e1
  have hc : c = 794 := by
    unfold fnCode at l2
    rw [h3] at l2
    have : fd.code = .ref 794 := l2
    rw [h4] at this
    cases this; rfl
  subst hc
  obtain ⟨oc, vs, file, tf, flags, tg, inF, text, tt, op, ho, hdt, h11, h2', h7, h9, h10, hop, hpd, htr, hne⟩ := hC
  have e4 := X _ _ (at794 w)
  have p4 := place794 w
  rw [ho] at e4
  rw [← Option.some.inj e4] at p4
  obtain ⟨q1, q2, q3, q4⟩ := oc
  simp only at hdt
  subst hdt
  have p5 : vs.getD 11 .none = .ref 790 := p4
  rw [h11] at p5
  cases p5
  exact hT.2
/-- the base without the table of join's inner codes -/
theorem base790 {w : World} {h : Heap} {po : Obj} {ps₀ : Array Value} {p : Program} {loose : List Str} {mg mb : Str → Option Value} (hp : h.get? 790 = some po) (hpo : PlOk ps₀ po) (X : (Mine.hd.heap_39 w.params).In h) (T : TopRead p loose mg mb h) (hK : ((Mine.hd.heap_39 w.params).lookup 790) = none) :
    (Mine.hd.heap_39 w.params).In (hideAll h [790]) ∧ TopRead p loose mg mb (hideAll h [790]) := by
  obtain ⟨more, hpe, _⟩ := hpo
  have hpd : po.data = .fields (ps₀ ++ more) := by rw [hpe]
  have ne : ∀ {a : Addr} {m : Str → Option Value}, h.Ns a m → (hideAll h [790]).Ns a m := fun {a m} x => by
    obtain ⟨o, es, ep, ho, hd, r⟩ := x
    refine ⟨o, es, ep, hideAll_get _ ho (fun hm => ?_), hd, r⟩
    rw [List.mem_singleton.mp hm, hp] at ho
    rw [← Option.some.inj ho, hpd] at hd
    cases hd
  refine ⟨fun a o e => hideAll_get _ (X a o e) (fun hm => ?_), ⟨ne T.g, ne T.b, ?_, T.builtins, T.free⟩⟩
  · rw [List.mem_singleton.mp hm, hK] at e; cases e
  · obtain ⟨mc, hns, hnn⟩ := T.nolimit
    exact ⟨mc, ne hns, hnn⟩
theorem no790 (w : World) : (Mine.hd.heap_39 w.params).lookup 790 = none := by kernel_rfl
end Mine
end
section
open PySem PySem.W PyProof.Rows PySem.Calls PySem.Spec
set_option maxRecDepth 100000
namespace Mine
noncomputable def tab0 (ps : Array Value) : Obj := { cls := .none, data := .fields ps }
theorem oldK790 {h₁ h : Heap} {L : Addr} {m : Str → Option Value} {po : Obj} (T : h₁.TableAt 794 790 #[]) (F : Fr (hideAll h₁ [790]) L h m) (hp : h.get? 790 = some po) (P : PlOk #[] po) : OldK h₁ h := by
  obtain ⟨more, hpe, _⟩ := P
  refine ⟨fun b o e => ?_, fun b o e => ?_⟩
  · by_cases hb : b = 790
    · subst hb
      have e₀ : o = { cls := .none, data := .fields #[] } := Option.some.inj (e.symm.trans T.2)
      subst e₀
      exact .inr (.inl ⟨T.isCodeTable, rfl, #[], more, rfl, by rw [hp, hpe]⟩)
    · exact .inl (F.keep b o (hideAll_get _ e (fun hm => hb (List.mem_singleton.mp hm))))
  · by_cases hb : b = 790
    · exact ⟨po, hb ▸ hp⟩
    · exact ⟨o, F.keep b o (hideAll_get _ e (fun hm => hb (List.mem_singleton.mp hm)))⟩
theorem bmod790 {h : Heap} {mg : Str → Option Value} {bm : Addr} {ob po : Obj} {ps₀ : Array Value} (hp : h.get? 790 = some po) (hpo : PlOk ps₀ po) (B : BMod h mainGlobals mg bm ob) : BMod (hideAll h [790]) mainGlobals mg bm ob := by
  obtain ⟨more, hpe, _⟩ := hpo
  refine ⟨?_, B.name, B.ne, hideAll_get _ B.obj (fun hm => ?_), B.cls, B.dict, B.data⟩
  · obtain ⟨o, es, ep, ho, hd, r⟩ := B.ns
    refine ⟨o, es, ep, hideAll_get _ ho (fun hm => ?_), hd, r⟩
    rw [List.mem_singleton.mp hm, hp] at ho
    rw [← Option.some.inj ho, hpe] at hd
    cases hd
  · have e := B.obj
    rw [List.mem_singleton.mp hm, hp] at e
    have := B.cls
    rw [← Option.some.inj e, hpe] at this
    cases this
theorem frame790 {h₀ h : Heap} {L : Addr} {m : Str → Option Value} {po : Obj} {own : List (Addr × Obj)} (hp : h₀.get? 790 = some po) (F : Fr h₀ L h m) (N : News h₀ L h own) : Fr (hideAll h₀ [790]) L h m ∧ News (hideAll h₀ [790]) L h ((790, po) :: own) ∧ ∀ q ∈ own, q.1 ∉ List.map (fun (x : Addr × Obj) => x.1) [(790, po)] := by
  refine ⟨⟨F.ns, fun b o e => F.keep b o (of_hideAll _ e), by rw [hideAll_size]; exact F.above⟩, fun q hq => ?_, fun q hq hm => ?_⟩
  · rcases List.mem_cons.mp hq with rfl | hq
    · exact ⟨F.keep _ _ hp, Nat.ne_of_lt (Nat.lt_of_lt_of_le (Heap.lt_size hp) F.above), hideAll_none _ (List.mem_singleton.mpr rfl)⟩
    · refine ⟨(N q hq).1, (N q hq).2.1, ?_⟩
      cases z : (hideAll h₀ [790]).get? q.1 with
      | none => rfl
      | some o => have := (N q hq).2.2; rw [of_hideAll _ z] at this; cases this
  · have := (N q hq).2.2
    rw [List.mem_singleton.mp hm, hp] at this
    cases this
theorem good790 {c : ClaimW} {cl : Str → Option Addr} {mean : ExcName → Option Value} {args : List WData} {s₁ s' : Shared} {L : Addr} {m : Str → Option Value} {po : Obj} {b : Bool} (T : s₁.heap.TableAt 794 790 #[]) (F : Fr (hideAll s₁.heap [790]) L s'.heap m) (hp : s'.heap.get? 790 = some po) (P : PlOk #[] po) (hr : ∀ cls, c.raises args cls = false) (hpost : c.post args (.bool b) args = true) (hb : AllBare s'.gens) (hos : s'.os = s₁.os) :
    GoodWG c cl mean args s₁ (.ok (.ret (.bool b))) s' :=
  ⟨.inl ⟨_, _, [], rfl, hr, ReadsW.bool b, hpost, fun _ => ⟨List.nodup_nil, fun _ hm => (nomatch hm)⟩⟩, oldK790 T F hp P, hos, hb⟩
end Mine
end
section
open PySem PySem.W PyProof.Rows PySem.Calls PySem.Spec
set_option maxRecDepth 100000
namespace Mine
section
variable {prog : Program} {w : World} {A : Around} {E : Value → Shared → Prop} {s : Shared} {m : Str → Option Value} {x : Int} {t : Tok} {cenv : Env} {p1 p2 p3 p4 p5 p6 p7 : Pos} {k1 k2 k3 : Nat}
theorem test_odd (hn : s.heap.Ns cenv.locals m) (hm : m (Str.ofString "x") = some (.int x t)) (hk : cenv.scope.kind = .function) (hl : cenv.scope.names.lookup (Str.ofString "x") = some .local) :
    wpAny (model prog w) A (forIn [Expr.Compare (.BinOp (.BinOp (.Name (Str.ofString "x") p1) .FloorDiv (.Constant (.int 7) k1 p2) p3) .Mod (.Constant (.int 2) k2 p4) p5) [.Eq] [.Constant (.int 1) k3 p6] p7] true fun c r => if r = true then do let ok ← isTrue c cenv (eval c cenv); pure (ForInStep.yield ok) else pure (ForInStep.yield r)) (fun ok s₄ => ok = ((x.fdiv 7).fmod 2 == 1) ∧ Keeps s s₄) E s := by
  have fin : ∀ tk, wpAny (model prog w) A (forIn ([] : List Expr) ((x.fdiv 7).fmod 2 == 1) fun c r => if r = true then do let ok ← isTrue c cenv (eval c cenv); pure (ForInStep.yield ok) else pure (ForInStep.yield r)) (fun ok s₄ => ok = ((x.fdiv 7).fmod 2 == 1) ∧ Keeps s s₄) E { s with toks := tk } := fun tk => wpAny_pure ⟨rfl, s.heap, tk, rfl, fun _ _ e => e⟩
  rw [List.forIn_cons]
  refine wpAny_bind ?_
  simp only [if_true]
  refine wpAny_bind (wpAny_isTrue_Compare1 (wpAny_BinOp (wpAny_BinOp (ldG hn hm (wpAny_Constant_int (floordiv_int (by decide) (wpAny_Constant_int (mod_int (by decide) (wpAny_Constant_int (eq_int (wpAny_truthy_bool ?_)))))) ) hk hl))) rfl)
  exact wpAny_pure (fin _)
end
end Mine
end
section
open PySem PySem.W PyProof.Rows PySem.Calls PySem.Spec
namespace Mine
theorem strs_canLay : ∀ {ns : List Str}, (∀ y ∈ ns, PyData.strOk y = true) → PyData.canLayAll0 (ns.map PyData.str) = true
  | [], _ => rfl
  | y :: r, h => by
    have h1 := h y (List.Mem.head _)
    have h2 := strs_canLay (ns := r) fun z hz => h z (List.Mem.tail _ hz)
    simp only [List.map_cons, PyData.canLayAll0, PyData.canLay0, Bool.and_eq_true]
    exact ⟨h1, h2⟩
theorem strs_depth : ∀ ns : List Str, PyData.depthAll (ns.map PyData.str) = 0
  | [] => rfl
  | _ :: r => by simp [PyData.depthAll, PyData.depth, strs_depth r]
theorem strs_shaped {ns : List Str} (h : ∀ y ∈ ns, PyData.strOk y = true) : SeqAt.shaped (.list (ns.map PyData.str)) = true := by
  simp [SeqAt.shaped, PyData.canLay0, PyData.depth, strs_canLay h, strs_depth]
theorem strs_sameAll : ∀ ns ms : List Str, PySem.Spec.sameAll (ns.map PyData.str) (ms.map PyData.str) = decide (ns = ms)
  | [], [] => by simp [PySem.Spec.sameAll]
  | [], _ :: _ => by simp [PySem.Spec.sameAll]
  | _ :: _, [] => by simp [PySem.Spec.sameAll]
  | a :: r, b :: t => by
    simp only [List.map_cons, PySem.Spec.sameAll, PySem.Spec.same, strs_sameAll r t]
    by_cases h : a = b <;> by_cases h' : r = t <;> simp [h, h']
theorem strs_same (ns ms : List Str) : PySem.Spec.same (.list (ns.map PyData.str)) (.list (ms.map PyData.str)) = decide (ns = ms) := by
  simp only [PySem.Spec.same]; exact strs_sameAll ns ms
theorem strs_carried : ∀ {vs : List Value} {ns : List Str}, StrsAre vs ns → CarriedAll vs (ns.map PyData.str)
  | _, _, .nil => .nil
  | _, _, .cons _ t r => .cons (.str _ t) (strs_carried r)
section
variable {prog : Program} {w : World} {A : Around} {E : Value → Shared → Prop} {s : Shared} {a b : Addr} {xs ys : Array Value} {ns ms : List Str} {Q : Value → Shared → Prop}
theorem eq_texts (ha : s.heap.IsList a xs) (hb : s.heap.IsList b ys) (hi : StrsAre xs.toList ns) (hj : StrsAre ys.toList ms) (ho : ∀ y ∈ ns, PyData.strOk y = true) (hp : ∀ y ∈ ms, PyData.strOk y = true) (hu : A.units + 64 < cLine) (h : Q (.bool (decide (ns = ms))) s) :
    wpAny (model prog w) A (compareOp .Eq (.ref a) (.ref b)) Q E s :=
  eq_dataH_same (reads_newData (ys := xs.toList) ha (strs_carried hi)) (reads_newData (ys := ys.toList) hb (strs_carried hj)) (strs_shaped ho) (strs_shaped hp) hu (SeqAt.noMix_of_shape (.list .str) rfl _ _ (list_map_has fun _ => rfl) (list_map_has fun _ => rfl)) (by rw [strs_same]; exact h)
theorem ne_texts (ha : s.heap.IsList a xs) (hb : s.heap.IsList b ys) (hi : StrsAre xs.toList ns) (hj : StrsAre ys.toList ms) (ho : ∀ y ∈ ns, PyData.strOk y = true) (hp : ∀ y ∈ ms, PyData.strOk y = true) (hu : A.units + 64 < cLine) (h : Q (.bool (!decide (ns = ms))) s) :
    wpAny (model prog w) A (compareOp .NotEq (.ref a) (.ref b)) Q E s :=
  ne_dataH_same (reads_newData (ys := xs.toList) ha (strs_carried hi)) (reads_newData (ys := ys.toList) hb (strs_carried hj)) (strs_shaped ho) (strs_shaped hp) hu (SeqAt.noMix_of_shape (.list .str) rfl _ _ (list_map_has fun _ => rfl) (list_map_has fun _ => rfl)) (by rw [strs_same]; exact h)
end
end Mine
end
section
open PySem PySem.W PyProof.Rows PySem.Calls PySem.Spec
set_option maxRecDepth 100000
namespace Mine
/-- a list of texts of the ledger -/
noncomputable def TL (own : List (Addr × Obj)) (a : Addr) (us : List Str) : Prop := ∃ arr c, (a, ListObj arr c) ∈ own ∧ StrsAre arr.toList us
theorem TL.sub {own own' : List (Addr × Obj)} {a : Addr} {us : List Str} (h : TL own a us) (k : ∀ q ∈ own, q ∈ own') : TL own' a us := by
  obtain ⟨arr, c, hm, hs⟩ := h
  exact ⟨arr, c, k _ hm, hs⟩
theorem TL.tail {own : List (Addr × Obj)} {q : Addr × Obj} {a : Addr} {us : List Str} (h : TL own a us) : TL (q :: own) a us := h.sub fun _ hq => List.mem_cons_of_mem _ hq
theorem TL.isList {g h : Heap} {L : Addr} {own : List (Addr × Obj)} {a : Addr} {us : List Str} (t : TL own a us) (N : News g L h own) : ∃ arr, h.IsList a arr ∧ StrsAre arr.toList us := by
  obtain ⟨arr, c, hm, hs⟩ := t
  exact ⟨arr, ⟨_, (N _ hm).1, rfl, c, rfl⟩, hs⟩
/-- the ledger has grown by new objects -/
noncomputable def Grew (own own' : List (Addr × Obj)) : Prop := ∃ added, own' = added ++ own ∧ ∀ p ∈ added, ∀ q ∈ own, p.1 ≠ q.1
theorem Grew.refl (own : List (Addr × Obj)) : Grew own own := ⟨[], rfl, fun _ h => nomatch h⟩
theorem Grew.one {own own' : List (Addr × Obj)} (h : Grew own own') {q : Addr × Obj} (hq : ∀ p ∈ own', p.1 ≠ q.1) : Grew own (q :: own') := by
  obtain ⟨ad, rfl, k⟩ := h
  refine ⟨q :: ad, rfl, fun p hp z hz => ?_⟩
  rcases List.mem_cons.mp hp with rfl | hp
  · exact fun e => hq z (List.mem_append_right _ hz) e.symm
  · exact k p hp z hz
theorem Grew.sub {own own' : List (Addr × Obj)} (h : Grew own own') : ∀ q ∈ own, q ∈ own' := by
  obtain ⟨ad, rfl, _⟩ := h
  exact fun q hq => List.mem_append_right _ hq
theorem strOk_append {a b : List Str} (ha : ∀ y ∈ a, PyData.strOk y = true) (hb : ∀ y ∈ b, PyData.strOk y = true) : ∀ y ∈ a ++ b, PyData.strOk y = true := fun y hy => (List.mem_append.mp hy).elim (ha y) (hb y)
section
variable {prog : Program} {w : World} {A : Around} {s : Shared} {Q : Value → Shared → Prop} {E : Value → Shared → Prop} {p : Program} {loose : List Str} {mg mb : Str → Option Value} {g : Heap} {L a b : Addr} {m : Str → Option Value} {own : List (Addr × Obj)} {us vs : List Str}
theorem t_ne (N : News g L s.heap own) (ta : TL own a us) (tb : TL own b vs) (ho : ∀ y ∈ us, PyData.strOk y = true) (hp : ∀ y ∈ vs, PyData.strOk y = true) (hu : A.units + 64 < cLine) (h : Q (.bool (!decide (us = vs))) s) :
    wpAny (model prog w) A (compareOp .NotEq (.ref a) (.ref b)) Q E s := by
  obtain ⟨_, la, ia⟩ := ta.isList N
  obtain ⟨_, lb, ib⟩ := tb.isList N
  exact ne_texts la lb ia ib ho hp hu h
theorem t_eq (N : News g L s.heap own) (ta : TL own a us) (tb : TL own b vs) (ho : ∀ y ∈ us, PyData.strOk y = true) (hp : ∀ y ∈ vs, PyData.strOk y = true) (hu : A.units + 64 < cLine) (h : Q (.bool (decide (us = vs))) s) :
    wpAny (model prog w) A (compareOp .Eq (.ref a) (.ref b)) Q E s := by
  obtain ⟨_, la, ia⟩ := ta.isList N
  obtain ⟨_, lb, ib⟩ := tb.isList N
  exact eq_texts la lb ia ib ho hp hu h
theorem newest {own : List (Addr × Obj)} (N : News g L s.heap own) : ∀ q ∈ own, q.1 ≠ s.heap.objs.size := fun q hq => Nat.ne_of_lt (Heap.lt_size (N q hq).1)
theorem t_add (F : Fr g L s.heap m) (N : News g L s.heap own) (ta : TL own a us) (tb : TL own b vs) (hn : us.length + vs.length ≤ 100000)
    (h : ∀ D h' o, Fr g L h' m → News g L h' ((D, o) :: own) → (∀ q ∈ own, q.1 ≠ D) → TL ((D, o) :: own) D (us ++ vs) → Q (.ref D) { s with heap := h' }) :
    wpAny (model prog w) A (binaryOp .Add (.ref a) (.ref b)) Q E s := by
  obtain ⟨xa, la, ia⟩ := ta.isList N
  obtain ⟨xb, lb, ib⟩ := tb.isList N
  have e1 := ia.len_eq
  have e2 := ib.len_eq
  rw [Array.length_toList] at e1 e2
  refine add_arrays F N la lb (fun h' F' N' => h _ h' _ F' N' (newest N) ⟨_, 0, List.Mem.head _, ?_⟩) (by rw [sizeLine_eq]; omega)
  show StrsAre (xa.toList ++ xb.toList).toArray.toList _
  exact StrsAre.append' ia ib
theorem t_new (F : Fr g L s.heap m) (N : News g L s.heap own) {ws : List Value} (hs : StrsAre ws us) (hn : us.length ≤ 100000)
    (h : ∀ D h' o, Fr g L h' m → News g L h' ((D, o) :: own) → (∀ q ∈ own, q.1 ≠ D) → TL ((D, o) :: own) D us → Q (.ref D) { s with heap := h' }) :
    wpAny (model prog w) A (newList ws) Q E s := by
  refine newList_N F N (fun h' F' N' => h _ h' _ F' N' (newest N) ⟨_, 0, List.Mem.head _, hs⟩) ?_
  have := hs.len_eq
  rw [sizeLine_eq]; omega
variable {envo : Env}
theorem t_filter (F : Fr g L s.heap m) (N : News g L s.heap own) {S1 S2 : Addr} {xs ys : List Str} {id : String} (t1 : TL own S1 xs) (H2 : ∀ g', (∀ q ∈ own, g'.get? q.1 = some q.2) → Skip g' S2 id ys) (X : (Mine.hd.heap_39 w.params).In g) (T : TopRead p loose mg mb g) (hroom : A.depth + 100 < recursionLimit) (hh : A.handled = none)
    (hA : A.frames = some [envo]) (hfo : envo.frame = some L) (hko : envo.scope.kind ≠ .module) (hn : xs.length ≤ 100000)
    (h : ∀ D h' tk o, Fr g L h' m → News g L h' ((D, o) :: own) → (∀ q ∈ own, q.1 ≠ D) → TL ((D, o) :: own) D (keptOf ys xs) → Q (.ref D) { s with heap := h', toks := tk }) :
    wpAny (model prog w) A (call (.ref 88) [.ref S1, .ref S2]) Q E s := by
  obtain ⟨a1, c1, hm, hs⟩ := t1
  exact call_filter F N hm hs H2 X T hroom hh hA hfo hko hn fun D h' tk acc c F' N' hd ha => h D h' tk _ F' N' hd ⟨acc, c, List.Mem.head _, ha⟩
theorem t_split (F : Fr g L s.heap m) (N : News g L s.heap own) {B : Str} {t : Tok} {ts : List Str} (X : (Mine.hd.heap_39 w.params).In g) (T : TopRead p loose mg mb g) (hroom : A.depth + 100 < recursionLimit) (hh : A.handled = none)
    (hA : A.frames = some [envo]) (hfo : envo.frame = some L) (hko : envo.scope.kind ≠ .module) (hB : B.length ≤ 100000) (hn : ts.length ≤ 100000) (hts : Toks ⟨false, B.cps.toList⟩ ts)
    (h : ∀ D h' tk o, Fr g L h' m → News g L h' ((D, o) :: own) → (∀ q ∈ own, q.1 ≠ D) → TL ((D, o) :: own) D ts → Q (.ref D) { s with heap := h', toks := tk }) :
    wpAny (model prog w) A (call (.ref 788) [.str B t]) Q E s :=
  call_split F N X T hroom hh hA hfo hko hB hn hts fun D h' tk acc c F' N' hd ha => h D h' tk _ F' N' hd ⟨acc, c, List.Mem.head _, ha⟩
theorem t_skipL {ys : List Str} {V : Addr} (t : TL own V ys) : ∀ g' : Heap, (∀ q ∈ own, g'.get? q.1 = some q.2) → Skip g' V "list.__contains__" ys := fun g' k => by
  obtain ⟨arr, c, hm, hs⟩ := t
  exact .inl ⟨rfl, arr, c, k _ hm, hs⟩
theorem t_skipT {ys : List Str} {V : Addr} {arr : Array Value} {c : Nat} (hm : (V, ({ cls := .type "tuple", data := .seq arr c } : Obj)) ∈ own) (hs : StrsAre arr.toList ys) : ∀ g' : Heap, (∀ q ∈ own, g'.get? q.1 = some q.2) → Skip g' V "tuple.__contains__" ys := fun g' k =>
  .inr ⟨rfl, arr, c, k _ hm, hs⟩
section
variable {ca : Addr} {cn : Str} {cs : Scope} {ccd : Value} {cl : List (Str × Addr)} {f : Str} {fa : Addr} {e1 e2 : Expr} {p1 pos : Pos} {K : Frag}
theorem q_call1 (F : Fr g L s.heap m) (X : K.In g) (T : TopRead p loose mg mb g) (e : nsIn K mainGlobals f = some (some (.ref fa))) (hk : keepIn K (.ref fa) = true) (hs : cs.kind = .function) (hx : (envX cn cs L ca ccd cl).kindOf f = some .globalImplicit)
    (h : wpAny (model prog w) A (eval e1 (envX cn cs L ca ccd cl)) (fun v s₁ => (∃ m₁, Fr g L s₁.heap m₁) ∧ wpAny (model prog w) A (call (.ref fa) [v]) Q E s₁) E s)
    (hd : (f == ("__debug__" : Str)) = false := by decide) (he : starEach [e1] (envX cn cs L ca ccd cl) = (false, eval e1 (envX cn cs L ca ccd cl)) :: starEach [] (envX cn cs L ca ccd cl) := by rfl) :
    wpAny (model prog w) A (eval (.Call (.Name f p1) [e1] [] pos) (envX cn cs L ca ccd cl)) Q E s := by
  refine Call_Name rfl (nameX_K F X T e ?_ hs hx hd)
  exact callWith_K X hk (spliced_more (wpAny_mono h (fun v s₁ h₁ => spliced_none ⟨X.keeps h₁.1.choose_spec.keep, h₁.2⟩) fun _ _ y => y) he) he rfl
theorem q_call2 (F : Fr g L s.heap m) (X : K.In g) (T : TopRead p loose mg mb g) (e : nsIn K mainGlobals f = some (some (.ref fa))) (hk : keepIn K (.ref fa) = true) (hs : cs.kind = .function) (hx : (envX cn cs L ca ccd cl).kindOf f = some .globalImplicit)
    (h : wpAny (model prog w) A (eval e1 (envX cn cs L ca ccd cl)) (fun v s₁ => wpAny (model prog w) A (eval e2 (envX cn cs L ca ccd cl)) (fun v₂ s₂ => (∃ m₁, Fr g L s₂.heap m₁) ∧ wpAny (model prog w) A (call (.ref fa) [v, v₂]) Q E s₂) E s₁) E s)
    (hd : (f == ("__debug__" : Str)) = false := by decide) (he : starEach [e1, e2] (envX cn cs L ca ccd cl) = (false, eval e1 (envX cn cs L ca ccd cl)) :: starEach [e2] (envX cn cs L ca ccd cl) := by rfl)
    (he2 : starEach [e2] (envX cn cs L ca ccd cl) = (false, eval e2 (envX cn cs L ca ccd cl)) :: starEach [] (envX cn cs L ca ccd cl) := by rfl) (hplain : (backTo pos (starEach [e2] (envX cn cs L ca ccd cl))).any (·.1) = false := by rfl) :
    wpAny (model prog w) A (eval (.Call (.Name f p1) [e1, e2] [] pos) (envX cn cs L ca ccd cl)) Q E s := by
  refine Call_Name rfl (nameX_K F X T e ?_ hs hx hd)
  exact callWith_K X hk (spliced_more (wpAny_mono h (fun v s₁ h₁ => spliced_more (wpAny_mono h₁ (fun v₂ s₂ h₂ => spliced_none ⟨X.keeps h₂.1.choose_spec.keep, h₂.2⟩) fun _ _ y => y) he2) fun _ _ y => y) he) he hplain
end
end
end Mine
end
section
open PySem PySem.W PyProof.Rows PySem.Calls PySem.Spec
set_option maxRecDepth 100000
namespace Mine
theorem ns_split (w : World) : nsIn (Mine.hd.heap_39 w.params) mainGlobals (Str.ofString "split") = some (some (.ref 788)) := by k_is
theorem ns_filter (w : World) : nsIn (Mine.hd.heap_39 w.params) mainGlobals (Str.ofString "_filter") = some (some (.ref 88)) := by k_is
theorem ns_join (w : World) : nsIn (Mine.hd.heap_39 w.params) mainGlobals (Str.ofString "join_shlex") = some (some (.ref 795)) := by k_is
theorem ki_split (w : World) : keepIn (Mine.hd.heap_39 w.params) (.ref 788) = true := by k_is
theorem ki_filter (w : World) : keepIn (Mine.hd.heap_39 w.params) (.ref 88) = true := by k_is
theorem ki_join (w : World) : keepIn (Mine.hd.heap_39 w.params) (.ref 795) = true := by k_is
/-- the names of law's frame -/
structure LawSc (cs : Scope) : Prop where
  k : cs.kind = .function
  words : cs.names.lookup (Str.ofString "words") = some .local
  skip : cs.names.lookup (Str.ofString "skip") = some .local
  kept : cs.names.lookup (Str.ofString "kept") = some .local
  line : cs.names.lookup (Str.ofString "line") = some .local
  read : cs.names.lookup (Str.ofString "read") = some .local
  written : cs.names.lookup (Str.ofString "written") = some .local
  join : cs.names.lookup (Str.ofString "join_shlex") = some .globalImplicit
  split : cs.names.lookup (Str.ofString "split") = some .globalImplicit
  filter : cs.names.lookup (Str.ofString "_filter") = some .globalImplicit
theorem LawSc.plain {cs : Scope} (S : LawSc cs) : cs.kind ≠ .module := by rw [S.k]; exact fun e => by cases e
section
variable {prog : Program} {w : World} {A : Around} {s : Shared} {E : Value → Shared → Prop} {p : Program} {loose : List Str} {mg mb : Str → Option Value} {g : Heap} {L W S2 Kp : Addr} {m : Str → Option Value} {own : List (Addr × Obj)} {ws ls : List Str} {id : String}
  {ca : Addr} {cn : Str} {cs : Scope} {ccd : Value} {cl : List (Str × Addr)} {env : Env} {B : Str} {t : Tok}
  {p1 p2 p3 p4 p5 p6 p7 p8 p9 p10 p11 p12 p13 p14 p15 p16 p17 p18 p19 p20 p21 p22 p23 p24 p25 p26 p27 p28 p29 p30 p31 p32 : Pos} {k1 k2 : Nat}
theorem if_ff {P R : Prop} (h : R) : if (false = true) then P else R := by rw [if_neg (by decide)]; exact h
theorem law_turn {Q : Flow → Shared → Prop} (he : env = envX cn cs L ca ccd cl) (SC : LawSc cs) (F : Fr g L s.heap m) (N : News g L s.heap own) (X : (Mine.hd.heap_39 w.params).In g) (T : TopRead p loose mg mb g) (hroom : A.depth + 100 < recursionLimit) (hh : A.handled = none)
    (hA : A.frames = some [env]) (hu : A.units + 64 < cLine)
    (m1 : m (Str.ofString "line") = some (.str B t)) (m2 : m (Str.ofString "words") = some (.ref W)) (m3 : m (Str.ofString "skip") = some (.ref S2)) (m4 : m (Str.ofString "kept") = some (.ref Kp))
    (tw : TL own W ws) (tk : TL own Kp (keptOf ls ws)) (hS : ∀ g', (∀ q ∈ own, g'.get? q.1 = some q.2) → Skip g' S2 id ls)
    (h1 : Toks ⟨false, B.cps.toList⟩ ws) (h2 : Toks ⟨false, (B ++ Str.ofString " " ++ B).cps.toList⟩ (ws ++ ws)) (hB : B.length ≤ 10000) (hw : ws.length ≤ 1000) (ok : ∀ y ∈ ws, PyData.strOk y = true)
    (hQ : ∀ h' tk' m' own', Fr g L h' m' → News g L h' own' → Grew own own' → (∀ z, z ≠ Str.ofString "read" → m' z = m z) → Q .next { s with heap := h', toks := tk' }) :
    wpAny (model prog w) A (execs [.Assign [.Name (Str.ofString "read") p1] (.Call (.Name (Str.ofString "split") p2) [.Name (Str.ofString "line") p3] [] p4) p5,
      .If (.BoolOp .Or [.Compare (.Name (Str.ofString "read") p6) [.NotEq] [.Name (Str.ofString "words") p7] p8,
        .Compare (.Call (.Name (Str.ofString "_filter") p9) [.Name (Str.ofString "read") p10, .Name (Str.ofString "skip") p11] [] p12) [.NotEq] [.Name (Str.ofString "kept") p13] p14,
        .Compare (.Call (.Name (Str.ofString "_filter") p15) [.Call (.Name (Str.ofString "split") p16) [.BinOp (.BinOp (.Name (Str.ofString "line") p17) .Add (.Constant (.str (Str.ofString " ")) k1 p18) p19) .Add (.Name (Str.ofString "line") p20) p21] [] p22, .Name (Str.ofString "skip") p23] [] p24) [.NotEq] [.BinOp (.Name (Str.ofString "kept") p25) .Add (.Name (Str.ofString "kept") p26) p27] p28] p29)
        [.Return (some (.Constant (.bool false) k2 p30)) p31] [] p32] env) Q E s := by
  subst he
  have okk : ∀ y ∈ keptOf ls ws, PyData.strOk y = true := fun y hy => ok y (mem_kept hy)
  have hlk : (keptOf ls ws).length ≤ ws.length := List.length_filter_le _ _
  have l1 : (Str.ofString " ").length = 1 := by decide +kernel
  have hfo : (envX cn cs L ca ccd cl).frame = some L := rfl
  have hko : (envX cn cs L ca ccd cl).scope.kind ≠ .module := SC.plain
  refine wpAny_execs_cons (wpAny_Assign_Name (q_call1 F X T (ns_split w) (ki_split w) SC.k SC.split (nameX_L F m1 ⟨⟨_, F⟩, t_split F N X T hroom hh hA hfo hko (Nat.le_trans hB (by decide)) (Nat.le_trans hw (by decide)) h1 fun D h' tk1 o F1 N1 d1 t1 => ?_⟩ SC.k SC.line)))
  refine storeX_L F1 N1 (fun h2' F2 N2 => ?_) SC.k SC.read
  have ne : ∀ {x : Str}, (x == Str.ofString "read") = false → ∀ {v}, m x = some v → (fun y => if y = Str.ofString "read" then some (Value.ref D) else m y) x = some v := fun {x} hx {v} hv => by
    show (if x = _ then _ else _) = _
    rw [if_neg (fun e => by rw [e, beq_self_eq_true] at hx; cases hx)]; exact hv
  refine wpAny_execs_cons (wpAny_If (isTrue_or (wpAny_isTrue_Compare1 (nameX_L F2 (if_pos rfl) (nameX_L F2 (ne (by decide +kernel) m2) (t_ne N2 t1 tw.tail ok ok hu (wpAny_truthy_bool ?_)) SC.k SC.words) SC.k SC.read))))
  rw [decide_eq_true (rfl : ws = ws)]
  refine if_ff (isTrue_or (wpAny_isTrue_Compare1 (q_call2 F2 X T (ns_filter w) (ki_filter w) SC.k SC.filter (nameX_L F2 (if_pos rfl) (nameX_L F2 (ne (by decide +kernel) m3) ⟨⟨_, F2⟩, t_filter F2 N2 t1 (fun g' hg => hS g' fun q hq => hg q (List.mem_cons_of_mem _ hq)) X T hroom hh hA hfo hko (Nat.le_trans hw (by decide)) fun D3 h3 tk3 o3 F3 N3 d3 t3 => ?_⟩ SC.k SC.skip) SC.k SC.read))))
  refine nameX_L F3 (ne (by decide +kernel) m4) (t_ne N3 t3 tk.tail.tail okk okk hu (wpAny_truthy_bool ?_)) SC.k SC.kept
  rw [decide_eq_true (rfl : keptOf ls ws = keptOf ls ws)]
  refine if_ff (isTrue_or (wpAny_isTrue_Compare1 (q_call2 F3 X T (ns_filter w) (ki_filter w) SC.k SC.filter (q_call1 F3 X T (ns_split w) (ki_split w) SC.k SC.split (wpAny_BinOp (wpAny_BinOp (nameX_L F3 (ne (by decide +kernel) m1) (Constant_str (SB.add (fun t4 k4 => nameX_L F3 (ne (by decide +kernel) m1) (SB.add (fun t5 k5 => ⟨⟨_, F3⟩, ?_⟩) ?_) SC.k SC.line) ?_)) SC.k SC.line)))))))
  · refine t_split (s := { s with heap := h3, toks := k5 }) F3 N3 X T hroom hh hA hfo hko ?_ ?_ h2 fun D6 h6 tk6 o6 F6 N6 d6 t6 => ?_
    · rw [Str.length_append, Str.length_append, l1]; omega
    · rw [List.length_append]; omega
    · refine nameX_L F6 (ne (by decide +kernel) m3) ⟨⟨_, F6⟩, t_filter F6 N6 t6 (fun g' hg => hS g' fun q hq => hg q (List.mem_cons_of_mem _ (List.mem_cons_of_mem _ (List.mem_cons_of_mem _ hq)))) X T hroom hh hA hfo hko (by rw [List.length_append]; omega) fun D7 h7 tk7 o7 F7 N7 d7 t7 => ?_⟩ SC.k SC.skip
      refine wpAny_BinOp (nameX_L F7 (ne (by decide +kernel) m4) (nameX_L F7 (ne (by decide +kernel) m4) (t_add F7 N7 tk.tail.tail.tail.tail tk.tail.tail.tail.tail (by omega) fun D8 h8 o8 F8 N8 d8 t8 => ?_) SC.k SC.kept) SC.k SC.kept)
      rw [kept_append] at t7
      refine t_ne N8 t7.tail t8 (strOk_append okk okk) (strOk_append okk okk) hu (wpAny_truthy_bool ?_)
      rw [decide_eq_true (rfl : keptOf ls ws ++ keptOf ls ws = keptOf ls ws ++ keptOf ls ws)]
      refine if_ff (isTrue_or_nil (if_ff (wpAny_execs_nil (wpAny_execs_nil ?_))))
      exact hQ _ _ _ _ F8 N8 (((((Grew.refl own).one d1).one d3).one d6).one d7 |>.one d8) fun z hz => if_neg hz
  · rw [Str.length_append, l1, sizeLine_eq]; omega
  · rw [l1, sizeLine_eq]; omega
end
end Mine
end
section
open PySem PySem.W PyProof.Rows PySem.Calls PySem.Spec
set_option maxRecDepth 100000
namespace Mine
theorem strs_filter {q : Str → Bool} {p : Value → Bool} (hp : ∀ y t, p (.str y t) = q y) : ∀ {vs : List Value} {us : List Str}, StrsAre vs us → StrsAre (vs.filter p) (us.filter q)
  | _, _, .nil => .nil
  | _, _, .cons y t r => by
    rw [List.filter_cons, List.filter_cons, hp]
    cases q y with
    | true => exact .cons y t (strs_filter hp r)
    | false => exact strs_filter hp r
theorem paired_map {f : Str → Str} : ∀ {vs ys : List Value} {us : List Str}, Paired (fun v z => ∃ y t t', v = Value.str y t ∧ z = .str (f y) t') vs ys → StrsAre vs us → StrsAre ys (us.map f)
  | [], _, _, h, .nil => by cases h; exact .nil
  | .str y' u :: vs, _, _, h, .cons _ _ r' => by
    cases h with
    | cons h1 h2 =>
      obtain ⟨y, t, t', e, rfl⟩ := h1
      cases e
      exact .cons _ _ (paired_map h2 r')
theorem paired_ints {f : Int → Str} {q : Int → Bool} {p : Value → Bool} (hp : ∀ x t, p (.int x t) = q x) : ∀ {vs ys : List Value} {ns : List Int}, Paired (fun v z => ∃ x t t', v = Value.int x t ∧ z = .str (f x) t') (vs.filter p) ys → IntsAre vs ns → StrsAre ys ((ns.filter q).map f)
  | [], _, _, h, .nil => by cases h; exact .nil
  | .int x t :: r, ys, _, h, .cons _ _ r' => by
    rw [List.filter_cons, hp] at h
    rw [List.filter_cons]
    cases hq : q x with
    | true =>
      rw [hq] at h
      simp only [if_true] at h ⊢
      cases h with
      | cons h1 h2 =>
        obtain ⟨x', u, u', e, rfl⟩ := h1
        cases e
        exact .cons _ _ (paired_ints hp h2 r')
    | false =>
      rw [hq] at h
      simp only [Bool.false_eq_true, if_false] at h ⊢
      exact paired_ints hp h r'
/-- the scope of a comprehension of law's -/
structure CompSc (csc : Scope) (cl' : List (Str × Addr)) (x : Str) (env : Env) : Prop where
  clos : closureFor csc env = pure cl'
  cell : ∀ y ∈ csc.names, y.2 ≠ .cell
  kind : csc.kind = .function
  names : ∀ y ∈ csc.names, y.2 = .local → csc.names.lookup y.1 = some .local
  x : csc.names.lookup x = some .local
section
variable {prog : Program} {w : World} {A : Around} {s : Shared} {E : Value → Shared → Prop} {p : Program} {loose : List Str} {mg mb : Str → Option Value} {g : Heap} {L l : Addr} {m : Str → Option Value} {own : List (Addr × Obj)} {us : List Str}
  {csc : Scope} {cl' : List (Str × Addr)} {env : Env} {x y fname : Str} {fa : Addr} {f : Str → Str} {q : Str → Bool} {iter test : Expr} {p1 p2 p3 px py pos spos : Pos}
theorem words_elt {h : Heap} {arr : Array Value} (C : CompSc csc cl' x env) (hs : StrsAre arr.toList us) (X : (Mine.hd.heap_39 w.params).In h) (T : TopRead p loose mg mb h) (hroom : A.depth + 20 < recursionLimit) (hh : A.handled = none)
    (hrd : ∀ D, rdA (Mine.hd.heap_39 w.params) ⟨prog, w.params⟩ (fun v => v = .ref fa) (eval (.Name fname p1) (compEnvC csc cl' D env))) (hk : keepIn (Mine.hd.heap_39 w.params) (.ref fa) = true) (hd : (x == ("__debug__" : Str)) = false) (hG : ∀ y ∈ us, Gives1 fa y (f y)) :
    CompDo prog w A env csc cl' x [] (.Call (.Name fname p1) [.Name x p2] [] p3) arr (fun _ => true) (fun v z => ∃ y t t', v = Value.str y t ∧ z = .str (f y) t') h where
  tests := fun D i v s₃ m₃ E' _ _ _ _ => wpAny_pure ⟨rfl, s₃.heap, s₃.toks, rfl, fun _ _ e => e⟩
  elt := fun D i v s₃ m₃ E' hv _ hns hm k => by
    obtain ⟨y, t, rfl, hy⟩ := hs.item i v (by simpa using hv)
    have X₃ := X.keeps k
    have T₃ := T.keeps k
    exact elt_call (fa := fa) X₃ (hrd D) hk hns hm C.kind (lookup_relabel_local C.x) hd (hG y (List.mem_of_getElem? hy) X₃ T₃ hroom hh fun s' ks t' => ⟨⟨y, t, t', rfl, rfl⟩, ks⟩)
theorem all_true (l : List Value) : l.filter (fun _ => true) = l := List.filter_eq_self.mpr fun _ _ => rfl
/-- a comprehension whose element calls a def upon each word -/
theorem ce_words {Q : Value → Shared → Prop} (C : CompSc csc cl' x env) (F : Fr g L s.heap m) (N : News g L s.heap own) (tl : TL own l us) (X : (Mine.hd.heap_39 w.params).In g) (T : TopRead p loose mg mb g) (hroom : A.depth + 100 < recursionLimit) (hh : A.handled = none) (hn : us.length ≤ 1000)
    (hit : ∀ (Q : Value → Shared → Prop), Q (.ref l) s → wpAny (model prog w) A (eval iter env) Q E s)
    (hrd : ∀ D, rdA (Mine.hd.heap_39 w.params) ⟨prog, w.params⟩ (fun v => v = .ref fa) (eval (.Name fname p1) (compEnvC csc cl' D env))) (hk : keepIn (Mine.hd.heap_39 w.params) (.ref fa) = true) (hd : (x == ("__debug__" : Str)) = false) (hG : ∀ y ∈ us, Gives1 fa y (f y))
    (h : ∀ D h' tk o, Fr g L h' m → News g L h' ((D, o) :: own) → (∀ q ∈ own, q.1 ≠ D) → TL ((D, o) :: own) D (us.map f) → Q (.ref D) { s with heap := h', toks := tk })
    (hs : ∀ x, foldedSetIterable iter env x = pure x := by intro _; rfl) :
    wpAny (model prog w) A (eval (.ListComp (.Call (.Name fname p1) [.Name x p2] [] p3) [⟨.Name x px, iter, [], 0⟩] csc pos) env) Q E s := by
  obtain ⟨arr, la, ia⟩ := tl.isList N
  have e := ia.len_eq
  rw [Array.length_toList] at e
  refine comp_ev F N hh C.clos C.cell C.kind C.names C.x la (by omega) hit (words_elt C ia (X.keeps F.keep) (T.keeps F.keep) (by omega) hh hrd hk hd hG) (fun D h' tk ys c F' N' hD hP => ?_) hs
  rw [all_true] at hP
  exact h D h' tk _ F' N' hD ⟨ys, c, List.Mem.head _, paired_map hP ia⟩
theorem ca_words {Q : Flow → Shared → Prop} (C : CompSc csc cl' x env) (F : Fr g L s.heap m) (N : News g L s.heap own) (tl : TL own l us) (X : (Mine.hd.heap_39 w.params).In g) (T : TopRead p loose mg mb g) (hroom : A.depth + 100 < recursionLimit) (hh : A.handled = none) (hn : us.length ≤ 1000)
    (hLe : env.locals = L) (hsw : swapsWith (.ListComp (.Call (.Name fname p1) [.Name x p2] [] p3) [⟨.Name x px, iter, [], 0⟩] csc pos) (some (.Name y py)) spos.line env = pure true) (hy : env.kindOf y = some .local) (hp : (env.scope.kind == .class || (env.scope.kind == .module && env.locals != env.globals)) = false)
    (hit : ∀ (Q : Value → Shared → Prop), Q (.ref l) s → wpAny (model prog w) A (eval iter env) Q E s)
    (hrd : ∀ D, rdA (Mine.hd.heap_39 w.params) ⟨prog, w.params⟩ (fun v => v = .ref fa) (eval (.Name fname p1) (compEnvC csc cl' D env))) (hk : keepIn (Mine.hd.heap_39 w.params) (.ref fa) = true) (hd : (x == ("__debug__" : Str)) = false) (hG : ∀ y ∈ us, Gives1 fa y (f y))
    (h : ∀ D h' tk o, Fr g L h' (fun z => if z = y then some (.ref D) else m z) → News g L h' ((D, o) :: own) → (∀ q ∈ own, q.1 ≠ D) → TL ((D, o) :: own) D (us.map f) → Q .next { s with heap := h', toks := tk })
    (hs : ∀ x, foldedSetIterable iter env x = pure x := by intro _; rfl) :
    wpAny (model prog w) A (exec (.Assign [.Name y py] (.ListComp (.Call (.Name fname p1) [.Name x p2] [] p3) [⟨.Name x px, iter, [], 0⟩] csc pos) spos) env) Q E s := by
  obtain ⟨arr, la, ia⟩ := tl.isList N
  have e := ia.len_eq
  rw [Array.length_toList] at e
  refine comp_as F N hLe hsw hh C.clos C.cell C.kind C.names C.x hy hp la (by omega) hit (words_elt C ia (X.keeps F.keep) (T.keeps F.keep) (by omega) hh hrd hk hd hG) (fun D h' tk ys c F' N' hD hP => ?_) hs
  rw [all_true] at hP
  exact h D h' tk _ F' N' hD ⟨ys, c, List.Mem.head _, paired_map hP ia⟩
/-- which words a comprehension keeps -/
noncomputable def keepV (q : Str → Bool) (v : Value) : Bool := match v with
  | .str y _ => q y
  | _ => false
theorem keep_elt {h : Heap} {arr : Array Value} (C : CompSc csc cl' x env) (hs : StrsAre arr.toList us) (hd : (x == ("__debug__" : Str)) = false)
    (ht : ∀ (D : Addr) y t (s₃ : Shared) m₃ (E' : Value → Shared → Prop), y ∈ us → s₃.heap.Ns D m₃ → m₃ x = some (.str y t) → (∀ b o, h.get? b = some o → s₃.heap.get? b = some o) →
      wpAny (model prog w) A (isTrue test (compEnvC csc cl' D env) (eval test (compEnvC csc cl' D env))) (fun ok s₄ => ok = q y ∧ Keeps s₃ s₄) E' s₃) :
    CompDo prog w A env csc cl' x [test] (.Name x p1) arr (keepV q) (fun v z => ∃ y t t', v = Value.str y t ∧ z = .str (id y) t') h where
  tests := fun D i v s₃ m₃ E' hv hns hm k => by
    obtain ⟨y, t, rfl, hy⟩ := hs.item i v (by simpa using hv)
    rw [List.forIn_cons]
    refine wpAny_bind ?_
    simp only [if_true]
    refine wpAny_bind (wpAny_mono (ht D y t s₃ m₃ E' (List.mem_of_getElem? hy) hns hm k) (fun ok s₄ hk => ?_) fun _ _ e => e)
    exact wpAny_pure (wpAny_pure hk)
  elt := fun D i v s₃ m₃ E' hv _ hns hm k => by
    obtain ⟨y, t, rfl, hy⟩ := hs.item i v (by simpa using hv)
    exact ldG hns hm ⟨⟨y, t, t, rfl, rfl⟩, keeps_rfl _⟩ C.kind (lookup_relabel_local C.x) hd
theorem ce_keep {Q : Value → Shared → Prop} (C : CompSc csc cl' x env) (F : Fr g L s.heap m) (N : News g L s.heap own) (tl : TL own l us) (hh : A.handled = none) (hn : us.length ≤ 1000)
    (hit : ∀ (Q : Value → Shared → Prop), Q (.ref l) s → wpAny (model prog w) A (eval iter env) Q E s) (hd : (x == ("__debug__" : Str)) = false)
    (ht : ∀ (D : Addr) y t (s₃ : Shared) m₃ (E' : Value → Shared → Prop), y ∈ us → s₃.heap.Ns D m₃ → m₃ x = some (.str y t) → (∀ b o, s.heap.get? b = some o → s₃.heap.get? b = some o) →
      wpAny (model prog w) A (isTrue test (compEnvC csc cl' D env) (eval test (compEnvC csc cl' D env))) (fun ok s₄ => ok = q y ∧ Keeps s₃ s₄) E' s₃)
    (h : ∀ D h' tk o, Fr g L h' m → News g L h' ((D, o) :: own) → (∀ q ∈ own, q.1 ≠ D) → TL ((D, o) :: own) D (us.filter q) → Q (.ref D) { s with heap := h', toks := tk })
    (hs : ∀ x, foldedSetIterable iter env x = pure x := by intro _; rfl) :
    wpAny (model prog w) A (eval (.ListComp (.Name x p1) [⟨.Name x px, iter, [test], 0⟩] csc pos) env) Q E s := by
  obtain ⟨arr, la, ia⟩ := tl.isList N
  have e := ia.len_eq
  rw [Array.length_toList] at e
  refine comp_ev F N hh C.clos C.cell C.kind C.names C.x la (by omega) hit (keep_elt C ia hd ht) (fun D h' tk ys c F' N' hD hP => ?_) hs
  have z := paired_map (f := id) hP (strs_filter (p := keepV q) (q := q) (fun _ _ => rfl) ia)
  rw [List.map_id] at z
  exact h D h' tk _ F' N' hD ⟨ys, c, List.Mem.head _, z⟩
theorem ca_keep {Q : Flow → Shared → Prop} (C : CompSc csc cl' x env) (F : Fr g L s.heap m) (N : News g L s.heap own) (tl : TL own l us) (hh : A.handled = none) (hn : us.length ≤ 1000)
    (hLe : env.locals = L) (hsw : swapsWith (.ListComp (.Name x p1) [⟨.Name x px, iter, [test], 0⟩] csc pos) (some (.Name y py)) spos.line env = pure true) (hy : env.kindOf y = some .local) (hp : (env.scope.kind == .class || (env.scope.kind == .module && env.locals != env.globals)) = false)
    (hit : ∀ (Q : Value → Shared → Prop), Q (.ref l) s → wpAny (model prog w) A (eval iter env) Q E s) (hd : (x == ("__debug__" : Str)) = false)
    (ht : ∀ (D : Addr) y t (s₃ : Shared) m₃ (E' : Value → Shared → Prop), y ∈ us → s₃.heap.Ns D m₃ → m₃ x = some (.str y t) → (∀ b o, s.heap.get? b = some o → s₃.heap.get? b = some o) →
      wpAny (model prog w) A (isTrue test (compEnvC csc cl' D env) (eval test (compEnvC csc cl' D env))) (fun ok s₄ => ok = q y ∧ Keeps s₃ s₄) E' s₃)
    (h : ∀ D h' tk o, Fr g L h' (fun z => if z = y then some (.ref D) else m z) → News g L h' ((D, o) :: own) → (∀ q ∈ own, q.1 ≠ D) → TL ((D, o) :: own) D (us.filter q) → Q .next { s with heap := h', toks := tk })
    (hs : ∀ x, foldedSetIterable iter env x = pure x := by intro _; rfl) :
    wpAny (model prog w) A (exec (.Assign [.Name y py] (.ListComp (.Name x p1) [⟨.Name x px, iter, [test], 0⟩] csc pos) spos) env) Q E s := by
  obtain ⟨arr, la, ia⟩ := tl.isList N
  have e := ia.len_eq
  rw [Array.length_toList] at e
  refine comp_as F N hLe hsw hh C.clos C.cell C.kind C.names C.x hy hp la (by omega) hit (keep_elt C ia hd ht) (fun D h' tk ys c F' N' hD hP => ?_) hs
  have z := paired_map (f := id) hP (strs_filter (p := keepV q) (q := q) (fun _ _ => rfl) ia)
  rw [List.map_id] at z
  exact h D h' tk _ F' N' hD ⟨ys, c, List.Mem.head _, z⟩
end
end Mine
end
section
open PySem PySem.W PyProof.Rows PySem.Calls PySem.Spec
set_option maxRecDepth 100000
namespace Mine
example : True := by k_with_none; trivial
example : True := by (k_with "call_G" => (refine' call_G (by assumption) (by exact TopRead.nolimit (by assumption)) (by k_is) (by k_is) (by assumption) (by exact BindsTo.of_eq rfl) (by exact locs rfl) (by decide) ?_ (by exact rfl) (by exact rfl) (by exact rfl); intro h₁ F N; (try dsimp only))); trivial
section
variable {prog : Program} {w : World} {A : Around} {s : Shared} {Q : Value → Shared → Prop} {E : Value → Shared → Prop} {p : Program} {loose : List Str} {mg mb : Str → Option Value} {t : Tok}
set_option maxHeartbeats 1600000 in
theorem law_marked0 {y : Str} (hy : (y == Str.ofString "") = true) (X : (Mine.hd.heap_39 w.params).In s.heap) (T : TopRead p loose mg mb s.heap) (hroom : A.depth < recursionLimit) (h : ∀ s', Keeps s s' → ∀ t', Q (.str (Str.ofString "\"\"") t') s') :
    wpAny (model prog w) A (call (.ref 815) [.str y t]) Q E s := by
  walk_at "call_G"
  k_steps
  all_goals (try dsimp only)
  all_goals refine retG_of (by assumption) fun s' hk => ?_
  all_goals have := h s' hk
  all_goals exact this _
end
theorem marked_all {y : Str} (h : y ∈ words7) : Gives1 815 y (marked' y) := by
  unfold marked'
  cases e : (y == Str.ofString "") with
  | true =>
    rw [if_pos rfl]
    exact fun X T hr _ hQ => law_marked0 e X T (by omega) hQ
  | false =>
    have hl : ∀ y ∈ words7, y.length ≤ 1000 := by
      have d : (words7.all fun y => decide (y.length ≤ 1000)) = true := by decide +kernel
      exact fun y hy => of_decide_eq_true (List.all_eq_true.mp d y hy)
    rw [if_neg (by decide)]
    exact @marked_gives y (hl y h) e
theorem quoted_all {y : Str} (h : y ∈ words7) : Gives1 803 y (quoted y) := Quo.gives (quo_all h)
theorem sum_le {f : Str → Nat} {k : Nat} : ∀ {us : List Str}, (∀ y ∈ us, f y ≤ k) → (us.map f).sum ≤ k * us.length
  | [], _ => by simp
  | y :: r, h => by
    have ih := sum_le (f := f) (us := r) fun z hz => h z (List.mem_cons_of_mem _ hz)
    have h1 := h y (List.mem_cons_self ..)
    rw [List.map_cons, List.sum_cons, List.length_cons, Nat.mul_succ]; omega
theorem quoted_len {y : Str} (h : y ∈ words7) : (quoted y).length ≤ 20 := by
  have d : (words7.all fun y => decide ((quoted y).length ≤ 20)) = true := by decide +kernel
  exact of_decide_eq_true (List.all_eq_true.mp d y h)
theorem marked_len {y : Str} (h : y ∈ words7) : (marked' y).length ≤ 20 := by
  have d : (words7.all fun y => decide ((marked' y).length ≤ 20)) = true := by decide +kernel
  exact of_decide_eq_true (List.all_eq_true.mp d y h)
theorem words_ok {y : Str} (h : y ∈ words7) : PyData.strOk y = true := by
  have d : (words7.all fun y => PyData.strOk y) = true := by decide +kernel
  exact List.all_eq_true.mp d y h
theorem quoted_ok {y : Str} (h : y ∈ words7) : PyData.strOk (quoted y) = true := by
  have d : (words7.all fun y => PyData.strOk (quoted y)) = true := by decide +kernel
  exact List.all_eq_true.mp d y h
/-- the length of a line -/
theorem line_len {enc : Str → Str} {sep : Str} {us : List Str} (h : ∀ y ∈ us, (enc y).length ≤ 20) (hs : sep.length ≤ 2) (hn : us.length ≤ 100) : (Txt.join sep (us.map enc)).length ≤ 2200 := by
  rw [show Txt.join sep (us.map enc) = Str.join sep (us.map enc) from StrLaws.glued_eq_join sep _]
  have h1 := StrLaws.join_length_le sep (us.map enc)
  rw [List.map_map, List.length_map] at h1
  have h2 := sum_le (f := (fun x => Str.length x) ∘ enc) (k := 20) (us := us) h
  have h3 : us.length * sep.length ≤ us.length * 2 := Nat.mul_le_mul_left _ hs
  omega
theorem join_ok {us : List Str} (h : ∀ y ∈ us, y ∈ words7) (hn : us.length ≤ 100) : JoinOk (Str.ofString " ") (us.map quoted) = true := by
  refine joinOk_of ?_
  have l1 : (Str.ofString " ").length = 1 := by decide +kernel
  rw [List.map_map, List.length_map, l1]
  have h2 := sum_le (f := (fun x => Str.length x) ∘ quoted) (k := 20) (us := us) fun y hy => quoted_len (h y hy)
  omega
example : True := by k_with_none; trivial
end Mine
end
section
open PySem PySem.W PyProof.Rows PySem.Calls PySem.Spec
set_option maxRecDepth 100000
namespace Mine
theorem ki_marked (w : World) : keepIn (Mine.hd.heap_39 w.params) (.ref 815) = true := by k_is
theorem ki_quote (w : World) : keepIn (Mine.hd.heap_39 w.params) (.ref 803) = true := by k_is
section
variable {prog : Program} {w : World} {A : Around} {s : Shared} {E : Value → Shared → Prop} {p : Program} {loose : List Str} {mg mb : Str → Option Value} {g : Heap} {L W bm : Addr} {ob po : Obj} {m : Str → Option Value} {own : List (Addr × Obj)} {ws us : List Str}
  {ca : Addr} {cn : Str} {cs csc : Scope} {ccd : Value} {cl cl' : List (Str × Addr)} {env : Env} {B : Str} {t : Tok} {body : List Stmt}
  {q1 q2 q3 q4 q5 q6 q7 q8 q9 q10 q11 q12 q13 q14 q15 : Pos} {k0 : Nat}
theorem t_join {Q : Value → Shared → Prop} (F : Fr g L s.heap m) (N : News g L s.heap ((790, po) :: own)) (hd : ∀ q ∈ own, q.1 ≠ 790) (hpo : PlOk #[] po) (tw : TL own W us) (X : (Mine.hd.heap_39 w.params).In g) (T : TopRead p loose mg mb g) (Bm : BMod g mainGlobals mg bm ob) (hroom : A.depth + 100 < recursionLimit) (hh : A.handled = none)
    (hG : AllBare s.gens) (hu : ∀ y ∈ us, y ∈ words7) (hn : us.length ≤ 100)
    (h : ∀ s' t' po', Fr g L s'.heap m → News g L s'.heap ((790, po') :: own) → PlOk #[] po' → AllBare s'.gens → s'.os = s.os → Q (.str (Txt.join (Str.ofString " ") (us.map quoted)) t') s') :
    wpAny (model prog w) A (call (.ref 795) [.ref W]) Q E s := by
  obtain ⟨a1, c1, hm, hs⟩ := tw
  refine call_join F (fun q hq => N q (by rw [List.mem_singleton.mp hq]; exact List.Mem.head _)) (fun q hq => N q (List.mem_cons_of_mem _ hq)) (fun q hq hm => hd q hq (List.mem_singleton.mp hm)) hpo hm hs X T Bm hroom hh hG (fun y hy => quo_all (hu y hy)) (by omega) (join_ok hu hn) fun s' t' po' F' N' P' G' o' _ => h s' t' po' F' N' P' G' o'
/-- the two lines -/
noncomputable def lineA (ws : List Str) : Str := Txt.join (Str.ofString " ") (ws.map quoted)
noncomputable def lineB (ws : List Str) : Str := Txt.join (Str.ofString "  ") (ws.map marked')
theorem law_for {Q : Flow → Shared → Prop} (he : env = envX cn cs L ca ccd cl) (SC : LawSc cs) (C : CompSc csc cl' (Str.ofString "word") env) (hrd : ∀ D, rdA (Mine.hd.heap_39 w.params) ⟨prog, w.params⟩ (fun v => v = .ref 815) (eval (.Name (Str.ofString "_law_marked") q7) (compEnvC csc cl' D env)))
    (F : Fr g L s.heap m) (N : News g L s.heap ((790, po) :: own)) (hd : ∀ q ∈ own, q.1 ≠ 790) (hpo : PlOk #[] po) (X : (Mine.hd.heap_39 w.params).In g) (T : TopRead p loose mg mb g) (Bm : BMod g mainGlobals mg bm ob) (hroom : A.depth + 100 < recursionLimit) (hh : A.handled = none)
    (hG : AllBare s.gens) (hE : PassesOwn (model prog w) A env E) (hline : (q6.endLine == q13.line) = true)
    (m2 : m (Str.ofString "words") = some (.ref W)) (tw : TL own W ws) (hu : ∀ y ∈ ws, y ∈ words7) (hn : ws.length ≤ 100)
    (hb : ∀ (s' : Shared) (own' : List (Addr × Obj)) (m' : Str → Option Value) (B : Str) (t : Tok) (Q' : Flow → Shared → Prop), Fr g L s'.heap m' → News g L s'.heap own' → m' (Str.ofString "line") = some (.str B t) → (∀ z, z ≠ Str.ofString "line" → z ≠ Str.ofString "read" → m' z = m z) →
      (∀ q ∈ own, q ∈ own') → (B = lineA ws ∨ B = lineB ws) → (∀ h' tk' m'' own'', Fr g L h' m'' → News g L h' own'' → Grew own' own'' → (∀ z, z ≠ Str.ofString "read" → m'' z = m' z) → Q' .next { s' with heap := h', toks := tk' }) → wpAny (model prog w) A (execs body env) Q' E s')
    (hQ : ∀ s' m' po', Fr g L s'.heap m' → News g L s'.heap ((790, po') :: own) → PlOk #[] po' → AllBare s'.gens → s'.os = s.os → (∀ z, z ≠ Str.ofString "line" → z ≠ Str.ofString "read" → m' z = m z) → Q .next s') :
    wpAny (model prog w) A (exec (.For (.Name (Str.ofString "line") q1) (.List [.Call (.Name (Str.ofString "join_shlex") q2) [.Name (Str.ofString "words") q3] [] q4,
      .Call (.Attribute (.Constant (.str (Str.ofString "  ")) k0 q5) (Str.ofString "join") q6) [.ListComp (.Call (.Name (Str.ofString "_law_marked") q7) [.Name (Str.ofString "word") q8] [] q9) [⟨.Name (Str.ofString "word") q10, .Name (Str.ofString "words") q11, [], 0⟩] csc q12] [] q13] q14) body [] q15) env) Q E s := by
  subst he
  have l2 : (Str.ofString "  ").length = 2 := by decide +kernel
  refine For_invU g (env := envX cn cs L ca ccd cl) SC.line (by show (cs.kind == .class || (cs.kind == .module && L != mainGlobals)) = false; rw [SC.k]; rfl) ?_ (fun _ => rfl) hE
  refine List_ (spliced_more (q_call1 F X T (ns_join w) (ki_join w) SC.k SC.join (nameX_L F m2 ⟨⟨_, F⟩, t_join F N hd hpo tw X T Bm hroom hh hG hu hn fun s' t' po' F' N' P' G' o' => ?_⟩ SC.k SC.words)))
  refine spliced_more ?_
  with_reducible refine wpAny_Call_method_lateS ?a1 ?a2 hline ?_
  case a1 => rfl
  case a2 => rfl
  refine Constant_str ⟨"str", "str.join", PySem.F.plainAttrs_str, PySem.F.slot_str_join, PySem.F.type_str_join, typeIs_str _ _ _, (fun _ e => nomatch e), callWith_method1 (spliced_more (ce_words (s := { s' with toks := s'.toks + 1 }) C F' N' tw.tail X T hroom hh (by omega) (fun Q' hQ' => nameX_L (s := { s' with toks := s'.toks + 1 }) F' m2 hQ' SC.k SC.words) hrd (ki_marked w) (by decide +kernel) (fun y hy => marked_all (hu y hy)) fun D h' tk o F1 N1 d1 t1 => spliced_none ?_))⟩
  obtain ⟨arr, la, ia⟩ := t1.isList N1
  refine join_list (s := { s' with heap := h', toks := tk }) la ia ?_ fun t2 k2 => spliced_none ?_
  · rw [List.map_map, List.length_map, l2]
    have h2 := sum_le (f := (fun x => Str.length x) ∘ marked') (k := 20) (us := ws) fun y hy => marked_len (hu y hy)
    omega
  refine newList_N (s := { s' with heap := h', toks := k2 }) F1 N1 fun h3 F3 N3 => ?_
  have lD : h3.IsList h'.objs.size #[.str (lineA ws) t', .str (lineB ws) t2] := ⟨_, (N3 _ (List.Mem.head _)).1, rfl, 0, rfl⟩
  have dD : ∀ q ∈ (D, o) :: (790, po') :: own, q.1 ≠ h'.objs.size := fun q hq => Nat.ne_of_lt (Heap.lt_size (N1 q hq).1)
  generalize h'.objs.size = D2 at *
  have N4 : News g L h3 ((790, po') :: own) := fun q hq => N3 q (List.mem_cons_of_mem _ (List.mem_cons_of_mem _ hq))
  refine wpAny_pyIter_list lD ?_
  have hD2 : D2 < h3.objs.size := by obtain ⟨_, e, _⟩ := lD; exact Heap.lt_size e
  have gI : g.get? h3.objs.size = none := by
    cases q : g.get? h3.objs.size with
    | none => rfl
    | some o => exact absurd (Heap.lt_size (F3.keep _ _ q)) (Nat.lt_irrefl _)
  have nI : ∀ q ∈ (790, po') :: own, q.1 ∉ [h3.objs.size] := fun q hq hm => by
    have := Heap.lt_size (N4 q hq).1
    rw [List.mem_singleton.mp hm] at this; exact Nat.lt_irrefl _ this
  have LD := (N3 _ (List.Mem.head _)).2.1
  refine ⟨h3.objs.size, [h3.objs.size, D2], [h3.objs.size], _, _, _, m, (790, po') :: own, fun _ m' news' => (∀ z, z ≠ Str.ofString "line" → z ≠ Str.ofString "read" → m' z = m z) ∧ ∀ q ∈ (790, po') :: own, q ∈ news', rfl, Walks.list hh _ D2 (Nat.ne_of_lt hD2) #[.str (lineA ws) t', .str (lineB ws) t2], ?_, ?_, nI, ?_, F3.push _, ?_, ⟨fun _ _ _ => rfl, fun _ h => h⟩, ?_, ?_⟩
  · intro hm
    rcases List.mem_cons.mp hm with e | hm
    · have := F3.ns.lt
      rw [show L = h3.objs.size from e] at this; exact Nat.lt_irrefl _ this
    · exact LD (List.mem_singleton.mp hm).symm
  · intro b hb
    rw [List.mem_singleton.mp hb]; exact gI
  · exact ⟨⟨_, Heap.get?_push_size _ rfl, rfl, rfl⟩, lD.push _⟩
  · exact fun q hq => ⟨Heap.get?_push_of_some _ (N4 q hq).1, (N4 q hq).2⟩
  · intro i v m₁ news₁ s₁ own₁ hi hP hJ hoff hsub hget hall hst F₁ N₁
    have hv : ∃ B t, v = .str B t ∧ (B = lineA ws ∨ B = lineB ws) := by
      match i, hi, hP with
      | 0, _, hP => exact ⟨_, _, (Option.some.inj hP).symm, .inl rfl⟩
      | 1, _, hP => exact ⟨_, _, (Option.some.inj hP).symm, .inr rfl⟩
    obtain ⟨B, t, rfl, hB⟩ := hv
    refine hb s₁ (own₁ ++ news₁) _ B t _ F₁ N₁ (if_pos rfl) (fun z hz hr => ?_) (fun q hq => List.mem_append_right _ (hJ.2 q (List.mem_cons_of_mem _ hq))) hB fun h6 tk6 m6 own6 F6 N6 G6 e6 => ?_
    · show (if z = _ then _ else _) = _
      rw [if_neg hz]; exact hJ.1 z hz hr
    · obtain ⟨ad, rfl, hap⟩ := G6
      have hIn : ∃ o, (h3.objs.size, o) ∈ own₁ := by
        obtain ⟨⟨o, ho, _⟩, _⟩ := hst
        exact ⟨o, hall _ (List.Mem.head _) gI o ho⟩
      obtain ⟨oI, hIo⟩ := hIn
      refine LoopStepU.introHead ad F6 N6 (fun q hq hm => ?_) ⟨fun z hz hr => ?_, fun q hq => List.mem_append_right _ (hJ.2 q hq)⟩
      · rcases List.mem_append.mp hq with hq | hq
        · exact hap q hq _ (List.mem_append_left _ hIo) (List.mem_singleton.mp hm)
        · exact hoff q hq hm
      · rw [e6 z hr]
        show (if z = _ then _ else _) = _
        rw [if_neg hz]; exact hJ.1 z hz hr
  · intro h6 tk6 m6 news6 F6 N6 _ hJ
    exact hQ _ m6 po' F6 (fun q hq => N6 q (hJ.2 q hq)) P' G' o' hJ.1
end
end Mine
end
section
open PySem PySem.W PyProof.Rows PySem.Calls PySem.Spec
set_option maxRecDepth 100000
namespace Mine
theorem ki_goes (w : World) : keepIn (Mine.hd.heap_39 w.params) (.ref 822) = true := by k_is
section
variable {prog : Program} {w : World} {A : Around} {s : Shared} {E : Value → Shared → Prop} {p : Program} {loose : List Str} {mg mb : Str → Option Value} {g : Heap} {L W V S2 Kp Wr bm c : Addr} {ob po : Obj} {m : Str → Option Value} {own : List (Addr × Obj)} {ws ls us : List Str} {id : String}
  {ca : Addr} {cn : Str} {cs csc csd : Scope} {ccd : Value} {cl cl' cl'' : List (Str × Addr)} {env cenv : Env} {B y : Str} {t : Tok}
  {q1 q2 q3 q4 q5 q6 q7 q8 q9 q10 q11 q12 q13 q14 q15 q16 q17 q18 q19 q20 q21 q22 p29 p30 p31 p32 : Pos} {k0 : Nat}
/-- the cell that bears the list of what is to be left out -/
noncomputable def CellOf (h : Heap) (c V : Addr) : Prop := ∃ o, h.get? c = some o ∧ o.data = .cell (some (.ref V))
theorem CellOf.keep {h h' : Heap} (C : CellOf h c V) (k : ∀ b o, h.get? b = some o → h'.get? b = some o) : CellOf h' c V := by
  obtain ⟨o, e, d⟩ := C
  exact ⟨o, k _ _ e, d⟩
theorem leave_name {Q : Value → Shared → Prop} (hk : cenv.scope.kind = .function) (hx : cenv.kindOf (Str.ofString "leave") = some .cell) (hc : cenv.cells.lookup (Str.ofString "leave") = some c) (C : CellOf s.heap c V) (h : Q (.ref V) s) :
    wpAny (model prog w) A (eval (.Name (Str.ofString "leave") q1) cenv) Q E s := wpAny_Name (wpAny_loadName_cell hk hx hc C h) (by decide)
theorem test_notin {m₃ : Str → Option Value} {arr : Array Value} {wh : Sem Value} (hk : cenv.scope.kind = .function) (hl : cenv.scope.names.lookup (Str.ofString "word") = some .local) (hx : cenv.kindOf (Str.ofString "leave") = some .cell) (hc : cenv.cells.lookup (Str.ofString "leave") = some c) (C : CellOf s.heap c V)
    (hV : s.heap.IsList V arr) (hs : StrsAre arr.toList ls) (hn : s.heap.Ns cenv.locals m₃) (hm : m₃ (Str.ofString "word") = some (.str y t)) :
    wpAny (model prog w) A (isTrue (.Compare (.Name (Str.ofString "word") q2) [.NotIn] [.Name (Str.ofString "leave") q3] q4) cenv wh) (fun ok s₄ => ok = (!ls.any (· == y)) ∧ Keeps s s₄) E s :=
  wpAny_isTrue_Compare1 (ldG hn hm (leave_name hk hx hc C (notin_list_strs (vs := arr.toList) hV hs (wpAny_truthy_bool ⟨rfl, keeps_rfl _⟩))) hk hl)
theorem test_goes {m₃ : Str → Option Value} {arr : Array Value} {wh : Sem Value} (hk : cenv.scope.kind = .function) (hl : cenv.scope.names.lookup (Str.ofString "word") = some .local) (hx : cenv.kindOf (Str.ofString "leave") = some .cell) (hc : cenv.cells.lookup (Str.ofString "leave") = some c) (C : CellOf s.heap c V)
    (hV : s.heap.IsList V arr) (hs : StrsAre arr.toList ls) (hn : s.heap.Ns cenv.locals m₃) (hm : m₃ (Str.ofString "word") = some (.str y t)) (X : (Mine.hd.heap_39 w.params).In s.heap) (T : TopRead p loose mg mb s.heap) (hroom : A.depth + 20 < recursionLimit)
    (hrd : rdA (Mine.hd.heap_39 w.params) ⟨prog, w.params⟩ (fun v => v = .ref 822) (eval (.Name (Str.ofString "_law_goes") q5) cenv)) :
    wpAny (model prog w) A (isTrue (.UnaryOp .Not (.Call (.Name (Str.ofString "_law_goes") q5) [.Name (Str.ofString "word") q2, .Name (Str.ofString "leave") q3] [] q4) q6) cenv wh) (fun ok s₄ => ok = (!goes ls y) ∧ Keeps s s₄) E s := by
  refine isTrue_not (isTrue_plain (Call_Name rfl (wp_of_rdA _ X hrd fun f e => ?_)))
  subst e
  refine callWith_K X (ki_goes w) (spliced_more (ldG hn hm (spliced_more (leave_name hk hx hc C (spliced_none ⟨X, ?_⟩))) hk hl)) rfl rfl
  exact law_goes (vs := arr.toList) X T (by omega) hV hs fun s' k => wpAny_truthy_bool ⟨rfl, k⟩
theorem law_if7 {Q : Flow → Shared → Prop} (he : env = envX cn cs L ca ccd cl) (SC : LawSc cs) (F : Fr g L s.heap m) (N : News g L s.heap ((790, po) :: own)) (hd : ∀ q ∈ own, q.1 ≠ 790) (hpo : PlOk #[] po) (X : (Mine.hd.heap_39 w.params).In g) (T : TopRead p loose mg mb g) (Bm : BMod g mainGlobals mg bm ob) (hroom : A.depth + 100 < recursionLimit) (hh : A.handled = none)
    (hA : A.frames = some [env]) (hu : A.units + 64 < cLine) (hG : AllBare s.gens)
    (m2 : m (Str.ofString "words") = some (.ref W)) (m3 : m (Str.ofString "skip") = some (.ref S2)) (m4 : m (Str.ofString "kept") = some (.ref Kp))
    (tw : TL own W ws) (tk : TL own Kp (keptOf ls ws)) (hS : ∀ g', (∀ q ∈ own, g'.get? q.1 = some q.2) → Skip g' S2 id ls) (hw7 : ∀ y ∈ ws, y ∈ words7) (hn : ws.length ≤ 100)
    (h1 : Toks ⟨false, (lineA (keptOf ls ws)).cps.toList⟩ (keptOf ls ws))
    (hQ : ∀ s' po' own', Fr g L s'.heap m → News g L s'.heap ((790, po') :: own') → (∀ q ∈ own, q ∈ own') → PlOk #[] po' → AllBare s'.gens → s'.os = s.os → Q .next s') :
    wpAny (model prog w) A (exec (.If (.BoolOp .Or [.Compare (.Call (.Name (Str.ofString "split") q1) [.Call (.Name (Str.ofString "join_shlex") q2) [.Call (.Name (Str.ofString "_filter") q3) [.Name (Str.ofString "words") q4, .Name (Str.ofString "skip") q5] [] q6] [] q7] [] q8) [.NotEq] [.Name (Str.ofString "kept") q9] q10,
      .Compare (.Call (.Name (Str.ofString "_filter") q11) [.Name (Str.ofString "kept") q12, .Name (Str.ofString "skip") q13] [] q14) [.NotEq] [.Name (Str.ofString "kept") q15] q16,
      .Compare (.Call (.Name (Str.ofString "_filter") q17) [.Name (Str.ofString "words") q18, .Name (Str.ofString "words") q19] [] q20) [.NotEq] [.List [] q21] q22] p29) [.Return (some (.Constant (.bool false) k0 p30)) p31] [] p32) env) Q E s := by
  subst he
  have ok : ∀ y ∈ ws, PyData.strOk y = true := fun y hy => words_ok (hw7 y hy)
  have okk : ∀ y ∈ keptOf ls ws, PyData.strOk y = true := fun y hy => ok y (mem_kept hy)
  have hlk : (keptOf ls ws).length ≤ ws.length := List.length_filter_le _ _
  have hk7 : ∀ y ∈ keptOf ls ws, y ∈ words7 := fun y hy => hw7 y (mem_kept hy)
  have hfo : (envX cn cs L ca ccd cl).frame = some L := rfl
  have hko : (envX cn cs L ca ccd cl).scope.kind ≠ .module := SC.plain
  refine wpAny_If (isTrue_or (wpAny_isTrue_Compare1 (q_call1 F X T (ns_split w) (ki_split w) SC.k SC.split (q_call1 F X T (ns_join w) (ki_join w) SC.k SC.join (q_call2 F X T (ns_filter w) (ki_filter w) SC.k SC.filter (nameX_L F m2 (nameX_L F m3 ⟨⟨_, F⟩, t_filter F N tw.tail (fun g' hg => hS g' fun q hq => hg q (List.mem_cons_of_mem _ hq)) X T hroom hh hA hfo hko (by omega) fun D1 h1' tk1 o1 F1 N1 d1 t1 => ?_⟩ SC.k SC.skip) SC.k SC.words))))))
  have N1' : News g L h1' ((790, po) :: (D1, o1) :: own) := fun q hq => N1 q (by
    simp only [List.mem_cons] at hq ⊢
    rcases hq with h | h | h
    · exact .inr (.inl h)
    · exact .inl h
    · exact .inr (.inr h))
  have t1' : TL ((D1, o1) :: own) D1 (keptOf ls ws) := by
    obtain ⟨arr, k, hm, hs⟩ := t1
    refine ⟨arr, k, ?_, hs⟩
    rcases List.mem_cons.mp hm with h | h
    · exact h ▸ List.Mem.head _
    · exact absurd rfl (d1 _ h)
  have hd1 : ∀ q ∈ (D1, o1) :: own, q.1 ≠ 790 := fun q hq => by
    rcases List.mem_cons.mp hq with rfl | hq
    · exact fun e => d1 _ (List.Mem.head _) e.symm
    · exact hd q hq
  refine ⟨⟨_, F1⟩, t_join (s := { s with heap := h1', toks := tk1 }) F1 N1' hd1 hpo t1' X T Bm hroom hh hG hk7 (by omega) fun s2 t2 po2 F2 N2 P2 G2 o2 => ⟨⟨_, F2⟩, ?_⟩⟩
  refine t_split F2 N2 X T hroom hh hA hfo hko ?_ (by omega) h1 fun D3 h3 tk3 o3 F3 N3 d3 t3 => ?_
  · exact Nat.le_trans (line_len (fun y hy => quoted_len (hk7 y hy)) (by decide +kernel) (by omega)) (by decide)
  have tw3 := (tw.tail (q := (D1, o1))).tail (q := (790, po2)) |>.tail (q := (D3, o3))
  have tk3' := (tk.tail (q := (D1, o1))).tail (q := (790, po2)) |>.tail (q := (D3, o3))
  have sub3 : ∀ q ∈ own, q ∈ (D3, o3) :: (790, po2) :: (D1, o1) :: own := fun q hq => List.mem_cons_of_mem _ (List.mem_cons_of_mem _ (List.mem_cons_of_mem _ hq))
  refine nameX_L F3 m4 (t_ne N3 t3 tk3' okk okk hu (wpAny_truthy_bool ?_)) SC.k SC.kept
  rw [decide_eq_true (rfl : keptOf ls ws = keptOf ls ws)]
  refine if_ff (isTrue_or (wpAny_isTrue_Compare1 (q_call2 F3 X T (ns_filter w) (ki_filter w) SC.k SC.filter (nameX_L F3 m4 (nameX_L F3 m3 ⟨⟨_, F3⟩, t_filter F3 N3 tk3' (fun g' hg => hS g' fun q hq => hg q (sub3 q hq)) X T hroom hh hA hfo hko (by omega) fun D4 h4 tk4 o4 F4 N4 d4 t4 => ?_⟩ SC.k SC.skip) SC.k SC.kept))))
  rw [kept_kept] at t4
  refine nameX_L F4 m4 (t_ne N4 t4 tk3'.tail okk okk hu (wpAny_truthy_bool ?_)) SC.k SC.kept
  rw [decide_eq_true (rfl : keptOf ls ws = keptOf ls ws)]
  refine if_ff (isTrue_or (wpAny_isTrue_Compare1 (q_call2 F4 X T (ns_filter w) (ki_filter w) SC.k SC.filter (nameX_L F4 m2 (nameX_L F4 m2 ⟨⟨_, F4⟩, t_filter F4 N4 tw3.tail (t_skipL tw3.tail) X T hroom hh hA hfo hko (by omega) fun D5 h5 tk5 o5 F5 N5 d5 t5 => ?_⟩ SC.k SC.words) SC.k SC.words))))
  rw [kept_self] at t5
  refine List_ (spliced_none (t_new F5 N5 .nil (by decide) fun D6 h6 o6 F6 N6 d6 t6 => ?_))
  refine t_ne N6 t5.tail t6 (fun y hy => nomatch hy) (fun y hy => nomatch hy) hu (wpAny_truthy_bool ?_)
  rw [decide_eq_true (rfl : ([] : List Str) = [])]
  refine if_ff (isTrue_or_nil (if_ff (wpAny_execs_nil ?_)))
  refine hQ _ po2 ((D6, o6) :: (D5, o5) :: (D4, o4) :: (D3, o3) :: (D1, o1) :: own) F6 (fun q hq => N6 q ?_) (fun q hq => ?_) P2 G2 o2
  · simp only [List.mem_cons] at hq ⊢
    rcases hq with h | h | h | h | h | h | h
    · exact .inr (.inr (.inr (.inr (.inl h))))
    · exact .inl h
    · exact .inr (.inl h)
    · exact .inr (.inr (.inl h))
    · exact .inr (.inr (.inr (.inl h)))
    · exact .inr (.inr (.inr (.inr (.inr (.inl h)))))
    · exact .inr (.inr (.inr (.inr (.inr (.inr h)))))
  · exact List.mem_cons_of_mem _ (List.mem_cons_of_mem _ (List.mem_cons_of_mem _ (List.mem_cons_of_mem _ (List.mem_cons_of_mem _ hq))))
end
end Mine
end
section
open PySem PySem.W PyProof.Rows PySem.Calls PySem.Spec
set_option maxRecDepth 100000
namespace Mine
section
variable {prog : Program} {w : World} {A : Around} {s : Shared} {E : Value → Shared → Prop} {p : Program} {loose : List Str} {mg mb : Str → Option Value} {g : Heap} {L W V S2 Kp Wr c : Addr} {m : Str → Option Value} {own : List (Addr × Obj)} {ws ls us : List Str} {id : String}
  {ca : Addr} {cn : Str} {cs csc csd : Scope} {ccd : Value} {cl cl' cl'' : List (Str × Addr)} {env cenv : Env} {B y : Str} {t : Tok}
  {q1 q2 q3 q4 q5 q6 q7 q8 q9 q10 q11 q12 q13 q14 q15 q16 q17 q18 q19 q20 q21 q22 p29 p30 p31 p32 : Pos} {k0 : Nat}
theorem law_if9 {Q : Flow → Shared → Prop} (he : env = envX cn cs L ca ccd cl) (SC : LawSc cs) (hlv : cs.names.lookup (Str.ofString "leave") = some .cell) (hcc : cl.lookup (Str.ofString "leave") = some c) (C : CompSc csc cl' (Str.ofString "word") env) (C' : CompSc csd cl'' (Str.ofString "word") env)
    (hrd : ∀ D, rdA (Mine.hd.heap_39 w.params) ⟨prog, w.params⟩ (fun v => v = .ref 803) (eval (.Name (Str.ofString "quote") q3) (compEnvC csc cl' D env))) (hrd' : ∀ D, rdA (Mine.hd.heap_39 w.params) ⟨prog, w.params⟩ (fun v => v = .ref 803) (eval (.Name (Str.ofString "quote") q10) (compEnvC csd cl'' D env)))
    (F : Fr g L s.heap m) (N : News g L s.heap own) (X : (Mine.hd.heap_39 w.params).In g) (T : TopRead p loose mg mb g) (hroom : A.depth + 100 < recursionLimit) (hh : A.handled = none)
    (hA : A.frames = some [env]) (hu : A.units + 64 < cLine) (m4 : m (Str.ofString "kept") = some (.ref Kp)) (m5 : m (Str.ofString "written") = some (.ref Wr)) (hC : CellOf s.heap c V)
    (tr : TL own Wr (ws.map quoted)) (tk : TL own Kp (keptOf ls ws)) (tv : TL own V ls) (hw7 : ∀ y ∈ ws, y ∈ words7) (hl7 : ∀ y ∈ ls, y ∈ words7) (hn : ws.length ≤ 100) (hl : ls.length ≤ 100)
    (hQ : ∀ h' tk' own', Fr g L h' m → News g L h' own' → (∀ q ∈ own, q ∈ own') → Q .next { s with heap := h', toks := tk' }) :
    wpAny (model prog w) A (exec (.If (.Compare (.Call (.Name (Str.ofString "_filter") q1) [.Name (Str.ofString "written") q2, .ListComp (.Call (.Name (Str.ofString "quote") q3) [.Name (Str.ofString "word") q4] [] q5) [⟨.Name (Str.ofString "word") q6, .Name (Str.ofString "leave") q7, [], 0⟩] csc q8] [] q9) [.NotEq] [.ListComp (.Call (.Name (Str.ofString "quote") q10) [.Name (Str.ofString "word") q11] [] q12) [⟨.Name (Str.ofString "word") q13, .Name (Str.ofString "kept") q14, [], 0⟩] csd q15] q16) [.Return (some (.Constant (.bool false) k0 p30)) p31] [] p32) env) Q E s := by
  subst he
  have hk7 : ∀ y ∈ keptOf ls ws, y ∈ words7 := fun y hy => hw7 y (mem_kept hy)
  have hlk : (keptOf ls ws).length ≤ ws.length := List.length_filter_le _ _
  have okq : ∀ y ∈ (keptOf ls ws).map quoted, PyData.strOk y = true := fun y hy => by
    obtain ⟨z, hz, rfl⟩ := List.mem_map.mp hy
    exact quoted_ok (hk7 z hz)
  have hfo : (envX cn cs L ca ccd cl).frame = some L := rfl
  have hko : (envX cn cs L ca ccd cl).scope.kind ≠ .module := SC.plain
  refine wpAny_If (wpAny_isTrue_Compare1 (q_call2 F X T (ns_filter w) (ki_filter w) SC.k SC.filter (nameX_L F m5 (ce_words C F N tv X T hroom hh (by omega) (fun Q' hQ' => leave_name SC.k hlv hcc hC hQ') hrd (ki_quote w) (by decide +kernel) (fun y hy => quoted_all (hl7 y hy)) fun D1 h1 tk1 o1 F1 N1 d1 t1 => ⟨⟨_, F1⟩, t_filter (s := { s with heap := h1, toks := tk1 }) F1 N1 tr.tail (t_skipL t1) X T hroom hh hA hfo hko (by rw [List.length_map]; omega) fun D2 h2 tk2 o2 F2 N2 d2 t2 => ?_⟩) SC.k SC.written)))
  rw [kept_quoted hl7 hw7] at t2
  refine ce_words (s := { s with heap := h2, toks := tk2 }) C' F2 N2 tk.tail.tail X T hroom hh (by omega) (fun Q' hQ' => nameX_L (s := { s with heap := h2, toks := tk2 }) F2 m4 hQ' SC.k SC.kept) hrd' (ki_quote w) (by decide +kernel) (fun y hy => quoted_all (hk7 y hy)) fun D3 h3 tk3 o3 F3 N3 d3 t3 => ?_
  refine t_ne (s := { s with heap := h3, toks := tk3 }) N3 t2.tail t3 okq okq hu (wpAny_truthy_bool ?_)
  rw [decide_eq_true (rfl : (keptOf ls ws).map quoted = (keptOf ls ws).map quoted)]
  exact if_ff (wpAny_execs_nil (hQ h3 tk3 _ F3 N3 fun q hq => List.mem_cons_of_mem _ (List.mem_cons_of_mem _ (List.mem_cons_of_mem _ hq))))
theorem law_ret {Q : Flow → Shared → Prop} (he : env = envX cn cs L ca ccd cl) (SC : LawSc cs) (hlv : cs.names.lookup (Str.ofString "leave") = some .cell) (hcc : cl.lookup (Str.ofString "leave") = some c) (C : CompSc csc cl' (Str.ofString "word") env) (C' : CompSc csd cl'' (Str.ofString "word") env)
    (hrd : ∀ D, rdA (Mine.hd.heap_39 w.params) ⟨prog, w.params⟩ (fun v => v = .ref 803) (eval (.Name (Str.ofString "quote") q3) (compEnvC csc cl' D env))) (hrd' : ∀ D, rdA (Mine.hd.heap_39 w.params) ⟨prog, w.params⟩ (fun v => v = .ref 822) (eval (.Name (Str.ofString "_law_goes") q13) (compEnvC csd cl'' D env)))
    (hlc : (relabel csd env).names.lookup (Str.ofString "leave") = some .cell) (hcd : cl''.lookup (Str.ofString "leave") = some c)
    (F : Fr g L s.heap m) (N : News g L s.heap own) (X : (Mine.hd.heap_39 w.params).In g) (T : TopRead p loose mg mb g) (hroom : A.depth + 100 < recursionLimit) (hh : A.handled = none)
    (hA : A.frames = some [env]) (hu : A.units + 64 < cLine) (m2 : m (Str.ofString "words") = some (.ref W)) (hm : ∃ o, (c, o) ∈ own ∧ o.data = .cell (some (.ref V)))
    (tw : TL own W ws) (tv : TL own V ls) (hw7 : ∀ y ∈ ws, y ∈ words7) (hl7 : ∀ y ∈ ls, y ∈ words7) (hn : ws.length ≤ 100) (hl : ls.length ≤ 100)
    (hQ : ∀ h' tk' own', Fr g L h' m → News g L h' own' → (∀ q ∈ own, q ∈ own') → Q (.ret (.bool true)) { s with heap := h', toks := tk' }) :
    wpAny (model prog w) A (exec (.Return (some (.Compare (.Call (.Name (Str.ofString "_filter") q1) [.Name (Str.ofString "words") q2, .ListComp (.Call (.Name (Str.ofString "quote") q3) [.Name (Str.ofString "word") q4] [] q5) [⟨.Name (Str.ofString "word") q6, .Name (Str.ofString "leave") q7, [], 0⟩] csc q8] [] q9) [.Eq]
      [.ListComp (.Name (Str.ofString "word") q10) [⟨.Name (Str.ofString "word") q11, .Name (Str.ofString "words") q12, [.UnaryOp .Not (.Call (.Name (Str.ofString "_law_goes") q13) [.Name (Str.ofString "word") q14, .Name (Str.ofString "leave") q15] [] q16) q17], 0⟩] csd q18] q19)) q20) env) Q E s := by
  subst he
  have hC : CellOf s.heap c V := by
    obtain ⟨o, hm, hd⟩ := hm
    exact ⟨o, (N _ hm).1, hd⟩
  have hfo : (envX cn cs L ca ccd cl).frame = some L := rfl
  have hko : (envX cn cs L ca ccd cl).scope.kind ≠ .module := SC.plain
  refine wpAny_Return_some (wpAny_Compare1 (q_call2 F X T (ns_filter w) (ki_filter w) SC.k SC.filter (nameX_L F m2 (ce_words C F N tv X T hroom hh (by omega) (fun Q' hQ' => leave_name SC.k hlv hcc hC hQ') hrd (ki_quote w) (by decide +kernel) (fun y hy => quoted_all (hl7 y hy)) fun D1 h1 tk1 o1 F1 N1 d1 t1 => ⟨⟨_, F1⟩, t_filter (s := { s with heap := h1, toks := tk1 }) F1 N1 tw.tail (t_skipL t1) X T hroom hh hA hfo hko (by omega) fun D2 h2 tk2 o2 F2 N2 d2 t2 => ?_⟩) SC.k SC.words)))
  have hC2 : CellOf h2 c V := by
    obtain ⟨o, hm, hd⟩ := hm
    exact ⟨o, (N2 _ (List.mem_cons_of_mem _ (List.mem_cons_of_mem _ hm))).1, hd⟩
  obtain ⟨av, lv, iv⟩ := (tv.tail (q := (D1, o1))).tail (q := (D2, o2)) |>.isList N2
  refine ce_keep (s := { s with heap := h2, toks := tk2 }) (q := fun y => !goes ls y) C' F2 N2 tw.tail.tail hh (by omega) (fun Q' hQ' => nameX_L (s := { s with heap := h2, toks := tk2 }) F2 m2 hQ' SC.k SC.words) (by decide +kernel) (fun D y t s₃ m₃ E' hy hns hm₃ k => ?_) fun D3 h3 tk3 o3 F3 N3 d3 t3 => ?_
  · refine test_goes C'.kind (lookup_relabel_local C'.x) hlc hcd (hC2.keep k) ?_ iv hns hm₃ ((X.keeps F2.keep).keeps k) ((T.keeps F2.keep).keeps k) (by omega) (hrd' D)
    obtain ⟨o, ho, r⟩ := lv
    exact ⟨o, k _ _ ho, r⟩
  rw [← kept_goes hl7 hw7] at t3
  have ok : ∀ y ∈ keptOf (ls.map quoted) ws, PyData.strOk y = true := fun y hy => words_ok (hw7 y (mem_kept hy))
  refine t_eq (s := { s with heap := h3, toks := tk3 }) N3 t2.tail t3 ok ok hu ?_
  rw [decide_eq_true (rfl : keptOf (ls.map quoted) ws = keptOf (ls.map quoted) ws)]
  exact hQ h3 tk3 _ F3 N3 fun q hq => List.mem_cons_of_mem _ (List.mem_cons_of_mem _ (List.mem_cons_of_mem _ hq))
end
end Mine
end
section
open PySem PySem.W PyProof.Rows PySem.Calls PySem.Spec
set_option maxRecDepth 100000
namespace Mine
section
variable {prog : Program} {w : World} {A : Around} {s : Shared} {E : Value → Shared → Prop} {g : Heap} {L V c : Addr} {m : Str → Option Value} {own : List (Addr × Obj)} {ls : List Str} {o : Obj} {v : Value} {v₀ : Option Value} {x : Str}
  {ca : Addr} {cn : Str} {cs : Scope} {ccd : Value} {cl : List (Str × Addr)}
theorem store_cell {Q : Unit → Shared → Prop} (keep : List (Addr × Obj)) (F : Fr g L s.heap m) (N : News g L s.heap own) (hc : cl.lookup x = some c) (hm : (c, o) ∈ own) (hd : o.data = .cell v₀) (hk : ∀ q ∈ keep, q ∈ own) (hne : ∀ q ∈ keep, q.1 ≠ c)
    (hs : cs.kind = .function) (hx : (envX cn cs L ca ccd cl).kindOf x = some .cell)
    (h : ∀ h' o' c', cl.lookup x = some c' → (∀ q ∈ keep, q.1 ≠ c') → Fr g L h' m → News g L h' ((c', o') :: keep) → o'.data = .cell (some v) → Q () { s with heap := h' }) : wpAny (model prog w) A (storeName (envX cn cs L ca ccd cl) x v) Q E s :=
  storeX_C F (news := (c, o) :: keep) (fun q hq => by
    rcases List.mem_cons.mp hq with rfl | hq
    · exact N _ hm
    · exact N _ (hk q hq)) hc (UpdF.head hne) hd (fun h' o' F' N' d' => h h' o' c hc hne F' N' d') hs hx
theorem isList790 {h : Heap} {a : Addr} {xs : Array Value} (hp : h.get? 790 = some { cls := .none, data := .fields #[] }) (hl : h.IsList a xs) : (hideAll h [790]).IsList a xs := by
  obtain ⟨o, e, hc, r⟩ := hl
  refine ⟨o, hideAll_get _ e (fun hm => ?_), hc, r⟩
  rw [List.mem_singleton.mp hm, hp] at e
  rw [← Option.some.inj e] at hc
  cases hc
/-- law's frame behind the statement that makes skip -/
structure SkipSt (g : Heap) (L : Addr) (m : Str → Option Value) (own : List (Addr × Obj)) (po : Obj) (ls : List Str) (s : Shared) (f : Flow) (s' : Shared) : Prop where
  nx : f = .next
  ex : ∃ h' tk own' S2 id, s' = { s with heap := h', toks := tk } ∧ Fr g L h' (fun y => if y = Str.ofString "skip" then some (.ref S2) else m y) ∧ News g L h' ((790, po) :: own') ∧ (∀ q ∈ own, q ∈ own') ∧ (∀ q ∈ own', q.1 ≠ 790) ∧ ∀ g', (∀ q ∈ own', g'.get? q.1 = some q.2) → Skip g' S2 id ls
theorem skip_list {po : Obj} {s₀ : Shared} (F : Fr g L s.heap m) (N : News g L s.heap ((790, po) :: own)) (hd : ∀ q ∈ own, q.1 ≠ 790) (tv : TL own V ls) (hs : cs.kind = .function) (hx : (envX cn cs L ca ccd cl).kindOf (Str.ofString "skip") = some .local)
    (h0 : ∀ h tk, ({ s with heap := h, toks := tk } : Shared) = { s₀ with heap := h, toks := tk } := by intro _ _; rfl) :
    wpAny (model prog w) A (storeName (envX cn cs L ca ccd cl) (Str.ofString "skip") (.ref V)) (fun _ s' => SkipSt g L m own po ls s₀ .next s') E s :=
  storeX_L F N (fun h' F' N' => ⟨rfl, h', s.toks + 1, own, V, _, h0 _ _, F', N', fun _ h => h, hd, t_skipL tv⟩) hs hx
theorem skip_tuple {po : Obj} {s₀ : Shared} (hpo : PlOk #[] po) (F : Fr g L s.heap m) (N : News g L s.heap ((790, po) :: own)) (hd : ∀ q ∈ own, q.1 ≠ 790) (tv : TL own V ls) (hn : ls.length ≤ 100) (hs : cs.kind = .function) (hx : (envX cn cs L ca ccd cl).kindOf (Str.ofString "skip") = some .local)
    (h0 : ∀ h tk, ({ s with heap := h, toks := tk } : Shared) = { s₀ with heap := h, toks := tk } := by intro _ _; rfl) :
    wpAny (model prog w) A (call (.type "tuple") [.ref V]) (fun v s₁ => wpAny (model prog w) A (storeName (envX cn cs L ca ccd cl) (Str.ofString "skip") v) (fun _ s' => SkipSt g L m own po ls s₀ .next s') E s₁) E s := by
  obtain ⟨arr, la, ia⟩ := tv.tail.isList N
  have e := ia.len_eq
  refine tuple_ofL (vs := arr.toList) F N la (fun D h' F' N' k => ?_) (by rw [e, sizeLine_eq]; omega)
  have dD : D ≠ 790 := fun e => by
    have h1 := (N' _ (List.mem_cons_of_mem _ (List.Mem.head _))).1
    have h2 := (N' _ (List.Mem.head _)).1
    obtain ⟨more, hpe, _⟩ := hpo
    have h3 : h'.get? 790 = some po := h1
    have h4 : h'.get? D = _ := h2
    rw [e, h3, hpe] at h4
    have := congrArg Obj.cls (Option.some.inj h4)
    cases this
  refine storeX_L (s := { s with heap := h' }) F' N' (fun h2 F2 N2 => ⟨rfl, h2, s.toks + 1, (D, { cls := .type "tuple", data := .seq arr.toList.toArray }) :: own, D, _, h0 _ _, F2, fun q hq => N2 q ?_, fun _ h => List.mem_cons_of_mem _ h, fun q hq => ?_, t_skipT (List.Mem.head _) (by simpa using ia)⟩) hs hx
  · simp only [List.mem_cons] at hq ⊢
    rcases hq with h | h | h
    · exact .inr (.inl h)
    · exact .inl h
    · exact .inr (.inr h)
  · rcases List.mem_cons.mp hq with rfl | hq
    · exact dD
    · exact hd q hq
theorem skip_cut {M : Model} {A : Around} {E : Value → Shared → Prop} {Q : Flow → Shared → Prop} {st : Stmt} {rest : List Stmt} {env : Env} {po : Obj} (ls : List Str) (_F : Fr g L s.heap m) (_N : News g L s.heap ((790, po) :: own))
    (h : wpAny M A (exec st env) (fun f s' => SkipSt g L m own po ls s f s') E s)
    (hk : ∀ h' tk own' S2 id, Fr g L h' (fun y => if y = Str.ofString "skip" then some (.ref S2) else m y) → News g L h' ((790, po) :: own') → (∀ q ∈ own, q ∈ own') → (∀ q ∈ own', q.1 ≠ 790) → (∀ g', (∀ q ∈ own', g'.get? q.1 = some q.2) → Skip g' S2 id ls) → wpAny M A (execs rest env) Q E { s with heap := h', toks := tk }) :
    wpAny M A (execs (st :: rest) env) Q E s := by
  refine wpAny_execs_cons (wpAny_mono h (fun f s' hf => ?_) fun _ _ e => e)
  obtain ⟨rfl, h', tk, own', S2, id, rfl, F', N', hs, hd, hS⟩ := hf
  exact hk h' tk own' S2 id F' N' hs hd hS
end
theorem words_pack {vs : List Value} {ns : List Int} {own : List (Addr × Obj)} {D D2 : Addr} {ys ys2 : Array Value} {c c2 : Nat} (hI : IntsAre vs ns) (hlen : ns.length ≤ 16) (hne : ns ≠ []) (m1 : (D, ListObj ys c) ∈ own) (m2 : (D2, ListObj ys2 c2) ∈ own)
    (hP : Paired (fun v z => ∃ x t t', v = Value.int x t ∧ z = .str (menu x) t') (vs.toArray.toList.filter fun _ => true) ys.toList)
    (hP2 : Paired (fun v z => ∃ x t t', v = Value.int x t ∧ z = .str (menu x) t') (vs.toArray.toList.filter fun v => match v with | .int x _ => (x.fdiv 7).fmod 2 == 1 | _ => false) ys2.toList) :
    ∃ ws ls, TL own D ws ∧ TL own D2 ls ∧ (∀ y ∈ ws, y ∈ words7) ∧ (∀ y ∈ ls, y ∈ words7) ∧ ws.length ≤ 16 ∧ ls.length ≤ 16 ∧ ws ≠ [] := by
  have a1 := paired_ints (q := fun _ => true) (fun _ _ => rfl) hP hI
  have a2 := paired_ints (q := fun x => (x.fdiv 7).fmod 2 == 1) (fun _ _ => rfl) hP2 hI
  have e1 : ns.filter (fun _ => true) = ns := List.filter_eq_self.mpr fun _ _ => rfl
  rw [e1] at a1
  refine ⟨_, _, ⟨ys, c, m1, a1⟩, ⟨ys2, c2, m2, a2⟩, fun y hy => ?_, fun y hy => ?_, ?_, ?_, ?_⟩
  · obtain ⟨x, _, rfl⟩ := List.mem_map.mp hy; exact menu_mem x
  · obtain ⟨x, _, rfl⟩ := List.mem_map.mp hy; exact menu_mem x
  · rw [List.length_map]; exact hlen
  · rw [List.length_map]; exact Nat.le_trans (List.length_filter_le _ _) hlen
  · exact fun e => hne (List.map_eq_nil_iff.mp e)
end Mine
end
section
open PySem PySem.W PyProof.Rows PySem.Calls PySem.Spec
set_option maxRecDepth 100000
namespace Mine
section
variable {ws : List Str}
theorem lineA_cps (ws : List Str) : (lineA ws).cps.toList = lineOf quoted [32] ws := by
  unfold lineA
  rw [txt_line, sep1]
theorem lineB_cps (ws : List Str) : (lineB ws).cps.toList = lineOf marked' [32, 32] ws := by
  unfold lineB
  rw [txt_line, sep2]
theorem toksA (h : ∀ y ∈ ws, y ∈ words7) : Toks ⟨false, (lineA ws).cps.toList⟩ ws := by
  rw [lineA_cps]
  exact toks_line1 fun y hy => rb_q (h y hy)
theorem toksB (h : ∀ y ∈ ws, y ∈ words7) : Toks ⟨false, (lineB ws).cps.toList⟩ ws := by
  rw [lineB_cps]
  exact toks_line2 fun y hy => rb_m (h y hy)
theorem twice_cps (B : Str) : (B ++ Str.ofString " " ++ B).cps.toList = B.cps.toList ++ 32 :: B.cps.toList := by
  show (B.cps ++ (Str.ofString " ").cps ++ B.cps).toList = _
  rw [Array.toList_append, Array.toList_append, sep1, List.append_assoc]; rfl
theorem toksAA (h : ∀ y ∈ ws, y ∈ words7) (h0 : ws ≠ []) : Toks ⟨false, (lineA ws ++ Str.ofString " " ++ lineA ws).cps.toList⟩ (ws ++ ws) := by
  rw [twice_cps]
  have t := toksA h
  rw [lineA_cps] at t ⊢
  exact toks_app1 t h0 fun y hy => rb_q (h y hy)
theorem toksBB (h : ∀ y ∈ ws, y ∈ words7) (h0 : ws ≠ []) : Toks ⟨false, (lineB ws ++ Str.ofString " " ++ lineB ws).cps.toList⟩ (ws ++ ws) := by
  rw [twice_cps]
  have t := toksB h
  rw [lineB_cps] at t ⊢
  exact toks_app2 t h0 fun y hy => rb_m (h y hy)
theorem lineA_len (h : ∀ y ∈ ws, y ∈ words7) (hn : ws.length ≤ 100) : (lineA ws).length ≤ 2200 := line_len (fun y hy => quoted_len (h y hy)) (by decide +kernel) hn
theorem lineB_len (h : ∀ y ∈ ws, y ∈ words7) (hn : ws.length ≤ 100) : (lineB ws).length ≤ 2200 := line_len (fun y hy => marked_len (h y hy)) (by decide +kernel) hn
theorem news_tail {g h : Heap} {L : Addr} {q : Addr × Obj} {own : List (Addr × Obj)} (N : News g L h (q :: own)) : News g L h own := fun z hz => N z (List.mem_cons_of_mem _ hz)
theorem news_swap {g h : Heap} {L : Addr} {q r : Addr × Obj} {own : List (Addr × Obj)} (N : News g L h (q :: r :: own)) : News g L h (r :: q :: own) := fun z hz => N z (by
  simp only [List.mem_cons] at hz ⊢
  rcases hz with h | h | h
  · exact .inr (.inl h)
  · exact .inl h
  · exact .inr (.inr h))
theorem off_cons {D : Addr} {o po : Obj} {own : List (Addr × Obj)} (hd : ∀ q ∈ own, q.1 ≠ 790) (d : ∀ q ∈ (790, po) :: own, q.1 ≠ D) : ∀ q ∈ (D, o) :: own, q.1 ≠ 790 := fun q hq => by
  rcases List.mem_cons.mp hq with rfl | hq
  · exact fun e => d _ (List.Mem.head _) e.symm
  · exact hd q hq
theorem TL.swap {own : List (Addr × Obj)} {q r : Addr × Obj} {a : Addr} {us : List Str} (h : TL (q :: r :: own) a us) : TL (r :: q :: own) a us := h.sub fun z hz => by
  simp only [List.mem_cons] at hz ⊢
  rcases hz with h | h | h
  · exact .inr (.inl h)
  · exact .inl h
  · exact .inr (.inr h)
/-- the list's own object, without what lies behind it -/
theorem TL.head {own : List (Addr × Obj)} {q : Addr × Obj} {D : Addr} {o : Obj} {us : List Str} (h : TL ((D, o) :: q :: own) D us) (d : q.1 ≠ D) : TL ((D, o) :: own) D us := by
  obtain ⟨arr, c, hm, hs⟩ := h
  refine ⟨arr, c, ?_, hs⟩
  rcases List.mem_cons.mp hm with h | h
  · exact h ▸ List.Mem.head _
  · rcases List.mem_cons.mp h with h | h
    · exact absurd (congrArg Prod.fst h).symm d
    · exact List.mem_cons_of_mem _ h
/-- how law ends -/
structure Done (s₁ : Shared) (s' : Shared) : Prop where
  ex : ∃ m po, Fr (hideAll s₁.heap [790]) s₁.heap.objs.size s'.heap m ∧ s'.heap.get? 790 = some po ∧ PlOk #[] po
  gens : AllBare s'.gens
  os : s'.os = s₁.os
theorem abs_post {M : Model} {A : Around} {t : Sem Flow} {env : Env} {Qk : Flow → Shared → Prop} {Ek : Value → Shared → Prop} {s s₁ : Shared} (hP : PassesOwn M A env Ek) (hf : ∀ s', Done s₁ s' → Qk (.ret (.bool true)) s')
    (h : ∀ (Q : Flow → Shared → Prop) (E : Value → Shared → Prop), (∀ s', Done s₁ s' → Q (.ret (.bool true)) s') → PassesOwn M A env E → wpAny M A t Q E s) : wpAny M A t Qk Ek s := h Qk Ek hf hP
end
end Mine
end
section
open PySem PySem.W PyProof.Rows PySem.Calls PySem.Spec
set_option maxRecDepth 100000
namespace Mine
example : True := by k_with_none; trivial
example : True := by (k_with "L_ONE" => first | (k_unfold; (try dsimp only)) | walk1 | (dsimp only; walk1) | (leave1; walk_say "STEP leave1"; try dsimp only)); trivial
theorem plok0 : PlOk #[] { cls := .none, data := .fields #[] } := ⟨#[], rfl, trivial⟩
theorem news_list {h₀ h : Heap} {L l : Addr} {news : List (Addr × Obj)} {its : Array Value} {n : Nat} (N : News h₀ L h news) (hm : (l, PySem.W.listOf its n) ∈ news) : h.IsList l its := ⟨_, (N _ hm).1, rfl, n, rfl⟩
theorem ints_item : ∀ {vs : List Value} {xs : List Int}, IntsAre vs xs → ∀ (i : Nat) v, vs[i]? = some v → ∃ x t, v = .int x t
  | _, _, .nil, i, v, h => by cases h
  | _, _, .cons _ _ r, 0, v, e => by cases e; exact ⟨_, _, rfl⟩
  | _, _, .cons _ _ r, i + 1, v, e => ints_item r i v e
set_option maxHeartbeats 1000000 in
theorem xx : PySem.Challenge.rw_ij0130_01.Holds := by
  refine Mine.hd ?_
  lge_go0
  all_goals (try k_fold)
  rename Frag.In _ _ => KX
  rename Top _ _ _ _ _ _ => T
  have hp := place790 KX T
  have hT0 := table794 KX hp
  rename Shared => sOne
  refine' abs_post (s₁ := sOne) ?aP ?aF fun Q E hQ hE => ?_
  case aP => passes_own
  case aF =>
    rintro s' ⟨⟨m, po, F, hg, P⟩, hG, hO⟩
    refine good790 hT0 F hg P (fun _ => rfl) ?gpost hG hO
    wrow_post
  iterate 34 walk_at "L_ONE"
  rename Fr _ _ _ _ => F1
  rename News _ _ _ _ => N1
  rename IntsAre _ (_ ++ _) => hI1
  rename BMod _ _ _ _ _ => M
  obtain ⟨F, N, hd⟩ := frame790 hp F1 N1
  obtain ⟨X, T'⟩ := base790 hp plok0 KX (topRead_of T) (no790 _)
  have Bm := bmod790 hp plok0 M
  clear F1 N1
  have hScr := isList790 hp (by assumption)
  have hlN := news_list N (List.Mem.tail _ (List.Mem.head _))
  refine' comp_as (p := fun _ => true) (Fp := fun v z => ∃ x t t', v = .int x t ∧ z = .str (menu x) t') F N rfl ?hsw rfl rfl ?hcell rfl ?hnames rfl rfl rfl hlN ?hn ?hit ⟨?tests, ?elt⟩ ?hQ
  case hsw => first | rfl | kernel_rfl
  case hcell => decide
  case hnames => decide
  case hn => rw [List.size_toArray, IntsAre.length hI1, List.length_append]; simp only [List.length_take, List.length_cons, List.length_nil]; omega
  case hit => intro Q hQ; exact ldG F.ns rfl hQ rfl rfl (by decide)
  case tests => intro C i v s₃ m₃ E' _ _ _ _; exact wpAny_pure ⟨rfl, s₃.heap, s₃.toks, rfl, fun _ _ e => e⟩
  case elt =>
    intro C i v s₃ m₃ E' hv _ hns hm k
    obtain ⟨x, t, rfl⟩ := ints_item hI1 i v (by simpa using hv)
    have X₃ := X.keeps (fun b o e => k b o (F.keep b o e))
    have T₃ := T'.keeps (fun b o e => k b o (F.keep b o e))
    refine elt_call (fa := 810) X₃ (cast (α := (Value.ref 810 = Value.ref 810)) (by kernel_rfl) rfl) (by k_is) hns hm rfl rfl (by decide) ?_
    exact law_word X₃ T₃ (by simp only [depth_deeper, depth_caller]; decide) fun s' hk t' => ⟨⟨x, t, t', rfl, rfl⟩, hk⟩
  intro D h' tk ys c F N hdD hP
  clear hlN
  iterate 2 walk_at "L_ONE"
  have hlN := news_list N (List.Mem.tail _ (List.Mem.tail _ (List.Mem.head _)))
  refine' comp_ev (p := fun v => match v with | .int x _ => (x.fdiv 7).fmod 2 == 1 | _ => false) (Fp := fun v z => ∃ x t t', v = .int x t ∧ z = .str (menu x) t') F N rfl ?hclos3 ?hcell3 rfl ?hnames3 rfl hlN ?hn3 ?hit3 ⟨?tests3, ?elt3⟩ ?hQ3
  case hclos3 => first | rfl | kernel_rfl
  case hcell3 => decide
  case hnames3 => decide
  case hn3 => rw [List.size_toArray, IntsAre.length hI1, List.length_append]; simp only [List.length_take, List.length_cons, List.length_nil]; omega
  case hit3 => intro Q hQ; exact ldG F.ns rfl hQ rfl rfl (by decide)
  case tests3 =>
    intro C i v s₃ m₃ E' hv hns hm k
    obtain ⟨x, t, rfl⟩ := ints_item hI1 i v (by simpa using hv)
    exact test_odd hns hm rfl rfl
  case elt3 =>
    intro C i v s₃ m₃ E' hv _ hns hm k
    obtain ⟨x, t, rfl⟩ := ints_item hI1 i v (by simpa using hv)
    have X₃ := X.keeps (fun b o e => k b o (F.keep b o e))
    have T₃ := T'.keeps (fun b o e => k b o (F.keep b o e))
    refine elt_call (fa := 810) X₃ (cast (α := (Value.ref 810 = Value.ref 810)) (by kernel_rfl) rfl) (by k_is) hns hm rfl rfl (by decide) ?_
    exact law_word X₃ T₃ (by simp only [depth_deeper, depth_caller]; decide) fun s' hk t' => ⟨⟨x, t, t', rfl, rfl⟩, hk⟩
  intro D2 h2 tk2 ys2 c2 F N hdD2 hP2
  clear hlN

  refine store_cell [(D2, ListObj ys2 c2), (D, ListObj ys c), (790, { cls := .none, data := .fields #[] })] F N rfl (List.Mem.tail _ (List.Mem.tail _ (List.Mem.tail _ (List.Mem.tail _ (List.Mem.tail _ (List.Mem.tail _ (List.Mem.head _))))))) (by assumption) ?ksub ?kne rfl rfl ?kQ
  case ksub =>
    intro q hq
    simp only [List.mem_cons, List.not_mem_nil, or_false] at hq
    rcases hq with rfl | rfl | rfl
    · exact List.Mem.head _
    · exact List.Mem.tail _ (List.Mem.head _)
    · exact List.Mem.tail _ (List.Mem.tail _ (List.Mem.head _))
  case kne =>
    intro q hq
    simp only [List.mem_cons, List.not_mem_nil, or_false] at hq
    rcases hq with rfl | rfl | rfl
    · exact fun e => hdD2 _ (List.Mem.tail _ (List.Mem.tail _ (List.Mem.tail _ (List.Mem.tail _ (List.Mem.tail _ (List.Mem.head _)))))) e.symm
    · exact fun e => hdD _ (List.Mem.tail _ (List.Mem.tail _ (List.Mem.tail _ (List.Mem.tail _ (List.Mem.head _))))) e.symm
    · exact fun e => hd _ (List.Mem.tail _ (List.Mem.tail _ (List.Mem.tail _ (List.Mem.head _)))) (List.mem_singleton.mpr e.symm)
  intro h3 o3 cc hcc hnc F N hcv
  try dsimp only
  obtain ⟨ws, ls, tw, tv, hw7, hl7, hwn, hln, hw0⟩ := words_pack (own := [(cc, o3), (D2, ListObj ys2 c2), (D, ListObj ys c)]) hI1 (by rw [List.length_append]; simp only [List.length_take, List.length_cons, List.length_nil]; omega) (fun e => by cases (List.append_eq_nil_iff.mp e).2) (List.Mem.tail _ (List.Mem.tail _ (List.Mem.head _))) (List.Mem.tail _ (List.Mem.head _)) hP hP2
  have hd7 : ∀ q ∈ [(cc, o3), (D2, ListObj ys2 c2), (D, ListObj ys c)], q.1 ≠ 790 := by
    intro q hq
    simp only [List.mem_cons, List.not_mem_nil, or_false] at hq
    rcases hq with rfl | rfl | rfl
    · exact fun e => hnc _ (List.Mem.tail _ (List.Mem.tail _ (List.Mem.head _))) e.symm
    · exact fun e => hdD2 _ (List.Mem.tail _ (List.Mem.head _)) e.symm
    · exact fun e => hdD _ (List.Mem.head _) e.symm
  clear hP hP2 hd hdD hdD2
  have N' : News _ _ h3 ((790, ({ cls := .none, data := .fields #[] } : Obj)) :: [(cc, o3), (D2, ListObj ys2 c2), (D, ListObj ys c)]) := fun q hq => N q (by
    simp only [List.mem_cons, List.not_mem_nil, or_false] at hq ⊢
    rcases hq with h | h | h | h
    · exact .inr (.inr (.inr h))
    · exact .inl h
    · exact .inr (.inl h)
    · exact .inr (.inr (.inl h)))
  clear N
  refine skip_cut ls F N' ?sk ?krest
  case sk =>
    iterate 23 walk_at "L_ONE"
    rename Fr _ _ _ _ => F5
    rename News _ _ _ _ => N5
    have N6 := news_tail N5
    have hC6 : CellOf _ cc D2 := ⟨o3, (N6 _ (List.Mem.tail _ (List.Mem.head _))).1, hcv⟩
    split
    · iterate 4 walk_at "L_ONE"
      refine leave_name rfl rfl hcc hC6 ?_
      iterate 1 walk_at "L_ONE"
      exact skip_tuple plok0 F5 N6 hd7 tv (by omega) (by rfl) (by rfl)
    · refine leave_name rfl rfl hcc hC6 ?_
      exact skip_list F5 N6 hd7 tv (by rfl) (by rfl)
  intro h4 tk4 own4 S2 id F4 N4 sub4 hd4 hS4
  have tw4 := tw.sub sub4
  have tv4 := tv.sub sub4
  have hc4 := sub4 _ (List.Mem.head _)
  clear hScr tw tv sub4 F N'
  have hce := Option.some.inj hcc
  subst hce
  have hC4 := (N4 _ (List.mem_cons_of_mem _ hc4)).1
  obtain ⟨av, lv, iv⟩ := tv4.tail.isList N4
  refine' wpAny_execs_cons (ca_keep (q := fun y => !ls.any (· == y)) ⟨?z1, ?z2, rfl, ?z3, rfl⟩ F4 N4 tw4.tail rfl (by omega) rfl ?z4 rfl rfl (fun Q' hQ' => ldG F4.ns rfl hQ' rfl rfl (by decide)) (by decide +kernel) ?z5 ?z6)
  case z1 => first | rfl | kernel_rfl
  case z2 => decide
  case z3 => decide
  case z4 => first | rfl | kernel_rfl
  case z5 =>
    intro C y t s₃ m₃ E' hy hns hm k
    refine test_notin rfl rfl rfl rfl ⟨o3, k _ _ hC4, hcv⟩ ?_ iv hns hm
    obtain ⟨ov, ho, hr⟩ := lv
    exact ⟨ov, k _ _ ho, hr⟩
  intro Dk h5 tk5 ok5 F5 N5 d5 t5
  have tk5 : TL ((Dk, ok5) :: own4) Dk (keptOf ls ws) := TL.head t5 (d5 _ (List.Mem.head _))
  have N5' := news_swap N5
  have hd5 := off_cons (o := ok5) hd4 d5
  have tw5 := tw4.tail (q := (Dk, ok5))
  have tv5 := tv4.tail (q := (Dk, ok5))
  have hc5 := List.mem_cons_of_mem (Dk, ok5) hc4
  have hS5 : ∀ g', (∀ q ∈ (Dk, ok5) :: own4, g'.get? q.1 = some q.2) → Skip g' S2 id ls := fun g' k => hS4 g' fun q hq => k q (List.mem_cons_of_mem _ hq)
  clear t5 N5 hd4 d5 tw4 tv4 hc4 hS4 hC4 lv iv F4 N4
  have ok7 : ∀ y ∈ ws, PyData.strOk y = true := fun y hy => words_ok (hw7 y hy)
  have ne1 : Str.ofString "words" ≠ Str.ofString "line" := by decide +kernel
  have ne2 : Str.ofString "words" ≠ Str.ofString "read" := by decide +kernel
  have ne3 : Str.ofString "skip" ≠ Str.ofString "line" := by decide +kernel
  have ne4 : Str.ofString "skip" ≠ Str.ofString "read" := by decide +kernel
  have ne5 : Str.ofString "kept" ≠ Str.ofString "line" := by decide +kernel
  have ne6 : Str.ofString "kept" ≠ Str.ofString "read" := by decide +kernel
  refine' wpAny_execs_cons (law_for rfl ?a1 ⟨?a2, ?a3, rfl, ?a4, rfl⟩ ?a5 F5 N5' hd5 plok0 X T' Bm ?a6 rfl (AllBare.of_eq (by assumption)) ?a7 rfl rfl tw5 hw7 (by omega) ?a8 ?a9)
  case a1 => constructor <;> rfl
  case a2 => first | rfl | kernel_rfl
  case a3 => decide
  case a4 => decide
  case a5 => intro _; exact (cast (α := (Value.ref 815 = Value.ref 815)) (by kernel_rfl) rfl)
  case a6 => simp only [depth_deeper, depth_caller]; decide
  case a7 => exact hE
  case a8 =>
    intro s' own' m' B t Q' F' N' ml hm' hsub hB hQ'
    have h1 : Toks ⟨false, B.cps.toList⟩ ws := hB.elim (fun e => e ▸ toksA hw7) (fun e => e ▸ toksB hw7)
    have h2 : Toks ⟨false, (B ++ Str.ofString " " ++ B).cps.toList⟩ (ws ++ ws) := hB.elim (fun e => e ▸ toksAA hw7 hw0) (fun e => e ▸ toksBB hw7 hw0)
    have h3 : B.length ≤ 2200 := hB.elim (fun e => e ▸ lineA_len hw7 (by omega)) (fun e => e ▸ lineB_len hw7 (by omega))
    refine' law_turn rfl ?b1 F' N' X T' ?b2 rfl rfl ?b3 ml ((hm' _ ne1 ne2).trans rfl) ((hm' _ ne3 ne4).trans rfl) ((hm' _ ne5 ne6).trans rfl) (tw5.sub hsub) (tk5.sub hsub) (fun g' k => hS5 g' fun q hq => k q (hsub q hq)) h1 h2 (by omega) (by omega) ok7 hQ'
    case b1 => constructor <;> rfl
    case b2 => simp only [depth_deeper, depth_caller]; decide
    case b3 => ke_room
  intro s6 m6 po6 F6 N6 P6 G6 o6 e6
  refine' wpAny_execs_cons (law_if7 rfl ?c1 F6 N6 hd5 P6 X T' Bm ?c2 rfl rfl ?c3 G6 ((e6 _ ne1 ne2).trans rfl) ((e6 _ ne3 ne4).trans rfl) ((e6 _ ne5 ne6).trans rfl) tw5 tk5 hS5 hw7 (by omega) (toksA fun y hy => hw7 y (mem_kept hy)) ?c4)
  case c1 => constructor <;> rfl
  case c2 => simp only [depth_deeper, depth_caller]; decide
  case c3 => ke_room
  intro s7 po7 own7 F7 N7 sub7 P7 G7 o7
  refine' wpAny_execs_cons (ca_words (f := quoted) ⟨?d1, ?d2, rfl, ?d3, rfl⟩ F7 N7 (TL.tail (tw5.sub sub7)) X T' ?d4 rfl (by omega) rfl ?d5 rfl rfl (fun Q' hQ' => ldG F7.ns ((e6 _ ne1 ne2).trans rfl) hQ' rfl rfl (by decide)) ?d6 (ki_quote _) (by decide +kernel) (fun y hy => quoted_all (hw7 y hy)) ?d7)
  case d1 => first | rfl | kernel_rfl
  case d2 => decide
  case d3 => decide
  case d4 => simp only [depth_deeper, depth_caller]; decide
  case d5 => first | rfl | kernel_rfl
  case d6 => intro _; exact (cast (α := (Value.ref 803 = Value.ref 803)) (by kernel_rfl) rfl)
  intro Dw h8 tk8 ow F8 N8 d8 t8
  have hc8 := List.mem_cons_of_mem (Dw, ow) (List.mem_cons_of_mem (790, po7) (sub7 _ hc5))
  have tw8 := TL.tail (q := (Dw, ow)) (TL.tail (q := (790, po7)) (tw5.sub sub7))
  have tk8' := TL.tail (q := (Dw, ow)) (TL.tail (q := (790, po7)) (tk5.sub sub7))
  have tv8 := TL.tail (q := (Dw, ow)) (TL.tail (q := (790, po7)) (tv5.sub sub7))
  refine' wpAny_execs_cons (law_if9 rfl ?f1 rfl rfl ⟨?f2, ?f3, rfl, ?f4, rfl⟩ ⟨?f5, ?f6, rfl, ?f7, rfl⟩ ?f8 ?f9 F8 N8 X T' ?f10 rfl rfl ?f11 ((e6 _ ne5 ne6).trans rfl) rfl ⟨o3, (N8 _ hc8).1, hcv⟩ t8 tk8' tv8 hw7 hl7 (by omega) (by omega) ?f12)
  case f1 => constructor <;> rfl
  case f2 => first | rfl | kernel_rfl
  case f3 => decide
  case f4 => decide
  case f5 => first | rfl | kernel_rfl
  case f6 => decide
  case f7 => decide
  case f8 => intro _; exact (cast (α := (Value.ref 803 = Value.ref 803)) (by kernel_rfl) rfl)
  case f9 => intro _; exact (cast (α := (Value.ref 803 = Value.ref 803)) (by kernel_rfl) rfl)
  case f10 => simp only [depth_deeper, depth_caller]; decide
  case f11 => ke_room
  intro h9 tk9 own9 F9 N9 sub9
  refine' wpAny_execs_cons (law_ret rfl ?g1 rfl rfl ⟨?g2, ?g3, rfl, ?g4, rfl⟩ ⟨?g5, ?g6, rfl, ?g7, rfl⟩ ?g8 ?g9 ?g13 ?g14 F9 N9 X T' ?g10 rfl rfl ?g11 ((e6 _ ne1 ne2).trans rfl) ⟨o3, sub9 _ hc8, hcv⟩ (tw8.sub sub9) (tv8.sub sub9) hw7 hl7 (by omega) (by omega) ?g12)
  case g1 => constructor <;> rfl
  case g2 => first | rfl | kernel_rfl
  case g3 => decide
  case g4 => decide
  case g5 => first | rfl | kernel_rfl
  case g6 => decide
  case g7 => decide
  case g8 => intro _; exact (cast (α := (Value.ref 803 = Value.ref 803)) (by kernel_rfl) rfl)
  case g9 => intro _; exact (cast (α := (Value.ref 822 = Value.ref 822)) (by kernel_rfl) rfl)
  case g10 => simp only [depth_deeper, depth_caller]; decide
  case g11 => ke_room
  case g13 => rfl
  case g14 => rfl
  intro h10 tk10 own10 F10 N10 sub10
  exact hQ _ ⟨⟨_, _, F10, (N10 _ (sub10 _ (sub9 _ (List.mem_cons_of_mem _ (List.Mem.head _))))).1, P7⟩, G7, o7.trans o6⟩
example : True := by k_with_none; trivial
end Mine
end
open PySem PySem.W PyProof.Rows
theorem PySem.Challenge.cw_ij0130_01_holds : PySem.Challenge.rw_ij0130_01.Holds :=
  Mine.xx
